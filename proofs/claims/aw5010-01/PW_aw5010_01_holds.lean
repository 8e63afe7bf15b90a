import PyProof.Rows.All
import Wide.All
import OpenK.AllK
import Wide.FinOn
import Lean
import PySem.Challenge.RW_aw5010_01
set_option Elab.async false
set_option linter.unusedVariables false
namespace Mine

/-! part M0 -/

/-! ## rounding to the nearest, on naturals -/
def bl (a : Nat) : Nat := if a = 0 then 0 else a.log2 + 1
theorem bl_le {a m : Nat} : bl a ≤ m ↔ a < 2 ^ m := by
  unfold bl
  by_cases h : a = 0
  · subst h; simp [Nat.two_pow_pos]
  · rw [if_neg h, ← Nat.log2_lt h]
    exact Nat.succ_le_iff
theorem bl_gt {a m : Nat} : m < bl a ↔ 2 ^ m ≤ a := by
  have := @bl_le a m
  omega
theorem bl_zero : bl 0 = 0 := rfl
theorem bl_mul {a : Nat} (h : 0 < a) (k : Nat) : bl (a * 2 ^ k) = bl a + k := by
  have h1 : bl (a * 2 ^ k) ≤ bl a + k := bl_le.mpr (by
    rw [Nat.pow_add]
    exact Nat.mul_lt_mul_of_pos_right (bl_le.mp (Nat.le_refl _)) (Nat.two_pow_pos k))
  have h0 : 0 < bl a := bl_gt.mpr (by rw [Nat.pow_zero]; exact h)
  have h2 : bl a - 1 + k < bl (a * 2 ^ k) := bl_gt.mpr (by
    rw [Nat.pow_add]
    exact Nat.mul_le_mul_right _ (bl_gt.mp (by omega)))
  omega

/-- a by 2 ^ n, to the nearest, a tie to the even -/
def rq (a n : Nat) : Nat := if 2 ^ n < 2 * (a % 2 ^ n) ∨ (2 * (a % 2 ^ n) = 2 ^ n ∧ a / 2 ^ n % 2 = 1) then a / 2 ^ n + 1 else a / 2 ^ n
theorem rq_near (a n : Nat) : 2 * (rq a n * 2 ^ n) ≤ 2 * a + 2 ^ n ∧ 2 * a ≤ 2 * (rq a n * 2 ^ n) + 2 ^ n := by
  have h := Nat.div_add_mod a (2 ^ n)
  have h1 := Nat.mod_lt a (Nat.two_pow_pos n)
  rw [Nat.mul_comm] at h
  unfold rq
  split
  · rw [Nat.add_mul, Nat.one_mul]
    omega
  · omega
theorem rq_exact (b n : Nat) : rq (b * 2 ^ n) n = b := by
  have hp := Nat.two_pow_pos n
  unfold rq
  rw [Nat.mul_mod_left, Nat.mul_div_left _ hp, if_neg (by omega)]
theorem rq_mono_hi {a n p : Nat} (h : a < 2 ^ (p + n)) : rq a n ≤ 2 ^ p := by
  have : a / 2 ^ n < 2 ^ p := Nat.div_lt_of_lt_mul (by rw [Nat.mul_comm, ← Nat.pow_add]; exact h)
  unfold rq
  split <;> omega
theorem rq_mono_lo {a n p : Nat} (h : 2 ^ (p + n) ≤ a) : 2 ^ p ≤ rq a n := by
  have : 2 ^ p ≤ a / 2 ^ n := (Nat.le_div_iff_mul_le (Nat.two_pow_pos n)).mpr (by rw [← Nat.pow_add]; exact h)
  unfold rq
  split <;> omega
theorem rq_scale (a n k : Nat) : rq (a * 2 ^ k) (n + k) = rq a n := by
  have hk := Nat.two_pow_pos k
  unfold rq
  rw [Nat.pow_add, Nat.mul_div_mul_right _ _ hk, Nat.mul_mod_mul_right, ← Nat.mul_assoc]
  have e1 : (2 ^ n * 2 ^ k < 2 * (a % 2 ^ n) * 2 ^ k) ↔ (2 ^ n < 2 * (a % 2 ^ n)) := ⟨fun h => Nat.lt_of_mul_lt_mul_right h, fun h => Nat.mul_lt_mul_of_pos_right h hk⟩
  have e2 : (2 * (a % 2 ^ n) * 2 ^ k = 2 ^ n * 2 ^ k) ↔ (2 * (a % 2 ^ n) = 2 ^ n) := ⟨fun h => Nat.eq_of_mul_eq_mul_right hk h, fun h => by rw [h]⟩
  simp only [e1, e2]

/-- a to p bits, to the nearest -/
def RN (p a : Nat) : Nat := rq a (bl a - p) * 2 ^ (bl a - p)
theorem RN_small {p a : Nat} (h : a < 2 ^ p) : RN p a = a := by
  have h1 : bl a - p = 0 := by
    have := bl_le.mpr h
    omega
  have h2 := rq_exact a 0
  rw [Nat.pow_zero, Nat.mul_one] at h2
  unfold RN
  rw [h1, Nat.pow_zero, Nat.mul_one, h2]
theorem RN_zero (p : Nat) : RN p 0 = 0 := RN_small (Nat.two_pow_pos p)
theorem RN_scale (p a k : Nat) : RN p (a * 2 ^ k) = RN p a * 2 ^ k := by
  by_cases h0 : a = 0
  · subst h0; rw [Nat.zero_mul, RN_zero, Nat.zero_mul]
  have ha : 0 < a := Nat.pos_of_ne_zero h0
  by_cases h : bl a < p
  · rw [RN_small (bl_le.mp (Nat.le_of_lt h))]
    unfold RN
    rw [bl_mul ha]
    have e : a * 2 ^ k = a * 2 ^ (k - (bl a + k - p)) * 2 ^ (bl a + k - p) := by
      rw [Nat.mul_assoc, ← Nat.pow_add]
      congr 2
      omega
    rw [e, rq_exact]
  · unfold RN
    rw [bl_mul ha, show bl a + k - p = bl a - p + k by omega, rq_scale, Nat.pow_add, Nat.mul_assoc]
theorem RN_exact {p b : Nat} (k : Nat) (hp : 0 < p) (h : b ≤ 2 ^ p) : RN p (b * 2 ^ k) = b * 2 ^ k := by
  rw [RN_scale]
  congr 1
  by_cases hb : b = 2 ^ p
  · subst hb
    have := RN_scale p 1 p
    rw [Nat.one_mul, RN_small (Nat.one_lt_two_pow (by omega)), Nat.one_mul] at this
    exact this
  · exact RN_small (by omega)
/-- below 2 ^ (p + n): a multiple of the last place, and half of it off at most -/
theorem RN_near {p a n : Nat} (h : a < 2 ^ (p + n)) : 2 * RN p a ≤ 2 * a + 2 ^ n ∧ 2 * a ≤ 2 * RN p a + 2 ^ n := by
  have h1 := rq_near a (bl a - p)
  have h2 : bl a - p ≤ n := by
    have := bl_le.mpr h
    omega
  have h3 : 2 ^ (bl a - p) ≤ 2 ^ n := Nat.pow_le_pow_right (by decide) h2
  unfold RN
  omega
theorem RN_dvd {p a n : Nat} (h : 2 ^ (p + n) ≤ 2 * a) (hp : 0 < p + n) : ∃ q, RN p a = q * 2 ^ n := by
  have h1 : p + n - 1 < bl a := bl_gt.mpr (by
    have : 2 ^ (p + n) = 2 ^ (p + n - 1) * 2 := by rw [← Nat.pow_succ]; congr 1; omega
    omega)
  unfold RN
  refine ⟨rq a (bl a - p) * 2 ^ (bl a - p - n), ?_⟩
  rw [Nat.mul_assoc, ← Nat.pow_add]
  congr 2
  omega
theorem RN_le {p a n : Nat} (hp : 0 < p) (h : a ≤ 2 ^ n) : RN p a ≤ 2 ^ n := by
  by_cases e : a = 2 ^ n
  · subst e
    have := RN_exact (p := p) (b := 1) n hp (Nat.one_le_two_pow)
    rw [Nat.one_mul] at this
    omega
  · by_cases hs : a < 2 ^ p
    · rw [RN_small hs]; exact h
    · have hb : bl a ≤ n := bl_le.mpr (by omega)
      have hb2 : p < bl a := bl_gt.mpr (by omega)
      have h1 : rq a (bl a - p) ≤ 2 ^ p := rq_mono_hi (by rw [show p + (bl a - p) = bl a by omega]; exact bl_le.mp (Nat.le_refl _))
      have h2 : rq a (bl a - p) * 2 ^ (bl a - p) ≤ 2 ^ p * 2 ^ (bl a - p) := Nat.mul_le_mul_right _ h1
      have h3 : 2 ^ p * 2 ^ (bl a - p) = 2 ^ bl a := by rw [← Nat.pow_add]; congr 1; omega
      have h4 : 2 ^ bl a ≤ 2 ^ n := Nat.pow_le_pow_right (by decide) hb
      unfold RN
      omega
/-- of p bits at most (the bits of a power of two: one) -/
theorem RN_bits (p a : Nat) : ∃ q k, RN p a = q * 2 ^ k ∧ q ≤ 2 ^ p := by
  refine ⟨rq a (bl a - p), bl a - p, rfl, rq_mono_hi ?_⟩
  have : 2 ^ bl a ≤ 2 ^ (p + (bl a - p)) := Nat.pow_le_pow_right (by decide) (by omega)
  exact Nat.lt_of_lt_of_le (bl_le.mp (Nat.le_refl _)) this
/-- the rest, times 2 ^ p, is no more than the rounded number -/
theorem RN_rest (p a : Nat) (hp : 0 < p) : 2 ^ p * (RN p a - a) ≤ RN p a ∧ 2 ^ p * (a - RN p a) ≤ RN p a := by
  by_cases hs : a < 2 ^ p
  · rw [RN_small hs]; simp
  · have hb : p < bl a := bl_gt.mpr (by omega)
    have h1 := rq_near a (bl a - p)
    have h2 : 2 ^ (p - 1) ≤ rq a (bl a - p) := rq_mono_lo (by
      have : p - 1 + (bl a - p) < bl a := by omega
      exact bl_gt.mp this)
    have h3 : 2 ^ (p - 1) * 2 ^ (bl a - p) ≤ RN p a := Nat.mul_le_mul_right _ h2
    have e : 2 ^ p = 2 ^ (p - 1) * 2 := by rw [← Nat.pow_succ]; congr 1; omega
    have key : ∀ d, 2 * d ≤ 2 ^ (bl a - p) → 2 ^ p * d ≤ RN p a := fun d hd => by
      rw [e, Nat.mul_assoc]
      exact Nat.le_trans (Nat.mul_le_mul_left _ hd) h3
    have eR : RN p a = rq a (bl a - p) * 2 ^ (bl a - p) := rfl
    exact ⟨key _ (by omega), key _ (by omega)⟩

/-! ## on integers -/
def RZ (p : Nat) (z : Int) : Int := if z < 0 then -(RN p z.natAbs : Int) else (RN p z.natAbs : Int)
theorem RZ_of_nat (p a : Nat) : RZ p (a : Int) = RN p a := by
  unfold RZ
  rw [if_neg (by omega), Int.natAbs_natCast]
theorem RZ_neg (p : Nat) (z : Int) : RZ p (-z) = -RZ p z := by
  unfold RZ
  rw [Int.natAbs_neg]
  by_cases h : z = 0
  · subst h; simp [RN_zero]
  · by_cases h1 : z < 0
    · rw [if_neg (by omega), if_pos h1, Int.neg_neg]
    · rw [if_pos (by omega), if_neg h1]
theorem cast_pow (k : Nat) : ((2 ^ k : Nat) : Int) = (2 : Int) ^ k := by
  induction k with
  | zero => rfl
  | succ n ih => rw [Nat.pow_succ, Int.pow_succ, Int.natCast_mul, ih]; rfl
theorem pow_pos2 (k : Nat) : (0 : Int) < 2 ^ k := by
  rw [← cast_pow]
  exact Int.natCast_pos.mpr (Nat.two_pow_pos k)
theorem RZ_scale (p : Nat) (z : Int) (k : Nat) : RZ p (z * 2 ^ k) = RZ p z * 2 ^ k := by
  have nat : ∀ a : Nat, RZ p ((a : Int) * 2 ^ k) = RZ p (a : Int) * 2 ^ k := fun a => by
    rw [← cast_pow, ← Int.natCast_mul, RZ_of_nat, RZ_of_nat, RN_scale, Int.natCast_mul]
  by_cases h : z < 0
  · have e : z = -((z.natAbs : Nat) : Int) := by omega
    rw [e, Int.neg_mul, RZ_neg, RZ_neg, nat, Int.neg_mul]
  · have e : z = ((z.natAbs : Nat) : Int) := by omega
    rw [e, nat]
theorem RZ_exact {p : Nat} {b : Int} (k : Nat) (hp : 0 < p) (h : b ≤ 2 ^ p) (h' : -(2 ^ p) ≤ b) : RZ p (b * 2 ^ k) = b * 2 ^ k := by
  rw [← cast_pow] at h h'
  have nat : ∀ a : Nat, a ≤ 2 ^ p → RZ p ((a : Int) * 2 ^ k) = (a : Int) * 2 ^ k := fun a ha => by
    rw [← cast_pow, ← Int.natCast_mul, RZ_of_nat, RN_exact k hp ha]
  by_cases hb : b < 0
  · have e : b = -((b.natAbs : Nat) : Int) := by omega
    rw [e, Int.neg_mul, RZ_neg, nat _ (by omega)]
  · have e : b = ((b.natAbs : Nat) : Int) := by omega
    rw [e, nat _ (by omega)]
theorem RZ_exact0 {p : Nat} {b : Int} (hp : 0 < p) (h : b ≤ 2 ^ p) (h' : -(2 ^ p) ≤ b) : RZ p b = b := by
  have := RZ_exact (p := p) (b := b) 0 hp h h'
  rwa [Int.pow_zero, Int.mul_one] at this
theorem RZ_near {p n : Nat} {z : Int} (h : z < 2 ^ (p + n)) (h' : -(2 ^ (p + n)) < z) : 2 * RZ p z ≤ 2 * z + 2 ^ n ∧ 2 * z ≤ 2 * RZ p z + 2 ^ n := by
  rw [← cast_pow] at h h'
  rw [← cast_pow]
  have hn := RN_near (p := p) (a := z.natAbs) (n := n) (by omega)
  unfold RZ
  split <;> omega
theorem RZ_dvd {p n : Nat} {z : Int} (h : (2 : Int) ^ (p + n) ≤ 2 * z) (hp : 0 < p + n) : ∃ q : Int, RZ p z = q * 2 ^ n := by
  have h0 : 0 ≤ z := by
    have := pow_pos2 (p + n)
    omega
  rw [← cast_pow] at h
  obtain ⟨q, e⟩ := RN_dvd (p := p) (a := z.natAbs) (n := n) (by omega) hp
  refine ⟨q, ?_⟩
  unfold RZ
  rw [if_neg (by omega), e, Int.natCast_mul, cast_pow]
theorem RZ_le {p n : Nat} {z : Int} (hp : 0 < p) (h : z ≤ 2 ^ n) (h' : -(2 ^ n) ≤ z) : RZ p z ≤ 2 ^ n ∧ -(2 ^ n) ≤ RZ p z := by
  rw [← cast_pow] at h h'
  rw [← cast_pow]
  have := RN_le (p := p) (a := z.natAbs) (n := n) hp (by omega)
  unfold RZ
  split <;> omega
theorem RZ_bits (p : Nat) (z : Int) : ∃ (q : Int) (k : Nat), RZ p z = q * 2 ^ k ∧ q ≤ 2 ^ p ∧ -(2 ^ p) ≤ q := by
  obtain ⟨q, k, e, h⟩ := RN_bits p z.natAbs
  have hq : (q : Int) ≤ 2 ^ p := by rw [← cast_pow]; omega
  unfold RZ
  by_cases hz : z < 0
  · refine ⟨-q, k, ?_, by omega, by omega⟩
    rw [if_pos hz, e, Int.natCast_mul, cast_pow, Int.neg_mul]
  · refine ⟨q, k, ?_, hq, by omega⟩
    rw [if_neg hz, e, Int.natCast_mul, cast_pow]
theorem RZ_rest (p : Nat) (z : Int) (hp : 0 < p) : ((z - RZ p z).natAbs : Int) * 2 ^ p ≤ ((RZ p z).natAbs : Int) := by
  obtain ⟨h1, h2⟩ := RN_rest p z.natAbs hp
  have key : (z - RZ p z).natAbs * 2 ^ p ≤ (RZ p z).natAbs := by
    unfold RZ
    by_cases hz : z < 0
    · rw [if_pos hz, Int.natAbs_neg, Int.natAbs_natCast]
      by_cases hle : RN p z.natAbs ≤ z.natAbs
      · rw [show (z - -((RN p z.natAbs : Nat) : Int)).natAbs = z.natAbs - RN p z.natAbs by omega, Nat.mul_comm]; exact h2
      · rw [show (z - -((RN p z.natAbs : Nat) : Int)).natAbs = RN p z.natAbs - z.natAbs by omega, Nat.mul_comm]; exact h1
    · rw [if_neg hz, Int.natAbs_natCast]
      by_cases hle : RN p z.natAbs ≤ z.natAbs
      · rw [show (z - ((RN p z.natAbs : Nat) : Int)).natAbs = z.natAbs - RN p z.natAbs by omega, Nat.mul_comm]; exact h2
      · rw [show (z - ((RN p z.natAbs : Nat) : Int)).natAbs = RN p z.natAbs - z.natAbs by omega, Nat.mul_comm]; exact h1
  rw [← cast_pow, ← Int.natCast_mul]
  exact Int.ofNat_le.mpr key

/-! part M1 -/

def upZ (p s : Nat) (z : Int) : Int := RZ p (RZ p ((2 ^ s + 1) * z) + RZ p (z - RZ p ((2 ^ s + 1) * z)))
def loZ (p s : Nat) (z : Int) : Int := RZ p (z - upZ p s z)

theorem upZ_scale (p s : Nat) (z : Int) (k : Nat) : upZ p s (z * 2 ^ k) = upZ p s z * 2 ^ k := by
  unfold upZ
  rw [← Int.mul_assoc, RZ_scale, ← Int.sub_mul, RZ_scale, ← Int.add_mul, RZ_scale]
theorem loZ_scale (p s : Nat) (z : Int) (k : Nat) : loZ p s (z * 2 ^ k) = loZ p s z * 2 ^ k := by
  unfold loZ
  rw [upZ_scale, ← Int.sub_mul, RZ_scale]
theorem upZ_neg (p s : Nat) (z : Int) : upZ p s (-z) = -upZ p s z := by
  unfold upZ
  rw [Int.mul_neg, RZ_neg, show -z - -RZ p ((2 ^ s + 1) * z) = -(z - RZ p ((2 ^ s + 1) * z)) by omega, RZ_neg, ← Int.neg_add, RZ_neg]
theorem loZ_neg (p s : Nat) (z : Int) : loZ p s (-z) = -loZ p s z := by
  unfold loZ
  rw [upZ_neg, show -z - -upZ p s z = -(z - upZ p s z) by omega, RZ_neg]

theorem mul_bd {x y A B : Int} (h1 : -A ≤ x) (h2 : x ≤ A) (h3 : -B ≤ y) (h4 : y ≤ B) : -(A * B) ≤ x * y ∧ x * y ≤ A * B := by
  have e : (x * y).natAbs ≤ A.natAbs * B.natAbs := by
    rw [Int.natAbs_mul]
    exact Nat.mul_le_mul (by omega) (by omega)
  have e2 : A * B = ((A.natAbs * B.natAbs : Nat) : Int) := by
    rw [Int.natCast_mul, Int.natAbs_of_nonneg (by omega), Int.natAbs_of_nonneg (by omega)]
  rw [e2]
  generalize A.natAbs * B.natAbs = c at *
  omega

/-- Veltkamp, for a number of just p = t + s bits -/
theorem veltkamp {t s : Nat} {X : Int} (ht : 1 ≤ t) (hs : 1 ≤ s) (h1 : 2 ^ (t + s) ≤ 2 * X) (h2 : X < 2 ^ (t + s)) :
    ∃ U : Int, upZ (t + s) s X = U * 2 ^ s ∧ 0 < U ∧ U ≤ 2 ^ t ∧ 2 * (U * 2 ^ s) ≤ 2 * X + 2 ^ s ∧ 2 * X ≤ 2 * (U * 2 ^ s) + 2 ^ s := by
  have hS := pow_pos2 s
  have hT := pow_pos2 t
  have hP := pow_pos2 (t + s)
  have eP : (2 : Int) ^ (t + s) = 2 ^ t * 2 ^ s := Int.pow_add ..
  have hT2 : (2 : Int) ≤ 2 ^ t := by
    have : (2 : Int) ^ t = 2 ^ (t - 1) * 2 := by rw [← Int.pow_succ]; congr 1; omega
    have := pow_pos2 (t - 1)
    omega
  have hS2 : (2 : Int) ≤ 2 ^ s := by
    have : (2 : Int) ^ s = 2 ^ (s - 1) * 2 := by rw [← Int.pow_succ]; congr 1; omega
    have := pow_pos2 (s - 1)
    omega
  have ePS : (2 : Int) ^ (t + s + s) = 2 ^ s * 2 ^ (t + s) := by rw [Int.pow_add, Int.mul_comm]
  have ePS2 : (2 : Int) ^ (t + s + (s + 1)) = 2 * (2 ^ s * 2 ^ (t + s)) := by
    rw [show t + s + (s + 1) = t + s + s + 1 by omega, Int.pow_succ, ePS, Int.mul_comm]
  have hp0 : 0 < t + s := by omega
  -- the products by 2 ^ s
  have m1 : 2 ^ s * 2 ^ (t + s) ≤ 2 ^ s * (2 * X) := Int.mul_le_mul_of_nonneg_left h1 (by omega)
  have m2 : (2 : Int) ^ s * X ≤ 2 ^ s * (2 ^ (t + s) - 1) := Int.mul_le_mul_of_nonneg_left (by omega) (by omega)
  have e1 : (2 : Int) ^ s * (2 * X) = 2 * (2 ^ s * X) := Int.mul_left_comm ..
  have e2 : (2 : Int) ^ s * (2 ^ (t + s) - 1) = 2 ^ s * 2 ^ (t + s) - 2 ^ s := by rw [Int.mul_sub, Int.mul_one]
  have eC : ((2 : Int) ^ s + 1) * X = 2 ^ s * X + X := by rw [Int.add_mul, Int.one_mul]
  rw [e1] at m1
  rw [e2] at m2
  have m4 : (2 : Int) * 2 ^ (t + s) ≤ 2 ^ s * 2 ^ (t + s) := Int.mul_le_mul_of_nonneg_right hS2 (by omega)
  -- the great product
  obtain ⟨G, hG⟩ : ∃ G, RZ (t + s) ((2 ^ s + 1) * X) = G * 2 ^ s := RZ_dvd (n := s) (by rw [ePS, eC]; omega) (by omega)
  have n1 : 2 * (G * 2 ^ s) ≤ 2 * (2 ^ s * X + X) + 2 * 2 ^ s ∧ 2 * (2 ^ s * X + X) ≤ 2 * (G * 2 ^ s) + 2 * 2 ^ s := by
    have := RZ_near (p := t + s) (n := s + 1) (z := (2 ^ s + 1) * X) (by rw [ePS2, eC]; omega) (by rw [ePS2, eC]; omega)
    rw [hG, eC, Int.pow_succ] at this
    omega
  -- what it is more than the number
  have b1 : 2 ^ s * 2 ^ (t + s) ≤ 2 * (G * 2 ^ s - X) := by
    by_cases hX : 2 ^ (t + s) + 2 ≤ 2 * X
    · have m3 : 2 ^ s * (2 ^ (t + s) + 2) ≤ 2 ^ s * (2 * X) := Int.mul_le_mul_of_nonneg_left hX (by omega)
      rw [e1, Int.mul_add] at m3
      omega
    · have hX' : X = 2 ^ (t + s - 1) := by
        have : (2 : Int) ^ (t + s) = 2 ^ (t + s - 1) * 2 := by rw [← Int.pow_succ]; congr 1; omega
        omega
      have hx : RZ (t + s) ((2 ^ s + 1) * X) = (2 ^ s + 1) * X := by
        rw [hX']
        refine RZ_exact _ hp0 ?_ (by omega)
        rw [eP]
        have : (2 : Int) * 2 ^ s ≤ 2 ^ t * 2 ^ s := Int.mul_le_mul_of_nonneg_right hT2 (by omega)
        omega
      rw [hG, eC] at hx
      omega
  have b2 : G * 2 ^ s - X < 2 ^ s * 2 ^ (t + s) := by
    by_cases hX : X ≤ 2 ^ (t + s) - 2
    · have m3 : (2 : Int) ^ s * X ≤ 2 ^ s * (2 ^ (t + s) - 2) := Int.mul_le_mul_of_nonneg_left hX (by omega)
      rw [Int.mul_sub] at m3
      omega
    · have hX' : X = 2 ^ (t + s) - 1 := by omega
      by_cases hc : G * 2 ^ s - X < 2 ^ s * 2 ^ (t + s)
      · exact hc
      · exfalso
        have hq : G * 2 ^ s = 2 ^ s * 2 ^ (t + s) + 2 ^ (t + s) - 1 := by
          rw [hX'] at n1 hc
          rw [e2] at n1
          omega
        rw [eP] at hq
        have hq2 : (G - 2 ^ t * 2 ^ s - 2 ^ t) * 2 ^ s = -1 := by
          rw [Int.sub_mul, Int.sub_mul]
          have : (2 : Int) ^ s * (2 ^ t * 2 ^ s) = 2 ^ t * 2 ^ s * 2 ^ s := by rw [Int.mul_comm]
          omega
        have hd : (2 : Int) ^ s ∣ -1 := ⟨_, by rw [Int.mul_comm]; exact hq2.symm⟩
        have := Int.le_of_dvd (by decide) (Int.dvd_neg.mp hd)
        omega
  obtain ⟨D, hD⟩ : ∃ D, RZ (t + s) (G * 2 ^ s - X) = D * 2 ^ s := RZ_dvd (n := s) (by rw [ePS]; exact b1) (by omega)
  have n2 := RZ_near (p := t + s) (n := s) (z := G * 2 ^ s - X) (by rw [ePS]; exact b2) (by rw [ePS]; omega)
  rw [hD] at n2
  have hup : upZ (t + s) s X = RZ (t + s) ((G - D) * 2 ^ s) := by
    unfold upZ
    rw [hG, show X - G * 2 ^ s = -(G * 2 ^ s - X) by omega, RZ_neg, hD, Int.sub_mul]
    congr 1
  have hUS : (G - D) * 2 ^ s = G * 2 ^ s - D * 2 ^ s := Int.sub_mul ..
  have c1 : 0 < G - D := by
    have : 0 < (G - D) * 2 ^ s := by
      rw [hUS]
      have : (2 : Int) * 2 ^ s ≤ 2 ^ t * 2 ^ s := Int.mul_le_mul_of_nonneg_right hT2 (by omega)
      omega
    exact Int.pos_of_mul_pos_left this hS
  have c2 : G - D ≤ 2 ^ t := by
    have : (G - D) * 2 ^ s < (2 ^ t + 1) * 2 ^ s := by
      rw [hUS, Int.add_mul, Int.one_mul]
      omega
    have := Int.lt_of_mul_lt_mul_right this (by omega)
    omega
  have hT3 : (2 : Int) ^ t ≤ 2 ^ (t + s) := by
    rw [eP]
    have : (2 : Int) ^ t * 1 ≤ 2 ^ t * 2 ^ s := Int.mul_le_mul_of_nonneg_left (by omega) (by omega)
    omega
  refine ⟨G - D, ?_, c1, c2, ?_, ?_⟩
  · rw [hup]
    exact RZ_exact _ hp0 (by omega) (by omega)
  · rw [hUS]; omega
  · rw [hUS]; omega

/-! part M2 -/

/-- z is a number of p bits: rounding leaves it -/
def Fx (p : Nat) (z : Int) : Prop := RZ p z = z
theorem Fx.neg {p : Nat} {z : Int} (h : Fx p z) : Fx p (-z) := by unfold Fx at *; rw [RZ_neg, h]
theorem Fx.up {p : Nat} {z : Int} {k : Nat} (h : Fx p (z * 2 ^ k)) : Fx p z := by
  unfold Fx at *
  rw [RZ_scale] at h
  exact Int.eq_of_mul_eq_mul_right (Int.ne_of_gt (pow_pos2 k)) h
theorem Fx_of {p k : Nat} {x b : Int} (hp : 0 < p) (e : x = b * 2 ^ k) (h : x ≤ 2 ^ p * 2 ^ k) (h' : -(2 ^ p * 2 ^ k) ≤ x) : Fx p x := by
  have hk := pow_pos2 k
  subst e
  unfold Fx
  refine RZ_exact k hp (Int.le_of_mul_le_mul_right h hk) (Int.le_of_mul_le_mul_right (a := 2 ^ k) ?_ hk)
  rw [Int.neg_mul]
  exact h'
theorem Fx_of0 {p : Nat} {x : Int} (hp : 0 < p) (h : x ≤ 2 ^ p) (h' : -(2 ^ p) ≤ x) : Fx p x := RZ_exact0 hp h h'

/-- all that Dekker's sum rounds is of p bits -/
def Exact (p : Nat) (z w zh zl wh wl : Int) : Prop :=
  Fx p (zh * wh) ∧ Fx p (zh * wl) ∧ Fx p (zl * wh) ∧ Fx p (zl * wl) ∧ Fx p (-RZ p (z * w) + zh * wh) ∧ Fx p (-RZ p (z * w) + zh * wh + zh * wl) ∧ Fx p (-RZ p (z * w) + zh * wh + zh * wl + zl * wh) ∧
    Fx p (-RZ p (z * w) + zh * wh + zh * wl + zl * wh + zl * wl)

theorem Exact.negl {p : Nat} {z w zh zl wh wl : Int} (h : Exact p z w zh zl wh wl) : Exact p (-z) w (-zh) (-zl) wh wl := by
  obtain ⟨h1, h2, h3, h4, h5, h6, h7, h8⟩ := h
  unfold Exact
  rw [Int.neg_mul, Int.neg_mul, Int.neg_mul, Int.neg_mul, Int.neg_mul, RZ_neg]
  refine ⟨h1.neg, h2.neg, h3.neg, h4.neg, ?_, ?_, ?_, ?_⟩
  · have := h5.neg; rwa [Int.neg_add] at this
  · have := h6.neg; rwa [Int.neg_add, Int.neg_add] at this
  · have := h7.neg; rwa [Int.neg_add, Int.neg_add, Int.neg_add] at this
  · have := h8.neg; rwa [Int.neg_add, Int.neg_add, Int.neg_add, Int.neg_add] at this
theorem Exact.negr {p : Nat} {z w zh zl wh wl : Int} (h : Exact p z w zh zl wh wl) : Exact p z (-w) zh zl (-wh) (-wl) := by
  obtain ⟨h1, h2, h3, h4, h5, h6, h7, h8⟩ := h
  unfold Exact
  rw [Int.mul_neg, Int.mul_neg, Int.mul_neg, Int.mul_neg, Int.mul_neg, RZ_neg]
  refine ⟨h1.neg, h2.neg, h3.neg, h4.neg, ?_, ?_, ?_, ?_⟩
  · have := h5.neg; rwa [Int.neg_add] at this
  · have := h6.neg; rwa [Int.neg_add, Int.neg_add] at this
  · have := h7.neg; rwa [Int.neg_add, Int.neg_add, Int.neg_add] at this
  · have := h8.neg; rwa [Int.neg_add, Int.neg_add, Int.neg_add, Int.neg_add] at this
theorem mul_scale (a b : Int) (i j : Nat) : a * 2 ^ i * (b * 2 ^ j) = a * b * 2 ^ (i + j) := by
  rw [Int.pow_add, Int.mul_assoc, Int.mul_left_comm (2 ^ i), ← Int.mul_assoc]
theorem Exact.up {p : Nat} {z w zh zl wh wl : Int} {i j : Nat} (h : Exact p (z * 2 ^ i) (w * 2 ^ j) (zh * 2 ^ i) (zl * 2 ^ i) (wh * 2 ^ j) (wl * 2 ^ j)) : Exact p z w zh zl wh wl := by
  obtain ⟨h1, h2, h3, h4, h5, h6, h7, h8⟩ := h
  simp only [mul_scale, RZ_scale, ← Int.neg_mul, ← Int.add_mul] at h1 h2 h3 h4 h5 h6 h7 h8
  exact ⟨h1.up, h2.up, h3.up, h4.up, h5.up, h6.up, h7.up, h8.up⟩

theorem two_le_pow {n k : Nat} (h : k ≤ n) : (2 : Int) ^ k ≤ 2 ^ n := by
  rw [← cast_pow, ← cast_pow]
  exact Int.ofNat_le.mpr (Nat.pow_le_pow_right (by decide) h)

/-- Dekker, for numbers of just p = t + s bits, parted at s -/
theorem dekker {t s : Nat} {X Y U V : Int} (ht : 2 ≤ t) (hts : t ≤ s) (hst : s ≤ t + 1)
    (x1 : 2 ^ (t + s) ≤ 2 * X) (x2 : X < 2 ^ (t + s)) (y1 : 2 ^ (t + s) ≤ 2 * Y) (y2 : Y < 2 ^ (t + s))
    (u0 : 0 < U) (u1 : U ≤ 2 ^ t) (u2 : 2 * (U * 2 ^ s) ≤ 2 * X + 2 ^ s) (u3 : 2 * X ≤ 2 * (U * 2 ^ s) + 2 ^ s)
    (v0 : 0 < V) (v1 : V ≤ 2 ^ t) (v2 : 2 * (V * 2 ^ s) ≤ 2 * Y + 2 ^ s) (v3 : 2 * Y ≤ 2 * (V * 2 ^ s) + 2 ^ s) :
    Exact (t + s) X Y (U * 2 ^ s) (X - U * 2 ^ s) (V * 2 ^ s) (Y - V * 2 ^ s) := by
  have hp : 0 < t + s := by omega
  have hS := pow_pos2 s
  have hT4 : (4 : Int) ≤ 2 ^ t := two_le_pow (k := 2) ht
  have hS4 : (4 : Int) ≤ 2 ^ s := two_le_pow (k := 2) (by omega)
  have hTS : (2 : Int) ^ t ≤ 2 ^ s := two_le_pow hts
  have hST : (2 : Int) ^ s ≤ 2 * 2 ^ t := by
    have := two_le_pow hst
    rw [Int.pow_succ] at this
    omega
  have eP : (2 : Int) ^ (t + s) = 2 ^ t * 2 ^ s := Int.pow_add ..
  -- R, of the last place
  have hXY : (2 : Int) ^ (t + s) * 2 ^ (t + s) ≤ 4 * (X * Y) := by
    have h1 : (2 : Int) ^ (t + s) * 2 ^ (t + s) ≤ 2 * X * (2 * Y) := Int.mul_le_mul x1 y1 (Int.le_of_lt (pow_pos2 _)) (by omega)
    have h2 : 2 * X * (2 * Y) = 4 * (X * Y) := by rw [Int.mul_assoc, Int.mul_left_comm X]; omega
    omega
  have hXY2 : X * Y < (2 : Int) ^ (t + s) * 2 ^ (t + s) := by
    have h1 : X * Y ≤ X * 2 ^ (t + s) := Int.mul_le_mul_of_nonneg_left (Int.le_of_lt y2) (by have := pow_pos2 (t + s); omega)
    have h2 : X * 2 ^ (t + s) < 2 ^ (t + s) * 2 ^ (t + s) := Int.mul_lt_mul_of_pos_right x2 (pow_pos2 _)
    omega
  have hXY0 : 0 < X * Y := Int.mul_pos (by have := pow_pos2 (t + s); omega) (by have := pow_pos2 (t + s); omega)
  have near := RZ_near (p := t + s) (n := t + s) (z := X * Y) (by rw [Int.pow_add]; exact hXY2) (by have := pow_pos2 (t + s + (t + s)); omega)
  obtain ⟨q, hq⟩ : ∃ q, RZ (t + s) (X * Y) = q * 2 ^ (t + s - 1) := RZ_dvd (n := t + s - 1) (by
    have e : (2 : Int) ^ (t + s) * 2 ^ (t + s) = 2 * 2 ^ (t + s + (t + s - 1)) := by
      rw [← Int.pow_add, Int.mul_comm, ← Int.pow_succ]
      congr 1
      omega
    omega) (by omega)
  generalize hR : RZ (t + s) (X * Y) = R at near hq
  generalize ha : X - U * 2 ^ s = a
  generalize hb : Y - V * 2 ^ s = b
  have a1 : 2 * a ≤ 2 ^ s := by omega
  have a2 : -(2 ^ s) ≤ 2 * a := by omega
  have b1 : 2 * b ≤ 2 ^ s := by omega
  have b2 : -(2 ^ s) ≤ 2 * b := by omega
  -- the products
  have eU : U * 2 ^ s * b = U * b * 2 ^ s := by rw [Int.mul_assoc, Int.mul_comm (2 ^ s), ← Int.mul_assoc]
  have eV : a * (V * 2 ^ s) = a * V * 2 ^ s := by rw [← Int.mul_assoc]
  have eUV : U * 2 ^ s * (V * 2 ^ s) = U * V * (2 ^ s * 2 ^ s) := by rw [Int.mul_assoc, Int.mul_left_comm (2 ^ s), ← Int.mul_assoc]
  have kU : -(2 ^ t * 2 ^ s) ≤ 2 * (U * b) ∧ 2 * (U * b) ≤ 2 ^ t * 2 ^ s := by
    have := mul_bd (x := U) (y := 2 * b) (A := 2 ^ t) (B := 2 ^ s) (by omega) u1 b2 b1
    rwa [Int.mul_left_comm] at this
  have kV : -(2 ^ t * 2 ^ s) ≤ 2 * (a * V) ∧ 2 * (a * V) ≤ 2 ^ t * 2 ^ s := by
    have := mul_bd (x := 2 * a) (y := V) (A := 2 ^ s) (B := 2 ^ t) a2 a1 (by omega) v1
    rw [Int.mul_assoc, Int.mul_comm (2 ^ s) (2 ^ t)] at this
    exact this
  have kab : -(2 ^ s * 2 ^ s) ≤ 4 * (a * b) ∧ 4 * (a * b) ≤ 2 ^ s * 2 ^ s := by
    have := mul_bd (x := 2 * a) (y := 2 * b) (A := 2 ^ s) (B := 2 ^ s) a2 a1 b2 b1
    have e : 2 * a * (2 * b) = 4 * (a * b) := by rw [Int.mul_assoc, Int.mul_left_comm a]; omega
    rwa [e] at this
  have kUV : 0 < U * V ∧ U * V ≤ 2 ^ t * 2 ^ t := ⟨Int.mul_pos u0 v0, Int.mul_le_mul u1 v1 (by omega) (by omega)⟩
  -- the sizes
  have kUS : -(2 ^ t * 2 ^ s * 2 ^ s) ≤ 2 * (U * b * 2 ^ s) ∧ 2 * (U * b * 2 ^ s) ≤ 2 ^ t * 2 ^ s * 2 ^ s := by
    have h1 := Int.mul_le_mul_of_nonneg_right kU.1 (Int.le_of_lt hS)
    have h2 := Int.mul_le_mul_of_nonneg_right kU.2 (Int.le_of_lt hS)
    rw [Int.neg_mul, Int.mul_assoc 2] at h1
    rw [Int.mul_assoc 2] at h2
    exact ⟨h1, h2⟩
  have kVS : -(2 ^ t * 2 ^ s * 2 ^ s) ≤ 2 * (a * V * 2 ^ s) ∧ 2 * (a * V * 2 ^ s) ≤ 2 ^ t * 2 ^ s * 2 ^ s := by
    have h1 := Int.mul_le_mul_of_nonneg_right kV.1 (Int.le_of_lt hS)
    have h2 := Int.mul_le_mul_of_nonneg_right kV.2 (Int.le_of_lt hS)
    rw [Int.neg_mul, Int.mul_assoc 2] at h1
    rw [Int.mul_assoc 2] at h2
    exact ⟨h1, h2⟩
  have z1 : 4 * (2 ^ t * 2 ^ s) ≤ (2 : Int) ^ t * 2 ^ s * 2 ^ s := by
    rw [Int.mul_comm 4]
    exact Int.mul_le_mul_of_nonneg_left hS4 (Int.mul_nonneg (by omega) (by omega))
  have z2 : 4 * (2 ^ s * 2 ^ s) ≤ (2 : Int) ^ t * 2 ^ s * 2 ^ s := by
    rw [Int.mul_assoc (2 ^ t)]
    exact Int.mul_le_mul_of_nonneg_right hT4 (Int.mul_nonneg (by omega) (by omega))
  have z3 : 4 * (2 ^ t * 2 ^ s * 2 ^ s) ≤ (2 : Int) ^ t * (2 ^ t * 2 ^ s * 2 ^ s) :=
    Int.mul_le_mul_of_nonneg_right hT4 (Int.mul_nonneg (Int.mul_nonneg (by omega) (by omega)) (by omega))
  have z4 : (2 : Int) ^ s * 2 ^ s ≤ 2 * (2 ^ t * 2 ^ s) := by
    rw [← Int.mul_assoc]
    exact Int.mul_le_mul_of_nonneg_right hST (by omega)
  have z5 : (2 : Int) ^ t * 2 ^ t * (2 ^ s * 2 ^ s) ≤ 2 ^ t * 2 ^ s * (2 ^ s * 2 ^ s) :=
    Int.mul_le_mul_of_nonneg_right (Int.mul_le_mul_of_nonneg_left hTS (by omega)) (Int.mul_nonneg (by omega) (by omega))
  have z6 : (0 : Int) < 2 ^ s * 2 ^ s := Int.mul_pos hS hS
  have z7 : (0 : Int) < 2 ^ t * 2 ^ s := Int.mul_pos (by omega) hS
  have hsum : X * Y = U * V * (2 ^ s * 2 ^ s) + U * b * 2 ^ s + a * V * 2 ^ s + a * b := by
    have hX : X = U * 2 ^ s + a := by omega
    have hY : Y = V * 2 ^ s + b := by omega
    rw [hX, hY, Int.add_mul, Int.mul_add, Int.mul_add, eUV, eU, eV]
    omega
  have e2s : (2 : Int) ^ s * 2 ^ s = 2 ^ (s + s) := (Int.pow_add ..).symm
  unfold Exact
  rw [hR, eUV, eU, eV]
  have near2 : 2 * R ≤ 2 * (X * Y) + 2 ^ t * 2 ^ s ∧ 2 * (X * Y) ≤ 2 * R + 2 ^ t * 2 ^ s := by rw [← eP]; exact near
  refine ⟨?_, ?_, ?_, ?_, ?_, ?_, ?_, ?_⟩
  · rw [e2s] at z5 ⊢
    have kk : U * V * 2 ^ (s + s) ≤ 2 ^ t * 2 ^ t * 2 ^ (s + s) := Int.mul_le_mul_of_nonneg_right kUV.2 (Int.le_of_lt (pow_pos2 _))
    have k0 : 0 < U * V * 2 ^ (s + s) := Int.mul_pos kUV.1 (pow_pos2 _)
    exact Fx_of hp rfl (by rw [eP]; omega) (by rw [eP]; have : (0 : Int) < 2 ^ t * 2 ^ s * 2 ^ (s + s) := Int.mul_pos z7 (pow_pos2 _); omega)
  · exact Fx_of (k := s) hp rfl (by rw [eP]; omega) (by rw [eP]; omega)
  · exact Fx_of (k := s) hp rfl (by rw [eP]; omega) (by rw [eP]; omega)
  · exact Fx_of0 hp (by rw [eP]; omega) (by rw [eP]; omega)
  · have ek : (2 : Int) ^ s * 2 ^ s = 2 ^ (s - t + 1) * 2 ^ (t + s - 1) := by
      rw [e2s, ← Int.pow_add]
      congr 1
      omega
    have eK : (2 : Int) * (2 ^ (t + s) * 2 ^ (t + s - 1)) = 2 ^ t * (2 ^ t * 2 ^ s * 2 ^ s) := by
      have h1 : (2 : Int) * (2 ^ (t + s) * 2 ^ (t + s - 1)) = 2 ^ (t + s) * 2 ^ (t + s) := by
        rw [Int.mul_left_comm, Int.mul_comm 2, ← Int.pow_succ]
        congr 2
        omega
      rw [h1, eP, Int.mul_assoc (2 ^ t) (2 ^ s) (2 ^ s), ← Int.mul_assoc (2 ^ t) (2 ^ t), Int.mul_assoc, Int.mul_left_comm (2 ^ s), ← Int.mul_assoc]
    refine Fx_of (k := t + s - 1) (b := -q + U * V * 2 ^ (s - t + 1)) hp ?_ ?_ ?_
    · rw [hq, ek, Int.add_mul, Int.neg_mul, ← Int.mul_assoc]
    · omega
    · omega
  · have ek : (2 : Int) ^ (t + s - 1) = 2 ^ (t - 1) * 2 ^ s := by
      rw [← Int.pow_add]
      congr 1
      omega
    refine Fx_of (k := s) (b := -(q * 2 ^ (t - 1)) + U * V * 2 ^ s + U * b) hp ?_ (by rw [eP]; omega) (by rw [eP]; omega)
    rw [hq, ek, Int.add_mul, Int.add_mul, Int.neg_mul, Int.mul_assoc q, Int.mul_assoc (U * V)]
  · exact Fx_of0 hp (by rw [eP]; omega) (by rw [eP]; omega)
  · exact Fx_of0 hp (by rw [eP]; omega) (by rw [eP]; omega)

/-! part M3 -/

/-- z, but for powers of two, is no more than 2 ^ m -/
def Bits (m : Nat) (z : Int) : Prop := ∃ (b : Int) (i j : Nat), z * 2 ^ i = b * 2 ^ j ∧ b ≤ 2 ^ m ∧ -(2 ^ m) ≤ b
theorem Bits.neg {m : Nat} {z : Int} (h : Bits m z) : Bits m (-z) := by
  obtain ⟨b, i, j, e, h1, h2⟩ := h
  exact ⟨-b, i, j, by rw [Int.neg_mul, Int.neg_mul, e], by omega, by omega⟩
theorem Bits.of {m : Nat} {z : Int} (h1 : z ≤ 2 ^ m) (h2 : -(2 ^ m) ≤ z) : Bits m z := ⟨z, 0, 0, rfl, h1, h2⟩
theorem Bits.rz (p : Nat) (z : Int) : Bits p (RZ p z) := by
  obtain ⟨q, k, e, h1, h2⟩ := RZ_bits p z
  exact ⟨q, 0, k, by rw [Int.pow_zero, Int.mul_one, e], h1, h2⟩

theorem norm_pos {p : Nat} {z : Int} (h0 : 0 < z) (h : z < 2 ^ p) : ∃ k : Nat, (2 : Int) ^ p ≤ 2 * (z * 2 ^ k) ∧ z * 2 ^ k < 2 ^ p := by
  have hb : bl z.natAbs ≤ p := bl_le.mpr (by rw [← cast_pow] at h; omega)
  have hz : z = (z.natAbs : Int) := by omega
  have h1 : z.natAbs < 2 ^ bl z.natAbs := bl_le.mp (Nat.le_refl _)
  have hb0 : 0 < bl z.natAbs := bl_gt.mpr (by rw [Nat.pow_zero]; omega)
  have h2 : 2 ^ (bl z.natAbs - 1) ≤ z.natAbs := bl_gt.mp (by omega)
  refine ⟨p - bl z.natAbs, ?_, ?_⟩
  · have h3 : 2 ^ (bl z.natAbs - 1) * 2 ^ (p - bl z.natAbs) ≤ z.natAbs * 2 ^ (p - bl z.natAbs) := Nat.mul_le_mul_right _ h2
    have h4 : 2 ^ p = 2 * (2 ^ (bl z.natAbs - 1) * 2 ^ (p - bl z.natAbs)) := by
      rw [← Nat.pow_add, Nat.mul_comm, ← Nat.pow_succ]
      congr 1
      omega
    rw [← cast_pow, ← cast_pow]
    rw [hz, ← Int.natCast_mul]
    simp only [Int.natAbs_natCast]
    omega
  · have h3 : z.natAbs * 2 ^ (p - bl z.natAbs) < 2 ^ bl z.natAbs * 2 ^ (p - bl z.natAbs) := Nat.mul_lt_mul_of_pos_right h1 (Nat.two_pow_pos _)
    have h4 : 2 ^ p = 2 ^ bl z.natAbs * 2 ^ (p - bl z.natAbs) := by
      rw [← Nat.pow_add]
      congr 1
      omega
    rw [← cast_pow, ← cast_pow]
    rw [hz, ← Int.natCast_mul]
    simp only [Int.natAbs_natCast]
    omega

structure PartsOk (p t s : Nat) (z : Int) : Prop where
  lo : loZ p s z = z - upZ p s z
  upBits : Bits t (upZ p s z)
  loBits : Bits (s - 1) (loZ p s z)
  up0 : upZ p s z ≠ 0
  up1 : upZ p s z ≤ 2 ^ p
  up2 : -(2 ^ p) ≤ upZ p s z
  lo1 : loZ p s z ≤ 2 ^ p
  lo2 : -(2 ^ p) ≤ loZ p s z
theorem PartsOk.neg {p t s : Nat} {z : Int} (h : PartsOk p t s z) : PartsOk p t s (-z) where
  lo := by rw [loZ_neg, upZ_neg, h.lo]; omega
  upBits := by rw [upZ_neg]; exact h.upBits.neg
  loBits := by rw [loZ_neg]; exact h.loBits.neg
  up0 := by rw [upZ_neg]; have := h.up0; omega
  up1 := by rw [upZ_neg]; have := h.up2; omega
  up2 := by rw [upZ_neg]; have := h.up1; omega
  lo1 := by rw [loZ_neg]; have := h.lo2; omega
  lo2 := by rw [loZ_neg]; have := h.lo1; omega

theorem le_of_mul_pow {x y : Int} {k : Nat} (h : x * 2 ^ k ≤ y) (hy : 0 ≤ y) : x ≤ y := by
  have h1 : (1 : Int) ≤ 2 ^ k := by have := pow_pos2 k; omega
  by_cases hx : x ≤ 0
  · omega
  · have : x * 1 ≤ x * 2 ^ k := Int.mul_le_mul_of_nonneg_left h1 (by omega)
    omega

theorem parts_pos {t s : Nat} {z : Int} (ht : 1 ≤ t) (hs : 1 ≤ s) (h0 : 0 < z) (h : z < 2 ^ (t + s)) : PartsOk (t + s) t s z := by
  obtain ⟨k, x1, x2⟩ := norm_pos h0 h
  obtain ⟨U, hU, u0, u1, u2, u3⟩ := veltkamp ht hs x1 x2
  have hk := pow_pos2 k
  rw [upZ_scale] at hU
  have hP := pow_pos2 (t + s)
  have hSP : (2 : Int) ^ s ≤ 2 ^ (t + s) := two_le_pow (by omega)
  have hS : (2 : Int) ^ s = 2 * 2 ^ (s - 1) := by rw [Int.mul_comm, ← Int.pow_succ]; congr 1; omega
  have hS0 := pow_pos2 s
  have hS1 := pow_pos2 (s - 1)
  have hUS : U * 2 ^ s ≤ 2 ^ (t + s) := by rw [Int.pow_add]; exact Int.mul_le_mul_of_nonneg_right u1 (Int.le_of_lt hS0)
  have hUS0 : 0 < U * 2 ^ s := Int.mul_pos u0 hS0
  have elo : loZ (t + s) s z = z - upZ (t + s) s z := by
    have : Fx (t + s) (z - upZ (t + s) s z) := by
      refine Fx.up (k := k) (Fx_of0 (by omega) ?_ ?_) <;> rw [Int.sub_mul, hU] <;> omega
    exact this
  have hup0 : 0 < upZ (t + s) s z := Int.pos_of_mul_pos_left (by rw [hU]; exact hUS0) hk
  have hup1 : upZ (t + s) s z ≤ 2 ^ (t + s) := le_of_mul_pow (k := k) (by rw [hU]; exact hUS) (Int.le_of_lt hP)
  have hl1 : (z - upZ (t + s) s z) * 2 ^ k ≤ 2 ^ (s - 1) := by rw [Int.sub_mul, hU]; omega
  have hl2 : -(z - upZ (t + s) s z) * 2 ^ k ≤ 2 ^ (s - 1) := by rw [Int.neg_mul, Int.sub_mul, hU]; omega
  have hSP1 : (2 : Int) ^ (s - 1) ≤ 2 ^ (t + s) := two_le_pow (by omega)
  have hl3 := le_of_mul_pow hl1 (Int.le_of_lt hS1)
  have hl4 := le_of_mul_pow hl2 (Int.le_of_lt hS1)
  exact {
    lo := elo
    upBits := ⟨U, k, s, hU, u1, by have := pow_pos2 t; omega⟩
    loBits := by rw [elo]; exact Bits.of (by omega) (by omega)
    up0 := by omega
    up1 := hup1
    up2 := by omega
    lo1 := by rw [elo]; omega
    lo2 := by rw [elo]; omega }

theorem parts_all {t s : Nat} {z : Int} (ht : 1 ≤ t) (hs : 1 ≤ s) (h0 : z ≠ 0) (h1 : z < 2 ^ (t + s)) (h2 : -(2 ^ (t + s)) < z) : PartsOk (t + s) t s z := by
  by_cases h : 0 < z
  · exact parts_pos ht hs h h1
  · have := (parts_pos (z := -z) ht hs (by omega) (by omega)).neg
    rwa [Int.neg_neg] at this

theorem exact_pos {t s : Nat} {z w : Int} (ht : 2 ≤ t) (hts : t ≤ s) (hst : s ≤ t + 1) (z0 : 0 < z) (z1 : z < 2 ^ (t + s)) (w0 : 0 < w) (w1 : w < 2 ^ (t + s)) :
    Exact (t + s) z w (upZ (t + s) s z) (loZ (t + s) s z) (upZ (t + s) s w) (loZ (t + s) s w) := by
  obtain ⟨i, x1, x2⟩ := norm_pos z0 z1
  obtain ⟨j, y1, y2⟩ := norm_pos w0 w1
  obtain ⟨U, hU, u0, u1, u2, u3⟩ := veltkamp (by omega) (by omega) x1 x2
  obtain ⟨V, hV, v0, v1, v2, v3⟩ := veltkamp (by omega) (by omega) y1 y2
  have pz := parts_pos (t := t) (s := s) (by omega) (by omega) z0 z1
  have pw := parts_pos (t := t) (s := s) (by omega) (by omega) w0 w1
  rw [pz.lo, pw.lo]
  refine Exact.up (i := i) (j := j) ?_
  rw [Int.sub_mul, Int.sub_mul, ← upZ_scale, ← upZ_scale, hU, hV]
  exact dekker ht hts hst x1 x2 y1 y2 u0 u1 u2 u3 v0 v1 v2 v3

theorem exact_all {t s : Nat} {z w : Int} (ht : 2 ≤ t) (hts : t ≤ s) (hst : s ≤ t + 1) (z0 : z ≠ 0) (z1 : z < 2 ^ (t + s)) (z2 : -(2 ^ (t + s)) < z) (w0 : w ≠ 0) (w1 : w < 2 ^ (t + s)) (w2 : -(2 ^ (t + s)) < w) :
    Exact (t + s) z w (upZ (t + s) s z) (loZ (t + s) s z) (upZ (t + s) s w) (loZ (t + s) s w) := by
  have main : ∀ z : Int, 0 < z → z < 2 ^ (t + s) → Exact (t + s) z w (upZ (t + s) s z) (loZ (t + s) s z) (upZ (t + s) s w) (loZ (t + s) s w) := fun z a1 a2 => by
    by_cases h : 0 < w
    · exact exact_pos ht hts hst a1 a2 h w1
    · have := (exact_pos (z := z) (w := -w) ht hts hst a1 a2 (by omega) (by omega)).negr
      rwa [upZ_neg, loZ_neg, Int.neg_neg, Int.neg_neg, Int.neg_neg] at this
  by_cases h : 0 < z
  · exact main z h z1
  · have := (main (-z) (by omega) (by omega)).negl
    rwa [upZ_neg, loZ_neg, Int.neg_neg, Int.neg_neg, Int.neg_neg] at this

/-- the sum's way, as the law takes it -/
structure Chain (p : Nat) (z w zh zl wh wl : Int) : Prop where
  c1 : RZ p (-RZ p (z * w) + RZ p (zh * wh)) = -RZ p (z * w) + zh * wh
  c2 : RZ p (-RZ p (z * w) + zh * wh + RZ p (zh * wl)) = -RZ p (z * w) + zh * wh + zh * wl
  c3 : RZ p (-RZ p (z * w) + zh * wh + zh * wl + RZ p (zl * wh)) = -RZ p (z * w) + zh * wh + zh * wl + zl * wh
  c4 : RZ p (-RZ p (z * w) + zh * wh + zh * wl + zl * wh + RZ p (zl * wl)) = z * w - RZ p (z * w)
theorem Chain.of {p : Nat} {z w zh zl wh wl : Int} (h : Exact p z w zh zl wh wl) (hz : zl = z - zh) (hw : wl = w - wh) : Chain p z w zh zl wh wl := by
  obtain ⟨h1, h2, h3, h4, h5, h6, h7, h8⟩ := h
  unfold Fx at *
  refine ⟨by rw [h1, h5], by rw [h2, h6], by rw [h3, h7], ?_⟩
  rw [h4, h8]
  have e1 : z = zh + zl := by omega
  have e2 : w = wh + wl := by omega
  have e : z * w = zh * wh + zh * wl + zl * wh + zl * wl := by rw [e1, e2, Int.add_mul, Int.mul_add, Int.mul_add]; omega
  omega

end Mine
open PySem PySem.W PySem.Calls PyProof.Rows
namespace Mine

/-! part Hd -/

set_option maxRecDepth 100000 in
set_option maxHeartbeats 8000000 in
open_top hd for PySem.Challenge.rw_aw5010_01

/-! part P0 -/

/-! numbers: the operations as opaque words -/
@[irreducible] def shl (a n : Int) : Int := a * 2 ^ n.toNat
@[irreducible] def shr (a n : Int) : Int := a.fdiv (2 ^ n.toNat)
@[irreducible] def land (a b : Int) : Int := Builtin.bitAnd a b
@[irreducible] def lxor (a b : Int) : Int := Builtin.bitXor a b
@[irreducible] def mulZ (a b : Int) : Int := a * b
@[irreducible] def blen (a : Int) : Int := (Builtin.Int.intBits a : Int)
/-- a bound of an int's bits -/
@[irreducible] def Sz (a : Int) : Prop := Builtin.Int.intBits a ≤ 1000

theorem Sz.out {a : Int} (h : Sz a) : Builtin.Int.intBits a ≤ 1000 := by unfold Sz at h; exact h
theorem Sz.mk {a : Int} (h : Builtin.Int.intBits a ≤ 1000) : Sz a := by unfold Sz; exact h
theorem sz_one : Sz 1 := .mk (by decide)
theorem sz_two : Sz 2 := .mk (by decide)

section
variable {prog : Program} {w : World} {A : Around} {E : Value → Shared → Prop} {s : Shared} {a b n : Int} {t u : Tok} {Q : Value → Shared → Prop}
theorem r_rshift (hn : 0 ≤ n) (h : Q (.int (shr a n) s.toks) { s with toks := s.toks + 1 }) : wpAny (model prog w) A (binaryOp .RShift (.int a t) (.int n u)) Q E s :=
  rshift_int hn (by unfold shr at h; exact h)
theorem r_irshift (hn : 0 ≤ n) (h : Q (.int (shr a n) s.toks) { s with toks := s.toks + 1 }) : wpAny (model prog w) A (inplaceOp .RShift (.int a t) (.int n u)) Q E s :=
  irshift_int hn (by unfold shr at h; exact h)
theorem sz_shl (ha : Sz a) (hn : n ≤ 1000) : (Builtin.Int.intBits a : Int) + n ≤ 2 ^ 27 := by
  have := ha.out
  have h2 : (2 : Int) ^ 27 = 134217728 := by decide
  omega
theorem r_lshift (ha : Sz a) (hn : 0 ≤ n) (hm : n ≤ 1000) (h : Q (.int (shl a n) s.toks) { s with toks := s.toks + 1 }) : wpAny (model prog w) A (binaryOp .LShift (.int a t) (.int n u)) Q E s :=
  lshift_int hn (sz_shl ha hm) (by unfold shl at h; exact h)
theorem r_ilshift (ha : Sz a) (hn : 0 ≤ n) (hm : n ≤ 1000) (h : Q (.int (shl a n) s.toks) { s with toks := s.toks + 1 }) : wpAny (model prog w) A (inplaceOp .LShift (.int a t) (.int n u)) Q E s :=
  ilshift_int hn (sz_shl ha hm) (by unfold shl at h; exact h)
theorem r_and (h : Q (.int (land a b) s.toks) { s with toks := s.toks + 1 }) : wpAny (model prog w) A (binaryOp .BitAnd (.int a t) (.int b u)) Q E s :=
  and_int (by unfold land at h; exact h)
theorem r_xor (h : Q (.int (lxor a b) s.toks) { s with toks := s.toks + 1 }) : wpAny (model prog w) A (binaryOp .BitXor (.int a t) (.int b u)) Q E s :=
  xor_int (by unfold lxor at h; exact h)
theorem r_ixor (h : Q (.int (lxor a b) s.toks) { s with toks := s.toks + 1 }) : wpAny (model prog w) A (inplaceOp .BitXor (.int a t) (.int b u)) Q E s :=
  ixor_int (by unfold lxor at h; exact h)
theorem r_mul (ha : Sz a) (hb : Sz b) (h : Q (.int (mulZ a b) s.toks) { s with toks := s.toks + 1 }) : wpAny (model prog w) A (binaryOp .Mult (.int a t) (.int b u)) Q E s :=
  mul_int (by unfold mulZ at h; exact h) (.of_bits (Nat.le_trans ha.out (by decide)) (Nat.le_trans hb.out (by decide)))
theorem r_bitlen (h : Q (.int (blen a) s.toks) { s with toks := s.toks + 1 }) : wpAny (model prog w) A (call (.builtin "int.bit_length") [.int a t]) Q E s :=
  call_int_bit_length (by unfold blen at h; exact h)
end

/-! tuples of four ints -/
structure Q4 where
  sg : Int
  mn : Int
  ex : Int
  bc : Int

def tup4 (x : Q4) (t1 t2 t3 t4 : Tok) (c : Nat) : Obj := { cls := .type "tuple", data := .seq #[.int x.sg t1, .int x.mn t2, .int x.ex t3, .int x.bc t4] c }

/-- the text's own tuples: zero, nan, inf, -inf -/
def gtab : List (Addr × Q4) := [(22, ⟨0, 0, 0, 0⟩), (23, ⟨0, 0, -123, -1⟩), (24, ⟨0, 0, -456, -2⟩), (25, ⟨1, 0, -789, -3⟩)]
/-- the value v is a tuple with x's parts: made by the call (it stands in the ledger), or one of the text's own -/
structure Tm (news : List (Addr × Obj)) (v : Value) (x : Q4) : Prop where
  out : (∃ a t1 t2 t3 t4 c, v = .ref a ∧ (a, tup4 x t1 t2 t3 t4 c) ∈ news) ∨ ∃ a, v = .ref a ∧ (a, x) ∈ gtab

theorem Tm.new {D : Addr} {x : Q4} {a b c d : Int} {t1 t2 t3 t4 : Tok} {k : Nat} {news : List (Addr × Obj)} (h : x = ⟨a, b, c, d⟩) :
    Tm ((D, { cls := .type "tuple", data := .seq #[.int a t1, .int b t2, .int c t3, .int d t4] k }) :: news) (.ref D) x := by
  subst h
  exact ⟨.inl ⟨D, t1, t2, t3, t4, k, rfl, .head _⟩⟩
theorem Tm.zero {news : List (Addr × Obj)} {x : Q4} (h : x = ⟨0, 0, 0, 0⟩) : Tm news (.ref 22) x := ⟨.inr ⟨22, rfl, h ▸ .head _⟩⟩
theorem Tm.zero' {news : List (Addr × Obj)} : Tm news (.ref 22) ⟨0, 0, 0, 0⟩ := .zero rfl
theorem Tm.nan {news : List (Addr × Obj)} : Tm news (.ref 23) ⟨0, 0, -123, -1⟩ := ⟨.inr ⟨23, rfl, .tail _ (.head _)⟩⟩
theorem Tm.inf {news : List (Addr × Obj)} : Tm news (.ref 24) ⟨0, 0, -456, -2⟩ := ⟨.inr ⟨24, rfl, .tail _ (.tail _ (.head _))⟩⟩
theorem Tm.ninf {news : List (Addr × Obj)} : Tm news (.ref 25) ⟨1, 0, -789, -3⟩ := ⟨.inr ⟨25, rfl, .tail _ (.tail _ (.tail _ (.head _)))⟩⟩
theorem Tm.mono {news news' : List (Addr × Obj)} {v : Value} {x : Q4} (hs : ∀ p ∈ news, p ∈ news') (h : Tm news v x) : Tm news' v x :=
  ⟨h.out.imp (fun ⟨a, t1, t2, t3, t4, c, h1, h2⟩ => ⟨a, t1, t2, t3, t4, c, h1, hs _ h2⟩) id⟩
theorem Tm.cast {news : List (Addr × Obj)} {v : Value} {x y : Q4} (h : Tm news v x) (e : x = y) : Tm news v y := e ▸ h

/-! a contract of a def: what it gives back, over any ledger -/
def Cn (w : World) (f : Addr) (sz : Nat) (vs : List Value) (Pre : List (Addr × Obj) → Prop) (Post : List (Addr × Obj) → Value → Prop) : Prop :=
  ∀ (p : Program) (loose : List Str) (mean : ExcName → Option Value) (mg mb : Str → Option Value) (dp un : Nat) (gd : Option (List Code)) (cn : Str) (cs : Scope) (a : Addr) (ccd : Value) (cl : List (Str × Addr)) (outer : List Env) (A₀ : Around) (base h₀ : Heap) (L : Addr) (m : Str → Option Value) (news : List (Addr × Obj)) (s : Shared)
    (Q E : Value → Shared → Prop),
    Below A₀ base outer h₀ → Fr h₀ L s.heap m → (hd.heap_39 w.params).In h₀ → News h₀ L s.heap news → Top p loose mean mg mb h₀ → cs.kind = .function →
    Pre news → dp + sz < recursionLimit → un + 8 * sz < cLine →
    (∀ r news' h' tk', Fr h₀ L h' m → News h₀ L h' news' → (∀ p ∈ news, p ∈ news') → Post news' r → Q r { s with heap := h', toks := tk' }) →
    wpAny (model PySem.Challenge.rw_aw5010_01.row.prog w) (ktrTop dp un gd cn cs L a ccd cl outer) (call (.ref f) vs) Q E s

section
variable {w : World} {f : Addr} {sz : Nat} {vs : List Value} {Pre : List (Addr × Obj) → Prop} {Post : List (Addr × Obj) → Value → Prop}
  {p : Program} {loose : List Str} {mean : ExcName → Option Value} {mg mb : Str → Option Value} {dp un : Nat} {gd : Option (List Code)} {cn : Str} {cs : Scope} {a : Addr} {ccd : Value} {cl : List (Str × Addr)} {outer : List Env} {A₀ : Around} {base h₀ : Heap} {L : Addr} {m : Str → Option Value} {news : List (Addr × Obj)} {s : Shared}
  {Q E : Value → Shared → Prop}
theorem Cn.use (B : Below A₀ base outer h₀) (F : Fr h₀ L s.heap m) (X : (hd.heap_39 w.params).In h₀) (N : News h₀ L s.heap news) (T : Top p loose mean mg mb h₀) (hk : cs.kind = .function)
    (C : Cn w f sz vs Pre Post) (hp : Pre news) (hd : dp + sz < recursionLimit) (hu : un + 8 * sz < cLine)
    (ret : ∀ r news' h' tk', Fr h₀ L h' m → News h₀ L h' news' → (∀ p ∈ news, p ∈ news') → Post news' r → Q r { s with heap := h', toks := tk' }) :
    wpAny (model PySem.Challenge.rw_aw5010_01.row.prog w) (ktrTop dp un gd cn cs L a ccd cl outer) (call (.ref f) vs) Q E s :=
  C _ _ _ _ _ _ _ _ _ _ _ _ _ _ _ _ _ _ _ _ _ _ _ B F X N T hk hp hd hu ret
/-- the def gives back an int: the ledger stays -/
theorem Cn.useI {n : Int} (B : Below A₀ base outer h₀) (F : Fr h₀ L s.heap m) (X : (hd.heap_39 w.params).In h₀) (N : News h₀ L s.heap news) (T : Top p loose mean mg mb h₀) (hk : cs.kind = .function)
    (C : Cn w f sz vs Pre (fun _ r => ∃ t, r = .int n t)) (hp : Pre news) (hd : dp + sz < recursionLimit) (hu : un + 8 * sz < cLine)
    (ret : ∀ t h' tk', Fr h₀ L h' m → News h₀ L h' news → Q (.int n t) { s with heap := h', toks := tk' }) :
    wpAny (model PySem.Challenge.rw_aw5010_01.row.prog w) (ktrTop dp un gd cn cs L a ccd cl outer) (call (.ref f) vs) Q E s :=
  Cn.use B F X N T hk C hp hd hu (fun r news' h' tk' F' N' S ⟨t, e⟩ => e ▸ ret t h' tk' F' fun p hp => N' p (S p hp))
end

/-! the text's functions on numbers -/
@[irreducible] def trailP (n : Int) : Int := if n = 0 then 0 else blen (land n (-n)) - 1

theorem kbt_split (k : Nat) : ∀ n : Int, n ≠ 0 → n.natAbs < 2 ^ k → ∃ (j : Nat) (a : Int), n = 2 ^ j * (2 * a + 1) := by
  induction k with
  | zero => intro n h0 h1; exfalso; simp at h1; exact h0 h1
  | succ k ih =>
    intro n h0 h1
    by_cases h : n % 2 = 1
    · exact ⟨0, n / 2, by rw [Int.pow_zero, Int.one_mul]; omega⟩
    · obtain ⟨j, a, e⟩ := ih (n / 2) (by omega) (by rw [Nat.pow_succ] at h1; omega)
      refine ⟨j + 1, a, ?_⟩
      rw [Int.pow_succ, Int.mul_comm (2 ^ j) 2, Int.mul_assoc, ← e]
      omega
theorem odd_part (n : Int) (h : n ≠ 0) : ∃ (j : Nat) (a : Int), n = 2 ^ j * (2 * a + 1) :=
  kbt_split n.natAbs n h Nat.lt_two_pow_self
theorem bits_pow (j : Nat) : Builtin.Int.intBits ((2 : Int) ^ j) = j + 1 := by
  have h : ((2 : Int) ^ j).natAbs = 2 ^ j := by rw [Int.natAbs_pow]; rfl
  have h0 : (2 : Int) ^ j ≠ 0 := by
    have := kbt_pos j
    omega
  unfold Builtin.Int.intBits
  rw [if_neg (by simpa using h0), h, Nat.log2_two_pow]
theorem trailP_eq (j : Nat) (a : Int) : trailP (2 ^ j * (2 * a + 1)) = j := by
  have hp := kbt_pos j
  have h0 : (2 : Int) ^ j * (2 * a + 1) ≠ 0 := by
    intro h
    rcases Int.mul_eq_zero.mp h with h | h <;> omega
  unfold trailP land blen
  rw [if_neg h0, kbt_low, bits_pow]
  omega
theorem trailP_nonneg (n : Int) : 0 ≤ trailP n := by
  by_cases h : n = 0
  · subst h; unfold trailP; decide
  · obtain ⟨j, a, rfl⟩ := odd_part n h
    rw [trailP_eq]
    omega

/-! part P1 -/

local macro_rules | `(tactic| walk_at "execs cons") => `(tactic| (refine wpAny_execs_cons ?_; (try dsimp only)))
local macro_rules | `(tactic| walk_at "binaryOp RShift int int") => `(tactic| (refine r_rshift (by first | omega | exact trailP_nonneg _) ?_))
local macro_rules | `(tactic| walk_at "inplaceOp RShift int int") => `(tactic| (refine r_irshift (by first | omega | exact trailP_nonneg _) ?_))
local macro_rules | `(tactic| walk_at "binaryOp LShift int int") => `(tactic| (refine r_lshift (by first | exact sz_one | assumption) (by omega) (by omega) ?_))
local macro_rules | `(tactic| walk_at "inplaceOp LShift int int") => `(tactic| (refine r_ilshift (by first | exact sz_one | assumption) (by omega) (by omega) ?_))
local macro_rules | `(tactic| walk_at "binaryOp BitAnd int int") => `(tactic| (with_reducible refine r_and ?_))
local macro_rules | `(tactic| walk_at "binaryOp BitXor int int") => `(tactic| (with_reducible refine r_xor ?_))
local macro_rules | `(tactic| walk_at "inplaceOp BitXor int int") => `(tactic| (with_reducible refine r_ixor ?_))
local macro_rules | `(tactic| walk_at "binaryOp Mult int int") => `(tactic| (refine r_mul (by first | exact sz_one | assumption) (by first | exact sz_one | assumption) ?_))
local macro_rules | `(tactic| walk_at "call builtin:int.bit_length") => `(tactic| (with_reducible refine r_bitlen ?_))
theorem int_is {a b : Int} {t : Tok} (h : b = a) : ∃ t', Value.int b t = Value.int a t' := ⟨t, by rw [h]⟩
set_option maxRecDepth 100000 in
set_option maxHeartbeats 8000000 in
theorem trailing_c (w : World) (n : Int) (t : Tok) : Cn w 21 2 [.int n t] (fun _ => True) (fun _ r => ∃ t, r = .int (trailP n) t) := by
  w_top off
  unfold Cn
  k_fill
  intro p loose mean mg mb dp un gd cn cs a ccd cl outer A₀ base h₀ L m news s Q E B F X N T hk hR hd hu hret
  refine wpAny_call ?_
  k_dflt ktr_enter
  k_steps
  all_goals refine hret _ news _ _ (by k_asm) (by k_asm) (fun _ h => h) (int_is ?_)
  · unfold trailP
    rw [if_neg (by assumption)]
  · unfold trailP
    rw [if_pos (by assumption)]
local macro_rules | `(tactic| walk_at "call ref") => `(tactic| (k_here; (with_reducible show wpAny _ _ (call (Value.ref 21) _) _ _ _); k_dflt (refine' Cn.useI ?k1 ?k2 ?k3 ?k4 ?k5 ?kK (trailing_c _ _ _) ?kp ?kd ?ku ?_; (case k1 => k_asm); (case k2 => k_asm); (case k3 => k_asm); (case k4 => k_asm); (case k5 => k_asm); (case kK => first | exact rfl | assumption); (case kp => trivial); (case kd => ktr_room); (case ku => ktr_units)); k_whole; intro t' h' tk' F' N'; (try k_sweep)))

/-! part P2 -/

def stripP (sg mn ex bc : Int) : Q4 :=
  if land mn 1 = 0 then ⟨sg, shr mn (trailP mn), ex + trailP mn, if shr mn (trailP mn) = 1 then 1 else bc - trailP mn⟩
  else ⟨sg, mn, ex, if mn = 1 then 1 else bc⟩
def rneP (mn n : Int) : Int :=
  if land (shr mn (n - 1)) 1 ≠ 0 ∧ (land (shr mn (n - 1)) 2 ≠ 0 ∨ land mn (shl 1 (n - 1) - 1) ≠ 0) then shr (shr mn (n - 1)) 1 + 1 else shr (shr mn (n - 1)) 1
def ceilP (mn n : Int) : Int := -(shr (-mn) n)
def normP (f : Int → Int → Int) (sg mn ex bc pr : Int) : Q4 :=
  if mn = 0 then ⟨0, 0, 0, 0⟩ else if 0 < bc - pr then stripP sg (f mn (bc - pr)) (ex + (bc - pr)) pr else stripP sg mn ex bc

section
variable {sg mn ex bc pr n : Int} {f : Int → Int → Int}
theorem strip_e1 (h : land mn 1 = 0) (h2 : shr mn (trailP mn) = 1) : stripP sg mn ex bc = ⟨sg, shr mn (trailP mn), ex + trailP mn, 1⟩ := by
  unfold stripP; rw [if_pos h, if_pos h2]
theorem strip_e2 (h : land mn 1 = 0) (h2 : shr mn (trailP mn) ≠ 1) : stripP sg mn ex bc = ⟨sg, shr mn (trailP mn), ex + trailP mn, bc - trailP mn⟩ := by
  unfold stripP; rw [if_pos h, if_neg h2]
theorem strip_o1 (h : land mn 1 ≠ 0) (h2 : mn = 1) : stripP sg mn ex bc = ⟨sg, mn, ex, 1⟩ := by
  unfold stripP; rw [if_neg h, if_pos h2]
theorem strip_o2 (h : land mn 1 ≠ 0) (h2 : mn ≠ 1) : stripP sg mn ex bc = ⟨sg, mn, ex, bc⟩ := by
  unfold stripP; rw [if_neg h, if_neg h2]
theorem rneP_u1 (h : land (shr mn (n - 1)) 1 ≠ 0) (h2 : land (shr mn (n - 1)) 2 ≠ 0) : rneP mn n = shr (shr mn (n - 1)) 1 + 1 := if_pos ⟨h, .inl h2⟩
theorem rneP_u2 (h : land (shr mn (n - 1)) 1 ≠ 0) (h2 : land mn (shl 1 (n - 1) - 1) ≠ 0) : rneP mn n = shr (shr mn (n - 1)) 1 + 1 := if_pos ⟨h, .inr h2⟩
theorem rneP_d1 (h : land (shr mn (n - 1)) 1 = 0) : rneP mn n = shr (shr mn (n - 1)) 1 := if_neg fun q => q.1 h
theorem rneP_d2 (h : land (shr mn (n - 1)) 2 = 0) (h2 : land mn (shl 1 (n - 1) - 1) = 0) : rneP mn n = shr (shr mn (n - 1)) 1 := if_neg fun q => q.2.elim (fun k => k h) fun k => k h2
theorem norm_zero (h : mn = 0) : normP f sg mn ex bc pr = ⟨0, 0, 0, 0⟩ := if_pos h
theorem norm_hi (h : mn ≠ 0) (h2 : 0 < bc - pr) : normP f sg mn ex bc pr = stripP sg (f mn (bc - pr)) (ex + (bc - pr)) pr := by
  unfold normP; rw [if_neg h, if_pos h2]
theorem norm_lo (h : mn ≠ 0) (h2 : ¬ 0 < bc - pr) : normP f sg mn ex bc pr = stripP sg mn ex bc := by
  unfold normP; rw [if_neg h, if_neg h2]
end

local macro_rules | `(tactic| walk_at "my_strip") => `(tactic| first
  | exact strip_e1 (by with_reducible assumption) (by with_reducible assumption)
  | exact strip_e2 (by with_reducible assumption) (by with_reducible assumption)
  | exact strip_o1 (by with_reducible assumption) (by with_reducible assumption)
  | exact strip_o2 (by with_reducible assumption) (by with_reducible assumption))
local macro_rules | `(tactic| walk_at "my_norm") => `(tactic| first
  | exact norm_zero (by with_reducible assumption)
  | (rw [norm_lo (by with_reducible assumption) (by with_reducible assumption)]; walk_at "my_strip")
  | (rw [norm_hi (by with_reducible assumption) (by with_reducible assumption)]; first
      | (rw [rneP_u1 (by with_reducible assumption) (by with_reducible assumption)]; walk_at "my_strip")
      | (rw [rneP_u2 (by with_reducible assumption) (by with_reducible assumption)]; walk_at "my_strip")
      | (rw [rneP_d1 (by with_reducible assumption)]; walk_at "my_strip")
      | (rw [rneP_d2 (by with_reducible assumption) (by with_reducible assumption)]; walk_at "my_strip")
      | (unfold ceilP; walk_at "my_strip")))

set_option maxRecDepth 100000 in
set_option maxHeartbeats 8000000 in
theorem normalize0_n (w : World) (sg mn ex bc pr : Int) (t1 t2 t3 t4 t5 t6 : Tok) (h3 : bc - pr < 400) :
    Cn w 37 4 [.int sg t1, .int mn t2, .int ex t3, .int bc t4, .int pr t5, .str (Str.ofString "n") t6] (fun _ => True) (fun news r => Tm news r (normP rneP sg mn ex bc pr)) := by
  w_top off
  unfold Cn
  k_fill
  intro p loose mean mg mb dp un gd cn cs a ccd cl outer A₀ base h₀ L m news s Q E B F X N T hk hR hd hu hret
  refine wpAny_call ?_
  k_dflt ktr_enter
  k_steps
  all_goals first
    | refine hret _ news _ _ (by k_asm) (by k_asm) (fun _ h => h) (Tm.zero ?_)
    | refine hret _ _ _ _ (by k_asm) (by k_asm) (fun _ h => .tail _ h) (Tm.new ?_)
  all_goals walk_at "my_norm"

set_option maxRecDepth 100000 in
set_option maxHeartbeats 8000000 in
theorem normalize0_d (w : World) (r : Str) (sg mn ex bc pr : Int) (t1 t2 t3 t4 t5 t6 : Tok) (h3 : bc ≤ pr) :
    Cn w 37 4 [.int sg t1, .int mn t2, .int ex t3, .int bc t4, .int pr t5, .str r t6] (fun _ => True) (fun news r => Tm news r (normP rneP sg mn ex bc pr)) := by
  have h4 : ¬ 0 < bc - pr := by omega
  w_top off
  unfold Cn
  k_fill
  intro p loose mean mg mb dp un gd cn cs a ccd cl outer A₀ base h₀ L m news s Q E B F X N T hk hR hd hu hret
  refine wpAny_call ?_
  k_dflt ktr_enter
  k_steps
  all_goals first
    | refine hret _ news _ _ (by k_asm) (by k_asm) (fun _ h => h) (Tm.zero ?_)
    | refine hret _ _ _ _ (by k_asm) (by k_asm) (fun _ h => .tail _ h) (Tm.new ?_)
  all_goals walk_at "my_norm"

set_option maxRecDepth 100000 in
set_option maxHeartbeats 8000000 in
theorem normalize0_f (w : World) (mn ex bc pr : Int) (t1 t2 t3 t4 t5 t6 : Tok) (h3 : bc - pr < 400) :
    Cn w 37 4 [.int 1 t1, .int mn t2, .int ex t3, .int bc t4, .int pr t5, .str (Str.ofString "f") t6] (fun _ => True) (fun news r => Tm news r (normP ceilP 1 mn ex bc pr)) := by
  w_top off
  unfold Cn
  k_fill
  intro p loose mean mg mb dp un gd cn cs a ccd cl outer A₀ base h₀ L m news s Q E B F X N T hk hR hd hu hret
  refine wpAny_call ?_
  k_dflt ktr_enter
  k_steps
  all_goals first
    | refine hret _ news _ _ (by k_asm) (by k_asm) (fun _ h => h) (Tm.zero ?_)
    | refine hret _ _ _ _ (by k_asm) (by k_asm) (fun _ h => .tail _ h) (Tm.new ?_)
  all_goals walk_at "my_norm"

/-! part P3 -/

local macro_rules | `(tactic| walk_at "call ref") => `(tactic| (k_here; (with_reducible show wpAny _ _ (call (Value.ref 37) _) _ _ _); k_dflt (refine' Cn.use ?k1 ?k2 ?k3 ?k4 ?k5 ?kK (normalize0_d _ _ _ _ _ _ _ _ _ _ _ _ _ ?kh) ?kp ?kd ?ku ?_; (case k1 => k_asm); (case k2 => k_asm); (case k3 => k_asm); (case k4 => k_asm); (case k5 => k_asm); (case kK => first | exact rfl | assumption); (case kp => trivial); (case kh => first | assumption | omega); (case kd => ktr_room); (case ku => ktr_units)); k_whole; intro r' news' h' tk' F' N' S' P'; (try k_sweep)))
local macro_rules | `(tactic| walk_at "call ref") => `(tactic| (k_here; (with_reducible show wpAny _ _ (call (Value.ref 37) _) _ _ _); k_dflt (refine' Cn.use ?k1 ?k2 ?k3 ?k4 ?k5 ?kK (normalize0_f _ _ _ _ _ _ _ _ _ _ _ ?kh) ?kp ?kd ?ku ?_; (case k1 => k_asm); (case k2 => k_asm); (case k3 => k_asm); (case k4 => k_asm); (case k5 => k_asm); (case kK => first | exact rfl | assumption); (case kp => trivial); (case kh => first | assumption | omega); (case kd => ktr_room); (case ku => ktr_units)); k_whole; intro r' news' h' tk' F' N' S' P'; (try k_sweep)))
local macro_rules | `(tactic| walk_at "call ref") => `(tactic| (k_here; (with_reducible show wpAny _ _ (call (Value.ref 37) _) _ _ _); k_dflt (refine' Cn.use ?k1 ?k2 ?k3 ?k4 ?k5 ?kK (normalize0_n _ _ _ _ _ _ _ _ _ _ _ _ ?kh) ?kp ?kd ?ku ?_; (case k1 => k_asm); (case k2 => k_asm); (case k3 => k_asm); (case k4 => k_asm); (case k5 => k_asm); (case kK => first | exact rfl | assumption); (case kp => trivial); (case kh => first | assumption | omega); (case kd => ktr_room); (case ku => ktr_units)); k_whole; intro r' news' h' tk' F' N' S' P'; (try k_sweep)))

set_option maxRecDepth 100000 in
set_option maxHeartbeats 8000000 in
theorem normalize_n (w : World) (sg mn ex pr : Int) (t1 t2 t3 t4 t5 t6 : Tok) (h0 : 0 ≤ mn) (h3 : blen mn - pr < 400) :
    Cn w 44 6 [.int sg t1, .int mn t2, .int ex t3, .int (blen mn) t4, .int pr t5, .str (Str.ofString "n") t6] (fun _ => True) (fun news r => Tm news r (normP rneP sg mn ex (blen mn) pr)) := by
  w_top off
  unfold Cn
  k_fill
  intro p loose mean mg mb dp un gd cn cs a ccd cl outer A₀ base h₀ L m news s Q E B F X N T hk hR hd hu hret
  refine wpAny_call ?_
  k_dflt ktr_enter
  k_steps
  all_goals first | (exfalso; omega) | exact hret _ _ _ _ (by k_asm) (by k_asm) (by assumption) (by assumption)

set_option maxRecDepth 100000 in
set_option maxHeartbeats 8000000 in
theorem normalize_d (w : World) (r : Str) (sg mn ex pr : Int) (t1 t2 t3 t4 t5 t6 : Tok) (h0 : 0 ≤ mn) (h3 : blen mn ≤ pr) :
    Cn w 44 6 [.int sg t1, .int mn t2, .int ex t3, .int (blen mn) t4, .int pr t5, .str r t6] (fun _ => True) (fun news r => Tm news r (normP rneP sg mn ex (blen mn) pr)) := by
  w_top off
  unfold Cn
  k_fill
  intro p loose mean mg mb dp un gd cn cs a ccd cl outer A₀ base h₀ L m news s Q E B F X N T hk hR hd hu hret
  refine wpAny_call ?_
  k_dflt ktr_enter
  k_steps
  all_goals first | (exfalso; omega) | exact hret _ _ _ _ (by k_asm) (by k_asm) (by assumption) (by assumption)

set_option maxRecDepth 100000 in
set_option maxHeartbeats 8000000 in
theorem normalize_f (w : World) (mn ex pr : Int) (t1 t2 t3 t4 t5 t6 : Tok) (h0 : 0 ≤ mn) (h3 : blen mn - pr < 400) :
    Cn w 44 6 [.int 1 t1, .int mn t2, .int ex t3, .int (blen mn) t4, .int pr t5, .str (Str.ofString "f") t6] (fun _ => True) (fun news r => Tm news r (normP ceilP 1 mn ex (blen mn) pr)) := by
  w_top off
  unfold Cn
  k_fill
  intro p loose mean mg mb dp un gd cn cs a ccd cl outer A₀ base h₀ L m news s Q E B F X N T hk hR hd hu hret
  refine wpAny_call ?_
  k_dflt ktr_enter
  k_steps
  all_goals first | (exfalso; omega) | exact hret _ _ _ _ (by k_asm) (by k_asm) (by assumption) (by assumption)
local macro_rules | `(tactic| walk_at "call ref") => `(tactic| (k_here; (with_reducible show wpAny _ _ (call (Value.ref 44) _) _ _ _); k_dflt (refine' Cn.use ?k1 ?k2 ?k3 ?k4 ?k5 ?kK (normalize_d _ _ _ _ _ _ _ _ _ _ _ _ ?kg ?kh) ?kp ?kd ?ku ?_; (case k1 => k_asm); (case k2 => k_asm); (case k3 => k_asm); (case k4 => k_asm); (case k5 => k_asm); (case kK => first | exact rfl | assumption); (case kp => trivial); (case kh => first | assumption | omega); (case kg => first | assumption | omega); (case kd => ktr_room); (case ku => ktr_units)); k_whole; intro r' news' h' tk' F' N' S' P'; (try k_sweep)))
local macro_rules | `(tactic| walk_at "call ref") => `(tactic| (k_here; (with_reducible show wpAny _ _ (call (Value.ref 44) _) _ _ _); k_dflt (refine' Cn.use ?k1 ?k2 ?k3 ?k4 ?k5 ?kK (normalize_f _ _ _ _ _ _ _ _ _ _ ?kg ?kh) ?kp ?kd ?ku ?_; (case k1 => k_asm); (case k2 => k_asm); (case k3 => k_asm); (case k4 => k_asm); (case k5 => k_asm); (case kK => first | exact rfl | assumption); (case kp => trivial); (case kh => first | assumption | omega); (case kg => first | assumption | omega); (case kd => ktr_room); (case ku => ktr_units)); k_whole; intro r' news' h' tk' F' N' S' P'; (try k_sweep)))
local macro_rules | `(tactic| walk_at "call ref") => `(tactic| (k_here; (with_reducible show wpAny _ _ (call (Value.ref 44) _) _ _ _); k_dflt (refine' Cn.use ?k1 ?k2 ?k3 ?k4 ?k5 ?kK (normalize_n _ _ _ _ _ _ _ _ _ _ _ ?kg ?kh) ?kp ?kd ?ku ?_; (case k1 => k_asm); (case k2 => k_asm); (case k3 => k_asm); (case k4 => k_asm); (case k5 => k_asm); (case kK => first | exact rfl | assumption); (case kp => trivial); (case kh => first | assumption | omega); (case kg => first | assumption | omega); (case kd => ktr_room); (case ku => ktr_units)); k_whole; intro r' news' h' tk' F' N' S' P'; (try k_sweep)))

/-! part P4 -/

theorem gt_at (P : Params) : ∀ p ∈ gtab, ∃ t1 t2 t3 t4 c, (hd.heap_39 P).lookup p.1 = some (tup4 p.2 t1 t2 t3 t4 c) := by
  intro p hp
  unfold gtab at hp
  rcases List.mem_cons.mp hp with rfl | hp
  · exact ⟨_, _, _, _, _, rfl⟩
  rcases List.mem_cons.mp hp with rfl | hp
  · exact ⟨_, _, _, _, _, rfl⟩
  rcases List.mem_cons.mp hp with rfl | hp
  · exact ⟨_, _, _, _, _, rfl⟩
  rcases List.mem_cons.mp hp with rfl | hp
  · exact ⟨_, _, _, _, _, rfl⟩
  cases hp

section
variable {prog : Program} {w : World} {A : Around} {E : Value → Shared → Prop} {s : Shared} {env : Env} {h₀ h : Heap} {L : Addr} {m : Str → Option Value} {news : List (Addr × Obj)} {P : Params} {v u : Value} {x y : Q4}

theorem Tm.at (F : Fr h₀ L h m) (X : (hd.heap_39 P).In h₀) (N : News h₀ L h news) (hx : Tm news v x) :
    ∃ a t1 t2 t3 t4 c, v = .ref a ∧ h.get? a = some (tup4 x t1 t2 t3 t4 c) := by
  rcases hx.out with ⟨a, t1, t2, t3, t4, c, rfl, hm⟩ | ⟨a, rfl, hg⟩
  · exact ⟨a, t1, t2, t3, t4, c, rfl, (N _ hm).1⟩
  · obtain ⟨t1, t2, t3, t4, c, e⟩ := gt_at P _ hg
    exact ⟨a, t1, t2, t3, t4, c, rfl, F.keep _ _ (X _ _ e)⟩
theorem Tm.tup (F : Fr h₀ L h m) (X : (hd.heap_39 P).In h₀) (N : News h₀ L h news) (hx : Tm news v x) :
    ∃ a t1 t2 t3 t4, v = .ref a ∧ IsTup h a #[.int x.sg t1, .int x.mn t2, .int x.ex t3, .int x.bc t4] := by
  obtain ⟨a, t1, t2, t3, t4, c, rfl, e⟩ := hx.at F X N
  exact ⟨a, t1, t2, t3, t4, rfl, _, e, rfl, c, rfl⟩
theorem Tm.reads (F : Fr h₀ L h m) (X : (hd.heap_39 P).In h₀) (N : News h₀ L h news) (hx : Tm news v x) :
    ∃ as, PySem.Reads h v (.tuple ([x.sg, x.mn, x.ex, x.bc].map .int)) as := by
  obtain ⟨a, t1, t2, t3, t4, c, rfl, e⟩ := hx.at F X N
  exact ⟨_, reads_tuple_at e rfl rfl (.cons (.int _ _) (.cons (.int _ _) (.cons (.int _ _) (.cons (.int _ _) .nil))))⟩
theorem eqv4 (x y : Q4) : PyData.eqv (.tuple ([x.sg, x.mn, x.ex, x.bc].map .int)) (.tuple ([y.sg, y.mn, y.ex, y.bc].map .int)) = decide (x.sg = y.sg ∧ x.mn = y.mn ∧ x.ex = y.ex ∧ x.bc = y.bc) := by
  have h : PyData.eqv (.tuple ([x.sg, x.mn, x.ex, x.bc].map .int)) (.tuple ([y.sg, y.mn, y.ex, y.bc].map .int)) = PyData.eqvAll ([x.sg, x.mn, x.ex, x.bc].map .int) ([y.sg, y.mn, y.ex, y.bc].map .int) := by simp only [PyData.eqv]
  rw [h, ked_eqvAll]
  congr 1
  simp
theorem shaped4 (a b c d : Int) : PySem.SeqAt.shaped (.tuple ([a, b, c, d].map .int)) = true := by
  simp [PySem.SeqAt.shaped, PyData.canLay0, PyData.canLayAll0, PyData.depth, PyData.depthAll]
theorem eqTm {Q : Value → Shared → Prop} (F : Fr h₀ L s.heap m) (X : (hd.heap_39 P).In h₀) (N : News h₀ L s.heap news) (hx : Tm news v x) (hy : Tm news u y) (hu : A.units + 64 < cLine)
    (h : Q (.bool (decide (x.sg = y.sg ∧ x.mn = y.mn ∧ x.ex = y.ex ∧ x.bc = y.bc))) s) : wpAny (model prog w) A (compareOp .Eq v u) Q E s := by
  obtain ⟨as, r1⟩ := hx.reads F X N
  obtain ⟨bs, r2⟩ := hy.reads F X N
  exact eq_dataH r1 r2 (shaped4 ..) (shaped4 ..) hu (by rw [eqv4]; exact h)
theorem neTm {Q : Value → Shared → Prop} (F : Fr h₀ L s.heap m) (X : (hd.heap_39 P).In h₀) (N : News h₀ L s.heap news) (hx : Tm news v x) (hy : Tm news u y) (hu : A.units + 64 < cLine)
    (h : Q (.bool (!decide (x.sg = y.sg ∧ x.mn = y.mn ∧ x.ex = y.ex ∧ x.bc = y.bc))) s) : wpAny (model prog w) A (compareOp .NotEq v u) Q E s := by
  obtain ⟨as, r1⟩ := hx.reads F X N
  obtain ⟨bs, r2⟩ := hy.reads F X N
  exact ne_dataH r1 r2 (shaped4 ..) (shaped4 ..) hu (by rw [eqv4]; exact h)
theorem neTm_same {Q : Value → Shared → Prop} (F : Fr h₀ L s.heap m) (X : (hd.heap_39 P).In h₀) (N : News h₀ L s.heap news) (hx : Tm news v x) (hy : Tm news u x) (hu : A.units + 64 < cLine)
    (h : Q (.bool false) s) : wpAny (model prog w) A (compareOp .NotEq v u) Q E s := neTm F X N hx hy hu (by simpa using h)

theorem unpackTm {elts : List Expr} {k} {pos : Pos} {Q : Unit → Shared → Prop} (F : Fr h₀ L s.heap m) (N : News h₀ L s.heap news) (X : (hd.heap_39 P).In h₀) (hx : Tm news v x)
    (hh : A.handled = none) (hn : (assignEach elts env).length = 4) (hstar : (assignEach elts env).findIdx? (·.1) = none)
    (h : ∀ t1 t2 t3 t4 h', Fr h₀ L h' m → News h₀ L h' news → wpAny (model prog w) A (assignInOrder ((assignEach elts env).map (·.2)) [.int x.sg t1, .int x.mn t2, .int x.ex t3, .int x.bc t4]) Q E { s with heap := h' }) :
    wpAny (model prog w) A (assign (.Tuple elts k pos) env v) Q E s := by
  obtain ⟨a, t1, t2, t3, t4, rfl, ht⟩ := hx.tup F X N
  exact unpackN_ F N ht hh hn hstar (h t1 t2 t3 t4)
end
local macro_rules | `(tactic| walk_at "assign Tuple") => `(tactic| (k_here; k_dflt (refine' unpackTm ?k1 ?k2 ?k3 ?k4 ?k5 ?k6 ?k7 ?_; (case k1 => k_asm); (case k2 => k_asm); (case k3 => k_asm); (case k4 => with_reducible assumption); (case k5 => exact rfl); (case k6 => exact rfl); (case k7 => exact rfl); k_whole); intro t1' t2' t3' t4' h' F' N'; (try dsimp only); (try k_sweep)))

local macro_rules | `(tactic| walk_at "my_tm") => `(tactic| first | with_reducible assumption | exact Tm.zero' | exact Tm.nan | exact Tm.inf | exact Tm.ninf)
local macro_rules | `(tactic| walk_at "compareOp Eq") => `(tactic| (k_here; k_dflt (refine' eqTm ?k1 ?k2 ?k3 ?k4 ?k5 ?k6 ?_; (case k1 => k_asm); (case k2 => k_asm); (case k3 => k_asm); (case k4 => walk_at "my_tm"); (case k5 => walk_at "my_tm"); (case k6 => ktr_units)); (try dsimp only)))

local macro_rules | `(tactic| walk_at "my_enter") => `(tactic| (refine' code_def ?k1 ?k2 ?k3 ?k4 ?k5 ?kA ?kF ?kK ?k6 ?k7 ?k8 ?k9 ?kB ?_ ?c2 ?c3 ?c4 ?c5; (case kA => exact rfl); (case kF => exact rfl); (case kK => assumption); (case k1 => k_asm); (case k2 => k_asm); (case k3 => k_asm); (case k4 => k_asm); (case k5 => k_asm); (case k6 => k_is); (case k7 => k_is); (case k8 => ktr_room); (case k9 => first | exact BindsTo.of_eq rfl | exact binds_K (by k_in) rfl (by k_is) rfl rfl rfl | fail "my_enter: no rule for these arguments"); (case c5 => decide); (case kB => exact locs rfl); (case c2 => exact rfl); (case c3 => exact rfl); (case c4 => exact rfl); k_whole; intro g' L' h' FG' F' N' B' X' T'; (try dsimp only); (try k_fold)))

/-! part P5 -/

set_option maxRecDepth 100000 in
set_option maxHeartbeats 8000000 in
theorem mul_n0 (w : World) (v1 v2 : Value) (x y : Q4) (pr : Int) (t5 t6 : Tok) (hm : mulZ x.mn y.mn ≠ 0) (hm0 : 0 ≤ mulZ x.mn y.mn) (hz1 : Sz x.mn) (hz2 : Sz y.mn) (hp : pr ≠ 0) (hb : blen (mulZ x.mn y.mn) - pr < 400) :
    Cn w 113 8 [v1, v2, .int pr t5, .str (Str.ofString "n") t6] (fun news => Tm news v1 x ∧ Tm news v2 y) (fun news r => Tm news r (normP rneP (lxor x.sg y.sg) (mulZ x.mn y.mn) (x.ex + y.ex) (blen (mulZ x.mn y.mn)) pr)) := by
  w_top off
  unfold Cn
  k_fill
  intro p loose mean mg mb dp un gd cn cs a ccd cl outer A₀ base h₀ L m news s Q E B F X N T hk ⟨hx, hy⟩ hd hu hret
  refine wpAny_call ?_
  k_dflt (walk_at "my_enter")
  k_steps
  all_goals first | (exfalso; omega) | exact hret _ _ _ _ (by k_asm) (by k_asm) (by assumption) (by assumption)
set_option maxRecDepth 100000 in
set_option maxHeartbeats 8000000 in
theorem mul_00 (w : World) (v1 v2 : Value) (x y : Q4) (hm : mulZ x.mn y.mn ≠ 0) (hz1 : Sz x.mn) (hz2 : Sz y.mn) :
    Cn w 113 8 [v1, v2] (fun news => Tm news v1 x ∧ Tm news v2 y) (fun news r => Tm news r ⟨lxor x.sg y.sg, mulZ x.mn y.mn, x.ex + y.ex, blen (mulZ x.mn y.mn)⟩) := by
  w_top off
  unfold Cn
  k_fill
  intro p loose mean mg mb dp un gd cn cs a ccd cl outer A₀ base h₀ L m news s Q E B F X N T hk ⟨hx, hy⟩ hd hu hret
  refine wpAny_call ?_
  k_dflt (walk_at "my_enter")
  k_steps
  all_goals first | (exfalso; omega) | exact hret _ _ _ _ (by k_asm) (by k_asm) (fun _ h => .tail _ h) (Tm.new rfl)
set_option maxRecDepth 100000 in
set_option maxHeartbeats 8000000 in
theorem mul_z (w : World) (v1 v2 : Value) (x y : Q4) (pr : Int) (t5 t6 : Tok) (hm : mulZ x.mn y.mn = 0) (hz1 : Sz x.mn) (hz2 : Sz y.mn)
    (hc : (x.mn = 0 ∧ x.ex = 0 ∧ y.mn = 0 ∧ y.ex = 0) ∨ (x.mn = 0 ∧ x.ex = 0 ∧ y.mn ≠ 0) ∨ (x.mn ≠ 0 ∧ y.mn = 0 ∧ y.ex = 0)) :
    Cn w 113 8 [v1, v2, .int pr t5, .str (Str.ofString "n") t6] (fun news => Tm news v1 x ∧ Tm news v2 y) (fun news r => Tm news r ⟨0, 0, 0, 0⟩) := by
  w_top off
  unfold Cn
  k_fill
  intro p loose mean mg mb dp un gd cn cs a ccd cl outer A₀ base h₀ L m news s Q E B F X N T hk ⟨hx, hy⟩ hd hu hret
  refine wpAny_call ?_
  rcases hc with ⟨c1, c2, c3, c4⟩ | ⟨c1, c2, c3⟩ | ⟨c1, c2, c3⟩
  all_goals k_dflt (walk_at "my_enter")
  k_steps
  all_goals first | (exfalso; omega) | exact hret _ news _ _ (by k_asm) (by k_asm) (fun _ h => h) (Tm.zero rfl)

/-! part P6 -/

@[irreducible] def BB (B : Int) : Prop := ∀ m, 0 ≤ m → m ≤ 2 * B → blen m < 400
theorem blenB {B m pr : Int} (hB : BB B) (h0 : 0 ≤ m) (h1 : m ≤ 2 * B) (hp : 0 ≤ pr) : blen m - pr < 400 := by
  unfold BB at hB
  have := hB m h0 h1
  omega
theorem normalize_nb (w : World) (sg mn ex bc pr : Int) (t1 t2 t3 t4 t5 t6 : Tok) (hb : bc = blen mn) (h0 : 0 ≤ mn) (h3 : blen mn - pr < 400) :
    Cn w 44 6 [.int sg t1, .int mn t2, .int ex t3, .int bc t4, .int pr t5, .str (Str.ofString "n") t6] (fun _ => True) (fun news r => Tm news r (normP rneP sg mn ex bc pr)) := by
  subst hb
  exact normalize_n _ _ _ _ _ _ _ _ _ _ _ h0 h3
theorem normalize_db (w : World) (r : Str) (sg mn ex bc pr : Int) (t1 t2 t3 t4 t5 t6 : Tok) (hb : bc = blen mn) (h0 : 0 ≤ mn) (h3 : bc ≤ pr) :
    Cn w 44 6 [.int sg t1, .int mn t2, .int ex t3, .int bc t4, .int pr t5, .str r t6] (fun _ => True) (fun news r => Tm news r (normP rneP sg mn ex bc pr)) := by
  subst hb
  exact normalize_d _ _ _ _ _ _ _ _ _ _ _ _ h0 h3
local macro_rules | `(tactic| walk_at "call ref") => `(tactic| (k_here; (with_reducible show wpAny _ _ (call (Value.ref 44) _) _ _ _); k_dflt (refine' Cn.use ?k1 ?k2 ?k3 ?k4 ?k5 ?kK (normalize_n _ _ _ _ _ _ _ _ _ _ _ ?kg ?kh) ?kp ?kd ?ku ?_; (case k1 => k_asm); (case k2 => k_asm); (case k3 => k_asm); (case k4 => k_asm); (case k5 => k_asm); (case kK => first | exact rfl | assumption); (case kp => trivial); (case kh => exact blenB (by with_reducible assumption) (by omega) (by omega) (by omega)); (case kg => first | assumption | omega); (case kd => ktr_room); (case ku => ktr_units)); k_whole; intro r' news' h' tk' F' N' S' P'; (try k_sweep)))
local macro_rules | `(tactic| walk_at "call ref") => `(tactic| (k_here; (with_reducible show wpAny _ _ (call (Value.ref 44) _) _ _ _); k_dflt (refine' Cn.use ?k1 ?k2 ?k3 ?k4 ?k5 ?kK (normalize_f _ _ _ _ _ _ _ _ _ _ ?kg ?kh) ?kp ?kd ?ku ?_; (case k1 => k_asm); (case k2 => k_asm); (case k3 => k_asm); (case k4 => k_asm); (case k5 => k_asm); (case kK => first | exact rfl | assumption); (case kp => trivial); (case kh => exact blenB (by with_reducible assumption) (by omega) (by omega) (by omega)); (case kg => first | assumption | omega); (case kd => ktr_room); (case ku => ktr_units)); k_whole; intro r' news' h' tk' F' N' S' P'; (try k_sweep)))
local macro_rules | `(tactic| walk_at "call ref") => `(tactic| (k_here; (with_reducible show wpAny _ _ (call (Value.ref 44) _) _ _ _); k_dflt (refine' Cn.use ?k1 ?k2 ?k3 ?k4 ?k5 ?kK (normalize_nb _ _ _ _ _ _ _ _ _ _ _ _ ?kb ?kg ?kh) ?kp ?kd ?ku ?_; (case k1 => k_asm); (case k2 => k_asm); (case k3 => k_asm); (case k4 => k_asm); (case k5 => k_asm); (case kK => first | exact rfl | assumption); (case kp => trivial); (case kb => with_reducible assumption); (case kh => exact blenB (by with_reducible assumption) (by omega) (by omega) (by omega)); (case kg => first | assumption | omega); (case kd => ktr_room); (case ku => ktr_units)); k_whole; intro r' news' h' tk' F' N' S' P'; (try k_sweep)))
local macro_rules | `(tactic| walk_at "call ref") => `(tactic| (k_here; (with_reducible show wpAny _ _ (call (Value.ref 44) _) _ _ _); k_dflt (refine' Cn.use ?k1 ?k2 ?k3 ?k4 ?k5 ?kK (normalize_db _ _ _ _ _ _ _ _ _ _ _ _ _ ?kb ?kg ?kh) ?kp ?kd ?ku ?_; (case k1 => k_asm); (case k2 => k_asm); (case k3 => k_asm); (case k4 => k_asm); (case k5 => k_asm); (case kK => first | exact rfl | assumption); (case kp => trivial); (case kb => with_reducible assumption); (case kh => exact Int.le_refl _); (case kg => first | assumption | omega); (case kd => ktr_room); (case ku => ktr_units)); k_whole; intro r' news' h' tk' F' N' S' P'; (try k_sweep)))

def pbP (pr m : Int) : Int := if pr = 0 then m else pr
def sgnP (f : Int → Int → Int) (m e pr : Int) : Q4 := if 0 ≤ m then normP f 0 m e (blen m) (pbP pr (blen m)) else normP f 1 (-m) e (blen (-m)) (pbP pr (blen (-m)))
def addM (f : Int → Int → Int) (sx a sy b e pr : Int) : Q4 :=
  if sx = sy then normP f sx (b + a) e (blen (b + a)) (pbP pr (blen (b + a))) else if sx ≠ 0 then sgnP f (b - a) e pr else sgnP f (a - b) e pr
/-- both operands nonzero -/
def addP (f : Int → Int → Int) (x y : Q4) (pr sub : Int) : Q4 :=
  if 0 < x.ex - y.ex then addM f x.sg (shl x.mn (x.ex - y.ex)) (lxor y.sg sub) y.mn y.ex pr
  else if x.ex - y.ex < 0 then addM f (lxor y.sg sub) (shl y.mn (-(x.ex - y.ex))) x.sg x.mn x.ex pr
  else addM f x.sg x.mn (lxor y.sg sub) y.mn y.ex pr
section
variable {f : Int → Int → Int} {x y : Q4} {m a b e pr sub sx sy : Int}
theorem pb_n (h : pr ≠ 0) : pbP pr m = pr := if_neg h
theorem pb_0 : pbP 0 m = m := if_pos rfl
theorem sgn_p (h : 0 ≤ m) : sgnP f m e pr = normP f 0 m e (blen m) (pbP pr (blen m)) := if_pos h
theorem sgn_n (h : ¬ 0 ≤ m) : sgnP f m e pr = normP f 1 (-m) e (blen (-m)) (pbP pr (blen (-m))) := if_neg h
theorem addM_e (h : sx = sy) : addM f sx a sy b e pr = normP f sx (b + a) e (blen (b + a)) (pbP pr (blen (b + a))) := if_pos h
theorem addM_1 (h : sx ≠ sy) (h2 : sx ≠ 0) : addM f sx a sy b e pr = sgnP f (b - a) e pr := by unfold addM; rw [if_neg h, if_pos h2]
theorem addM_0 (h : sx ≠ sy) (h2 : sx = 0) : addM f sx a sy b e pr = sgnP f (a - b) e pr := by unfold addM; rw [if_neg h, if_neg (fun q => q h2)]
theorem addP_g (h : 0 < x.ex - y.ex) : addP f x y pr sub = addM f x.sg (shl x.mn (x.ex - y.ex)) (lxor y.sg sub) y.mn y.ex pr := if_pos h
theorem addP_l (h : x.ex - y.ex < 0) : addP f x y pr sub = addM f (lxor y.sg sub) (shl y.mn (-(x.ex - y.ex))) x.sg x.mn x.ex pr := by unfold addP; rw [if_neg (by omega), if_pos h]
theorem addP_le (h : x.ex - y.ex < 0) (e : x.sg = lxor y.sg sub) : addP f x y pr sub = normP f x.sg (x.mn + shl y.mn (-(x.ex - y.ex))) x.ex (blen (x.mn + shl y.mn (-(x.ex - y.ex)))) (pbP pr (blen (x.mn + shl y.mn (-(x.ex - y.ex))))) := by
  unfold addP
  rw [if_neg (by omega), if_pos h, addM_e e.symm, ← e]
theorem addP_e (h : x.ex - y.ex = 0) : addP f x y pr sub = addM f x.sg x.mn (lxor y.sg sub) y.mn y.ex pr := by unfold addP; rw [if_neg (by omega), if_neg (by omega)]
end
local macro_rules | `(tactic| walk_at "my_asm") => `(tactic| first | with_reducible assumption | (refine Eq.symm ?_; with_reducible assumption) | (refine Ne.symm ?_; with_reducible assumption))
local macro_rules | `(tactic| walk_at "my_sgn") => `(tactic| first | rw [sgn_p (by with_reducible assumption)] | rw [sgn_n (by with_reducible assumption)])
local macro_rules | `(tactic| walk_at "my_addM") => `(tactic| first
  | rw [addM_e (by walk_at "my_asm")]
  | (rw [addM_1 (by walk_at "my_asm") (by with_reducible assumption)]; walk_at "my_sgn")
  | (rw [addM_0 (by walk_at "my_asm") (by with_reducible assumption)]; walk_at "my_sgn"))
local macro_rules | `(tactic| walk_at "my_add") => `(tactic| (
  (first | rw [addP_le (by omega) (by with_reducible assumption)] | ((first | rw [addP_g (by omega)] | rw [addP_l (by omega)] | rw [addP_e (by omega)]); walk_at "my_addM"));
  (first | rw [pb_n (by with_reducible assumption)] | rw [pb_0])))


set_option maxRecDepth 100000 in
set_option maxHeartbeats 20000000 in
theorem add_n (w : World) (v1 v2 : Value) (x y : Q4) (pr B : Int) (t5 t6 : Tok) (hB : BB B) (hx0 : 0 < x.mn) (hy0 : 0 < y.mn) (hx1 : x.mn ≤ B) (hy1 : y.mn ≤ B)
    (q1 : 0 ≤ shl x.mn (x.ex - y.ex)) (q2 : shl x.mn (x.ex - y.ex) ≤ B) (q3 : 0 ≤ shl y.mn (-(x.ex - y.ex))) (q4 : shl y.mn (-(x.ex - y.ex)) ≤ B) (hz1 : Sz x.mn) (hz2 : Sz y.mn)
    (o1 : x.ex - y.ex ≤ 100) (o2 : -100 ≤ x.ex - y.ex) (hp : 0 < pr) (hp' : pr ≠ 0) :
    Cn w 97 8 [v1, v2, .int pr t5, .str (Str.ofString "n") t6] (fun news => Tm news v1 x ∧ Tm news v2 y) (fun news r => Tm news r (addP rneP x y pr 0)) := by
  w_top off
  unfold Cn
  k_fill
  intro p loose mean mg mb dp un gd cn cs a ccd cl outer A₀ base h₀ L m news s Q E B' F X N T hk ⟨hx, hy⟩ hd hu hret
  refine wpAny_call ?_
  k_dflt (walk_at "my_enter")
  k_steps
  all_goals first
    | (exfalso; omega)
    | (refine hret _ _ _ _ (by k_asm) (by k_asm) (by assumption) (Tm.cast (by assumption) ?_); refine Eq.symm ?_; walk_at "my_add")

set_option maxRecDepth 100000 in
set_option maxHeartbeats 20000000 in
theorem sub_n (w : World) (v1 v2 : Value) (x y : Q4) (pr B : Int) (t5 t6 t7 : Tok) (hB : BB B) (hx0 : 0 < x.mn) (hy0 : 0 < y.mn) (hx1 : x.mn ≤ B) (hy1 : y.mn ≤ B)
    (q1 : 0 ≤ shl x.mn (x.ex - y.ex)) (q2 : shl x.mn (x.ex - y.ex) ≤ B) (q3 : 0 ≤ shl y.mn (-(x.ex - y.ex))) (q4 : shl y.mn (-(x.ex - y.ex)) ≤ B) (hz1 : Sz x.mn) (hz2 : Sz y.mn)
    (o1 : x.ex - y.ex ≤ 100) (o2 : -100 ≤ x.ex - y.ex) (hp : 0 < pr) (hp' : pr ≠ 0) :
    Cn w 97 8 [v1, v2, .int pr t5, .str (Str.ofString "n") t6, .int 1 t7] (fun news => Tm news v1 x ∧ Tm news v2 y) (fun news r => Tm news r (addP rneP x y pr 1)) := by
  w_top off
  unfold Cn
  k_fill
  intro p loose mean mg mb dp un gd cn cs a ccd cl outer A₀ base h₀ L m news s Q E B' F X N T hk ⟨hx, hy⟩ hd hu hret
  refine wpAny_call ?_
  k_dflt (walk_at "my_enter")
  k_steps
  all_goals first
    | (exfalso; omega)
    | (refine hret _ _ _ _ (by k_asm) (by k_asm) (by assumption) (Tm.cast (by assumption) ?_); refine Eq.symm ?_; walk_at "my_add")

set_option maxRecDepth 100000 in
set_option maxHeartbeats 20000000 in
theorem add_0 (w : World) (v1 v2 : Value) (x y : Q4) (B : Int) (hB : BB B) (hx0 : 0 < x.mn) (hy0 : 0 < y.mn) (hx1 : x.mn ≤ B) (hy1 : y.mn ≤ B)
    (q1 : 0 ≤ shl x.mn (x.ex - y.ex)) (q2 : shl x.mn (x.ex - y.ex) ≤ B) (q3 : 0 ≤ shl y.mn (-(x.ex - y.ex))) (q4 : shl y.mn (-(x.ex - y.ex)) ≤ B) (hz1 : Sz x.mn) (hz2 : Sz y.mn)
    (o1 : x.ex - y.ex ≤ 100) (o2 : -100 ≤ x.ex - y.ex) :
    Cn w 97 8 [v1, v2] (fun news => Tm news v1 x ∧ Tm news v2 y) (fun news r => Tm news r (addP rneP x y 0 0)) := by
  w_top off
  unfold Cn
  k_fill
  intro p loose mean mg mb dp un gd cn cs a ccd cl outer A₀ base h₀ L m news s Q E B' F X N T hk ⟨hx, hy⟩ hd hu hret
  refine wpAny_call ?_
  k_dflt (walk_at "my_enter")
  k_steps
  all_goals first
    | (exfalso; omega)
    | (refine hret _ _ _ _ (by k_asm) (by k_asm) (by assumption) (Tm.cast (by assumption) ?_); refine Eq.symm ?_; walk_at "my_add")

set_option maxRecDepth 100000 in
set_option maxHeartbeats 20000000 in
theorem add_nxz (w : World) (v1 v2 : Value) (x y : Q4) (pr B : Int) (t5 t6 : Tok) (hB : BB B) (hx0 : x.mn = 0) (hx1 : x.ex = 0) (hy0 : 0 < y.mn) (hyb : y.bc = blen y.mn) (hy1 : y.mn ≤ B) (hp : 0 < pr) (hp' : pr ≠ 0) :
    Cn w 97 8 [v1, v2, .int pr t5, .str (Str.ofString "n") t6] (fun news => Tm news v1 x ∧ Tm news v2 y) (fun news r => Tm news r (normP rneP (lxor y.sg 0) y.mn y.ex y.bc pr)) := by
  w_top off
  unfold Cn
  k_fill
  intro p loose mean mg mb dp un gd cn cs a ccd cl outer A₀ base h₀ L m news s Q E B' F X N T hk ⟨hx, hy⟩ hd hu hret
  refine wpAny_call ?_
  k_dflt (walk_at "my_enter")
  k_steps
  all_goals first
    | (exfalso; omega)
    | exact hret _ _ _ _ (by k_asm) (by k_asm) (by assumption) (by assumption)

set_option maxRecDepth 100000 in
set_option maxHeartbeats 20000000 in
theorem add_nyz (w : World) (v1 v2 : Value) (x y : Q4) (pr B : Int) (t5 t6 : Tok) (hB : BB B) (hy0 : y.mn = 0) (hy1 : y.ex = 0) (hx0 : 0 < x.mn) (hxb : x.bc = blen x.mn) (hx1 : x.mn ≤ B) (hp : 0 < pr) (hp' : pr ≠ 0) :
    Cn w 97 8 [v1, v2, .int pr t5, .str (Str.ofString "n") t6] (fun news => Tm news v1 x ∧ Tm news v2 y) (fun news r => Tm news r (normP rneP x.sg x.mn x.ex x.bc pr)) := by
  w_top off
  unfold Cn
  k_fill
  intro p loose mean mg mb dp un gd cn cs a ccd cl outer A₀ base h₀ L m news s Q E B' F X N T hk ⟨hx, hy⟩ hd hu hret
  refine wpAny_call ?_
  k_dflt (walk_at "my_enter")
  k_steps
  all_goals first
    | (exfalso; omega)
    | exact hret _ _ _ _ (by k_asm) (by k_asm) (by assumption) (by assumption)

set_option maxRecDepth 100000 in
set_option maxHeartbeats 20000000 in
theorem add_0yz (w : World) (v1 v2 : Value) (x y : Q4) (B : Int) (hB : BB B) (hy0 : y.mn = 0) (hy1 : y.ex = 0) (hx0 : 0 < x.mn) (hxb : x.bc = blen x.mn) (hx1 : x.mn ≤ B) :
    Cn w 97 8 [v1, v2] (fun news => Tm news v1 x ∧ Tm news v2 y) (fun news r => Tm news r (normP rneP x.sg x.mn x.ex x.bc x.bc)) := by
  w_top off
  unfold Cn
  k_fill
  intro p loose mean mg mb dp un gd cn cs a ccd cl outer A₀ base h₀ L m news s Q E B' F X N T hk ⟨hx, hy⟩ hd hu hret
  refine wpAny_call ?_
  k_dflt (walk_at "my_enter")
  k_steps
  all_goals first
    | (exfalso; omega)
    | exact hret _ _ _ _ (by k_asm) (by k_asm) (by assumption) (by assumption)

set_option maxRecDepth 100000 in
set_option maxHeartbeats 20000000 in
theorem add_nzz (w : World) (v1 v2 : Value) (x y : Q4) (pr : Int) (t5 t6 : Tok) (hx0 : x.mn = 0) (hx1 : x.ex = 0) (hy0 : y.mn = 0) (hy1 : y.ex = 0) :
    Cn w 97 8 [v1, v2, .int pr t5, .str (Str.ofString "n") t6] (fun news => Tm news v1 x ∧ Tm news v2 y) (fun news r => Tm news r y) := by
  w_top off
  unfold Cn
  k_fill
  intro p loose mean mg mb dp un gd cn cs a ccd cl outer A₀ base h₀ L m news s Q E B' F X N T hk ⟨hx, hy⟩ hd hu hret
  refine wpAny_call ?_
  k_dflt (walk_at "my_enter")
  k_steps
  all_goals first
    | (exfalso; omega)
    | exact hret _ news _ _ (by k_asm) (by k_asm) (fun _ h => h) (by assumption)

set_option maxRecDepth 100000 in
set_option maxHeartbeats 20000000 in
theorem sub_f (w : World) (v1 v2 : Value) (x y : Q4) (B : Int) (t5 t6 t7 : Tok) (hB : BB B) (hx0 : 0 < x.mn) (hy0 : 0 < y.mn) (hx1 : x.mn ≤ B) (hy1 : y.mn ≤ B)
    (q1 : 0 ≤ shl x.mn (x.ex - y.ex)) (q2 : shl x.mn (x.ex - y.ex) ≤ B) (q3 : 0 ≤ shl y.mn (-(x.ex - y.ex))) (q4 : shl y.mn (-(x.ex - y.ex)) ≤ B) (hz1 : Sz x.mn) (hz2 : Sz y.mn)
    (o1 : x.ex - y.ex ≤ 100) (o2 : -100 ≤ x.ex - y.ex) (ho : x.ex - y.ex ≠ 0) (hg : x.sg = 0) (hs : lxor y.sg 1 = 1)
    (c1 : 0 < x.ex - y.ex → shl x.mn (x.ex - y.ex) < y.mn) (c2 : x.ex - y.ex < 0 → x.mn < shl y.mn (-(x.ex - y.ex))) :
    Cn w 97 8 [v1, v2, .int 5 t5, .str (Str.ofString "f") t6, .int 1 t7] (fun news => Tm news v1 x ∧ Tm news v2 y) (fun news r => ∃ m e, 0 < m ∧ Tm news r (normP ceilP 1 m e (blen m) 5)) := by
  rcases Int.lt_or_gt_of_ne ho with ho | ho
  · replace c2 := c2 ho
    clear c1
    w_top off
    unfold Cn
    k_fill
    intro p loose mean mg mb dp un gd cn cs a ccd cl outer A₀ base h₀ L m news s Q E B' F X N T hk ⟨hx, hy⟩ hd hu hret
    refine wpAny_call ?_
    k_dflt (walk_at "my_enter")
    k_steps
    all_goals first
      | (exfalso; omega)
      | (refine' hret _ _ _ _ (by k_asm) (by k_asm) (by assumption) ⟨_, _, ?mc, ?md⟩; (case md => assumption); (case mc => omega))
  · replace c1 := c1 ho
    clear c2
    w_top off
    unfold Cn
    k_fill
    intro p loose mean mg mb dp un gd cn cs a ccd cl outer A₀ base h₀ L m news s Q E B' F X N T hk ⟨hx, hy⟩ hd hu hret
    refine wpAny_call ?_
    k_dflt (walk_at "my_enter")
    k_steps
    all_goals first
      | (exfalso; omega)
      | (refine' hret _ _ _ _ (by k_asm) (by k_asm) (by assumption) ⟨_, _, ?mc, ?md⟩; (case md => assumption); (case mc => omega))

/-! part P7 -/

def fmeM (sg m e : Int) : Q4 :=
  if land m 1 = 0 then (if land m 2 ≠ 0 then ⟨sg, shr m 1, e + 1, blen m - 1⟩ else ⟨sg, shr m (trailP m), e + trailP m, blen m - trailP m⟩) else ⟨sg, m, e, blen m⟩
/-- from_man_exp of an int that is not 0 -/
def fmeP (n e : Int) : Q4 := if n < 0 then fmeM 1 (-n) e else fmeM 0 n e
section
variable {sg m n e : Int}
theorem fmeM_1 (h : land m 1 = 0) (h2 : land m 2 ≠ 0) : fmeM sg m e = ⟨sg, shr m 1, e + 1, blen m - 1⟩ := by unfold fmeM; rw [if_pos h, if_pos h2]
theorem fmeM_2 (h : land m 1 = 0) (h2 : land m 2 = 0) : fmeM sg m e = ⟨sg, shr m (trailP m), e + trailP m, blen m - trailP m⟩ := by unfold fmeM; rw [if_pos h, if_neg (fun q => q h2)]
theorem fmeM_3 (h : land m 1 ≠ 0) : fmeM sg m e = ⟨sg, m, e, blen m⟩ := by unfold fmeM; rw [if_neg h]
theorem fmeP_n (h : n < 0) : fmeP n e = fmeM 1 (-n) e := if_pos h
theorem fmeP_p (h : ¬ n < 0) : fmeP n e = fmeM 0 n e := if_neg h
end
set_option maxRecDepth 100000 in
set_option maxHeartbeats 8000000 in
theorem fme_c (w : World) (n e : Int) (t1 t2 : Tok) (h : n ≠ 0) :
    Cn w 52 8 [.int n t1, .int e t2] (fun _ => True) (fun news r => Tm news r (fmeP n e)) := by
  w_top off
  unfold Cn
  k_fill
  intro p loose mean mg mb dp un gd cn cs a ccd cl outer A₀ base h₀ L m news s Q E B F X N T hk hR hd hu hret
  refine wpAny_call ?_
  k_dflt (walk_at "my_enter")
  k_steps
  all_goals first
    | (exfalso; omega)
    | refine hret _ _ _ _ (by k_asm) (by k_asm) (fun _ h => .tail _ h) (Tm.new ?_)
  all_goals ((first | rw [fmeP_n (by with_reducible assumption)] | rw [fmeP_p (by with_reducible assumption)]); first
    | exact fmeM_1 (by with_reducible assumption) (by with_reducible assumption)
    | exact fmeM_2 (by with_reducible assumption) (by with_reducible assumption)
    | exact fmeM_3 (by with_reducible assumption))
set_option maxRecDepth 100000 in
set_option maxHeartbeats 8000000 in
theorem neg_c (w : World) (v1 : Value) (x : Q4) (h : x.mn ≠ 0) :
    Cn w 74 8 [v1] (fun news => Tm news v1 x) (fun news r => Tm news r ⟨1 - x.sg, x.mn, x.ex, x.bc⟩) := by
  w_top off
  unfold Cn
  k_fill
  intro p loose mean mg mb dp un gd cn cs a ccd cl outer A₀ base h₀ L m news s Q E B F X N T hk hx hd hu hret
  refine wpAny_call ?_
  k_dflt (walk_at "my_enter")
  k_steps
  all_goals first
    | (exfalso; omega)
    | exact hret _ _ _ _ (by k_asm) (by k_asm) (fun _ h => .tail _ h) (Tm.new rfl)
def absP (x : Q4) : Q4 := ⟨0, x.mn, x.ex, x.bc⟩
theorem absP_0 {x : Q4} (h : x.sg = 0) : x = absP x := by unfold absP; rw [← h]
set_option maxRecDepth 100000 in
set_option maxHeartbeats 8000000 in
/-- of a number that is not 0, or of the text's zero -/
theorem abs_c (w : World) (v1 : Value) (x : Q4) (h : x.mn ≠ 0 ∨ (x.mn = 0 ∧ x.ex = 0 ∧ x.sg = 0))  :
    Cn w 82 8 [v1] (fun news => Tm news v1 x) (fun news r => Tm news r (absP x)) := by
  rcases h with h | ⟨h, h', h''⟩
  all_goals (
    w_top off
    unfold Cn
    k_fill
    intro p loose mean mg mb dp un gd cn cs a ccd cl outer A₀ base h₀ L m news s Q E B F X N T hk hx hd hu hret
    refine wpAny_call ?_
    k_dflt (walk_at "my_enter")
    k_steps
    all_goals first
      | (exfalso; omega)
      | exact hret _ _ _ _ (by k_asm) (by k_asm) (fun _ h => .tail _ h) (Tm.new rfl)
      | exact hret _ news _ _ (by k_asm) (by k_asm) (fun _ h => h) (Tm.cast (by assumption) (absP_0 (by with_reducible assumption))))
def shiftP (x : Q4) (n : Int) : Q4 := if x.mn = 0 then x else ⟨x.sg, x.mn, x.ex + n, x.bc⟩
set_option maxRecDepth 100000 in
set_option maxHeartbeats 8000000 in
theorem shift_c (w : World) (v1 : Value) (x : Q4) (n : Int) (t : Tok) :
    Cn w 120 8 [v1, .int n t] (fun news => Tm news v1 x) (fun news r => Tm news r (shiftP x n)) := by
  w_top off
  unfold Cn
  k_fill
  intro p loose mean mg mb dp un gd cn cs a ccd cl outer A₀ base h₀ L m news s Q E B F X N T hk hx hd hu hret
  refine wpAny_call ?_
  k_dflt (walk_at "my_enter")
  k_steps
  all_goals first
    | (exfalso; omega)
    | exact hret _ _ _ _ (by k_asm) (by k_asm) (fun _ h => .tail _ h) (Tm.new (if_neg (by with_reducible assumption)))
    | exact hret _ news _ _ (by k_asm) (by k_asm) (fun _ h => h) (Tm.cast (by assumption) (Eq.symm (if_pos (by with_reducible assumption))))

/-! part P8 -/

local macro_rules | `(tactic| walk_at "call ref") => `(tactic| (k_here; (with_reducible show wpAny _ _ (call (Value.ref 97) _) _ _ _); k_dflt (refine' Cn.use ?k1 ?k2 ?k3 ?k4 ?k5 ?kK (sub_n _ _ _ _ _ _ _ _ _ _ ?g0 ?g1 ?g2 ?g3 ?g4 ?g5 ?g6 ?g7 ?g8 ?g9 ?g10 ?g11 ?g12 ?g13 ?g14) ?kp ?kd ?ku ?_; (case k1 => k_asm); (case k2 => k_asm); (case k3 => k_asm); (case k4 => k_asm); (case k5 => k_asm); (case kK => first | exact rfl | assumption); (case kp => exact ⟨by walk_at "my_tm", by walk_at "my_tm"⟩); (case g0 => first | with_reducible assumption | omega); (case g1 => first | with_reducible assumption | omega); (case g2 => first | with_reducible assumption | omega); (case g3 => first | with_reducible assumption | omega); (case g4 => first | with_reducible assumption | omega); (case g5 => first | with_reducible assumption | omega); (case g6 => first | with_reducible assumption | omega); (case g7 => first | with_reducible assumption | omega); (case g8 => first | with_reducible assumption | omega); (case g9 => first | with_reducible assumption | omega); (case g10 => first | with_reducible assumption | omega); (case g11 => first | with_reducible assumption | omega); (case g12 => first | with_reducible assumption | omega); (case g13 => first | with_reducible assumption | omega); (case g14 => first | with_reducible assumption | omega); (case kd => ktr_room); (case ku => ktr_units)); k_whole; intro r' news' h' tk' F' N' S' P'; (try k_sweep)))
local macro_rules | `(tactic| walk_at "call ref") => `(tactic| (k_here; (with_reducible show wpAny _ _ (call (Value.ref 97) _) _ _ _); k_dflt (refine' Cn.use ?k1 ?k2 ?k3 ?k4 ?k5 ?kK (sub_f _ _ _ _ _ _ _ _ _ ?g0 ?g1 ?g2 ?g3 ?g4 ?g5 ?g6 ?g7 ?g8 ?g9 ?g10 ?g11 ?g12 ?g13 ?g14 ?g15 ?g16 ?g17) ?kp ?kd ?ku ?_; (case k1 => k_asm); (case k2 => k_asm); (case k3 => k_asm); (case k4 => k_asm); (case k5 => k_asm); (case kK => first | exact rfl | assumption); (case kp => exact ⟨by walk_at "my_tm", by walk_at "my_tm"⟩); (case g0 => first | with_reducible assumption | omega); (case g1 => first | with_reducible assumption | omega); (case g2 => first | with_reducible assumption | omega); (case g3 => first | with_reducible assumption | omega); (case g4 => first | with_reducible assumption | omega); (case g5 => first | with_reducible assumption | omega); (case g6 => first | with_reducible assumption | omega); (case g7 => first | with_reducible assumption | omega); (case g8 => first | with_reducible assumption | omega); (case g9 => first | with_reducible assumption | omega); (case g10 => first | with_reducible assumption | omega); (case g11 => first | with_reducible assumption | omega); (case g12 => first | with_reducible assumption | omega); (case g13 => first | with_reducible assumption | omega); (case g14 => first | with_reducible assumption | omega); (case g15 => first | with_reducible assumption | omega); (case g16 => first | with_reducible assumption | omega); (case g17 => first | with_reducible assumption | omega); (case kd => ktr_room); (case ku => ktr_units)); k_whole; intro r' news' h' tk' F' N' S' P'; (try k_sweep)))

set_option maxRecDepth 100000 in
set_option maxHeartbeats 20000000 in
theorem msub_n (w : World) (v1 v2 : Value) (x y : Q4) (pr B : Int) (t5 t6 : Tok) (hB : BB B) (hx0 : 0 < x.mn) (hy0 : 0 < y.mn) (hx1 : x.mn ≤ B) (hy1 : y.mn ≤ B)
    (q1 : 0 ≤ shl x.mn (x.ex - y.ex)) (q2 : shl x.mn (x.ex - y.ex) ≤ B) (q3 : 0 ≤ shl y.mn (-(x.ex - y.ex))) (q4 : shl y.mn (-(x.ex - y.ex)) ≤ B) (hz1 : Sz x.mn) (hz2 : Sz y.mn)
    (o1 : x.ex - y.ex ≤ 100) (o2 : -100 ≤ x.ex - y.ex) (hp : 0 < pr) (hp' : pr ≠ 0) :
    Cn w 105 10 [v1, v2, .int pr t5, .str (Str.ofString "n") t6] (fun news => Tm news v1 x ∧ Tm news v2 y) (fun news r => Tm news r (addP rneP x y pr 1)) := by
  w_top off
  unfold Cn
  k_fill
  intro p loose mean mg mb dp un gd cn cs a ccd cl outer A₀ base h₀ L m news s Q E B' F X N T hk ⟨hx, hy⟩ hd hu hret
  refine wpAny_call ?_
  k_dflt (walk_at "my_enter")
  k_steps
  all_goals first
    | (exfalso; omega)
    | exact hret _ _ _ _ (by k_asm) (by k_asm) (by assumption) (by assumption)

set_option maxRecDepth 100000 in
set_option maxHeartbeats 20000000 in
theorem msub_f (w : World) (v1 v2 : Value) (x y : Q4) (B : Int) (t5 t6 : Tok) (hB : BB B) (hx0 : 0 < x.mn) (hy0 : 0 < y.mn) (hx1 : x.mn ≤ B) (hy1 : y.mn ≤ B)
    (q1 : 0 ≤ shl x.mn (x.ex - y.ex)) (q2 : shl x.mn (x.ex - y.ex) ≤ B) (q3 : 0 ≤ shl y.mn (-(x.ex - y.ex))) (q4 : shl y.mn (-(x.ex - y.ex)) ≤ B) (hz1 : Sz x.mn) (hz2 : Sz y.mn)
    (o1 : x.ex - y.ex ≤ 100) (o2 : -100 ≤ x.ex - y.ex) (ho : x.ex - y.ex ≠ 0) (hg : x.sg = 0) (hs : lxor y.sg 1 = 1)
    (c1 : 0 < x.ex - y.ex → shl x.mn (x.ex - y.ex) < y.mn) (c2 : x.ex - y.ex < 0 → x.mn < shl y.mn (-(x.ex - y.ex))) :
    Cn w 105 10 [v1, v2, .int 5 t5, .str (Str.ofString "f") t6] (fun news => Tm news v1 x ∧ Tm news v2 y) (fun news r => ∃ m e, 0 < m ∧ Tm news r (normP ceilP 1 m e (blen m) 5)) := by
  w_top off
  unfold Cn
  k_fill
  intro p loose mean mg mb dp un gd cn cs a ccd cl outer A₀ base h₀ L m news s Q E B' F X N T hk ⟨hx, hy⟩ hd hu hret
  refine wpAny_call ?_
  k_dflt (walk_at "my_enter")
  k_steps
  all_goals first
    | (exfalso; omega)
    | exact hret _ _ _ _ (by k_asm) (by k_asm) (by assumption) (by assumption)

theorem norm_sg1 {f : Int → Int → Int} {m e b pr : Int} (h : 0 < m) : (normP f 1 m e b pr).sg = 1 := by
  unfold normP stripP
  rw [if_neg (by omega)]
  repeat' split
  all_goals rfl
/-- mpf_sub as mpf_cmp asks it: a tuple whose sign is 1 -/
theorem msub_g (w : World) (v1 v2 : Value) (x y : Q4) (B : Int) (t5 t6 : Tok) (hB : BB B) (hx0 : 0 < x.mn) (hy0 : 0 < y.mn) (hx1 : x.mn ≤ B) (hy1 : y.mn ≤ B)
    (q1 : 0 ≤ shl x.mn (x.ex - y.ex)) (q2 : shl x.mn (x.ex - y.ex) ≤ B) (q3 : 0 ≤ shl y.mn (-(x.ex - y.ex))) (q4 : shl y.mn (-(x.ex - y.ex)) ≤ B) (hz1 : Sz x.mn) (hz2 : Sz y.mn)
    (o1 : x.ex - y.ex ≤ 100) (o2 : -100 ≤ x.ex - y.ex) (ho : x.ex - y.ex ≠ 0) (hg : x.sg = 0) (hs : lxor y.sg 1 = 1)
    (c1 : 0 < x.ex - y.ex → shl x.mn (x.ex - y.ex) < y.mn) (c2 : x.ex - y.ex < 0 → x.mn < shl y.mn (-(x.ex - y.ex))) :
    Cn w 105 10 [v1, v2, .int 5 t5, .str (Str.ofString "f") t6] (fun news => Tm news v1 x ∧ Tm news v2 y) (fun news r => ∃ q : Q4, q.sg = 1 ∧ Tm news r q) := by
  intro p loose mean mg mb dp un gd cn cs a ccd cl outer A₀ base h₀ L m news s Q E B' F X N T hk hp hd hu hret
  refine msub_f w v1 v2 x y B t5 t6 hB hx0 hy0 hx1 hy1 q1 q2 q3 q4 hz1 hz2 o1 o2 ho hg hs c1 c2 p loose mean mg mb dp un gd cn cs a ccd cl outer A₀ base h₀ L m news s Q E B' F X N T hk hp hd hu ?_
  intro r news' h' tk' F' N' S ⟨m', e', hm, ht⟩
  exact hret r news' h' tk' F' N' S ⟨_, norm_sg1 hm, ht⟩
local macro_rules | `(tactic| walk_at "call ref") => `(tactic| (k_here; (with_reducible show wpAny _ _ (call (Value.ref 105) _) _ _ _); k_dflt (refine' Cn.use ?k1 ?k2 ?k3 ?k4 ?k5 ?kK (msub_n _ _ _ _ _ _ _ _ _ ?g0 ?g1 ?g2 ?g3 ?g4 ?g5 ?g6 ?g7 ?g8 ?g9 ?g10 ?g11 ?g12 ?g13 ?g14) ?kp ?kd ?ku ?_; (case k1 => k_asm); (case k2 => k_asm); (case k3 => k_asm); (case k4 => k_asm); (case k5 => k_asm); (case kK => first | exact rfl | assumption); (case kp => exact ⟨by walk_at "my_tm", by walk_at "my_tm"⟩); (case g0 => first | with_reducible assumption | omega); (case g1 => first | with_reducible assumption | omega); (case g2 => first | with_reducible assumption | omega); (case g3 => first | with_reducible assumption | omega); (case g4 => first | with_reducible assumption | omega); (case g5 => first | with_reducible assumption | omega); (case g6 => first | with_reducible assumption | omega); (case g7 => first | with_reducible assumption | omega); (case g8 => first | with_reducible assumption | omega); (case g9 => first | with_reducible assumption | omega); (case g10 => first | with_reducible assumption | omega); (case g11 => first | with_reducible assumption | omega); (case g12 => first | with_reducible assumption | omega); (case g13 => first | with_reducible assumption | omega); (case g14 => first | with_reducible assumption | omega); (case kd => ktr_room); (case ku => ktr_units)); k_whole; intro r' news' h' tk' F' N' S' P'; (try k_sweep)))
local macro_rules | `(tactic| walk_at "call ref") => `(tactic| (k_here; (with_reducible show wpAny _ _ (call (Value.ref 105) _) _ _ _); k_dflt (refine' Cn.use ?k1 ?k2 ?k3 ?k4 ?k5 ?kK (msub_g _ _ _ _ _ _ _ _ ?g0 ?g1 ?g2 ?g3 ?g4 ?g5 ?g6 ?g7 ?g8 ?g9 ?g10 ?g11 ?g12 ?g13 ?g14 ?g15 ?g16 ?g17) ?kp ?kd ?ku ?_; (case k1 => k_asm); (case k2 => k_asm); (case k3 => k_asm); (case k4 => k_asm); (case k5 => k_asm); (case kK => first | exact rfl | assumption); (case kp => exact ⟨by walk_at "my_tm", by walk_at "my_tm"⟩); (case g0 => first | with_reducible assumption | omega); (case g1 => first | with_reducible assumption | omega); (case g2 => first | with_reducible assumption | omega); (case g3 => first | with_reducible assumption | omega); (case g4 => first | with_reducible assumption | omega); (case g5 => first | with_reducible assumption | omega); (case g6 => first | with_reducible assumption | omega); (case g7 => first | with_reducible assumption | omega); (case g8 => first | with_reducible assumption | omega); (case g9 => first | with_reducible assumption | omega); (case g10 => first | with_reducible assumption | omega); (case g11 => first | with_reducible assumption | omega); (case g12 => first | with_reducible assumption | omega); (case g13 => first | with_reducible assumption | omega); (case g14 => first | with_reducible assumption | omega); (case g15 => first | with_reducible assumption | omega); (case g16 => first | with_reducible assumption | omega); (case g17 => first | with_reducible assumption | omega); (case kd => ktr_room); (case ku => ktr_units)); k_whole; intro r' news' h' tk' F' N' S' P'; refine Exists.elim P' ?_; clear P'; intro q' P'; have Pg := P'.1; have Pt := P'.2; clear P'; (try k_sweep)))

section
variable {prog : Program} {w : World} {A : Around} {E : Value → Shared → Prop} {s : Shared} {h₀ : Heap} {L : Addr} {m : Str → Option Value} {news : List (Addr × Obj)} {P : Params} {v : Value} {x : Q4} {value slice : Expr} {u : Tok} {Q : Value → Shared → Prop}
theorem itemTm0 (F : Fr h₀ L s.heap m) (X : (hd.heap_39 P).In h₀) (N : News h₀ L s.heap news) (hx : Tm news v x) (h : ∀ t, Q (.int x.sg t) s)
    (hs : ∀ a, subscripted slice false (.ref a) (.int 0 u) = operate [.ref a, .int 0 u] (getItem (.ref a) (.int 0 u)) := by intro _; with_unfolding_all rfl) :
    wpAny (model prog w) A (subscriptTail value slice v (.int 0 u)) Q E s := by
  obtain ⟨a, t1, t2, t3, t4, rfl, ht⟩ := hx.tup F X N
  exact item_tupleT ht (by decide) (by decide) (j := 0) rfl rfl (h t1) (hs a)
theorem itemTm3 (F : Fr h₀ L s.heap m) (X : (hd.heap_39 P).In h₀) (N : News h₀ L s.heap news) (hx : Tm news v x) (h : ∀ t, Q (.int x.bc t) s)
    (hs : ∀ a, subscripted slice false (.ref a) (.int 3 u) = operate [.ref a, .int 3 u] (getItem (.ref a) (.int 3 u)) := by intro _; with_unfolding_all rfl) :
    wpAny (model prog w) A (subscriptTail value slice v (.int 3 u)) Q E s := by
  obtain ⟨a, t1, t2, t3, t4, rfl, ht⟩ := hx.tup F X N
  exact item_tupleT ht (by decide) (by decide) (j := 3) rfl rfl (h t4) (hs a)
end
local macro_rules | `(tactic| walk_at "subscriptTail") => `(tactic| (k_here; k_dflt (first | refine' itemTm0 ?k1 ?k2 ?k3 ?k4 ?_ | refine' itemTm3 ?k1 ?k2 ?k3 ?k4 ?_); (case k1 => k_asm); (case k2 => k_asm); (case k3 => k_asm); (case k4 => walk_at "my_tm"); k_whole; intro t'; (try dsimp only)))


set_option maxRecDepth 100000 in
set_option maxHeartbeats 20000000 in
theorem sign_c (w : World) (v1 : Value) (mn ex bc : Int) (h : mn ≠ 0) :
    Cn w 89 4 [v1] (fun news => Tm news v1 ⟨0, mn, ex, bc⟩) (fun _ r => ∃ t, r = .int 1 t) := by
  w_top off
  unfold Cn
  k_fill
  intro p loose mean mg mb dp un gd cn cs a ccd cl outer A₀ base h₀ L m news s Q E B' F X N T hk hx hd hu hret
  refine wpAny_call ?_
  k_dflt (walk_at "my_enter")
  k_steps
  all_goals first
    | (exfalso; omega)
    | exact hret _ news _ _ (by k_asm) (by k_asm) (fun _ h => h) (int_is (by first | rfl | decide))
local macro_rules | `(tactic| walk_at "call ref") => `(tactic| (k_here; (with_reducible show wpAny _ _ (call (Value.ref 89) _) _ _ _); k_dflt (refine' Cn.useI ?k1 ?k2 ?k3 ?k4 ?k5 ?kK (sign_c _ _ _ _ _ ?g0) ?kp ?kd ?ku ?_; (case k1 => k_asm); (case k2 => k_asm); (case k3 => k_asm); (case k4 => k_asm); (case k5 => k_asm); (case kK => first | exact rfl | assumption); (case kp => exact by walk_at "my_tm"); (case g0 => first | with_reducible assumption | omega); (case kd => ktr_room); (case ku => ktr_units)); k_whole; intro t' h' tk' F' N'; (try k_sweep)))

set_option maxRecDepth 100000 in
set_option maxHeartbeats 20000000 in
theorem cmp_z (w : World) (v1 v2 : Value) (mn ex bc : Int) (h : 0 < mn) :
    Cn w 59 12 [v1, v2] (fun news => Tm news v1 ⟨0, 0, 0, 0⟩ ∧ Tm news v2 ⟨0, mn, ex, bc⟩) (fun _ r => ∃ t, r = .int (-1) t) := by
  w_top off
  unfold Cn
  k_fill
  intro p loose mean mg mb dp un gd cn cs a ccd cl outer A₀ base h₀ L m news s Q E B' F X N T hk ⟨hx, hy⟩ hd hu hret
  refine wpAny_call ?_
  k_dflt (walk_at "my_enter")
  k_steps
  all_goals first
    | (exfalso; omega)
    | exact hret _ news _ _ (by k_asm) (by k_asm) (fun _ h => h) (int_is (by first | rfl | decide))

set_option maxRecDepth 100000 in
set_option maxHeartbeats 20000000 in
theorem cmp_p (w : World) (v1 v2 : Value) (m1 e1 b1 m2 e2 b2 B : Int) (hB : BB B) (hx0 : 0 < m1) (hy0 : 0 < m2) (hx1 : m1 ≤ B) (hy1 : m2 ≤ B)
    (q1 : 0 ≤ shl m1 (e1 - e2)) (q2 : shl m1 (e1 - e2) ≤ B) (q3 : 0 ≤ shl m2 (-(e1 - e2))) (q4 : shl m2 (-(e1 - e2)) ≤ B) (hz1 : Sz m1) (hz2 : Sz m2)
    (o1 : e1 - e2 ≤ 100) (o2 : -100 ≤ e1 - e2)
    (c1 : 0 < e1 - e2 → b1 + e1 = b2 + e2 → shl m1 (e1 - e2) < m2) (c2 : e1 - e2 < 0 → b1 + e1 = b2 + e2 → m1 < shl m2 (-(e1 - e2))) (c3 : e1 = e2 → m1 ≤ m2) (c4 : b1 + e1 ≤ b2 + e2) :
    Cn w 59 14 [v1, v2] (fun news => Tm news v1 ⟨0, m1, e1, b1⟩ ∧ Tm news v2 ⟨0, m2, e2, b2⟩) (fun news r => ∃ c t, c ≤ 0 ∧ r = .int c t) := by
  have hs : lxor 0 1 = 1 := by unfold lxor; decide
  have hg : (0 : Int) = 0 := rfl
  by_cases hE : e1 = e2
  · replace c3 := c3 hE
    clear c1 c2
    w_top off
    unfold Cn
    k_fill
    intro p loose mean mg mb dp un gd cn cs a ccd cl outer A₀ base h₀ L m news s Q E B' F X N T hk ⟨hx, hy⟩ hd hu hret
    refine wpAny_call ?_
    k_dflt (walk_at "my_enter")
    k_steps
    all_goals first
      | (exfalso; omega)
      | exact hret _ _ _ _ (by k_asm) (by k_asm) (by first | assumption | exact fun _ h => h) ⟨_, _, by omega, rfl⟩
  · by_cases hb : b1 + e1 = b2 + e2
    · have ho : e1 - e2 ≠ 0 := by omega
      have c1' : 0 < e1 - e2 → shl m1 (e1 - e2) < m2 := fun k => c1 k hb
      have c2' : e1 - e2 < 0 → m1 < shl m2 (-(e1 - e2)) := fun k => c2 k hb
      clear c1 c2
      w_top off
      unfold Cn
      k_fill
      intro p loose mean mg mb dp un gd cn cs a ccd cl outer A₀ base h₀ L m news s Q E B' F X N T hk ⟨hx, hy⟩ hd hu hret
      refine wpAny_call ?_
      k_dflt (walk_at "my_enter")
      k_steps
      all_goals first
        | (exfalso; omega)
        | exact hret _ _ _ _ (by k_asm) (by k_asm) (by first | assumption | exact fun _ h => h) ⟨_, _, by omega, rfl⟩
    · clear c1 c2
      w_top off
      unfold Cn
      k_fill
      intro p loose mean mg mb dp un gd cn cs a ccd cl outer A₀ base h₀ L m news s Q E B' F X N T hk ⟨hx, hy⟩ hd hu hret
      refine wpAny_call ?_
      k_dflt (walk_at "my_enter")
      k_steps
      all_goals first
        | (exfalso; omega)
        | exact hret _ _ _ _ (by k_asm) (by k_asm) (by first | assumption | exact fun _ h => h) ⟨_, _, by omega, rfl⟩

/-! part P9 -/

local macro_rules | `(tactic| walk_at "call ref") => `(tactic| (k_here; (with_reducible show wpAny _ _ (call (Value.ref 59) _) _ _ _); k_dflt (refine' Cn.use ?k1 ?k2 ?k3 ?k4 ?k5 ?kK (cmp_p _ _ _ _ _ _ _ _ _ _ ?g0 ?g1 ?g2 ?g3 ?g4 ?g5 ?g6 ?g7 ?g8 ?g9 ?g10 ?g11 ?g12 ?g13 ?g14 ?g15 ?g16) ?kp ?kd ?ku ?_; (case k1 => k_asm); (case k2 => k_asm); (case k3 => k_asm); (case k4 => k_asm); (case k5 => k_asm); (case kK => first | exact rfl | assumption); (case kp => exact ⟨by walk_at "my_tm", by walk_at "my_tm"⟩); (case g0 => first | with_reducible assumption | omega); (case g1 => first | with_reducible assumption | omega); (case g2 => first | with_reducible assumption | omega); (case g3 => first | with_reducible assumption | omega); (case g4 => first | with_reducible assumption | omega); (case g5 => first | with_reducible assumption | omega); (case g6 => first | with_reducible assumption | omega); (case g7 => first | with_reducible assumption | omega); (case g8 => first | with_reducible assumption | omega); (case g9 => first | with_reducible assumption | omega); (case g10 => first | with_reducible assumption | omega); (case g11 => first | with_reducible assumption | omega); (case g12 => first | with_reducible assumption | omega); (case g13 => first | with_reducible assumption | omega); (case g14 => first | with_reducible assumption | omega); (case g15 => first | with_reducible assumption | omega); (case g16 => first | with_reducible assumption | omega); (case kd => ktr_room); (case ku => ktr_units)); k_whole; intro r' news' h' tk' F' N' S' P'; refine Exists.elim P' ?_; clear P'; intro c' P'; refine Exists.elim P' ?_; clear P'; intro t' P'; have Pc := P'.1; have Pr := P'.2; clear P'; subst Pr; (try k_sweep)))
local macro_rules | `(tactic| walk_at "call ref") => `(tactic| (k_here; (with_reducible show wpAny _ _ (call (Value.ref 59) _) _ _ _); k_dflt (refine' Cn.useI ?k1 ?k2 ?k3 ?k4 ?k5 ?kK (cmp_z _ _ _ _ _ _ ?g0) ?kp ?kd ?ku ?_; (case k1 => k_asm); (case k2 => k_asm); (case k3 => k_asm); (case k4 => k_asm); (case k5 => k_asm); (case kK => first | exact rfl | assumption); (case kp => exact ⟨by walk_at "my_tm", by walk_at "my_tm"⟩); (case g0 => first | with_reducible assumption | omega); (case kd => ktr_room); (case ku => ktr_units)); k_whole; intro t' h' tk' F' N'; (try k_sweep)))
theorem bool_is {b : Bool} (h : b = true) : Value.bool b = Value.bool true := by rw [h]

set_option maxRecDepth 100000 in
set_option maxHeartbeats 20000000 in
theorem le_z (w : World) (v1 v2 : Value) (mn ex bc : Int) (h : 0 < mn) :
    Cn w 66 16 [v1, v2] (fun news => Tm news v1 ⟨0, 0, 0, 0⟩ ∧ Tm news v2 ⟨0, mn, ex, bc⟩) (fun _ r => r = .bool true) := by
  w_top off
  unfold Cn
  k_fill
  intro p loose mean mg mb dp un gd cn cs a ccd cl outer A₀ base h₀ L m news s Q E B' F X N T hk ⟨hx, hy⟩ hd hu hret
  refine wpAny_call ?_
  k_dflt (walk_at "my_enter")
  k_steps
  all_goals first
    | (exfalso; omega)
    | exact hret _ _ _ _ (by k_asm) (by k_asm) (by first | assumption | exact fun _ h => h) (bool_is (by first | rfl | (rw [decide_eq_true_eq]; first | assumption | omega)))

set_option maxRecDepth 100000 in
set_option maxHeartbeats 20000000 in
theorem le_p (w : World) (v1 v2 : Value) (m1 e1 b1 m2 e2 b2 B : Int) (hB : BB B) (hx0 : 0 < m1) (hy0 : 0 < m2) (hx1 : m1 ≤ B) (hy1 : m2 ≤ B)
    (q1 : 0 ≤ shl m1 (e1 - e2)) (q2 : shl m1 (e1 - e2) ≤ B) (q3 : 0 ≤ shl m2 (-(e1 - e2))) (q4 : shl m2 (-(e1 - e2)) ≤ B) (hz1 : Sz m1) (hz2 : Sz m2)
    (o1 : e1 - e2 ≤ 100) (o2 : -100 ≤ e1 - e2)
    (c1 : 0 < e1 - e2 → b1 + e1 = b2 + e2 → shl m1 (e1 - e2) < m2) (c2 : e1 - e2 < 0 → b1 + e1 = b2 + e2 → m1 < shl m2 (-(e1 - e2))) (c3 : e1 = e2 → m1 ≤ m2) (c4 : b1 + e1 ≤ b2 + e2) :
    Cn w 66 18 [v1, v2] (fun news => Tm news v1 ⟨0, m1, e1, b1⟩ ∧ Tm news v2 ⟨0, m2, e2, b2⟩) (fun _ r => r = .bool true) := by
  w_top off
  unfold Cn
  k_fill
  intro p loose mean mg mb dp un gd cn cs a ccd cl outer A₀ base h₀ L m news s Q E B' F X N T hk ⟨hx, hy⟩ hd hu hret
  refine wpAny_call ?_
  k_dflt (walk_at "my_enter")
  k_steps
  all_goals first
    | (exfalso; omega)
    | exact hret _ _ _ _ (by k_asm) (by k_asm) (by first | assumption | exact fun _ h => h) (bool_is (by first | rfl | (rw [decide_eq_true_eq]; first | assumption | omega)))

/-! part M4 -/

/-! ## the words of the walk, on naturals -/
theorem blen_nat (a : Nat) : blen (a : Int) = bl a := by
  unfold blen Builtin.Int.intBits bl
  by_cases h : a = 0
  · subst h; rfl
  · rw [if_neg (by simpa using h), if_neg h, Int.natAbs_natCast]
theorem land_one (a : Int) : land a 1 = a % 2 := by
  unfold land
  have := kbt_mask a 1
  rw [show ((2 : Int) ^ 1 - 1) = 1 by decide, show ((2 : Int) ^ 1) = 2 by decide] at this
  exact this
theorem land_two (a : Int) : land a 2 = (a / 2 % 2) * 2 := by
  unfold land
  have := kbt_bit a 1
  rw [show ((2 : Int) ^ 1) = 2 by decide] at this
  exact this
theorem shr_nat (a n : Nat) : shr (a : Int) (n : Int) = ((a / 2 ^ n : Nat) : Int) := by
  unfold shr
  rw [Int.toNat_natCast, Int.fdiv_eq_ediv_of_nonneg _ (Int.le_of_lt (pow_pos2 n)), Int.natCast_ediv, cast_pow]
theorem shl_nat (a n : Nat) : shl (a : Int) (n : Int) = ((a * 2 ^ n : Nat) : Int) := by
  unfold shl
  rw [Int.toNat_natCast, Int.natCast_mul, cast_pow]
theorem land_mask (a n : Nat) : land (a : Int) (shl 1 (n : Int) - 1) = ((a % 2 ^ n : Nat) : Int) := by
  unfold land shl
  rw [Int.toNat_natCast, Int.one_mul, kbt_mask, Int.natCast_emod, cast_pow]

theorem rneP_nat (a n : Nat) (hn : 0 < n) : rneP (a : Int) (n : Int) = rq a n := by
  obtain ⟨k, rfl⟩ : ∃ k, n = k + 1 := ⟨n - 1, by omega⟩
  have e : ((k + 1 : Nat) : Int) - 1 = (k : Int) := by omega
  have hh := Nat.two_pow_pos k
  unfold rneP
  rw [e, shr_nat, land_one, land_two, land_mask]
  have e1 : shr ((a / 2 ^ k : Nat) : Int) 1 = ((a / 2 ^ (k + 1) : Nat) : Int) := by
    have := shr_nat (a / 2 ^ k) 1
    rw [Nat.pow_one, Nat.div_div_eq_div_mul, ← Nat.pow_succ] at this
    exact this
  rw [e1]
  have d1 : a / 2 ^ (k + 1) = a / 2 ^ k / 2 := by rw [Nat.pow_succ, Nat.div_div_eq_div_mul]
  have d2 : a % 2 ^ (k + 1) = a % 2 ^ k + 2 ^ k * (a / 2 ^ k % 2) := by rw [Nat.pow_succ, Nat.mod_mul]
  have d3 : 2 ^ (k + 1) = 2 * 2 ^ k := by rw [Nat.pow_succ, Nat.mul_comm]
  have d4 := Nat.mod_lt a hh
  unfold rq
  rw [d2, d1, d3]
  generalize a / 2 ^ k = t at *
  generalize a % 2 ^ k = r at *
  generalize 2 ^ k = h at *
  have ht : t % 2 = 0 ∨ t % 2 = 1 := by omega
  rcases ht with ht | ht
  · rw [ht, Nat.mul_zero, Nat.add_zero, if_neg (by omega), if_neg (by omega)]
  · rw [ht, Nat.mul_one]
    by_cases hc : r = 0 ∧ t / 2 % 2 = 0
    · rw [if_neg (by omega), if_neg (by omega)]
    · rw [if_pos (by omega), if_pos (by omega)]
      omega

/-! ## the one tuple of a number z * 2 ^ E -/
def canA (sg e : Int) (a : Nat) : Q4 := ⟨sg, shr a (trailP a), e + trailP a, blen (shr a (trailP a))⟩
def canon (E z : Int) : Q4 := if z = 0 then ⟨0, 0, 0, 0⟩ else canA (if z < 0 then 1 else 0) E z.natAbs

theorem odd_nat (a : Nat) (h : 0 < a) : ∃ j b : Nat, a = (2 * b + 1) * 2 ^ j := by
  induction a using Nat.strongRecOn with
  | _ a ih =>
    by_cases h1 : a % 2 = 1
    · exact ⟨0, a / 2, by rw [Nat.pow_zero, Nat.mul_one]; omega⟩
    · obtain ⟨j, b, e⟩ := ih (a / 2) (by omega) (by omega)
      exact ⟨j + 1, b, by rw [Nat.pow_succ, ← Nat.mul_assoc, ← e]; omega⟩
theorem trail_nat (b j : Nat) : trailP (((2 * b + 1) * 2 ^ j : Nat) : Int) = j := by
  have := trailP_eq j (b : Int)
  rw [← this]
  congr 1
  rw [Int.natCast_mul, cast_pow, Int.mul_comm]
  rfl
theorem shr_odd (b j : Nat) : shr (((2 * b + 1) * 2 ^ j : Nat) : Int) (j : Int) = ((2 * b + 1 : Nat) : Int) := by
  rw [shr_nat, Nat.mul_div_left _ (Nat.two_pow_pos j)]
theorem canA_odd (sg e : Int) (b j : Nat) : canA sg e ((2 * b + 1) * 2 ^ j) = ⟨sg, (2 * b + 1 : Nat), e + j, bl (2 * b + 1)⟩ := by
  unfold canA
  rw [trail_nat, shr_odd, blen_nat]
theorem canA_scale (sg e : Int) (a k : Nat) (h : 0 < a) : canA sg e (a * 2 ^ k) = canA sg (e + k) a := by
  obtain ⟨j, b, rfl⟩ := odd_nat a h
  rw [Nat.mul_assoc, ← Nat.pow_add, canA_odd, canA_odd]
  congr 1
  omega
theorem canon_zero (E : Int) : canon E 0 = ⟨0, 0, 0, 0⟩ := rfl
theorem canon_scale (E z : Int) (k : Nat) : canon E (z * 2 ^ k) = canon (E + k) z := by
  have hk := pow_pos2 k
  by_cases h : z = 0
  · subst h; rw [Int.zero_mul, canon_zero, canon_zero]
  · have h1 : z * 2 ^ k ≠ 0 := Int.mul_ne_zero h (Int.ne_of_gt hk)
    have h2 : (z * 2 ^ k).natAbs = z.natAbs * 2 ^ k := by rw [Int.natAbs_mul, Int.natAbs_pow]; rfl
    have h3 : (z * 2 ^ k < 0) ↔ (z < 0) := ⟨fun q => Int.lt_of_mul_lt_mul_right (a := 2 ^ k) (by rwa [Int.zero_mul]) (Int.le_of_lt hk), fun q => Int.mul_neg_of_neg_of_pos q hk⟩
    unfold canon
    rw [if_neg h, if_neg h1, h2, canA_scale _ _ _ _ (by omega)]
    simp only [h3]
theorem canon_pos (E : Int) (a : Nat) (h : 0 < a) : canon E (a : Int) = canA 0 E a := by
  unfold canon
  rw [if_neg (by omega), if_neg (by omega), Int.natAbs_natCast]
theorem canon_neg (E : Int) (a : Nat) (h : 0 < a) : canon E (-(a : Int)) = canA 1 E a := by
  unfold canon
  rw [if_neg (by omega), if_pos (by omega), Int.natAbs_neg, Int.natAbs_natCast]

theorem bl_one : bl 1 = 1 := by unfold bl; rfl
theorem bl_pos {a : Nat} (h : 0 < a) : 0 < bl a := bl_gt.mpr (by rw [Nat.pow_zero]; exact h)
/-- _normalize's end -/
theorem strip_can (sg ex : Int) (a m : Nat) (ha : 0 < a) (hm : bl a = m ∨ a = 2 ^ m) : stripP sg a ex m = canA sg ex a := by
  obtain ⟨j, b, rfl⟩ := odd_nat a ha
  rw [canA_odd]
  by_cases hj : j = 0
  · subst hj
    rw [Nat.pow_zero, Nat.mul_one] at *
    have e1 : land ((2 * b + 1 : Nat) : Int) 1 ≠ 0 := by rw [land_one]; omega
    by_cases hb : b = 0
    · subst hb
      rw [strip_o1 e1 (by omega), bl_one]
      simp
    · rw [strip_o2 e1 (by omega)]
      have hm' : bl (2 * b + 1) = m := by
        rcases hm with h | h
        · exact h
        · exfalso
          by_cases h0 : m = 0
          · subst h0; rw [Nat.pow_zero] at h; omega
          · have : 2 ^ m = 2 * 2 ^ (m - 1) := by rw [Nat.mul_comm, ← Nat.pow_succ]; congr 1; omega
            omega
      rw [hm']
      simp
  · have e1 : land (((2 * b + 1) * 2 ^ j : Nat) : Int) 1 = 0 := by
      have : 2 ^ j = 2 * 2 ^ (j - 1) := by rw [Nat.mul_comm, ← Nat.pow_succ]; congr 1; omega
      rw [land_one, this, Nat.mul_left_comm]
      omega
    by_cases hb : b = 0
    · subst hb
      rw [strip_e1 e1 (by rw [trail_nat, shr_odd]; rfl), trail_nat, shr_odd, bl_one]
      rfl
    · rw [strip_e2 e1 (by rw [trail_nat, shr_odd]; omega), trail_nat, shr_odd]
      have hm' : bl (2 * b + 1) + j = m := by
        rcases hm with h | h
        · rw [bl_mul (by omega)] at h; exact h
        · exfalso
          by_cases hjm : m ≤ j
          · have h1 : 2 ^ m ≤ 2 ^ j := Nat.pow_le_pow_right (by decide) hjm
            have h2 : 3 * 2 ^ j ≤ (2 * b + 1) * 2 ^ j := Nat.mul_le_mul_right _ (by omega)
            have := Nat.two_pow_pos j
            omega
          · have h1 : 2 ^ m = 2 * 2 ^ (m - j - 1) * 2 ^ j := by
              rw [Nat.mul_assoc, ← Nat.pow_add, Nat.mul_comm, ← Nat.pow_succ]
              congr 1
              omega
            rw [h1] at h
            have := Nat.eq_of_mul_eq_mul_right (Nat.two_pow_pos j) h
            omega
      congr 1
      omega

/-! part M5 -/

theorem RN_pos {p a : Nat} (hp : 0 < p) (h : 0 < a) : 0 < RN p a := by
  by_cases hs : a < 2 ^ p
  · rw [RN_small hs]; exact h
  · have hb : p < bl a := bl_gt.mpr (by omega)
    have h2 : 2 ^ (p - 1) ≤ rq a (bl a - p) := rq_mono_lo (bl_gt.mp (by omega))
    exact Nat.mul_pos (Nat.lt_of_lt_of_le (Nat.two_pow_pos _) h2) (Nat.two_pow_pos _)
/-- _normalize, to the nearest -/
theorem norm_can (sg ex : Int) (a p : Nat) (hp : 0 < p) (ha : 0 < a) : normP rneP sg a ex (bl a) p = canA sg ex (RN p a) := by
  have ha' : (a : Int) ≠ 0 := by omega
  by_cases hb : p < bl a
  · have e : ((bl a : Nat) : Int) - (p : Int) = ((bl a - p : Nat) : Int) := by omega
    rw [norm_hi ha' (by omega), e, rneP_nat _ _ (by omega)]
    have h1 : rq a (bl a - p) ≤ 2 ^ p := rq_mono_hi (by rw [show p + (bl a - p) = bl a by omega]; exact bl_le.mp (Nat.le_refl _))
    have h2 : 2 ^ (p - 1) ≤ rq a (bl a - p) := rq_mono_lo (bl_gt.mp (by omega))
    have h3 : 0 < rq a (bl a - p) := Nat.lt_of_lt_of_le (Nat.two_pow_pos _) h2
    rw [strip_can _ _ _ _ h3, ← canA_scale _ _ _ _ h3]
    · rfl
    · by_cases h4 : rq a (bl a - p) = 2 ^ p
      · exact .inr h4
      · refine .inl ?_
        have h5 : bl (rq a (bl a - p)) ≤ p := bl_le.mpr (by omega)
        have h6 : p - 1 < bl (rq a (bl a - p)) := bl_gt.mpr h2
        omega
  · rw [norm_lo ha' (by omega), strip_can _ _ _ _ ha (.inl rfl), RN_small (bl_le.mp (by omega))]
/-- _normalize, nothing to round -/
theorem norm_can0 (sg ex : Int) (a : Nat) (ha : 0 < a) : normP rneP sg a ex (bl a) (bl a) = canA sg ex a := by
  rw [norm_lo (by omega) (by omega), strip_can _ _ _ _ ha (.inl rfl)]

/-- rounded to p bits; p = 0: not rounded -/
def R0 (p : Nat) (z : Int) : Int := if p = 0 then z else RZ p z
theorem R0_scale (p : Nat) (z : Int) (k : Nat) : R0 p (z * 2 ^ k) = R0 p z * 2 ^ k := by
  unfold R0
  split
  · rfl
  · exact RZ_scale ..
theorem R0_pos {p : Nat} (h : 0 < p) (z : Int) : R0 p z = RZ p z := by unfold R0; rw [if_neg (by omega)]
theorem norm_canZ (sg ex : Int) (a p : Nat) (ha : 0 < a) : normP rneP sg a ex (bl a) (pbP p (bl a)) = canA sg ex (if p = 0 then a else RN p a) := by
  by_cases hp : p = 0
  · subst hp
    rw [if_pos rfl]
    unfold pbP
    rw [if_pos (show ((0 : Nat) : Int) = 0 from rfl)]
    exact norm_can0 _ _ _ ha
  · rw [if_neg hp]
    unfold pbP
    rw [if_neg (by omega)]
    exact norm_can _ _ _ _ (by omega) ha
theorem norm_pos_can (ex : Int) (a p : Nat) : normP rneP 0 a ex (bl a) (pbP p (bl a)) = canon ex (R0 p a) := by
  by_cases ha : a = 0
  · subst ha
    rw [norm_zero (show ((0 : Nat) : Int) = 0 from rfl)]
    unfold R0
    rw [RZ_of_nat, RN_zero]
    simp [canon_zero]
  · rw [norm_canZ _ _ _ _ (by omega)]
    unfold R0
    by_cases hp : p = 0
    · rw [if_pos hp, if_pos hp, canon_pos _ _ (by omega)]
    · rw [if_neg hp, if_neg hp, RZ_of_nat, canon_pos _ _ (RN_pos (by omega) (by omega))]
theorem norm_neg_can (ex : Int) (a p : Nat) (ha : 0 < a) : normP rneP 1 a ex (bl a) (pbP p (bl a)) = canon ex (R0 p (-(a : Int))) := by
  rw [norm_canZ _ _ _ _ ha]
  unfold R0
  by_cases hp : p = 0
  · rw [if_pos hp, if_pos hp, canon_neg _ _ ha]
  · rw [if_neg hp, if_neg hp, RZ_neg, RZ_of_nat, canon_neg _ _ (RN_pos (by omega) ha)]

theorem sgn_can (m e : Int) (p : Nat) : sgnP rneP m e p = canon e (R0 p m) := by
  by_cases h : 0 ≤ m
  · obtain ⟨a, rfl⟩ := Int.eq_ofNat_of_zero_le h
    rw [sgn_p h, blen_nat, norm_pos_can]
  · obtain ⟨a, e⟩ := Int.eq_ofNat_of_zero_le (show 0 ≤ -m by omega)
    rw [sgn_n h, e, blen_nat, norm_neg_can _ _ _ (by omega), ← e, Int.neg_neg]

def sv (s : Int) (a : Nat) : Int := if s = 0 then (a : Int) else -(a : Int)
theorem addM_can (sx sy e : Int) (a b p : Nat) (ha : 0 < a) (hx : sx = 0 ∨ sx = 1) (hy : sy = 0 ∨ sy = 1) : addM rneP sx a sy b e p = canon e (R0 p (sv sx a + sv sy b)) := by
  have e0 : ((b : Int) + (a : Int)) = ((b + a : Nat) : Int) := by omega
  rcases hx with rfl | rfl <;> rcases hy with rfl | rfl
  · rw [addM_e rfl, e0, blen_nat, norm_pos_can]
    congr 2
    unfold sv
    simp
    omega
  · rw [addM_0 (by decide) rfl, sgn_can]
    congr 2
  · rw [addM_1 (by decide) (by decide), sgn_can]
    congr 2
    unfold sv
    simp
    omega
  · rw [addM_e rfl, e0, blen_nat, norm_neg_can _ _ _ (by omega)]
    congr 2
    unfold sv
    simp
    omega

/-- what the tuple of a number is -/
theorem canon_form {z : Int} (h : z ≠ 0) : ∃ (sg : Int) (o j : Nat), (sg = 0 ∨ sg = 1) ∧ o % 2 = 1 ∧ z = sv sg o * 2 ^ j ∧ z.natAbs = o * 2 ^ j ∧ ∀ E, canon E z = ⟨sg, o, E + j, bl o⟩ := by
  obtain ⟨j, b, e⟩ := odd_nat z.natAbs (by omega)
  by_cases hz : z < 0
  · refine ⟨1, 2 * b + 1, j, .inr rfl, by omega, ?_, e, fun E => ?_⟩
    · have : z = -((z.natAbs : Nat) : Int) := by omega
      rw [this, e, Int.natCast_mul, cast_pow, ← Int.neg_mul]
      rfl
    · unfold canon
      rw [if_neg h, if_pos hz, e, canA_odd]
  · refine ⟨0, 2 * b + 1, j, .inl rfl, by omega, ?_, e, fun E => ?_⟩
    · have : z = ((z.natAbs : Nat) : Int) := by omega
      rw [this, e, Int.natCast_mul, cast_pow]
      rfl
    · unfold canon
      rw [if_neg h, if_neg hz, e, canA_odd]

theorem shl_sub (o j j' : Nat) (E : Int) (h : j' ≤ j) : shl (o : Int) (E + j - (E + j')) = ((o * 2 ^ (j - j') : Nat) : Int) := by
  rw [show E + (j : Int) - (E + j') = ((j - j' : Nat) : Int) by omega, shl_nat]
theorem shl_sub' (o j j' : Nat) (E : Int) (h : j ≤ j') : shl (o : Int) (-(E + j - (E + j'))) = ((o * 2 ^ (j' - j) : Nat) : Int) := by
  rw [show -(E + (j : Int) - (E + j')) = ((j' - j : Nat) : Int) by omega, shl_nat]
theorem sv_mul (s : Int) (o k : Nat) : sv s (o * 2 ^ k) = sv s o * 2 ^ k := by
  unfold sv
  split
  · rw [Int.natCast_mul, cast_pow]
  · rw [Int.natCast_mul, cast_pow, Int.neg_mul]

/-- the sign turned where sub is 1 -/
def sub1 (sub w : Int) : Int := if sub = 1 then -w else w
theorem lxor_sv (sg sub : Int) (o j : Nat) (hs : sg = 0 ∨ sg = 1) (hsub : sub = 0 ∨ sub = 1) : (lxor sg sub = 0 ∨ lxor sg sub = 1) ∧ sv (lxor sg sub) o * 2 ^ j = sub1 sub (sv sg o * 2 ^ j) := by
  have l00 : lxor 0 0 = 0 := by unfold lxor; decide
  have l10 : lxor 1 0 = 1 := by unfold lxor; decide
  have l01 : lxor 0 1 = 1 := by unfold lxor; decide
  have l11 : lxor 1 1 = 0 := by unfold lxor; decide
  rcases hs with rfl | rfl <;> rcases hsub with rfl | rfl
  · rw [l00]; exact ⟨.inl rfl, rfl⟩
  · rw [l01]; exact ⟨.inr rfl, by unfold sub1 sv; simp [Int.neg_mul]⟩
  · rw [l10]; exact ⟨.inr rfl, rfl⟩
  · rw [l11]; exact ⟨.inl rfl, by unfold sub1 sv; simp [Int.neg_mul]⟩

theorem addP_can {z w : Int} (E sub : Int) (p : Nat) (hz : z ≠ 0) (hw : w ≠ 0) (hsub : sub = 0 ∨ sub = 1) : addP rneP (canon E z) (canon E w) p sub = canon E (R0 p (z + sub1 sub w)) := by
  obtain ⟨sz, o, j, hs, ho, ez, _, cz⟩ := canon_form hz
  obtain ⟨sw, o', j', hs', ho', ew, _, cw⟩ := canon_form hw
  obtain ⟨l1, l2⟩ := lxor_sv sw sub o' j' hs' hsub
  rw [← ew] at l2
  have o0 : 0 < o := by omega
  have o1 : 0 < o' := by omega
  rw [cz, cw]
  rcases Nat.lt_trichotomy j j' with h | h | h
  · rw [addP_l (by dsimp only; omega)]
    dsimp only
    rw [shl_sub' _ _ _ _ (by omega), addM_can _ _ _ _ _ _ (Nat.mul_pos o1 (Nat.two_pow_pos _)) l1 hs, ← canon_scale, ← R0_scale, Int.add_mul, ← sv_mul, Nat.mul_assoc, ← Nat.pow_add, show j' - j + j = j' by omega, sv_mul, l2, ← ez, Int.add_comm]
  · subst h
    rw [addP_e (by dsimp only; omega)]
    dsimp only
    rw [addM_can _ _ _ _ _ _ o0 hs l1, ← canon_scale, ← R0_scale, Int.add_mul, l2, ← ez]
  · rw [addP_g (by dsimp only; omega)]
    dsimp only
    rw [shl_sub _ _ _ _ (by omega), addM_can _ _ _ _ _ _ (Nat.mul_pos o0 (Nat.two_pow_pos _)) hs l1, ← canon_scale, ← R0_scale, Int.add_mul, l2, ← sv_mul, Nat.mul_assoc, ← Nat.pow_add, show j - j' + j' = j by omega, sv_mul, ← ez]

theorem mulZ_nat (a b : Nat) : mulZ (a : Int) (b : Int) = ((a * b : Nat) : Int) := by unfold mulZ; rw [Int.natCast_mul]
theorem sv_sv (s s' : Int) (o o' : Nat) (hs : s = 0 ∨ s = 1) (hs' : s' = 0 ∨ s' = 1) : (lxor s s' = 0 ∨ lxor s s' = 1) ∧ sv s o * sv s' o' = sv (lxor s s') (o * o') := by
  have l00 : lxor 0 0 = 0 := by unfold lxor; decide
  have l10 : lxor 1 0 = 1 := by unfold lxor; decide
  have l01 : lxor 0 1 = 1 := by unfold lxor; decide
  have l11 : lxor 1 1 = 0 := by unfold lxor; decide
  rcases hs with rfl | rfl <;> rcases hs' with rfl | rfl
  · rw [l00]; exact ⟨.inl rfl, by simp [sv]⟩
  · rw [l01]; exact ⟨.inr rfl, by simp [sv, Int.mul_neg]⟩
  · rw [l10]; exact ⟨.inr rfl, by simp [sv, Int.neg_mul]⟩
  · rw [l11]; exact ⟨.inl rfl, by simp [sv, Int.neg_mul_neg]⟩
theorem canA_sv (sg e : Int) (a : Nat) (h : 0 < a) (hs : sg = 0 ∨ sg = 1) : canA sg e a = canon e (sv sg a) := by
  rcases hs with rfl | rfl
  · exact (canon_pos _ _ h).symm
  · exact (canon_neg _ _ h).symm
theorem RZ_sv (p : Nat) (s : Int) (a : Nat) : RZ p (sv s a) = sv s (RN p a) := by
  unfold sv
  split
  · exact RZ_of_nat ..
  · rw [RZ_neg, RZ_of_nat]
theorem mul_can {z w : Int} (E F : Int) (p : Nat) (hp : 0 < p) (hz : z ≠ 0) (hw : w ≠ 0) :
    normP rneP (lxor (canon E z).sg (canon F w).sg) (mulZ (canon E z).mn (canon F w).mn) ((canon E z).ex + (canon F w).ex) (blen (mulZ (canon E z).mn (canon F w).mn)) p = canon (E + F) (RZ p (z * w)) := by
  obtain ⟨sz, o, j, hs, ho, ez, _, cz⟩ := canon_form hz
  obtain ⟨sw, o', j', hs', ho', ew, _, cw⟩ := canon_form hw
  obtain ⟨l1, l2⟩ := sv_sv sz sw o o' hs hs'
  have o0 : 0 < o * o' := Nat.mul_pos (by omega) (by omega)
  rw [cz, cw]
  dsimp only
  rw [mulZ_nat, blen_nat, norm_can _ _ _ _ hp o0, canA_sv _ _ _ (RN_pos hp o0) l1, ez, ew, mul_scale, l2, RZ_scale, canon_scale, RZ_sv]
  congr 1
  omega
theorem mul_can0 {z w : Int} (E F : Int) (hz : z ≠ 0) (hw : w ≠ 0) :
    (⟨lxor (canon E z).sg (canon F w).sg, mulZ (canon E z).mn (canon F w).mn, (canon E z).ex + (canon F w).ex, blen (mulZ (canon E z).mn (canon F w).mn)⟩ : Q4) = canon (E + F) (z * w) := by
  obtain ⟨sz, o, j, hs, ho, ez, _, cz⟩ := canon_form hz
  obtain ⟨sw, o', j', hs', ho', ew, _, cw⟩ := canon_form hw
  obtain ⟨l1, l2⟩ := sv_sv sz sw o o' hs hs'
  have hodd : o * o' % 2 = 1 := by rw [Nat.mul_mod, ho, ho']
  have o0 : 0 < o * o' := by omega
  rw [cz, cw]
  dsimp only
  have e : o * o' = (2 * (o * o' / 2) + 1) * 2 ^ 0 := by rw [Nat.pow_zero, Nat.mul_one]; omega
  have ca := canA_odd (lxor sz sw) (E + F + (j + j' : Nat)) (o * o' / 2) 0
  rw [← e, show 2 * (o * o' / 2) + 1 = o * o' by omega] at ca
  rw [mulZ_nat, blen_nat, ez, ew, mul_scale, l2, canon_scale, ← canA_sv _ _ _ o0 l1, ca]
  congr 1
  omega

/-! part M6 -/

/-! ## bounds -/
@[irreducible] def Bd (z : Int) : Prop := z ≤ 2 ^ 100 ∧ -(2 ^ 100) ≤ z
theorem Bd.mk {z : Int} (h : z ≤ 2 ^ 100) (h' : -(2 ^ 100) ≤ z) : Bd z := by unfold Bd; exact ⟨h, h'⟩
theorem Bd.out {z : Int} (h : Bd z) : z ≤ 2 ^ 100 ∧ -(2 ^ 100) ≤ z := by unfold Bd at h; exact h
@[irreducible] def Bg : Int := 2 ^ 200
theorem Bd.abs {z : Int} (h : Bd z) : z.natAbs ≤ 2 ^ 100 := by
  have h1 := h.out
  rw [← cast_pow] at h1
  omega
theorem sz_nat {a : Nat} (h : a < 2 ^ 1000) : Sz (a : Int) := by
  refine .mk ?_
  have : (Builtin.Int.intBits (a : Int) : Int) = bl a := by
    have := blen_nat a
    unfold blen at this
    exact this
  have := bl_le.mpr h
  omega
theorem bb_Bg : BB Bg := by
  unfold BB Bg
  intro m h0 h1
  obtain ⟨a, rfl⟩ := Int.eq_ofNat_of_zero_le h0
  rw [blen_nat]
  have : bl a ≤ 202 := bl_le.mpr (by
    have e : (2 : Int) ^ 200 = ((2 ^ 200 : Nat) : Int) := (cast_pow 200).symm
    rw [e] at h1
    have h2 : a ≤ 2 * 2 ^ 200 := by omega
    have h3 : 2 * 2 ^ 200 < 2 ^ 202 := by decide +kernel
    omega)
  omega

/-- what the walk asks of a number's tuple -/
structure CF (E : Int) (x : Q4) : Prop where
  p0 : 0 < x.mn
  p1 : x.mn ≤ Bg
  sz : Sz x.mn
  bc : x.bc = blen x.mn
  e0 : E ≤ x.ex
  e1 : x.ex ≤ E + 100
  s0 : ∀ n, 0 ≤ shl x.mn n
  s1 : ∀ n, n ≤ 100 → shl x.mn n ≤ Bg
theorem canon_cf {z : Int} (E : Int) (h : z ≠ 0) (hb : Bd z) : CF E (canon E z) := by
  obtain ⟨sg, o, j, hs, ho, ez, en, cz⟩ := canon_form h
  have ha := hb.abs
  rw [en] at ha
  have o0 : 0 < o := by omega
  have hj0 := Nat.two_pow_pos j
  have oj : o ≤ 2 ^ 100 := Nat.le_trans (Nat.le_mul_of_pos_right o hj0) ha
  have jj : 2 ^ j ≤ 2 ^ 100 := Nat.le_trans (Nat.le_mul_of_pos_left (2 ^ j) o0) ha
  have j100 : j ≤ 100 := by
    by_cases hj : j ≤ 100
    · exact hj
    · exfalso
      have : 2 ^ 101 ≤ 2 ^ j := Nat.pow_le_pow_right (by decide) (by omega)
      have : 2 ^ 100 < 2 ^ 101 := by decide +kernel
      omega
  have key : ∀ n : Int, ∃ k : Nat, shl (o : Int) n = ((o * 2 ^ k : Nat) : Int) ∧ (n ≤ 100 → k ≤ 100) := fun n => by
    refine ⟨n.toNat, ?_, by omega⟩
    unfold shl
    rw [Int.natCast_mul, cast_pow]
  rw [cz]
  refine ⟨by dsimp only; omega, ?_, sz_nat (Nat.lt_of_le_of_lt oj (by decide +kernel)), (blen_nat _).symm, by dsimp only; omega, by dsimp only; omega, fun n => ?_, fun n hn => ?_⟩
  · unfold Bg
    dsimp only
    rw [← cast_pow]
    have : 2 ^ 100 ≤ 2 ^ 200 := by decide +kernel
    omega
  · obtain ⟨k, e, _⟩ := key n
    dsimp only
    rw [e]
    omega
  · obtain ⟨k, e, hk⟩ := key n
    have hk := hk hn
    dsimp only
    rw [e]
    unfold Bg
    rw [← cast_pow]
    have h1 : 2 ^ k ≤ 2 ^ 100 := Nat.pow_le_pow_right (by decide) hk
    have h2 : o * 2 ^ k ≤ 2 ^ 100 * 2 ^ 100 := Nat.mul_le_mul oj h1
    have h3 : 2 ^ 100 * 2 ^ 100 = 2 ^ 200 := by rw [← Nat.pow_add]
    omega

/-! ## the others -/
theorem fme_can {n : Int} (e : Int) (h : n ≠ 0) : fmeP n e = canon e n := by
  have main : ∀ (sg : Int) (a : Nat), 0 < a → fmeM sg a e = canA sg e a := fun sg a ha => by
    obtain ⟨j, b, rfl⟩ := odd_nat a ha
    by_cases hj : j = 0
    · subst hj
      rw [canA_odd, Nat.pow_zero, Nat.mul_one, fmeM_3 (by rw [land_one]; omega), blen_nat]
      congr 1
      omega
    · have e1 : land (((2 * b + 1) * 2 ^ j : Nat) : Int) 1 = 0 := by
        have : 2 ^ j = 2 * 2 ^ (j - 1) := by rw [Nat.mul_comm, ← Nat.pow_succ]; congr 1; omega
        rw [land_one, this, Nat.mul_left_comm]
        omega
      by_cases h1 : j = 1
      · subst h1
        have e2 : land (((2 * b + 1) * 2 ^ 1 : Nat) : Int) 2 ≠ 0 := by rw [land_two]; omega
        rw [fmeM_1 e1 e2, canA_odd, blen_nat, bl_mul (by omega)]
        have := shr_odd b 1
        rw [show ((1 : Nat) : Int) = 1 from rfl] at this
        rw [this]
        congr 1
        omega
      · have e2 : land (((2 * b + 1) * 2 ^ j : Nat) : Int) 2 = 0 := by
          have : 2 ^ j = 2 * (2 * 2 ^ (j - 2)) := by
            rw [Nat.mul_comm 2 (2 ^ (j - 2)), ← Nat.pow_succ, Nat.mul_comm, ← Nat.pow_succ]
            congr 1
            omega
          rw [land_two, this, Nat.mul_left_comm, Nat.mul_left_comm (2 * b + 1)]
          omega
        rw [fmeM_2 e1 e2, trail_nat, shr_odd, canA_odd, blen_nat, bl_mul (by omega)]
        congr 1
        omega
  by_cases hn : n < 0
  · obtain ⟨a, ea⟩ := Int.eq_ofNat_of_zero_le (show 0 ≤ -n by omega)
    rw [fmeP_n hn, ea, main _ _ (by omega), ← canon_neg _ _ (by omega), ← ea, Int.neg_neg]
  · obtain ⟨a, rfl⟩ := Int.eq_ofNat_of_zero_le (show 0 ≤ n by omega)
    rw [fmeP_p hn, main _ _ (by omega), canon_pos _ _ (by omega)]
theorem neg_can {z : Int} (E : Int) (h : z ≠ 0) : (⟨1 - (canon E z).sg, (canon E z).mn, (canon E z).ex, (canon E z).bc⟩ : Q4) = canon E (-z) := by
  by_cases hz : z < 0
  · obtain ⟨a, ea⟩ := Int.eq_ofNat_of_zero_le (show 0 ≤ -z by omega)
    have e : z = -(a : Int) := by omega
    rw [e, canon_neg _ _ (by omega), Int.neg_neg, canon_pos _ _ (by omega)]
    rfl
  · obtain ⟨a, rfl⟩ := Int.eq_ofNat_of_zero_le (show 0 ≤ z by omega)
    rw [canon_neg _ _ (by omega), canon_pos _ _ (by omega)]
    rfl
theorem abs_can (E z : Int) : absP (canon E z) = canon E z.natAbs := by
  by_cases h : z = 0
  · subst h; rfl
  · rw [canon_pos _ _ (by omega)]
    unfold canon
    rw [if_neg h]
    rfl
theorem shift_can (E z : Int) (n : Nat) : shiftP (canon E z) n = canon E (z * 2 ^ n) := by
  rw [canon_scale]
  by_cases h : z = 0
  · subst h; rfl
  · obtain ⟨sg, o, j, hs, ho, ez, en, cz⟩ := canon_form h
    rw [cz, cz]
    unfold shiftP
    dsimp only
    rw [if_neg (by omega)]
    congr 1
    omega
theorem bits_can {z : Int} {m : Nat} (E : Int) (hm : 1 ≤ m) (h : Bits m z) : (canon E z).bc ≤ m := by
  by_cases hz : z = 0
  · subst hz
    rw [canon_zero]
    exact Int.natCast_nonneg m
  · obtain ⟨sg, o, j, hs, ho, ez, en, cz⟩ := canon_form hz
    obtain ⟨b, i, k, e, h1, h2⟩ := h
    rw [cz]
    dsimp only
    have e' : o * 2 ^ j * 2 ^ i = b.natAbs * 2 ^ k := by
      have := congrArg Int.natAbs e
      rw [Int.natAbs_mul, Int.natAbs_mul, Int.natAbs_pow, Int.natAbs_pow, en] at this
      exact this
    have hb : b.natAbs ≤ 2 ^ m := by rw [← cast_pow] at h1 h2; omega
    have hob : o ≤ b.natAbs := by
      rw [Nat.mul_assoc, ← Nat.pow_add] at e'
      by_cases hk : k ≤ j + i
      · have : 2 ^ (j + i) = 2 ^ (j + i - k) * 2 ^ k := by rw [← Nat.pow_add]; congr 1; omega
        rw [this, ← Nat.mul_assoc] at e'
        have := Nat.eq_of_mul_eq_mul_right (Nat.two_pow_pos k) e'
        rw [← this]
        exact Nat.le_mul_of_pos_right o (Nat.two_pow_pos _)
      · exfalso
        have : 2 ^ k = 2 * 2 ^ (k - (j + i) - 1) * 2 ^ (j + i) := by
          rw [Nat.mul_comm 2, ← Nat.pow_succ, ← Nat.pow_add]
          congr 1
          omega
        rw [this, ← Nat.mul_assoc] at e'
        have := Nat.eq_of_mul_eq_mul_right (Nat.two_pow_pos _) e'
        rw [Nat.mul_left_comm] at this
        omega
    have ho2 : o < 2 ^ m := by
      have : 2 ^ m = 2 * 2 ^ (m - 1) := by rw [Nat.mul_comm, ← Nat.pow_succ]; congr 1; omega
      omega
    exact Int.ofNat_le.mpr (bl_le.mpr ho2)

/-- what mpf_cmp asks -/
theorem cmp_can {z w : Int} (E : Int) (hz : 0 < z) (h : z ≤ w) :
    (canon E z).sg = 0 ∧ (canon E w).sg = 0 ∧
    (0 < (canon E z).ex - (canon E w).ex → shl (canon E z).mn ((canon E z).ex - (canon E w).ex) < (canon E w).mn) ∧
    ((canon E z).ex - (canon E w).ex < 0 → (canon E z).mn < shl (canon E w).mn (-((canon E z).ex - (canon E w).ex))) ∧
    ((canon E z).ex = (canon E w).ex → (canon E z).mn ≤ (canon E w).mn) ∧
    (canon E z).bc + (canon E z).ex ≤ (canon E w).bc + (canon E w).ex := by
  have sg0 : ∀ u : Int, 0 < u → (canon E u).sg = 0 := fun u hu => by
    unfold canon
    rw [if_neg (by omega), if_neg (by omega)]
    rfl
  have hs1 := sg0 z hz
  have hs2 := sg0 w (by omega)
  obtain ⟨sg, o, j, hs, ho, ez, en, cz⟩ := canon_form (z := z) (by omega)
  obtain ⟨sg', o', j', hs', ho', ew, en', cw⟩ := canon_form (z := w) (by omega)
  have hle : o * 2 ^ j ≤ o' * 2 ^ j' := by rw [← en, ← en']; omega
  refine ⟨hs1, hs2, ?_⟩
  rw [cz, cw]
  dsimp only
  refine ⟨fun hj => ?_, fun hj => ?_, fun hj => ?_, ?_⟩
  · rw [shl_sub _ _ _ _ (by omega)]
    have e1 : 2 ^ j = 2 ^ (j - j') * 2 ^ j' := by rw [← Nat.pow_add]; congr 1; omega
    rw [e1, ← Nat.mul_assoc] at hle
    have h1 := Nat.le_of_mul_le_mul_right hle (Nat.two_pow_pos j')
    have e2 : 2 ^ (j - j') = 2 * 2 ^ (j - j' - 1) := by rw [Nat.mul_comm, ← Nat.pow_succ]; congr 1; omega
    rw [e2, Nat.mul_left_comm] at h1 ⊢
    omega
  · rw [shl_sub' _ _ _ _ (by omega)]
    have e1 : 2 ^ j' = 2 ^ (j' - j) * 2 ^ j := by rw [← Nat.pow_add]; congr 1; omega
    rw [e1, ← Nat.mul_assoc] at hle
    have h1 := Nat.le_of_mul_le_mul_right hle (Nat.two_pow_pos j)
    have e2 : 2 ^ (j' - j) = 2 * 2 ^ (j' - j - 1) := by rw [Nat.mul_comm, ← Nat.pow_succ]; congr 1; omega
    rw [e2, Nat.mul_left_comm] at h1 ⊢
    omega
  · have : j = j' := by omega
    subst this
    have := Nat.le_of_mul_le_mul_right hle (Nat.two_pow_pos j)
    omega
  · have h1 : bl (o * 2 ^ j) ≤ bl (o' * 2 ^ j') := bl_le.mpr (Nat.lt_of_le_of_lt hle (bl_le.mp (Nat.le_refl _)))
    rw [bl_mul (by omega), bl_mul (by omega)] at h1
    omega

/-! part P10 -/

theorem Cn.imp {w : World} {f : Addr} {sz : Nat} {vs : List Value} {Pre Pre' : List (Addr × Obj) → Prop} {Post Post' : List (Addr × Obj) → Value → Prop}
    (C : Cn w f sz vs Pre Post) (hp : ∀ news, Pre' news → Pre news) (hq : ∀ news r, Post news r → Post' news r) : Cn w f sz vs Pre' Post' := by
  intro p loose mean mg mb dp un gd cn cs a ccd cl outer A₀ base h₀ L m news s Q E B' F X N T hk hP hd hu hret
  exact C p loose mean mg mb dp un gd cn cs a ccd cl outer A₀ base h₀ L m news s Q E B' F X N T hk (hp _ hP) hd hu fun r news' h' tk' F' N' S P' => hret r news' h' tk' F' N' S (hq _ _ P')

theorem sz_zero : Sz 0 := .mk (by decide)
theorem mul_bl {a b : Int} {p : Nat} (h0 : 0 < a) (h1 : a ≤ Bg) (h2 : 0 < b) (h3 : b ≤ Bg) (hp : 2 ≤ p) : mulZ a b ≠ 0 ∧ 0 ≤ mulZ a b ∧ blen (mulZ a b) - (p : Int) < 400 := by
  have hm : 0 < mulZ a b := by unfold mulZ; exact Int.mul_pos h0 h2
  refine ⟨by omega, by omega, ?_⟩
  obtain ⟨m, e⟩ := Int.eq_ofNat_of_zero_le (show 0 ≤ mulZ a b by omega)
  have hle : mulZ a b ≤ 2 ^ 200 * 2 ^ 200 := by
    unfold mulZ
    unfold Bg at h1 h3
    exact Int.mul_le_mul h1 h3 (by omega) (Int.le_of_lt (pow_pos2 _))
  rw [← Int.pow_add, ← cast_pow, e] at hle
  rw [e, blen_nat]
  have : bl m ≤ 401 := bl_le.mpr (by
    have h5 : m ≤ 2 ^ (200 + 200) := by omega
    have h6 : 2 ^ (200 + 200) < 2 ^ 401 := by decide +kernel
    omega)
  omega

theorem RZ_zero (p : Nat) : RZ p 0 = 0 := by
  have := RZ_of_nat p 0
  rw [RN_zero] at this
  exact this
theorem mulC (w : World) (v1 v2 : Value) (E F G z u r pr : Int) (p : Nat) (t5 t6 : Tok) (hp : pr = p) (hp0 : 2 ≤ p) (hG : E + F = G) (hr : RZ p (z * u) = r) (bz : Bd z) (bu : Bd u) :
    Cn w 113 8 [v1, v2, .int pr t5, .str (Str.ofString "n") t6] (fun news => Tm news v1 (canon E z) ∧ Tm news v2 (canon F u)) (fun news x => Tm news x (canon G r)) := by
  subst hp hG hr
  by_cases hz : z = 0
  · subst hz
    rw [Int.zero_mul, RZ_zero, canon_zero, canon_zero]
    have e0 : ∀ b : Int, mulZ 0 b = 0 := fun b => by unfold mulZ; rw [Int.zero_mul]
    by_cases hu : u = 0
    · subst hu
      rw [canon_zero]
      exact mul_z w v1 v2 _ _ _ t5 t6 (e0 0) sz_zero sz_zero (.inl ⟨rfl, rfl, rfl, rfl⟩)
    · have c := canon_cf F hu bu
      exact mul_z w v1 v2 _ _ _ t5 t6 (e0 _) sz_zero c.sz (.inr (.inl ⟨rfl, rfl, by have := c.p0; omega⟩))
  · have cz := canon_cf E hz bz
    by_cases hu : u = 0
    · subst hu
      rw [Int.mul_zero, RZ_zero, canon_zero, canon_zero]
      exact mul_z w v1 v2 _ _ _ t5 t6 (by unfold mulZ; rw [Int.mul_zero]) cz.sz sz_zero (.inr (.inr ⟨by have := cz.p0; omega, rfl, rfl⟩))
    · have cu := canon_cf F hu bu
      obtain ⟨m1, m2, m3⟩ := mul_bl cz.p0 cz.p1 cu.p0 cu.p1 hp0
      rw [← mul_can E F p (by omega) hz hu]
      exact mul_n0 w v1 v2 _ _ _ t5 t6 m1 m2 cz.sz cu.sz (by omega) m3
theorem mul0C (w : World) (v1 v2 : Value) (E F G z u r : Int) (hG : E + F = G) (hr : z * u = r) (hz : z ≠ 0) (hu : u ≠ 0) (bz : Bd z) (bu : Bd u) :
    Cn w 113 8 [v1, v2] (fun news => Tm news v1 (canon E z) ∧ Tm news v2 (canon F u)) (fun news x => Tm news x (canon G r)) := by
  subst hG hr
  have cz := canon_cf E hz bz
  have cu := canon_cf F hu bu
  obtain ⟨m1, m2, m3⟩ := mul_bl (p := 2) cz.p0 cz.p1 cu.p0 cu.p1 (by omega)
  rw [← mul_can0 E F hz hu]
  exact mul_00 w v1 v2 _ _ m1 cz.sz cu.sz

theorem lxor_zero {s : Int} (h : s = 0 ∨ s = 1) : lxor s 0 = s := by
  rcases h with rfl | rfl
  · unfold lxor; decide
  · unfold lxor; decide
theorem canon_sg (E : Int) {z : Int} (h : z ≠ 0) : (canon E z).sg = 0 ∨ (canon E z).sg = 1 := by
  obtain ⟨sg, o, j, hs, ho, ez, en, cz⟩ := canon_form h
  rw [cz]
  exact hs
theorem norm_self {z : Int} (E : Int) (p : Nat) (hp : 0 < p) (h : z ≠ 0) : normP rneP (canon E z).sg (canon E z).mn (canon E z).ex (canon E z).bc p = canon E (RZ p z) := by
  obtain ⟨sg, o, j, hs, ho, ez, en, cz⟩ := canon_form h
  rw [cz]
  dsimp only
  rw [norm_can _ _ _ _ hp (by omega), canA_sv _ _ _ (RN_pos hp (by omega)) hs, ez, RZ_scale, RZ_sv, canon_scale]
theorem norm_self0 {z : Int} (E : Int) (h : z ≠ 0) : normP rneP (canon E z).sg (canon E z).mn (canon E z).ex (canon E z).bc (canon E z).bc = canon E z := by
  obtain ⟨sg, o, j, hs, ho, ez, en, cz⟩ := canon_form h
  have hc := cz E
  rw [hc]
  dsimp only
  rw [norm_can0 _ _ _ (by omega), canA_sv _ _ _ (by omega) hs, ← canon_scale, ← ez, hc]

theorem addC (w : World) (v1 v2 : Value) (E z u r pr : Int) (p : Nat) (t5 t6 : Tok) (hp : pr = p) (hp0 : 2 ≤ p) (hr : RZ p (z + u) = r) (bz : Bd z) (bu : Bd u) :
    Cn w 97 8 [v1, v2, .int pr t5, .str (Str.ofString "n") t6] (fun news => Tm news v1 (canon E z) ∧ Tm news v2 (canon E u)) (fun news x => Tm news x (canon E r)) := by
  subst hp hr
  by_cases hz : z = 0
  · subst hz
    rw [Int.zero_add, canon_zero]
    by_cases hu : u = 0
    · subst hu
      rw [RZ_zero, canon_zero]
      exact add_nzz w v1 v2 _ _ _ t5 t6 rfl rfl rfl rfl
    · have c := canon_cf E hu bu
      rw [← norm_self E p (by omega) hu]
      refine Cn.imp (add_nxz w v1 v2 ⟨0, 0, 0, 0⟩ (canon E u) p Bg t5 t6 bb_Bg rfl rfl c.p0 c.bc c.p1 (by omega) (by omega)) (fun _ h => h) fun _ _ h => ?_
      rw [lxor_zero (canon_sg E hu)] at h
      exact h
  · have cz := canon_cf E hz bz
    by_cases hu : u = 0
    · subst hu
      rw [Int.add_zero, ← norm_self E p (by omega) hz, canon_zero]
      exact add_nyz w v1 v2 _ _ _ Bg t5 t6 bb_Bg rfl rfl cz.p0 cz.bc cz.p1 (by omega) (by omega)
    · have cu := canon_cf E hu bu
      have h := addP_can (z := z) (w := u) E 0 p hz hu (.inl rfl)
      rw [R0_pos (by omega), show sub1 0 u = u from rfl] at h
      rw [← h]
      have a1 := cz.e0; have a2 := cz.e1; have a3 := cu.e0; have a4 := cu.e1
      exact add_n w v1 v2 _ _ _ Bg t5 t6 bb_Bg cz.p0 cu.p0 cz.p1 cu.p1 (cz.s0 _) (cz.s1 _ (by omega)) (cu.s0 _) (cu.s1 _ (by omega)) cz.sz cu.sz (by omega) (by omega) (by omega) (by omega)
theorem subC (w : World) (v1 v2 : Value) (E z u r pr : Int) (p : Nat) (t5 t6 : Tok) (hp : pr = p) (hp0 : 2 ≤ p) (hr : RZ p (z - u) = r) (hz : z ≠ 0) (hu : u ≠ 0) (bz : Bd z) (bu : Bd u) :
    Cn w 105 10 [v1, v2, .int pr t5, .str (Str.ofString "n") t6] (fun news => Tm news v1 (canon E z) ∧ Tm news v2 (canon E u)) (fun news x => Tm news x (canon E r)) := by
  subst hp hr
  have cz := canon_cf E hz bz
  have cu := canon_cf E hu bu
  have h := addP_can (z := z) (w := u) E 1 p hz hu (.inr rfl)
  rw [R0_pos (by omega), show sub1 1 u = -u from rfl, ← Int.sub_eq_add_neg] at h
  rw [← h]
  have a1 := cz.e0; have a2 := cz.e1; have a3 := cu.e0; have a4 := cu.e1
  exact msub_n w v1 v2 _ _ _ Bg t5 t6 bb_Bg cz.p0 cu.p0 cz.p1 cu.p1 (cz.s0 _) (cz.s1 _ (by omega)) (cu.s0 _) (cu.s1 _ (by omega)) cz.sz cu.sz (by omega) (by omega) (by omega) (by omega)
theorem add0C (w : World) (v1 v2 : Value) (E z u r : Int) (hr : z + u = r) (hz : z ≠ 0) (bz : Bd z) (bu : Bd u) :
    Cn w 97 8 [v1, v2] (fun news => Tm news v1 (canon E z) ∧ Tm news v2 (canon E u)) (fun news x => Tm news x (canon E r)) := by
  subst hr
  have cz := canon_cf E hz bz
  by_cases hu : u = 0
  · subst hu
    have h := add_0yz w v1 v2 (canon E z) ⟨0, 0, 0, 0⟩ Bg bb_Bg rfl rfl cz.p0 cz.bc cz.p1
    rw [norm_self0 E hz] at h
    rw [Int.add_zero, canon_zero]
    exact h
  · have cu := canon_cf E hu bu
    have h := addP_can (z := z) (w := u) E 0 0 hz hu (.inl rfl)
    rw [show R0 0 (z + sub1 0 u) = z + u from rfl] at h
    rw [← h]
    have a1 := cz.e0; have a2 := cz.e1; have a3 := cu.e0; have a4 := cu.e1
    exact add_0 w v1 v2 _ _ Bg bb_Bg cz.p0 cu.p0 cz.p1 cu.p1 (cz.s0 _) (cz.s1 _ (by omega)) (cu.s0 _) (cu.s1 _ (by omega)) cz.sz cu.sz (by omega) (by omega)
theorem fmeC (w : World) (n e : Int) (t1 t2 : Tok) (h : n ≠ 0) :
    Cn w 52 8 [.int n t1, .int e t2] (fun _ => True) (fun news r => Tm news r (canon e n)) := by
  rw [← fme_can e h]
  exact fme_c w n e t1 t2 h
theorem negC (w : World) (v1 : Value) (E z r : Int) (hr : -z = r) (h : z ≠ 0) (b : Bd z) :
    Cn w 74 8 [v1] (fun news => Tm news v1 (canon E z)) (fun news x => Tm news x (canon E r)) := by
  subst hr
  have c := canon_cf E h b
  rw [← neg_can E h]
  exact neg_c w v1 _ (by have := c.p0; omega)
theorem absC (w : World) (v1 : Value) (E z r : Int) (hr : (z.natAbs : Int) = r) (b : Bd z) :
    Cn w 82 8 [v1] (fun news => Tm news v1 (canon E z)) (fun news x => Tm news x (canon E r)) := by
  subst hr
  rw [← abs_can]
  refine abs_c w v1 _ ?_
  by_cases h : z = 0
  · subst h
    exact .inr ⟨rfl, rfl, rfl⟩
  · have c := canon_cf E h b
    exact .inl (by have := c.p0; omega)
theorem shiftC (w : World) (v1 : Value) (E z r n : Int) (p : Nat) (t : Tok) (hp : n = p) (hr : z * 2 ^ p = r) :
    Cn w 120 8 [v1, .int n t] (fun news => Tm news v1 (canon E z)) (fun news x => Tm news x (canon E r)) := by
  subst hp hr
  rw [← shift_can]
  exact shift_c w v1 _ _ t
theorem q4_sg {x : Q4} (h : x.sg = 0) : (⟨0, x.mn, x.ex, x.bc⟩ : Q4) = x := by rw [← h]
theorem leC (w : World) (v1 v2 : Value) (E z u : Int) (hz : 0 ≤ z) (hzu : z ≤ u) (hu : 0 < u) (bu : Bd u) :
    Cn w 66 18 [v1, v2] (fun news => Tm news v1 (canon E z) ∧ Tm news v2 (canon E u)) (fun _ r => r = .bool true) := by
  have cu := canon_cf E (show u ≠ 0 by omega) bu
  by_cases h0 : z = 0
  · subst h0
    have hs : (canon E u).sg = 0 := (cmp_can E hu (Int.le_refl u)).1
    rw [canon_zero, ← q4_sg hs]
    intro p loose mean mg mb dp un gd cn cs a ccd cl outer A₀ base h₀ L m news s Q E' B' F X N T hk hP hd hu' hret
    exact le_z w v1 v2 _ _ _ cu.p0 p loose mean mg mb dp un gd cn cs a ccd cl outer A₀ base h₀ L m news s Q E' B' F X N T hk hP (by omega) (by omega) hret
  · have bz : Bd z := by
      have := bu.out
      exact .mk (by omega) (by omega)
    have cz := canon_cf E h0 bz
    obtain ⟨s1, s2, c1, c2, c3, c4⟩ := cmp_can E (show 0 < z by omega) hzu
    rw [← q4_sg s1, ← q4_sg s2]
    have a1 := cz.e0; have a2 := cz.e1; have a3 := cu.e0; have a4 := cu.e1
    exact le_p w v1 v2 _ _ _ _ _ _ Bg bb_Bg cz.p0 cu.p0 cz.p1 cu.p1 (cz.s0 _) (cz.s1 _ (by omega)) (cu.s0 _) (cu.s1 _ (by omega)) cz.sz cu.sz (by omega) (by omega) (fun h _ => c1 h) (fun h _ => c2 h) c3 c4

/-! part P11 -/

@[irreducible] def pw (n : Int) : Int := 2 ^ n.toNat
theorem pw_nat (s : Nat) : pw (s : Int) = 2 ^ s := by unfold pw; rw [Int.toNat_natCast]
theorem r_pow2 {prog : Program} {w : World} {A : Around} {E : Value → Shared → Prop} {s : Shared} {n : Int} {t u : Tok} {Q : Value → Shared → Prop} (hn : 0 ≤ n) (hm : n ≤ 1000) (h : Q (.int (pw n) s.toks) { s with toks := s.toks + 1 }) :
    wpAny (model prog w) A (binaryOp .Pow (.int 2 t) (.int n u)) Q E s :=
  pow_int_small hn (by omega) (by decide) (by unfold pw at h; exact h)
theorem Tm.tail {q : Addr × Obj} {news : List (Addr × Obj)} {v : Value} {x : Q4} (h : Tm news v x) : Tm (q :: news) v x := h.mono fun _ h => .tail _ h
theorem mem_sub {q : Addr × Obj} {old news : List (Addr × Obj)} (S : ∀ p ∈ old, p ∈ news) (h : q ∈ old) : q ∈ news := S _ h
theorem sub_tail {q : Addr × Obj} {old news : List (Addr × Obj)} (S : ∀ p ∈ old, p ∈ news) : ∀ p ∈ old, p ∈ q :: news := fun p h => .tail _ (S p h)
theorem sub_trans {a b c : List (Addr × Obj)} (S : ∀ p ∈ b, p ∈ c) (S' : ∀ p ∈ a, p ∈ b) : ∀ p ∈ a, p ∈ c := fun p h => S p (S' p h)
theorem sub_self {a : List (Addr × Obj)} : ∀ p ∈ a, p ∈ a := fun _ h => h
/-- a mark: the ledger that the caller keeps -/
def OldL (_old : List (Addr × Obj)) : Prop := True
def OldOff (old : List (Addr × Obj)) (I : Addr) : Prop := ∀ p ∈ old, p.1 ≠ I
theorem old_off {old led : List (Addr × Obj)} {I : Addr} (_ : OldL old) (l1 : ∀ p ∈ led, p.1 < I) (S : ∀ p ∈ old, p ∈ led) : OldOff old I := fun p hp => Nat.ne_of_lt (l1 p (S p hp))
/-- a ledger without the objects of a class, but for the caller's -/
@[irreducible] noncomputable def offL (old : List (Addr × Obj)) (c : Value) (l : List (Addr × Obj)) : List (Addr × Obj) := l.filter fun p => @decide (p.2.cls ≠ c ∨ p ∈ old) (Classical.propDecidable _)
theorem mem_offL {old : List (Addr × Obj)} {c : Value} {l : List (Addr × Obj)} {q : Addr × Obj} : q ∈ offL old c l ↔ q ∈ l ∧ (q.2.cls ≠ c ∨ q ∈ old) := by
  unfold offL
  rw [List.mem_filter]
  exact and_congr_right fun _ => ⟨fun h => @of_decide_eq_true _ (Classical.propDecidable _) h, fun h => @decide_eq_true _ (Classical.propDecidable _) h⟩
theorem type_ne {a b : String} (h : (a == b) = false) : (Value.type a) ≠ Value.type b := fun e => by
  cases e
  rw [beq_self_eq_true] at h
  cases h
theorem mem_off {old : List (Addr × Obj)} {c : Value} {l : List (Addr × Obj)} {q : Addr × Obj} {a b : String} (hc : c = .type b) (hq : q.2.cls = .type a) (hn : (a == b) = false) (h : q ∈ l) : q ∈ offL old c l :=
  mem_offL.mpr ⟨h, .inl (by rw [hc, hq]; exact type_ne hn)⟩
theorem sub_off {old : List (Addr × Obj)} {c : Value} {l : List (Addr × Obj)} (S : ∀ p ∈ old, p ∈ l) : ∀ p ∈ old, p ∈ offL old c l := fun p hp => mem_offL.mpr ⟨S p hp, .inr hp⟩
theorem Tm.off {old : List (Addr × Obj)} {c : Value} {l : List (Addr × Obj)} {v : Value} {x : Q4} {b : String} (hc : c = .type b) (hn : ("tuple" == b) = false) (h : Tm l v x) : Tm (offL old c l) v x :=
  ⟨h.out.imp (fun ⟨a, t1, t2, t3, t4, k, e, hm⟩ => ⟨a, t1, t2, t3, t4, k, e, mem_off hc rfl hn hm⟩) id⟩
theorem UnrEndW.own {h₀ : Heap} {L I : Addr} {o : Obj} {rest : (Str → Option Value) → List (Addr × Obj) → Prop} {s₁ : Shared} {h' : Heap} {tk : Nat} {m' : Str → Option Value} {old all : List (Addr × Obj)} (O : OldOff old I)
    (F : Fr h₀ L h' m') (N : News h₀ L h' all) (hI : (I, o) ∈ all) (r : rest m' (offL old o.cls all)) : UnrEndW h₀ L s₁ [(I, o)] rest { s₁ with heap := h', toks := tk } := by
  refine ⟨h', tk, m', offL old o.cls all, rfl, F, fun p hp => ?_, fun p hp q hq e => ?_, r⟩
  · rcases List.mem_append.mp hp with hp | hp
    · rw [List.mem_singleton.mp hp]; exact N _ hI
    · exact N p (mem_offL.mp hp).1
  · rw [List.mem_singleton.mp hq] at e
    rcases (mem_offL.mp hp).2 with hc | hc
    · have h1 := (N p (mem_offL.mp hp).1).1
      have h2 := (N _ hI).1
      rw [e] at h1
      exact hc (congrArg Obj.cls (Option.some.inj (h1.symm.trans h2)))
    · exact O p hc e
theorem sub_nil {l : List (Addr × Obj)} : ∀ p ∈ ([] : List (Addr × Obj)), p ∈ l := fun _ h => nomatch h
local macro_rules | `(tactic| walk_at "my_tmR") => `(tactic| first | with_reducible assumption | (refine Tm.tail ?_; walk_at "my_tmR") | (refine Tm.mono (by with_reducible assumption) ?_; walk_at "my_tmR") | (refine Tm.off (by first | with_reducible rfl | with_reducible assumption) (by decide) ?_; walk_at "my_tmR") | fail "my_tmR")
local macro_rules | `(tactic| walk_at "my_memD") => `(tactic| first | with_reducible assumption | exact List.Mem.head _ | (refine List.Mem.tail _ ?_; walk_at "my_memD") | (refine mem_sub (by with_reducible assumption) ?_; walk_at "my_memD") | (refine mem_off (by first | with_reducible rfl | with_reducible assumption) (by first | rfl | assumption) (by decide) ?_; walk_at "my_memD") | fail "my_memD")
local macro_rules | `(tactic| walk_at "my_memR") => `(tactic| first | with_reducible assumption | with_reducible exact List.mem_cons_self | ((with_reducible refine List.mem_cons_of_mem _ ?_); walk_at "my_memR") | (refine mem_sub (by with_reducible assumption) ?_; walk_at "my_memR") | ((with_reducible refine mem_off (by first | with_reducible rfl | with_reducible assumption) (by first | rfl | assumption) (by decide) ?_); walk_at "my_memR") | fail "my_memR")
local macro_rules | `(tactic| walk_at "my_subR") => `(tactic| first | exact sub_nil | exact sub_self | with_reducible assumption | (refine sub_tail ?_; walk_at "my_subR") | (refine sub_off ?_; walk_at "my_subR") | (refine sub_trans (by with_reducible assumption) ?_; walk_at "my_subR") | fail "my_subR")
local macro_rules | `(tactic| walk_at "binaryOp Pow int int") => `(tactic| (k_here; (with_reducible refine r_pow2 ?g1 ?g2 ?_); (case g1 => omega); (case g2 => omega)))
theorem fmeC' (w : World) (n c e : Int) (t1 t2 : Tok) (hc : n = c) (h : c ≠ 0) :
    Cn w 52 8 [.int n t1, .int e t2] (fun _ => True) (fun news r => Tm news r (canon e c)) := by
  subst hc
  exact fmeC w n e t1 t2 h
local macro_rules | `(tactic| walk_at "call ref") => `(tactic| (k_here; (with_reducible show wpAny _ _ (call (Value.ref 113) _) _ _ _); k_dflt (refine' Cn.use ?k1 ?k2 ?k3 ?k4 ?k5 ?kK (mulC _ _ _ _ _ _ _ _ _ _ _ _ _ ?g0 ?g1 ?g2 ?g3 ?g4 ?g5) ?kp ?kd ?ku ?_; (case k1 => k_asm); (case k2 => k_asm); (case k3 => k_asm); (case k4 => k_asm); (case k5 => k_asm); (case kK => first | exact rfl | assumption); (case kp => exact ⟨by walk_at "my_tmR", by walk_at "my_tmR"⟩); (case g0 => with_reducible assumption); (case g1 => with_reducible assumption); (case g2 => with_reducible assumption); (case g3 => with_reducible assumption); (case g4 => with_reducible assumption); (case g5 => with_reducible assumption); (case kd => ktr_room); (case ku => ktr_units)); k_whole; intro r' news' h' tk' F' N' S' P'; (try k_sweep)))
local macro_rules | `(tactic| walk_at "call ref") => `(tactic| (k_here; (with_reducible show wpAny _ _ (call (Value.ref 97) _) _ _ _); k_dflt (refine' Cn.use ?k1 ?k2 ?k3 ?k4 ?k5 ?kK (addC _ _ _ _ _ _ _ _ _ _ _ ?g0 ?g1 ?g2 ?g3 ?g4) ?kp ?kd ?ku ?_; (case k1 => k_asm); (case k2 => k_asm); (case k3 => k_asm); (case k4 => k_asm); (case k5 => k_asm); (case kK => first | exact rfl | assumption); (case kp => exact ⟨by walk_at "my_tmR", by walk_at "my_tmR"⟩); (case g0 => with_reducible assumption); (case g1 => with_reducible assumption); (case g2 => with_reducible assumption); (case g3 => with_reducible assumption); (case g4 => with_reducible assumption); (case kd => ktr_room); (case ku => ktr_units)); k_whole; intro r' news' h' tk' F' N' S' P'; (try k_sweep)))
local macro_rules | `(tactic| walk_at "call ref") => `(tactic| (k_here; (with_reducible show wpAny _ _ (call (Value.ref 105) _) _ _ _); k_dflt (refine' Cn.use ?k1 ?k2 ?k3 ?k4 ?k5 ?kK (subC _ _ _ _ _ _ _ _ _ _ _ ?g0 ?g1 ?g2 ?g3 ?g4 ?g5 ?g6) ?kp ?kd ?ku ?_; (case k1 => k_asm); (case k2 => k_asm); (case k3 => k_asm); (case k4 => k_asm); (case k5 => k_asm); (case kK => first | exact rfl | assumption); (case kp => exact ⟨by walk_at "my_tmR", by walk_at "my_tmR"⟩); (case g0 => with_reducible assumption); (case g1 => with_reducible assumption); (case g2 => with_reducible assumption); (case g3 => with_reducible assumption); (case g4 => with_reducible assumption); (case g5 => with_reducible assumption); (case g6 => with_reducible assumption); (case kd => ktr_room); (case ku => ktr_units)); k_whole; intro r' news' h' tk' F' N' S' P'; (try k_sweep)))
local macro_rules | `(tactic| walk_at "call ref") => `(tactic| (k_here; (with_reducible show wpAny _ _ (call (Value.ref 52) _) _ _ _); k_dflt (refine' Cn.use ?k1 ?k2 ?k3 ?k4 ?k5 ?kK (fmeC' _ _ _ _ _ _ ?g0 ?g1) ?kp ?kd ?ku ?_; (case k1 => k_asm); (case k2 => k_asm); (case k3 => k_asm); (case k4 => k_asm); (case k5 => k_asm); (case kK => first | exact rfl | assumption); (case kp => trivial); (case g0 => with_reducible assumption); (case g1 => with_reducible assumption); (case kd => ktr_room); (case ku => ktr_units)); k_whole; intro r' news' h' tk' F' N' S' P'; (try k_sweep)))

/-- what _law_parts asks, and gives -/
structure PartsH (p : Nat) (z c g d u l : Int) : Prop where
  hg : RZ p (c * z) = g
  hd : RZ p (z - g) = d
  hu : RZ p (g + d) = u
  hl : RZ p (z - u) = l
  z0 : z ≠ 0
  g0 : g ≠ 0
  u0 : u ≠ 0
  c0 : c ≠ 0
  bz : Bd z
  bg : Bd g
  bd : Bd d
  bu : Bd u
  bc : Bd c
def Pair (news : List (Addr × Obj)) (r : Value) (v1 v2 : Value) : Prop := ∃ D k, r = .ref D ∧ (D, ({ cls := .type "tuple", data := .seq #[v1, v2] k } : Obj)) ∈ news
set_option maxRecDepth 100000 in
set_option maxHeartbeats 20000000 in
theorem parts_c (w : World) (v : Value) (E z c g d u l pr pl : Int) (p s : Nat) (t1 t2 : Tok) (hp : pr = p) (hs : pl = s) (hp0 : 2 ≤ p) (hs1 : s ≤ 1000) (hc : pw pl + 1 = c) (H : PartsH p z c g d u l) :
    Cn w 128 14 [v, .int pr t1, .int pl t2] (fun news => Tm news v (canon E z)) (fun news r => ∃ v1 v2, Pair news r v1 v2 ∧ Tm news v1 (canon E u) ∧ Tm news v2 (canon E l)) := by
  obtain ⟨hg, hd, hu, hl, z0, g0, u0, c0, bz, bg, bd, bu, bc⟩ := H
  have hE0 : 0 + E = E := Int.zero_add E
  w_top off
  unfold Cn
  k_fill
  intro p loose mean mg mb dp un gd cn cs a ccd cl outer A₀ base h₀ L m news s Q E B' F X N T hk hx hd hu hret
  refine wpAny_call ?_
  k_dflt (walk_at "my_enter")
  k_steps
  all_goals exact hret _ _ _ _ (by k_asm) (by k_asm) (by walk_at "my_subR") ⟨_, _, ⟨_, _, rfl, .head _⟩, by walk_at "my_tmR", by walk_at "my_tmR"⟩

/-! part P12 -/

theorem Cn.useP {w : World} {f : Addr} {sz : Nat} {vs : List Value} {Pre : List (Addr × Obj) → Prop} {x1 x2 : Q4}
  {p : Program} {loose : List Str} {mean : ExcName → Option Value} {mg mb : Str → Option Value} {dp un : Nat} {gd : Option (List Code)} {cn : Str} {cs : Scope} {a : Addr} {ccd : Value} {cl : List (Str × Addr)} {outer : List Env} {A₀ : Around} {base h₀ : Heap} {L : Addr} {m : Str → Option Value} {news : List (Addr × Obj)} {s : Shared}
  {Q E : Value → Shared → Prop}
    (B : Below A₀ base outer h₀) (F : Fr h₀ L s.heap m) (X : (hd.heap_39 w.params).In h₀) (N : News h₀ L s.heap news) (T : Top p loose mean mg mb h₀) (hk : cs.kind = .function)
    (C : Cn w f sz vs Pre (fun news r => ∃ v1 v2, Pair news r v1 v2 ∧ Tm news v1 x1 ∧ Tm news v2 x2)) (hp : Pre news) (hd : dp + sz < recursionLimit) (hu : un + 8 * sz < cLine)
    (ret : ∀ D k v1 v2 news' h' tk', Fr h₀ L h' m → News h₀ L h' news' → (∀ p ∈ news, p ∈ news') → (D, ({ cls := .type "tuple", data := .seq #[v1, v2] k } : Obj)) ∈ news' → Tm news' v1 x1 → Tm news' v2 x2 → Q (.ref D) { s with heap := h', toks := tk' }) :
    wpAny (model PySem.Challenge.rw_aw5010_01.row.prog w) (ktrTop dp un gd cn cs L a ccd cl outer) (call (.ref f) vs) Q E s :=
  Cn.use B F X N T hk C hp hd hu fun _ news' h' tk' F' N' S ⟨v1, v2, ⟨D, k, e, M⟩, P1, P2⟩ => e ▸ ret D k v1 v2 news' h' tk' F' N' S M P1 P2

theorem tupOwn {h₀ h : Heap} {L D : Addr} {news : List (Addr × Obj)} {vs : Array Value} {k : Nat} (N : News h₀ L h news) (hm : (D, ({ cls := .type "tuple", data := .seq vs k } : Obj)) ∈ news) : IsTup h D vs := ⟨_, (N _ hm).1, rfl, k, rfl⟩
local macro_rules | `(tactic| walk_at "assign Tuple") => `(tactic| (k_here; (with_reducible show wpAny _ _ (assign (Expr.Tuple _ _ _) _ (Value.ref _)) _ _ _); k_dflt (refine' unpackN_ ?k1 ?k2 ?k3 ?k4 ?k5 ?k6 ?_; (case k1 => k_asm); (case k2 => k_asm); (case k3 => exact tupOwn (by k_asm) (by walk_at "my_memD")); (case k4 => exact rfl); (case k5 => exact rfl); (case k6 => exact rfl); k_whole); intro h' F' N'; (try k_sweep)))
local macro_rules | `(tactic| walk_at "pyIter ref") => `(tactic| (k_here; (with_reducible show wpAny _ _ (pyIter (Value.ref _)) (fun it s₂ => TurnsAt _ _ _ _ _ _ _ _ _ it s₂) _ _); (rename Fr _ _ _ _ => lF'); (rename News _ _ _ _ => lN'); (with_unfolding_all refine' iter_tupTurns ?hh lF' lN' ?hm ?hc ?hd ?_; (case hm => walk_at "my_memD"); (case hh => rfl); (case hc => rfl); (case hd => rfl)); k_whole; intro i' l1; (rename OldL _ => hO'); (have hOf' := old_off hO' l1 (by walk_at "my_subR")); clear l1))
local macro_rules | `(tactic| walk_at "UnrEndW") => `(tactic| ((rename Fr _ _ _ _ => lF'); (rename News _ _ _ _ => lN'); (rename OldOff _ _ => lO'); (refine UnrEndW.own lO' lF' lN' (by walk_at "my_memD") ⟨And.intro (by walk_at "my_memD") True.intro, ?_⟩)))

local macro_rules | `(tactic| walk_at "call ref") => `(tactic| (k_here; (with_reducible show wpAny _ _ (call (Value.ref 128) _) _ _ _); k_dflt (refine' Cn.useP ?k1 ?k2 ?k3 ?k4 ?k5 ?kK (parts_c _ _ _ _ _ _ _ _ _ _ _ _ _ _ _ ?g0 ?g1 ?g2 ?g3 ?g4 ?g5) ?kp ?kd ?ku ?_; (case k1 => k_asm); (case k2 => k_asm); (case k3 => k_asm); (case k4 => k_asm); (case k5 => k_asm); (case kK => first | exact rfl | assumption); (case kp => exact by walk_at "my_tmR"); (case g0 => with_reducible assumption); (case g5 => with_reducible assumption); (case g1 => with_reducible assumption); (case g2 => with_reducible assumption); (case g3 => with_reducible assumption); (case g4 => with_reducible assumption); (case kd => ktr_room); (case ku => ktr_units)); k_whole; intro D' k' v1' v2' news' h' tk' F' N' S' M' P1' P2'; (try k_sweep)))
local macro_rules | `(tactic| walk_at "call ref") => `(tactic| (k_here; (with_reducible show wpAny _ _ (call (Value.ref 74) _) _ _ _); k_dflt (refine' Cn.use ?k1 ?k2 ?k3 ?k4 ?k5 ?kK (negC _ _ _ _ _ ?g0 ?g1 ?g2) ?kp ?kd ?ku ?_; (case k1 => k_asm); (case k2 => k_asm); (case k3 => k_asm); (case k4 => k_asm); (case k5 => k_asm); (case kK => first | exact rfl | assumption); (case kp => exact by walk_at "my_tmR"); (case g0 => with_reducible assumption); (case g1 => with_reducible assumption); (case g2 => with_reducible assumption); (case kd => ktr_room); (case ku => ktr_units)); k_whole; intro r' news' h' tk' F' N' S' P'; (try k_sweep)))

/-- what _law_product asks, and gives -/
structure ProdH (p : Nat) (z w c u1 l1 u2 l2 r nr hh hl lh ll a1 a2 a3 a4 : Int) : Prop where
  pz : ∃ g d, PartsH p z c g d u1 l1
  pw : ∃ g d, PartsH p w c g d u2 l2
  hr : RZ p (z * w) = r
  hn : -r = nr
  hhh : RZ p (u1 * u2) = hh
  hhl : RZ p (u1 * l2) = hl
  hlh : RZ p (l1 * u2) = lh
  hll : RZ p (l1 * l2) = ll
  h1 : RZ p (nr + hh) = a1
  h2 : RZ p (a1 + hl) = a2
  h3 : RZ p (a2 + lh) = a3
  h4 : RZ p (a3 + ll) = a4
  r0 : r ≠ 0
  br : Bd r
  bn : Bd nr
  bl1 : Bd l1
  bl2 : Bd l2
  bhh : Bd hh
  bhl : Bd hl
  blh : Bd lh
  bll : Bd ll
  b1 : Bd a1
  b2 : Bd a2
  b3 : Bd a3
set_option maxRecDepth 100000 in
set_option maxHeartbeats 40000000 in
theorem product_c (v1 v2 : Value) (W : World) (E F G pr pl : Int) (p s : Nat) (z w c u1 l1 u2 l2 r nr hh hl lh ll a1 a2 a3 a4 : Int) (t1 t2 : Tok) (hp : pr = p) (hs : pl = s) (hp0 : 2 ≤ p) (hs1 : s ≤ 1000) (hc : pw pl + 1 = c) (hG : E + F = G)
    (H : ProdH p z w c u1 l1 u2 l2 r nr hh hl lh ll a1 a2 a3 a4) :
    Cn W 135 18 [v1, v2, .int pr t1, .int pl t2] (fun news => Tm news v1 (canon E z) ∧ Tm news v2 (canon F w)) (fun news x => ∃ v1 v2, Pair news x v1 v2 ∧ Tm news v1 (canon G r) ∧ Tm news v2 (canon G a4)) := by
  obtain ⟨⟨g, d, pz⟩, ⟨g', d', pw⟩, hr, hn, hhh, hhl, hlh, hll, h1, h2, h3, h4, r0, br, bn, bl1, bl2, bhh, bhl, blh, bll, b1, b2, b3⟩ := H
  have bz := pz.bz
  have bw := pw.bz
  have bu1 := pz.bu
  have bu2 := pw.bu
  w_top off
  unfold Cn
  k_fill
  intro p loose mean mg mb dp un gd cn cs a ccd cl outer A₀ base h₀ L m news s Q E B' F X N T hk ⟨hx, hy⟩ hd hu hret
  have hOld : OldL news := trivial
  refine wpAny_call ?_
  k_dflt (walk_at "my_enter")
  k_steps
  all_goals exact hret _ _ _ _ (by k_asm) (by k_asm) (by walk_at "my_subR") ⟨_, _, ⟨_, _, rfl, .head _⟩, by walk_at "my_tmR", by walk_at "my_tmR"⟩

/-! part M7 -/

structure LawP (p t s : Nat) : Prop where
  e : p = t + s
  ts : t ≤ s
  st : s ≤ t + 1
  lo : 10 ≤ p
  hi : p ≤ 49
@[irreducible] def NumOk (p : Nat) (z : Int) : Prop := z ≠ 0 ∧ z < 2 ^ p ∧ -(2 ^ p) < z
theorem NumOk.out {p : Nat} {z : Int} (h : NumOk p z) : z ≠ 0 ∧ z < 2 ^ p ∧ -(2 ^ p) < z := by unfold NumOk at h; exact h
theorem NumOk.mk {p : Nat} {z : Int} (h : z ≠ 0) (h1 : z < 2 ^ p) (h2 : -(2 ^ p) < z) : NumOk p z := by unfold NumOk; exact ⟨h, h1, h2⟩

/-- what the bits and the place come to -/
structure LawB (p t s : Nat) (b pl : Int) : Prop where
  P : LawP p t s
  hb : b = p
  hs : pl = s
  hc : pw pl + 1 = 2 ^ s + 1
  hw : pw b = 2 ^ p
theorem law_bits (d : Int) : ∃ p t s : Nat, LawB p t s (10 + d.fmod 40) ((10 + d.fmod 40 + 1).fdiv 2) := by
  have h1 : d.fmod 40 = d % 40 := Int.fmod_eq_emod_of_nonneg _ (by decide)
  have h2 : (10 + d % 40 + 1).fdiv 2 = (10 + d % 40 + 1) / 2 := Int.fdiv_eq_ediv_of_nonneg _ (by decide)
  have h3 : 0 ≤ d % 40 := Int.emod_nonneg _ (by decide)
  have h4 : d % 40 < 40 := Int.emod_lt_of_pos _ (by decide)
  rw [h1, h2]
  obtain ⟨n, hn⟩ := Int.eq_ofNat_of_zero_le h3
  rw [hn]
  have e1 : (10 + (n : Int)) = ((10 + n : Nat) : Int) := by omega
  have e2 : (10 + (n : Int) + 1) / 2 = (((10 + n + 1) / 2 : Nat) : Int) := by omega
  refine ⟨10 + n, (10 + n) / 2, (10 + n + 1) / 2, ⟨by omega, by omega, by omega, by omega, by omega⟩, e1, e2, ?_, ?_⟩
  · rw [e2, pw_nat]
  · rw [e1, pw_nat]

theorem RZ_ne {p : Nat} {z : Int} (hp : 0 < p) (h : z ≠ 0) : RZ p z ≠ 0 := by
  have := RN_pos (p := p) (a := z.natAbs) hp (by omega)
  unfold RZ
  split <;> omega

section
variable {p t s : Nat} {z w : Int}
theorem LawP.parts (P : LawP p t s) (hz : NumOk p z) : PartsOk p t s z := by
  obtain ⟨rfl, h1, h2, h3, h4⟩ := P
  have := hz.out
  exact parts_all (by omega) (by omega) this.1 this.2.1 this.2.2
theorem LawP.p49 (P : LawP p t s) : (2 : Int) ^ p ≤ 2 ^ 49 := two_le_pow P.hi
theorem bd_of {x : Int} {n : Nat} (hn : n ≤ 100) (h1 : x ≤ 2 ^ n) (h2 : -(2 ^ n) ≤ x) : Bd x := by
  have := two_le_pow hn
  exact .mk (by omega) (by omega)
theorem NumOk.bd (P : LawP p t s) (hz : NumOk p z) : Bd z := by
  have := hz.out
  exact bd_of (n := p) (by have := P.hi; omega) (by omega) (by omega)
theorem LawP.bdUp (P : LawP p t s) (hz : NumOk p z) : Bd (upZ p s z) := bd_of (n := p) (by have := P.hi; omega) (P.parts hz).up1 (P.parts hz).up2
theorem LawP.bdLo (P : LawP p t s) (hz : NumOk p z) : Bd (loZ p s z) := bd_of (n := p) (by have := P.hi; omega) (P.parts hz).lo1 (P.parts hz).lo2
theorem partsH_of (P : LawP p t s) (hz : NumOk p z) : PartsH p z (2 ^ s + 1) (RZ p ((2 ^ s + 1) * z)) (RZ p (z - RZ p ((2 ^ s + 1) * z))) (upZ p s z) (loZ p s z) := by
  have ok := P.parts hz
  have hz' := hz.out
  have h49 := P.p49
  have hs0 := pow_pos2 s
  have hs : (2 : Int) ^ s ≤ 2 ^ 25 := two_le_pow (by have := P.e; have := P.st; have := P.hi; omega)
  have hp0 : 0 < p := by have := P.lo; omega
  have hc := mul_bd (x := 2 ^ s + 1) (y := z) (A := 2 ^ 26) (B := 2 ^ 49) (by omega) (by omega) (by omega) (by omega)
  rw [← Int.pow_add] at hc
  have hg := RZ_le (p := p) (n := 26 + 49) hp0 hc.2 hc.1
  have h2 : (2 : Int) ^ (26 + 49) + 2 ^ 49 ≤ 2 ^ 76 := by decide
  have hd := RZ_le (p := p) (n := 76) (z := z - RZ p ((2 ^ s + 1) * z)) hp0 (by omega) (by omega)
  exact {
    hg := rfl
    hd := rfl
    hu := rfl
    hl := rfl
    z0 := hz'.1
    g0 := RZ_ne hp0 (Int.mul_ne_zero (by omega) hz'.1)
    u0 := ok.up0
    c0 := by omega
    bz := hz.bd P
    bg := bd_of (n := 26 + 49) (by decide) hg.1 hg.2
    bd := bd_of (n := 76) (by decide) hd.1 hd.2
    bu := P.bdUp hz
    bc := bd_of (n := 26) (by decide) (by omega) (by omega) }

theorem LawP.exact (P : LawP p t s) (hz : NumOk p z) (hw : NumOk p w) : Exact p z w (upZ p s z) (loZ p s z) (upZ p s w) (loZ p s w) := by
  obtain ⟨rfl, h1, h2, h3, h4⟩ := P
  have a := hz.out
  have b := hw.out
  exact exact_all (by omega) h1 h2 a.1 a.2.1 a.2.2 b.1 b.2.1 b.2.2
theorem LawP.zw (P : LawP p t s) (hz : NumOk p z) (hw : NumOk p w) : z * w ≤ 2 ^ 98 ∧ -(2 ^ 98) ≤ z * w := by
  have a := hz.out
  have b := hw.out
  have h49 := P.p49
  have hc := mul_bd (x := z) (y := w) (A := 2 ^ 49) (B := 2 ^ 49) (by omega) (by omega) (by omega) (by omega)
  rw [← Int.pow_add] at hc
  exact ⟨hc.2, hc.1⟩
theorem LawP.rzw (P : LawP p t s) (hz : NumOk p z) (hw : NumOk p w) : RZ p (z * w) ≤ 2 ^ 98 ∧ -(2 ^ 98) ≤ RZ p (z * w) := by
  have a := P.zw hz hw
  exact RZ_le (by have := P.lo; omega) a.1 a.2
theorem LawP.zw0 (P : LawP p t s) (hz : NumOk p z) (hw : NumOk p w) : RZ p (z * w) ≠ 0 := RZ_ne (by have := P.lo; omega) (Int.mul_ne_zero hz.out.1 hw.out.1)
theorem LawP.bdR (P : LawP p t s) (hz : NumOk p z) (hw : NumOk p w) : Bd (RZ p (z * w)) := bd_of (n := 98) (by decide) (P.rzw hz hw).1 (P.rzw hz hw).2
theorem LawP.bdE (P : LawP p t s) (hz : NumOk p z) (hw : NumOk p w) : Bd (z * w - RZ p (z * w)) := by
  have a := P.zw hz hw
  have b := P.rzw hz hw
  have h : (2 : Int) ^ 98 + 2 ^ 98 ≤ 2 ^ 100 := by decide
  exact .mk (by omega) (by omega)
theorem prodH_of (P : LawP p t s) (hz : NumOk p z) (hw : NumOk p w) : ProdH p z w (2 ^ s + 1) (upZ p s z) (loZ p s z) (upZ p s w) (loZ p s w) (RZ p (z * w)) (-RZ p (z * w)) (upZ p s z * upZ p s w) (upZ p s z * loZ p s w) (loZ p s z * upZ p s w) (loZ p s z * loZ p s w)
    (-RZ p (z * w) + upZ p s z * upZ p s w) (-RZ p (z * w) + upZ p s z * upZ p s w + upZ p s z * loZ p s w) (-RZ p (z * w) + upZ p s z * upZ p s w + upZ p s z * loZ p s w + loZ p s z * upZ p s w) (z * w - RZ p (z * w)) := by
  have ok := P.parts hz
  have ok' := P.parts hw
  have ex := P.exact hz hw
  have ch := Chain.of ex ok.lo ok'.lo
  have h49 := P.p49
  have r := P.rzw hz hw
  have bb : ∀ x y : Int, x ≤ 2 ^ p → -(2 ^ p) ≤ x → y ≤ 2 ^ p → -(2 ^ p) ≤ y → x * y ≤ 2 ^ 98 ∧ -(2 ^ 98) ≤ x * y := fun x y a b c d => by
    have hc := mul_bd (x := x) (y := y) (A := 2 ^ 49) (B := 2 ^ 49) (by omega) (by omega) (by omega) (by omega)
    rw [← Int.pow_add] at hc
    exact ⟨hc.2, hc.1⟩
  have p1 := bb _ _ ok.up1 ok.up2 ok'.up1 ok'.up2
  have p2 := bb _ _ ok.up1 ok.up2 ok'.lo1 ok'.lo2
  have p3 := bb _ _ ok.lo1 ok.lo2 ok'.up1 ok'.up2
  have p4 := bb _ _ ok.lo1 ok.lo2 ok'.lo1 ok'.lo2
  have h4 : (2 : Int) ^ 98 + 2 ^ 98 + 2 ^ 98 + 2 ^ 98 ≤ 2 ^ 100 := by decide
  have h0 := pow_pos2 98
  obtain ⟨e1, e2, e3, e4, _⟩ := ex
  exact {
    pz := ⟨_, _, partsH_of P hz⟩
    pw := ⟨_, _, partsH_of P hw⟩
    hr := rfl
    hn := rfl
    hhh := e1
    hhl := e2
    hlh := e3
    hll := e4
    h1 := by have := ch.c1; rwa [e1] at this
    h2 := by have := ch.c2; rwa [e2] at this
    h3 := by have := ch.c3; rwa [e3] at this
    h4 := by have := ch.c4; rwa [e4] at this
    r0 := P.zw0 hz hw
    br := .mk (by omega) (by omega)
    bn := .mk (by omega) (by omega)
    bl1 := P.bdLo hz
    bl2 := P.bdLo hw
    bhh := .mk (by omega) (by omega)
    bhl := .mk (by omega) (by omega)
    blh := .mk (by omega) (by omega)
    bll := .mk (by omega) (by omega)
    b1 := .mk (by omega) (by omega)
    b2 := .mk (by omega) (by omega)
    b3 := .mk (by omega) (by omega) }

/-! what the law asks at its end -/
theorem LawP.sum (P : LawP p t s) (hz : NumOk p z) : upZ p s z + loZ p s z = z := by rw [(P.parts hz).lo]; omega
theorem LawP.bcUp (P : LawP p t s) (hz : NumOk p z) (E : Int) : (canon E (upZ p s z)).bc ≤ t := bits_can E (by have := P.e; have := P.st; have := P.lo; omega) (P.parts hz).upBits
theorem LawP.bcLo (P : LawP p t s) (hz : NumOk p z) (E : Int) : (canon E (loZ p s z)).bc ≤ (s : Int) - 1 := by
  have h := bits_can E (m := s - 1) (by have := P.e; have := P.ts; have := P.lo; omega) (P.parts hz).loBits
  have := P.e; have := P.ts; have := P.lo
  omega
theorem LawP.bcR (P : LawP p t s) (E : Int) : (canon E (RZ p (z * w))).bc ≤ p := bits_can E (by have := P.lo; omega) (Bits.rz p _)
theorem LawP.bcE (P : LawP p t s) (hz : NumOk p z) (hw : NumOk p w) (E : Int) : (canon E (z * w - RZ p (z * w))).bc ≤ p := by
  have ch := Chain.of (P.exact hz hw) (P.parts hz).lo (P.parts hw).lo
  rw [← ch.c4]
  exact bits_can E (by have := P.lo; omega) (Bits.rz p _)
theorem LawP.rest (P : LawP p t s) : ((z * w - RZ p (z * w)).natAbs : Int) * 2 ^ p ≤ ((RZ p (z * w)).natAbs : Int) := RZ_rest p _ (by have := P.lo; omega)
end

/-! part P13 -/

/-! ## the law -/
def restL (k : Int) : Int := if k = 0 then 3 else if k = 1 then 5000 else if k = 2 then -7777 else if k = 3 then 20 else 9
theorem rest_at (P : Params) : ∃ t0 t1 t2 t3 t4 c, (hd.heap_39 P).lookup 121 = some ({ cls := .type "tuple", data := .seq #[.int 3 t0, .int 5000 t1, .int (-7777) t2, .int 20 t3, .int 9 t4] c } : Obj) := ⟨_, _, _, _, _, _, rfl⟩

section
variable {prog : Program} {w : World} {A : Around} {E : Value → Shared → Prop} {s : Shared} {env : Env} {h₀ h : Heap} {L l : Addr} {m : Str → Option Value} {old news : List (Addr × Obj)} {P : Params} {v x : Value} {value slice : Expr} {u : Tok} {k : Int}
theorem restItem {Q : Value → Shared → Prop} (F : Fr h₀ L s.heap m) (X : (hd.heap_39 P).In h₀) (h0 : 0 ≤ k) (h5 : k < 5) (h : ∀ t, Q (.int (restL k) t) s)
    (hs : ∀ a, subscripted slice false (.ref a) (.int k u) = operate [.ref a, .int k u] (getItem (.ref a) (.int k u)) := by intro _; with_unfolding_all rfl) :
    wpAny (model prog w) A (subscriptTail value slice (.ref 121) (.int k u)) Q E s := by
  obtain ⟨t0, t1, t2, t3, t4, c, e⟩ := rest_at P
  have ht : IsTup s.heap 121 #[.int 3 t0, .int 5000 t1, .int (-7777) t2, .int 20 t3, .int 9 t4] := ⟨_, F.keep _ _ (X _ _ e), rfl, c, rfl⟩
  have hk : k = 0 ∨ k = 1 ∨ k = 2 ∨ k = 3 ∨ k = 4 := by omega
  rcases hk with rfl | rfl | rfl | rfl | rfl
  · exact item_tupleT ht (by decide) (by decide) (j := 0) rfl rfl (h t0) (hs _)
  · exact item_tupleT ht (by decide) (by decide) (j := 1) rfl rfl (h t1) (hs _)
  · exact item_tupleT ht (by decide) (by decide) (j := 2) rfl rfl (h t2) (hs _)
  · exact item_tupleT ht (by decide) (by decide) (j := 3) rfl rfl (h t3) (hs _)
  · exact item_tupleT ht (by decide) (by decide) (j := 4) rfl rfl (h t4) (hs _)
theorem itemTm3b {y : Q4} {b₀ : Int} {Q : Value → Shared → Prop} (F : Fr h₀ L s.heap m) (X : (hd.heap_39 P).In h₀) (N : News h₀ L s.heap news) (hx : Tm news v y) (hb : y.bc ≤ b₀) (h : ∀ b t, b ≤ b₀ → Q (.int b t) s)
    (hs : ∀ a, subscripted slice false (.ref a) (.int 3 u) = operate [.ref a, .int 3 u] (getItem (.ref a) (.int 3 u)) := by intro _; with_unfolding_all rfl) :
    wpAny (model prog w) A (subscriptTail value slice v (.int 3 u)) Q E s := itemTm3 F X N hx (fun t => h _ t hb) hs
theorem ints_at : ∀ {ys : List Value} {ns : List Int} {i : Nat}, IntsAre ys ns → i < ns.length → ∃ d t, ys[i]? = some (.int d t)
  | _, _, i, .nil, h => absurd h (Nat.not_lt_zero i)
  | _, _, 0, .cons n t _, _ => ⟨n, t, rfl⟩
  | _, _, i + 1, .cons _ _ r, h => ints_at (i := i) r (Nat.lt_of_succ_lt_succ h)
theorem drawItem {ys : List Value} {ns : List Int} {Q : Value → Shared → Prop} (N : News h₀ L s.heap news) (hm : (l, LCg.lst ys) ∈ news) (hI : IntsAre ys ns) (h0 : 0 ≤ k) (hhi : k < 2 ^ 63) (h5 : k.toNat < ns.length) (h : ∀ d t, Q (.int d t) s)
    (hs : subscripted slice false (.ref l) (.int k u) = operate [.ref l, .int k u] (getItem (.ref l) (.int k u)) := by with_unfolding_all rfl) :
    wpAny (model prog w) A (subscriptTail value slice (.ref l) (.int k u)) Q E s := by
  obtain ⟨d, t, hx⟩ := ints_at hI h5
  have hl : s.heap.IsList l ys.toArray := ⟨_, (N _ hm).1, rfl, _, rfl⟩
  exact tail_any hl.typeIs slot_list_getitem.lookup (wpAny_getItem_list hl h0 hhi (by simpa using hx) (h d t)) hs
theorem itemOwn {vs : List Value} {n : Nat} {Q : Value → Shared → Prop} (N : News h₀ L s.heap news) (hm : (l, listOf vs.toArray n) ∈ news) (h0 : 0 ≤ k) (hhi : k < 2 ^ 63) (hx : vs[k.toNat]? = some x) (h : Q x s)
    (hs : subscripted slice false (.ref l) (.int k u) = operate [.ref l, .int k u] (getItem (.ref l) (.int k u)) := by with_unfolding_all rfl) :
    wpAny (model prog w) A (subscriptTail value slice (.ref l) (.int k u)) Q E s :=
  have hl : s.heap.IsList l vs.toArray := ⟨_, (N _ hm).1, rfl, n, rfl⟩
  tail_any hl.typeIs slot_list_getitem.lookup (wpAny_getItem_list hl h0 hhi (by simpa using hx) h) hs
theorem appendOwn {vs : List Value} {n : Nat} {Q : Value → Shared → Prop} (F : Fr h₀ L s.heap m) (N : News h₀ L s.heap news) (hm : (l, listOf vs.toArray n) ∈ news)
    (h : ∀ h', Fr h₀ L h' m → News h₀ L h' ((l, listOf (vs ++ [x]).toArray (n + 1)) :: offL [] (.type "list") news) → Q .none { s with heap := h' }) (hsz : vs.length ≤ sizeLine := by size_fits) :
    wpAny (model prog w) A (call (.builtin "list.append") [.ref l, x]) Q E s := by
  have N2 : News h₀ L s.heap ((l, listOf vs.toArray n) :: offL [] (.type "list") news) := fun p hp => by
    rcases List.mem_cons.mp hp with rfl | hp
    · exact N _ hm
    · exact N p (mem_offL.mp hp).1
  have e : vs.toArray.push x = (vs ++ [x]).toArray := by simp
  refine append_K F N2 (.head fun p hp e => ?_) (fun h' F' N' => h h' F' (by rw [e] at N'; exact N')) (by simpa using hsz)
  have h1 := (N p (mem_offL.mp hp).1).1
  have h2 := (N _ hm).1
  rw [e] at h1
  have h3 : p.2 = listOf vs.toArray n := Option.some.inj (h1.symm.trans h2)
  rcases (mem_offL.mp hp).2 with hc | hc
  · exact hc (by rw [h3])
  · cases hc
end
theorem iter_listOwn {prog : Program} {w : World} {A : Around} {E : Value → Shared → Prop} {s : Shared} {env : Env} {h₀ : Heap} {target : Expr} {body : List Stmt} {Q : Flow → Shared → Prop} {ax : Addr} {vs : List Value} {n : Nat} {m₀ : Str → Option Value} {news : List (Addr × Obj)}
    (hh : A.handled = none) (F : Fr h₀ env.locals s.heap m₀) (N : News h₀ env.locals s.heap news) (hm : (ax, listOf vs.toArray n) ∈ news)
    (rest₀ : ∀ I : Addr, (∀ p ∈ news, p.1 < I) → ItemsRest prog w A E h₀ env target body Q s [(I, "list_iterator")] [(ax, listOf vs.toArray n)] (vs.map .val) m₀ news) :
    wpAny (model prog w) A (pyIter (.ref ax)) (fun it s₂ => TurnsAt prog w A h₀ env target body Q E it s₂) E s := iter_listTurns hh F N hm rfl rfl rest₀
local macro_rules | `(tactic| walk_at "subscriptTail Name Name ref int") => `(tactic| (k_here; k_dflt (refine' restItem ?k1 ?k2 ?k3 ?k4 ?_; (case k1 => k_asm); (case k2 => k_asm); (case k3 => omega); (case k4 => omega)); k_whole; intro t'; (try dsimp only)))
local macro_rules | `(tactic| walk_at "subscriptTail Name Constant ref int") => `(tactic| (k_here; k_dflt (refine' itemOwn ?k1 ?k2 ?k3 ?k4 ?k5 ?_; (case k1 => k_asm); (case k2 => walk_at "my_memR"); (case k3 => decide); (case k4 => decide); (case k5 => rfl)); k_whole))
local macro_rules | `(tactic| walk_at "subscriptTail Name Constant ref int") => `(tactic| (k_here; k_dflt (refine' drawItem ?k1 ?k2 ?k3 ?k4 ?k5 ?k6 ?_; (case k1 => k_asm); (case k2 => walk_at "my_memR"); (case k3 => with_reducible assumption); (case k4 => decide); (case k5 => decide); (case k6 => exact Nat.le_of_ble_eq_true rfl)); k_whole; intro d' t'; (try dsimp only)))
local macro_rules | `(tactic| walk_at "getMethod ref") => `(tactic| (k_here; (with_reducible show wpAny _ _ (getMethod (Value.ref _) (PySem.Str.ofString "append") _) _ _ _); k_dflt (refine' listMethod_K ?N ?m PySem.F.slot_list_append PySem.F.type_list_append ?_; (case N => k_asm); (case m => walk_at "my_memR"))))
local macro_rules | `(tactic| walk_at "call builtin:list.append") => `(tactic| (k_here; k_dflt (refine' appendOwn ?k1 ?k2 ?k3 ?_ ?z; (case k1 => k_asm); (case k2 => k_asm); (case k3 => walk_at "my_memD"); (case z => first | decide | size_fits)); k_whole; intro h' F' N'; (try simp only [List.nil_append, List.cons_append, Nat.zero_add] at N'); (try k_sweep)))
theorem neCan {prog : Program} {w : World} {A : Around} {E : Value → Shared → Prop} {s : Shared} {h₀ : Heap} {L : Addr} {m : Str → Option Value} {news : List (Addr × Obj)} {P : Params} {v u : Value} {e z : Int} {Q : Value → Shared → Prop} (F : Fr h₀ L s.heap m) (X : (hd.heap_39 P).In h₀) (N : News h₀ L s.heap news)
    (hx : Tm news v (canon e z)) (hy : Tm news u (canon e z)) (hu : A.units + 64 < cLine) (h : Q (.bool false) s) : wpAny (model prog w) A (compareOp .NotEq v u) Q E s := neTm_same F X N hx hy hu h
local macro_rules | `(tactic| walk_at "compareOp NotEq") => `(tactic| (k_here; k_dflt (refine' neCan ?k1 ?k2 ?k3 ?k4 ?k5 ?k6 ?_; (case k1 => k_asm); (case k2 => k_asm); (case k3 => k_asm); (case k4 => walk_at "my_tmR"); (case k5 => walk_at "my_tmR"); (case k6 => first | ktr_units | ke_room)); (try dsimp only)))
local macro_rules | `(tactic| walk_at "exec For Name Name cons nil") => `(tactic| (k_here; (rename Fr _ _ _ _ => lF'); (with_unfolding_all refine' For_turns lF' ?_; k_whole)))
local macro_rules | `(tactic| walk_at "pyIter ref") => `(tactic| (k_here; (with_reducible show wpAny _ _ (pyIter (Value.ref _)) (fun it s₂ => TurnsAt _ _ _ _ _ _ _ _ _ it s₂) _ _); (rename Fr _ _ _ _ => lF'); (rename News _ _ _ _ => lN'); (with_unfolding_all refine' iter_listOwn ?hh lF' lN' ?hm ?_; (case hm => walk_at "my_memR"); (case hh => rfl)); k_whole; intro i' l1; (rename OldL _ => hO'); (have hOf' := old_off hO' l1 (by walk_at "my_subR")); clear l1))

theorem frame_bits {h₀ h : Heap} {L : Addr} {m : Str → Option Value} {d : Int} {t : Tok} (_F : Fr h₀ L h m) (_e : m (Str.ofString "bits") = some (.int (10 + d.fmod 40) t)) : ∃ p t s : Nat, LawB p t s (10 + d.fmod 40) ((10 + d.fmod 40 + 1).fdiv 2) := law_bits d
local macro_rules | `(tactic| walk_at "exec For Tuple Tuple cons nil") => `(tactic| (k_here; (fail_if_success (rename LawB _ _ _ _ _ => lB')); (rename Fr _ _ _ _ => lF'); (have hB' := frame_bits lF' (by with_unfolding_all rfl)); (refine Exists.elim hB' ?_; clear hB'; intro p' hB'; refine Exists.elim hB' ?_; clear hB'; intro t' hB'; refine Exists.elim hB' ?_; clear hB'; intro s' hB'); (have hP' := hB'.P); (have hb' := hB'.hb); (have hs' := hB'.hs); (have hc' := hB'.hc); (have h1' := hP'.e); (have h2' := hP'.ts); (have h3' := hP'.st); (have h4' := hP'.lo); (have h5' := hP'.hi); walk_at "exec For Tuple Tuple cons nil"))

def JoinN (p : Nat) (s : Shared) (v : Value) (s' : Shared) : Prop := ∃ n t tk, NumOk p n ∧ v = .int n t ∧ s' = { s with toks := tk }
theorem JoinN.mk {p : Nat} {s : Shared} {n : Int} {t : Tok} {tk : Nat} (h : NumOk p n) : JoinN p s (.int n t) { s with toks := tk } := ⟨n, t, tk, h, rfl, rfl⟩
theorem ifexp_num {p t s' : Nat} {b pl : Int} {M : Model} {A : Around} {E : Value → Shared → Prop} {s : Shared} {env : Env} {test body orelse : Expr} {pos : Pos} {Q : Value → Shared → Prop} (_ : LawB p t s' b pl)
    (h1 : wpAny M A (eval (.IfExp test body orelse pos) env) (JoinN p s) E s) (h2 : ∀ n t tk, NumOk p n → Q (.int n t) { s with toks := tk }) : wpAny M A (eval (.IfExp test body orelse pos) env) Q E s :=
  wpAny_mono h1 (fun v s₂ ⟨n, t, tk, hn, e1, e2⟩ => by subst e1; subst e2; exact h2 n t tk hn) fun _ _ h => h
theorem num_size {p t s : Nat} {b pl : Int} (B : LawB p t s b pl) (a : Int) : NumOk p (1 + a.fmod (pw b - 1)) ∧ NumOk p (-(1 + a.fmod (pw b - 1))) ∧ pw b - 1 ≠ 0 := by
  have hlo := B.P.lo
  have h2 : (2 : Int) ^ 10 ≤ 2 ^ p := two_le_pow hlo
  have h3 : (2 : Int) ^ 10 = 1024 := by decide
  rw [B.hw]
  rw [Int.fmod_eq_emod_of_nonneg _ (by omega)]
  have h4 := Int.emod_nonneg a (show (2 : Int) ^ p - 1 ≠ 0 by omega)
  have h5 := Int.emod_lt_of_pos a (show (0 : Int) < 2 ^ p - 1 by omega)
  exact ⟨.mk (by omega) (by omega) (by omega), .mk (by omega) (by omega) (by omega), by omega⟩
local macro_rules | `(tactic| walk_at "eval IfExp") => `(tactic| (k_here; (fail_if_success (with_reducible show wpAny _ _ _ (JoinN _ _) _ _)); (rename LawB _ _ _ _ _ => lB'); (with_reducible refine ifexp_num lB' ?_ (fun n' t' tk' hn' => ?_))))
local macro_rules | `(tactic| walk_at "JoinN") => `(tactic| ((rename LawB _ _ _ _ _ => lB'); first | exact JoinN.mk (num_size lB' _).1 | exact JoinN.mk (num_size lB' _).2.1))
local macro_rules | `(tactic| walk_at "binaryOp Mod int int") => `(tactic| (k_here; (rename LawB _ _ _ _ _ => lB'); (with_reducible refine mod_int (num_size lB' 0).2.2 ?_)))
theorem Cn.useB {w : World} {f : Addr} {sz : Nat} {vs : List Value} {Pre : List (Addr × Obj) → Prop}
  {p : Program} {loose : List Str} {mean : ExcName → Option Value} {mg mb : Str → Option Value} {dp un : Nat} {gd : Option (List Code)} {cn : Str} {cs : Scope} {a : Addr} {ccd : Value} {cl : List (Str × Addr)} {outer : List Env} {A₀ : Around} {base h₀ : Heap} {L : Addr} {m : Str → Option Value} {news : List (Addr × Obj)} {s : Shared}
  {Q E : Value → Shared → Prop}
    (B : Below A₀ base outer h₀) (F : Fr h₀ L s.heap m) (X : (hd.heap_39 w.params).In h₀) (N : News h₀ L s.heap news) (T : Top p loose mean mg mb h₀) (hk : cs.kind = .function)
    (C : Cn w f sz vs Pre (fun _ r => r = .bool true)) (hp : Pre news) (hd : dp + sz < recursionLimit) (hu : un + 8 * sz < cLine)
    (ret : ∀ news' h' tk', Fr h₀ L h' m → News h₀ L h' news' → (∀ p ∈ news, p ∈ news') → Q (.bool true) { s with heap := h', toks := tk' }) :
    wpAny (model PySem.Challenge.rw_aw5010_01.row.prog w) (ktrTop dp un gd cn cs L a ccd cl outer) (call (.ref f) vs) Q E s :=
  Cn.use B F X N T hk C hp hd hu fun _ news' h' tk' F' N' S e => e ▸ ret news' h' tk' F' N' S
theorem add_sub_self (a b : Int) : a + (b - a) = b := by omega
theorem natAbs_pos {z : Int} (h : z ≠ 0) : (0 : Int) < (z.natAbs : Int) := by omega
theorem Bd.natAbs {z : Int} (h : Bd z) : Bd (z.natAbs : Int) := by
  have := h.out
  exact .mk (by omega) (by omega)
theorem le_nn (n p : Nat) : (0 : Int) ≤ (n : Int) * 2 ^ p := Int.mul_nonneg (by omega) (Int.le_of_lt (pow_pos2 p))


theorem fmeL (w : World) (n e : Int) (p : Nat) (t1 t2 : Tok) (h : NumOk p n) : Cn w 52 8 [.int n t1, .int e t2] (fun _ => True) (fun news r => Tm news r (canon e n)) := fmeC w n e t1 t2 h.out.1
theorem partsL (w : World) (v : Value) (E z pr pl : Int) (p t s : Nat) (t1 t2 : Tok) (P : LawP p t s) (hp : pr = p) (hs : pl = s) (hc : pw pl + 1 = 2 ^ s + 1) (hz : NumOk p z) :
    Cn w 128 14 [v, .int pr t1, .int pl t2] (fun news => Tm news v (canon E z)) (fun news r => ∃ v1 v2, Pair news r v1 v2 ∧ Tm news v1 (canon E (upZ p s z)) ∧ Tm news v2 (canon E (loZ p s z))) :=
  parts_c w v E z _ _ _ _ _ pr pl p s t1 t2 hp hs (by have := P.lo; omega) (by have := P.e; have := P.hi; omega) hc (partsH_of P hz)
theorem add0L1 (w : World) (v1 v2 : Value) (E z : Int) (p t s : Nat) (P : LawP p t s) (hz : NumOk p z) :
    Cn w 97 8 [v1, v2] (fun news => Tm news v1 (canon E (upZ p s z)) ∧ Tm news v2 (canon E (loZ p s z))) (fun news x => Tm news x (canon E z)) :=
  add0C w v1 v2 E _ _ _ (P.sum hz) (P.parts hz).up0 (P.bdUp hz) (P.bdLo hz)
theorem add0L2 (w : World) (v1 v2 : Value) (E z u : Int) (p t s : Nat) (P : LawP p t s) (hz : NumOk p z) (hu : NumOk p u) :
    Cn w 97 8 [v1, v2] (fun news => Tm news v1 (canon E (RZ p (z * u))) ∧ Tm news v2 (canon E (z * u - RZ p (z * u)))) (fun news x => Tm news x (canon E (z * u))) :=
  add0C w v1 v2 E _ _ _ (add_sub_self _ _) (P.zw0 hz hu) (P.bdR hz hu) (P.bdE hz hu)
theorem mul0L (w : World) (v1 v2 : Value) (E F z u : Int) (p t s : Nat) (P : LawP p t s) (hz : NumOk p z) (hu : NumOk p u) :
    Cn w 113 8 [v1, v2] (fun news => Tm news v1 (canon E z) ∧ Tm news v2 (canon F u)) (fun news x => Tm news x (canon (E + F) (z * u))) :=
  mul0C w v1 v2 E F _ z u _ rfl rfl hz.out.1 hu.out.1 (hz.bd P) (hu.bd P)
theorem productL (W : World) (v1 v2 : Value) (E F z u pr pl : Int) (p t s : Nat) (t1 t2 : Tok) (P : LawP p t s) (hp : pr = p) (hs : pl = s) (hc : pw pl + 1 = 2 ^ s + 1) (hz : NumOk p z) (hu : NumOk p u) :
    Cn W 135 18 [v1, v2, .int pr t1, .int pl t2] (fun news => Tm news v1 (canon E z) ∧ Tm news v2 (canon F u)) (fun news x => ∃ v1 v2, Pair news x v1 v2 ∧ Tm news v1 (canon (E + F) (RZ p (z * u))) ∧ Tm news v2 (canon (E + F) (z * u - RZ p (z * u)))) :=
  product_c v1 v2 W E F _ pr pl p s z u _ _ _ _ _ _ _ _ _ _ _ _ _ _ _ t1 t2 hp hs (by have := P.lo; omega) (by have := P.e; have := P.hi; omega) hc rfl (prodH_of P hz hu)
theorem absL1 (w : World) (v1 : Value) (E z u : Int) (p t s : Nat) (P : LawP p t s) (hz : NumOk p z) (hu : NumOk p u) :
    Cn w 82 8 [v1] (fun news => Tm news v1 (canon E (z * u - RZ p (z * u)))) (fun news x => Tm news x (canon E (z * u - RZ p (z * u)).natAbs)) := absC w v1 E _ _ rfl (P.bdE hz hu)
theorem absL2 (w : World) (v1 : Value) (E z u : Int) (p t s : Nat) (P : LawP p t s) (hz : NumOk p z) (hu : NumOk p u) :
    Cn w 82 8 [v1] (fun news => Tm news v1 (canon E (RZ p (z * u)))) (fun news x => Tm news x (canon E (RZ p (z * u)).natAbs)) := absC w v1 E _ _ rfl (P.bdR hz hu)
theorem shiftL (w : World) (v1 : Value) (E z n : Int) (p : Nat) (t : Tok) (hp : n = p) : Cn w 120 8 [v1, .int n t] (fun news => Tm news v1 (canon E z)) (fun news x => Tm news x (canon E (z * 2 ^ p))) := shiftC w v1 E z _ n p t hp rfl
theorem leL (w : World) (v1 v2 : Value) (E z u : Int) (p t s : Nat) (P : LawP p t s) (hz : NumOk p z) (hu : NumOk p u) :
    Cn w 66 18 [v1, v2] (fun news => Tm news v1 (canon E ((z * u - RZ p (z * u)).natAbs * 2 ^ p)) ∧ Tm news v2 (canon E (RZ p (z * u)).natAbs)) (fun _ r => r = .bool true) :=
  leC w v1 v2 E _ _ (le_nn _ _) P.rest (natAbs_pos (P.zw0 hz hu)) (P.bdR hz hu).natAbs
section
variable {prog : Program} {w : World} {A : Around} {E : Value → Shared → Prop} {s : Shared} {h₀ : Heap} {L : Addr} {m : Str → Option Value} {news : List (Addr × Obj)} {K : Params} {v : Value} {value slice : Expr} {u : Tok} {p t c : Nat} {e z y : Int} {Q : Value → Shared → Prop}
theorem itemUp (F : Fr h₀ L s.heap m) (X : (hd.heap_39 K).In h₀) (N : News h₀ L s.heap news) (hx : Tm news v (canon e (upZ p c z))) (P : LawP p t c) (hz : NumOk p z) (h : ∀ (b : Int) k, b ≤ t → Q (.int b k) s)
    (hs : ∀ a, subscripted slice false (.ref a) (.int 3 u) = operate [.ref a, .int 3 u] (getItem (.ref a) (.int 3 u)) := by intro _; with_unfolding_all rfl) :
    wpAny (model prog w) A (subscriptTail value slice v (.int 3 u)) Q E s := itemTm3b F X N hx (P.bcUp hz e) h hs
theorem itemLo (F : Fr h₀ L s.heap m) (X : (hd.heap_39 K).In h₀) (N : News h₀ L s.heap news) (hx : Tm news v (canon e (loZ p c z))) (P : LawP p t c) (hz : NumOk p z) (h : ∀ (b : Int) k, b ≤ (c : Int) - 1 → Q (.int b k) s)
    (hs : ∀ a, subscripted slice false (.ref a) (.int 3 u) = operate [.ref a, .int 3 u] (getItem (.ref a) (.int 3 u)) := by intro _; with_unfolding_all rfl) :
    wpAny (model prog w) A (subscriptTail value slice v (.int 3 u)) Q E s := itemTm3b F X N hx (P.bcLo hz e) h hs
theorem itemR (F : Fr h₀ L s.heap m) (X : (hd.heap_39 K).In h₀) (N : News h₀ L s.heap news) (hx : Tm news v (canon e (RZ p (z * y)))) (P : LawP p t c) (h : ∀ (b : Int) k, b ≤ p → Q (.int b k) s)
    (hs : ∀ a, subscripted slice false (.ref a) (.int 3 u) = operate [.ref a, .int 3 u] (getItem (.ref a) (.int 3 u)) := by intro _; with_unfolding_all rfl) :
    wpAny (model prog w) A (subscriptTail value slice v (.int 3 u)) Q E s := itemTm3b F X N hx (P.bcR e) h hs
theorem itemE (F : Fr h₀ L s.heap m) (X : (hd.heap_39 K).In h₀) (N : News h₀ L s.heap news) (hx : Tm news v (canon e (z * y - RZ p (z * y)))) (P : LawP p t c) (hz : NumOk p z) (hy : NumOk p y) (h : ∀ (b : Int) k, b ≤ p → Q (.int b k) s)
    (hs : ∀ a, subscripted slice false (.ref a) (.int 3 u) = operate [.ref a, .int 3 u] (getItem (.ref a) (.int 3 u)) := by intro _; with_unfolding_all rfl) :
    wpAny (model prog w) A (subscriptTail value slice v (.int 3 u)) Q E s := itemTm3b F X N hx (P.bcE hz hy e) h hs
end
local macro_rules | `(tactic| walk_at "subscriptTail Name Constant int") => `(tactic| (k_here; k_dflt (refine' itemUp ?k1 ?k2 ?k3 ?k4 ?g0 ?g1 ?_; (case k1 => k_asm); (case k2 => k_asm); (case k3 => k_asm); (case k4 => walk_at "my_tmR"); (case g0 => with_reducible assumption); (case g1 => with_reducible assumption)); k_whole; intro b' t' hb'; (try dsimp only)))
local macro_rules | `(tactic| walk_at "subscriptTail Name Constant int") => `(tactic| (k_here; k_dflt (refine' itemLo ?k1 ?k2 ?k3 ?k4 ?g0 ?g1 ?_; (case k1 => k_asm); (case k2 => k_asm); (case k3 => k_asm); (case k4 => walk_at "my_tmR"); (case g0 => with_reducible assumption); (case g1 => with_reducible assumption)); k_whole; intro b' t' hb'; (try dsimp only)))
local macro_rules | `(tactic| walk_at "subscriptTail Name Constant int") => `(tactic| (k_here; k_dflt (refine' itemR ?k1 ?k2 ?k3 ?k4 ?g0 ?_; (case k1 => k_asm); (case k2 => k_asm); (case k3 => k_asm); (case k4 => walk_at "my_tmR"); (case g0 => with_reducible assumption)); k_whole; intro b' t' hb'; (try dsimp only)))
local macro_rules | `(tactic| walk_at "subscriptTail Name Constant int") => `(tactic| (k_here; k_dflt (refine' itemE ?k1 ?k2 ?k3 ?k4 ?g0 ?g1 ?g2 ?_; (case k1 => k_asm); (case k2 => k_asm); (case k3 => k_asm); (case k4 => walk_at "my_tmR"); (case g0 => with_reducible assumption); (case g1 => with_reducible assumption); (case g2 => with_reducible assumption)); k_whole; intro b' t' hb'; (try dsimp only)))
local macro_rules | `(tactic| walk_at "call ref") => `(tactic| (k_here; (with_reducible show wpAny _ _ (call (Value.ref 52) _) _ _ _); k_dflt (refine' Cn.use ?k1 ?k2 ?k3 ?k4 ?k5 ?kK (fmeL _ _ _ _ _ _ ?g0) ?kp ?kd ?ku ?_; (case k1 => k_asm); (case k2 => k_asm); (case k3 => k_asm); (case k4 => k_asm); (case k5 => k_asm); (case kK => first | exact rfl | assumption); (case kp => trivial); (case g0 => with_reducible assumption); (case kd => ktr_room); (case ku => ktr_units)); k_whole; intro r' news' h' tk' F' N' S' P'; (try k_sweep)))
local macro_rules | `(tactic| walk_at "call ref") => `(tactic| (k_here; (with_reducible show wpAny _ _ (call (Value.ref 128) _) _ _ _); k_dflt (refine' Cn.useP ?k1 ?k2 ?k3 ?k4 ?k5 ?kK (partsL _ _ _ _ _ _ _ _ _ _ _ ?g0 ?g1 ?g2 ?g3 ?g4) ?kp ?kd ?ku ?_; (case k1 => k_asm); (case k2 => k_asm); (case k3 => k_asm); (case k4 => k_asm); (case k5 => k_asm); (case kK => first | exact rfl | assumption); (case kp => exact by walk_at "my_tmR"); (case g1 => with_reducible assumption); (case g2 => with_reducible assumption); (case g0 => with_reducible assumption); (case g3 => with_reducible assumption); (case g4 => with_reducible assumption); (case kd => ktr_room); (case ku => ktr_units)); k_whole; intro D' k' v1' v2' news' h' tk' F' N' S' M' P1' P2'; (try k_sweep)))
local macro_rules | `(tactic| walk_at "call ref") => `(tactic| (k_here; (with_reducible show wpAny _ _ (call (Value.ref 97) _) _ _ _); k_dflt (refine' Cn.use ?k1 ?k2 ?k3 ?k4 ?k5 ?kK (add0L1 _ _ _ _ _ _ _ _ ?g0 ?g1) ?kp ?kd ?ku ?_; (case k1 => k_asm); (case k2 => k_asm); (case k3 => k_asm); (case k4 => k_asm); (case k5 => k_asm); (case kK => first | exact rfl | assumption); (case kp => exact ⟨by walk_at "my_tmR", by walk_at "my_tmR"⟩); (case g0 => with_reducible assumption); (case g1 => with_reducible assumption); (case kd => ktr_room); (case ku => ktr_units)); k_whole; intro r' news' h' tk' F' N' S' P'; (try k_sweep)))
local macro_rules | `(tactic| walk_at "call ref") => `(tactic| (k_here; (with_reducible show wpAny _ _ (call (Value.ref 97) _) _ _ _); k_dflt (refine' Cn.use ?k1 ?k2 ?k3 ?k4 ?k5 ?kK (add0L2 _ _ _ _ _ _ _ _ _ ?g0 ?g1 ?g2) ?kp ?kd ?ku ?_; (case k1 => k_asm); (case k2 => k_asm); (case k3 => k_asm); (case k4 => k_asm); (case k5 => k_asm); (case kK => first | exact rfl | assumption); (case kp => exact ⟨by walk_at "my_tmR", by walk_at "my_tmR"⟩); (case g0 => with_reducible assumption); (case g1 => with_reducible assumption); (case g2 => with_reducible assumption); (case kd => ktr_room); (case ku => ktr_units)); k_whole; intro r' news' h' tk' F' N' S' P'; (try k_sweep)))
local macro_rules | `(tactic| walk_at "call ref") => `(tactic| (k_here; (with_reducible show wpAny _ _ (call (Value.ref 113) _) _ _ _); k_dflt (refine' Cn.use ?k1 ?k2 ?k3 ?k4 ?k5 ?kK (mul0L _ _ _ _ _ _ _ _ _ _ ?g0 ?g1 ?g2) ?kp ?kd ?ku ?_; (case k1 => k_asm); (case k2 => k_asm); (case k3 => k_asm); (case k4 => k_asm); (case k5 => k_asm); (case kK => first | exact rfl | assumption); (case kp => exact ⟨by walk_at "my_tmR", by walk_at "my_tmR"⟩); (case g1 => with_reducible assumption); (case g2 => with_reducible assumption); (case g0 => with_reducible assumption); (case kd => ktr_room); (case ku => ktr_units)); k_whole; intro r' news' h' tk' F' N' S' P'; (try k_sweep)))
local macro_rules | `(tactic| walk_at "call ref") => `(tactic| (k_here; (with_reducible show wpAny _ _ (call (Value.ref 135) _) _ _ _); k_dflt (refine' Cn.useP ?k1 ?k2 ?k3 ?k4 ?k5 ?kK (productL _ _ _ _ _ _ _ _ _ _ _ _ _ _ ?g0 ?g1 ?g2 ?g3 ?g4 ?g5) ?kp ?kd ?ku ?_; (case k1 => k_asm); (case k2 => k_asm); (case k3 => k_asm); (case k4 => k_asm); (case k5 => k_asm); (case kK => first | exact rfl | assumption); (case kp => exact ⟨by walk_at "my_tmR", by walk_at "my_tmR"⟩); (case g1 => with_reducible assumption); (case g2 => with_reducible assumption); (case g0 => with_reducible assumption); (case g3 => with_reducible assumption); (case g4 => with_reducible assumption); (case g5 => with_reducible assumption); (case kd => ktr_room); (case ku => ktr_units)); k_whole; intro D' k' v1' v2' news' h' tk' F' N' S' M' P1' P2'; (try k_sweep)))
local macro_rules | `(tactic| walk_at "call ref") => `(tactic| (k_here; (with_reducible show wpAny _ _ (call (Value.ref 82) _) _ _ _); k_dflt (refine' Cn.use ?k1 ?k2 ?k3 ?k4 ?k5 ?kK (absL1 _ _ _ _ _ _ _ _ ?g0 ?g1 ?g2) ?kp ?kd ?ku ?_; (case k1 => k_asm); (case k2 => k_asm); (case k3 => k_asm); (case k4 => k_asm); (case k5 => k_asm); (case kK => first | exact rfl | assumption); (case kp => exact by walk_at "my_tmR"); (case g0 => with_reducible assumption); (case g1 => with_reducible assumption); (case g2 => with_reducible assumption); (case kd => ktr_room); (case ku => ktr_units)); k_whole; intro r' news' h' tk' F' N' S' P'; (try k_sweep)))
local macro_rules | `(tactic| walk_at "call ref") => `(tactic| (k_here; (with_reducible show wpAny _ _ (call (Value.ref 82) _) _ _ _); k_dflt (refine' Cn.use ?k1 ?k2 ?k3 ?k4 ?k5 ?kK (absL2 _ _ _ _ _ _ _ _ ?g0 ?g1 ?g2) ?kp ?kd ?ku ?_; (case k1 => k_asm); (case k2 => k_asm); (case k3 => k_asm); (case k4 => k_asm); (case k5 => k_asm); (case kK => first | exact rfl | assumption); (case kp => exact by walk_at "my_tmR"); (case g0 => with_reducible assumption); (case g1 => with_reducible assumption); (case g2 => with_reducible assumption); (case kd => ktr_room); (case ku => ktr_units)); k_whole; intro r' news' h' tk' F' N' S' P'; (try k_sweep)))
local macro_rules | `(tactic| walk_at "call ref") => `(tactic| (k_here; (with_reducible show wpAny _ _ (call (Value.ref 120) _) _ _ _); k_dflt (refine' Cn.use ?k1 ?k2 ?k3 ?k4 ?k5 ?kK (shiftL _ _ _ _ _ _ _ ?g0) ?kp ?kd ?ku ?_; (case k1 => k_asm); (case k2 => k_asm); (case k3 => k_asm); (case k4 => k_asm); (case k5 => k_asm); (case kK => first | exact rfl | assumption); (case kp => exact by walk_at "my_tmR"); (case g0 => with_reducible assumption); (case kd => ktr_room); (case ku => ktr_units)); k_whole; intro r' news' h' tk' F' N' S' P'; (try k_sweep)))
local macro_rules | `(tactic| walk_at "call ref") => `(tactic| (k_here; (with_reducible show wpAny _ _ (call (Value.ref 66) _) _ _ _); k_dflt (refine' Cn.useB ?k1 ?k2 ?k3 ?k4 ?k5 ?kK (leL _ _ _ _ _ _ _ _ _ ?g0 ?g1 ?g2) ?kp ?kd ?ku ?_; (case k1 => k_asm); (case k2 => k_asm); (case k3 => k_asm); (case k4 => k_asm); (case k5 => k_asm); (case kK => first | exact rfl | assumption); (case kp => exact ⟨by walk_at "my_tmR", by walk_at "my_tmR"⟩); (case g0 => with_reducible assumption); (case g1 => with_reducible assumption); (case g2 => with_reducible assumption); (case kd => ktr_room); (case ku => ktr_units)); k_whole; intro news' h' tk' F' N' S'; (try k_sweep)))

/-! part P14 -/

theorem law_post (args : List WData) : PySem.Challenge.rw_aw5010_01.row.claim.post args (.bool true) args = true :=
  postW_of rfl (w_eq_bool (w_res rfl) w_lit) rfl
theorem law_end {cl mean args s₁ s'} {L : Addr} {m : Str → Option Value} (F : Fr s₁.heap L s'.heap m) (hg : s'.gens = #[]) (hos : s'.os = s₁.os) :
    GoodW PySem.Challenge.rw_aw5010_01.row.claim cl mean args s₁ (.ok (.ret (.bool true))) s' :=
  goodW_bool F hg (fun _ => rfl) (law_post _) hos
local macro_rules | `(tactic| walk_at "law_end") => `(tactic| ((with_reducible refine' law_end ?la ?lb ?lc); (case la => k_asm); (case lb => with_reducible assumption); (case lc => rfl)))
set_option maxRecDepth 100000 in
set_option maxHeartbeats 100000000 in
theorem law_holds : PySem.Challenge.rw_aw5010_01.Holds := hd (by
  k_go0
  have hOld : OldL [] := trivial
  (all_goals try k_fold)
  repeat' (first | (k_unfold; (try dsimp only)) | (walk_at "law_end") | (k_end; wrow_close) | walk1 | (dsimp only; walk1) | (leave1; walk_say "STEP leave1"; try dsimp only) | fail "no step")
  all_goals (try (k_data)))

end Mine

theorem PySem.Challenge.cw_aw5010_01_holds : PySem.Challenge.rw_aw5010_01.Holds := by
  exact Mine.law_holds
