import PyProof.Rows.All
import Wide.All
import OpenK.AllK
import Wide.FinOn
import Flt.RightMore
import Flt.Pure
import Flt.RightSqrt
import Lean
import PySem.Challenge.RW_tp0005_01
set_option Elab.async false
set_option rowWalk.seconds 0

section
open PySem PySem.W PyProof.Rows
set_option Elab.async false
set_option maxRecDepth 100000
set_option maxHeartbeats 8000000
open_top hd for PySem.Challenge.rw_tp0005_01

end
section
set_option maxRecDepth 100000
namespace Mine
open PySem PySem.Float64

/-! scaled integers: a float x stands for val x = x * 2^1074; K = 2^1014, so an Int a stands for a * K (a in units of 2^-60) -/
def K : Int := 2 ^ 1014
theorem K_pos : 0 < K := by unfold K; exact Int.pow_pos (by decide)
def R32 : Nat := 2 ^ 1032
def M74 : Int := 2 ^ 1074
theorem M74_eq : M74 = 2 ^ 60 * K := by unfold M74 K; rw [← Int.pow_add]
theorem R32_eq : (R32 : Int) = 2 ^ 18 * K := by
  unfold R32 K; rw [← Int.pow_add]; simp only [Int.natCast_pow]; rfl
theorem N74_eq : ((2 ^ 1074 : Nat) : Int) = M74 := by unfold M74; simp only [Int.natCast_pow]; rfl

theorem V_any : ∀ (k q : Nat), q ≤ 2 ^ 53 → ∃ t, V t = q * 2 ^ k
  | 0, q, h => ⟨0 * 2 ^ 52 + q, V_at h (.inr rfl)⟩
  | k + 1, q, h => by
    by_cases h2 : 2 ^ 52 ≤ q
    · exact ⟨_, V_at h (.inl h2)⟩
    · obtain ⟨t, ht⟩ := V_any k (2 * q) (by omega)
      exact ⟨t, by rw [ht, Nat.pow_succ]; ac_rfl⟩

theorem near_nat {r : UInt64} {neg : Bool} {W D : Nat} (h : Right r neg W D) (hD : 0 < D) (hW : W ≤ D * 2 ^ 53 * R32) :
    ∃ m e, decode r = .fin neg m e ∧ ∃ v : Nat, val r = sgn neg v ∧ D * v ≤ W + D * R32 ∧ W ≤ D * v + D * R32 := by
  obtain ⟨t, rfl, h1, h2, h3⟩ := h
  have hR : 0 < R32 := Nat.two_pow_pos _
  have hlt : t < infMag := by
    refine Nat.lt_of_le_of_ne h1 fun e => ?_
    have h4 := h2.mp e
    have e1 : (2 : Nat) ^ 2045 = 2 ^ 1013 * R32 := by unfold R32; rw [← Nat.pow_add]
    have e2 : (2 : Nat) ≤ 2 ^ 1013 := by
      have : (2 : Nat) ^ 1 ≤ 2 ^ 1013 := Nat.pow_le_pow_right (by decide) (by decide)
      simpa using this
    rw [e1] at h4
    generalize (2 : Nat) ^ 1013 = J at *
    have h5 : D * ((2 ^ 54 - 1) * (J * R32)) ≤ D * (2 ^ 54 * R32) := by
      refine Nat.le_trans h4 ?_
      calc 2 * W ≤ 2 * (D * 2 ^ 53 * R32) := Nat.mul_le_mul_left _ hW
        _ = D * (2 ^ 54 * R32) := by rw [show (2 : Nat) ^ 54 = 2 * 2 ^ 53 by decide]; generalize (2 : Nat) ^ 53 = z; ac_rfl
    have h6 := Nat.le_of_mul_le_mul_left h5 hD
    rw [← Nat.mul_assoc] at h6
    have h7 := Nat.le_of_mul_le_mul_right h6 hR
    omega
  obtain ⟨m, e, hd, hv⟩ := decode_pack neg hlt
  refine ⟨m, e, hd, V t, val_pack neg hlt, ?_⟩
  have hq : W / (D * R32) ≤ 2 ^ 53 := by
    refine Nat.div_le_of_le_mul ?_
    calc W ≤ D * 2 ^ 53 * R32 := hW
      _ = D * R32 * 2 ^ 53 := by generalize (2 : Nat) ^ 53 = z; ac_rfl
  obtain ⟨t', ht'⟩ := V_any 1032 (W / (D * R32)) hq
  have h4 := (h3 hlt t').1
  have h5 := Nat.div_add_mod W (D * R32)
  have h6 := Nat.mod_lt W (Nat.mul_pos hD hR)
  have e3 : D * V t' = D * R32 * (W / (D * R32)) := by
    rw [ht']; show D * (W / (D * R32) * R32) = _; ac_rfl
  rw [e3] at h4
  unfold dist at h4
  omega

theorem sgn_nn (v : Nat) : sgn false v = (v : Int) := rfl
theorem sgn_ng (v : Nat) : sgn true v = -(v : Int) := rfl

theorem near {r : UInt64} {neg : Bool} {W D : Nat} (h : Right r neg W D) (hD : 0 < D) (hW : W ≤ D * 2 ^ 53 * R32) :
    ∃ m e, decode r = .fin neg m e ∧ (D : Int) * val r ≤ sgn neg W + D * R32 ∧ sgn neg W ≤ D * val r + D * R32 := by
  obtain ⟨m, e, hd, v, hv, h1, h2⟩ := near_nat h hD hW
  refine ⟨m, e, hd, ?_⟩
  rw [hv]
  have h1' : ((D * v : Nat) : Int) ≤ ((W + D * R32 : Nat) : Int) := Int.ofNat_le.mpr h1
  have h2' : ((W : Nat) : Int) ≤ ((D * v + D * R32 : Nat) : Int) := Int.ofNat_le.mpr h2
  simp only [Int.natCast_add, Int.natCast_mul] at h1' h2'
  cases neg
  · simp only [sgn_nn]; exact ⟨h1', h2'⟩
  · simp only [sgn_ng, Int.mul_neg]
    constructor <;> omega

def Fin (x : UInt64) : Prop := ∃ sg m e, decode x = .fin sg m e
theorem val_sgn {x : UInt64} {a : Bool} {m : Nat} {e : Int} (h : decode x = .fin a m e) : val x = sgn a (val x).natAbs := by
  rw [val_natAbs h, val_eq h]

structure Iv (x : UInt64) (a b : Int) : Prop where
  fin : ∃ sg m e, decode x = .fin sg m e
  lo : a * K ≤ val x
  hi : val x ≤ b * K

theorem natAbs_le {v : Int} {n : Nat} (h1 : v ≤ n) (h2 : -(n : Int) ≤ v) : v.natAbs ≤ n := by omega
theorem sgn_decide (v : Int) : sgn (decide (v < 0)) v.natAbs = v := by
  unfold sgn
  by_cases h : v < 0
  · simp only [h, decide_true, if_true]; omega
  · simp only [h, decide_false, Bool.false_eq_true, if_false]; omega

theorem kmono {a b : Int} (h : a ≤ b) : a * K ≤ b * K := Int.mul_le_mul_of_nonneg_right h (Int.le_of_lt K_pos)

theorem big_eq : ((1 * 2 ^ 53 * R32 : Nat) : Int) = 2 ^ 71 * K := by
  simp only [Int.natCast_mul, R32_eq, Int.natCast_pow, Int.natCast_one]
  rw [← Int.mul_assoc]
  congr 1

theorem zero_val (b : Bool) : decode (zero b) = .fin b 0 (-1074) ∧ val (zero b) = 0 := by
  have h := decode_pack b (t := 0) (by decide)
  obtain ⟨m, e, hd, hv⟩ := h
  have h2 := val_pack b (t := 0) (by decide)
  refine ⟨?_, ?_⟩
  · cases b <;> with_unfolding_all rfl
  · unfold zero; rw [h2, V_zero]; cases b <;> rfl

theorem add_iv {x y : UInt64} {a b c d : Int} (hx : Iv x a b) (hy : Iv y c d) (h1 : -2 ^ 71 ≤ a + c) (h2 : b + d ≤ 2 ^ 71) :
    Iv (add x y) (a + c - 2 ^ 18) (b + d + 2 ^ 18) := by
  obtain ⟨sx, m, e, dx⟩ := hx.fin
  obtain ⟨sy, k, f, dy⟩ := hy.fin
  have hr := add_right dx dy
  have l := Int.add_le_add hx.lo hy.lo
  have u := Int.add_le_add hx.hi hy.hi
  rw [← Int.add_mul] at l u
  have k1 : (-2 ^ 71) * K ≤ (a + c) * K := kmono h1
  have k2 : (b + d) * K ≤ 2 ^ 71 * K := kmono h2
  have hK := K_pos
  have el : (a + c - 2 ^ 18) * K = (a + c) * K - 2 ^ 18 * K := by rw [Int.sub_mul]
  have eu : (b + d + 2 ^ 18) * K = (b + d) * K + 2 ^ 18 * K := by rw [Int.add_mul]
  by_cases h0 : val x + val y = 0
  · have e0 := hr.1 h0
    have z := zero_val (sx && sy)
    refine ⟨⟨_, _, _, by rw [e0]; exact z.1⟩, ?_, ?_⟩
    · rw [e0, z.2, el]; omega
    · rw [e0, z.2, eu]; omega
  · have h3 := hr.2 h0
    obtain ⟨m', e', hd, n1, n2⟩ := near h3 (by decide) (by
      have := big_eq
      have : (val x + val y).natAbs ≤ 1 * 2 ^ 53 * R32 := natAbs_le (by rw [big_eq]; omega) (by rw [big_eq]; rw [Int.neg_mul] at k1; omega)
      exact this)
    rw [sgn_decide, R32_eq] at n1 n2
    simp only [Int.natCast_one, Int.one_mul] at n1 n2
    refine ⟨⟨_, _, _, hd⟩, ?_, ?_⟩
    · rw [el]; omega
    · rw [eu]; omega

theorem neg_iv {y : UInt64} {c d : Int} (hy : Iv y c d) : Iv (neg y) (-d) (-c) := by
  obtain ⟨sy, k, f, dy⟩ := hy.fin
  refine ⟨⟨_, _, _, neg_decode dy⟩, ?_, ?_⟩
  · rw [neg_val dy, Int.neg_mul]; have := hy.hi; omega
  · rw [neg_val dy, Int.neg_mul]; have := hy.lo; omega
theorem sub_iv {x y : UInt64} {a b c d : Int} (hx : Iv x a b) (hy : Iv y c d) (h1 : -2 ^ 71 ≤ a - d) (h2 : b - c ≤ 2 ^ 71) :
    Iv (sub x y) (a - d - 2 ^ 18) (b - c + 2 ^ 18) := by
  have := add_iv hx (neg_iv hy) (by omega) (by omega)
  rw [← Int.sub_eq_add_neg, ← Int.sub_eq_add_neg] at this
  with_unfolding_all exact this

theorem sgn_bne {a b : Bool} {p q : Nat} : sgn (a != b) (p * q) = sgn a p * sgn b q := by
  cases a <;> cases b <;> simp [sgn, Int.neg_mul, Int.mul_neg]

/-- product with a number that is exactly c * K, 0 ≤ c -/
theorem mul_iv {x y : UInt64} {a b c : Int} (hx : Iv x a b) (hy : Iv y c c) (hc : 0 ≤ c) (h1 : -2 ^ 131 ≤ a * c) (h2 : b * c ≤ 2 ^ 131) :
    Iv (mul x y) (a * c / 2 ^ 60 - 2 ^ 18) (b * c / 2 ^ 60 + 1 + 2 ^ 18) := by
  obtain ⟨sx, m, e, dx⟩ := hx.fin
  obtain ⟨sy, k, f, dy⟩ := hy.fin
  have hvy : val y = c * K := Int.le_antisymm hy.hi hy.lo
  have hr := mul_right dx dy
  have hK := K_pos
  have e1 : sgn (sx != sy) ((val x).natAbs * (val y).natAbs) = val x * val y := by rw [sgn_bne, ← val_sgn dx, ← val_sgn dy]
  have hcK : 0 ≤ c * K := Int.mul_nonneg hc (Int.le_of_lt hK)
  have l : a * K * (c * K) ≤ val x * (c * K) := Int.mul_le_mul_of_nonneg_right hx.lo hcK
  have u : val x * (c * K) ≤ b * K * (c * K) := Int.mul_le_mul_of_nonneg_right hx.hi hcK
  have el : a * K * (c * K) = a * c * (K * K) := by ac_rfl
  have eu : b * K * (c * K) = b * c * (K * K) := by ac_rfl
  have hKK : 0 < K * K := Int.mul_pos hK hK
  have hD : ((2 ^ 1074 : Nat) : Int) = 2 ^ 60 * K := by rw [N74_eq, M74_eq]
  have hb : (((2 ^ 1074 : Nat) * 2 ^ 53 * R32 : Nat) : Int) = 2 ^ 131 * (K * K) := by
    simp only [Int.natCast_mul, hD, R32_eq]
    have : (2 : Int) ^ 60 * K * ((2 ^ 53 : Nat) : Int) * (2 ^ 18 * K) = (2 ^ 60 * ((2 ^ 53 : Nat) : Int) * 2 ^ 18) * (K * K) := by ac_rfl
    rw [this]; congr 1
  have b1 : (-2 ^ 131) * (K * K) ≤ a * c * (K * K) := Int.mul_le_mul_of_nonneg_right h1 (Int.le_of_lt hKK)
  have b2 : b * c * (K * K) ≤ 2 ^ 131 * (K * K) := Int.mul_le_mul_of_nonneg_right h2 (Int.le_of_lt hKK)
  have hW : (val x).natAbs * (val y).natAbs ≤ 2 ^ 1074 * 2 ^ 53 * R32 := by
    rw [← Int.natAbs_mul]
    refine natAbs_le ?_ ?_
    · rw [hb, hvy]; omega
    · rw [hb, hvy]; rw [Int.neg_mul] at b1; omega
  obtain ⟨m', e', hd, n1, n2⟩ := near hr (Nat.two_pow_pos _) hW
  rw [e1, hD, R32_eq, hvy] at n1 n2
  have g1 := Int.mul_ediv_self_le (x := a * c) (k := (2 : Int) ^ 60) (by decide)
  have g2 := Int.lt_mul_ediv_self_add (x := b * c) (k := (2 : Int) ^ 60) (by decide)
  generalize a * c / 2 ^ 60 = qa at *
  generalize b * c / 2 ^ 60 = qb at *
  have hcancel : ∀ {p q : Int}, 2 ^ 60 * K * p ≤ 2 ^ 60 * K * q → p ≤ q := fun h => Int.le_of_mul_le_mul_left h (Int.mul_pos (by decide) hK)
  have f1 : 2 ^ 60 * qa * (K * K) ≤ a * c * (K * K) := Int.mul_le_mul_of_nonneg_right g1 (Int.le_of_lt hKK)
  have f2 : b * c * (K * K) ≤ (2 ^ 60 * qb + 2 ^ 60) * (K * K) := Int.mul_le_mul_of_nonneg_right (Int.le_of_lt g2) (Int.le_of_lt hKK)
  refine ⟨⟨_, _, _, hd⟩, hcancel ?_, hcancel ?_⟩
  · have : 2 ^ 60 * K * ((qa - 2 ^ 18) * K) = 2 ^ 60 * qa * (K * K) - 2 ^ 60 * K * (2 ^ 18 * K) := by
      rw [Int.sub_mul, Int.mul_sub]; congr 1; ac_rfl
    rw [this]; omega
  · have : 2 ^ 60 * K * ((qb + 1 + 2 ^ 18) * K) = (2 ^ 60 * qb + 2 ^ 60) * (K * K) + 2 ^ 60 * K * (2 ^ 18 * K) := by
      rw [Int.add_mul, Int.mul_add, Int.add_mul, Int.add_mul, Int.mul_add]
      have : 2 ^ 60 * K * (qb * K) = 2 ^ 60 * qb * (K * K) := by ac_rfl
      have : 2 ^ 60 * K * (1 * K) = 2 ^ 60 * (K * K) := by rw [Int.one_mul]; ac_rfl
      omega
    rw [this]; omega

def divLo (a p q : Int) : Int := if 0 ≤ a then a * 2 ^ 60 / q else a * 2 ^ 60 / p
def divHi (b p q : Int) : Int := if 0 ≤ b then -(-(b * 2 ^ 60) / p) else -(-(b * 2 ^ 60) / q)

theorem div_iv {x y : UInt64} {a b p q : Int} (hx : Iv x a b) (hy : Iv y p q) (hp : 0 < p) (h1 : -(p * 2 ^ 11) ≤ a) (h2 : b ≤ p * 2 ^ 11) :
    Iv (div x y) (divLo a p q - 2 ^ 18) (divHi b p q + 2 ^ 18) := by
  obtain ⟨sx, m, e, dx⟩ := hx.fin
  obtain ⟨sy, k, f, dy⟩ := hy.fin
  have hK := K_pos
  have hpK : 0 < p * K := Int.mul_pos hp hK
  have hvy : 0 < val y := Int.lt_of_lt_of_le hpK hy.lo
  have hq : 0 < q := by
    refine Int.not_le.mp fun h => ?_
    have := Int.mul_nonpos_of_nonpos_of_nonneg h (Int.le_of_lt hK)
    have := hy.hi
    omega
  have hk : k ≠ 0 := by
    rintro rfl
    rw [val_eq dy, Nat.zero_mul] at hvy
    revert hvy; cases sy <;> simp [sgn]
  have hsy : sy = false := by
    cases sy
    · rfl
    · rw [val_eq dy] at hvy; rw [sgn_ng] at hvy; omega
  have hr := div_right dx dy hk
  have e1 : sgn (sx != sy) ((val x).natAbs * 2 ^ 1074) = val x * M74 := by
    rw [hsy, ← N74_eq, sgn_mul]
    congr 1
    rw [show (sx != false) = sx by cases sx <;> rfl]
    exact (val_sgn dx).symm
  have eD : (((val y).natAbs : Nat) : Int) = val y := by omega
  have hb : (((val y).natAbs * 2 ^ 53 * R32 : Nat) : Int) = val y * 2 ^ 11 * M74 := by
    simp only [Int.natCast_mul, R32_eq, eD, M74_eq]
    have e53 : ((2 ^ 53 : Nat) : Int) * 2 ^ 18 = 2 ^ 11 * 2 ^ 60 := by decide
    calc val y * ((2 ^ 53 : Nat) : Int) * (2 ^ 18 * K) = val y * (((2 ^ 53 : Nat) : Int) * 2 ^ 18) * K := by ac_rfl
      _ = val y * (2 ^ 11 * 2 ^ 60) * K := by rw [e53]
      _ = val y * 2 ^ 11 * (2 ^ 60 * K) := by ac_rfl
  have hM : 0 < M74 := by rw [M74_eq]; exact Int.mul_pos (by decide) hK
  have x1 : -(val y * 2 ^ 11) ≤ val x := by
    have := hx.lo
    have := kmono h1
    rw [Int.neg_mul] at this
    have e : p * 2 ^ 11 * K = p * K * 2 ^ 11 := by ac_rfl
    have := Int.mul_le_mul_of_nonneg_right hy.lo (show (0 : Int) ≤ 2 ^ 11 by decide)
    omega
  have x2 : val x ≤ val y * 2 ^ 11 := by
    have := hx.hi
    have := kmono h2
    have e : p * 2 ^ 11 * K = p * K * 2 ^ 11 := by ac_rfl
    have := Int.mul_le_mul_of_nonneg_right hy.lo (show (0 : Int) ≤ 2 ^ 11 by decide)
    omega
  have hW : (val x).natAbs * 2 ^ 1074 ≤ (val y).natAbs * 2 ^ 53 * R32 := by
    refine Int.ofNat_le.mp ?_
    rw [hb, Int.natCast_mul, N74_eq]
    refine Int.mul_le_mul_of_nonneg_right ?_ (Int.le_of_lt hM)
    omega
  obtain ⟨m', e', hd, n1, n2⟩ := near hr (by omega) hW
  rw [e1, eD, R32_eq, M74_eq] at n1 n2
  have hcancel : ∀ {s t : Int}, val y * s ≤ val y * t → s ≤ t := fun h => Int.le_of_mul_le_mul_left h hvy
  have hxl := Int.mul_le_mul_of_nonneg_right hx.lo (show (0 : Int) ≤ 2 ^ 60 by decide)
  have hxh := Int.mul_le_mul_of_nonneg_right hx.hi (show (0 : Int) ≤ 2 ^ 60 by decide)
  have kk : ∀ {s t : Int}, s * K ≤ t * K → s * K * K ≤ t * K * K := fun h => Int.mul_le_mul_of_nonneg_right h (Int.le_of_lt hK)
  refine ⟨⟨_, _, _, hd⟩, hcancel ?_, hcancel ?_⟩
  · have key : val y * (divLo a p q) ≤ val x * 2 ^ 60 := by
      unfold divLo
      split
      · rename_i h0
        have g := Int.mul_ediv_self_le (x := a * 2 ^ 60) (k := q) (by omega)
        have gn : 0 ≤ a * 2 ^ 60 / q := Int.ediv_nonneg (Int.mul_nonneg h0 (by decide)) (by omega)
        generalize a * 2 ^ 60 / q = z at *
        calc val y * z ≤ q * K * z := Int.mul_le_mul_of_nonneg_right hy.hi gn
          _ = q * z * K := by ac_rfl
          _ ≤ a * 2 ^ 60 * K := kmono g
          _ = a * K * 2 ^ 60 := by ac_rfl
          _ ≤ val x * 2 ^ 60 := hxl
      · rename_i h0
        have g := Int.mul_ediv_self_le (x := a * 2 ^ 60) (k := p) (by omega)
        have gn : a * 2 ^ 60 / p ≤ 0 := by
          have : a * 2 ^ 60 / p < 0 := Int.ediv_neg_of_neg_of_pos (by omega) hp
          omega
        generalize a * 2 ^ 60 / p = z at *
        calc val y * z ≤ p * K * z := Int.mul_le_mul_of_nonpos_right hy.lo gn
          _ = p * z * K := by ac_rfl
          _ ≤ a * 2 ^ 60 * K := kmono g
          _ = a * K * 2 ^ 60 := by ac_rfl
          _ ≤ val x * 2 ^ 60 := hxl
    have key2 : val y * divLo a p q * K ≤ val x * 2 ^ 60 * K := kmono key
    have : val y * ((divLo a p q - 2 ^ 18) * K) = val y * divLo a p q * K - val y * (2 ^ 18 * K) := by
      rw [Int.sub_mul, Int.mul_sub, Int.mul_assoc]
    rw [this]
    have : val x * (2 ^ 60 * K) = val x * 2 ^ 60 * K := by ac_rfl
    omega
  · have key : val x * 2 ^ 60 ≤ val y * (divHi b p q) := by
      unfold divHi
      split
      · rename_i h0
        have g := Int.mul_ediv_self_le (x := -(b * 2 ^ 60)) (k := p) (by omega)
        have gn : -(b * 2 ^ 60) / p ≤ 0 := by
          rcases Int.lt_or_eq_of_le (show -(b * 2 ^ 60) ≤ 0 by omega) with h | h
          · have := Int.ediv_neg_of_neg_of_pos h hp; omega
          · rw [h]; simp
        generalize -(b * 2 ^ 60) / p = z at *
        calc val x * 2 ^ 60 ≤ b * K * 2 ^ 60 := hxh
          _ = b * 2 ^ 60 * K := by ac_rfl
          _ ≤ -(p * z) * K := kmono (by omega)
          _ = p * K * (-z) := by rw [Int.neg_mul, Int.mul_neg]; congr 1; ac_rfl
          _ ≤ val y * (-z) := Int.mul_le_mul_of_nonneg_right hy.lo (by omega)
      · rename_i h0
        have g := Int.mul_ediv_self_le (x := -(b * 2 ^ 60)) (k := q) (by omega)
        have gn : 0 ≤ -(b * 2 ^ 60) / q := Int.ediv_nonneg (by omega) (by omega)
        generalize -(b * 2 ^ 60) / q = z at *
        calc val x * 2 ^ 60 ≤ b * K * 2 ^ 60 := hxh
          _ = b * 2 ^ 60 * K := by ac_rfl
          _ ≤ -(q * z) * K := kmono (by omega)
          _ = q * K * (-z) := by rw [Int.neg_mul, Int.mul_neg]; congr 1; ac_rfl
          _ ≤ val y * (-z) := Int.mul_le_mul_of_nonpos_right hy.hi (by omega)
    have key2 : val x * 2 ^ 60 * K ≤ val y * divHi b p q * K := kmono key
    have : val y * ((divHi b p q + 2 ^ 18) * K) = val y * divHi b p q * K + val y * (2 ^ 18 * K) := by
      rw [Int.add_mul, Int.mul_add, Int.mul_assoc]
    rw [this]
    have : val x * (2 ^ 60 * K) = val x * 2 ^ 60 * K := by ac_rfl
    omega

theorem nz_iv {y : UInt64} {c d : Int} (hy : Iv y c d) (h : 0 < c ∨ d < 0) : isZero y = false := by
  obtain ⟨sy, k, f, dy⟩ := hy.fin
  have hk : k ≠ 0 := by
    rintro rfl
    have hv : val y = 0 := by rw [val_eq dy, Nat.zero_mul]; cases sy <;> rfl
    have l := hy.lo
    have u := hy.hi
    rw [hv] at l u
    rcases h with h | h
    · have := Int.mul_pos h K_pos; omega
    · have := Int.mul_neg_of_neg_of_pos h K_pos; omega
  unfold isZero
  rw [dy]
  split
  · rename_i h; cases h; exact absurd rfl hk
  · rfl

theorem cmp_iv {x y : UInt64} {a b c d : Int} (hx : Iv x a b) (hy : Iv y c d) : cmp x y = some (compare (val x) (val y)) := by
  obtain ⟨sx, m, e, dx⟩ := hx.fin
  obtain ⟨sy, k, f, dy⟩ := hy.fin
  exact cmp_right dx dy
theorem klt {a b : Int} {v w : Int} (h1 : v ≤ a * K) (h2 : b * K ≤ w) (h : a < b) : v < w := by
  have := Int.mul_lt_mul_of_pos_right h K_pos
  omega
theorem lt_iv {x y : UInt64} {a b c d : Int} (hx : Iv x a b) (hy : Iv y c d) (h : b < c) : (cmp x y == some .lt) = true := by
  rw [cmp_iv hx hy, Int.compare_eq_lt.mpr (klt hx.hi hy.lo h)]; rfl
theorem nlt_iv {x y : UInt64} {a b c d : Int} (hx : Iv x a b) (hy : Iv y c d) (h : d ≤ a) : (cmp x y == some .lt) = false := by
  rw [cmp_iv hx hy]
  have := kmono h
  have := hx.lo
  have := hy.hi
  have : ¬ val x < val y := by omega
  cases hc : compare (val x) (val y)
  · exact absurd (Int.compare_eq_lt.mp hc) this
  · rfl
  · rfl
theorem neq_iv {x y : UInt64} {a b c d : Int} (hx : Iv x a b) (hy : Iv y c d) (h : b < c ∨ d < a) : (cmp x y == some .eq) = false := by
  rw [cmp_iv hx hy]
  have : val x ≠ val y := by
    rcases h with h | h
    · exact Int.ne_of_lt (klt hx.hi hy.lo h)
    · exact (Int.ne_of_lt (klt hy.hi hx.lo h)).symm
  cases hc : compare (val x) (val y)
  · rfl
  · exact absurd (Int.compare_eq_eq.mp hc) this
  · rfl
theorem Iv.mono {x : UInt64} {a b c d : Int} (h : Iv x a b) (h1 : c ≤ a) (h2 : b ≤ d) : Iv x c d :=
  ⟨h.fin, Int.le_trans (kmono h1) h.lo, Int.le_trans h.hi (kmono h2)⟩
end Mine

end
section
set_option maxRecDepth 100000
namespace Mine
open PySem PySem.Float64

theorem add_near {x y : UInt64} {sx sy : Bool} {m k : Nat} {e f : Int} (dx : decode x = .fin sx m e) (dy : decode y = .fin sy k f)
    (h1 : -(2 ^ 71 * K) ≤ val x + val y) (h2 : val x + val y ≤ 2 ^ 71 * K) :
    (∃ sg m e, decode (add x y) = .fin sg m e) ∧ val x + val y - 2 ^ 18 * K ≤ val (add x y) ∧ val (add x y) ≤ val x + val y + 2 ^ 18 * K := by
  have hr := add_right dx dy
  have hK := K_pos
  by_cases h0 : val x + val y = 0
  · have e0 := hr.1 h0
    have z := zero_val (sx && sy)
    refine ⟨⟨_, _, _, by rw [e0]; exact z.1⟩, ?_, ?_⟩
    · rw [e0, z.2]; omega
    · rw [e0, z.2]; omega
  · have h3 := hr.2 h0
    obtain ⟨m', e', hd, n1, n2⟩ := near h3 (by decide) (by
      have : (val x + val y).natAbs ≤ 1 * 2 ^ 53 * R32 := natAbs_le (by rw [big_eq]; omega) (by rw [big_eq]; omega)
      exact this)
    rw [sgn_decide, R32_eq] at n1 n2
    simp only [Int.natCast_one, Int.one_mul] at n1 n2
    exact ⟨⟨_, _, _, hd⟩, by omega, by omega⟩

def cOne : UInt64 := 0x3ff0000000000000
theorem one_eq : one = cOne := by decide +kernel
theorem one_dec : decode cOne = .fin false (2 ^ 52) (-52) := by with_unfolding_all rfl
theorem one_val : val cOne = M74 := by
  rw [val_eq one_dec, sgn_nn, ← N74_eq]
  congr 1

theorem mod_snd (x : UInt64) : (divmod x cOne).2 = if isZero (fmod x cOne) = true then zero false else if lt (fmod x cOne) (zero false) = true then add (fmod x cOne) cOne else fmod x cOne := by
  have c : copysign (zero false) cOne = zero false := by decide +kernel
  have l : lt cOne (zero false) = false := by decide +kernel
  unfold divmod
  simp only [c, l]
  split
  · rfl
  · cases h : lt (fmod x cOne) (zero false) <;> simp

theorem sgn_modd (a : Bool) (n N : Nat) : sgn a (n % N) = sgn a n - (if a then -((n / N : Nat) : Int) else ((n / N : Nat) : Int)) * (N : Int) := by
  have h : (n : Int) = (N : Int) * ((n / N : Nat) : Int) + ((n % N : Nat) : Int) := by
    rw [← Int.natCast_mul, ← Int.natCast_add, Nat.div_add_mod]
  generalize n / N = d at *
  generalize n % N = r at *
  cases a
  · simp only [sgn_nn, Bool.false_eq_true, if_false]; rw [Int.mul_comm]; omega
  · simp only [sgn_ng, if_true]; rw [Int.neg_mul, Int.mul_comm (d : Int)]; omega

theorem N_big : 2 ^ 1074 ≤ 1 * 2 ^ 53 * R32 := by
  refine Int.ofNat_le.mp ?_
  rw [big_eq, N74_eq, M74_eq]
  have := K_pos
  omega

theorem fmod_near {x : UInt64} {a : Bool} {m : Nat} {e : Int} (hx : decode x = .fin a m e) :
    ∃ m' e', decode (fmod x cOne) = .fin a m' e' ∧ val (fmod x cOne) ≤ sgn a ((val x).natAbs % 2 ^ 1074) + 2 ^ 18 * K ∧ sgn a ((val x).natAbs % 2 ^ 1074) ≤ val (fmod x cOne) + 2 ^ 18 * K := by
  have he := decode_ge hx
  have hf : fmod x cOne = ofBin a (m * 2 ^ (e - min e (-52)).toNat % (2 ^ 52 * 2 ^ (-52 - min e (-52)).toNat)) (min e (-52)) := by
    unfold fmod
    rw [hx, one_dec]
    rfl
  have hr := ofBin_right (neg := a) (M := m * 2 ^ (e - min e (-52)).toNat % (2 ^ 52 * 2 ^ (-52 - min e (-52)).toNat)) (g := min e (-52)) (by omega)
  rw [← hf, ← Nat.mul_mod_mul_right] at hr
  have e1 : m * 2 ^ (e - min e (-52)).toNat * 2 ^ (min e (-52) + 1074).toNat = (val x).natAbs := by
    rw [val_natAbs hx, Nat.mul_assoc, ← Nat.pow_add]; congr 2; omega
  have e2 : 2 ^ 52 * 2 ^ (-52 - min e (-52)).toNat * 2 ^ (min e (-52) + 1074).toNat = 2 ^ 1074 := by
    rw [← Nat.pow_add, ← Nat.pow_add]; congr 1; omega
  rw [e1, e2] at hr
  have hm : (val x).natAbs % 2 ^ 1074 < 2 ^ 1074 := Nat.mod_lt _ (Nat.two_pow_pos _)
  obtain ⟨m', e', hd, n1, n2⟩ := near hr (by decide) (Nat.le_trans (Nat.le_of_lt hm) N_big)
  rw [R32_eq] at n1 n2
  simp only [Int.natCast_one, Int.one_mul] at n1 n2
  exact ⟨m', e', hd, n1, n2⟩

theorem mod_near {x : UInt64} {a : Bool} {m : Nat} {e : Int} (hx : decode x = .fin a m e) :
    (∃ sg m e, decode (divmod x cOne).2 = .fin sg m e) ∧ (∃ z : Int, val x + z * M74 - 2 ^ 19 * K ≤ val (divmod x cOne).2 ∧ val (divmod x cOne).2 ≤ val x + z * M74 + 2 ^ 19 * K) ∧
    -(2 ^ 19 * K) ≤ val (divmod x cOne).2 ∧ val (divmod x cOne).2 ≤ M74 + 2 ^ 19 * K := by
  have hK := K_pos
  have hM := M74_eq
  obtain ⟨m', e', hd, n1, n2⟩ := fmod_near hx
  have hs := sgn_modd a (val x).natAbs (2 ^ 1074)
  rw [← val_sgn hx, N74_eq] at hs
  generalize hz : (if a then -(((val x).natAbs / 2 ^ 1074 : Nat) : Int) else (((val x).natAbs / 2 ^ 1074 : Nat) : Int)) = z at hs
  have hlt : (((val x).natAbs % 2 ^ 1074 : Nat) : Int) < M74 := by
    rw [← N74_eq]; exact Int.ofNat_lt.mpr (Nat.mod_lt _ (Nat.two_pow_pos _))
  have hge : (0 : Int) ≤ (((val x).natAbs % 2 ^ 1074 : Nat) : Int) := Int.natCast_nonneg _
  have hb : -M74 ≤ sgn a ((val x).natAbs % 2 ^ 1074) ∧ sgn a ((val x).natAbs % 2 ^ 1074) ≤ M74 := by
    cases a
    · rw [sgn_nn]; omega
    · rw [sgn_ng]; omega
  generalize sgn a ((val x).natAbs % 2 ^ 1074) = w at *
  have ez : (-z) * M74 = -(z * M74) := Int.neg_mul _ _
  rw [mod_snd]
  split
  · rename_i h0
    have hv : val (fmod x cOne) = 0 := by
      unfold isZero at h0
      rw [hd] at h0
      split at h0
      · rename_i h1; cases h1; rw [val_eq hd, Nat.zero_mul]; cases a <;> rfl
      · cases h0
    have z0 := zero_val false
    rw [z0.2]
    rw [hv] at n1 n2
    refine ⟨⟨_, _, _, z0.1⟩, ⟨-z, ?_, ?_⟩, ?_, ?_⟩ <;> omega
  · rename_i h0
    have z0 := zero_val false
    have hc := cmp_right hd z0.1
    split
    · rename_i h1
      have hneg : val (fmod x cOne) < 0 := by
        unfold lt at h1
        rw [hc, z0.2] at h1
        cases hcc : compare (val (fmod x cOne)) 0
        · exact Int.compare_eq_lt.mp hcc
        · rw [hcc] at h1; cases h1
        · rw [hcc] at h1; cases h1
      have ha := add_near hd one_dec (by rw [one_val]; omega) (by rw [one_val]; omega)
      rw [one_val] at ha
      have ez1 : (-z + 1) * M74 = -(z * M74) + M74 := by rw [Int.add_mul, Int.neg_mul, Int.one_mul]
      refine ⟨ha.1, ⟨-z + 1, ?_, ?_⟩, ?_, ?_⟩ <;> omega
    · rename_i h1
      have hnn : 0 ≤ val (fmod x cOne) := by
        refine Int.not_lt.mp fun hlt => ?_
        apply h1
        unfold lt
        rw [hc, z0.2, Int.compare_eq_lt.mpr hlt]; rfl
      refine ⟨⟨_, _, _, hd⟩, ⟨-z, ?_, ?_⟩, ?_, ?_⟩ <;> omega

/-- within [a, b] up to whole numbers, and not larger than B -/
structure Ivm (x : UInt64) (B a b : Int) : Prop where
  fin : ∃ sg m e, decode x = .fin sg m e
  lo : -(B * K) ≤ val x
  hi : val x ≤ B * K
  mid : ∃ z : Int, z * M74 + a * K ≤ val x ∧ val x ≤ z * M74 + b * K

theorem Ivm.of {x : UInt64} {a b : Int} (h : Iv x a b) {B : Int} (h1 : -B ≤ a) (h2 : b ≤ B) : Ivm x B a b := by
  refine ⟨h.fin, ?_, ?_, 0, ?_, ?_⟩
  · have := kmono h1; rw [Int.neg_mul] at this; have := h.lo; omega
  · have := kmono h2; have := h.hi; omega
  · have := h.lo; omega
  · have := h.hi; omega

theorem addm_iv {x y : UInt64} {B a b c d : Int} (hx : Ivm x B a b) (hy : Iv y c d) (h1 : -2 ^ 60 ≤ c) (h2 : d ≤ 2 ^ 60) (hB : B ≤ 2 ^ 70) : Ivm (add x y) (B + 2 ^ 60 + 2 ^ 18) (a + c - 2 ^ 18) (b + d + 2 ^ 18) := by
  obtain ⟨sx, m, e, dx⟩ := hx.fin
  obtain ⟨sy, k, f, dy⟩ := hy.fin
  have k1 := kmono h1
  have k2 := kmono h2
  have k3 := kmono hB
  have := hx.lo
  have := hx.hi
  have := hy.lo
  have := hy.hi
  have hK := K_pos
  obtain ⟨z, z1, z2⟩ := hx.mid
  rw [Int.neg_mul] at k1
  obtain ⟨n1, n2, n3⟩ := add_near dx dy (by omega) (by omega)
  refine ⟨n1, ?_, ?_, z, ?_, ?_⟩
  · rw [Int.add_mul, Int.add_mul]; omega
  · rw [Int.add_mul, Int.add_mul]; omega
  · rw [Int.sub_mul, Int.add_mul]; omega
  · rw [Int.add_mul, Int.add_mul]; omega
theorem subm_iv {x y : UInt64} {B a b c d : Int} (hx : Ivm x B a b) (hy : Iv y c d) (h1 : -2 ^ 60 ≤ c) (h2 : d ≤ 2 ^ 60) (hB : B ≤ 2 ^ 70) : Ivm (sub x y) (B + 2 ^ 60 + 2 ^ 18) (a - d - 2 ^ 18) (b - c + 2 ^ 18) := by
  have := addm_iv hx (neg_iv hy) (by omega) (by omega) hB
  rw [← Int.sub_eq_add_neg, ← Int.sub_eq_add_neg] at this
  with_unfolding_all exact this

abbrev I2 := Int × Int
def Ip (x : UInt64) (i : I2) : Prop := Iv x i.1 i.2

def mod1K (a b : Int) (k : I2 → Bool) : Bool :=
  let q := (a - 2 ^ 19) / 2 ^ 60
  let a' := a - 2 ^ 19 - q * 2 ^ 60
  let b' := b + 2 ^ 19 - q * 2 ^ 60
  k (a', b') && (decide (b' < 2 ^ 60 - 2 ^ 19) || k (a' - 2 ^ 60, b' - 2 ^ 60)) && (decide (2 ^ 19 < a') || k (a' + 2 ^ 60, b' + 2 ^ 60)) && decide (b' < 2 ^ 61 - 2 ^ 20)

theorem mod1_sound {x : UInt64} {B a b : Int} (hx : Ivm x B a b) {k : I2 → Bool} (h : mod1K a b k = true) : ∃ i, Ip (divmod x cOne).2 i ∧ k i = true := by
  obtain ⟨sx, m, e, dx⟩ := hx.fin
  obtain ⟨hf, ⟨z, z1, z2⟩, b1, b2⟩ := mod_near dx
  obtain ⟨y, y1, y2⟩ := hx.mid
  have hK := K_pos
  have hM := M74_eq
  unfold mod1K at h
  simp only [Bool.and_eq_true, Bool.or_eq_true, decide_eq_true_eq] at h
  obtain ⟨⟨⟨h1, h2⟩, h3⟩, h4⟩ := h
  have hq := Int.mul_ediv_self_le (x := a - 2 ^ 19) (k := (2 : Int) ^ 60) (by decide)
  have hq2 := Int.lt_mul_ediv_self_add (x := a - 2 ^ 19) (k := (2 : Int) ^ 60) (by decide)
  generalize (a - 2 ^ 19) / 2 ^ 60 = q at *
  generalize ea : a - 2 ^ 19 - q * 2 ^ 60 = a' at *
  generalize eb : b + 2 ^ 19 - q * 2 ^ 60 = b' at *
  obtain ⟨n, hn⟩ : ∃ n : Int, n = y + z + q := ⟨_, rfl⟩
  have en : n * M74 = y * M74 + z * M74 + q * M74 := by rw [hn, Int.add_mul, Int.add_mul]
  have ea' : a' * K = a * K - 2 ^ 19 * K - q * M74 := by rw [← ea, Int.sub_mul, Int.sub_mul, hM, Int.mul_assoc]
  have eb' : b' * K = b * K + 2 ^ 19 * K - q * M74 := by rw [← eb, Int.sub_mul, Int.add_mul, hM, Int.mul_assoc]
  have v1 : a' * K + n * M74 ≤ val (divmod x cOne).2 := by omega
  have v2 : val (divmod x cOne).2 ≤ b' * K + n * M74 := by omega
  have ha0 : 0 ≤ a' := by omega
  have ha0K : 0 ≤ a' * K := Int.mul_nonneg ha0 (Int.le_of_lt hK)
  have hlow : -2 < n := by
    refine Int.not_le.mp fun hn2 => ?_
    have t1 : n * M74 ≤ (-2) * M74 := Int.mul_le_mul_of_nonneg_right hn2 (by omega)
    have t2 := Int.mul_lt_mul_of_pos_right h4 hK
    rw [Int.sub_mul] at t2
    omega
  have hup : n < 2 := by
    refine Int.not_le.mp fun hn2 => ?_
    have t1 : 2 * M74 ≤ n * M74 := Int.mul_le_mul_of_nonneg_right hn2 (by omega)
    omega
  have cases3 : n = -1 ∨ n = 0 ∨ n = 1 := by omega
  rcases cases3 with rfl | rfl | rfl
  · refine ⟨(a' - 2 ^ 60, b' - 2 ^ 60), ⟨hf, ?_, ?_⟩, ?_⟩
    · show (a' - 2 ^ 60) * K ≤ _; rw [Int.sub_mul]; omega
    · show _ ≤ (b' - 2 ^ 60) * K; rw [Int.sub_mul]; omega
    · refine h2.resolve_left fun hb => ?_
      have t := Int.mul_lt_mul_of_pos_right hb hK
      rw [Int.sub_mul] at t
      omega
  · exact ⟨(a', b'), ⟨hf, by show a' * K ≤ _; omega, by show _ ≤ b' * K; omega⟩, h1⟩
  · refine ⟨(a' + 2 ^ 60, b' + 2 ^ 60), ⟨hf, ?_, ?_⟩, ?_⟩
    · show (a' + 2 ^ 60) * K ≤ _; rw [Int.add_mul]; omega
    · show _ ≤ (b' + 2 ^ 60) * K; rw [Int.add_mul]; omega
    · refine h3.resolve_left fun hb => ?_
      have t := Int.mul_lt_mul_of_pos_right hb hK
      omega
end Mine

end
section
set_option maxRecDepth 100000
set_option linter.unusedSimpArgs false
namespace Mine
open PySem PySem.Float64

def c16 : UInt64 := 0x3fc5555555555555
def c13 : UInt64 := 0x3fd5555555555555
def c23 : UInt64 := 0x3fe5555555555555
def c05 : UInt64 := 0x3fe0000000000000
def c2 : UInt64 := 0x4000000000000000
def c4 : UInt64 := 0x4010000000000000
def c6 : UInt64 := 0x4018000000000000

theorem const_iv {x : UInt64} {m : Nat} {e : Int} (h : decode x = .fin false m e) (he : -60 ≤ e) (he2 : e ≤ 0) {c : Int} (hc : (m * 2 ^ (e + 60).toNat : Nat) = c) : Iv x c c := by
  have hv : val x = c * K := by
    rw [val_eq h, sgn_nn, ← hc]
    have e1 : (e + 1074).toNat = (e + 60).toNat + 1014 := by omega
    rw [e1, Nat.pow_add, ← Nat.mul_assoc, Int.natCast_mul]
    congr 1
  exact ⟨⟨_, _, _, h⟩, Int.le_of_eq hv.symm, Int.le_of_eq hv⟩

def k16 : Int := 6004799503160661 * 2 ^ 5
def k13 : Int := 6004799503160661 * 2 ^ 6
def k23 : Int := 6004799503160661 * 2 ^ 7
theorem i16 : Iv c16 k16 k16 := const_iv (m := 6004799503160661) (e := -55) (by with_unfolding_all rfl) (by decide) (by decide) (by decide)
theorem i13 : Iv c13 k13 k13 := const_iv (m := 6004799503160661) (e := -54) (by with_unfolding_all rfl) (by decide) (by decide) (by decide)
theorem i23 : Iv c23 k23 k23 := const_iv (m := 6004799503160661) (e := -53) (by with_unfolding_all rfl) (by decide) (by decide) (by decide)
theorem i05 : Iv c05 (2 ^ 59) (2 ^ 59) := const_iv (m := 2 ^ 52) (e := -53) (by with_unfolding_all rfl) (by decide) (by decide) (by decide)
theorem i1 : Iv cOne (2 ^ 60) (2 ^ 60) := const_iv (m := 2 ^ 52) (e := -52) (by with_unfolding_all rfl) (by decide) (by decide) (by decide)
theorem i2 : Iv c2 (2 ^ 61) (2 ^ 61) := const_iv (m := 2 ^ 52) (e := -51) (by with_unfolding_all rfl) (by decide) (by decide) (by decide)
theorem i4 : Iv c4 (2 ^ 62) (2 ^ 62) := const_iv (m := 2 ^ 52) (e := -50) (by with_unfolding_all rfl) (by decide) (by decide) (by decide)
theorem i6 : Iv c6 (6 * 2 ^ 60) (6 * 2 ^ 60) := const_iv (m := 6755399441055744) (e := -50) (by with_unfolding_all rfl) (by decide) (by decide) (by decide)

/-! the float program -/
def vF (m1 m2 hue : UInt64) : UInt64 :=
  if (cmp (divmod hue cOne).2 c16 == some .lt) = true then add m1 (mul (mul (sub m2 m1) (divmod hue cOne).2) c6)
  else if (cmp (divmod hue cOne).2 c05 == some .lt) = true then m2
  else if (cmp (divmod hue cOne).2 c23 == some .lt) = true then add m1 (mul (mul (sub m2 m1) (sub c23 (divmod hue cOne).2)) c6)
  else m1

def max3 (r g b : UInt64) : UInt64 :=
  let t := if (cmp r g == some .lt) = true then g else r
  if (cmp t b == some .lt) = true then b else t
def min3 (r g b : UInt64) : UInt64 :=
  let t := if (cmp g r == some .lt) = true then g else r
  if (cmp b t == some .lt) = true then b else t

def hueOf (r g b mx mn : UInt64) : UInt64 :=
  let rg := sub mx mn
  if (cmp r mx == some .eq) = true then sub (div (sub mx b) rg) (div (sub mx g) rg)
  else if (cmp g mx == some .eq) = true then sub (add c2 (div (sub mx r) rg)) (div (sub mx b) rg)
  else sub (add c4 (div (sub mx g) rg)) (div (sub mx r) rg)

def back (r g b : UInt64) : UInt64 := (divmod (div (hueOf r g b (max3 r g b) (min3 r g b)) c6) cOne).2

def truncI (x : UInt64) : Int := match decode x with
  | .fin s m e => truncOf s m e
  | _ => 0

/-! the checker -/
def forceN (n : Nat) (k : Nat → Bool) : Bool := match n with
  | 0 => k 0
  | m + 1 => k (m + 1)
def forceI (a : Int) (k : Int → Bool) : Bool := match a with
  | .ofNat n => forceN n fun n => k (.ofNat n)
  | .negSucc n => forceN n fun n => k (.negSucc n)
theorem forceN_eq (n : Nat) (k : Nat → Bool) : forceN n k = k n := by cases n <;> rfl
theorem forceI_eq (a : Int) (k : Int → Bool) : forceI a k = k a := by cases a <;> simp only [forceI, forceN_eq]
def chk (x : I2) (k : I2 → Bool) : Bool := forceI x.1 fun a => forceI x.2 fun b => decide (-2 ^ 65 ≤ a) && decide (b ≤ 2 ^ 65) && k (a, b)

def Ib (x : UInt64) (i : I2) : Prop := Iv x i.1 i.2 ∧ -2 ^ 65 ≤ i.1 ∧ i.2 ≤ 2 ^ 65
theorem chk_k {x : UInt64} {i : I2} {k : I2 → Bool} (hx : Iv x i.1 i.2) (h : chk i k = true) : ∃ r, Ib x r ∧ k r = true := by
  unfold chk at h
  simp only [forceI_eq, Bool.and_eq_true, decide_eq_true_eq] at h
  exact ⟨i, ⟨hx, h.1.1, h.1.2⟩, h.2⟩

def addI (x y : I2) : I2 := (x.1 + y.1 - 2 ^ 18, x.2 + y.2 + 2 ^ 18)
def subI (x y : I2) : I2 := (x.1 - y.2 - 2 ^ 18, x.2 - y.1 + 2 ^ 18)
def mulI (x : I2) (c : Int) : I2 := (x.1 * c / 2 ^ 60 - 2 ^ 18, x.2 * c / 2 ^ 60 + 1 + 2 ^ 18)
def divI (x y : I2) : I2 := (divLo x.1 y.1 y.2 - 2 ^ 18, divHi x.2 y.1 y.2 + 2 ^ 18)

theorem Ib.nn {x : UInt64} {i : I2} (h : Ib x i) : i.1 ≤ i.2 := by
  have h1 := h.1.lo
  have h2 := h.1.hi
  have h3 : i.1 * K ≤ i.2 * K := by omega
  exact Int.le_of_mul_le_mul_right h3 K_pos

section
variable {x y : UInt64} {i j : I2} {k : I2 → Bool}
theorem add_k (hx : Ib x i) (hy : Ib y j) (h : chk (addI i j) k = true) : ∃ r, Ib (add x y) r ∧ k r = true :=
  chk_k (add_iv hx.1 hy.1 (by have := hx.2; have := hy.2; omega) (by have := hx.2; have := hy.2; omega)) h
theorem sub_k (hx : Ib x i) (hy : Ib y j) (h : chk (subI i j) k = true) : ∃ r, Ib (sub x y) r ∧ k r = true :=
  chk_k (sub_iv hx.1 hy.1 (by have := hx.2; have := hy.2; have := hx.nn; have := hy.nn; omega) (by have := hx.2; have := hy.2; have := hx.nn; have := hy.nn; omega)) h
theorem mul_k {c : Int} (hx : Ib x i) (hy : Iv y c c) (h0 : 0 ≤ c) (h1 : c ≤ 2 ^ 65) (h : chk (mulI i c) k = true) : ∃ r, Ib (mul x y) r ∧ k r = true := by
  refine chk_k (mul_iv hx.1 hy h0 ?_ ?_) h
  · have a1 := Int.mul_le_mul_of_nonneg_right hx.2.1 h0
    have a2 := Int.mul_le_mul_of_nonneg_left h1 (show (0 : Int) ≤ 2 ^ 65 by decide)
    omega
  · have a1 := Int.mul_le_mul_of_nonneg_right hx.2.2 h0
    have a2 := Int.mul_le_mul_of_nonneg_left h1 (show (0 : Int) ≤ 2 ^ 65 by decide)
    omega
theorem bne_com (a b : Bool) : (a != b) = (b != a) := by cases a <;> cases b <;> rfl
theorem mul_com (x y : UInt64) : mul x y = mul y x := by
  unfold mul
  cases decode x with
  | nan => cases decode y <;> rfl
  | inf a => cases decode y with
    | nan => rfl
    | inf b => simp only [bne_com a b]
    | fin b k f => simp only [bne_com a b]
  | fin a m e => cases decode y with
    | nan => rfl
    | inf b => simp only [bne_com a b]
    | fin b k f => simp only [bne_com a b, Nat.mul_comm m k, Int.add_comm e f]
theorem mul_k' {c : Int} (hx : Iv x c c) (hy : Ib y i) (h0 : 0 ≤ c) (h1 : c ≤ 2 ^ 65) (h : chk (mulI i c) k = true) : ∃ r, Ib (mul x y) r ∧ k r = true := by
  rw [mul_com]; exact mul_k hy hx h0 h1 h
def divK (x y : I2) (k : I2 → Bool) : Bool := decide (2 ^ 57 ≤ y.1) && chk (divI x y) k
theorem div_k (hx : Ib x i) (hy : Ib y j) (h : divK i j k = true) : ∃ r, Ib (div x y) r ∧ k r = true := by
  unfold divK at h
  simp only [Bool.and_eq_true, decide_eq_true_eq] at h
  have := hx.2
  exact chk_k (div_iv hx.1 hy.1 (by omega) (by have := hx.nn; omega) (by omega)) h.2
end

def ltK (x y : I2) (kt kf : Bool) : Bool := if x.2 < y.1 then kt else if y.2 ≤ x.1 then kf else kt && kf
theorem lt_k {x y : UInt64} {i j : I2} {kt kf : Bool} (hx : Ib x i) (hy : Ib y j) (h : ltK i j kt kf = true) :
    ((cmp x y == some .lt) = true ∧ kt = true) ∨ ((cmp x y == some .lt) = false ∧ kf = true) := by
  unfold ltK at h
  split at h
  · rename_i h1; exact .inl ⟨lt_iv hx.1 hy.1 h1, h⟩
  · split at h
    · rename_i h1; exact .inr ⟨nlt_iv hx.1 hy.1 h1, h⟩
    · simp only [Bool.and_eq_true] at h
      cases hc : (cmp x y == some .lt)
      · exact .inr ⟨rfl, h.2⟩
      · exact .inl ⟨rfl, h.1⟩
def eqK (x y : I2) (kt kf : Bool) : Bool := if x.2 < y.1 || y.2 < x.1 then kf else kt && kf
theorem eq_k {x y : UInt64} {i j : I2} {kt kf : Bool} (hx : Ib x i) (hy : Ib y j) (h : eqK i j kt kf = true) :
    ((cmp x y == some .eq) = true ∧ kt = true) ∨ ((cmp x y == some .eq) = false ∧ kf = true) := by
  unfold eqK at h
  split at h
  · rename_i h1
    simp only [Bool.or_eq_true, decide_eq_true_eq] at h1
    exact .inr ⟨neq_iv hx.1 hy.1 h1, h⟩
  · simp only [Bool.and_eq_true] at h
    cases hc : (cmp x y == some .eq)
    · exact .inr ⟨rfl, h.2⟩
    · exact .inl ⟨rfl, h.1⟩
theorem cmp_self {x : UInt64} {i : I2} (hx : Ib x i) : (cmp x x == some .eq) = true := by
  rw [cmp_iv hx.1 hx.1]; simp

theorem Ib.c {x : UInt64} {c : Int} (h : Iv x c c) (h1 : -2 ^ 65 ≤ c := by decide) (h2 : c ≤ 2 ^ 65 := by decide) : Ib x (c, c) := ⟨h, h1, h2⟩

def vK (m1 m2 : Int) (u : I2) (k : I2 → Bool) : Bool :=
  ltK u (k16, k16) (chk (mulI u (m2 - m1)) fun p => chk (mulI p (6 * 2 ^ 60)) fun q => chk (addI (m1, m1) q) k)
    (ltK u (2 ^ 59, 2 ^ 59) (k (m2, m2))
      (ltK u (k23, k23) (chk (subI (k23, k23) u) fun o => chk (mulI o (m2 - m1)) fun p => chk (mulI p (6 * 2 ^ 60)) fun q => chk (addI (m1, m1) q) k)
        (k (m1, m1))))

structure MM (f1 f2 : UInt64) (m1 m2 : Int) : Prop where
  a : Iv f1 m1 m1
  b : Iv f2 m2 m2
  d : Iv (sub f2 f1) (m2 - m1) (m2 - m1)
  h0 : 0 ≤ m1
  h1 : m1 < m2
  h2 : m2 ≤ 2 ^ 60

theorem v_k {f1 f2 hue : UInt64} {m1 m2 : Int} (M : MM f1 f2 m1 m2) {i : I2} {k : I2 → Bool} (hu : Ib (divmod hue cOne).2 i) (h : vK m1 m2 i k = true) :
    ∃ r, Ib (vF f1 f2 hue) r ∧ k r = true := by
  have h0 := M.h0
  have h1 := M.h1
  have h2 := M.h2
  unfold vK at h
  unfold vF
  rcases lt_k hu (Ib.c i16) h with ⟨c, h⟩ | ⟨c, h⟩
  · rw [if_pos c]
    obtain ⟨p, hp, h⟩ := mul_k' M.d hu (by omega) (by omega) h
    obtain ⟨q, hq, h⟩ := mul_k hp i6 (by decide) (by decide) h
    exact add_k (Ib.c M.a (by omega) (by omega)) hq h
  rw [if_neg (by rw [c]; decide)]
  rcases lt_k hu (Ib.c i05) h with ⟨c, h⟩ | ⟨c, h⟩
  · rw [if_pos c]
    exact ⟨_, Ib.c M.b (by omega) (by omega), h⟩
  rw [if_neg (by rw [c]; decide)]
  rcases lt_k hu (Ib.c i23) h with ⟨c, h⟩ | ⟨c, h⟩
  · rw [if_pos c]
    obtain ⟨o, ho, h⟩ := sub_k (Ib.c i23) hu h
    obtain ⟨p, hp, h⟩ := mul_k' M.d ho (by omega) (by omega) h
    obtain ⟨q, hq, h⟩ := mul_k hp i6 (by decide) (by decide) h
    exact add_k (Ib.c M.a (by omega) (by omega)) hq h
  · rw [if_neg (by rw [c]; decide)]
    exact ⟨_, Ib.c M.a (by omega) (by omega), h⟩

def modK (x : I2) (k : I2 → Bool) : Bool := mod1K x.1 x.2 fun i => chk i k
theorem mod_k {x : UInt64} {B : Int} {i : I2} {k : I2 → Bool} (hx : Ivm x B i.1 i.2) (h : modK i k = true) : ∃ r, Ib (divmod x cOne).2 r ∧ k r = true := by
  obtain ⟨r, hr, h⟩ := mod1_sound hx h
  exact chk_k hr h

/-- which of r g b is the greatest (least): its interval, its number, and how it stands -/
def max3K (r g b : I2) (k : I2 → Nat → Bool) : Bool :=
  ltK r g (ltK g b (k b 2) (k g 1)) (ltK r b (k b 2) (k r 0))
def min3K (r g b : I2) (k : I2 → Bool) : Bool :=
  ltK g r (ltK b g (k b) (k g)) (ltK b r (k b) (k r))

theorem max3_k {r g b : UInt64} {ir ig ib : I2} {k : I2 → Nat → Bool} (hr : Ib r ir) (hg : Ib g ig) (hb : Ib b ib) (h : max3K ir ig ib k = true) :
    ∃ i n, Ib (max3 r g b) i ∧ k i n = true ∧ (n = 0 → max3 r g b = r) ∧ (n = 1 → max3 r g b = g) ∧ (n = 2 → max3 r g b = b) := by
  unfold max3K at h
  unfold max3
  rcases lt_k hr hg h with ⟨c, h⟩ | ⟨c, h⟩
  · simp only [c, if_true, Bool.false_eq_true, if_false]
    rcases lt_k hg hb h with ⟨c, h⟩ | ⟨c, h⟩
    · simp only [c, if_true, Bool.false_eq_true, if_false]; exact ⟨ib, 2, hb, h, by simp, by simp, by simp⟩
    · simp only [c, if_true, Bool.false_eq_true, if_false]; exact ⟨ig, 1, hg, h, by simp, by simp, by simp⟩
  · simp only [c, if_true, Bool.false_eq_true, if_false]
    rcases lt_k hr hb h with ⟨c, h⟩ | ⟨c, h⟩
    · simp only [c, if_true, Bool.false_eq_true, if_false]; exact ⟨ib, 2, hb, h, by simp, by simp, by simp⟩
    · simp only [c, if_true, Bool.false_eq_true, if_false]; exact ⟨ir, 0, hr, h, by simp, by simp, by simp⟩
theorem min3_k {r g b : UInt64} {ir ig ib : I2} {k : I2 → Bool} (hr : Ib r ir) (hg : Ib g ig) (hb : Ib b ib) (h : min3K ir ig ib k = true) :
    ∃ i, Ib (min3 r g b) i ∧ k i = true := by
  unfold min3K at h
  unfold min3
  rcases lt_k hg hr h with ⟨c, h⟩ | ⟨c, h⟩
  · simp only [c, if_true, Bool.false_eq_true, if_false]
    rcases lt_k hb hg h with ⟨c, h⟩ | ⟨c, h⟩
    · simp only [c, if_true, Bool.false_eq_true, if_false]; exact ⟨ib, hb, h⟩
    · simp only [c, if_true, Bool.false_eq_true, if_false]; exact ⟨ig, hg, h⟩
  · simp only [c, if_true, Bool.false_eq_true, if_false]
    rcases lt_k hb hr h with ⟨c, h⟩ | ⟨c, h⟩
    · simp only [c, if_true, Bool.false_eq_true, if_false]; exact ⟨ib, hb, h⟩
    · simp only [c, if_true, Bool.false_eq_true, if_false]; exact ⟨ir, hr, h⟩

/-- the least whole number not above: hue * steps + 0.5 -/
def endK (s j : Int) (x : I2) : Bool :=
  chk (divI x (6 * 2 ^ 60, 6 * 2 ^ 60)) fun d => modK d fun u => chk (mulI u (s * 2 ^ 60)) fun p => chk (addI p (2 ^ 59, 2 ^ 59)) fun t =>
    decide (0 ≤ t.1) && decide (t.1 / 2 ^ 60 = t.2 / 2 ^ 60) && decide (t.1 / 2 ^ 60 % s = j)

/-- behind the three paints: s, j, r, g, b -/
def tailK (s j : Int) (r g b : I2) : Bool :=
  max3K r g b fun mx n => min3K r g b fun mn =>
    decide (mn.2 < mx.1) && chk (addI mx mn) fun sm => decide (0 < sm.1) &&
    chk (subI (2 ^ 61, 2 ^ 61) mx) fun t1 => chk (subI t1 mn) fun t2 => decide (0 < t2.1) &&
    chk (subI mx mn) fun rg =>
      chk (subI mx r) fun dr => divK dr rg fun rc => chk (subI mx g) fun dg => divK dg rg fun gc => chk (subI mx b) fun db => divK db rg fun bc =>
        (let kr := chk (subI bc gc) (endK s j)
         let kg := chk (addI (2 ^ 61, 2 ^ 61) rc) fun e => chk (subI e bc) (endK s j)
         let kb := chk (addI (2 ^ 62, 2 ^ 62) gc) fun e => chk (subI e rc) (endK s j)
         let kgb := if n = 1 then kg else eqK g mx kg kb
         if n = 0 then kr else eqK r mx kr kgb)

def hueK (s j m1 m2 : Int) : Bool :=
  chk (j * 2 ^ 60 / s - 2 ^ 18, j * 2 ^ 60 / s + 1 + 2 ^ 18) fun h =>
  modK (addI h (k13, k13)) fun u => vK m1 m2 u fun r =>
  modK h fun u => vK m1 m2 u fun g =>
  modK (subI h (k13, k13)) fun u => vK m1 m2 u fun b => tailK s j r g b

def allK (m1 m2 : Int) (s : Nat) : Bool := (List.range s).all fun j => hueK s j m1 m2
theorem tst : allK 0 (2 ^ 60) 6 = true := by decide +kernel
end Mine

end
section
set_option maxRecDepth 100000
namespace Mine
open PySem PySem.Float64

theorem trunc_iv {x : UInt64} {a b : Int} (h : Iv x a b) (h0 : 0 ≤ a) (he : a / 2 ^ 60 = b / 2 ^ 60) : truncI x = a / 2 ^ 60 := by
  obtain ⟨sg, m, e, dx⟩ := h.fin
  have hK := K_pos
  have hge := decode_ge dx
  have hv := val_eq dx
  have l := h.lo
  have u := h.hi
  have ha : 0 ≤ a * K := Int.mul_nonneg h0 (Int.le_of_lt hK)
  have hP : (0 : Int) < ((2 ^ (e + 1074).toNat : Nat) : Int) := Int.ofNat_lt.mpr (Nat.two_pow_pos _)
  unfold truncI
  rw [dx]
  show truncOf sg m e = _
  rw [sgn_mul] at hv
  cases sg with
  | true =>
    rw [sgn_ng, Int.neg_mul] at hv
    have hm : m = 0 := by
      rcases Nat.eq_zero_or_pos m with h1 | h1
      · exact h1
      · have := Int.mul_pos (show (0 : Int) < (m : Int) by omega) hP
        omega
    subst hm
    have ha0 : a = 0 := by
      rcases Int.lt_or_eq_of_le h0 with h1 | h1
      · have := Int.mul_pos h1 hK
        simp only [Int.natCast_zero, Int.zero_mul] at hv
        omega
      · exact h1.symm
    rw [ha0]
    unfold truncOf ceilOf floorOf
    simp [sgn]
  | false =>
    rw [sgn_nn] at hv
    -- n*2^1074 ≤ val < (n+1)*2^1074
    have key : truncOf false m e * M74 ≤ val x ∧ val x < (truncOf false m e + 1) * M74 := by
      unfold truncOf floorOf
      simp only [Bool.false_eq_true, if_false, sgn_nn]
      have hMp : (0 : Int) < M74 := by rw [M74_eq]; exact Int.mul_pos (by decide) hK
      split
      · rename_i he0
        have e1 : (e + 1074).toNat = e.toNat + 1074 := by omega
        have : val x = (m : Int) * 2 ^ e.toNat * M74 := by
          rw [hv, e1, Nat.pow_add, Int.natCast_mul, N74_eq, ← Int.mul_assoc]
          congr 1
        rw [this, Int.add_mul]
        omega
      · rename_i he0
        have e1 : 1074 = (e + 1074).toNat + (-e).toNat := by omega
        have e2 : M74 = ((2 ^ (e + 1074).toNat : Nat) : Int) * ((2 ^ (-e).toNat : Nat) : Int) := by
          rw [← N74_eq, ← Int.natCast_mul, ← Nat.pow_add, ← e1]
        have hD : (0 : Int) < ((2 ^ (-e).toNat : Nat) : Int) := Int.ofNat_lt.mpr (Nat.two_pow_pos _)
        have e3 : ((2 : Int) ^ (-e).toNat) = ((2 ^ (-e).toNat : Nat) : Int) := by simp only [Int.natCast_pow]; rfl
        rw [e3, Int.fdiv_eq_ediv_of_nonneg _ (Int.le_of_lt hD)]
        generalize ((2 ^ (e + 1074).toNat : Nat) : Int) = P at *
        generalize ((2 ^ (-e).toNat : Nat) : Int) = D at *
        have g1 := Int.mul_ediv_self_le (x := (m : Int)) (k := D) (by omega)
        have g2 := Int.lt_mul_ediv_self_add (x := (m : Int)) (k := D) hD
        generalize (m : Int) / D = n at *
        constructor
        · calc n * M74 = D * n * P := by rw [e2]; ac_rfl
            _ ≤ m * P := Int.mul_le_mul_of_nonneg_right g1 (Int.le_of_lt hP)
            _ = val x := hv.symm
        · calc val x = m * P := hv
            _ < (D * n + D) * P := Int.mul_lt_mul_of_pos_right g2 hP
            _ = (n + 1) * M74 := by rw [e2, Int.add_mul, Int.add_mul, Int.one_mul]; congr 1 <;> ac_rfl
    generalize truncOf false m e = n at *
    rw [M74_eq] at key
    have k1 : a * K < (n + 1) * 2 ^ 60 * K := by rw [Int.mul_assoc]; omega
    have k2 : n * 2 ^ 60 * K ≤ b * K := by rw [Int.mul_assoc]; omega
    have k3 := Int.lt_of_mul_lt_mul_right k1 (Int.le_of_lt hK)
    have k4 := Int.le_of_mul_le_mul_right k2 hK
    omega

structure Good (s j : Int) (r g b : UInt64) : Prop where
  ne : (cmp (min3 r g b) (max3 r g b) == some .eq) = false
  sum : isZero (add (max3 r g b) (min3 r g b)) = false
  two : isZero (sub (sub c2 (max3 r g b)) (min3 r g b)) = false
  rng : isZero (sub (max3 r g b) (min3 r g b)) = false
  fin : isFinite (add (mul (back r g b) (ofInt s)) c05) = true
  val : truncI (add (mul (back r g b) (ofInt s)) c05) % s = j

theorem fin_iv {x : UInt64} {a b : Int} (h : Iv x a b) : isFinite x = true := by
  obtain ⟨sg, m, e, dx⟩ := h.fin
  unfold isFinite; rw [dx]

theorem Ivm.ofIb {x : UInt64} {i : I2} (h : Ib x i) : Ivm x (2 ^ 65) i.1 i.2 := Ivm.of h.1 h.2.1 h.2.2

theorem end_k {s j : Int} {x : UInt64} {i : I2} (hs : Iv (ofInt s) (s * 2 ^ 60) (s * 2 ^ 60)) (h0 : 0 ≤ s) (h1 : s ≤ 16) (hx : Ib x i) (h : endK s j i = true) :
    isFinite (add (mul (divmod (div x c6) cOne).2 (ofInt s)) c05) = true ∧ truncI (add (mul (divmod (div x c6) cOne).2 (ofInt s)) c05) % s = j := by
  unfold endK at h
  obtain ⟨d, hd, h⟩ := div_k hx (Ib.c i6) (by unfold divK; rw [decide_eq_true (by decide), Bool.true_and]; exact h)
  obtain ⟨u, hu, h⟩ := mod_k (Ivm.ofIb hd) h
  obtain ⟨p, hp, h⟩ := mul_k hu hs (by omega) (by omega) h
  obtain ⟨t, ht, h⟩ := add_k hp (Ib.c i05) h
  simp only [Bool.and_eq_true, decide_eq_true_eq] at h
  exact ⟨fin_iv ht.1, by rw [trunc_iv ht.1 h.1.1 h.1.2]; exact h.2⟩

theorem tail_k {s j : Int} {r g b : UInt64} {ir ig ib : I2} (hs : Iv (ofInt s) (s * 2 ^ 60) (s * 2 ^ 60)) (h0 : 0 ≤ s) (h1 : s ≤ 16) (hr : Ib r ir) (hg : Ib g ig) (hb : Ib b ib)
    (h : tailK s j ir ig ib = true) : Good s j r g b := by
  unfold tailK at h
  obtain ⟨mx, n, hmx, h, n0, n1, n2⟩ := max3_k hr hg hb h
  obtain ⟨mn, hmn, h⟩ := min3_k hr hg hb h
  rw [Bool.and_eq_true, decide_eq_true_eq] at h
  obtain ⟨hlt, h⟩ := h
  obtain ⟨sm, hsm, h⟩ := add_k hmx hmn h
  rw [Bool.and_eq_true, decide_eq_true_eq] at h
  obtain ⟨hsm0, h⟩ := h
  obtain ⟨t1, ht1, h⟩ := sub_k (Ib.c i2) hmx h
  obtain ⟨t2, ht2, h⟩ := sub_k ht1 hmn h
  rw [Bool.and_eq_true, decide_eq_true_eq] at h
  obtain ⟨ht20, h⟩ := h
  obtain ⟨rg, hrg, h⟩ := sub_k hmx hmn h
  obtain ⟨dr, hdr, h⟩ := sub_k hmx hr h
  have hrg0 : 0 < rg.1 := by
    have h2 := h
    unfold divK at h2
    simp only [Bool.and_eq_true, decide_eq_true_eq] at h2
    omega
  obtain ⟨rc, hrc, h⟩ := div_k hdr hrg h
  obtain ⟨dg, hdg, h⟩ := sub_k hmx hg h
  obtain ⟨gc, hgc, h⟩ := div_k hdg hrg h
  obtain ⟨db, hdb, h⟩ := sub_k hmx hb h
  obtain ⟨bc, hbc, h⟩ := div_k hdb hrg h
  -- the end
  have key : ∃ i, Ib (hueOf r g b (max3 r g b) (min3 r g b)) i ∧ endK s j i = true := by
    have er : (cmp r (max3 r g b) == some .eq) = true → chk (subI bc gc) (endK s j) = true → ∃ i, Ib (hueOf r g b (max3 r g b) (min3 r g b)) i ∧ endK s j i = true := fun c h => by
      unfold hueOf; simp only [c, if_true]; exact sub_k hbc hgc h
    have eg : (cmp r (max3 r g b) == some .eq) = false → (cmp g (max3 r g b) == some .eq) = true → (chk (addI (2 ^ 61, 2 ^ 61) rc) fun e => chk (subI e bc) (endK s j)) = true → ∃ i, Ib (hueOf r g b (max3 r g b) (min3 r g b)) i ∧ endK s j i = true := fun c c2 h => by
      unfold hueOf; simp only [c, c2, if_true, Bool.false_eq_true, if_false]
      obtain ⟨e, he, h⟩ := add_k (Ib.c i2) hrc h
      exact sub_k he hbc h
    have eb : (cmp r (max3 r g b) == some .eq) = false → (cmp g (max3 r g b) == some .eq) = false → (chk (addI (2 ^ 62, 2 ^ 62) gc) fun e => chk (subI e rc) (endK s j)) = true → ∃ i, Ib (hueOf r g b (max3 r g b) (min3 r g b)) i ∧ endK s j i = true := fun c c2 h => by
      unfold hueOf; simp only [c, c2, Bool.false_eq_true, if_false]
      obtain ⟨e, he, h⟩ := add_k (Ib.c i4) hgc h
      exact sub_k he hrc h
    dsimp only at h
    split at h
    · rename_i hn
      refine er ?_ h
      have := cmp_self hr
      rw [n0 hn]; exact this
    · rcases eq_k hr hmx h with ⟨c, h⟩ | ⟨c, h⟩
      · exact er c h
      · split at h
        · rename_i hn
          refine eg c ?_ h
          have := cmp_self hg
          rw [n1 hn]; exact this
        · rcases eq_k hg hmx h with ⟨c2, h⟩ | ⟨c2, h⟩
          · exact eg c c2 h
          · exact eb c c2 h
  obtain ⟨i, hi, h⟩ := key
  obtain ⟨f1, f2⟩ := end_k hs h0 h1 hi h
  exact ⟨neq_iv hmn.1 hmx.1 (.inl hlt), nz_iv hsm.1 (.inl hsm0), nz_iv ht2.1 (.inl ht20), nz_iv hrg.1 (.inl hrg0), f1, f2⟩

theorem hue_k {s j m1 m2 : Int} {f1 f2 x : UInt64} (M : MM f1 f2 m1 m2) (hs : Iv (ofInt s) (s * 2 ^ 60) (s * 2 ^ 60)) (h0 : 2 ≤ s) (h1 : s ≤ 16)
    (hx : Ivm x (2 ^ 70) (j * 2 ^ 60 / s - 2 ^ 18) (j * 2 ^ 60 / s + 1 + 2 ^ 18)) (h : hueK s j m1 m2 = true) :
    Good s j (vF f1 f2 (add x c13)) (vF f1 f2 x) (vF f1 f2 (sub x c13)) := by
  unfold hueK at h
  unfold chk at h
  simp only [forceI_eq, Bool.and_eq_true, decide_eq_true_eq] at h
  obtain ⟨_, h⟩ := h
  obtain ⟨u, hu, h⟩ := mod_k (addm_iv hx i13 (by decide) (by decide) (by decide)) h
  obtain ⟨r, hr, h⟩ := v_k M hu h
  obtain ⟨u, hu, h⟩ := mod_k hx h
  obtain ⟨g, hg, h⟩ := v_k M hu h
  obtain ⟨u, hu, h⟩ := mod_k (subm_iv hx i13 (by decide) (by decide) (by decide)) h
  obtain ⟨b, hb, h⟩ := v_k M hu h
  exact tail_k hs (by omega) h1 hr hg hb h

/-- the quotient of two ints -/
def quo (t s : Int) : UInt64 := ofFrac (decide (t < 0) != decide (s < 0)) t.natAbs s.natAbs

theorem quo_m {t s : Int} (h0 : 2 ≤ s) (h1 : s ≤ 16) (t1 : -2000 ≤ t) (t2 : t ≤ 2000) : Ivm (quo t s) (2 ^ 70) (t % s * 2 ^ 60 / s - 2 ^ 18) (t % s * 2 ^ 60 / s + 1 + 2 ^ 18) := by
  have hK := K_pos
  have hr : Right (quo t s) (decide (t < 0)) (t.natAbs * 2 ^ 1074) s.natAbs := by
    have := ofFrac_right (neg := (decide (t < 0) != decide (s < 0))) (n := t.natAbs) (d := s.natAbs) (W := t.natAbs * 2 ^ 1074) (D := s.natAbs) (by omega) rfl (by omega)
    have e : (decide (t < 0) != decide (s < 0)) = decide (t < 0) := by
      rw [decide_eq_false (show ¬ s < 0 by omega)]; cases decide (t < 0) <;> rfl
    rw [e] at this
    unfold quo; rw [e]; exact this
  have es : ((s.natAbs : Nat) : Int) = s := by omega
  have hW : t.natAbs * 2 ^ 1074 ≤ s.natAbs * 2 ^ 53 * R32 := by
    refine Int.ofNat_le.mp ?_
    simp only [Int.natCast_mul, R32_eq, es]
    rw [N74_eq, M74_eq]
    have a1 : ((t.natAbs : Nat) : Int) * (2 ^ 60 * K) ≤ 2000 * (2 ^ 60 * K) := Int.mul_le_mul_of_nonneg_right (by omega) (by omega)
    have a2 : s * ((2 ^ 53 : Nat) : Int) * (2 ^ 18 * K) = s * (2 ^ 71 * K) := by
      rw [Int.mul_assoc, ← Int.mul_assoc (((2 ^ 53 : Nat) : Int))]; congr 2
    have a3 : 2 * (2 ^ 71 * K) ≤ s * (2 ^ 71 * K) := Int.mul_le_mul_of_nonneg_right h0 (by omega)
    rw [a2]; omega
  obtain ⟨m, e, hd, n1, n2⟩ := near hr (by omega) hW
  rw [es, R32_eq] at n1 n2
  have ew : sgn (decide (t < 0)) (t.natAbs * 2 ^ 1074) = t * (2 ^ 60 * K) := by
    rw [sgn_mul, sgn_decide, N74_eq, M74_eq]
  rw [ew] at n1 n2
  have hdm := Int.mul_ediv_add_emod t s
  have hm0 := Int.emod_nonneg t (show s ≠ 0 by omega)
  have hm1 := Int.emod_lt_of_pos t (show 0 < s by omega)
  generalize t % s = j at *
  generalize t / s = q at *
  have g1 := Int.mul_ediv_self_le (x := j * 2 ^ 60) (k := s) (by omega)
  have g2 := Int.lt_mul_ediv_self_add (x := j * 2 ^ 60) (k := s) (by omega)
  generalize j * 2 ^ 60 / s = z at *
  have hsp : 0 < s := by omega
  have et : t * (2 ^ 60 * K) = s * (q * M74) + j * 2 ^ 60 * K := by
    rw [← hdm, Int.add_mul, M74_eq]; congr 1 <;> ac_rfl
  have g1K := kmono g1
  have g2K := kmono (Int.le_of_lt g2)
  rw [Int.add_mul] at g2K
  have c1 : s * (z * K) = s * z * K := by ac_rfl
  refine ⟨⟨_, _, _, hd⟩, ?_, ?_, q, ?_, ?_⟩
  · refine Int.le_of_mul_le_mul_left (a := s) ?_ hsp
    have a1 : (-2000) * (2 ^ 60 * K) ≤ t * (2 ^ 60 * K) := Int.mul_le_mul_of_nonneg_right t1 (by omega)
    have a3 : 2 * (2 ^ 70 * K) ≤ s * (2 ^ 70 * K) := Int.mul_le_mul_of_nonneg_right h0 (by omega)
    have a4 : s * (2 ^ 18 * K) ≤ 16 * (2 ^ 18 * K) := Int.mul_le_mul_of_nonneg_right h1 (by omega)
    rw [Int.mul_neg]; omega
  · refine Int.le_of_mul_le_mul_left (a := s) ?_ hsp
    have a1 : t * (2 ^ 60 * K) ≤ 2000 * (2 ^ 60 * K) := Int.mul_le_mul_of_nonneg_right t2 (by omega)
    have a3 : 2 * (2 ^ 70 * K) ≤ s * (2 ^ 70 * K) := Int.mul_le_mul_of_nonneg_right h0 (by omega)
    have a4 : s * (2 ^ 18 * K) ≤ 16 * (2 ^ 18 * K) := Int.mul_le_mul_of_nonneg_right h1 (by omega)
    omega
  · refine Int.le_of_mul_le_mul_left (a := s) ?_ hsp
    rw [Int.mul_add, Int.sub_mul, Int.mul_sub, c1]
    omega
  · refine Int.le_of_mul_le_mul_left (a := s) ?_ hsp
    rw [Int.mul_add, Int.add_mul, Int.add_mul, Int.mul_add, Int.mul_add, c1, Int.one_mul]
    omega

/-- the two menus -/
def lightC (i : Int) : UInt64 := quo (1 + i) 4
def shareC (i : Int) : UInt64 := quo (1 + i) 2

def m2F (l s : UInt64) : UInt64 := if (cmp l c05 == some .lt || cmp l c05 == some .eq) = true then mul l (add cOne s) else sub (add l s) (mul l s)
def m1F (l s : UInt64) : UInt64 := sub (mul c2 l) (m2F l s)

theorem mm_of {f1 f2 d : UInt64} {m1 m2 : Int} {a b c : Nat} {e1 e2 e3 : Int} (ha : decode f1 = .fin false a e1) (hb : decode f2 = .fin false b e2) (hc : decode d = .fin false c e3) (hd : sub f2 f1 = d)
    (q1 : -60 ≤ e1 ∧ e1 ≤ 0) (q2 : -60 ≤ e2 ∧ e2 ≤ 0) (q3 : -60 ≤ e3 ∧ e3 ≤ 0) (r1 : (a * 2 ^ (e1 + 60).toNat : Nat) = m1) (r2 : (b * 2 ^ (e2 + 60).toNat : Nat) = m2) (r3 : (c * 2 ^ (e3 + 60).toNat : Nat) = m2 - m1)
    (h1 : m1 < m2) (h2 : m2 ≤ 2 ^ 60) : MM f1 f2 m1 m2 :=
  ⟨const_iv ha q1.1 q1.2 r1, const_iv hb q2.1 q2.2 r2, hd ▸ const_iv hc q3.1 q3.2 r3, by rw [← r1]; exact Int.natCast_nonneg _, h1, h2⟩

end Mine

end
section
set_option maxRecDepth 100000
namespace Mine
open PySem PySem.Float64

theorem mm00 : MM (m1F (lightC 0) (shareC 0)) (m2F (lightC 0) (shareC 0)) (2 ^ 57) (3 * 2 ^ 57) := by
  have e1 : m1F (lightC 0) (shareC 0) = 0x3fc0000000000000 := by decide +kernel
  have e2 : m2F (lightC 0) (shareC 0) = 0x3fd8000000000000 := by decide +kernel
  rw [e1, e2]
  exact mm_of (d := 0x3fd0000000000000) (a := 2 ^ 52) (e1 := -55) (b := 3 * 2 ^ 51) (e2 := -54) (c := 2 ^ 52) (e3 := -54) (by with_unfolding_all rfl) (by with_unfolding_all rfl) (by with_unfolding_all rfl) (by decide +kernel) (by decide) (by decide) (by decide) (by decide) (by decide) (by decide) (by decide) (by decide)
theorem mm01 : MM (m1F (lightC 0) (shareC 1)) (m2F (lightC 0) (shareC 1)) 0 (2 ^ 59) := by
  have e1 : m1F (lightC 0) (shareC 1) = 0 := by decide +kernel
  have e2 : m2F (lightC 0) (shareC 1) = 0x3fe0000000000000 := by decide +kernel
  rw [e1, e2]
  have z : Iv 0 0 0 := by
    have h := zero_val false
    have e : zero false = 0 := by decide +kernel
    rw [e] at h
    exact ⟨⟨_, _, _, h.1⟩, by rw [h.2]; omega, by rw [h.2]; omega⟩
  have e3 : sub 0x3fe0000000000000 0 = 0x3fe0000000000000 := by decide +kernel
  exact ⟨z, i05, by rw [e3]; exact i05, by decide, by decide, by decide⟩
theorem mm10 : MM (m1F (lightC 1) (shareC 0)) (m2F (lightC 1) (shareC 0)) (2 ^ 58) (3 * 2 ^ 58) := by
  have e1 : m1F (lightC 1) (shareC 0) = 0x3fd0000000000000 := by decide +kernel
  have e2 : m2F (lightC 1) (shareC 0) = 0x3fe8000000000000 := by decide +kernel
  rw [e1, e2]
  exact mm_of (d := 0x3fe0000000000000) (a := 2 ^ 52) (e1 := -54) (b := 3 * 2 ^ 51) (e2 := -53) (c := 2 ^ 52) (e3 := -53) (by with_unfolding_all rfl) (by with_unfolding_all rfl) (by with_unfolding_all rfl) (by decide +kernel) (by decide) (by decide) (by decide) (by decide) (by decide) (by decide) (by decide) (by decide)
theorem mm11 : MM (m1F (lightC 1) (shareC 1)) (m2F (lightC 1) (shareC 1)) 0 (2 ^ 60) := by
  have e1 : m1F (lightC 1) (shareC 1) = 0 := by decide +kernel
  have e2 : m2F (lightC 1) (shareC 1) = 0x3ff0000000000000 := by decide +kernel
  rw [e1, e2]
  have z : Iv 0 0 0 := by
    have h := zero_val false
    have e : zero false = 0 := by decide +kernel
    rw [e] at h
    exact ⟨⟨_, _, _, h.1⟩, by rw [h.2]; omega, by rw [h.2]; omega⟩
  have e3 : sub 0x3ff0000000000000 0 = 0x3ff0000000000000 := by decide +kernel
  exact ⟨z, i1, by rw [e3]; exact i1, by decide, by decide, by decide⟩
theorem mm20 : MM (m1F (lightC 2) (shareC 0)) (m2F (lightC 2) (shareC 0)) (5 * 2 ^ 57) (7 * 2 ^ 57) := by
  have e1 : m1F (lightC 2) (shareC 0) = 0x3fe4000000000000 := by decide +kernel
  have e2 : m2F (lightC 2) (shareC 0) = 0x3fec000000000000 := by decide +kernel
  rw [e1, e2]
  exact mm_of (d := 0x3fd0000000000000) (a := 5 * 2 ^ 50) (e1 := -53) (b := 7 * 2 ^ 50) (e2 := -53) (c := 2 ^ 52) (e3 := -54) (by with_unfolding_all rfl) (by with_unfolding_all rfl) (by with_unfolding_all rfl) (by decide +kernel) (by decide) (by decide) (by decide) (by decide) (by decide) (by decide) (by decide) (by decide)
theorem mm21 : MM (m1F (lightC 2) (shareC 1)) (m2F (lightC 2) (shareC 1)) (2 ^ 59) (2 ^ 60) := by
  have e1 : m1F (lightC 2) (shareC 1) = 0x3fe0000000000000 := by decide +kernel
  have e2 : m2F (lightC 2) (shareC 1) = 0x3ff0000000000000 := by decide +kernel
  rw [e1, e2]
  have e3 : sub 0x3ff0000000000000 0x3fe0000000000000 = 0x3fe0000000000000 := by decide +kernel
  exact ⟨i05, i1, by rw [e3]; exact i05, by decide, by decide, by decide⟩

def allS (m1 m2 : Int) : Bool := (List.range 14).all fun s => s < 2 || (List.range s).all fun j => hueK s j m1 m2
theorem all00 : allS (2 ^ 57) (3 * 2 ^ 57) = true := by decide +kernel
theorem all01 : allS 0 (2 ^ 59) = true := by decide +kernel
theorem all10 : allS (2 ^ 58) (3 * 2 ^ 58) = true := by decide +kernel
theorem all11 : allS 0 (2 ^ 60) = true := by decide +kernel
theorem all20 : allS (5 * 2 ^ 57) (7 * 2 ^ 57) = true := by decide +kernel
theorem all21 : allS (2 ^ 59) (2 ^ 60) = true := by decide +kernel

theorem of_all {m1 m2 : Int} (h : allS m1 m2 = true) {s j : Int} (h0 : 2 ≤ s) (h1 : s ≤ 13) (j0 : 0 ≤ j) (j1 : j < s) : hueK s j m1 m2 = true := by
  unfold allS at h
  rw [List.all_eq_true] at h
  have h2 := h s.toNat (List.mem_range.mpr (by omega))
  rw [Bool.or_eq_true, decide_eq_true_eq] at h2
  have h3 := h2.resolve_left (by omega)
  rw [List.all_eq_true] at h3
  have h4 := h3 j.toNat (List.mem_range.mpr (by omega))
  have e1 : ((s.toNat : Nat) : Int) = s := by omega
  have e2 : ((j.toNat : Nat) : Int) = j := by omega
  rw [e1, e2] at h4
  exact h4

theorem ofInt_iv {s : Int} (h0 : 2 ≤ s) (h1 : s ≤ 13) : Iv (ofInt s) (s * 2 ^ 60) (s * 2 ^ 60) := by
  have : s = 2 ∨ s = 3 ∨ s = 4 ∨ s = 5 ∨ s = 6 ∨ s = 7 ∨ s = 8 ∨ s = 9 ∨ s = 10 ∨ s = 11 ∨ s = 12 ∨ s = 13 := by omega
  rcases this with rfl | rfl | rfl | rfl | rfl | rfl | rfl | rfl | rfl | rfl | rfl | rfl
  · exact const_iv (m := 2 * 2 ^ 51) (e := -51) (by with_unfolding_all rfl) (by decide) (by decide) (by decide)
  · exact const_iv (m := 3 * 2 ^ 51) (e := -51) (by with_unfolding_all rfl) (by decide) (by decide) (by decide)
  · exact const_iv (m := 4 * 2 ^ 50) (e := -50) (by with_unfolding_all rfl) (by decide) (by decide) (by decide)
  · exact const_iv (m := 5 * 2 ^ 50) (e := -50) (by with_unfolding_all rfl) (by decide) (by decide) (by decide)
  · exact const_iv (m := 6 * 2 ^ 50) (e := -50) (by with_unfolding_all rfl) (by decide) (by decide) (by decide)
  · exact const_iv (m := 7 * 2 ^ 50) (e := -50) (by with_unfolding_all rfl) (by decide) (by decide) (by decide)
  · exact const_iv (m := 8 * 2 ^ 49) (e := -49) (by with_unfolding_all rfl) (by decide) (by decide) (by decide)
  · exact const_iv (m := 9 * 2 ^ 49) (e := -49) (by with_unfolding_all rfl) (by decide) (by decide) (by decide)
  · exact const_iv (m := 10 * 2 ^ 49) (e := -49) (by with_unfolding_all rfl) (by decide) (by decide) (by decide)
  · exact const_iv (m := 11 * 2 ^ 49) (e := -49) (by with_unfolding_all rfl) (by decide) (by decide) (by decide)
  · exact const_iv (m := 12 * 2 ^ 49) (e := -49) (by with_unfolding_all rfl) (by decide) (by decide) (by decide)
  · exact const_iv (m := 13 * 2 ^ 49) (e := -49) (by with_unfolding_all rfl) (by decide) (by decide) (by decide)

def rF (t s l c : Int) : UInt64 := vF (m1F (lightC l) (shareC c)) (m2F (lightC l) (shareC c)) (add (quo t s) c13)
def gF (t s l c : Int) : UInt64 := vF (m1F (lightC l) (shareC c)) (m2F (lightC l) (shareC c)) (quo t s)
def bF (t s l c : Int) : UInt64 := vF (m1F (lightC l) (shareC c)) (m2F (lightC l) (shareC c)) (sub (quo t s) c13)

theorem hue_good {t s l c : Int} (h0 : 2 ≤ s) (h1 : s ≤ 13) (t1 : -2000 ≤ t) (t2 : t ≤ 2000) (l0 : 0 ≤ l) (l1 : l < 3) (c0 : 0 ≤ c) (c1 : c < 2) :
    Good s (t % s) (rF t s l c) (gF t s l c) (bF t s l c) := by
  have hx := quo_m h0 (by omega) t1 t2
  have j0 := Int.emod_nonneg t (show s ≠ 0 by omega)
  have j1 := Int.emod_lt_of_pos t (show 0 < s by omega)
  have hs := ofInt_iv h0 h1
  have hl : l = 0 ∨ l = 1 ∨ l = 2 := by omega
  have hc : c = 0 ∨ c = 1 := by omega
  unfold rF gF bF
  rcases hl with rfl | rfl | rfl <;> rcases hc with rfl | rfl
  · exact hue_k mm00 hs h0 (by omega) hx (of_all all00 h0 h1 j0 j1)
  · exact hue_k mm01 hs h0 (by omega) hx (of_all all01 h0 h1 j0 j1)
  · exact hue_k mm10 hs h0 (by omega) hx (of_all all10 h0 h1 j0 j1)
  · exact hue_k mm11 hs h0 (by omega) hx (of_all all11 h0 h1 j0 j1)
  · exact hue_k mm20 hs h0 (by omega) hx (of_all all20 h0 h1 j0 j1)
  · exact hue_k mm21 hs h0 (by omega) hx (of_all all21 h0 h1 j0 j1)
end Mine

end
section
set_option Elab.async false
set_option maxRecDepth 100000
set_option maxHeartbeats 8000000
namespace Mine
open PySem PySem.W PyProof.Rows PySem.Calls

/-- what holds of a def: called from any frame with these values, it comes back with R, and nothing seen has changed -/
abbrev Fun (n : Nat) (w : World) (mg mb : Str → Option Value) (mean : ExcName → Option Value) (f : Addr) (vs : List Value) (R : Tok → Value) : Prop :=
  ∀ (dp un : Nat) (gd : Option (List Code)) (cn : Str) (cs : Scope) (a : Addr) (ccd : Value) (cl : List (Str × Addr)) (outer : List Env) (A₀ : Around) (base h₀ : Heap) (L : Addr) (m : Str → Option Value) (news : List (Addr × Obj)) (s : Shared)
    (Q E : Value → Shared → Prop),
    Below A₀ base outer h₀ → Fr h₀ L s.heap m → (hd.heap_39 w.params).In h₀ → News h₀ L s.heap news →
    Top hd.view_39 (looseW hd.view_39 [Str.ofString "ONE_THIRD", Str.ofString "ONE_SIXTH", Str.ofString "TWO_THIRD"]) mean mg mb h₀ →
    Glob 0 mg mb (List.map itemOf (recsOf hd.view_39)) (scalarsOf [(Str.ofString "ONE_THIRD", WData.float 4599676419421066581), (Str.ofString "ONE_SIXTH", WData.float 4595172819793696085), (Str.ofString "TWO_THIRD", WData.float 4604180019048437077)] ++ constsW hd.view_39) [] (namesW hd.view_39 [Str.ofString "ONE_THIRD", Str.ofString "ONE_SIXTH", Str.ofString "TWO_THIRD"]) base →
    cs.kind = .function → dp + n < recursionLimit → un + 10 * n < cLine →
    (∀ t h' tk', Fr h₀ L h' m → News h₀ L h' news → Q (R t) { s with heap := h', toks := tk' }) →
    wpAny (model PySem.Challenge.rw_tp0005_01.row.prog w) (ktrTop dp un gd cn cs L a ccd cl outer) (call (.ref f) vs) Q E s

section
variable {h₀ h' : Heap} {L : Addr} {m : Str → Option Value} {news : List (Addr × Obj)} {s : Shared} {Q : Value → Shared → Prop} {t : Tok} {tk' : Nat}
theorem retF {x y : UInt64} (hret : ∀ t h' tk', Fr h₀ L h' m → News h₀ L h' news → Q (.float x t) { s with heap := h', toks := tk' }) (e : y = x) (F : Fr h₀ L h' m) (N : News h₀ L h' news) : Q (.float y t) { s with heap := h', toks := tk' } := by
  subst e
  exact hret t h' tk' F N
theorem retI {x y : Int} (hret : ∀ t h' tk', Fr h₀ L h' m → News h₀ L h' news → Q (.int x t) { s with heap := h', toks := tk' }) (e : y = x) (F : Fr h₀ L h' m) (N : News h₀ L h' news) : Q (.int y t) { s with heap := h', toks := tk' } := by
  subst e
  exact hret t h' tk' F N
end

section
variable {m1 m2 hue : UInt64}
theorem v_1 (h : (Float64.cmp (Float64.divmod hue 4607182418800017408).2 4595172819793696085 == some .lt) = true) :
    Float64.add m1 (Float64.mul (Float64.mul (Float64.sub m2 m1) (Float64.divmod hue 4607182418800017408).2) 4618441417868443648) = vF m1 m2 hue := by
  unfold vF; exact (if_pos h).symm
theorem v_2 (h : (Float64.cmp (Float64.divmod hue 4607182418800017408).2 4595172819793696085 == some .lt) = false) (h2 : (Float64.cmp (Float64.divmod hue 4607182418800017408).2 4602678819172646912 == some .lt) = true) :
    m2 = vF m1 m2 hue := by
  unfold vF; exact ((if_neg (by rw [Bool.not_eq_true]; exact h)).trans (if_pos h2)).symm
theorem v_3 (h : (Float64.cmp (Float64.divmod hue 4607182418800017408).2 4595172819793696085 == some .lt) = false) (h2 : (Float64.cmp (Float64.divmod hue 4607182418800017408).2 4602678819172646912 == some .lt) = false)
    (h3 : (Float64.cmp (Float64.divmod hue 4607182418800017408).2 4604180019048437077 == some .lt) = true) :
    Float64.add m1 (Float64.mul (Float64.mul (Float64.sub m2 m1) (Float64.sub 4604180019048437077 (Float64.divmod hue 4607182418800017408).2)) 4618441417868443648) = vF m1 m2 hue := by
  unfold vF; exact ((if_neg (by rw [Bool.not_eq_true]; exact h)).trans ((if_neg (by rw [Bool.not_eq_true]; exact h2)).trans (if_pos h3))).symm
theorem v_4 (h : (Float64.cmp (Float64.divmod hue 4607182418800017408).2 4595172819793696085 == some .lt) = false) (h2 : (Float64.cmp (Float64.divmod hue 4607182418800017408).2 4602678819172646912 == some .lt) = false)
    (h3 : (Float64.cmp (Float64.divmod hue 4607182418800017408).2 4604180019048437077 == some .lt) = false) : m1 = vF m1 m2 hue := by
  unfold vF; exact ((if_neg (by rw [Bool.not_eq_true]; exact h)).trans ((if_neg (by rw [Bool.not_eq_true]; exact h2)).trans (if_neg (by rw [Bool.not_eq_true]; exact h3)))).symm
end

theorem v_fun (w : World) (mg mb mean) (m1 m2 hue : UInt64) (t1 t2 t3 : Tok) : Fun 2 w mg mb mean 35 [.float m1 t1, .float m2 t2, .float hue t3] (fun t => .float (vF m1 m2 hue) t) := by
  unfold Fun
  k_fill
  k_with_none
  w_top off
  intro dp un gd cn cs a ccd cl outer A₀ base h₀ L m news s Q E B F KX N T GL hk hd hu hret
  refine wpAny_call ?_
  k_dflt cell_enter
  k_steps
  all_goals (refine retF (s := s) hret ?_ (by assumption) (by assumption))
  all_goals (first | exact v_1 (by assumption) | exact v_2 (by assumption) (by assumption) | exact v_3 (by assumption) (by assumption) (by assumption) | exact v_4 (by assumption) (by assumption) (by assumption))

/-! max and min of three floats -/
open PySem.Flt
theorem ltV_ff {x y : UInt64} {t u : Tok} : ltV (.float x t) (.float y u) = (Float64.cmp x y == some .lt) := rfl
section
variable {prog : Program} {w : World} {A : Around} {E : Value → Shared → Prop} {s : Shared} {Q : Value → Shared → Prop}
theorem max_three_num {a b c : Value} (hh : A.handled = none) (ha : NumV a) (hb : NumV b) (hc : NumV c)
    (h : ∀ h' tk, (∀ d o, s.heap.get? d = some o → h'.get? d = some o) → Q (if ltV a b then (if ltV b c then c else b) else (if ltV a c then c else a)) { s with heap := h', toks := tk }) :
    wpAny (model prog w) A (call (.builtin "max") [a, b, c]) Q E s := by
  have hT : (s.heap.push { cls := .type "tuple", data := .seq #[a, b, c] }).IsTuple s.heap.objs.size #[a, b, c] := ⟨_, Heap.get?_push_size _ rfl, rfl, 0, rfl⟩
  refine call_max_three (wpAny_pyIter_tuple hT ?_)
  have hsz : (s.heap.push { cls := .type "tuple", data := .seq #[a, b, c] }).objs.size = s.heap.objs.size + 1 := Heap.size_push ..
  refine ⟨_, [_, s.heap.objs.size], [_], _, _, _, _, rfl, Walks.tuple (A := A.in1) hh _ s.heap.objs.size (by rw [hsz]; exact Nat.ne_of_lt (Nat.lt_succ_self _)) #[a, b, c],
    ⟨⟨_, Heap.get?_push_size _ rfl, rfl, rfl⟩, hT.push _⟩, fun c hc => ?_, by simp, cmpOf_gt #[a, b, c] (by simp [ha, hb, hc]), fun v h' tk hP hk => ?_⟩
  · show c < ((s.heap.push _).push _).objs.size
    rw [Heap.size_push, hsz]
    rcases List.mem_cons.mp hc with rfl | hc
    · rw [hsz]; exact Nat.lt_succ_self _
    · rcases List.mem_cons.mp hc with rfl | hc
      · exact Nat.lt_succ_of_lt (Nat.lt_succ_self _)
      · cases hc
  · have hold : ∀ c o, s.heap.get? c = some o → h'.get? c = some o := fun c o e => by
      refine hk c o (fun hm => ?_) (Heap.get?_push_of_some _ (Heap.get?_push_of_some _ e))
      rcases List.mem_cons.mp hm with e1 | hm
      · have := Heap.lt_size e; rw [e1, hsz] at this; exact Nat.lt_irrefl _ (Nat.lt_of_succ_lt this)
      · cases hm
    have := h h' tk hold
    have hv : v = if ltV a b then (if ltV b c then c else b) else (if ltV a c then c else a) := by
      cases h1 : ltV a b <;> cases h2 : ltV b c <;> cases h3 : ltV a c <;> simp [argBest, h1, h2, h3] at hP <;> simp [hP]
    rw [hv]; exact this
theorem min_three_num {a b c : Value} (hh : A.handled = none) (ha : NumV a) (hb : NumV b) (hc : NumV c)
    (h : ∀ h' tk, (∀ d o, s.heap.get? d = some o → h'.get? d = some o) → Q (if ltV b a then (if ltV c b then c else b) else (if ltV c a then c else a)) { s with heap := h', toks := tk }) :
    wpAny (model prog w) A (call (.builtin "min") [a, b, c]) Q E s := by
  have hT : (s.heap.push { cls := .type "tuple", data := .seq #[a, b, c] }).IsTuple s.heap.objs.size #[a, b, c] := ⟨_, Heap.get?_push_size _ rfl, rfl, 0, rfl⟩
  refine call_min_three (wpAny_pyIter_tuple hT ?_)
  have hsz : (s.heap.push { cls := .type "tuple", data := .seq #[a, b, c] }).objs.size = s.heap.objs.size + 1 := Heap.size_push ..
  refine ⟨_, [_, s.heap.objs.size], [_], _, _, _, _, rfl, Walks.tuple (A := A.in1) hh _ s.heap.objs.size (by rw [hsz]; exact Nat.ne_of_lt (Nat.lt_succ_self _)) #[a, b, c],
    ⟨⟨_, Heap.get?_push_size _ rfl, rfl, rfl⟩, hT.push _⟩, fun c hc => ?_, by simp, cmpOf_lt #[a, b, c] (by simp [ha, hb, hc]), fun v h' tk hP hk => ?_⟩
  · show c < ((s.heap.push _).push _).objs.size
    rw [Heap.size_push, hsz]
    rcases List.mem_cons.mp hc with rfl | hc
    · rw [hsz]; exact Nat.lt_succ_self _
    · rcases List.mem_cons.mp hc with rfl | hc
      · exact Nat.lt_succ_of_lt (Nat.lt_succ_self _)
      · cases hc
  · have hold : ∀ c o, s.heap.get? c = some o → h'.get? c = some o := fun c o e => by
      refine hk c o (fun hm => ?_) (Heap.get?_push_of_some _ (Heap.get?_push_of_some _ e))
      rcases List.mem_cons.mp hm with e1 | hm
      · have := Heap.lt_size e; rw [e1, hsz] at this; exact Nat.lt_irrefl _ (Nat.lt_of_succ_lt this)
      · cases hm
    have := h h' tk hold
    have hv : v = if ltV b a then (if ltV c b then c else b) else (if ltV c a then c else a) := by
      cases h1 : ltV b a <;> cases h2 : ltV c b <;> cases h3 : ltV c a <;> simp [argBest, h1, h2, h3] at hP <;> simp [hP]
    rw [hv]; exact this
theorem max_three_ff {x y z : UInt64} {t u v : Tok} {h₀ : Heap} {L : Addr} {m : Str → Option Value} {news : List (Addr × Obj)}
    (hh : A.handled = none) (F : Fr h₀ L s.heap m) (N : News h₀ L s.heap news)
    (h : ∀ h' tk v, Fr h₀ L h' m → News h₀ L h' news → Q (.float (max3 x y z) v) { s with heap := h', toks := tk }) :
    wpAny (model prog w) A (call (.builtin "max") [.float x t, .float y u, .float z v]) Q E s := by
  refine max_three_num hh (.float x t) (.float y u) (.float z v) fun h' tk kp => ?_
  simp only [ltV_ff]
  have F' := F.grownK kp
  have N' := N.grown kp
  unfold max3 at h
  by_cases h1 : (Float64.cmp x y == some .lt) = true
  · by_cases h2 : (Float64.cmp y z == some .lt) = true <;> simp only [h1, h2, if_true, if_false, Bool.false_eq_true] at h ⊢ <;> exact h h' tk _ F' N'
  · by_cases h2 : (Float64.cmp x z == some .lt) = true <;> simp only [h1, h2, if_true, if_false, Bool.false_eq_true] at h ⊢ <;> exact h h' tk _ F' N'
theorem min_three_ff {x y z : UInt64} {t u v : Tok} {h₀ : Heap} {L : Addr} {m : Str → Option Value} {news : List (Addr × Obj)}
    (hh : A.handled = none) (F : Fr h₀ L s.heap m) (N : News h₀ L s.heap news)
    (h : ∀ h' tk v, Fr h₀ L h' m → News h₀ L h' news → Q (.float (min3 x y z) v) { s with heap := h', toks := tk }) :
    wpAny (model prog w) A (call (.builtin "min") [.float x t, .float y u, .float z v]) Q E s := by
  refine min_three_num hh (.float x t) (.float y u) (.float z v) fun h' tk kp => ?_
  simp only [ltV_ff]
  have F' := F.grownK kp
  have N' := N.grown kp
  unfold min3 at h
  by_cases h1 : (Float64.cmp y x == some .lt) = true
  · by_cases h2 : (Float64.cmp z y == some .lt) = true <;> simp only [h1, h2, if_true, if_false, Bool.false_eq_true] at h ⊢ <;> exact h h' tk _ F' N'
  · by_cases h2 : (Float64.cmp z x == some .lt) = true <;> simp only [h1, h2, if_true, if_false, Bool.false_eq_true] at h ⊢ <;> exact h h' tk _ F' N'
end
end Mine

end
section
set_option Elab.async false
set_option maxRecDepth 100000
set_option maxHeartbeats 8000000
namespace Mine
open PySem PySem.W PyProof.Rows PySem.Calls

theorem fun_use {n : Nat} {w : World} {mg mb : Str → Option Value} {mean : ExcName → Option Value} {f : Addr} {vs : List Value} {R : Tok → Value} (C : Fun n w mg mb mean f vs R)
    {dp un : Nat} {gd : Option (List Code)} {cn : Str} {cs : Scope} {a : Addr} {ccd : Value} {cl : List (Str × Addr)} {outer : List Env} {A₀ : Around} {base h₀ : Heap} {L : Addr} {m : Str → Option Value} {news : List (Addr × Obj)} {s : Shared}
    {Q E : Value → Shared → Prop}
    (B : Below A₀ base outer h₀) (F : Fr h₀ L s.heap m) (X : (hd.heap_39 w.params).In h₀) (N : News h₀ L s.heap news)
    (T : Top hd.view_39 (looseW hd.view_39 [Str.ofString "ONE_THIRD", Str.ofString "ONE_SIXTH", Str.ofString "TWO_THIRD"]) mean mg mb h₀)
    (G : Glob 0 mg mb (List.map itemOf (recsOf hd.view_39)) (scalarsOf [(Str.ofString "ONE_THIRD", WData.float 4599676419421066581), (Str.ofString "ONE_SIXTH", WData.float 4595172819793696085), (Str.ofString "TWO_THIRD", WData.float 4604180019048437077)] ++ constsW hd.view_39) [] (namesW hd.view_39 [Str.ofString "ONE_THIRD", Str.ofString "ONE_SIXTH", Str.ofString "TWO_THIRD"]) base)
    (hk : cs.kind = .function) (hd : dp + n < recursionLimit) (hu : un + 10 * n < cLine)
    (ret : ∀ t h' tk', Fr h₀ L h' m → News h₀ L h' news → Q (R t) { s with heap := h', toks := tk' }) :
    wpAny (model PySem.Challenge.rw_tp0005_01.row.prog w) (ktrTop dp un gd cn cs L a ccd cl outer) (call (.ref f) vs) Q E s := C _ _ _ _ _ _ _ _ _ _ _ _ _ _ _ _ _ _ B F X N T G hk hd hu ret


/-- the same for a def that hands back a new tuple of three floats -/
abbrev FunT (n : Nat) (w : World) (mg mb : Str → Option Value) (mean : ExcName → Option Value) (f : Addr) (vs : List Value) (r g b : UInt64) : Prop :=
  ∀ (dp un : Nat) (gd : Option (List Code)) (cn : Str) (cs : Scope) (a : Addr) (ccd : Value) (cl : List (Str × Addr)) (outer : List Env) (A₀ : Around) (base h₀ : Heap) (L : Addr) (m : Str → Option Value) (news : List (Addr × Obj)) (s : Shared)
    (Q E : Value → Shared → Prop),
    Below A₀ base outer h₀ → Fr h₀ L s.heap m → (hd.heap_39 w.params).In h₀ → News h₀ L s.heap news →
    Top hd.view_39 (looseW hd.view_39 [Str.ofString "ONE_THIRD", Str.ofString "ONE_SIXTH", Str.ofString "TWO_THIRD"]) mean mg mb h₀ →
    Glob 0 mg mb (List.map itemOf (recsOf hd.view_39)) (scalarsOf [(Str.ofString "ONE_THIRD", WData.float 4599676419421066581), (Str.ofString "ONE_SIXTH", WData.float 4595172819793696085), (Str.ofString "TWO_THIRD", WData.float 4604180019048437077)] ++ constsW hd.view_39) [] (namesW hd.view_39 [Str.ofString "ONE_THIRD", Str.ofString "ONE_SIXTH", Str.ofString "TWO_THIRD"]) base →
    cs.kind = .function → dp + n < recursionLimit → un + 10 * n < cLine →
    (∀ D t1 t2 t3 h' tk', (∀ p ∈ news, p.1 < D) → Fr h₀ L h' m → News h₀ L h' ((D, { cls := .type "tuple", data := .seq #[.float r t1, .float g t2, .float b t3] }) :: news) → Q (.ref D) { s with heap := h', toks := tk' }) →
    wpAny (model PySem.Challenge.rw_tp0005_01.row.prog w) (ktrTop dp un gd cn cs L a ccd cl outer) (call (.ref f) vs) Q E s
theorem funT_use {n : Nat} {w : World} {mg mb : Str → Option Value} {mean : ExcName → Option Value} {f : Addr} {vs : List Value} {r g b : UInt64} (C : FunT n w mg mb mean f vs r g b)
    {dp un : Nat} {gd : Option (List Code)} {cn : Str} {cs : Scope} {a : Addr} {ccd : Value} {cl : List (Str × Addr)} {outer : List Env} {A₀ : Around} {base h₀ : Heap} {L : Addr} {m : Str → Option Value} {news : List (Addr × Obj)} {s : Shared}
    {Q E : Value → Shared → Prop}
    (B : Below A₀ base outer h₀) (F : Fr h₀ L s.heap m) (X : (hd.heap_39 w.params).In h₀) (N : News h₀ L s.heap news)
    (T : Top hd.view_39 (looseW hd.view_39 [Str.ofString "ONE_THIRD", Str.ofString "ONE_SIXTH", Str.ofString "TWO_THIRD"]) mean mg mb h₀)
    (G : Glob 0 mg mb (List.map itemOf (recsOf hd.view_39)) (scalarsOf [(Str.ofString "ONE_THIRD", WData.float 4599676419421066581), (Str.ofString "ONE_SIXTH", WData.float 4595172819793696085), (Str.ofString "TWO_THIRD", WData.float 4604180019048437077)] ++ constsW hd.view_39) [] (namesW hd.view_39 [Str.ofString "ONE_THIRD", Str.ofString "ONE_SIXTH", Str.ofString "TWO_THIRD"]) base)
    (hk : cs.kind = .function) (hd : dp + n < recursionLimit) (hu : un + 10 * n < cLine)
    (ret : ∀ D t1 t2 t3 h' tk', (∀ p ∈ news, p.1 < D) → Fr h₀ L h' m → News h₀ L h' ((D, { cls := .type "tuple", data := .seq #[.float r t1, .float g t2, .float b t3] }) :: news) → Q (.ref D) { s with heap := h', toks := tk' }) :
    wpAny (model PySem.Challenge.rw_tp0005_01.row.prog w) (ktrTop dp un gd cn cs L a ccd cl outer) (call (.ref f) vs) Q E s := C _ _ _ _ _ _ _ _ _ _ _ _ _ _ _ _ _ _ B F X N T G hk hd hu ret
theorem retT {h₀ h' : Heap} {L : Addr} {m : Str → Option Value} {news : List (Addr × Obj)} {s : Shared} {Q : Value → Shared → Prop} {t1 t2 t3 : Tok} {tk' : Nat} {D : Addr} {r g b r' g' b' : UInt64}
    (hret : ∀ D t1 t2 t3 h' tk', (∀ p ∈ news, p.1 < D) → Fr h₀ L h' m → News h₀ L h' ((D, { cls := .type "tuple", data := .seq #[.float r t1, .float g t2, .float b t3] }) :: news) → Q (.ref D) { s with heap := h', toks := tk' })
    (hl : ∀ p ∈ news, p.1 < D) (F : Fr h₀ L h' m) (N : News h₀ L h' ((D, { cls := .type "tuple", data := .seq #[.float r' t1, .float g' t2, .float b' t3] }) :: news)) (e : r' = r ∧ g' = g ∧ b' = b) : Q (.ref D) { s with heap := h', toks := tk' } := by
  obtain ⟨rfl, rfl, rfl⟩ := e
  exact hret _ _ _ _ _ _ hl F N

theorem m2_t {l s : UInt64} (h : (Float64.cmp l 4602678819172646912 == some .lt || Float64.cmp l 4602678819172646912 == some .eq) = true) : m2F l s = Float64.mul l (Float64.add 4607182418800017408 s) := if_pos h
theorem m2_f {l s : UInt64} (h : (Float64.cmp l 4602678819172646912 == some .lt || Float64.cmp l 4602678819172646912 == some .eq) = false) : m2F l s = Float64.sub (Float64.add l s) (Float64.mul l s) := if_neg (by rw [Bool.not_eq_true]; exact h)
theorem m1_of {l s x : UInt64} (h : m2F l s = x) : m1F l s = Float64.sub (Float64.mul 4611686018427387904 l) x := by unfold m1F; rw [h]; rfl

local macro_rules | `(tactic| walk_at $s:str) => `(tactic| k_extra $s)
theorem hls_fun (w : World) (mg mb mean) (h l s : UInt64) (t1 t2 t3 : Tok) (hs : (Float64.cmp s 0 == some .eq) = false) : FunT 4 w mg mb mean 28 [.float h t1, .float l t2, .float s t3]
    (vF (m1F l s) (m2F l s) (Float64.add h 4599676419421066581)) (vF (m1F l s) (m2F l s) h) (vF (m1F l s) (m2F l s) (Float64.sub h 4599676419421066581)) := by
  k_with_none
  k_with "call ref" => ((with_reducible show wpAny _ _ (call (Value.ref 35) _) _ _ _); k_dflt (refine fun_use (v_fun _ _ _ _ _ _ _ _ _ _) (by k_asm) (by k_asm) (by k_asm) (by k_asm) (by k_asm) (by k_asm) (by first | exact rfl | assumption) (by ktr_room) (by ktr_units) ?_); intro t9 h9 tk9 F9 N9; (try dsimp only); (try k_fold))
  unfold FunT
  k_fill
  w_top off
  intro dp un gd cn cs a ccd cl outer A₀ base h₀ L m news s Q E B F KX N T GL hk hd hu hret
  refine wpAny_call ?_
  k_dflt cell_enter
  k_steps
  all_goals (refine retT hret (by assumption) (by assumption) (by assumption) ?_)
  all_goals (first | (rw [m1_of (m2_t (by assumption)), m2_t (by assumption)]; exact ⟨rfl, rfl, rfl⟩) | (rw [m1_of (m2_f (by assumption)), m2_f (by assumption)]; exact ⟨rfl, rfl, rfl⟩))
end Mine

end
section
set_option Elab.async false
set_option maxRecDepth 100000
set_option maxHeartbeats 8000000
namespace Mine
open PySem PySem.W PyProof.Rows PySem.Calls



theorem toInt_trunc (x : UInt64) : Flt.toInt Float64.truncOf x = truncI x := by
  unfold Flt.toInt truncI
  cases Float64.decode x <;> rfl

section
variable {r g b : UInt64}
theorem back_1 (h : (Float64.cmp r (max3 r g b) == some .eq) = true) :
    (Float64.divmod (Float64.div (Float64.sub (Float64.div (Float64.sub (max3 r g b) b) (Float64.sub (max3 r g b) (min3 r g b))) (Float64.div (Float64.sub (max3 r g b) g) (Float64.sub (max3 r g b) (min3 r g b)))) 4618441417868443648) 4607182418800017408).2 = back r g b := by
  unfold back hueOf; simp only [h, if_true]; rfl
theorem back_2 (h : (Float64.cmp r (max3 r g b) == some .eq) = false) (h2 : (Float64.cmp g (max3 r g b) == some .eq) = true) :
    (Float64.divmod (Float64.div (Float64.sub (Float64.add 4611686018427387904 (Float64.div (Float64.sub (max3 r g b) r) (Float64.sub (max3 r g b) (min3 r g b)))) (Float64.div (Float64.sub (max3 r g b) b) (Float64.sub (max3 r g b) (min3 r g b)))) 4618441417868443648) 4607182418800017408).2 = back r g b := by
  unfold back hueOf; simp only [h, h2, if_true, Bool.false_eq_true, if_false]; rfl
theorem back_3 (h : (Float64.cmp r (max3 r g b) == some .eq) = false) (h2 : (Float64.cmp g (max3 r g b) == some .eq) = false) :
    (Float64.divmod (Float64.div (Float64.sub (Float64.add 4616189618054758400 (Float64.div (Float64.sub (max3 r g b) g) (Float64.sub (max3 r g b) (min3 r g b)))) (Float64.div (Float64.sub (max3 r g b) r) (Float64.sub (max3 r g b) (min3 r g b)))) 4618441417868443648) 4607182418800017408).2 = back r g b := by
  unfold back hueOf; simp only [h, h2, Bool.false_eq_true, if_false]; rfl
variable {s j : Int} {u : UInt64}
theorem end_i (G : Good s j r g b) (hs : 2 ≤ s) (h : u = back r g b) : (Flt.toInt Float64.truncOf (Float64.add (Float64.mul u (Float64.ofInt s)) 4602678819172646912)).fmod s = j := by
  rw [Int.fmod_eq_emod_of_nonneg _ (by omega), toInt_trunc, h]
  exact G.val
theorem end_nan {P : Prop} (G : Good s j r g b) (h : u = back r g b) (hx : Float64.isNaN (Float64.add (Float64.mul u (Float64.ofInt s)) 4602678819172646912) = true) : P := by
  have f := G.fin
  rw [h] at hx
  have := Flt.not_nan_of_finite f
  rw [show c05 = 4602678819172646912 from rfl] at this
  rw [hx] at this; cases this
theorem end_inf {P : Prop} (G : Good s j r g b) (h : u = back r g b) (hx : Float64.isInf (Float64.add (Float64.mul u (Float64.ofInt s)) 4602678819172646912) = true) : P := by
  have f := G.fin
  rw [h] at hx
  have := Flt.not_inf_of_finite f
  rw [show c05 = 4602678819172646912 from rfl] at this
  rw [hx] at this; cases this
end
theorem drop1 {h₀ h : Heap} {L : Addr} {a : Addr × Obj} {news : List (Addr × Obj)} (N : News h₀ L h (a :: news)) : News h₀ L h news := fun p hp => N p (.tail _ hp)
theorem drop2 {h₀ h : Heap} {L : Addr} {a b : Addr × Obj} {news : List (Addr × Obj)} (N : News h₀ L h (a :: b :: news)) : News h₀ L h news := fun p hp => N p (.tail _ (.tail _ hp))

local macro_rules | `(tactic| walk_at $s:str) => `(tactic| k_extra $s)
theorem hue_body (w : World) (mg mb mean) (t s j : Int) (l c r g b : UInt64) (t1 t2 t3 t4 : Tok)
    (hC : ∀ x1 x2 x3, FunT 4 w mg mb mean 28 [.float (quo t s) x1, .float l x2, .float c x3] r g b)
    (hs0 : 2 ≤ s) (hs1 : s ≤ 13) (ht0 : -2000 ≤ t) (ht1 : t ≤ 2000)
    (g1 : (Float64.cmp (min3 r g b) (max3 r g b) == some .eq) = false)
    (g2 : Float64.isZero (Float64.add (max3 r g b) (min3 r g b)) = false)
    (g3 : Float64.isZero (Float64.sub (Float64.sub 4611686018427387904 (max3 r g b)) (min3 r g b)) = false)
    (g4 : Float64.isZero (Float64.sub (max3 r g b) (min3 r g b)) = false)
    (hG : Good s j r g b) :
    Fun 6 w mg mb mean 77 [.int t t1, .int s t2, .float l t3, .float c t4] (fun tk => .int j tk) := by
  k_with_none
  k_with "call ref" => ((with_reducible show wpAny _ _ (call (Value.ref 28) _) _ _ _); k_dflt (refine funT_use (hC _ _ _) (by k_asm) (by k_asm) (by k_asm) (by k_asm) (by k_asm) (by k_asm) (by first | exact rfl | assumption) (by ktr_room) (by ktr_units) ?_); intro D9 t9 u9 v9 h9 tk9 l9 F9 N9; (try dsimp only); (try k_fold))
  k_with "call builtin:max" => ((with_reducible show wpAny _ _ (call _ [Value.float _ _, Value.float _ _, Value.float _ _]) _ _ _); refine max_three_ff rfl (by k_asm) (by k_asm) ?_; intro h9 tk9 v9 F9 N9; (try dsimp only))
  k_with "call builtin:min" => ((with_reducible show wpAny _ _ (call _ [Value.float _ _, Value.float _ _, Value.float _ _]) _ _ _); refine min_three_ff rfl (by k_asm) (by k_asm) ?_; intro h9 tk9 v9 F9 N9; (try dsimp only))
  k_with "call ref" => ((with_reducible show wpAny _ _ (call (Value.ref 21) _) _ _ _); (have hk9 : ScopeKind.function = ScopeKind.function := rfl); refine wpAny_call ?_; k_dflt cell_enter)
  unfold Fun
  k_fill
  w_top off
  intro dp un gd cn cs a ccd cl outer A₀ base h₀ L m news s' Q E B F KX N T GL hk hd hu hret
  refine wpAny_call ?_
  k_dflt cell_enter
  k_steps
  all_goals first
    | (refine retI (s := s') hret ?_ (by assumption) (drop2 (by assumption)); first | exact end_i hG hs0 (back_1 (by assumption)) | exact end_i hG hs0 (back_2 (by assumption) (by assumption)) | exact end_i hG hs0 (back_3 (by assumption) (by assumption)))
    | exact end_nan hG (back_1 (by assumption)) (by assumption)
    | exact end_nan hG (back_2 (by assumption) (by assumption)) (by assumption)
    | exact end_nan hG (back_3 (by assumption) (by assumption)) (by assumption)
    | exact end_inf hG (back_1 (by assumption)) (by assumption)
    | exact end_inf hG (back_2 (by assumption) (by assumption)) (by assumption)
    | exact end_inf hG (back_3 (by assumption) (by assumption)) (by assumption)
end Mine

end
section
set_option maxRecDepth 100000
namespace Mine
open PySem PySem.W PyProof.Rows PySem.Calls

theorem hue_fun (w : World) (mg mb mean) (t s l c : Int) (t1 t2 t3 t4 : Tok) (h0 : 2 ≤ s) (h1 : s ≤ 13) (ht0 : -2000 ≤ t) (ht1 : t ≤ 2000) (l0 : 0 ≤ l) (l1 : l < 3) (c0 : 0 ≤ c) (c1 : c < 2) :
    Fun 6 w mg mb mean 77 [.int t t1, .int s t2, .float (lightC l) t3, .float (shareC c) t4] (fun tk => .int (t % s) tk) := by
  have G := hue_good h0 h1 ht0 ht1 l0 l1 c0 c1
  have hz : (Float64.cmp (shareC c) 0 == some .eq) = false := by
    have : c = 0 ∨ c = 1 := by omega
    rcases this with rfl | rfl <;> decide +kernel
  exact hue_body w mg mb mean t s (t % s) (lightC l) (shareC c) _ _ _ t1 t2 t3 t4 (fun x1 x2 x3 => hls_fun w mg mb mean (quo t s) (lightC l) (shareC c) x1 x2 x3 hz) h0 h1 ht0 ht1 G.ne G.sum G.two G.rng G
end Mine

end
section
set_option Elab.async false
set_option maxRecDepth 100000
set_option maxHeartbeats 2000000
namespace Mine
open PySem PySem.W PyProof.Rows PySem.Calls
theorem retB {h₀ h' : Heap} {L : Addr} {m : Str → Option Value} {news : List (Addr × Obj)} {s : Shared} {Q : Value → Shared → Prop} {tk' : Nat} {x y : Bool}
    (hret : ∀ (t : Tok) h' tk', Fr h₀ L h' m → News h₀ L h' news → Q (.bool x) { s with heap := h', toks := tk' }) (e : y = x) (F : Fr h₀ L h' m) (N : News h₀ L h' news) : Q (.bool y) { s with heap := h', toks := tk' } := by
  subst e
  exact hret 0 h' tk' F N
theorem isn_fun (w : World) (mg mb mean) (x : Int) (t : Tok) : Fun 2 w mg mb mean 56 [.int x t] (fun _ => .bool (decide (256 ≤ x))) := by
  unfold Fun
  k_fill
  k_with_none
  w_top off
  intro dp un gd cn cs a ccd cl outer A₀ base h₀ L m news s Q E B F KX N T GL hk hd hu hret
  refine wpAny_call ?_
  k_dflt cell_enter
  k_steps
  all_goals (refine retB (s := s) hret ?_ (by assumption) (by assumption))
  all_goals (rfl)
theorem ist_fun (w : World) (mg mb mean) (x : Int) (t : Tok) : Fun 2 w mg mb mean 49 [.int x t] (fun _ => .bool (decide (x < 256))) := by
  unfold Fun
  k_fill
  k_with_none
  w_top off
  intro dp un gd cn cs a ccd cl outer A₀ base h₀ L m news s Q E B F KX N T GL hk hd hu hret
  refine wpAny_call ?_
  k_dflt cell_enter
  k_steps
  all_goals (refine retB (s := s) hret ?_ (by assumption) (by assumption))
  all_goals (rfl)
theorem ise_fun (w : World) (mg mb mean) (x : Int) (t : Tok) : Fun 2 w mg mb mean 63 [.int x t] (fun _ => .bool (decide (x = 0))) := by
  unfold Fun
  k_fill
  k_with_none
  w_top off
  intro dp un gd cn cs a ccd cl outer A₀ base h₀ L m news s Q E B F KX N T GL hk hd hu hret
  refine wpAny_call ?_
  k_dflt cell_enter
  k_steps
  all_goals (refine retB (s := s) hret ?_ (by assumption) (by assumption))
  all_goals (rfl)
end Mine

end
section
set_option Elab.async false
set_option maxRecDepth 100000
set_option maxHeartbeats 4000000
namespace Mine
open PySem PySem.W PyProof.Rows PySem.Calls

/-- a def, with what is asked of its end said freely -/
abbrev FunG (n : Nat) (w : World) (mg mb : Str → Option Value) (mean : ExcName → Option Value) (f : Addr) (vs : List Value) (Ret : Heap → Addr → (Str → Option Value) → List (Addr × Obj) → Shared → (Value → Shared → Prop) → Prop) : Prop :=
  ∀ (dp un : Nat) (gd : Option (List Code)) (cn : Str) (cs : Scope) (a : Addr) (ccd : Value) (cl : List (Str × Addr)) (outer : List Env) (A₀ : Around) (base h₀ : Heap) (L : Addr) (m : Str → Option Value) (news : List (Addr × Obj)) (s : Shared)
    (Q E : Value → Shared → Prop),
    Below A₀ base outer h₀ → Fr h₀ L s.heap m → (hd.heap_39 w.params).In h₀ → News h₀ L s.heap news →
    Top hd.view_39 (looseW hd.view_39 [Str.ofString "ONE_THIRD", Str.ofString "ONE_SIXTH", Str.ofString "TWO_THIRD"]) mean mg mb h₀ →
    Glob 0 mg mb (List.map itemOf (recsOf hd.view_39)) (scalarsOf [(Str.ofString "ONE_THIRD", WData.float 4599676419421066581), (Str.ofString "ONE_SIXTH", WData.float 4595172819793696085), (Str.ofString "TWO_THIRD", WData.float 4604180019048437077)] ++ constsW hd.view_39) [] (namesW hd.view_39 [Str.ofString "ONE_THIRD", Str.ofString "ONE_SIXTH", Str.ofString "TWO_THIRD"]) base →
    cs.kind = .function → dp + n < recursionLimit → un + 10 * n < cLine →
    Ret h₀ L m news s Q →
    wpAny (model PySem.Challenge.rw_tp0005_01.row.prog w) (ktrTop dp un gd cn cs L a ccd cl outer) (call (.ref f) vs) Q E s

section
variable {prog : Program} {w : World} {A₀ A : Around} {s : Shared} {base h₀ : Heap} {outer : List Env} {L : Addr} {m mg mb : Str → Option Value} {env : Env} {K : Frag} {p : Program} {loose : List Str} {mean : ExcName → Option Value}
  {R : Result → Shared → Prop} {name qual : Str} {params : Arguments} {body : List Stmt} {scope : Scope} {dV kV doc pm cdv ct oc : Value} {an od : Option Addr} {osl : Array (Option Value)} {f : Addr} {args : Args} {binds : List (Str × Value)}
/-- a def is entered with nothing of the caller's hidden: what the caller has made stands as it stood -/
theorem enter0 (B : Below A₀ base outer h₀) (F : Fr h₀ L s.heap m) (X₀ : K.In h₀) (T : Top p loose mean mg mb h₀) (hA : A.frames = some (env :: outer)) (hf : env.frame = some L) (hke : env.scope.kind = .function)
    (ho : K.lookup f = some ⟨oc, od, .func (fnOf name qual params body scope dV kV doc pm an cdv ct), osl⟩) (hcd : codeIn K cdv qual = true) (hroom : A.depth < recursionLimit)
    (hbind : BindsTo s (fnOf name qual params body scope dV kV doc pm an cdv ct) args binds) (hloc : ∀ y ∈ binds, scope.names.lookup y.1 = some .local)
    (h : ∀ L' h₁, Fr h₀ L s.heap m → Fr s.heap L' h₁ (fun y => binds.reverse.lookup y) → News s.heap L' h₁ [] → Below A base (env :: outer) s.heap → K.In s.heap → Top p loose mean mg mb s.heap →
      wpAny (model prog w) (A.deeper (envOf qual scope L' f cdv)) (execs body (envOf qual scope L' f cdv))
        (fun fl s' => LeaveK h₀ L m s.heap R (match fl with | .ret v => v | _ => .none) s')
        (fun e s' => wpAny (model prog w) (A.deeper (envOf qual scope L' f cdv)) (leaving (envOf qual scope L' f cdv) e) (fun _ s'' => R (.error e) s'') (fun e' s'' => R (.error e') s'') s')
        { s with heap := h₁, toks := s.toks + binds.length })
    (hco : scope.isCoroutine = false) (hgen : scope.isGenerator = false) (hk : scope.kind = .function)
    (hcell : ∀ x ∈ scope.names, x.2 ≠ .cell) : codeAny (model prog w) A (.call (.ref f) args) R s := by
  obtain ⟨FG, BG, st, lv⟩ := groundX (R := R) B F (News.nil) hA hf hke
  have X₁ := X₀.keeps F.keep
  refine codeAny_call_def (fd := fnOf name qual params body scope dV kV doc pm an cdv ct) (body := body) (binds := binds) hroom (X₁ _ _ ho) rfl (T.nolimit.keeps F.keep) (codeRec_of X₁ hcd) rfl hbind hcell hloc (fun h₁ hns hk₁ => ?_) hco hgen hk
  exact wpAny_mono (h s.heap.objs.size h₁ FG ⟨hns, hk₁, Nat.le_refl _⟩ News.nil BG X₁ (T.keeps F.keep)) (fun fl s' hl => lv _ _ hl) fun _ _ y => y
theorem news_back {s : Heap} {h' : Heap} {L' : Addr} {m' : Str → Option Value} {news own : List (Addr × Obj)} (N : News h₀ L s news) (F' : Fr s L' h' m') (O : News h₀ L h' own) : News h₀ L h' (own ++ news) := fun q hq => by
  rcases List.mem_append.mp hq with hq | hq
  · exact O q hq
  · exact ⟨F'.keep _ _ (N q hq).1, (N q hq).2⟩
theorem news_kept {s : Heap} {h' : Heap} {L' : Addr} {m' : Str → Option Value} {news : List (Addr × Obj)} (N : News h₀ L s news) (F' : Fr s L' h' m') : News h₀ L h' news := fun q hq => ⟨F'.keep _ _ (N q hq).1, (N q hq).2⟩
theorem ne_back {s : Heap} {h' : Heap} {L' : Addr} {news own : List (Addr × Obj)} (N : News h₀ L s news) (O : News s L' h' own) : ∀ q ∈ own, ∀ p ∈ news, p.1 ≠ q.1 := fun q hq p hp e => by
  have h1 := (N p hp).1
  rw [e, (O q hq).2.2] at h1; cases h1
end





structure Keep (P : Prop) : Prop where
  out : P

theorem fl_cases {P s : Int} (hs : 0 < s) : (s * P.fdiv s = P ∧ (-P) % s = 0 ∧ (P + (-P) % s).fdiv s = P.fdiv s) ∨
    (s * P.fdiv s < P ∧ (-P) % s = s * (P.fdiv s + 1) - P ∧ (P + (-P) % s).fdiv s = P.fdiv s + 1) := by
  rw [Int.fdiv_eq_ediv_of_nonneg _ (by omega), Int.fdiv_eq_ediv_of_nonneg _ (by omega)]
  have h1 := Int.mul_ediv_add_emod P s
  have h2 := Int.emod_nonneg P (show s ≠ 0 by omega)
  have h3 := Int.emod_lt_of_pos P hs
  by_cases h : P % s = 0
  · left
    have e : (-P) % s = 0 := by
      rw [show -P = s * (-(P / s)) by rw [Int.mul_neg]; omega]
      exact Int.mul_emod_right _ _
    refine ⟨by omega, e, ?_⟩
    rw [e, Int.add_zero]
  · right
    have e : (-P) % s = s - P % s := by
      have : -P = (s - P % s) + s * (-(P / s) - 1) := by rw [Int.mul_sub, Int.mul_neg]; omega
      rw [this, Int.add_mul_emod_self_left]
      exact Int.emod_eq_of_lt (by omega) (by omega)
    refine ⟨by omega, by rw [e, Int.mul_add]; omega, ?_⟩
    rw [e, show P + (s - P % s) = s * (P / s + 1) by rw [Int.mul_add]; omega]
    exact Int.mul_ediv_cancel_left _ (by omega)

abbrev tup2 (x y : Int) (t u : Tok) : Obj := { cls := Value.type "tuple", data := Data.seq #[Value.int x t, Value.int y u] }
abbrev lst1 (l : List Value) (n : Nat) : Obj := { cls := Value.type "list", data := Data.seq l.toArray n }

/-- the end of _law_points: one point, or none -/
abbrev RetPts (h s o u : Int) (h₀ : Heap) (L : Addr) (m : Str → Option Value) (news : List (Addr × Obj)) (st : Shared) (Q : Value → Shared → Prop) : Prop :=
  ((-h * o) % s + (-h * u) % s + h ≤ s → ∀ D T n tx ty h' tk', (∀ p ∈ news, p.1 ≠ D) → (∀ p ∈ news, p.1 ≠ T) → D ≠ T → Fr h₀ L h' m →
    News h₀ L h' ((T, tup2 ((h * o + (-h * o) % s).fdiv s) ((h * u + (-h * u) % s).fdiv s) tx ty) :: (D, lst1 [.ref T] n) :: news) → Q (.ref D) { st with heap := h', toks := tk' }) ∧
  (¬ (-h * o) % s + (-h * u) % s + h ≤ s → ∀ D n h' tk', (∀ p ∈ news, p.1 ≠ D) → Fr h₀ L h' m → News h₀ L h' ((D, lst1 [] n) :: news) → Q (.ref D) { st with heap := h', toks := tk' })

section
variable {h s o u : Int} {h₀ : Heap} {L L' : Addr} {m m' : Str → Option Value} {news own : List (Addr × Obj)} {st : Shared} {Q : Value → Shared → Prop} {h' : Heap} {tk' : Nat}
theorem pt_no (ret : RetPts h s o u h₀ L m news st Q) (N : Keep (News h₀ L st.heap news)) (F' : Fr st.heap L' h' m') (N' : News st.heap L' h' own) (kF : Fr h₀ L h' m) (kN : News h₀ L h' own)
    {D : Addr} {n : Nat} (mD : (D, lst1 [] n) ∈ own) (hC : ¬ (-h * o) % s + (-h * u) % s + h ≤ s) : Q (.ref D) { st with heap := h', toks := tk' } :=
  ret.2 hC D n h' tk' (fun p hp => ne_back N.out N' _ mD p hp) kF fun q hq => by
    rcases List.mem_cons.mp hq with rfl | hq
    · exact kN _ mD
    · exact news_kept N.out F' q hq
theorem pt_yes (ret : RetPts h s o u h₀ L m news st Q) (N : Keep (News h₀ L st.heap news)) (F' : Fr st.heap L' h' m') (N' : News st.heap L' h' own) (kF : Fr h₀ L h' m) (kN : News h₀ L h' own)
    {D T : Addr} {n : Nat} {x y : Int} {tx ty : Tok} (mD : (D, lst1 [.ref T] n) ∈ own) (mT : (T, tup2 x y tx ty) ∈ own) (hC : (-h * o) % s + (-h * u) % s + h ≤ s)
    (hx : (h * o + (-h * o) % s).fdiv s = x) (hy : (h * u + (-h * u) % s).fdiv s = y) : Q (.ref D) { st with heap := h', toks := tk' } := by
  subst hx hy
  refine ret.1 hC D T n tx ty h' tk' (fun p hp => ne_back N.out N' _ mD p hp) (fun p hp => ne_back N.out N' _ mT p hp) (fun e => ?_) kF fun q hq => ?_
  · subst e
    have h1 := (kN _ mD).1
    have h2 := (kN _ mT).1
    rw [h1] at h2
    have h3 := congrArg Obj.cls (Option.some.inj h2)
    exact absurd h3 (by simp)
  · rcases List.mem_cons.mp hq with rfl | hq
    · exact kN _ mT
    · rcases List.mem_cons.mp hq with rfl | hq
      · exact kN _ mD
      · exact news_kept N.out F' q hq
end


/-! one turn of the inner loop, said for any frame and ledger: walked once, used four times -/
abbrev PtMap (x : Int) (tx : Tok) (y : Int) (ty : Tok) (D : Addr) (s o u h : Int) (ts to tu th : Tok) (v : Str → Option Value) : Str → Option Value := fun z =>
  if z = Str.ofString "y" then some (.int y ty) else if z = Str.ofString "x" then some (.int x tx) else if z = Str.ofString "points" then some (.ref D) else if z = Str.ofString "steps" then some (.int s ts) else
  if z = Str.ofString "over" then some (.int o to) else if z = Str.ofString "up" then some (.int u tu) else if z = Str.ofString "high" then some (.int h th) else v z
def PtC (s o u h x y : Int) : Prop := 0 ≤ s * x - h * o ∧ 0 ≤ s * y - h * u ∧ (s * x - h * o) + (s * y - h * u) + h ≤ s
structure TurnMark : Prop where
theorem turnMark : TurnMark := ⟨⟩
structure PtKeep (P : Prop) : Prop where
  out : P
def TurnSpec (prog : Program) (w : World) (A : Around) (body : List Stmt) (env : Env) (h₀ : Heap) (L : Addr) (s o u h : Int) : Prop :=
  ∀ (x y : Int) (tx ty ts to tu th : Tok) (D : Addr) (its : Array Value) (n : Nat) (kR : List (Addr × Obj)) (v : Str → Option Value) (st : Shared) (Q : Flow → Shared → Prop) (E : Value → Shared → Prop),
    its.size ≤ 8 → OwnOff kR [D] → Fr h₀ L st.heap (PtMap x tx y ty D s o u h ts to tu th v) → News h₀ L st.heap ((D, listOf its n) :: kR) →
    PtKeep (¬ PtC s o u h x y → ∀ h' tk' te tn, Fr h₀ L h' (fun z => if z = Str.ofString "north" then some (.int (s * y - h * u) tn) else if z = Str.ofString "east" then some (.int (s * x - h * o) te) else PtMap x tx y ty D s o u h ts to tu th v z) →
      News h₀ L h' ((D, listOf its n) :: kR) → Q .next { st with heap := h', toks := tk' }) →
    PtKeep (PtC s o u h x y → ∀ h' tk' te tn T t1 t2, Fr h₀ L h' (fun z => if z = Str.ofString "north" then some (.int (s * y - h * u) tn) else if z = Str.ofString "east" then some (.int (s * x - h * o) te) else PtMap x tx y ty D s o u h ts to tu th v z) →
      News h₀ L h' ((T, tup2 x y t1 t2) :: (D, listOf (its.push (.ref T)) (n + 1)) :: kR) → (@LT.lt Nat _ D T ∧ AllLt T kR) → Q .next { st with heap := h', toks := tk' }) →
    wpAny (model prog w) A (execs body env) Q E st
section
variable {prog : Program} {w : World} {A : Around} {body : List Stmt} {env : Env} {h₀ : Heap} {L : Addr} {s o u h x y : Int} {tx ty ts to tu th : Tok} {D : Addr} {its : Array Value} {n : Nat} {led : List (Addr × Obj)} {g : Obj → List (Addr × Obj)} {m : Str → Option Value} {st : Shared} {Q : Flow → Shared → Prop} {E : Value → Shared → Prop}
theorem turn_cut (s o u h : Int) (_F : Fr h₀ L st.heap m) (mk : TurnMark → TurnSpec prog w A body env h₀ L s o u h) (go : TurnSpec prog w A body env h₀ L s o u h → wpAny (model prog w) A (execs body env) Q E st) : wpAny (model prog w) A (execs body env) Q E st := go (mk turnMark)
theorem map_put {m : Str → Option Value} {k : Str} {v : Option Value} (e : m k = v) (z : Str) : (if z = k then v else m z) = m z := by
  split
  · next q => rw [q, e]
  · rfl
theorem ptMap_eq (hy : m (Str.ofString "y") = some (.int y ty)) (hx : m (Str.ofString "x") = some (.int x tx)) (hD : m (Str.ofString "points") = some (.ref D)) (hs : m (Str.ofString "steps") = some (.int s ts)) (ho : m (Str.ofString "over") = some (.int o to))
    (hu : m (Str.ofString "up") = some (.int u tu)) (hh : m (Str.ofString "high") = some (.int h th)) : PtMap x tx y ty D s o u h ts to tu th m = m := by
  funext z
  show (if z = _ then _ else if z = _ then _ else if z = _ then _ else if z = _ then _ else if z = _ then _ else if z = _ then _ else if z = _ then _ else m z) = m z
  rw [map_put hh, map_put hu, map_put ho, map_put hs, map_put hD, map_put hx, map_put hy]
theorem turn_use (T : TurnSpec prog w A body env h₀ L s o u h) (F : Fr h₀ L st.heap m) (N : News h₀ L st.heap led)
    (hy : m (Str.ofString "y") = some (.int y ty)) (hx : m (Str.ofString "x") = some (.int x tx)) (hD : m (Str.ofString "points") = some (.ref D)) (hs : m (Str.ofString "steps") = some (.int s ts)) (ho : m (Str.ofString "over") = some (.int o to))
    (hu : m (Str.ofString "up") = some (.int u tu)) (hh : m (Str.ofString "high") = some (.int h th)) (U : UpdF D (listOf its n) led g) (hz : its.size ≤ 8)
    (no : ¬ PtC s o u h x y → ∀ h' tk' te tn, Fr h₀ L h' (fun z => if z = Str.ofString "north" then some (.int (s * y - h * u) tn) else if z = Str.ofString "east" then some (.int (s * x - h * o) te) else m z) → News h₀ L h' led → Q .next { st with heap := h', toks := tk' })
    (yes : PtC s o u h x y → ∀ h' tk' te tn T t1 t2, Fr h₀ L h' (fun z => if z = Str.ofString "north" then some (.int (s * y - h * u) tn) else if z = Str.ofString "east" then some (.int (s * x - h * o) te) else m z) →
      News h₀ L h' ((T, tup2 x y t1 t2) :: g (listOf (its.push (.ref T)) (n + 1))) → (∀ p ∈ led, @Ne Nat p.1 T) → Q .next { st with heap := h', toks := tk' }) :
    wpAny (model prog w) A (execs body env) Q E st := by
  obtain ⟨pre, post, rfl, hg, h1, h2⟩ := U.split
  have em := ptMap_eq hy hx hD hs ho hu hh
  rw [← em] at F
  have out : ∀ {h' : Heap} {ob : Obj}, News h₀ L h' ((D, ob) :: (pre ++ post)) → News h₀ L h' (pre ++ (D, ob) :: post) := fun N p hp => by
    rcases List.mem_append.mp hp with hp | hp
    · exact N p (List.mem_cons_of_mem _ (List.mem_append_left _ hp))
    · rcases List.mem_cons.mp hp with rfl | hp
      · exact N _ List.mem_cons_self
      · exact N p (List.mem_cons_of_mem _ (List.mem_append_right _ hp))
  refine T x y tx ty ts to tu th D its n (pre ++ post) m st Q E hz (fun p hp b hb => ?_) F (fun p hp => ?_) ⟨fun hC h' tk' te tn F' N' => ?_⟩ ⟨fun hC h' tk' te tn T t1 t2 F' N' hlt => ?_⟩
  · rw [List.mem_singleton.mp hb]
    rcases List.mem_append.mp hp with hp | hp
    · exact h1 p hp
    · exact h2 p hp
  · rcases List.mem_cons.mp hp with rfl | hp
    · exact N _ (List.mem_append_right _ List.mem_cons_self)
    · rcases List.mem_append.mp hp with hp | hp
      · exact N p (List.mem_append_left _ hp)
      · exact N p (List.mem_append_right _ (List.mem_cons_of_mem _ hp))
  · rw [em] at F'
    exact no hC h' tk' te tn F' (out N')
  · rw [em] at F'
    refine yes hC h' tk' te tn T t1 t2 F' (fun p hp => ?_) (fun p hp => ?_)
    · rw [hg] at hp
      rcases List.mem_cons.mp hp with rfl | hp
      · exact N' _ List.mem_cons_self
      · exact out (fun q hq => N' q (List.mem_cons_of_mem _ hq)) p hp
    · rcases List.mem_append.mp hp with hp | hp
      · exact Nat.ne_of_lt (kst_ltOf hlt.2 p (List.mem_append_left _ hp))
      · rcases List.mem_cons.mp hp with rfl | hp
        · exact Nat.ne_of_lt hlt.1
        · exact Nat.ne_of_lt (kst_ltOf hlt.2 p (List.mem_append_right _ hp))
end

local macro_rules | `(tactic| size_fits) => `(tactic| (rw [PySem.sizeLine_eq]; omega))
local macro_rules | `(tactic| walk_at $s:str) => `(tactic| k_extra $s)
theorem points_fun (w : World) (mg mb mean) (h s o u : Int) (t1 t2 t3 t4 : Tok) (h0 : 1 ≤ h) (h1 : h < s) (h2 : s ≤ 13) :
    FunG 3 w mg mb mean 84 [.int h t1, .int s t2, .int o t3, .int u t4] (RetPts h s o u) := by
  k_with_none
  k_with "call ref" => ((with_reducible show wpAny _ _ (call (Value.ref 49) _) _ _ _); k_dflt (refine fun_use (ist_fun _ _ _ _ _ _) (by k_asm) (by k_asm) (by k_asm) (by k_asm) (by k_asm) (by k_asm) (by first | exact rfl | assumption) (by ktr_room) (by ktr_units) ?_); intro t9 h9 tk9 F9 N9; (try dsimp only); (try k_fold))
  k_with "call ref" => ((with_reducible show wpAny _ _ (call (Value.ref 56) _) _ _ _); k_dflt (refine fun_use (isn_fun _ _ _ _ _ _) (by k_asm) (by k_asm) (by k_asm) (by k_asm) (by k_asm) (by k_asm) (by first | exact rfl | assumption) (by ktr_room) (by ktr_units) ?_); intro t9 h9 tk9 F9 N9; (try dsimp only); (try k_fold))
  k_with "UnrEndW" => k_dflt ktu_end
  k_with "execs cons" => k_dflt (k_extra "turn")
  unfold FunG
  k_fill
  w_top off
  intro dp un gd cn cs a ccd cl outer A₀ base h₀ L m news s' Q E B F KX N T GL hk hd hu hret
  have hN := Keep.mk N
  have q1 : s * ((h * o).fdiv s + 1) = s * (h * o).fdiv s + s := by rw [Int.mul_add, Int.mul_one]
  have r1 : s * ((h * u).fdiv s + 1) = s * (h * u).fdiv s + s := by rw [Int.mul_add, Int.mul_one]
  have hs : 0 < s := by omega
  have q0 : s * (h * o).fdiv s ≤ h * o := by rw [Int.fdiv_eq_ediv_of_nonneg _ (by omega)]; exact Int.mul_ediv_self_le (by omega)
  have q2 : h * o < s * (h * o).fdiv s + s := by rw [Int.fdiv_eq_ediv_of_nonneg _ (by omega)]; exact Int.lt_mul_ediv_self_add hs
  have r0 : s * (h * u).fdiv s ≤ h * u := by rw [Int.fdiv_eq_ediv_of_nonneg _ (by omega)]; exact Int.mul_ediv_self_le (by omega)
  have r2 : h * u < s * (h * u).fdiv s + s := by rw [Int.fdiv_eq_ediv_of_nonneg _ (by omega)]; exact Int.lt_mul_ediv_self_add hs
  have hR := Keep.mk hret
  clear hret
  k_with "turn" => ((with_reducible show wpAny _ _ (execs (Stmt.Assign [Expr.Name (Str.ofString "east") _] _ _ :: _) _) _ _ _); first
    | ((with_reducible rename TurnSpec _ _ _ _ _ _ _ _ _ _ _ => T9); refine turn_use T9 (by k_asm) (by k_asm) (by with_unfolding_all rfl) (by with_unfolding_all rfl) (by with_unfolding_all rfl) (by with_unfolding_all rfl) (by with_unfolding_all rfl) (by with_unfolding_all rfl) (by with_unfolding_all rfl) (by k_updF) (Nat.le_of_ble_eq_true rfl) ?_ ?_; (all_goals intro hC9); (all_goals unfold PtC at hC9); (all_goals first | (exfalso; omega) | (intro h9 tk9 te9 tn9 T8 t8 t9 F9 N9 ne9; (try simp only [List.forall_mem_cons, List.forall_mem_nil, and_true] at ne9); (try dsimp only)) | (intro h9 tk9 te9 tn9 F9 N9; (try dsimp only))))
    | ((fail_if_success (with_reducible rename TurnMark => mk9)); refine turn_cut s o u h (by k_asm) ?cut ?go; (case' cut => (intro mk9; unfold TurnSpec; intro x9 y9 tx9 ty9 ts9 to9 tu9 th9 D9 its9 n9 kR9 v9 st9 Q9 E9 hz9 off9 F9 N9 no9 yes9)); (case' go => intro T9)))
  refine wpAny_call ?_
  k_dflt (refine' enter0 ?k1 ?k2 ?k3 ?k5 ?kA ?kF ?kK ?k6 ?k7 ?k8 ?k9 ?kB ?_ ?c2 ?c3 ?c4 ?c5; (case kA => exact rfl); (case kF => exact rfl); (case kK => first | exact rfl | assumption); (case k1 => k_asm); (case k2 => k_asm); (case k3 => k_asm); (case k5 => k_asm); (case k6 => k_is); (case k7 => k_is); (case k8 => ktr_room); (case k9 => exact BindsTo.of_eq rfl); (case c5 => decide); (case kB => exact locs rfl); (case c2 => exact rfl); (case c3 => exact rfl); (case c4 => exact rfl); k_whole; intro L' h' FG' F' N' B' X' T'; (try dsimp only); (try k_lift B'); (try k_fold))
  clear N
  k_steps
  all_goals (have fo := fl_cases (P := h * o) hs; have fu := fl_cases (P := h * u) hs; rw [← Int.neg_mul] at fo fu)
  all_goals first
    | (refine no9.out ?_ _ _ _ _ (by assumption) (by assumption); unfold PtC; omega)
    | (refine yes9.out ?_ _ _ _ _ _ _ _ (by assumption) (by assumption) (by assumption); unfold PtC; omega)
    | (refine pt_no hR.out hN (by assumption) (by assumption) (by assumption) (by assumption) (by k_mem) ?_; rcases fo with ⟨a1, a2, a3⟩ | ⟨a1, a2, a3⟩ <;> rcases fu with ⟨b1, b2, b3⟩ | ⟨b1, b2, b3⟩ <;> rw [a2, b2] <;> omega)
    | (refine pt_yes hR.out hN (by assumption) (by assumption) (by assumption) (by assumption) (by k_mem) (by k_mem) ?_ ?_ ?_ <;> rcases fo with ⟨a1, a2, a3⟩ | ⟨a1, a2, a3⟩ <;> rcases fu with ⟨b1, b2, b3⟩ | ⟨b1, b2, b3⟩ <;> first | omega | (rw [a2, b2]; omega))
end Mine

end
section
set_option Elab.async false
set_option maxRecDepth 100000
set_option maxHeartbeats 1000000
namespace Mine
open PySem PySem.W PyProof.Rows PySem.Calls

def tri (s r : Int) : Int := if r < 0 then 0 else (r.fdiv s + 1) * (r.fdiv s + 2) / 2
theorem tri_neg {s r : Int} (h : ¬ 0 ≤ r) : tri s r = 0 := if_pos (by omega)
theorem tri_step {s r : Int} (hs : 0 < s) (h : 0 ≤ r) : tri s r = r.fdiv s + 1 + tri s (r - s) := by
  unfold tri
  rw [if_neg (by omega)]
  rw [Int.fdiv_eq_ediv_of_nonneg _ (by omega), Int.fdiv_eq_ediv_of_nonneg _ (by omega)]
  have e : (r - s) / s = r / s - 1 := by
    have := Int.add_mul_ediv_right r (-1) (show s ≠ 0 by omega)
    rw [Int.neg_mul, Int.one_mul, ← Int.sub_eq_add_neg] at this
    rw [this]; omega
  rw [e]
  have hk : 0 ≤ r / s := Int.ediv_nonneg h (by omega)
  split
  · rename_i h1
    have : r / s = 0 := Int.ediv_eq_zero_of_lt h (by omega)
    rw [this]; decide
  · generalize r / s = k at *
    have e2 : (k + 1) * (k + 2) = (k + 1) * 2 + (k - 1 + 1) * (k - 1 + 2) := by
      rw [show k - 1 + 1 = k by omega, show k - 1 + 2 = k + 1 by omega, Int.mul_comm k, ← Int.mul_add]
      congr 1; omega
    rw [e2, Int.add_comm ((k + 1) * 2), Int.add_mul_ediv_right _ _ (by decide)]
    omega
def roomOf (s o u high : Int) : Int := 3 * s - high - (-high * o).fmod s - (-high * u).fmod s
def thrSum (s o u : Int) (pre : List Int) : Int := (pre.map fun high => tri s (roomOf s o u high)).sum
theorem thrSum_nil (s o u : Int) : thrSum s o u [] = 0 := rfl
theorem thrSum_snoc (s o u : Int) (pre : List Int) (k : Int) : thrSum s o u (pre ++ [k]) = thrSum s o u pre + tri s (3 * s - k - (-k * o).fmod s - (-k * u).fmod s) := by
  unfold thrSum; rw [List.map_append, List.sum_append]; simp [roomOf]

theorem inner_step {s c r X : Int} (hs : 2 ≤ s) (h : 0 ≤ r) (e : c + tri s r = X) : c + (r.fdiv s + 1) + tri s (r - s) = X := by
  rw [tri_step (by omega) h] at e; omega
theorem outer_step {s o u c c' r k : Int} {pre : List Int} (e0 : c = thrSum s o u pre) (e : c' + tri s r = c + tri s (3 * s - k - (-k * o).fmod s - (-k * u).fmod s)) (h : ¬ 0 ≤ r) : c' = thrSum s o u (pre ++ [k]) := by
  rw [thrSum_snoc, ← e0, ← e, tri_neg h]; omega

local macro_rules | `(tactic| walk_at $s:str) => `(tactic| k_extra $s)
theorem thrice_fun (w : World) (mg mb mean) (s o u : Int) (t1 t2 t3 : Tok) (h0 : 2 ≤ s) (h1 : s ≤ 13) :
    Fun 3 w mg mb mean 91 [.int s t1, .int o t2, .int u t3] (fun t => .int (thrSum s o u (rangeKs 0 (3 * s + 1).toNat)) t) := by
  k_with_none
  k_with "pyIter ref" => k_dflt (k_extra "mine")
  unfold Fun
  k_fill
  w_top off
  intro dp un gd cn cs a ccd cl outer A₀ base h₀ L m news s' Q E B F KX N T GL hk hd hu hret
  refine wpAny_call ?_
  k_dflt cell_enter
  k_with "mine" => k_state (fun pre count => count = thrSum s o u pre) "count"
  k_with "exec While Compare cons nil" => k_while_given ["steps", "count!", "room!"] (fun (steps c0 r0 : Int) script room count => count + tri steps room = c0 + tri steps r0) (fun (steps c0 r0 : Int) script room count => (room + s).toNat) "room" "count"
  k_with "state" => first | exact inner_step h0 (by assumption) (by assumption) | exact outer_step (by assumption) (by assumption) (by assumption) | exact thrSum_nil _ _ _
  k_steps
  all_goals (refine retI (s := s') hret ?_ (by assumption) (by assumption))
  all_goals (rename _ = thrSum _ _ _ _ => hx; rw [hx, Int.sub_zero])
end Mine

end
section
set_option Elab.async false
set_option maxRecDepth 100000
set_option maxHeartbeats 1000000
namespace Mine
open PySem PySem.W PyProof.Rows PySem.Calls

def apW (n : Nat) : List Int := if h : n = 0 then [] else apW (n / 16) ++ [65 + ((n % 16 : Nat) : Int)]
termination_by n
decreasing_by exact Nat.div_lt_self (Nat.pos_of_ne_zero h) (by decide)
theorem apW_zero : apW 0 = [] := by rw [apW]; rfl
theorem apW_pos {n : Nat} (h : n ≠ 0) : apW n = apW (n / 16) ++ [65 + ((n % 16 : Nat) : Int)] := by rw [apW, dif_neg h]

theorem ap_start {n : Int} (h0 : 0 ≤ n) : 0 ≤ (if -n < 0 then - -n else -n) ∧ (KBw.bInts #[]).length ≤ 13 ∧ apW (if -n < 0 then - -n else -n).toNat ++ KBw.bInts #[] = apW n.toNat := by
  have e : (if -n < 0 then - -n else -n) = n := by split <;> omega
  rw [e]
  exact ⟨h0, by decide, by simp [KBw.bInts]⟩

def letters : List Int := [65, 66, 67, 68, 69, 70, 71, 72, 73, 74, 75, 76, 77, 78, 79, 80]
theorem letters_all : ∀ i : Nat, i < 16 → (letters.drop ((some (i : Int)).elim 0 (clipAt letters.length))).take ((some ((i : Int) + 1)).elim letters.length (clipAt letters.length) - (some (i : Int)).elim 0 (clipAt letters.length)) = [65 + (i : Int)] := by decide +kernel
theorem letters_cut {i : Int} (h0 : 0 ≤ i) (h1 : i < 16) : (letters.drop ((some i).elim 0 (clipAt letters.length))).take ((some (i + 1)).elim letters.length (clipAt letters.length) - (some i).elim 0 (clipAt letters.length)) = [65 + i] := by
  obtain ⟨n, rfl⟩ := Int.eq_ofNat_of_zero_le h0
  have hn : n < 16 := by omega
  exact letters_all n hn
theorem ap_slice {prog : Program} {w : World} {A : Around} {E : Value → Shared → Prop} {s : Shared} {value slice : PySem.Expr} {t u u' : Tok} {h₀ : Heap} {L : Addr} {m : Str → Option Value} {news : List (Addr × Obj)} {i : Int} {Q : Value → Shared → Prop}
    (hF : Fr h₀ L s.heap m) (hN : News h₀ L s.heap news) (h0 : 0 ≤ i) (h1 : i < 16)
    (h : ∀ (v : Array UInt8) h' t' k, Fr h₀ L h' m → News h₀ L h' news → KBw.bInts v = [65 + i] → Q (.bytes v t') { s with heap := h', toks := k })
    (hs : subscripted slice false (.bytes #[65, 66, 67, 68, 69, 70, 71, 72, 73, 74, 75, 76, 77, 78, 79, 80] t) (.ref s.heap.objs.size) = operate [.ref s.heap.objs.size, .bytes #[65, 66, 67, 68, 69, 70, 71, 72, 73, 74, 75, 76, 77, 78, 79, 80] t] (getItem (.bytes #[65, 66, 67, 68, 69, 70, 71, 72, 73, 74, 75, 76, 77, 78, 79, 80] t) (.ref s.heap.objs.size)) := by with_unfolding_all rfl)
    (ht : ∀ r, letTemporaryGo value (.bytes #[65, 66, 67, 68, 69, 70, 71, 72, 73, 74, 75, 76, 77, 78, 79, 80] t) r = pure () := by intro _; with_unfolding_all rfl) :
    wpAny (model prog w) A (subscriptTail value slice (.bytes #[65, 66, 67, 68, 69, 70, 71, 72, 73, 74, 75, 76, 77, 78, 79, 80] t) (.ref s.heap.objs.size)) Q E { s with heap := s.heap.push { cls := .type "slice", data := .fields #[.int i u, .int (i + 1) u', .none] } } :=
  KBc.slice_K (ks := letters) hF hN (by decide +kernel) (lo := some i) (hi := some (i + 1)) (by constructor) (by constructor) (by decide)
    (fun h' t' k F' N' e => h _ h' t' k F' N' (e.trans (letters_cut h0 h1))) hs ht

theorem ap_turn {n num : Int} {v x : Array UInt8} (hn : (apW n.toNat).length ≤ 13) (h0 : 0 ≤ num) (hne : num ≠ 0) (r : apW num.toNat ++ KBw.bInts v = apW n.toNat) (e : KBw.bInts x = [65 + num.fmod 16] ++ KBw.bInts v) :
    0 ≤ num.fdiv 16 ∧ (KBw.bInts x).length ≤ 13 ∧ apW (num.fdiv 16).toNat ++ KBw.bInts x = apW n.toNat := by
  rw [Int.fmod_eq_emod_of_nonneg _ (by decide)] at e
  rw [Int.fdiv_eq_ediv_of_nonneg _ (by decide)]
  have e1 : num.toNat / 16 = (num / 16).toNat := by omega
  have e2 : ((num.toNat % 16 : Nat) : Int) = num % 16 := by omega
  have h3 : apW (num / 16).toNat ++ KBw.bInts x = apW n.toNat := by
    rw [e, ← List.append_assoc, ← r, apW_pos (n := num.toNat) (by omega), e1, e2]
  refine ⟨by omega, ?_, h3⟩
  have := congrArg List.length h3
  rw [List.length_append] at this
  omega

theorem ap_meas {num : Int} (h0 : 0 ≤ num) (hne : num ≠ 0) : (num.fdiv 16).toNat < num.toNat := by
  rw [Int.fdiv_eq_ediv_of_nonneg _ (by decide)]; omega

local macro_rules | `(tactic| kba_ints) => `(tactic| exact rfl)

local macro_rules | `(tactic| walk_at $s:str) => `(tactic| k_extra $s)
theorem ap_fun (w : World) (mg mb mean) (n : Int) (t1 : Tok) (h0 : 0 ≤ n) (hl : (apW n.toNat).length ≤ 13) :
    FunG 3 w mg mb mean 42 [.int (-n) t1] (fun h₀ L m news s Q => ∀ v t h' tk', KBw.bInts v = apW n.toNat → Fr h₀ L h' m → News h₀ L h' news → Q (.bytes v t) { s with heap := h', toks := tk' }) := by
  k_with_none
  k_with "subscriptTail" => ((with_reducible show wpAny _ _ (subscriptTail _ (PySem.Expr.Slice _ _ none _) (Value.bytes _ _) (Value.ref _)) _ _ _); (with_reducible rename Fr _ _ _ _ => F'); (with_reducible rename News _ _ _ _ => N'); k_dflt (refine ap_slice (s := ⟨_, _, _, _, _⟩) F' N' (by first | omega | (rw [Int.fmod_eq_emod_of_nonneg _ (by decide)]; omega)) (by first | omega | (rw [Int.fmod_eq_emod_of_nonneg _ (by decide)]; omega)) ?_); intro v9 h9 t9 k9 F9 N9 e9; (try dsimp only))
  k_with "binaryOp Add bytes bytes" => (k_dflt (refine KBa.add_K (by assumption) rfl (by simp only [List.length_cons, List.length_nil]; omega) ?_); intro t9 k9 a9)
  k_with "exec While" => k_dflt (k_extra "mine")
  unfold FunG
  k_fill
  w_top off
  intro dp un gd cn cs a ccd cl outer A₀ base h₀ L m news s' Q E B F KX N T GL hk hd hu hret
  refine wpAny_call ?_
  k_dflt cell_enter
  k_with "mine" => k_while (fun script num val => 0 ≤ num ∧ (KBw.bInts val).length ≤ 13 ∧ apW num.toNat ++ KBw.bInts val = apW n.toNat) (fun script num val => num.toNat) "num" "val"
  k_with "state" => first | exact ap_start h0 | exact ap_turn hl (by assumption) (by first | assumption | omega) (by assumption) (by assumption)
  k_with "measure" => exact ap_meas (by assumption) (by assumption)
  k_steps
  all_goals (refine hret _ _ _ _ ?_ (by assumption) (by assumption))
  all_goals (rename apW _ ++ _ = _ => r9; rename (_ : Int) = 0 => z9; rw [z9] at r9; exact (List.nil_append _).symm.trans ((congrArg (· ++ _) apW_zero.symm).trans r9))
end Mine

end
section
set_option Elab.async false
set_option maxRecDepth 100000
set_option maxHeartbeats 1000000
namespace Mine
open PySem PySem.W PyProof.Rows PySem.Calls


structure TF (s o u : Int) : Prop where
  s0 : 2 ≤ s
  s1 : s ≤ 13
  o0 : -50 ≤ o
  o1 : o ≤ 50
  u0 : -89 ≤ u
  u1 : u ≤ 89
  x0 : -101 ≤ o + u - 1
  x1 : o + u - 1 ≤ 101
theorem mulb {S k : Int} (h0 : 2 ≤ S) (h1 : S ≤ 13) (k0 : -3 ≤ k) (k1 : k ≤ 3) : -39 ≤ S * k ∧ S * k ≤ 39 := by
  have : k = -3 ∨ k = -2 ∨ k = -1 ∨ k = 0 ∨ k = 1 ∨ k = 2 ∨ k = 3 := by omega
  rcases this with rfl | rfl | rfl | rfl | rfl | rfl | rfl <;> omega
theorem fm {a m : Int} (hm : 0 < m) : 0 ≤ a.fmod m ∧ a.fmod m < m := by
  rw [Int.fmod_eq_emod_of_nonneg _ (by omega)]
  exact ⟨Int.emod_nonneg _ (by omega), Int.emod_lt_of_pos _ hm⟩
section
variable {x y z : Int}
theorem tf0 : TF (2 + x.fmod 12) (y.fmod 101 - 50) (z.fmod 101 - 50) := by
  have h1 := fm (a := x) (m := 12) (by decide)
  have h2 := fm (a := y) (m := 101) (by decide)
  have h3 := fm (a := z) (m := 101) (by decide)
  constructor <;> omega
theorem tf1 : TF (2 + x.fmod 12) (1 + (2 + x.fmod 12) * ((y.fmod 101 - 50).fmod 7 - 3)) (z.fmod 101 - 50) := by
  have h1 := fm (a := x) (m := 12) (by decide)
  have h2 := fm (a := y.fmod 101 - 50) (m := 7) (by decide)
  have h3 := fm (a := z) (m := 101) (by decide)
  have h4 := mulb (S := 2 + x.fmod 12) (k := (y.fmod 101 - 50).fmod 7 - 3) (by omega) (by omega) (by omega) (by omega)
  constructor <;> omega
theorem tf2 : TF (2 + x.fmod 12) (y.fmod 101 - 50) (1 + (2 + x.fmod 12) * ((z.fmod 101 - 50).fmod 7 - 3)) := by
  have h1 := fm (a := x) (m := 12) (by decide)
  have h2 := fm (a := z.fmod 101 - 50) (m := 7) (by decide)
  have h3 := fm (a := y) (m := 101) (by decide)
  have h4 := mulb (S := 2 + x.fmod 12) (k := (z.fmod 101 - 50).fmod 7 - 3) (by omega) (by omega) (by omega) (by omega)
  constructor <;> omega
theorem tf3 : TF (2 + x.fmod 12) (y.fmod 101 - 50) ((2 + x.fmod 12) * ((z.fmod 101 - 50).fmod 7 - 3) - (y.fmod 101 - 50)) := by
  have h1 := fm (a := x) (m := 12) (by decide)
  have h2 := fm (a := z.fmod 101 - 50) (m := 7) (by decide)
  have h3 := fm (a := y) (m := 101) (by decide)
  have h4 := mulb (S := 2 + x.fmod 12) (k := (z.fmod 101 - 50).fmod 7 - 3) (by omega) (by omega) (by omega) (by omega)
  constructor <;> omega
end
abbrev tup3 (x y z : Int) (t u v : Tok) : Obj := { cls := Value.type "tuple", data := Data.seq #[Value.int x t, Value.int y u, Value.int z v] }
abbrev RetTet (l : Addr) (d0 d1 d2 : Int) (a0 a1 a2 : Tok) (h₀ : Heap) (L : Addr) (m : Str → Option Value) (news : List (Addr × Obj)) (st : Shared) (Q : Value → Shared → Prop) : Prop :=
  st.heap.IsList l [Value.int d0 a0, .int d1 a1, .int d2 a2].toArray ∧
  ∀ D s o u t1 t2 t3 h' tk', TF s o u → (∀ p ∈ news, p.1 ≠ D) → Fr h₀ L h' m → News h₀ L h' ((D, tup3 s o u t1 t2 t3) :: news) → Q (.ref D) { st with heap := h', toks := tk' }
theorem te_end {l : Addr} {d0 d1 d2 : Int} {a0 a1 a2 : Tok} {h₀ : Heap} {L L' : Addr} {m m' : Str → Option Value} {news own : List (Addr × Obj)} {st : Shared} {Q : Value → Shared → Prop} {h' : Heap} {tk' : Nat}
    (ret : RetTet l d0 d1 d2 a0 a1 a2 h₀ L m news st Q) (N : Keep (News h₀ L st.heap news)) (F' : Fr st.heap L' h' m') (N' : News st.heap L' h' own) (kF : Fr h₀ L h' m) (kN : News h₀ L h' own)
    {D : Addr} {s o u : Int} {t1 t2 t3 : Tok} (mD : (D, tup3 s o u t1 t2 t3) ∈ own) (f : TF s o u) : Q (.ref D) { st with heap := h', toks := tk' } :=
  ret.2 D s o u t1 t2 t3 h' tk' f (fun p hp => ne_back N.out N' _ mD p hp) kF fun q hq => by
    rcases List.mem_cons.mp hq with rfl | hq
    · exact kN _ mD
    · exact news_kept N.out F' q hq

local macro_rules | `(tactic| walk_at $s:str) => `(tactic| k_extra $s)
theorem tetra_fun (w : World) (mg mb mean) (d0 d1 d2 : Int) (l : Addr) (a0 a1 a2 : Tok) :
    FunG 3 w mg mb mean 70 [.ref l] (RetTet l d0 d1 d2 a0 a1 a2) := by
  k_with_none
  unfold FunG
  k_fill
  w_top off
  intro dp un gd cn cs a ccd cl outer A₀ base h₀ L m news s' Q E B F KX N T GL hk hd hu hret
  have hN := Keep.mk N
  have hL := hret.1
  have hR := Keep.mk hret
  clear hret
  have hI : IntsAre [Value.int d0 a0, .int d1 a1, .int d2 a2] [d0, d1, d2] := by repeat constructor
  refine wpAny_call ?_
  k_dflt (refine' enter0 ?k1 ?k2 ?k3 ?k5 ?kA ?kF ?kK ?k6 ?k7 ?k8 ?k9 ?kB ?_ ?c2 ?c3 ?c4 ?c5; (case kA => exact rfl); (case kF => exact rfl); (case kK => first | exact rfl | assumption); (case k1 => k_asm); (case k2 => k_asm); (case k3 => k_asm); (case k5 => k_asm); (case k6 => k_is); (case k7 => k_is); (case k8 => ktr_room); (case k9 => exact BindsTo.of_eq rfl); (case c5 => decide); (case kB => exact locs rfl); (case c2 => exact rfl); (case c3 => exact rfl); (case c4 => exact rfl); k_whole; intro L' h' FG' F' N' B' X' T'; (try dsimp only); (try k_lift B'); (try k_fold))
  clear N
  k_steps
  all_goals first
    | (exfalso; omega)
    | (refine te_end hR.out hN (by assumption) (by assumption) (by assumption) (by assumption) (by k_mem) ?_; first | exact tf0 | exact tf1 | exact tf2 | exact tf3)
end Mine

end
section
set_option Elab.async false
set_option maxRecDepth 100000
set_option maxHeartbeats 1000000
namespace Mine
open PySem PySem.W PyProof.Rows PySem.Calls
/-! the law's own numbers -/
def turnsF (s o u h : Int) : Int := ((-h * o) % s + (-h * u) % s + (h * (o + u - 1)) % s + h).fdiv s
def numF (s o u : Int) (pre : List Int) : Int := (pre.map fun h => turnsF s o u h * 16 ^ h.toNat).sum
def zerosF (s o u h : Int) : Int := (if (-h * o) % s = 0 then 1 else 0) + (if (-h * u) % s = 0 then 1 else 0) + (if (h * (o + u - 1)) % s = 0 then 1 else 0)
def nouF (s o u : Int) (pre : List Int) : List Int := pre.map (zerosF s o u)
def hts (s : Int) : List Int := rangeKs 1 (s - 1).toNat
def cntF (w : List Int) (k : Int) : Int := ((w.filter fun x => decide (x = 65 + k)).length : Nat)
/-! the same in natural numbers, for the kernel -/
def fN (s a h : Nat) : Nat := (s - h * a % s) % s
def lN (s a b h : Nat) : Nat := h * (a + b + s - 1) % s
def tN (s a b h : Nat) : Nat := (fN s a h + fN s b h + lN s a b h + h) / s
def zN (s a b h : Nat) : Nat := (if fN s a h = 0 then 1 else 0) + (if fN s b h = 0 then 1 else 0) + (if lN s a b h = 0 then 1 else 0)
theorem f_nat {s a h : Nat} (hs : 0 < s) : (-(h : Int) * (a : Int)) % (s : Int) = ((fN s a h : Nat) : Int) := by
  have e : ((s - h * a % s : Nat) : Int) = (s : Int) - ((h * a % s : Nat) : Int) := by have := Nat.mod_lt (h * a) hs; omega
  unfold fN
  rw [Int.natCast_emod, e, Int.natCast_emod, Int.natCast_mul, Int.neg_mul, Int.emod_def ((h : Int) * a)]
  rw [show (s : Int) - ((h : Int) * a - s * ((h : Int) * a / s)) = -((h : Int) * a) + s * ((h : Int) * a / s + 1) by rw [Int.mul_add]; omega, Int.add_mul_emod_self_left]
theorem l_nat {s a b h : Nat} (hs : 0 < s) : ((h : Int) * ((a : Int) + b - 1)) % (s : Int) = ((lN s a b h : Nat) : Int) := by
  have e : ((a + b + s - 1 : Nat) : Int) = ((a : Int) + b - 1) + s := by omega
  unfold lN
  rw [Int.natCast_emod, Int.natCast_mul, e, Int.mul_add, Int.mul_comm (h : Int) s, Int.add_mul_emod_self_left]
theorem t_nat {s a b h : Nat} (hs : 0 < s) : turnsF s a b h = ((tN s a b h : Nat) : Int) := by
  unfold turnsF tN
  rw [f_nat hs, f_nat hs, l_nat hs, Int.fdiv_eq_ediv_of_nonneg _ (by omega)]
  norm_cast
theorem z_nat {s a b h : Nat} (hs : 0 < s) : zerosF s a b h = ((zN s a b h : Nat) : Int) := by
  unfold zerosF zN
  rw [f_nat hs, f_nat hs, l_nat hs]
  have k : ∀ n : Nat, (if ((n : Nat) : Int) = 0 then (1 : Int) else 0) = ((if n = 0 then 1 else 0 : Nat) : Int) := fun n => by
    cases n with
    | zero => rfl
    | succ n => rw [if_neg (by omega), if_neg (by omega)]; rfl
  rw [k, k, k]
  norm_cast
/-! digits -/
def valN : List Nat → Nat
  | [] => 0
  | t :: r => t + 16 * valN r
theorem valN_snoc (t : Nat) : ∀ l : List Nat, valN (l ++ [t]) = valN l + t * 16 ^ l.length
  | [] => by simp [valN]
  | x :: r => by
    show x + 16 * valN (r ++ [t]) = x + 16 * valN r + t * 16 ^ (r.length + 1)
    rw [valN_snoc t r, Nat.pow_succ, Nat.mul_add, ← Nat.mul_assoc t, Nat.mul_comm 16 (t * _)]
    omega
theorem valN_pos {t : Nat} (ht : 0 < t) (l : List Nat) : 0 < valN (l ++ [t]) := by
  rw [valN_snoc]
  have := Nat.mul_pos ht (Nat.pow_pos (n := l.length) (show 0 < 16 by decide))
  omega
theorem apW_val {t : Nat} (ht : 0 < t) (h16 : t < 16) : ∀ l : List Nat, (∀ x ∈ l, x < 16) → apW (valN (l ++ [t])) = (l ++ [t]).reverse.map fun x => 65 + ((x : Nat) : Int)
  | [], _ => by
    have e : valN ([] ++ [t]) = t := by simp [valN]
    rw [e, apW_pos (by omega), Nat.div_eq_of_lt h16, apW_zero, Nat.mod_eq_of_lt h16]
    rfl
  | x :: r, h => by
    have hp := valN_pos ht r
    have hx := h x List.mem_cons_self
    have e : valN (x :: r ++ [t]) = x + 16 * valN (r ++ [t]) := rfl
    rw [e, apW_pos (by omega), Nat.add_mul_div_left _ _ (by decide), Nat.div_eq_of_lt hx, Nat.zero_add, Nat.add_mul_mod_self_left, Nat.mod_eq_of_lt hx, apW_val ht h16 r fun y hy => h y (List.mem_cons_of_mem _ hy)]
    simp
theorem rangeKs_succ (a : Int) (n : Nat) : rangeKs a (n + 1) = rangeKs a n ++ [a + (n : Int)] := by
  unfold rangeKs
  rw [List.range_succ, List.map_append]; rfl
def tsN (s a b n : Nat) : List Nat := (List.range n).map fun i => tN s a b (1 + i)
theorem tsN_succ (s a b n : Nat) : tsN s a b (n + 1) = tsN s a b n ++ [tN s a b (1 + n)] := by
  unfold tsN
  rw [List.range_succ, List.map_append]; rfl
theorem num_nat {s a b : Nat} (hs : 0 < s) : ∀ n : Nat, numF s a b (rangeKs 1 n) = ((16 * valN (tsN s a b n) : Nat) : Int)
  | 0 => rfl
  | n + 1 => by
    have ih := num_nat (a := a) (b := b) hs n
    unfold numF at *
    rw [rangeKs_succ, List.map_append, List.sum_append, ih, tsN_succ, valN_snoc]
    have e1 : (1 : Int) + (n : Int) = ((1 + n : Nat) : Int) := by omega
    have e2 : (tsN s a b n).length = n := by simp [tsN]
    simp only [List.map_cons, List.map_nil, List.sum_cons, List.sum_nil, Int.add_zero]
    rw [e1, t_nat hs, Int.toNat_natCast, e2, Nat.mul_add, Int.natCast_add]
    congr 1
    rw [show 16 * (tN s a b (1 + n) * 16 ^ n) = tN s a b (1 + n) * 16 ^ (1 + n) by rw [Nat.add_comm 1 n, Nat.pow_succ, Nat.mul_left_comm, Nat.mul_comm 16 (16 ^ n)]]
    norm_cast
structure Checked (s o u : Int) (w : List Int) : Prop where
  len : w.length = s.toNat
  pair : ∀ h ∈ hts s, w.getD (s - 1 - h).toNat 0 + w.getD (h - 1).toNat 0 - 130 + (nouF s o u (hts s)).getD (h - 1).toNat 0 = 4
  thr : thrSum s o u (rangeKs 0 (3 * s + 1).toNat) = 20 + 10 * cntF w 1 + 4 * cntF w 2 + cntF w 3
  white : cntF w 1 = 0 ↔ ((nouF s o u (hts s)).sum = 0 ∧ ((o - 1) % s = 0 ∨ (u - 1) % s = 0 ∨ (o + u) % s = 0))
/-! one height -/
theorem height_sum {s o u h : Int} : ((-h * o) % s + (-h * u) % s + (h * (o + u - 1)) % s + h) % s = 0 := by
  have e : -h * o + -h * u + h * (o + u - 1) + h = 0 := by
    rw [Int.mul_sub, Int.mul_add, Int.neg_mul, Int.neg_mul]; omega
  have : (-h * o) % s + (-h * u) % s + (h * (o + u - 1)) % s + h = s * -((-h * o) / s + (-h * u) / s + (h * (o + u - 1)) / s) := by
    rw [Int.emod_def, Int.emod_def, Int.emod_def, Int.mul_neg, Int.mul_add, Int.mul_add]; omega
  rw [this, Int.mul_emod_right]
theorem turns_facts {s f g l h T : Int} (hs : 2 ≤ s) (h0 : 1 ≤ h) (h1 : h < s) (f0 : 0 ≤ f) (f1 : f < s) (g0 : 0 ≤ g) (g1 : g < s) (l0 : 0 ≤ l) (l1 : l < s) (e : f + g + l + h = s * T) : (1 ≤ T ∧ T ≤ 3) ∧ (T = 1 ↔ f + g + h ≤ s) := by
  have p : 0 < T := by
    apply Int.lt_of_not_ge; intro hT
    have := Int.mul_le_mul_of_nonneg_left hT (show 0 ≤ s by omega)
    omega
  have q : T < 4 := by
    apply Int.lt_of_not_ge; intro hT
    have := Int.mul_le_mul_of_nonneg_left hT (show 0 ≤ s by omega)
    omega
  have : T = 1 ∨ T = 2 ∨ T = 3 := by omega
  rcases this with rfl | rfl | rfl <;> omega
theorem turn_facts {s o u h : Int} (hs : 2 ≤ s) (h0 : 1 ≤ h) (h1 : h < s) : ((-h * o) % s + (-h * u) % s + (h * (o + u - 1)) % s + h) = s * turnsF s o u h ∧ (1 ≤ turnsF s o u h ∧ turnsF s o u h ≤ 3) ∧ (turnsF s o u h = 1 ↔ (-h * o) % s + (-h * u) % s + h ≤ s) := by
  have hp : 0 < s := by omega
  have hn : s ≠ 0 := by omega
  have e : ((-h * o) % s + (-h * u) % s + (h * (o + u - 1)) % s + h) = s * turnsF s o u h := by
    unfold turnsF
    rw [Int.fdiv_eq_ediv_of_nonneg _ (by omega), Int.mul_ediv_cancel' (Int.dvd_of_emod_eq_zero height_sum)]
  exact ⟨e, turns_facts hs h0 h1 (Int.emod_nonneg _ hn) (Int.emod_lt_of_pos _ hp) (Int.emod_nonneg _ hn) (Int.emod_lt_of_pos _ hp) (Int.emod_nonneg _ hn) (Int.emod_lt_of_pos _ hp) e⟩

/-! the check -/
theorem t_bd {s a b h : Nat} (hs : 2 ≤ s) (h0 : 1 ≤ h) (h1 : h < s) : 0 < tN s a b h ∧ tN s a b h < 16 := by
  have f := (turn_facts (s := s) (o := a) (u := b) (h := h) (by omega) (by omega) (by omega)).2.1
  rw [t_nat (by omega)] at f
  omega
def cN (d : List Nat) (k : Nat) : Nat := (d.filter fun x => x == k).length
def triN (s x : Nat) : Nat := if 3 * s < x then 0 else ((3 * s - x) / s + 1) * ((3 * s - x) / s + 2) / 2
def thrN (s a b : Nat) : Nat := ((List.range (3 * s + 1)).map fun h => triN s (h + fN s a h + fN s b h)).sum
def zsN (s a b : Nat) : Nat := ((List.range (s - 1)).map fun i => zN s a b (1 + i)).sum
def okN (s a b : Nat) : Bool :=
  ((List.range (s - 1)).all fun i => Nat.beq (tN s a b (1 + i) + tN s a b (s - 1 - i) + zN s a b (1 + i)) 4) &&
  (Nat.beq (thrN s a b) (20 + 10 * cN (0 :: tsN s a b (s - 1)) 1 + 4 * cN (0 :: tsN s a b (s - 1)) 2 + cN (0 :: tsN s a b (s - 1)) 3) &&
  (Nat.beq (cN (0 :: tsN s a b (s - 1)) 1) 0 == (Nat.beq (zsN s a b) 0 && (Nat.beq ((a + s - 1) % s) 0 || (Nat.beq ((b + s - 1) % s) 0 || Nat.beq ((a + b) % s) 0)))))
theorem cnt_nat (l : List Nat) (k : Nat) : cntF (l.reverse.map fun x => 65 + ((x : Nat) : Int)) (k : Int) = ((cN l k : Nat) : Int) := by
  unfold cntF cN
  rw [List.filter_map, List.length_map, List.filter_reverse, List.length_reverse]
  congr 3
  funext x
  simp only [Function.comp]
  by_cases e : x = k
  · subst e; simp
  · have : ¬ (65 + (x : Int) = 65 + (k : Int)) := by omega
    simp [e, this]
theorem sum_nat {α : Type} {f : α → Int} {g : α → Nat} : ∀ (l : List α), (∀ x ∈ l, f x = ((g x : Nat) : Int)) → (l.map f).sum = (((l.map g).sum : Nat) : Int)
  | [], _ => rfl
  | x :: r, h => by
    simp only [List.map_cons, List.sum_cons]
    rw [h x List.mem_cons_self, sum_nat r fun y hy => h y (List.mem_cons_of_mem _ hy)]
    norm_cast
theorem tri_nat {s x : Nat} (hs : 0 < s) {r : Int} (e : r = 3 * (s : Int) - (x : Int)) : tri s r = ((triN s x : Nat) : Int) := by
  unfold tri triN
  by_cases h : 3 * s < x
  · rw [if_pos (by omega), if_pos h]; rfl
  · rw [if_neg (by omega), if_neg h, Int.fdiv_eq_ediv_of_nonneg _ (by omega), show r = ((3 * s - x : Nat) : Int) by omega]
    norm_cast
theorem thr_nat {s a b : Nat} (hs : 0 < s) : thrSum s a b (rangeKs 0 (3 * (s : Int) + 1).toNat) = ((thrN s a b : Nat) : Int) := by
  unfold thrSum thrN rangeKs
  rw [List.map_map, show (3 * (s : Int) + 1).toNat = 3 * s + 1 by omega]
  refine sum_nat _ fun h _ => ?_
  simp only [Function.comp, Int.zero_add]
  refine tri_nat hs ?_
  unfold roomOf
  rw [Int.fmod_eq_emod_of_nonneg _ (by omega), Int.fmod_eq_emod_of_nonneg _ (by omega), f_nat hs, f_nat hs]
  omega
theorem hts_nat (s : Nat) : hts s = (List.range (s - 1)).map fun i => 1 + ((i : Nat) : Int) := by
  unfold hts rangeKs
  rw [show ((s : Int) - 1).toNat = s - 1 by omega]
theorem get_rev {l : List Nat} {n i : Nat} (hl : l.length = n) (hi : i < n) : (l.reverse.map fun x => 65 + ((x : Nat) : Int)).getD i 0 = 65 + ((l.getD (n - 1 - i) 0 : Nat) : Int) := by
  subst hl
  rw [List.getD_eq_getElem?_getD, List.getElem?_map, List.getElem?_reverse hi, List.getD_eq_getElem?_getD]
  rw [List.getElem?_eq_getElem (by omega)]
  rfl
theorem ts_get {s a b n j : Nat} (hj : j < n) : (0 :: tsN s a b n).getD (1 + j) 0 = tN s a b (1 + j) := by
  rw [Nat.add_comm 1 j, List.getD_cons_succ]
  unfold tsN
  rw [List.getD_eq_getElem?_getD, List.getElem?_map, List.getElem?_range hj, Nat.add_comm j 1]
  rfl
theorem okN_says {s a b : Nat} (hs : 2 ≤ s) (h : okN s a b = true) : 0 ≤ numF s a b (hts s) ∧ Checked s a b (apW (numF s a b (hts s)).toNat) := by
  have hp : 0 < s := by omega
  unfold okN at h
  simp only [Bool.and_eq_true, List.all_eq_true, List.mem_range, Nat.beq_eq] at h
  obtain ⟨hpair, hthr, hwh⟩ := h
  have en : numF s a b (hts s) = ((16 * valN (tsN s a b (s - 1)) : Nat) : Int) := by
    unfold hts
    rw [show ((s : Int) - 1).toNat = s - 1 by omega]
    exact num_nat hp _
  have el : (0 :: tsN s a b (s - 1)).length = s := by simp [tsN]; omega
  have ew : apW (numF s a b (hts s)).toNat = (0 :: tsN s a b (s - 1)).reverse.map fun x => 65 + ((x : Nat) : Int) := by
    rw [en, Int.toNat_natCast]
    have hv : 16 * valN (tsN s a b (s - 1)) = valN (0 :: tsN s a b (s - 1)) := by show _ = 0 + 16 * _; omega
    rw [hv]
    have e1 : s - 1 = (s - 2) + 1 := by omega
    rw [e1, tsN_succ]
    have bd := t_bd (a := a) (b := b) hs (h := 1 + (s - 2)) (by omega) (by omega)
    exact apW_val bd.1 bd.2 (0 :: tsN s a b (s - 2)) fun x hx => by
      rcases List.mem_cons.mp hx with rfl | hx
      · decide
      · obtain ⟨i, hi, rfl⟩ := List.mem_map.mp hx
        have := List.mem_range.mp hi
        exact (t_bd (a := a) (b := b) hs (h := 1 + i) (by omega) (by omega)).2
  refine ⟨by rw [en]; exact Int.natCast_nonneg _, ?_⟩
  rw [ew]
  refine ⟨?_, ?_, ?_, ?_⟩
  · rw [List.length_map, List.length_reverse, el]; rfl
  · intro k hk
    rw [hts_nat] at hk
    obtain ⟨i, hi, rfl⟩ := List.mem_map.mp hk
    have hi := List.mem_range.mp hi
    rw [show ((s : Int) - 1 - (1 + (i : Int))).toNat = s - 2 - i by omega, show (1 + (i : Int) - 1).toNat = i by omega]
    rw [get_rev el (by omega), get_rev el (by omega)]
    rw [show s - 1 - (s - 2 - i) = 1 + i by omega, show s - 1 - i = 1 + (s - 2 - i) by omega, ts_get (by omega), ts_get (by omega)]
    have hz : (nouF s a b (hts s)).getD i 0 = ((zN s a b (1 + i) : Nat) : Int) := by
      unfold nouF
      rw [hts_nat, List.map_map, List.getD_eq_getElem?_getD, List.getElem?_map, List.getElem?_range hi]
      exact z_nat (h := 1 + i) hp
    rw [hz]
    have := hpair i hi
    rw [show s - 1 - i = 1 + (s - 2 - i) by omega] at this
    omega
  · have c1 : cntF _ 1 = _ := cnt_nat (0 :: tsN s a b (s - 1)) 1
    have c2 : cntF _ 2 = _ := cnt_nat (0 :: tsN s a b (s - 1)) 2
    have c3 : cntF _ 3 = _ := cnt_nat (0 :: tsN s a b (s - 1)) 3
    rw [thr_nat hp, hthr, c1, c2, c3]
    omega
  · have c1 : cntF _ 1 = _ := cnt_nat (0 :: tsN s a b (s - 1)) 1
    have ez : (nouF s a b (hts s)).sum = ((zsN s a b : Nat) : Int) := by
      unfold nouF zsN
      rw [hts_nat, List.map_map]
      exact sum_nat _ fun i _ => z_nat (h := 1 + i) hp
    have ea : ∀ x : Nat, ((x : Int) - 1) % (s : Int) = (((x + s - 1) % s : Nat) : Int) := fun x => by
      rw [Int.natCast_emod, show ((x + s - 1 : Nat) : Int) = ((x : Int) - 1) + s by omega, Int.add_emod_right]
    have eb : ((a : Int) + b) % (s : Int) = (((a + b) % s : Nat) : Int) := by rw [Int.natCast_emod, Int.natCast_add]
    have hw : cN (0 :: tsN s a b (s - 1)) 1 = 0 ↔ (zsN s a b = 0 ∧ ((a + s - 1) % s = 0 ∨ (b + s - 1) % s = 0 ∨ (a + b) % s = 0)) := by
      have := eq_of_beq hwh
      rw [← Nat.beq_eq, this]
      simp only [Bool.and_eq_true, Bool.or_eq_true, Nat.beq_eq]
    rw [c1, ez, ea, ea, eb]
    simp only [Int.natCast_eq_zero]
    exact hw
def allN (s : Nat) : Bool := (List.range s).all fun a => (List.range s).all fun b => okN s a b
theorem chk2 : allN 2 = true := by decide +kernel
theorem chk3 : allN 3 = true := by decide +kernel
theorem chk4 : allN 4 = true := by decide +kernel
theorem chk5 : allN 5 = true := by decide +kernel
theorem chk6 : allN 6 = true := by decide +kernel
theorem chk7 : allN 7 = true := by decide +kernel
theorem chk8 : allN 8 = true := by decide +kernel
theorem chk9 : allN 9 = true := by decide +kernel
theorem chk10 : allN 10 = true := by decide +kernel
theorem chk11 : allN 11 = true := by decide +kernel
theorem chk12 : allN 12 = true := by decide +kernel
theorem chk13 : allN 13 = true := by decide +kernel
theorem okN_all {s a b : Nat} (h0 : 2 ≤ s) (h1 : s ≤ 13) (ha : a < s) (hb : b < s) : okN s a b = true := by
  have key : allN s = true := by
    have : s = 2 ∨ s = 3 ∨ s = 4 ∨ s = 5 ∨ s = 6 ∨ s = 7 ∨ s = 8 ∨ s = 9 ∨ s = 10 ∨ s = 11 ∨ s = 12 ∨ s = 13 := by omega
    rcases this with rfl | rfl | rfl | rfl | rfl | rfl | rfl | rfl | rfl | rfl | rfl | rfl
    · exact chk2
    · exact chk3
    · exact chk4
    · exact chk5
    · exact chk6
    · exact chk7
    · exact chk8
    · exact chk9
    · exact chk10
    · exact chk11
    · exact chk12
    · exact chk13
  unfold allN at key
  exact List.all_eq_true.mp (List.all_eq_true.mp key a (List.mem_range.mpr ha)) b (List.mem_range.mpr hb)

/-! by residues -/
theorem res_mul (k o s : Int) : (k * (o % s)) % s = (k * o) % s := by
  rw [Int.mul_emod, Int.emod_emod, ← Int.mul_emod]
theorem res_x (k o u s : Int) : (k * (o % s + u % s - 1)) % s = (k * (o + u - 1)) % s := by
  rw [Int.mul_emod, Int.sub_emod, ← Int.add_emod, ← Int.sub_emod, ← Int.mul_emod]
theorem turnsF_res (s o u h : Int) : turnsF s (o % s) (u % s) h = turnsF s o u h := by
  unfold turnsF; rw [res_mul, res_mul, res_x]
theorem zerosF_res (s o u h : Int) : zerosF s (o % s) (u % s) h = zerosF s o u h := by
  unfold zerosF; rw [res_mul, res_mul, res_x]
theorem numF_res (s o u : Int) (pre : List Int) : numF s (o % s) (u % s) pre = numF s o u pre := by
  unfold numF; simp only [turnsF_res]
theorem nouF_res (s o u : Int) (pre : List Int) : nouF s (o % s) (u % s) pre = nouF s o u pre := by
  unfold nouF; exact List.map_congr_left fun h _ => zerosF_res s o u h
theorem roomOf_res {s : Int} (hs : 0 ≤ s) (o u h : Int) : roomOf s (o % s) (u % s) h = roomOf s o u h := by
  unfold roomOf; simp only [Int.fmod_eq_emod_of_nonneg _ hs]; rw [res_mul, res_mul]
theorem thrSum_res {s : Int} (hs : 0 ≤ s) (o u : Int) (pre : List Int) : thrSum s (o % s) (u % s) pre = thrSum s o u pre := by
  unfold thrSum; simp only [roomOf_res hs]
theorem checked {s o u : Int} (h0 : 2 ≤ s) (h1 : s ≤ 13) : 0 ≤ numF s o u (hts s) ∧ Checked s o u (apW (numF s o u (hts s)).toNat) := by
  have o0 := Int.emod_nonneg o (show s ≠ 0 by omega)
  have o1 := Int.emod_lt_of_pos o (show 0 < s by omega)
  have u0 := Int.emod_nonneg u (show s ≠ 0 by omega)
  have u1 := Int.emod_lt_of_pos u (show 0 < s by omega)
  have c := okN_says (by omega) (okN_all (s := s.toNat) (a := (o % s).toNat) (b := (u % s).toNat) (by omega) (by omega) (by omega) (by omega))
  rw [Int.toNat_of_nonneg o0, Int.toNat_of_nonneg u0, Int.toNat_of_nonneg (show 0 ≤ s by omega)] at c
  rw [numF_res] at c
  obtain ⟨c0, ⟨c1, c2, c3, c4⟩⟩ := c
  rw [thrSum_res (by omega)] at c3
  rw [nouF_res] at c2 c4
  rw [show (o % s - 1) % s = (o - 1) % s by rw [Int.sub_emod, Int.emod_emod, ← Int.sub_emod], show (u % s - 1) % s = (u - 1) % s by rw [Int.sub_emod, Int.emod_emod, ← Int.sub_emod], show (o % s + u % s) % s = (o + u) % s by rw [← Int.add_emod]] at c4
  exact ⟨c0, ⟨c1, c2, c3, c4⟩⟩

theorem numF_nil (s o u : Int) : numF s o u [] = 0 := rfl
theorem nouF_nil (s o u : Int) : nouF s o u [] = [] := rfl
theorem numF_snoc (s o u : Int) (pre : List Int) (k : Int) : numF s o u (pre ++ [k]) = numF s o u pre + turnsF s o u k * 16 ^ k.toNat := by
  unfold numF; rw [List.map_append, List.sum_append]; simp
theorem nouF_snoc (s o u : Int) (pre : List Int) (k : Int) : nouF s o u (pre ++ [k]) = nouF s o u pre ++ [zerosF s o u k] := by
  unfold nouF; rw [List.map_append]; rfl
end Mine

end
section
set_option Elab.async false
set_option maxRecDepth 100000
set_option maxHeartbeats 1000000
namespace Mine
open PySem PySem.W PyProof.Rows PySem.Calls
open PyProof.Rows.LCg PyProof.Rows.LCt

/-! comprehensions over ints with one test, of which the length alone is kept -/
def TestPost (b : Bool) (h₀ : Heap) (L : Addr) (m : Str → Option Value) (news : List (Addr × Obj)) (s₁ : Shared) (ok : Bool) (s' : Shared) : Prop :=
  ok = b ∧ ∃ h' tk', s' = { s₁ with heap := h', toks := tk' } ∧ Fr h₀ L h' m ∧ News h₀ L h' news
theorem TestPost.intro {b ok : Bool} {h₀ : Heap} {L : Addr} {m : Str → Option Value} {news : List (Addr × Obj)} {s₁ : Shared} {h' : Heap} {tk' : Nat} (e : ok = b) (F : Fr h₀ L h' m) (N : News h₀ L h' news) : TestPost b h₀ L m news s₁ ok { s₁ with heap := h', toks := tk' } := ⟨e, _, _, rfl, F, N⟩
def Tests (prog : Program) (w : World) (A : Around) (h₀ : Heap) (L : Addr) (m : Str → Option Value) (env : Env) (ct : Expr) (x : Str) (scope : Scope) (cl : List (Str × Addr)) (pk : Int → Bool) (news : List (Addr × Obj)) (s₁ : Shared) : Prop :=
  ∀ (k : Int) (t : Tok) I oI C oC D ys m₂ h tk (E' : Value → Shared → Prop), NsObj oC m₂ → m₂ x = some (.int k t) → Fr h₀ L h m → News h₀ L h ((I, oI) :: (C, oC) :: (D, lst ys) :: news) →
    wpAny (model prog w) A (isTrue ct (compEnvC scope cl C env) (eval ct (compEnvC scope cl C env))) (TestPost (pk k) h₀ L m ((I, oI) :: (C, oC) :: (D, lst ys) :: news) s₁) E' { s₁ with heap := h, toks := tk }
def LenFin (h₀ : Heap) (L : Addr) (m : Str → Option Value) (s₁ : Shared) (Q : Value → Shared → Prop) (n : Nat) (news : List (Addr × Obj)) : Prop :=
  ∀ zs D h tk, zs.length = n → Fr h₀ L h m → News h₀ L h ((D, lst zs) :: news) → (∀ p ∈ news, @Ne Nat p.1 D) → Q (.ref D) { s₁ with heap := h, toks := tk }
section
variable {prog : Program} {w : World} {A : Around} {E : Value → Shared → Prop} {s : Shared} {h₀ : Heap} {L : Addr} {m : Str → Option Value} {env : Env}
theorem off1_mem {D : Addr} : ∀ {news : List (Addr × Obj)}, Off1 D news → ∀ p ∈ news, p.1 ≠ D
  | [], _, _, h => nomatch h
  | _ :: _, x, p, h => by
    rcases List.mem_cons.mp h with rfl | h
    · exact x.1
    · exact off1_mem x.2 p h
theorem rest_len {ct : Expr} {x : Str} {pe : Pos} {scope : Scope} {cl : List (Str × Addr)} {S : List (Addr × Obj) → Prop} {P : Nat → Value → Prop} {Fin : List Value → List (Addr × Obj) → Prop} {news : List (Addr × Obj)} {ks : List Int} {pk : Int → Bool}
    (hk : ∀ C, (compEnvC scope cl C env).scope.kind = .function) (hl : ∀ C, (compEnvC scope cl C env).kindOf x = some .local) (hd : (x == ("__debug__" : Str)) = false)
    (hS : S news) (hP : ∀ i v, P i v → ∃ k t, ks[i]? = some k ∧ v = .int k t) (T : Tests prog w A h₀ L m env ct x scope cl pk news s) :
    ∀ (k i : Nat) (ys : List Value), i + k = ks.length → (∀ zs, zs.length = ys.length + ((ks.drop i).filter pk).length → Fin zs news) → CompRestT prog w A h₀ L m env ct (.Name x pe) x scope cl s S P Fin k i ys news
  | 0, i, ys, e, fin => CompRestT.zero (fin ys (by rw [List.drop_eq_nil_of_le (by omega)]; rfl))
  | k + 1, i, ys, e, fin => CompRestT.succ fun v I oI C oC D m₂ h tk E' hPv hC hx F N off ne => by
    obtain ⟨a, t, hi, rfl⟩ := hP i v hPv
    have ed : ks.drop i = a :: ks.drop (i + 1) := by
      have hlt : i < ks.length := by omega
      rw [List.drop_eq_getElem_cons hlt]
      rw [List.getElem?_eq_getElem hlt] at hi
      rw [Option.some.inj hi]
    refine wpAny_mono (T a t I oI C oC D ys m₂ h tk E' hC hx F N) ?_ fun _ _ e => e
    rintro ok s' ⟨rfl, h', tk', rfl, F', N'⟩
    cases hp : pk a with
    | true =>
      rw [if_pos rfl]
      refine LCgL.ld_own (C := C) (oC := oC) N' (.tail _ (.head _)) hC hx ⟨h', tk', news, rfl, F', N', off, hS, rest_len hk hl hd hS hP T k (i + 1) _ (by omega) fun zs hz => fin zs ?_⟩ (hk C) (hl C) hd
      rw [hz, ed, List.filter_cons_of_pos hp]; simp; omega
    | false =>
      rw [if_neg (by decide)]
      refine ⟨h', tk', news, rfl, F', N', off, hS, rest_len hk hl hd hS hP T k (i + 1) _ (by omega) fun zs hz => fin zs ?_⟩
      rw [hz, ed, List.filter_cons_of_neg (by rw [hp]; decide)]

def TupSrc (prog : Program) (w : World) (A : Around) (h₀ : Heap) (L : Addr) (m : Str → Option Value) (env : Env) (ct : Expr) (x : Str) (scope : Scope) (cl : List (Str × Addr)) (pk : Int → Bool) (Q : Value → Shared → Prop) (xv : Value) (s₁ : Shared) : Prop :=
  ∃ ax a b c ta tb tc n news, xv = .ref ax ∧ A.handled = none ∧ Fr h₀ L s₁.heap m ∧ News h₀ L s₁.heap news ∧ (ax, ({ cls := .type "tuple", data := .seq #[.int a ta, .int b tb, .int c tc] n } : Obj)) ∈ news ∧
    Tests prog w A h₀ L m env ct x scope cl pk news s₁ ∧ LenFin h₀ L m s₁ Q (([a, b, c].filter pk).length) news
theorem comp_tuple {ct iter : Expr} {x : Str} {px pe : Pos} {scope : Scope} {cl : List (Str × Addr)} {pos : Pos} {Q : Value → Shared → Prop} (pk : Int → Bool) (F₀ : Fr h₀ L s.heap m)
    (hclos : closureFor scope env = pure cl) (hcell : ∀ y ∈ scope.names, y.2 ≠ .cell) (hkind : scope.kind = .function)
    (hnames : ∀ y ∈ scope.names, y.2 = .local → scope.names.lookup y.1 = some .local) (hx : scope.names.lookup x = some .local)
    (hk : ∀ C, (compEnvC scope cl C env).scope.kind = .function) (hl : ∀ C, (compEnvC scope cl C env).kindOf x = some .local) (hd : (x == ("__debug__" : Str)) = false)
    (h : wpAny (model prog w) A (eval iter env) (TupSrc prog w A h₀ L m env ct x scope cl pk Q) E s)
    (hs : ∀ x, foldedSetIterable iter env x = pure x) :
    wpAny (model prog w) A (eval (.ListComp (.Name x pe) [⟨.Name x px, iter, [ct], 0⟩] scope pos) env) Q E s := by
  rw [eval_ListComp]
  refine wpAny_comprehension_free (use := none) rfl hs hclos hkind hnames (wpAny_mono h (fun xv s₁ h₁ => ?_) fun _ _ e => e)
  obtain ⟨ax, a, b, c, ta, tb, tc, n, news, rfl, hh, F, N, hm, T, fin⟩ := h₁
  have hl' : s₁.heap.IsTuple ax #[.int a ta, .int b tb, .int c tc] := ⟨_, (N _ hm).1, rfl, _, rfl⟩
  have hlt : ax < s₁.heap.objs.size := Heap.lt_size (N _ hm).1
  refine wpAny_pyIter_tuple hl' ?_
  have up : ∀ b o, s₁.heap.get? b = some o → (s₁.heap.push { cls := .type "tuple_iterator", data := .fields #[.ref ax, .int 0 0] }).get? b = some o := fun b o e => Heap.get?_push_of_some _ e
  have hPs : ∀ (i : Nat) (v : Value), (#[Value.int a ta, Value.int b tb, Value.int c tc] : Array Value)[i]? = some v → ∃ k t, [a, b, c][i]? = some k ∧ v = Value.int k t := fun i v hv => by
    match i with
    | 0 => exact ⟨a, ta, rfl, (Option.some.inj hv).symm⟩
    | 1 => exact ⟨b, tb, rfl, (Option.some.inj hv).symm⟩
    | 2 => exact ⟨c, tc, rfl, (Option.some.inj hv).symm⟩
    | i + 3 => simp at hv
  have R := rest_len (env := env) (s := { s₁ with heap := s₁.heap.push { cls := .type "tuple_iterator", data := .fields #[.ref ax, .int 0 0] } }) (S := fun nw => nw = news) (P := fun i v => (#[Value.int a ta, Value.int b tb, Value.int c tc] : Array Value)[i]? = some v) (pe := pe)
    (Fin := fun zs nw => nw = news ∧ zs.length = ([a, b, c].filter pk).length) (ks := [a, b, c]) hk hl hd rfl hPs T 3 0 [] rfl fun zs hz => ⟨rfl, by simpa using hz⟩
  refine block_T (Walks.tuple hh s₁.heap.objs.size ax (Nat.ne_of_lt hlt) #[.int a ta, .int b tb, .int c tc]) (by rw [sizeLine_eq]; exact Nat.le_of_ble_eq_true rfl) (fun i h st => by obtain ⟨o, e, _⟩ := st.1; exact ⟨o, e⟩)
    (S := fun nw => nw = news) (fun i h h' o nw st e e' k N' hS => ⟨by obtain ⟨o', q, r⟩ := st.1; rw [e] at q; cases q; exact ⟨o, e', r⟩, by subst hS; exact ⟨_, (N' _ hm).1, rfl, _, rfl⟩⟩) hcell hkind hx ⟨⟨_, Heap.get?_push_size _ rfl, rfl, rfl⟩, hl'.push _⟩ (fun b hb => ?_)
    (F.keeps up) (N.grown up) (Nat.ne_of_lt F.ns.lt) (next_is_new F) (fun p hp => Nat.ne_of_lt (Heap.lt_size (N p hp).1)) rfl R ?_
  · show b < (s₁.heap.push _).objs.size
    rw [Heap.size_push]
    rcases List.mem_cons.mp hb with rfl | hb
    · exact Nat.lt_succ_self _
    · rw [List.mem_singleton.mp hb]; exact Nat.lt_succ_of_lt hlt
  · rintro D C h tk m' ys news' F' N' o1 hn hC₀ hD₀ hCL hDL hCD offC ⟨rfl, hz⟩
    refine ⟨m', hn, fun h'' hs'' => fin ys D h'' tk hz (F'.change hs'' hCL hC₀) (fun p hp => ?_) (off1_mem o1)⟩
    refine ⟨hs''.extBut _ _ ?_ (N' p hp).1, (N' p hp).2⟩
    rcases List.mem_cons.mp hp with rfl | hp
    · exact Ne.symm hCD
    · exact offC p hp

def BytesSrc (prog : Program) (w : World) (A : Around) (h₀ : Heap) (L : Addr) (m : Str → Option Value) (env : Env) (ct : Expr) (x : Str) (scope : Scope) (cl : List (Str × Addr)) (pk : Int → Bool) (Q : Value → Shared → Prop) (xv : Value) (s₁ : Shared) : Prop :=
  ∃ b tb news, xv = .bytes b tb ∧ b.size ≤ 1000000 ∧ A.handled = none ∧ Fr h₀ L s₁.heap m ∧ News h₀ L s₁.heap news ∧
    Tests prog w A h₀ L m env ct x scope cl pk news s₁ ∧ LenFin h₀ L m s₁ Q (((KBw.bInts b).filter pk).length) news
theorem comp_bytes {ct iter : Expr} {x : Str} {px pe : Pos} {scope : Scope} {cl : List (Str × Addr)} {pos : Pos} {Q : Value → Shared → Prop} (pk : Int → Bool) (F₀ : Fr h₀ L s.heap m)
    (hclos : closureFor scope env = pure cl) (hcell : ∀ y ∈ scope.names, y.2 ≠ .cell) (hkind : scope.kind = .function)
    (hnames : ∀ y ∈ scope.names, y.2 = .local → scope.names.lookup y.1 = some .local) (hx : scope.names.lookup x = some .local)
    (hk : ∀ C, (compEnvC scope cl C env).scope.kind = .function) (hl : ∀ C, (compEnvC scope cl C env).kindOf x = some .local) (hd : (x == ("__debug__" : Str)) = false)
    (h : wpAny (model prog w) A (eval iter env) (BytesSrc prog w A h₀ L m env ct x scope cl pk Q) E s)
    (hs : ∀ x, foldedSetIterable iter env x = pure x) :
    wpAny (model prog w) A (eval (.ListComp (.Name x pe) [⟨.Name x px, iter, [ct], 0⟩] scope pos) env) Q E s := by
  rw [eval_ListComp]
  refine wpAny_comprehension_free (use := none) rfl hs hclos hkind hnames (wpAny_mono h (fun xv s₁ h₁ => ?_) fun _ _ e => e)
  obtain ⟨b, tb, news, rfl, hsz, hh, F, N, T, fin⟩ := h₁
  refine KBw.pyIter_bytes ?_
  have up : ∀ a o, s₁.heap.get? a = some o → (s₁.heap.push { cls := .type "bytes_iterator", data := .fields #[.bytes b tb, .int 0 0] }).get? a = some o := fun a o e => Heap.get?_push_of_some _ e
  have hPs : ∀ (i : Nat) (v : Value), (∃ (c : UInt8) (u : Tok), b[i]? = some c ∧ v = Value.int (c.toNat : Int) u) → ∃ k t, (KBw.bInts b)[i]? = some k ∧ v = Value.int k t := by
    rintro i v ⟨c, u, e, rfl⟩
    exact ⟨_, u, KBw.ints_get e, rfl⟩
  have R := rest_len (env := env) (s := { s₁ with heap := s₁.heap.push { cls := .type "bytes_iterator", data := .fields #[.bytes b tb, .int 0 0] } }) (S := fun nw => nw = news) (pe := pe)
    (Fin := fun zs nw => nw = news ∧ zs.length = ((KBw.bInts b).filter pk).length) (ks := KBw.bInts b) hk hl hd rfl hPs T b.size 0 [] (by rw [KBw.ints_length, Nat.zero_add]) fun zs hz => ⟨rfl, by simpa using hz⟩
  refine block_T (KBw.walks hh s₁.heap.objs.size b tb) (by rw [sizeLine_eq]; exact Nat.le_trans hsz (Nat.le_of_ble_eq_true rfl)) (fun i h st => by obtain ⟨o, e, _⟩ := st; exact ⟨o, e⟩)
    (S := fun nw => nw = news) (fun i h h' o nw st e e' k N' hS => by obtain ⟨o', q, r⟩ := st; rw [e] at q; cases q; exact ⟨o, e', r⟩) hcell hkind hx ⟨_, Heap.get?_push_size _ rfl, rfl, rfl⟩ (fun b hb => ?_)
    (F.keeps up) (N.grown up) (Nat.ne_of_lt F.ns.lt) (next_is_new F) (fun p hp => Nat.ne_of_lt (Heap.lt_size (N p hp).1)) rfl R ?_
  · show b < (s₁.heap.push _).objs.size
    rw [Heap.size_push, List.mem_singleton.mp hb]
    exact Nat.lt_succ_self _
  · rintro D C h tk m' ys news' F' N' o1 hn hC₀ hD₀ hCL hDL hCD offC ⟨rfl, hz⟩
    refine ⟨m', hn, fun h'' hs'' => fin ys D h'' tk hz (F'.change hs'' hCL hC₀) (fun p hp => ?_) (off1_mem o1)⟩
    refine ⟨hs''.extBut _ _ ?_ (N' p hp).1, (N' p hp).2⟩
    rcases List.mem_cons.mp hp with rfl | hp
    · exact Ne.symm hCD
    · exact offC p hp
end
end Mine

end
section
set_option Elab.async false
set_option maxRecDepth 100000
set_option maxHeartbeats 1000000
namespace Mine
open PySem PySem.W PyProof.Rows PySem.Calls
open PyProof.Rows.LCg PyProof.Rows.LCt

/-! a comprehension over range(4) whose own name is a cell (an inner comprehension closes over it) -/
def EltPost (n : Int) (h₀ : Heap) (L : Addr) (m : Str → Option Value) (led : List (Addr × Obj)) (s₁ : Shared) (y : Value) (s' : Shared) : Prop :=
  ∃ t h' tk', y = .int n t ∧ s' = { s₁ with heap := h', toks := tk' } ∧ Fr h₀ L h' m ∧ News h₀ L h' led
theorem EltPost.intro {n n' : Int} {h₀ : Heap} {L : Addr} {m : Str → Option Value} {p : Addr × Obj} {led : List (Addr × Obj)} {s₁ : Shared} {t : Tok} {h' : Heap} {tk' : Nat} (e : n' = n) (F : Fr h₀ L h' m) (N : News h₀ L h' (p :: led)) :
    EltPost n h₀ L m led s₁ (.int n' t) { s₁ with heap := h', toks := tk' } := ⟨t, h', tk', by rw [e], rfl, F, fun q hq => N q (List.mem_cons_of_mem _ hq)⟩
def EltAt (prog : Program) (w : World) (A : Around) (h₀ : Heap) (L : Addr) (m : Str → Option Value) (env : Env) (elt : Expr) (x : Str) (scope : Scope) (cl : List (Str × Addr)) (g : Int → Int) (news : List (Addr × Obj)) (s₁ : Shared) : Prop :=
  ∀ (k : Int) (t : Tok) I oI C oC K oK D ys h tk (E' : Value → Shared → Prop), 0 ≤ k → k < 4 → oK.data = .cell (some (.int k t)) → Fr h₀ L h m → News h₀ L h ((I, oI) :: (C, oC) :: (K, oK) :: (D, lst ys) :: news) →
    wpAny (model prog w) A (eval elt (compEnvC scope ((x, K) :: cl) C env)) (EltPost (g k) h₀ L m ((I, oI) :: (C, oC) :: (K, oK) :: (D, lst ys) :: news) s₁) E' { s₁ with heap := h, toks := tk }
section
variable {prog : Program} {w : World} {A : Around} {E : Value → Shared → Prop} {s : Shared} {h₀ : Heap} {L : Addr} {m : Str → Option Value} {env : Env}

theorem newEnv_one {M : Model} {scope : Scope} {cl : List (Str × Addr)} {x : Str} {globals : Addr} {qual : Str} {func : Option Addr} {code : Value} {Q : Env → Shared → Prop}
    (hc1 : ∀ n, cellsFrom n scope.names cl = (x, n) :: cl) (hc2 : ∀ h : Heap, pushCells h scope.names = h.push { cls := .type "cell", data := .cell none })
    (hQ : Q (newEnv scope s.heap.objs.size globals ((x, s.heap.objs.size + 1) :: cl) qual func code (some env) builtinsNs) { s with heap := (s.heap.push { cls := .type "dict", data := .dict #[] }).push { cls := .type "cell", data := .cell none } }) :
    wpAny M A (newFunctionEnv scope globals cl [] qual func code (some env)) Q E s := by
  simp only [newFunctionEnv, Option.isSome_some, if_true]
  refine wpAny_bind (wpAny_alloc ?_)
  refine wpAny_bind (wpAny_layCells _ (fun name kind cells => by cases hkc : kind == NameKind.cell <;> simp [hkc]) _ _ _ _ ?_)
  rw [hc1, hc2, show ({ s with heap := s.heap.push { cls := .type "dict", data := .dict #[] } } : Shared).heap.objs.size = s.heap.objs.size + 1 from Heap.size_push ..]
  refine wpAny_bind ?_
  rw [List.forIn_nil]
  exact wpAny_pure (wpAny_pure hQ)
end

structure Apart (h₀ : Heap) (L I D C K : Addr) (news : List (Addr × Obj)) : Prop where
  ID : I ≠ D
  IC : I ≠ C
  IK : I ≠ K
  DC : D ≠ C
  DK : D ≠ K
  CK : C ≠ K
  LI : L ≠ I
  LD : D ≠ L
  LC : C ≠ L
  LK : K ≠ L
  zI : h₀.get? I = none
  zD : h₀.get? D = none
  zC : h₀.get? C = none
  zK : h₀.get? K = none
  nI : ∀ p ∈ news, p.1 ≠ I
  nD : ∀ p ∈ news, p.1 ≠ D
  nC : ∀ p ∈ news, p.1 ≠ C
  nK : ∀ p ∈ news, p.1 ≠ K
def Vals (g : Int → Int) (i : Nat) (ys : List Value) : Prop := ys.length = i ∧ ∀ j : Nat, j < i → ∃ t, ys[j]? = some (.int (g (j : Int)) t)
theorem Vals.snoc {g : Int → Int} {i : Nat} {ys : List Value} {t : Tok} (v : Vals g i ys) : Vals g (i + 1) (ys ++ [.int (g (i : Int)) t]) := by
  refine ⟨by rw [List.length_append, v.1]; rfl, fun j hj => ?_⟩
  by_cases h : j < i
  · obtain ⟨t', e⟩ := v.2 j h
    exact ⟨t', by rw [List.getElem?_append_left (by rw [v.1]; exact h)]; exact e⟩
  · have : j = i := by omega
    subst this
    exact ⟨t, by rw [List.getElem?_append_right (by rw [v.1]; exact Nat.le_refl _), v.1, Nat.sub_self]; rfl⟩
theorem Vals.four {g : Int → Int} {ys : List Value} (v : Vals g 4 ys) : ∃ t0 t1 t2 t3, ys = [.int (g 0) t0, .int (g 1) t1, .int (g 2) t2, .int (g 3) t3] := by
  obtain ⟨hl, h⟩ := v
  obtain ⟨t0, e0⟩ := h 0 (by decide)
  obtain ⟨t1, e1⟩ := h 1 (by decide)
  obtain ⟨t2, e2⟩ := h 2 (by decide)
  obtain ⟨t3, e3⟩ := h 3 (by decide)
  rcases ys with _ | ⟨a, _ | ⟨b, _ | ⟨c, _ | ⟨d, _ | ⟨e, r⟩⟩⟩⟩⟩ <;> simp at hl
  refine ⟨t0, t1, t2, t3, ?_⟩
  simp at e0 e1 e2 e3
  rw [e0, e1, e2, e3]
section
variable {prog : Program} {w : World} {A : Around} {E : Value → Shared → Prop} {s : Shared} {h₀ : Heap} {L : Addr} {m : Str → Option Value} {env : Env}
theorem loop_K {elt iter : Expr} {x : Str} {px : Pos} {scope : Scope} {cl : List (Str × Addr)} {pos : Pos} {s₂ : Shared} {I D C K : Addr} {g : Int → Int} {news : List (Addr × Obj)} {R : Result → Shared → Prop} {h₁ : Heap} {tk₁ : Nat} {m₁ : Str → Option Value} {oK : Obj}
    (hh : A.handled = none) (hkind : scope.kind = .function) (hxk : (compEnvC scope ((x, K) :: cl) C env).kindOf x = some .cell)
    (ap : Apart h₀ L I D C K news) (hst : IsRangeIter h₁ I 0 4 1) (F : Fr h₀ L h₁ m) (hC : h₁.Ns C m₁) (hKd : oK.data = .cell none) (N : News h₀ L h₁ ((K, oK) :: (D, lst []) :: news))
    (T : EltAt prog w A h₀ L m env elt x scope cl g news s₂)
    (hR : ∀ h tk m' ys, Vals g 4 ys → Fr h₀ L h m → News h₀ L h ((D, lst ys) :: news) → h.Ns C m' → R (.ok .next) { s₂ with heap := h, toks := tk }) :
    codeAny (model prog w) A (.compLoop (.ListComp elt [⟨.Name x px, iter, [], 0⟩] scope pos) 0 (.ref I) (.ref D) (compEnvC scope ((x, K) :: cl) C env)) R { s₂ with heap := h₁, toks := tk₁ } := by
  have W := range_walks (prog := prog) (w := w) (A := A) (I := I) hh 0 4
  refine codeAny_compLoop_list
    (fun k s' => ∃ h' tk i ys m' oK v, s' = { s₂ with heap := h', toks := tk } ∧ i ≤ 4 ∧ k = 5 - i ∧ Vals g i ys ∧ IsRangeIter h' I (0 + ((i : Nat) : Int) * 1) (((4 : Nat) : Int) - ((i : Nat) : Int)) 1 ∧ Fr h₀ L h' m ∧ h'.Ns C m' ∧ oK.data = Data.cell v ∧
      News h₀ L h' ((K, oK) :: (D, lst ys) :: news)) ?_ 5 ⟨h₁, tk₁, 0, [], m₁, oK, none, rfl, Nat.zero_le _, rfl, ⟨rfl, fun j hj => absurd hj (Nat.not_lt_zero _)⟩, by simpa using hst, F, hC, hKd, N⟩
  rintro k s' ⟨h', tk, i, ys, m', oK', v, rfl, hi, rfl, hv, hst', F', hn', hd', N'⟩
  by_cases hlt : i < 4
  · refine W.item i _ _ _ hlt hst' fun y h₂ tk₂ hy hst₂ hk₂ => ?_
    obtain ⟨ty, rfl⟩ := hy
    rw [show (0 : Int) + ((i : Nat) : Int) = ((i : Nat) : Int) by omega]
    have kp : ∀ b o, b ≠ I → h'.get? b = some o → h₂.get? b = some o := fun b o hb e => hk₂ b o (by simpa using hb) e
    have N₂ : News h₀ L h₂ ((K, oK') :: (D, lst ys) :: news) := news_but N' hk₂ fun p hp => by
      rcases List.mem_cons.mp hp with rfl | hp
      · exact Ne.symm ap.IK
      · rcases List.mem_cons.mp hp with rfl | hp
        · exact Ne.symm ap.ID
        · exact ap.nI p hp
    have F₂ : Fr h₀ L h₂ m := fr_but F' hk₂ ap.LI ap.zI
    have hn₂ : h₂.Ns C m' := hn'.at' fun o e => kp _ o (Ne.symm ap.IC) e
    refine wpAny_assign_Name (wpAny_storeName_cell (c := K) (v₀ := v) hkind hxk (by show List.lookup x ((x, K) :: cl) = some K; rw [List.lookup_cons]; simp) ⟨oK', (N₂ _ List.mem_cons_self).1, hd'⟩ fun h₃ hc₃ hs₃ => ?_)
    obtain ⟨oK₃, heK, hdK⟩ := hc₃
    have hst₃ : IsRangeIter h₃ I (0 + (((i + 1 : Nat)) : Int) * 1) (((4 : Nat) : Int) - ((i + 1 : Nat) : Int)) 1 := W.frame _ _ _ hst₂ fun b hb o e => hs₃.extBut b o (fun q => ap.IK (by rw [← List.mem_singleton.mp hb]; exact q)) e
    obtain ⟨oC, heC, hoC⟩ := ns_obj (hn₂.sameBut hs₃ ap.CK)
    have F₃ : Fr h₀ L h₃ m := F₂.change hs₃ ap.LK ap.zK
    have N₃ : News h₀ L h₃ ((I, _) :: (C, oC) :: (K, oK₃) :: (D, lst ys) :: news) := fun p hp => by
      rcases List.mem_cons.mp hp with rfl | hp
      · exact ⟨hst₃, Ne.symm ap.LI, ap.zI⟩
      · rcases List.mem_cons.mp hp with rfl | hp
        · exact ⟨heC, ap.LC, ap.zC⟩
        · rcases List.mem_cons.mp hp with rfl | hp
          · exact ⟨heK, ap.LK, ap.zK⟩
          · have z := N₂ p (List.mem_cons_of_mem _ hp)
            refine ⟨hs₃.extBut _ _ ?_ z.1, z.2⟩
            rcases List.mem_cons.mp hp with rfl | hp
            · exact ap.DK
            · exact ap.nK p hp
    refine wpAny_mono (T (i : Int) ty I _ C oC K oK₃ D ys h₃ _ _ (by omega) (by omega) hdK F₃ N₃) (fun y s₄ h₄ => ?_) fun _ _ e => e
    obtain ⟨t₄, h₄, tk₄, rfl, rfl, F₄, N₄⟩ := h₄
    have zI := (N₄ _ List.mem_cons_self).1
    have zC := (N₄ (C, oC) (List.mem_cons_of_mem _ List.mem_cons_self)).1
    have zK := (N₄ (K, oK₃) (List.mem_cons_of_mem _ (List.mem_cons_of_mem _ List.mem_cons_self))).1
    have zD := (N₄ (D, lst ys) (List.mem_cons_of_mem _ (List.mem_cons_of_mem _ (List.mem_cons_of_mem _ List.mem_cons_self)))).1
    refine append_at (hsz := by rw [List.size_toArray, hv.1, sizeLine_eq]; omega) zD fun h₅ hs₅ hD₅ => ?_
    refine ⟨5 - (i + 1), by omega, h₅, tk₄, i + 1, ys ++ [.int (g (i : Int)) t₄], _, oK₃, _, rfl, hlt, rfl, hv.snoc, hs₅.extBut _ _ ap.ID zI, F₄.change hs₅ ap.LD ap.zD, (hoC.ns zC).sameBut hs₅ (Ne.symm ap.DC), hdK, fun p hp => ?_⟩
    rcases List.mem_cons.mp hp with rfl | hp
    · exact ⟨hs₅.extBut _ _ (Ne.symm ap.DK) zK, ap.LK, ap.zK⟩
    · rcases List.mem_cons.mp hp with rfl | hp
      · exact ⟨hD₅.trans (congrArg some (lst_snoc ys _)), ap.LD, ap.zD⟩
      · have z := N₄ p (List.mem_cons_of_mem _ (List.mem_cons_of_mem _ (List.mem_cons_of_mem _ (List.mem_cons_of_mem _ hp))))
        exact ⟨hs₅.extBut _ _ (ap.nD p hp) z.1, z.2⟩
  · obtain rfl : i = 4 := Nat.le_antisymm hi (Nat.not_lt.mp hlt)
    refine W.done _ _ _ hst' fun h₂ tk₂ hk₂ => ?_
    exact hR h₂ tk₂ _ ys hv (fr_but F' hk₂ ap.LI ap.zI) (news_but (fun q hq => N' q (List.mem_cons_of_mem _ hq)) hk₂ fun p hp => by
      rcases List.mem_cons.mp hp with rfl | hp
      · exact Ne.symm ap.ID
      · exact ap.nI p hp) (hn'.at' fun o e => hk₂ _ o (by simpa using Ne.symm ap.IC) e)
end

section
variable {prog : Program} {w : World} {A : Around} {E : Value → Shared → Prop} {s : Shared} {h₀ : Heap} {L : Addr} {m : Str → Option Value} {env : Env}
theorem block_K {elt iter : Expr} {x : Str} {px : Pos} {scope : Scope} {cl : List (Str × Addr)} {pos : Pos} {s₂ : Shared} {I : Addr} {g : Int → Int} {news : List (Addr × Obj)} {RR : Value → Addr → Result → Shared → Prop}
    (hh : A.handled = none) (hkind : scope.kind = .function) (hxk : ∀ C K, (compEnvC scope ((x, K) :: cl) C env).kindOf x = some .cell)
    (hc1 : ∀ n, cellsFrom n scope.names cl = (x, n) :: cl) (hc2 : ∀ h : Heap, pushCells h scope.names = h.push { cls := .type "cell", data := .cell none })
    (hst : IsRangeIter s₂.heap I 0 4 1) (F : Fr h₀ L s₂.heap m) (N : News h₀ L s₂.heap news) (hIL : L ≠ I) (hI₀ : h₀.get? I = none) (off : ∀ p ∈ news, p.1 ≠ I)
    (T : EltAt prog w A h₀ L m env elt x scope cl g news s₂)
    (hRR : ∀ D C h tk m' ys, Vals g 4 ys → Fr h₀ L h m → News h₀ L h ((D, lst ys) :: news) → (∀ p ∈ news, @Ne Nat p.1 D) → h.Ns C m' → h₀.get? C = none → C ≠ L → C ≠ D → (∀ p ∈ news, p.1 ≠ C) → RR (.ref D) C (.ok .next) { s₂ with heap := h, toks := tk }) :
    wpAny (model prog w) A (newList []) (fun acc s₃ => wpAny (model prog w) A (newFunctionEnv scope env.globals cl [] env.qual none .none (some env)) (fun cenv s₄ =>
      codeAny (model prog w) A (.compStart (.ListComp elt [⟨.Name x px, iter, [], 0⟩] scope pos) 0 (.ref I) acc { cenv with scope := relabel scope env }) (RR acc cenv.locals) s₄) E s₃) E s₂ := by
  refine wpAny_newObj_type (newEnv_one hc1 hc2 ?_)
  dsimp only
  have hIlt : @LT.lt Nat instLTNat I s₂.heap.objs.size := Heap.lt_size (show s₂.heap.get? I = some _ from hst)
  have hLlt : @LT.lt Nat instLTNat L s₂.heap.objs.size := F.ns.lt
  have fresh₀ : ∀ a, s₂.heap.objs.size ≤ a → h₀.get? a = none := fun a ha => by
    cases e : h₀.get? a with
    | none => rfl
    | some o' => exact absurd (Heap.lt_size (F.keep a o' e)) (Nat.not_lt.mpr ha)
  generalize hH2 : s₂.heap.push { cls := .type "list", dict := none, data := .seq ([] : List Value).toArray } = H2
  have h2 : H2.objs.size = s₂.heap.objs.size + 1 := by rw [← hH2, Heap.size_push]
  have k2 : ∀ b o, s₂.heap.get? b = some o → H2.get? b = some o := fun b o e => hH2 ▸ Heap.get?_push_of_some _ e
  have d2 : H2.get? s₂.heap.objs.size = some (lst []) := hH2 ▸ Heap.get?_push_size _ rfl
  have n3 : (H2.push { cls := .type "dict", data := .dict #[] }).Ns H2.objs.size (fun _ => none) := Heap.Ns.new H2 (.type "dict")
  generalize hH3 : H2.push { cls := .type "dict", data := .dict #[] } = H3 at n3
  have h3 : H3.objs.size = H2.objs.size + 1 := by rw [← hH3, Heap.size_push]
  have k3 : ∀ b o, H2.get? b = some o → H3.get? b = some o := fun b o e => hH3 ▸ Heap.get?_push_of_some _ e
  rw [← h3]
  have k4 : ∀ b o, H3.get? b = some o → (H3.push { cls := .type "cell", data := .cell none }).get? b = some o := fun b o e => Heap.get?_push_of_some _ e
  have d4 : (H3.push { cls := .type "cell", data := .cell none }).get? H3.objs.size = some { cls := .type "cell", data := .cell none } := Heap.get?_push_size _ rfl
  have all : ∀ b o, s₂.heap.get? b = some o → (H3.push { cls := .type "cell", data := .cell none }).get? b = some o := fun b o e => k4 b o (k3 b o (k2 b o e))
  have lt : ∀ p ∈ news, @LT.lt Nat instLTNat p.1 s₂.heap.objs.size := fun p hp => Heap.lt_size (N p hp).1
  have ap : Apart h₀ L I s₂.heap.objs.size H2.objs.size H3.objs.size news := by
    refine ⟨Nat.ne_of_lt hIlt, ?_, ?_, ?_, ?_, ?_, hIL, Ne.symm (Nat.ne_of_lt hLlt), ?_, ?_, hI₀, fresh₀ _ (Nat.le_refl _), fresh₀ _ ?_, fresh₀ _ ?_, off, fun p hp => Nat.ne_of_lt (lt p hp), fun p hp => Nat.ne_of_lt ?_, fun p hp => Nat.ne_of_lt ?_⟩
    · exact Nat.ne_of_lt (by omega)
    · exact Nat.ne_of_lt (by omega)
    · exact Nat.ne_of_lt (by omega)
    · exact Nat.ne_of_lt (by omega)
    · exact Nat.ne_of_lt (by omega)
    · exact Ne.symm (Nat.ne_of_lt (by omega))
    · exact Ne.symm (Nat.ne_of_lt (by omega))
    · omega
    · omega
    · have := lt p hp; omega
    · have := lt p hp; omega
  have L0 := loop_K (prog := prog) (w := w) (A := A) (s₂ := s₂) (elt := elt) (iter := iter) (px := px) (pos := pos) (env := env) (tk₁ := s₂.toks) (R := RR (.ref s₂.heap.objs.size) H2.objs.size) hh hkind (hxk _ _) ap (all I _ hst) (F.keeps all) (n3.keeps k4) (oK := { cls := .type "cell", data := .cell none }) rfl
    (fun p hp => by
      rcases List.mem_cons.mp hp with rfl | hp
      · exact ⟨d4, ap.LK, ap.zK⟩
      · rcases List.mem_cons.mp hp with rfl | hp
        · exact ⟨k4 _ _ (k3 _ _ d2), ap.LD, ap.zD⟩
        · exact ⟨all _ _ (N p hp).1, (N p hp).2⟩) T
    (fun h tk m' ys v F' N' hn => hRR _ _ h tk m' ys v F' N' ap.nD hn ap.zC ap.LC (Ne.symm ap.DC) ap.nC)
  exact codeAny_compStart_list L0 ((range_walks (prog := prog) (w := w) (A := A) (I := I) hh 0 4).self 0 _ _ _ (all I _ (by simpa using hst)) L0)

def OuterSrc (prog : Program) (w : World) (A : Around) (h₀ : Heap) (L : Addr) (m : Str → Option Value) (env : Env) (elt : Expr) (x : Str) (scope : Scope) (cl : List (Str × Addr)) (g : Int → Int) (Fin : Addr → List Value → List (Addr × Obj) → Heap → Nat → Shared → Prop) (xv : Value) (s₁ : Shared) : Prop :=
  ∃ r t u v news, xv = .ref r ∧ A.handled = none ∧ Fr h₀ L s₁.heap m ∧ News h₀ L s₁.heap news ∧ IsRange s₁.heap r 0 4 1 t u v ∧ EltAt prog w A h₀ L m env elt x scope cl g news s₁ ∧
    (∀ D ys h tk, Vals g 4 ys → (∀ p ∈ news, @Ne Nat p.1 D) → Fin D ys news h tk s₁)
theorem Assign_comp_K {elt iter : Expr} {x y : Str} {px py : Pos} {scope : Scope} {cl : List (Str × Addr)} {pos spos : Pos} {Q : Flow → Shared → Prop} (g : Int → Int) (F₀ : Fr h₀ L s.heap m) (hLe : env.locals = L)
    (hsw : swapsWith (.ListComp elt [⟨.Name x px, iter, [], 0⟩] scope pos) (some (.Name y py)) spos.line env = pure true)
    (hclos : closureFor scope env = pure cl) (hkind : scope.kind = .function)
    (hnames : ∀ z ∈ scope.names, z.2 = .local → scope.names.lookup z.1 = some .local)
    (hxk : ∀ C K, (compEnvC scope ((x, K) :: cl) C env).kindOf x = some .cell)
    (hc1 : ∀ n, cellsFrom n scope.names cl = (x, n) :: cl) (hc2 : ∀ h : Heap, pushCells h scope.names = h.push { cls := .type "cell", data := .cell none })
    (hy : env.kindOf y = some .local) (hp : (env.scope.kind == .class || (env.scope.kind == .module && env.locals != env.globals)) = false)
    (h : wpAny (model prog w) A (eval iter env) (OuterSrc prog w A h₀ L m env elt x scope cl g (fun D ys news h tk s₁ =>
      Fr h₀ L h (fun z => if z = y then some (.ref D) else m z) → News h₀ L h ((D, lst ys) :: news) → Q .next { s₁ with heap := h, toks := tk })) E s)
    (hs : ∀ x, foldedSetIterable iter env x = pure x := by intro _; rfl) :
    wpAny (model prog w) A (exec (.Assign [.Name y py] (.ListComp elt [⟨.Name x px, iter, [], 0⟩] scope pos) spos) env) Q E s := by
  subst hLe
  rw [exec_Assign_Name_used _ _ _ _ hsw]
  refine wpAny_bind (wpAny_standAt (wpAny_bind ?_))
  show wpAny _ A (do let _ ← comprehension (.ListComp elt [⟨.Name x px, iter, [], 0⟩] scope pos) scope env _ (newList []) false (eval iter env) (some (assign (.Name y py) env))) _ _ s
  refine wpAny_bind (wpAny_mono (wpAny_comprehension_free (use := some (assign (.Name y py) env)) (Q := fun _ s' => Q .next s') rfl hs hclos hkind hnames
    (wpAny_mono h (fun xv s₁ h₁ => ?_) fun _ _ e => e)) (fun _ s' hq => wpAny_pure (wpAny_pure hq)) fun _ _ e => e)
  obtain ⟨r, t, u, v, news, rfl, hh, F, N, hr, T, fin⟩ := h₁
  refine wpAny_pyIter_range hr (by decide) ?_
  refine block_K hh hkind hxk hc1 hc2 (by exact Heap.get?_push_size _ rfl) (F.keeps fun _ _ e => Heap.get?_push_of_some _ e) (N.grown fun _ _ e => Heap.get?_push_of_some _ e) (Nat.ne_of_lt F.ns.lt) (next_is_new F) (fun p hp => Nat.ne_of_lt (Heap.lt_size (N p hp).1)) T ?_
  intro D C h' tk m' ys hv F' N' o1 hn hC₀ hCL hCD offC
  show wpAny _ A (assign (.Name y py) env (.ref D)) _ _ _
  refine wpAny_assign_Name (wpAny_storeName_local hy F'.ns (fun h₂ hn₂ hs₂ => ?_) hp)
  have hL₀ : h₀.get? env.locals = none := Heap.get?_none_of_le F'.above
  have F₂ : Fr h₀ env.locals h₂ (fun z => if z = y then some (.ref D) else m z) := ⟨hn₂, fun b o e => hs₂.extBut b o (fun q => by rw [q, hL₀] at e; cases e) (F'.keep b o e), F'.above⟩
  refine ⟨m', hn.sameBut hs₂ hCL, fun h'' hs'' => fin D ys h'' _ hv o1 (F₂.change hs'' hCL hC₀) (fun p hp => ?_)⟩
  have z : h₂.get? p.1 = some p.2 := hs₂.extBut _ _ (N' p hp).2.1 (N' p hp).1
  refine ⟨hs''.extBut _ _ ?_ z, (N' p hp).2⟩
  rcases List.mem_cons.mp hp with rfl | hp
  · exact Ne.symm hCD
  · exact offC p hp
end
end Mine

end
section
set_option Elab.async false
set_option maxRecDepth 100000
set_option maxHeartbeats 2000000
namespace Mine
open PySem PySem.W PyProof.Rows PySem.Calls

theorem funG_use {n : Nat} {w : World} {mg mb : Str → Option Value} {mean : ExcName → Option Value} {f : Addr} {vs : List Value} {Ret : Heap → Addr → (Str → Option Value) → List (Addr × Obj) → Shared → (Value → Shared → Prop) → Prop} (C : FunG n w mg mb mean f vs Ret)
    {dp un : Nat} {gd : Option (List Code)} {cn : Str} {cs : Scope} {a : Addr} {ccd : Value} {cl : List (Str × Addr)} {outer : List Env} {A₀ : Around} {base h₀ : Heap} {L : Addr} {m : Str → Option Value} {news : List (Addr × Obj)} {s : Shared}
    {Q E : Value → Shared → Prop}
    (B : Below A₀ base outer h₀) (F : Fr h₀ L s.heap m) (X : (hd.heap_39 w.params).In h₀) (N : News h₀ L s.heap news)
    (T : Top hd.view_39 (looseW hd.view_39 [Str.ofString "ONE_THIRD", Str.ofString "ONE_SIXTH", Str.ofString "TWO_THIRD"]) mean mg mb h₀)
    (G : Glob 0 mg mb (List.map itemOf (recsOf hd.view_39)) (scalarsOf [(Str.ofString "ONE_THIRD", WData.float 4599676419421066581), (Str.ofString "ONE_SIXTH", WData.float 4595172819793696085), (Str.ofString "TWO_THIRD", WData.float 4604180019048437077)] ++ constsW hd.view_39) [] (namesW hd.view_39 [Str.ofString "ONE_THIRD", Str.ofString "ONE_SIXTH", Str.ofString "TWO_THIRD"]) base)
    (hk : cs.kind = .function) (hd : dp + n < recursionLimit) (hu : un + 10 * n < cLine)
    (ret : Ret h₀ L m news s Q) :
    wpAny (model PySem.Challenge.rw_tp0005_01.row.prog w) (ktrTop dp un gd cn cs L a ccd cl outer) (call (.ref f) vs) Q E s := C _ _ _ _ _ _ _ _ _ _ _ _ _ _ _ _ _ _ B F X N T G hk hd hu ret

theorem three_ints {ws : List Value} {a b c : Int} (h : IntsAre ws [a, b, c]) : ∃ t u v, ws = [Value.int a t, .int b u, .int c v] := by
  cases h with | cons _ t h =>
  cases h with | cons _ u h =>
  cases h with | cons _ v h =>
  cases h
  exact ⟨_, _, _, rfl⟩
theorem drawn3 {ws : List Value} {xs : List Int} {f g : Int → Int} (h : IntsAre ws (List.map f (List.take 3 xs) ++ List.drop (((List.map g (List.take 3 xs)).length : Nat) : Int).toNat [53, 45, 60])) :
    ∃ d0 d1 d2 t u v, ws = [Value.int d0 t, .int d1 u, .int d2 v] := by
  rcases xs with _ | ⟨a, _ | ⟨b, _ | ⟨c, r⟩⟩⟩
  · exact ⟨_, _, _, three_ints h⟩
  · exact ⟨_, _, _, three_ints h⟩
  · exact ⟨_, _, _, three_ints h⟩
  · exact ⟨_, _, _, three_ints h⟩


section
variable {prog : Program} {w : World} {A : Around} {E : Value → Shared → Prop} {s : Shared} {t u : Tok} {Q : Value → Shared → Prop} {X : Int}
theorem div_small {a b : Int} (hA : A.handled = none) (ha : a.natAbs < 1000) (hb : b ≠ 0) (h : Q (.float (quo a b) s.toks) { s with toks := s.toks + 1 }) : wpAny (model prog w) A (binaryOp .Div (.int a t) (.int b u)) Q E s :=
  Flt.div_ii_fits hA (Nat.lt_of_lt_of_le ha (Nat.le_trans (show 1000 ≤ 2 ^ 10 by decide) (Nat.pow_le_pow_right (by decide) (by decide)))) (fun e => absurd e hb) fun _ _ => h
theorem div_light (hA : A.handled = none) (h0 : 0 ≤ X) (h1 : X < 3) (h : ∀ l tk, 0 ≤ l → l < 3 → Q (.float (lightC l) tk) { s with toks := s.toks + 1 }) : wpAny (model prog w) A (binaryOp .Div (.int (1 + X) t) (.int 4 u)) Q E s :=
  div_small hA (by omega) (by decide) (h X _ h0 h1)
theorem div_share (hA : A.handled = none) (h0 : 0 ≤ X) (h1 : X < 2) (h : ∀ l tk, 0 ≤ l → l < 2 → Q (.float (shareC l) tk) { s with toks := s.toks + 1 }) : wpAny (model prog w) A (binaryOp .Div (.int (1 + X) t) (.int 2 u)) Q E s :=
  div_small hA (by omega) (by decide) (h X _ h0 h1)
end

theorem mul_bd {k x B : Int} (k0 : 0 ≤ k) (k1 : k ≤ 12) (h0 : -B ≤ x) (h1 : x ≤ B) (hB : B ≤ 101) : -2000 ≤ k * x ∧ k * x ≤ 2000 := by
  have a1 := Int.mul_le_mul_of_nonneg_left h1 k0
  have a2 := Int.mul_le_mul_of_nonneg_left h0 k0
  have b : k * B ≤ 12 * B := Int.mul_le_mul_of_nonneg_right k1 (by omega)
  rw [Int.mul_neg] at a2
  omega
theorem bdO {s o u k : Int} (f : TF s o u) (k0 : 1 ≤ k) (k1 : k ≤ 12) : -2000 ≤ -k * o ∧ -k * o ≤ 2000 := by
  have := mul_bd (k := k) (x := o) (B := 50) (by omega) k1 f.o0 f.o1 (by decide)
  rw [Int.neg_mul]; omega
theorem bdU {s o u k : Int} (f : TF s o u) (k0 : 1 ≤ k) (k1 : k ≤ 12) : -2000 ≤ -k * u ∧ -k * u ≤ 2000 := by
  have := mul_bd (k := k) (x := u) (B := 89) (by omega) k1 f.u0 f.u1 (by decide)
  rw [Int.neg_mul]; omega
theorem bdX {s o u k : Int} (f : TF s o u) (k0 : 1 ≤ k) (k1 : k ≤ 12) : -2000 ≤ k * (o + u - 1) ∧ k * (o + u - 1) ≤ 2000 :=
  mul_bd (B := 101) (by omega) k1 f.x0 f.x1 (by decide)
theorem bdAll {s o u k : Int} (f : TF s o u) (k0 : 1 ≤ k) (k1 : k ≤ 12) : (-2000 ≤ -k * o ∧ -k * o ≤ 2000) ∧ (-2000 ≤ -k * u ∧ -k * u ≤ 2000) ∧ (-2000 ≤ k * (o + u - 1) ∧ k * (o + u - 1) ≤ 2000) := ⟨bdO f k0 k1, bdU f k0 k1, bdX f k0 k1⟩

theorem bdTurn {s o u k : Int} {n : Nat} (f : TF s o u) (e : k = 1 + (n : Int)) (l : n < (s - 1).toNat) : (1 ≤ k ∧ k < s ∧ k ≤ 12) ∧ (-2000 ≤ -k * o ∧ -k * o ≤ 2000) ∧ (-2000 ≤ -k * u ∧ -k * u ≤ 2000) ∧ (-2000 ≤ k * (o + u - 1) ∧ k * (o + u - 1) ≤ 2000) := by
  have := f.s1
  exact ⟨by omega, bdAll f (by omega) (by omega)⟩
theorem nouF_len {l : List Int} {s o u : Int} {pre : List Int} (h : l = nouF s o u pre) : l.length = pre.length := by rw [h]; exact List.length_map ..
theorem sumTurn {s o u k : Int} {n : Nat} (f : TF s o u) (e : k = 1 + (n : Int)) (l : n < (s - 1).toNat) : ((-k * o) % s + (-k * u) % s + (k * (o + u - 1)) % s + k).fmod s = 0 ∧
    (1 ≤ ((-k * o) % s + (-k * u) % s + (k * (o + u - 1)) % s + k).fdiv s ∧ ((-k * o) % s + (-k * u) % s + (k * (o + u - 1)) % s + k).fdiv s ≤ 3) ∧
    (((-k * o) % s + (-k * u) % s + (k * (o + u - 1)) % s + k).fdiv s = 1 ↔ (-k * o) % s + (-k * u) % s + k ≤ s) := by
  have := f.s0
  have h := turn_facts (s := s) (o := o) (u := u) (h := k) this (by omega) (by omega)
  exact ⟨by rw [Int.fmod_eq_emod_of_nonneg _ (by omega)]; exact height_sum, h.2.1, h.2.2⟩



theorem zeros_len (a b c : Int) : ((([a, b, c].filter fun k => decide (k = 0)).length : Nat) : Int) = (if a = 0 then 1 else 0) + (if b = 0 then 1 else 0) + (if c = 0 then 1 else 0) := by
  by_cases ha : a = 0 <;> by_cases hb : b = 0 <;> by_cases hc : c = 0 <;> simp [ha, hb, hc]
theorem start_word (s o u : Int) : (0 : Int) = numF s o u [] ∧ ([] : List Int) = nouF s o u [] := ⟨rfl, rfl⟩
theorem turn_word {s o u n k : Int} {l pre : List Int} (h1 : n = numF s o u pre) (h2 : l = nouF s o u pre) :
    n + ((-k * o) % s + (-k * u) % s + (k * (o + u - 1)) % s + k).fdiv s * 16 ^ k.toNat = numF s o u (pre ++ [k]) ∧ l ++ [((([(-k * o) % s, (-k * u) % s, (k * (o + u - 1)) % s].filter fun k => decide (k = 0)).length : Nat) : Int)] = nouF s o u (pre ++ [k]) := by
  rw [numF_snoc, nouF_snoc, ← h1, ← h2, zeros_len]
  exact ⟨rfl, rfl⟩
theorem bints_le0 {v : Array UInt8} {ks : List Int} {s : Int} (h : KBw.bInts v = ks) (hl : ks.length = s.toNat) (hs : s ≤ 13) : (KBw.bInts v).length ≤ 1000000 := by rw [h]; omega
theorem len_known {prog : Program} {w : World} {A : Around} {E : Value → Shared → Prop} {s : Shared} {l : Addr} {ys : List Value} {ks : List Int} {p : Int → Bool} {Q : Value → Shared → Prop} (hl : s.heap.IsList l ys.toArray) (hz : ys.length = (ks.filter p).length) (hn : ks.length ≤ 1000000)
    (h : ∀ t k, Q (.int (((ks.filter p).length : Nat) : Int) t) { s with toks := k }) : wpAny (model prog w) A (call (.builtin "len") [.ref l]) Q E s := by
  have e : ys.toArray.size = (ks.filter p).length := by simpa using hz
  have hf := List.length_filter_le p ks
  refine len_list hl (by rw [e]; omega) ?_
  rw [e]
  exact h _ _

structure Word (s o u : Int) (ks : List Int) : Prop where
  ck : Checked s o u ks
theorem wordOf {s o u n : Int} (f : TF s o u) (h : n = numF s o u (rangeKs 1 (s - 1).toNat)) : 0 ≤ n ∧ (apW n.toNat).length ≤ 13 ∧ Word s o u (apW n.toNat) := by
  have c := checked (o := o) (u := u) f.s0 f.s1
  subst h
  refine ⟨c.1, ?_, ⟨c.2⟩⟩
  have := c.2.len
  have := f.s1
  unfold hts at *
  omega

theorem mem_hts {s k : Int} (h0 : 1 ≤ k) (h1 : k < s) : k ∈ hts s := by
  unfold hts rangeKs
  exact List.mem_map.mpr ⟨(k - 1).toNat, List.mem_range.mpr (by omega), by omega⟩
theorem ints_get {vs : List Value} {ns : List Int} (h : IntsAre vs ns) : ∀ i, i < ns.length → ∃ t, vs[i]? = some (.int (ns.getD i 0) t) := by
  induction h with
  | nil => intro i hi; cases hi
  | cons a t h ih =>
    intro i hi
    cases i with
    | zero => exact ⟨t, rfl⟩
    | succ i => exact ih i (Nat.lt_of_succ_lt_succ hi)
theorem item_pair {prog : Program} {w : World} {A : Around} {E : Value → Shared → Prop} {st : Shared} {value slice : PySem.Expr} {a : Addr} {vs : List Value} {ks l : List Int} {s o u k : Int} {tk : Tok} {Q : Value → Shared → Prop}
    (hL : st.heap.IsList a vs.toArray) (c : Word s o u ks) (hl : l = nouF s o u (rangeKs 1 (s - 1).toNat)) (hI : IntsAre vs l) (h0 : 1 ≤ k) (h1 : k < s) (h2 : s ≤ 13)
    (h : ∀ t, ks.getD (s - 1 - k).toNat 0 + ks.getD (k - 1).toNat 0 - 130 + l.getD (k - 1).toNat 0 = 4 → Q (.int (l.getD (k - 1).toNat 0) t) st)
    (hs : subscripted slice false (.ref a) (.int (k - 1) tk) = operate [.ref a, .int (k - 1) tk] (getItem (.ref a) (.int (k - 1) tk)) := by with_unfolding_all rfl) (hg : ∀ r, letTemporaryGo value (.ref a) r = pure () := by intro _; with_unfolding_all rfl) :
    wpAny (model prog w) A (subscriptTail value slice (.ref a) (.int (k - 1) tk)) Q E st := by
  have hn : l.length = (s - 1).toNat := by rw [hl, nouF_len rfl, rangeKs_length]
  obtain ⟨t, e⟩ := ints_get hI (k - 1).toNat (by omega)
  have hp := c.ck.pair k (mem_hts h0 h1)
  unfold hts at hp
  rw [← hl] at hp
  exact item_list hL (by omega) (by omega) (by simpa using e) (h t hp) hs hg


abbrev cntOf {s o u : Int} {ks : List Int} (_ : Word s o u ks) : Int → Int := cntF ks
abbrev kOf {ob : Obj} {k : Int} {t : Tok} (_ : ob.data = .cell (some (.int k t))) : Int := k
theorem cnt_eq {v : Array UInt8} {ks : List Int} {k : Int} (h : KBw.bInts v = ks) : ((((KBw.bInts v).filter fun x => decide (x = 65 + k)).length : Nat) : Int) = cntF ks k := by rw [h]; rfl
theorem bsize_le {v : Array UInt8} {ks : List Int} {s : Int} (h : KBw.bInts v = ks) (hl : ks.length = s.toNat) (hs : s ≤ 13) : v.size ≤ 1000000 := by rw [← KBw.ints_length]; exact bints_le0 h hl hs

theorem white_use {s o u : Int} {ks l : List Int} (f : TF s o u) (c : Word s o u ks) (hl : l = nouF s o u (rangeKs 1 (s - 1).toNat)) :
    thrSum s o u (rangeKs 0 (3 * s + 1).toNat) = 20 + 10 * cntF ks 1 + 4 * cntF ks 2 + cntF ks 3 ∧ (cntF ks 1 = 0 ↔ (l.sum = 0 ∧ ((o - 1).fmod s = 0 ∨ (u - 1).fmod s = 0 ∨ (o + u).fmod s = 0))) := by
  have := f.s0
  refine ⟨c.ck.thr, ?_⟩
  have h := c.ck.white
  unfold hts at h
  rw [← hl] at h
  rw [Int.fmod_eq_emod_of_nonneg _ (by omega), Int.fmod_eq_emod_of_nonneg _ (by omega), Int.fmod_eq_emod_of_nonneg _ (by omega)]
  exact h

local macro_rules | `(tactic| walk_at $s:str) => `(tactic| k_extra $s)
theorem law_walk : PySem.Challenge.rw_tp0005_01.Holds := hd (by
  k_with_none
  k_with "binaryOp Div int int" => ((with_reducible show wpAny _ _ (binaryOp _ _ (Value.int 4 _)) _ _ _); k_dflt (refine div_light rfl (fm (by decide)).1 (fm (by decide)).2 ?_); intro l9 k9 b8 b9)
  k_with "binaryOp Div int int" => ((with_reducible show wpAny _ _ (binaryOp _ _ (Value.int 2 _)) _ _ _); k_dflt (refine div_share rfl (fm (by decide)).1 (fm (by decide)).2 ?_); intro l9 k9 b8 b9)
  k_with "call ref" => ((with_reducible show wpAny _ _ (call (Value.ref 77) _) _ _ _); (first | (with_reducible rename Int.fmod _ _ = 0 => hsum) | (rename (_ : Int) = 1 + ((List.length _ : Nat) : Int) => kq; rename (List.length _ : Nat) < _ => kl; (obtain ⟨⟨b0, b1, b2⟩, ⟨b3, b4⟩, ⟨b5, b6⟩, b7, b8⟩ := bdTurn ‹TF _ _ _› kq kl); (obtain ⟨hsum, ⟨ht1, ht3⟩, hone⟩ := sumTurn ‹TF _ _ _› kq kl); (rename _ = nouF _ _ _ _ => hnq); (have hnl := nouF_len hnq))); k_dflt (refine fun_use (hue_fun _ _ _ _ _ _ _ _ _ _ _ _ (by first | assumption | omega) (by first | assumption | omega) (by first | assumption | omega) (by first | assumption | omega) (by assumption) (by assumption) (by assumption) (by assumption)) (by k_asm) (by k_asm) (by k_asm) (by k_asm) (by k_asm) (by k_asm) (by first | exact rfl | assumption) (by ktr_room) (by ktr_units) ?_); intro t9 h9 tk9 F9 N9; (try dsimp only); (try k_fold))
  k_with "subscriptTail List" => (k_here; k_dflt (refine kba_turn (value' := PySem.Expr.Name (PySem.Str.ofString "_") ⟨0, 0, 0, 0⟩) (fun _ => rfl) ?_; refine' kmk_slice_ints (vs := [Value.int 53 _, Value.int 45 _, Value.int 60 _]) (ns := [53, 45, 60]) (ms := List.drop _ [53, 45, 60]) (by k_asm) (by k_asm) (News.isList (by k_asm) (by k_mem)) (IsPart.int _ _) IsPart.none (IntsAre.cons _ _ (IntsAre.cons _ _ (IntsAre.cons _ _ IntsAre.nil))) (kmk_from (IntsAre.cons _ _ (IntsAre.cons _ _ (IntsAre.cons _ _ IntsAre.nil))) (Int.natCast_nonneg _)) rfl ?_ (by with_unfolding_all rfl) (by intro _; with_unfolding_all rfl) (by rw [sizeLine_eq]; exact Nat.le_of_ble_eq_true rfl)); intro D' ws' h' F' N' l1 hI' hC' hL'; clear hC' hL'; (try k_lt l1); (try k_sweep))
  k_with "call ref" => ((with_reducible show wpAny _ _ (call (Value.ref 70) _) _ _ _); (rename IntsAre _ (_ ++ _) => hI9); (obtain ⟨d0, d1, d2, a0, a1, a2, e9⟩ := drawn3 hI9); subst e9; clear hI9; (have hI8 : IntsAre [Value.int d0 a0, Value.int d1 a1, Value.int d2 a2] [d0, d1, d2] := IntsAre.cons _ _ (IntsAre.cons _ _ (IntsAre.cons _ _ IntsAre.nil))); k_dflt (refine funG_use (tetra_fun _ _ _ _ d0 d1 d2 _ a0 a1 a2) (by k_asm) (by k_asm) (by k_asm) (by k_asm) (by k_asm) (by k_asm) (by first | exact rfl | assumption) (by ktr_room) (by ktr_units) ⟨by first | is_list | exact News.isList (by assumption) (by k_mem), ?_⟩); intro D9 s9 o9 u9 t7 t8 t9 h9 tk9 tf9 ne9 F9 N9; (replace ne9 : ∀ p ∈ (_ : List (Addr × Obj)), @Ne Nat p.1 _ := ne9); (try simp only [List.forall_mem_cons, List.forall_mem_nil, and_true] at ne9); (have s0 := tf9.s0); (have s1 := tf9.s1); (try dsimp only); (try k_fold))
  k_with "pyIter ref" => k_dflt (k_extra "mine")
  k_with "call ref" => ((with_reducible show wpAny _ _ (call (Value.ref 63) _) _ _ _); k_dflt (refine fun_use (ise_fun _ _ _ _ _ _) (by k_asm) (by k_asm) (by k_asm) (by k_asm) (by k_asm) (by k_asm) (by first | exact rfl | assumption) (by ktr_room) (by ktr_units) ?_); intro t9 h9 tk9 F9 N9; (try dsimp only); (try k_fold))
  k_with "eval ListComp" => (k_here; (with_reducible show wpAny _ _ (eval (Expr.ListComp _ [⟨_, Expr.Tuple _ _ _, _, _⟩] _ _) _) _ _ _); k_dflt (refine comp_tuple (fun k => decide (k = 0)) (by k_asm) (by with_unfolding_all rfl) (by decide) (by rfl) (by decide) (by rfl) (by intro _; rfl) (by intro _; rfl) (by decide) ?_ (by intro _; rfl)))
  k_with "call ref" => ((with_reducible show wpAny _ _ (call (Value.ref 84) _) _ _ _); k_dflt (refine funG_use (points_fun _ _ _ _ _ _ _ _ _ _ _ _ (by first | assumption | omega) (by first | assumption | omega) (by first | assumption | omega)) (by k_asm) (by k_asm) (by k_asm) (by k_asm) (by k_asm) (by k_asm) (by first | exact rfl | assumption) (by ktr_room) (by ktr_units) ⟨?_, ?_⟩); (all_goals intro hC9); (all_goals (first | (exfalso; omega) | (intro D9 T9 n9 tx9 ty9 h9 tk9 ne9 ne8 ne7 F9 N9; (replace ne9 : ∀ p ∈ (_ : List (Addr × Obj)), @Ne Nat p.1 _ := ne9); (replace ne8 : ∀ p ∈ (_ : List (Addr × Obj)), @Ne Nat p.1 _ := ne8); (replace ne7 : @Ne Nat _ _ := ne7); (try simp only [List.forall_mem_cons, List.forall_mem_nil, and_true] at ne9 ne8); (try dsimp only)) | (intro D9 n9 h9 tk9 ne9 F9 N9; (replace ne9 : ∀ p ∈ (_ : List (Addr × Obj)), @Ne Nat p.1 _ := ne9); (try simp only [List.forall_mem_cons, List.forall_mem_nil, and_true] at ne9); (try dsimp only)))))
  k_with "call builtin:len" => (k_here; (with_reducible show wpAny _ _ (call (Value.builtin "len") [Value.ref _]) _ _ _); (with_reducible rename List.length _ = List.length (List.filter _ _) => hz8); k_dflt (refine len_known (News.isList (by k_asm) (by k_mem)) hz8 (by first | exact bints_le0 (by assumption) (by assumption) (by assumption) | exact Nat.le_of_ble_eq_true rfl | omega) ?_); intro t8 k8; (try dsimp only))
  k_with "TupSrc" => (k_here; k_dflt (refine ⟨_, _, _, _, _, _, _, _, _, rfl, by rfl, by k_asm, by k_asm, by k_mem, ?_, ?_⟩))
  k_with "Tests" => (intro k9 t9 I9 oI9 C9 oC9 D9 ys9 m9 h9 tk9 E9 hC9 hx9 F9 N9; (try dsimp only))
  k_with "TestPost" => k_dflt (refine TestPost.intro (by first | rfl | simp) (by k_asm) (by k_asm))
  k_with "LenFin" => (intro zs9 D9 h9 tk9 hz9 F9 N9 ne9; (try simp only [List.forall_mem_cons, List.forall_mem_nil, and_true] at ne9); (try dsimp only))
  k_with "call ref" => ((with_reducible show wpAny _ _ (call (Value.ref 42) _) _ _ _); (rename _ = numF _ _ _ (rangeKs _ _) => hw9); (obtain ⟨n9, z9, c9⟩ := wordOf ‹TF _ _ _› hw9); k_dflt (refine funG_use (ap_fun _ _ _ _ _ _ n9 z9) (by k_asm) (by k_asm) (by k_asm) (by k_asm) (by k_asm) (by k_asm) (by first | exact rfl | assumption) (by ktr_room) (by ktr_units) ?_); intro v9 t9 h9 tk9 e9 F9 N9; (try dsimp only); (rw [← e9] at c9); (clear z9); (generalize hk9 : KBw.bInts v9 = ks9 at c9 e9); (clear e9); (have cl9 := c9.ck.len); (try k_fold))
  k_with "subscriptTail Name BinOp ref int" => (k_here; (with_reducible show wpAny _ _ (subscriptTail _ _ (Value.ref _) (Value.int (_ - 1) _)) _ _ _); (with_reducible rename Word _ _ _ _ => ck9); (rename _ = nouF _ _ _ (rangeKs _ _) => hnq); k_dflt (refine item_pair (News.isList (by k_asm) (by k_mem)) ck9 hnq (by assumption) (by first | assumption | omega) (by first | assumption | omega) (by first | assumption | omega) ?_); intro t9 hp9; (try dsimp only))
  k_with "InvEndN" => ((with_reducible rename Word _ _ _ _ => ck9); k_dflt ksr_close)
  k_with "InvEndN" => ((fail_if_success (with_reducible rename Word _ _ _ _ => ck9)); k_dflt kst_close)
  k_with "exec Assign cons ListComp" => (k_here; (with_reducible show wpAny _ _ (exec (Stmt.Assign _ (Expr.ListComp (Expr.Call _ _ _ _) _ _ _) _) _) _ _ _); (with_reducible rename Word _ _ _ _ => ck9); k_dflt (refine Assign_comp_K (cntOf ck9) (by k_asm) (by rfl) (by with_unfolding_all rfl) (by with_unfolding_all rfl) (by rfl) (by decide) (by intro _ _; rfl) (by intro _; rfl) (by intro _; rfl) (by rfl) (by rfl) ?_))
  k_with "OuterSrc" => (k_here; k_dflt (refine ⟨_, _, _, _, _, rfl, by rfl, by k_asm, by k_asm, by assumption, ?_, ?_⟩); (case' refine_2 => (intro D9 ys9 h9 tk9 hv9 ne9 F9 N9; (obtain ⟨t0, t1, t2, t3, e9⟩ := hv9.four); subst e9; clear hv9; (try simp only [List.forall_mem_cons, List.forall_mem_nil, and_true] at ne9); (try dsimp only [cntOf]))))
  k_with "EltAt" => (intro k9 t9 I9 oI9 C9 oC9 K9 oK9 D9 ys9 h9 tk9 E9 kb0 kb1 hKd F9 N9; (try dsimp only))
  k_with "EltPost" => k_dflt (refine EltPost.intro (cnt_eq (by assumption)) (by k_asm) (by k_asm))
  k_with "eval ListComp" => (k_here; (with_reducible show wpAny _ _ (eval (Expr.ListComp _ [⟨_, Expr.Name _ _, _, _⟩] _ _) _) _ _ _); (with_reducible rename Obj.data _ = Data.cell (some (Value.int _ _)) => hKd); k_dflt (refine comp_bytes (fun x => decide (x = 65 + kOf hKd)) (by k_asm) (by with_unfolding_all rfl) (by decide) (by rfl) (by decide) (by rfl) (by intro _; rfl) (by intro _; rfl) (by decide) ?_ (by intro _; rfl)))
  k_with "BytesSrc" => (k_here; k_dflt (refine ⟨_, _, _, rfl, bsize_le (by assumption) (by assumption) (by assumption), by rfl, by k_asm, by k_asm, ?_, ?_⟩))
  k_with "call ref" => ((with_reducible show wpAny _ _ (call (Value.ref 91) _) _ _ _); (with_reducible rename Word _ _ _ _ => ck9); (rename _ = nouF _ _ _ (rangeKs _ _) => hnq); (obtain ⟨hthr, hwhite⟩ := white_use ‹TF _ _ _› ck9 hnq); k_dflt (refine fun_use (thrice_fun _ _ _ _ _ _ _ _ _ _ (by first | assumption | omega) (by first | assumption | omega)) (by k_asm) (by k_asm) (by k_asm) (by k_asm) (by k_asm) (by k_asm) (by first | exact rfl | assumption) (by ktr_room) (by ktr_units) ?_); intro t9 h9 tk9 F9 N9; (try dsimp only); (try k_fold))
  k_with "mine" => ((with_reducible rename Word _ _ _ _ => ck9); k_search (fun pre => True))
  k_with "mine" => ((fail_if_success (with_reducible rename Word _ _ _ _ => ck9)); k_state_given ["steps", "over", "up"] (fun (s o u : Int) pre number noughts => number = numF s o u pre ∧ noughts = nouF s o u pre) "number" "noughts")
  k_with "state" => first | with_reducible exact start_word _ _ _ | ((with_reducible refine turn_word ?_ ?_) <;> assumption)
  w_strict (k_go0; (all_goals try k_fold); k_steps))
end Mine
end

theorem PySem.Challenge.cw_tp0005_01_holds : PySem.Challenge.rw_tp0005_01.Holds :=
  Mine.law_walk
