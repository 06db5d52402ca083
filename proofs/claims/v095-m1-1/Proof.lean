import JvmDerived
import JvmDerived.Pilot.@@N@@Statement
import JvmDerived.Pilot.@@N@@Code
set_option linter.unusedVariables false
set_option linter.unusedSimpArgs false
namespace Jvm.Pilot.@@N@@
section Dyad
open Jvm.FP.Core
/-- the double x is the number m * 2 ^ (b - 1100) -/
def Dy (x : UInt64) (m : Int) (b : Nat) : Prop := ∃ (s : Bool) (c a : Nat), val64 x = .fin s c ((a : Int) - 1100) ∧ signed s c * (2 ^ a : Nat) = m * (2 ^ b : Nat)
theorem dy_sg (s : Bool) (c : Nat) (h : 0 < c) (m : Int) (x y : Nat) (hx : 0 < x) (hy : 0 < y) (e : signed s c * (x : Int) = m * (y : Int)) : signed s m.natAbs = m := by
  cases s
  · have p : 0 < (c : Int) * x := Int.mul_pos (by omega) (by omega)
    have q : 0 < m * (y : Int) := by rw [← e]; exact p
    have r : 0 < m := Int.pos_of_mul_pos_left q (by omega)
    simp only [signed, Bool.false_eq_true, if_false]
    omega
  · have p : -(c : Int) * x < 0 := by rw [Int.neg_mul]; have := Int.mul_pos (a := (c : Int)) (b := (x : Int)) (by omega) (by omega); omega
    have q : m * (y : Int) < 0 := by rw [← e]; exact p
    have r : m < 0 := by
      apply Classical.byContradiction
      intro n
      have := Int.mul_nonneg (a := m) (b := (y : Int)) (by omega) (by omega)
      omega
    simp only [signed, if_true]
    omega
theorem dy_round (s : Bool) (c A B M b : Nat) (m : Int) (e : signed s c * (2 ^ A : Nat) = m * (2 ^ B : Nat)) (hm : m.natAbs < 2 ^ 53) (hb : (B : Int) - M = b - 1100) (b1 : 78 ≤ b) (b2 : b ≤ 2000) :
    ∃ (s' : Bool) (c' a' : Nat), round b64 (.fin s c ((A : Int) - M)) = .fin s' c' ((a' : Int) - 1100) ∧ signed s' c' * (2 ^ a' : Nat) = m * (2 ^ b : Nat) := by
  by_cases hc : c = 0
  · subst hc
    have m0 : m = 0 := by
      rw [signed_zero, Int.zero_mul] at e
      have := Int.mul_eq_zero.mp e.symm
      have : 0 < 2 ^ B := Nat.two_pow_pos B
      omega
    refine ⟨s, 0, 26, ?_, ?_⟩
    · rfl
    · rw [signed_zero, m0, Int.zero_mul, Int.zero_mul]
  · have sg := dy_sg s c (by omega) m _ _ (Nat.two_pow_pos A) (Nat.two_pow_pos B) e
    have e1 : c * 2 ^ A = m.natAbs * 2 ^ B := by
      have := congrArg Int.natAbs e
      rw [Int.natAbs_mul, Int.natAbs_mul, natAbs_signed] at this
      simpa using this
    generalize hn : m.natAbs = n at *
    have n0 : n ≠ 0 := by
      intro q
      rw [q, Nat.zero_mul] at e1
      have := Nat.mul_pos (Nat.pos_of_ne_zero hc) (Nat.two_pow_pos A)
      omega
    have l1 : n.log2 ≤ 52 := by
      have := (Nat.log2_lt n0).mpr hm
      omega
    have l2 : 2 ^ n.log2 ≤ n := Nat.log2_self_le n0
    have l3 : n < 2 ^ (n.log2 + 1) := Nat.lt_log2_self
    generalize hj : 52 - n.log2 = j at *
    have j1 : n.log2 + j = 52 := by omega
    have f1 : 2 ^ 52 ≤ n * 2 ^ j := by
      rw [← j1, Nat.pow_add]
      exact Nat.mul_le_mul_right _ l2
    have f2 : n * 2 ^ j < 2 ^ 53 := by
      have : 2 ^ 53 = 2 ^ (n.log2 + 1) * 2 ^ j := by rw [← Nat.pow_add]; congr 1; omega
      rw [this]
      exact Nat.mul_lt_mul_of_pos_right l3 (Nat.two_pow_pos j)
    refine ⟨s, n * 2 ^ j, b - j, ?_, ?_⟩
    · refine roundRatio_exact good_b64 (by decide) ⟨f2, ?_, ?_, Or.inr f1⟩ ?_
      · show (-1074 : Int) ≤ _
        omega
      · show _ ≤ (971 : Int)
        omega
      · rw [Nat.mul_one]
        by_cases g : B ≤ A + j
        · have k1 : ((A : Int) - M - (((b - j : Nat) : Int) - 1100)).toNat = A + j - B := by omega
          have k2 : ((((b - j : Nat) : Int) - 1100) - ((A : Int) - M)).toNat = 0 := by omega
          rw [k1, k2, Nat.pow_zero, Nat.mul_one]
          apply Nat.eq_of_mul_eq_mul_right (Nat.two_pow_pos B)
          rw [Nat.mul_assoc, ← Nat.pow_add, show A + j - B + B = A + j by omega, Nat.pow_add, ← Nat.mul_assoc, e1, Nat.mul_assoc, Nat.mul_comm (2 ^ B), ← Nat.mul_assoc]
        · have k1 : ((A : Int) - M - (((b - j : Nat) : Int) - 1100)).toNat = 0 := by omega
          have k2 : ((((b - j : Nat) : Int) - 1100) - ((A : Int) - M)).toNat = B - (A + j) := by omega
          rw [k1, k2, Nat.pow_zero, Nat.mul_one]
          apply Nat.eq_of_mul_eq_mul_right (Nat.two_pow_pos A)
          rw [e1, Nat.mul_assoc, Nat.mul_assoc, ← Nat.pow_add, ← Nat.pow_add]
          congr 2
          omega
    · rw [signed_mul, sg, Int.mul_assoc, show ((2 ^ j : Nat) : Int) * ((2 ^ (b - j) : Nat) : Int) = ((2 ^ b : Nat) : Int) by rw [← Int.natCast_mul, ← Nat.pow_add]; congr 2; omega]
theorem dy_int (n : Int) (x : UInt64) (h : val64 x = round b64 (ofInt n)) (hn : n.natAbs < 2 ^ 53) : Dy x n 1100 := by
  have sg : signed (decide (n < 0)) n.natAbs = n := by
    by_cases q : n < 0
    · simp only [signed, q, decide_true, if_true]; omega
    · simp only [signed, q, decide_false, Bool.false_eq_true, if_false]; omega
  obtain ⟨s, c, a, h1, h2⟩ := dy_round (decide (n < 0)) n.natAbs 1100 1100 1100 1100 n (by rw [sg]) hn rfl (by decide) (by decide)
  exact ⟨s, c, a, by rw [h]; exact h1, h2⟩
theorem dy_i2d (v : Int32) : Dy (i2d v) v.toInt 1100 := dy_int _ _ (val64_i2d v) (by have := v.le_toInt; have := v.toInt_lt; omega)
theorem dy_l2d (v : Int64) (h : v.toInt.natAbs < 2 ^ 53) : Dy (l2d v) v.toInt 1100 := dy_int _ _ (val64_l2d v) h
theorem dy_mul {x y : UInt64} {m n : Int} {b d k : Nat} (hx : Dy x m b) (hy : Dy y n d) (hk : b + d = k + 1100) (h : (m * n).natAbs < 2 ^ 53) (k1 : 78 ≤ k) (k2 : k ≤ 2000) : Dy (dmul x y) (m * n) k := by
  obtain ⟨s, c, a, h1, h2⟩ := hx
  obtain ⟨t, c', a', g1, g2⟩ := hy
  have e : exactProduct (val64 x) (val64 y) = .fin (s != t) (c * c') (((a + a' : Nat) : Int) - (2200 : Nat)) := by
    rw [h1, g1]
    simp only [exactProduct]
    congr 1
    omega
  have sm : signed (s != t) (c * c') = signed s c * signed t c' := by
    cases s <;> cases t <;> simp [signed, Int.neg_mul, Int.mul_neg]
  obtain ⟨s', c2, a2, r1, r2⟩ := dy_round (s != t) (c * c') (a + a') (b + d) 2200 k (m * n) (by
    rw [sm, Nat.pow_add, Nat.pow_add, Int.natCast_mul, Int.natCast_mul]
    calc signed s c * signed t c' * (((2 ^ a : Nat) : Int) * ((2 ^ a' : Nat) : Int)) = (signed s c * ((2 ^ a : Nat) : Int)) * (signed t c' * ((2 ^ a' : Nat) : Int)) := by ac_rfl
      _ = (m * ((2 ^ b : Nat) : Int)) * (n * ((2 ^ d : Nat) : Int)) := by rw [h2, g2]
      _ = m * n * (((2 ^ b : Nat) : Int) * ((2 ^ d : Nat) : Int)) := by ac_rfl) h (by omega) k1 k2
  exact ⟨s', c2, a2, by rw [val64_dmul, e]; exact r1, r2⟩
theorem dy_add {x y : UInt64} {m n : Int} {b : Nat} (hx : Dy x m b) (hy : Dy y n b) (h : (m + n).natAbs < 2 ^ 53) (k1 : 78 ≤ b) (k2 : b ≤ 2000) : Dy (dadd x y) (m + n) b := by
  obtain ⟨s, c, a, h1, h2⟩ := hx
  obtain ⟨t, c', a', g1, g2⟩ := hy
  have sgn : ∀ (v : Int) (z : Bool), (v = 0 → True) → signed (sumSign s t v) v.natAbs = v := by
    intro v z _
    unfold sumSign
    by_cases q : v = 0
    · rw [q]; simp [signed]
    · rw [if_neg q]
      by_cases r : v < 0
      · simp only [signed, r, decide_true, if_true]; omega
      · simp only [signed, r, decide_false, Bool.false_eq_true, if_false]; omega
  generalize hmn : min a a' = w at *
  have wa : w ≤ a := by omega
  have wa' : w ≤ a' := by omega
  have hq : min ((a : Int) - 1100) ((a' : Int) - 1100) = (w : Int) - (1100 : Nat) := by omega
  have hu : sumUnits s c ((a : Int) - 1100) t c' ((a' : Int) - 1100) ((w : Int) - (1100 : Nat)) * ((2 ^ w : Nat) : Int) = (m + n) * ((2 ^ b : Nat) : Int) := by
    unfold sumUnits inUnits
    rw [show ((a : Int) - 1100 - ((w : Int) - (1100 : Nat))).toNat = a - w by omega, show ((a' : Int) - 1100 - ((w : Int) - (1100 : Nat))).toNat = a' - w by omega, signed_mul, signed_mul, Int.add_mul, Int.mul_assoc, Int.mul_assoc, ← Int.natCast_mul, ← Int.natCast_mul, ← Nat.pow_add, ← Nat.pow_add, show a - w + w = a by omega, show a' - w + w = a' by omega, h2, g2, Int.add_mul]
  have e : exactSum (val64 x) (val64 y) = .fin (sumSign s t (sumUnits s c ((a : Int) - 1100) t c' ((a' : Int) - 1100) ((w : Int) - (1100 : Nat)))) (sumUnits s c ((a : Int) - 1100) t c' ((a' : Int) - 1100) ((w : Int) - (1100 : Nat))).natAbs ((w : Int) - (1100 : Nat)) := by
    rw [h1, g1]
    simp only [exactSum]
    rw [hq]
  obtain ⟨s', c2, a2, r1, r2⟩ := dy_round _ _ w b 1100 b (m + n) (by rw [sgn _ true (fun _ => trivial)]; exact hu) h (by omega) k1 k2
  exact ⟨s', c2, a2, by rw [val64_dadd, e]; exact r1, r2⟩
theorem dy_neg {x : UInt64} {m : Int} {b : Nat} (hx : Dy x m b) : Dy (dneg x) (-m) b := by
  obtain ⟨s, c, a, h1, h2⟩ := hx
  refine ⟨!s, c, a, by rw [val64_dneg, h1]; rfl, ?_⟩
  rw [show signed (!s) c = - signed s c by cases s <;> simp [signed], Int.neg_mul, h2, Int.neg_mul]
theorem dy_sub {x y : UInt64} {m n : Int} {b : Nat} (hx : Dy x m b) (hy : Dy y n b) (h : (m - n).natAbs < 2 ^ 53) (k1 : 78 ≤ b) (k2 : b ≤ 2000) : Dy (dsub x y) (m - n) b := by
  rw [dsub_eq]
  exact dy_add hx (dy_neg hy) h k1 k2
theorem dy_ratio (s : Bool) (c d A B k n : Nat) (E : Int) (hd : 0 < d) (e : c * 2 ^ A = n * d * 2 ^ B) (hn : n < 2 ^ 53) (hE : (A : Int) - B = E - (k - 1100)) (k1 : 78 ≤ k) (k2 : k ≤ 2000) :
    ∃ (c' a' : Nat), roundRatio b64 s c d E = .fin s c' ((a' : Int) - 1100) ∧ c' * 2 ^ a' = n * 2 ^ k := by
  by_cases n0 : n = 0
  · subst n0
    have c0 : c = 0 := by
      rw [Nat.zero_mul, Nat.zero_mul] at e
      have := Nat.mul_eq_zero.mp e
      have : 0 < 2 ^ A := Nat.two_pow_pos A
      omega
    subst c0
    exact ⟨0, 26, rfl, by rw [Nat.zero_mul, Nat.zero_mul]⟩
  · have l1 : n.log2 ≤ 52 := by
      have := (Nat.log2_lt n0).mpr hn
      omega
    have l2 : 2 ^ n.log2 ≤ n := Nat.log2_self_le n0
    have l3 : n < 2 ^ (n.log2 + 1) := Nat.lt_log2_self
    generalize hj : 52 - n.log2 = j at *
    have j1 : n.log2 + j = 52 := by omega
    have f1 : 2 ^ 52 ≤ n * 2 ^ j := by
      rw [← j1, Nat.pow_add]
      exact Nat.mul_le_mul_right _ l2
    have f2 : n * 2 ^ j < 2 ^ 53 := by
      have : 2 ^ 53 = 2 ^ (n.log2 + 1) * 2 ^ j := by rw [← Nat.pow_add]; congr 1; omega
      rw [this]
      exact Nat.mul_lt_mul_of_pos_right l3 (Nat.two_pow_pos j)
    refine ⟨n * 2 ^ j, k - j, ?_, ?_⟩
    · refine roundRatio_exact good_b64 hd ⟨f2, ?_, ?_, Or.inr f1⟩ ?_
      · show (-1074 : Int) ≤ _
        omega
      · show _ ≤ (971 : Int)
        omega
      · by_cases g : B ≤ A + j
        · have q1 : (E - (((k - j : Nat) : Int) - 1100)).toNat = A + j - B := by omega
          have q2 : ((((k - j : Nat) : Int) - 1100) - E).toNat = 0 := by omega
          rw [q1, q2, Nat.pow_zero, Nat.mul_one]
          apply Nat.eq_of_mul_eq_mul_right (Nat.two_pow_pos B)
          rw [Nat.mul_assoc, ← Nat.pow_add, show A + j - B + B = A + j by omega, Nat.pow_add, ← Nat.mul_assoc, e]
          ac_rfl
        · have q1 : (E - (((k - j : Nat) : Int) - 1100)).toNat = 0 := by omega
          have q2 : ((((k - j : Nat) : Int) - 1100) - E).toNat = B - (A + j) := by omega
          rw [q1, q2, Nat.pow_zero, Nat.mul_one]
          apply Nat.eq_of_mul_eq_mul_right (Nat.two_pow_pos A)
          rw [e, show B = j + (B - (A + j)) + A by omega, Nat.pow_add, Nat.pow_add, show j + (B - (A + j)) + A - (A + j) = B - (A + j) by omega]
          ac_rfl
    · rw [Nat.mul_assoc, ← Nat.pow_add]
      congr 2
      omega
/-- an exact quotient -/
theorem dy_div {x y : UInt64} {m n r : Int} {b d k : Nat} (hx : Dy x m b) (hy : Dy y n d) (hn : n ≠ 0) (hr : m = r * n) (hk : b + 1100 = k + d) (h : r.natAbs < 2 ^ 53) (k1 : 78 ≤ k) (k2 : k ≤ 2000) : Dy (ddiv x y) r k := by
  obtain ⟨s, c, a, h1, h2⟩ := hx
  obtain ⟨t, c', a', g1, g2⟩ := hy
  have c0 : 0 < c' := by
    apply Nat.pos_of_ne_zero
    intro q
    rw [q, signed_zero, Int.zero_mul] at g2
    have := Int.mul_eq_zero.mp g2.symm
    have : 0 < 2 ^ d := Nat.two_pow_pos d
    omega
  have e1 : c * 2 ^ a = r.natAbs * n.natAbs * 2 ^ b := by
    have := congrArg Int.natAbs h2
    rw [hr, Int.natAbs_mul, Int.natAbs_mul, Int.natAbs_mul, natAbs_signed] at this
    simpa using this
  have e2 : c' * 2 ^ a' = n.natAbs * 2 ^ d := by
    have := congrArg Int.natAbs g2
    rw [Int.natAbs_mul, Int.natAbs_mul, natAbs_signed] at this
    simpa using this
  have n0 : 0 < n.natAbs := by omega
  have e3 : c * 2 ^ (a + d) = r.natAbs * c' * 2 ^ (b + a') := by
    apply Nat.eq_of_mul_eq_mul_right n0
    rw [Nat.pow_add, Nat.pow_add]
    calc c * (2 ^ a * 2 ^ d) * n.natAbs = (c * 2 ^ a) * (n.natAbs * 2 ^ d) := by ac_rfl
      _ = (r.natAbs * n.natAbs * 2 ^ b) * (c' * 2 ^ a') := by rw [e1, e2]
      _ = r.natAbs * c' * (2 ^ b * 2 ^ a') * n.natAbs := by ac_rfl
  obtain ⟨c2, a2, r1, r2⟩ := dy_ratio (s != t) c c' (a + d) (b + a') k r.natAbs ((a : Int) - 1100 - ((a' : Int) - 1100)) c0 e3 h (by omega) k1 k2
  refine ⟨s != t, c2, a2, ?_, ?_⟩
  · rw [val64_ddiv, h1, g1]
    simp only [quotient]
    rw [if_neg (by omega)]
    exact r1
  · have e4 : signed (s != t) c2 * ((2 ^ a2 : Nat) : Int) = signed (s != t) (r.natAbs) * ((2 ^ k : Nat) : Int) := by
      rw [← signed_mul, ← signed_mul, r2]
    rw [e4]
    congr 1
    by_cases q : r = 0
    · rw [q]; exact signed_zero _
    · have cc : 0 < c := by
        apply Nat.pos_of_ne_zero
        intro z
        rw [z, Nat.zero_mul] at e1
        have : 0 < r.natAbs * n.natAbs * 2 ^ b := Nat.mul_pos (Nat.mul_pos (by omega) n0) (Nat.two_pow_pos b)
        omega
      have s1 := dy_sg s c cc m _ _ (Nat.two_pow_pos a) (Nat.two_pow_pos b) h2
      have s2 := dy_sg t c' c0 n _ _ (Nat.two_pow_pos a') (Nat.two_pow_pos d) g2
      have s3 : signed (s != t) (r.natAbs * n.natAbs) * signed t n.natAbs = signed s m.natAbs * (n.natAbs : Int) := by
        rw [hr, Int.natAbs_mul]
        cases s <;> cases t <;> simp [signed, Int.neg_mul, Int.mul_neg]
      rw [s1, s2, hr, signed_mul] at s3
      have s4 : signed (s != t) r.natAbs * ((n.natAbs : Int) * n) = r * ((n.natAbs : Int) * n) := by
        calc signed (s != t) r.natAbs * ((n.natAbs : Int) * n) = signed (s != t) r.natAbs * (n.natAbs : Int) * n := by ac_rfl
          _ = r * n * (n.natAbs : Int) := s3
          _ = r * ((n.natAbs : Int) * n) := by ac_rfl
      exact Int.eq_of_mul_eq_mul_right (Int.mul_ne_zero (by omega) hn) s4
theorem dy_fin {x : UInt64} {m : Int} {b : Nat} (h : Dy x m b) : val64 x ≠ .nan := by
  obtain ⟨s, c, a, h1, -⟩ := h
  rw [h1]
  exact nofun
theorem dy_cmp {x y : UInt64} {m n : Int} {b : Nat} (hx : Dy x m b) (hy : Dy y n b) : dcmp x y = some (compare m n) := by
  obtain ⟨s, c, a, h1, h2⟩ := hx
  obtain ⟨t, c', a', g1, g2⟩ := hy
  show order (val64 x) (val64 y) = _
  rw [h1, g1]
  simp only [order]
  congr 1
  generalize hmn : min a a' = w at *
  have wa : w ≤ a := by omega
  have wa' : w ≤ a' := by omega
  have hq : min ((a : Int) - 1100) ((a' : Int) - 1100) = (w : Int) - 1100 := by omega
  rw [hq]
  unfold inUnits
  rw [show ((a : Int) - 1100 - ((w : Int) - 1100)).toNat = a - w by omega, show ((a' : Int) - 1100 - ((w : Int) - 1100)).toNat = a' - w by omega]
  have p1 : signed s (c * 2 ^ (a - w)) * ((2 ^ w : Nat) : Int) = m * ((2 ^ b : Nat) : Int) := by
    rw [signed_mul, Int.mul_assoc, ← Int.natCast_mul, ← Nat.pow_add, show a - w + w = a by omega, h2]
  have p2 : signed t (c' * 2 ^ (a' - w)) * ((2 ^ w : Nat) : Int) = n * ((2 ^ b : Nat) : Int) := by
    rw [signed_mul, Int.mul_assoc, ← Int.natCast_mul, ← Nat.pow_add, show a' - w + w = a' by omega, g2]
  generalize signed s (c * 2 ^ (a - w)) = u at *
  generalize signed t (c' * 2 ^ (a' - w)) = v at *
  have hw : (0 : Int) < ((2 ^ w : Nat) : Int) := Int.natCast_pos.mpr (Nat.two_pow_pos w)
  have hb : (0 : Int) < ((2 ^ b : Nat) : Int) := Int.natCast_pos.mpr (Nat.two_pow_pos b)
  have lt : u < v ↔ m < n := by
    constructor
    · intro q
      have := Int.mul_lt_mul_of_pos_right q hw
      rw [p1, p2] at this
      exact Int.lt_of_mul_lt_mul_right this (by omega)
    · intro q
      have := Int.mul_lt_mul_of_pos_right q hb
      rw [← p1, ← p2] at this
      exact Int.lt_of_mul_lt_mul_right this (by omega)
  have eq : u = v ↔ m = n := by
    constructor
    · intro q
      rw [q] at p1
      exact Int.eq_of_mul_eq_mul_right (by omega) (p1.symm.trans p2)
    · intro q
      rw [q] at p1
      exact Int.eq_of_mul_eq_mul_right (by omega) (p1.trans p2.symm)
  simp only [compare, compareOfLessAndEq, lt, eq]
theorem dy_up {x : UInt64} {m : Int} {b : Nat} (h : Dy x m b) (k : Nat) (hk : k ≤ b) : Dy x (m * (2 ^ k : Nat)) (b - k) := by
  obtain ⟨s, c, a, h1, h2⟩ := h
  exact ⟨s, c, a, h1, by rw [h2, Int.mul_assoc, ← Int.natCast_mul, ← Nat.pow_add, show k + (b - k) = b by omega]⟩
theorem dy_four : Dy 4616189618054758400 1 1102 := ⟨false, 2 ^ 52, 1050, by decide +kernel, by decide +kernel⟩
theorem dy_sixteen : Dy 4625196817309499392 1 1104 := ⟨false, 2 ^ 52, 1052, by decide +kernel, by decide +kernel⟩
theorem dy_m180 : Dy 13863909240395005952 (-720) 1098 := ⟨true, 45 * 2 ^ 47, 1055, by decide +kernel, by decide +kernel⟩
theorem dy_p180 : Dy 4640537203540230144 720 1098 := ⟨false, 45 * 2 ^ 47, 1055, by decide +kernel, by decide +kernel⟩
theorem dy_m90 : Dy 13859405640767635456 (-360) 1098 := ⟨true, 45 * 2 ^ 47, 1054, by decide +kernel, by decide +kernel⟩
theorem dy_p90 : Dy 4636033603912859648 360 1098 := ⟨false, 45 * 2 ^ 47, 1054, by decide +kernel, by decide +kernel⟩
theorem own_q4 (x : Int32) : Dy (ddiv (i2d x) 4616189618054758400) x.toInt 1098 :=
  dy_div (dy_i2d x) dy_four (by decide) (by omega) (by omega) (by have := x.le_toInt; have := x.toInt_lt; omega) (by decide) (by decide)
theorem own_q16 (x : Int64) (h : x.toInt.natAbs < 2 ^ 53) : Dy (ddiv (l2d x) 4625196817309499392) x.toInt 1096 :=
  dy_div (dy_l2d x h) dy_sixteen (by decide) (by omega) (by omega) h (by decide) (by decide)
theorem own_sq (z : Int) (h1 : -1440 ≤ z) (h2 : z ≤ 1440) : 0 ≤ z * z ∧ z * z ≤ 2073600 := by
  by_cases q : 0 ≤ z
  · exact ⟨Int.mul_nonneg q q, Int.mul_le_mul h2 h2 q (by omega)⟩
  · have e : z * z = (-z) * (-z) := by rw [Int.neg_mul_neg]
    rw [e]
    have u : -z ≤ 1440 := by omega
    have w : 0 ≤ -z := by omega
    exact ⟨Int.mul_nonneg w w, Int.mul_le_mul u u w (by omega)⟩
theorem own_df {x y : UInt64} {m n : Int} (hx : Dy x m 1098) (hy : Dy y n 1098) (h1 : -720 ≤ m ∧ m ≤ 720) (h2 : -720 ≤ n ∧ n ≤ 720) : Dy (dsub x y) (m - n) 1098 :=
  dy_sub hx hy (by omega) (by decide) (by decide)
theorem own_ml {x : UInt64} {m : Int} (hx : Dy x m 1098) (h1 : -1440 ≤ m ∧ m ≤ 1440) : Dy (dmul x x) (m * m) 1096 :=
  dy_mul hx hx (by decide) (by have := own_sq m h1.1 h1.2; omega) (by decide) (by decide)
theorem own_sm {x y : UInt64} {m n : Int} (hx : Dy x m 1098) (hy : Dy y n 1098) (h1 : -1440 ≤ m ∧ m ≤ 1440) (h2 : -1440 ≤ n ∧ n ≤ 1440) : Dy (dadd (dmul x x) (dmul y y)) (m * m + n * n) 1096 :=
  dy_add (own_ml hx h1) (own_ml hy h2) (by have := own_sq m h1.1 h1.2; have := own_sq n h2.1 h2.2; omega) (by decide) (by decide)
theorem dy_nn {x : UInt64} {m : Int} {b : Nat} (h : Dy x m b) : Jvm.Free.Fl.NoNaN64 x := Jvm.Free.Fl.val64_no.mpr (dy_fin h)
end Dyad
end Jvm.Pilot.@@N@@
namespace Jvm.Pilot.@@N@@
open Jvm Jvm.ClassFile Sem Op Lib Jvm.Free Jvm.Stand Jvm.LawKit Jvm.RoadKit Bundle Jvm.Pilot.@@N@@.Jvm.D
/-! what the case's words say of the start -/
section OwnS
variable {s : State} {args : Array Value} {t u : Term} {a b : Addr} {cl : Cell} {ty : FieldType} {v : Value}
theorem own_eqv (h : (Jvm.Cond.eq t u).value args s none s [] = some true) (hu : u.eval args s none [] s = some v) : t.eval args s none [] s = some v := by
  obtain ⟨x, y, ha, hb, -, -⟩ := cmp_v (Or.inl h)
  cases hb.symm.trans hu
  rw [ha]
  cases x <;> cases v <;> simp [Jvm.Cond.value, ha, hu] at h <;> simp [h]
theorem own_fld {C n d : String} (h : (Jvm.Cond.eq (Term.field t C n d) u).value args s none s [] = some true) (ht : t.eval args s none [] s = some (.ref a)) (hu : u.eval args s none [] s = some v) : Fld s s.heap a C n d v := by
  have q := own_eqv h hu
  rw [fld_at ht] at q
  exact Fld.start q
theorem own_len {z : Int32} (h : (Jvm.Cond.eq (Term.length t) u).value args s none s [] = some true) (ht : t.eval args s none [] s = some (.ref a)) (A : Arr s s.heap a cl ty) (hu : u.eval args s none [] s = some (.int z)) (hz : ¬ z < 0) : cl.slots.size = z.toNatClampNeg ∧ cl.slots.size < 2 ^ 31 := by
  have q := own_eqv h hu
  have f := Arr.fin (U := s) (Vm.Alike.refl _) A
  have hl : cl.slots.size < 2 ^ 31 := by
    apply Classical.byContradiction
    intro n
    simp [Term.eval, ht, f, n] at q
  rw [len_f ht f hl] at q
  have e : cl.slots.size.toInt32 = z := by simpa using q
  refine ⟨?_, hl⟩
  rw [← e]
  simp only [Int32.toNatClampNeg, len_toInt hl]
  rfl
theorem own_elem {j : Term} {z : Int32} (h : (Jvm.Cond.eq (Term.elem t j) u).value args s none s [] = some true) (ht : t.eval args s none [] s = some (.ref a)) (A : Arr s s.heap a cl ty) (hj : j.eval args s none [] s = some (.int z)) (hu : u.eval args s none [] s = some v) : cl.slots[z.toNatClampNeg]? = some v :=
  (elem_in (own_eqv h hu) ht hj A.1).2
theorem own_has3 {vs : List Value} {z : Int32} {dv : Value} (hf : Fit s) (A : Arr s s.heap a cl ty) (q : cl.slots.size < 2 ^ 31) (S : cl.slots.size = z.toNatClampNeg) (H : HasL cl 0 vs) (hl : z.toNatClampNeg = vs.length := by rfl) : Has cl vs dv ∧ ∀ i, i < cl.slots.size → fits ty (vs.getD i dv) = true := by
  have H' : Has cl vs dv := fun j hj => by
    have := HasL.at (dv := dv) vs 0 H j (by rw [← hl, ← S]; exact hj)
    rwa [Nat.zero_add] at this
  refine ⟨H', fun j hj => ?_⟩
  have e1 : (Nat.toInt32 j).toNatClampNeg = j := by simp only [Int32.toNatClampNeg, len_toInt (Nat.lt_trans hj q)]; rfl
  exact elem_fits (j := Nat.toInt32 j) hf A (idx_in hj q) (by rw [e1]; exact H' j hj)
theorem own_arv {vs : List Value} {z : Int32} (dv : Value) (hf : Fit s) (A : Arr s s.heap a cl ty) (q : cl.slots.size = z.toNatClampNeg ∧ cl.slots.size < 2 ^ 31) (hz : ¬ z < 0) (H : HasL cl 0 vs) (hl : z.toNatClampNeg = vs.length := by rfl) : Arv s s.heap a cl.cls ty z vs dv := by
  obtain ⟨h1, h2⟩ := own_has3 (dv := dv) hf A q.2 q.1 H hl
  exact ⟨cl, A, rfl, q.1, hz, h1, h2⟩
theorem own_fldr {C n d : String} (ht : t.eval args s none [] s = some (.ref a)) (hu : (Term.field t C n d).eval args s none [] s = some v) : Fld s s.heap a C n d v := Fld.start (by rw [← fld_at ht]; exact hu)
end OwnS
end Jvm.Pilot.@@N@@
namespace Jvm.Pilot.@@N@@
open Jvm Jvm.ClassFile Sem Op Lib Jvm.Free Jvm.Stand Jvm.LawKit Jvm.RoadKit Bundle Jvm.Pilot.@@N@@.Jvm.D
/-- from here the run comes to a state of which G holds -/
def OWay (p : Program) (e : Env) (below : List Frame) (G : State → Prop) (T : State) (g : JFrame) : Prop := ∃ t, Steps p.tables e below (T.setTop g) t ∧ G t
/-- how a body ends: it returned, with what Q says of its value, the heap and the places written -/
def OEnd (s : State) (below : List Frame) (Q : Option Value → Heap → List Loc → Prop) (cs sl : Nat) (t : State) : Prop := ∃ o, t.status = .running ∧ Ended t below o ∧ ∃ v L, o = .returned v ∧ Q v t.heap L ∧ FrameEnd s o t L cs sl
/-- a body's contract, as a call wants it -/
def OCon (l : Launch) (y : MethodName) (bytes : ByteArray) (maxL : Nat) (rt : Option FieldType) (ws : List Jvm.Cond) (rm : Room) (Z : State) (as' : Array Value) (h : Heap) (Q : Option Value → Heap → List Loc → Prop) : Prop :=
  MetFree l y (head1 (Jvm.Cond.code y bytes maxL rt :: ws) rm) (fun a U => a = as' ∧ Z.Warmed39 U.vm ∧ U.heap = h) (fun _ _ _ _ _ => True) (fun _ U o U' => ∃ v L, o = .returned v ∧ Q v U'.heap L ∧ FrameEnd U o U' L rm.cells rm.slots)
section Own
variable {p : Program} {l : Launch} {e : Env} {R : Room} {s : State} {m : MethodId} {args : Array Value} {below : List Frame} {meth : Method} {c : Code} {T T' : State} {locs : List Loc} {cells slots : Nat} {Z : State} {a0 : Array Value} {h : Heap} {G : State → Prop} {g g' : JFrame} {Q : Option Value → Heap → List Loc → Prop} {cs sl : Nat}
theorem ogo (q : ∀ t, Steps p.tables e below (T'.setTop g') t → Steps p.tables e below (T.setTop g) t) (w : OWay p e below G T' g') : OWay p e below G T g := by
  obtain ⟨t, h1, h2⟩ := w
  exact ⟨t, q t h1, h2⟩
theorem ogoS (q : Steps p.tables e below (T.setTop g) (T'.setTop g')) (w : OWay p e below G T' g') : OWay p e below G T g := ogo (fun _ k => q.trans k) w
theorem ogoE (q : g = g') (w : OWay p e below G T g') : OWay p e below G T g := q ▸ w
theorem ocon {y : MethodName} {bytes : ByteArray} {maxL : Nat} {rt : Option FieldType} {ws : List Jvm.Cond} {rm : Room} {as' : Array Value} (hp : plainFor y = true)
    (body : ∀ (p : Program) (e : Env) (s : State) (m : MethodId) (below : List Frame) (meth : Method) (c : Code) (s₁ : State), p.tables.exec = Jvm.exec → c.code = bytes → c.maxLocals = maxL → s.vm.findClass y.cls = some m.cls → meth.name = y.name → meth.sig.returnType = rt → meth.locks = false → Z.Warmed39 s.vm →
      Stand p l e rm s m as' below meth c s₁ [] 0 0 → s₁.heap = h → OWay p e below (OEnd s below Q rm.cells rm.slots) s₁ (entryFrame m as' maxL)) : OCon l y bytes maxL rt ws rm Z as' h Q := by
  refine MetFree.of_bodySF hp hisR ?_
  intro p e s m args below meth c s₁ Bd hml0 hP hK
  obtain ⟨rfl, hZ, hh⟩ := hP
  obtain ⟨t, h1, o, h2, h3, h4⟩ := body p e s m below meth c s₁ Bd.exec Bd.bytes hml0 (findClass_of_methodNamed Bd.named) (name_of_methodNamed Bd.named Bd.method).1 Bd.returns Bd.notSynchronized hZ (Stand.of_body Bd) (by rw [← hh, Bd.state]; rfl)
  exact ⟨t, o, h1, h2, h3, h4⟩
theorem wRetN (X : Stand p l e R s m args below meth c T locs cells slots) (hx : p.tables.exec = Jvm.exec) {pc : Nat} {Ls : Array Slot} {z : Int32} {t : FieldType} {rest : List Value} (hret : meth.sig.returnType = some t) (hlk : meth.locks = false) (ht : t = .boolean ∨ t = .byte ∨ t = .char ∨ t = .short)
    (hd : decode c.code pc = .ok (.ireturn, 1)) (hc : cells ≤ cs) (hs : slots ≤ sl) (eT : T.heap = h) (hq : Q (some (.int (nar t z))) h locs) : OWay p e below (OEnd s below Q cs sl) T (mkF m pc Ls (.int z :: rest)) := by
  obtain ⟨fs, hr, hrun, hended, hW, hsame⟩ := X.leave (v := some (.int (nar t z))) (fun q => by rw [hret] at q; cases q) hlk
  exact ⟨_, retN X hx hret ht hd hr, _, hrun, hended, _, _, rfl, by subst eT; exact hq, ⟨_, rfl⟩, hW, hsame.mono hc hs⟩
theorem wRet (X : Stand p l e R s m args below meth c T locs cells slots) (hx : p.tables.exec = Jvm.exec) {pc : Nat} {Ls : Array Slot} {w : Value} {t : FieldType} {i : Instr} {rest : List Value} (hret : meth.sig.returnType = some t) (hlk : meth.locks = false) (hn : narrow t w = w)
    (hi : (i = .ireturn ∧ (t = .int ∨ t = .boolean ∨ t = .byte ∨ t = .char ∨ t = .short) ∧ ∃ z, w = .int z) ∨ (i = .lreturn ∧ t = .long ∧ ∃ z, w = .long z) ∨ (i = .dreturn ∧ t = .double ∧ ∃ z, w = .double z) ∨ (i = .freturn ∧ t = .float ∧ ∃ z, w = .float z) ∨ (i = .areturn ∧ t.isReference = true ∧ w.isRef = true))
    (hd : decode c.code pc = .ok (i, 1)) (hc : cells ≤ cs) (hs : slots ≤ sl) (eT : T.heap = h) (hq : Q (some w) h locs) : OWay p e below (OEnd s below Q cs sl) T (mkF m pc Ls (w :: rest)) := by
  obtain ⟨fs, hr, hrun, hended, hW, hsame⟩ := X.leave (v := some w) (fun q => by rw [hret] at q; cases q) hlk
  exact ⟨_, retOut X hx hret hn hi hd hr, _, hrun, hended, _, _, rfl, by subst eT; exact hq, ⟨_, rfl⟩, hW, hsame.mono hc hs⟩
theorem wRetV (X : Stand p l e R s m args below meth c T locs cells slots) (hx : p.tables.exec = Jvm.exec) {pc : Nat} {Ls : Array Slot} (hret : meth.sig.returnType = none) (hlk : meth.locks = false)
    (hd : decode c.code pc = .ok (.return_, 1)) (hc : cells ≤ cs) (hs : slots ≤ sl) (eT : T.heap = h) (hq : Q none h locs) : OWay p e below (OEnd s below Q cs sl) T (mkF m pc Ls []) := by
  obtain ⟨fs, hr, hrun, hended, hW, hsame⟩ := X.leave (v := none) (fun _ => rfl) hlk
  exact ⟨_, X.returnOut hx hret hd hr, _, hrun, hended, _, _, rfl, by subst eT; exact hq, ⟨_, rfl⟩, hW, hsame.mono hc hs⟩
theorem wStatic (X : Stand p l e R s m args below meth c T locs cells slots) (hx : p.tables.exec = Jvm.exec) (hZ : Z.Warmed39 s.vm) {own : String} {index : Nat} {y : MethodName} {bytes : ByteArray} {maxL : Nat} {rt : Option FieldType} {rm : Room} {as' : Array Value} (hown : s.vm.findClass own = some m.cls)
    (w1 : (Jvm.Cond.methodLink own index y).before a0 Z = true) (w2 : (Jvm.Cond.static y).before a0 Z = true) (w3 : (Jvm.Cond.initialized y.cls).before a0 Z = true) (w4 : (Jvm.Cond.code y bytes maxL rt).before a0 Z = true) (hy : y.cls ≠ "java/lang/invoke/MethodHandle" ∧ y.cls ≠ "java/lang/invoke/VarHandle")
    (hM : OCon l y bytes maxL rt [] rm Z as' h Q) (W : Nat) (hf : rm.frames + 1 ≤ R.frames) (hl : W + (maxL + 11) + rm.locals ≤ R.locals) {g : JFrame} (hg : g.method = m) (hsize : g.locals.size = c.maxLocals) {argsL rest : List Value} (hlen : ∀ sig, parseMethodDescriptor y.desc = some sig → argsL.length = sig.parameters.length)
    (hstack : g.stack = argsL.reverse ++ rest) (hW : 2 * g.monitorRoom + (rest.map fun v => v.category).sum ≤ W) (hd : decode c.code g.pc = .ok (.invokestatic index, 3)) (has : argsL.toArray = as') (eT : T.heap = h) (hc : cells + rm.cells ≤ R.cells) (hs : slots + rm.slots ≤ R.slots) :
    ∃ (v : Option Value) (T' : State) (L : List Loc), Stand p l e R s m args below meth c T' (locs ++ L) (cells + rm.cells) (slots + rm.slots) ∧ Q v T'.heap L ∧ ∀ target, Steps p.tables e below (T'.setTop { g with pc := g.pc + 3, stack := v.toList ++ rest }) target → Steps p.tables e below (T.setTop g) target := by
  obtain ⟨v, _, ⟨T1, L1, k1, n1⟩, -, X1, ⟨Lc, hQ, l1, y1, z1⟩, st⟩ := Jvm.LawKit.callS X hx (y := y) hown (mvT hZ w1) (mvT hZ w2) (mvT hZ w3) (mvT hZ w4) hy (backOf (W := W) hM hZ w4 w3 hf hl) (g := g) hg hsize (argsL := argsL) (rest := rest) hlen hstack hW hd (fun _ _ => ⟨has, eT, hc, hs⟩)
  dsimp only [Pt.U, Pt.locs, Pt.cells, Pt.slots] at X1 l1 y1 z1 st hQ
  subst l1 y1 z1
  exact ⟨v, T1, Lc, X1, hQ, st⟩
theorem wInit (X : Stand p l e R s m args below meth c T locs cells slots) (hx : p.tables.exec = Jvm.exec) (hZ : Z.Warmed39 s.vm) {own : String} {index : Nat} {y : MethodName} {bytes : ByteArray} {maxL : Nat} {rm : Room} {as' : Array Value} (hy1 : y.name = "<init>") (hown : s.vm.findClass own = some m.cls)
    (w1 : (Jvm.Cond.methodLink own index y).before a0 Z = true) (w2 : (Jvm.Cond.instanceMethod y).before a0 Z = true) (w3 : (Jvm.Cond.initialized y.cls).before a0 Z = true) (w4 : (Jvm.Cond.code y bytes maxL none).before a0 Z = true) (hy : y.cls ≠ "java/lang/invoke/MethodHandle" ∧ y.cls ≠ "java/lang/invoke/VarHandle")
    (hM : OCon l y bytes maxL none [] rm Z as' h Q) (W : Nat) (hf : rm.frames + 1 ≤ R.frames) (hl : W + (maxL + 11) + rm.locals ≤ R.locals) {g : JFrame} (hg : g.method = m) (hsize : g.locals.size = c.maxLocals) {a : Addr} {argsL rest : List Value} (hlen : ∀ sig, parseMethodDescriptor y.desc = some sig → argsL.length = sig.parameters.length)
    (hstack : g.stack = argsL.reverse ++ .ref a :: rest) (hW : 2 * g.monitorRoom + (rest.map fun v => v.category).sum ≤ W) (hd : decode c.code g.pc = .ok (.invokespecial index, 3)) (has : (.ref a :: argsL).toArray = as') (eT : T.heap = h) (hc : cells + rm.cells ≤ R.cells) (hs : slots + rm.slots ≤ R.slots) :
    ∃ (v : Option Value) (T' : State) (L : List Loc), Stand p l e R s m args below meth c T' (locs ++ L) (cells + rm.cells) (slots + rm.slots) ∧ Q v T'.heap L ∧ Steps p.tables e below (T.setTop g) (T'.setTop { g with pc := g.pc + 3, stack := v.toList ++ rest }) := by
  obtain ⟨v, _, ⟨T1, L1, k1, n1⟩, -, X1, ⟨Lc, hQ, l1, y1, z1⟩, st⟩ := X.specialBack hx (y := y) hy1 hown (mvT hZ w1) (mvT hZ w2) (mvT hZ w4) hy (backOf (W := W) hM hZ w4 w3 hf hl) (g := g) hg hsize (Steps.refl _) (a := a) (argsL := argsL) (rest := rest) hlen hstack hW hd (fun _ _ => ⟨has, eT, hc, hs⟩)
  dsimp only [Pt.U, Pt.locs, Pt.cells, Pt.slots] at X1 l1 y1 z1 st hQ
  subst l1 y1 z1
  exact ⟨v, T1, Lc, X1, hQ, st⟩
theorem wVirtual (X : Stand p l e R s m args below meth c T locs cells slots) (hx : p.tables.exec = Jvm.exec) (hZ : Z.Warmed39 s.vm) {own C : String} {index : Nat} {y z : MethodName} {bytes : ByteArray} {maxL : Nat} {rt : Option FieldType} {rm : Room} {as' : Array Value} (hown : s.vm.findClass own = some m.cls)
    (w1 : (Jvm.Cond.methodLink own index y).before a0 Z = true) (w2 : (Jvm.Cond.declares y).before a0 Z = true) (nf : NotFace s y) (w5 : (Jvm.Cond.selects C y z).before a0 Z = true) (w6 : (Jvm.Cond.instanceMethod z).before a0 Z = true) (w3 : (Jvm.Cond.initialized z.cls).before a0 Z = true) (w4 : (Jvm.Cond.code z bytes maxL rt).before a0 Z = true)
    (hy : y.cls ≠ "java/lang/invoke/MethodHandle" ∧ y.cls ≠ "java/lang/invoke/VarHandle") (hM : OCon l z bytes maxL rt [] rm Z as' h Q) (W : Nat) (hf : rm.frames + 1 ≤ R.frames) (hl : W + (maxL + 11) + rm.locals ≤ R.locals) {b : Addr} (E : Exa Z h b C) {g : JFrame} (hg : g.method = m) (hsize : g.locals.size = c.maxLocals) {argsL rest : List Value} (hlen : ∀ sig, parseMethodDescriptor y.desc = some sig → argsL.length = sig.parameters.length)
    (hstack : g.stack = argsL.reverse ++ .ref b :: rest) (hW : 2 * g.monitorRoom + (rest.map fun v => v.category).sum ≤ W) (hd : decode c.code g.pc = .ok (.invokevirtual index, 3)) (has : (.ref b :: argsL).toArray = as') (eT : T.heap = h) (hc : cells + rm.cells ≤ R.cells) (hs : slots + rm.slots ≤ R.slots) :
    ∃ (v : Option Value) (T' : State) (L : List Loc), Stand p l e R s m args below meth c T' (locs ++ L) (cells + rm.cells) (slots + rm.slots) ∧ Q v T'.heap L ∧ Steps p.tables e below (T.setTop g) (T'.setTop { g with pc := g.pc + 3, stack := v.toList ++ rest }) := by
  obtain ⟨cq, kq, qa, qb, qc⟩ := isOf hZ eT E
  obtain ⟨v, _, ⟨T1, L1, k1, n1⟩, -, X1, ⟨Lc, hQ, l1, y1, z1⟩, st⟩ := X.virtualBack hx (y := y) (z := z) hown (mvT hZ w1) (mvT hZ w2) nf (mvT hZ w5) (mvT hZ w6) hy (backOf (W := W) hM hZ w4 w3 hf hl) qa qc (g := g) hg hsize (Steps.refl _) (argsL := argsL) (rest := rest) hlen hstack hW hd (fun _ _ => ⟨has, eT, hc, hs⟩)
  dsimp only [Pt.U, Pt.locs, Pt.cells, Pt.slots] at X1 l1 y1 z1 st hQ
  subst l1 y1 z1
  exact ⟨v, T1, Lc, X1, hQ, st⟩
end Own
end Jvm.Pilot.@@N@@
namespace Jvm.Pilot.@@N@@
open Jvm Jvm.ClassFile Sem Op Lib Jvm.Free Jvm.Stand Jvm.LawKit Jvm.RoadKit Bundle Jvm.Pilot.@@N@@.Jvm.D
section OwnP
variable {p : Program} {l : Launch} {e : Env} {R : Room} {s : State} {m : MethodId} {args : Array Value} {below : List Frame} {meth : Method} {c : Code} {T T' : State} {locs : List Loc} {cells slots : Nat} {Z : State} {a0 : Array Value} {h : Heap} {Q : Option Value → Heap → List Loc → Prop}
theorem wPrivate (X : Stand p l e R s m args below meth c T locs cells slots) (hx : p.tables.exec = Jvm.exec) (hZ : Z.Warmed39 s.vm) {own C : String} {index : Nat} {y : MethodName} {bytes : ByteArray} {maxL : Nat} {rt : Option FieldType} {rm : Room} {as' : Array Value} (hown : s.vm.findClass own = some m.cls)
    (w1 : (Jvm.Cond.methodLink own index y).before a0 Z = true) (w2 : (Jvm.Cond.instanceMethod y).before a0 Z = true) (w5 : (Jvm.Cond.selects y.cls y y).before a0 Z = true) (w6 : (Jvm.Cond.privateMethod y).before a0 Z = true) (w3 : (Jvm.Cond.initialized y.cls).before a0 Z = true) (w4 : (Jvm.Cond.code y bytes maxL rt).before a0 Z = true)
    (hy : y.cls ≠ "java/lang/invoke/MethodHandle" ∧ y.cls ≠ "java/lang/invoke/VarHandle") (hM : OCon l y bytes maxL rt [] rm Z as' h Q) (W : Nat) (hf : rm.frames + 1 ≤ R.frames) (hl : W + (maxL + 11) + rm.locals ≤ R.locals) {b : Addr} (E : Exa Z h b C) {g : JFrame} (hg : g.method = m) (hsize : g.locals.size = c.maxLocals) {argsL rest : List Value} (hlen : ∀ sig, parseMethodDescriptor y.desc = some sig → argsL.length = sig.parameters.length)
    (hstack : g.stack = argsL.reverse ++ .ref b :: rest) (hW : 2 * g.monitorRoom + (rest.map fun v => v.category).sum ≤ W) (hd : decode c.code g.pc = .ok (.invokevirtual index, 3)) (has : (.ref b :: argsL).toArray = as') (eT : T.heap = h) (hc : cells + rm.cells ≤ R.cells) (hs : slots + rm.slots ≤ R.slots) :
    ∃ (v : Option Value) (T' : State) (L : List Loc), Stand p l e R s m args below meth c T' (locs ++ L) (cells + rm.cells) (slots + rm.slots) ∧ Q v T'.heap L ∧ Steps p.tables e below (T.setTop g) (T'.setTop { g with pc := g.pc + 3, stack := v.toList ++ rest }) := by
  obtain ⟨cq, q, q'⟩ := E.cell
  obtain ⟨v, _, ⟨T1, L1, k1, n1⟩, -, X1, ⟨Lc, hQ, l1, y1, z1⟩, st⟩ := X.privateBack hx (y := y) hown (mvT hZ w1) (mvT hZ w2) (mvT hZ w5) (Cond.privateMethod_at (mvP hZ w6 (args := #[]))) (mvT hZ w4) hy (backOf (W := W) hM hZ w4 w3 hf hl) (g := g) hg hsize (Steps.refl _) (a := b) (by rw [eT]; exact q) q' (argsL := argsL) (rest := rest) hlen hstack hW hd (fun _ _ => ⟨has, eT, hc, hs⟩)
  dsimp only [Pt.U, Pt.locs, Pt.cells, Pt.slots] at X1 l1 y1 z1 st hQ
  subst l1 y1 z1
  exact ⟨v, T1, Lc, X1, hQ, st⟩
theorem wInterface (X : Stand p l e R s m args below meth c T locs cells slots) (hx : p.tables.exec = Jvm.exec) (hZ : Z.Warmed39 s.vm) {own C : String} {index count : Nat} {y z : MethodName} {bytes : ByteArray} {maxL : Nat} {rt : Option FieldType} {rm : Room} {as' : Array Value} (hown : s.vm.findClass own = some m.cls)
    (w1 : (Jvm.Cond.methodLink own index y).before a0 Z = true) (w2 : (Jvm.Cond.declares y).before a0 Z = true) (w7 : (Jvm.Cond.interfaceMethod y.cls y.cls y.name y.desc).before a0 Z = true) (w5 : (Jvm.Cond.selects C y z).before a0 Z = true) (w6 : (Jvm.Cond.instanceMethod z).before a0 Z = true) (w8 : (Jvm.Cond.publicMethod z).before a0 Z = true) (w9 : (Jvm.Cond.unhidden C y.name y.desc).before a0 Z = true) (w10 : (Jvm.Cond.castable C y.cls).before a0 Z = true)
    (w3 : (Jvm.Cond.initialized z.cls).before a0 Z = true) (w4 : (Jvm.Cond.code z bytes maxL rt).before a0 Z = true)
    (hy : y.cls ≠ "java/lang/invoke/MethodHandle" ∧ y.cls ≠ "java/lang/invoke/VarHandle") (hM : OCon l z bytes maxL rt [] rm Z as' h Q) (W : Nat) (hf : rm.frames + 1 ≤ R.frames) (hl : W + (maxL + 11) + rm.locals ≤ R.locals) {b : Addr} (E : Exa Z h b C) {g : JFrame} (hg : g.method = m) (hsize : g.locals.size = c.maxLocals) {argsL rest : List Value} (hlen : ∀ sig, parseMethodDescriptor y.desc = some sig → argsL.length = sig.parameters.length)
    (hstack : g.stack = argsL.reverse ++ .ref b :: rest) (hW : 2 * g.monitorRoom + (rest.map fun v => v.category).sum ≤ W) (hd : decode c.code g.pc = .ok (.invokeinterface index count, 5)) (has : (.ref b :: argsL).toArray = as') (eT : T.heap = h) (hc : cells + rm.cells ≤ R.cells) (hs : slots + rm.slots ≤ R.slots) :
    ∃ (v : Option Value) (T' : State) (L : List Loc), Stand p l e R s m args below meth c T' (locs ++ L) (cells + rm.cells) (slots + rm.slots) ∧ Q v T'.heap L ∧ Steps p.tables e below (T.setTop g) (T'.setTop { g with pc := g.pc + 5, stack := v.toList ++ rest }) := by
  obtain ⟨cq, kq, qa, qb, qc⟩ := isOf hZ eT E
  obtain ⟨v, _, ⟨T1, L1, k1, n1⟩, -, X1, ⟨Lc, hQ, l1, y1, z1⟩, st⟩ := X.interfaceBack hx (xi := y) (y := z) hown (mvT hZ w1) (mvT hZ w2) (mvT hZ w7 (by simp [Cond.onTables, Cond.keepsFace, Cond.keeps, Cond.steady, Cond.faceAtom, hy.1, hy.2])) (mvT hZ w5) (mvT hZ w6) (mvT hZ w8) (mvT hZ w9) (mvT hZ w10) hy (backOf (W := W) hM hZ w4 w3 hf hl) qa qb qc (g := g) hg hsize (Steps.refl _) (argsL := argsL) (rest := rest) hlen hstack hW hd (fun _ _ => ⟨has, eT, hc, hs⟩)
  dsimp only [Pt.U, Pt.locs, Pt.cells, Pt.slots] at X1 l1 y1 z1 st hQ
  subst l1 y1 z1
  exact ⟨v, T1, Lc, X1, hQ, st⟩
end OwnP
end Jvm.Pilot.@@N@@
namespace Jvm.Pilot.@@N@@
open Jvm Jvm.ClassFile Sem Op Lib Jvm.Free Jvm.Stand Jvm.LawKit Jvm.RoadKit Bundle Jvm.Pilot.@@N@@.Jvm.D
def lonQ (p : Int32) : Int32 := ((p &&& (65535 : Int32)) % (1441 : Int32)) - (720 : Int32)
def latQ (p : Int32) : Int32 := ((((p.toUInt32 >>> ((16 : Int32) &&& 31).toUInt32).toInt32) &&& (65535 : Int32)) % (721 : Int32)) - (360 : Int32)
theorem own_lon (p : Int32) : -720 ≤ (lonQ p).toInt ∧ (lonQ p).toInt ≤ 720 := by
  have m := c_mask p 65535 16 (by decide) (by decide)
  have d := (c_irem (p &&& 65535) 1441 1441 (by decide)).1 (by omega)
  have s := c_isub ((p &&& 65535) % 1441) 720
  have e : (720 : Int32).toInt = 720 := by decide
  have r := rng32 (((p &&& 65535) % 1441) - 720)
  unfold lonQ
  omega
theorem own_lat (p : Int32) : -360 ≤ (latQ p).toInt ∧ (latQ p).toInt ≤ 360 := by
  unfold latQ
  generalize (p.toUInt32 >>> ((16 : Int32) &&& 31).toUInt32).toInt32 = x
  have m := c_mask x 65535 16 (by decide) (by decide)
  have d := (c_irem (x &&& 65535) 721 721 (by decide)).1 (by omega)
  have s := c_isub ((x &&& 65535) % 721) 360
  have e : (360 : Int32).toInt = 360 := by decide
  have r := rng32 (((x &&& 65535) % 721) - 360)
  omega
theorem own_lat7 (p : Int32) : -720 ≤ (latQ p).toInt ∧ (latQ p).toInt ≤ 720 := by have := own_lat p; omega
theorem own_bit (x v : Int32) (h : v = (x &&& (1 : Int32))) : v = (0 : Int32) ∨ v = (1 : Int32) := by
  have m := c_mask x 1 1 (by decide) (by decide)
  rw [← h] at m
  have e0 : (0 : Int32).toInt = 0 := by decide
  have e1 : (1 : Int32).toInt = 1 := by decide
  simp only [← Int32.toInt_inj, e0, e1]
  omega
theorem own_if {c : Prop} [Decidable c] {v a b : Int32} (h : v = (if c then a else b)) : v = a ∨ v = b := by
  rw [h]
  split
  · exact Or.inl rfl
  · exact Or.inr rfl
theorem own_dl (x1 x2 : Int32) (m n : Int) (v : Int64) (e1 : x1.toInt = m) (e2 : x2.toInt = n) (h1 : -720 ≤ m ∧ m ≤ 720) (h2 : -720 ≤ n ∧ n ≤ 720) (h : v = ((x1.toInt64) - (x2.toInt64))) : v.toInt = m - n := by
  have s := c_lsub x1.toInt64 x2.toInt64
  rw [c_i2l, c_i2l, ← h] at s
  have r := rng64 v
  omega
theorem own_rf (a b v : Int64) (m n : Int) (ea : a.toInt = m) (eb : b.toInt = n) (h1 : 0 ≤ m * m ∧ m * m ≤ 2073600) (h2 : 0 ≤ n * n ∧ n * n ≤ 2073600) (h : v = ((a * a) + (b * b))) : v.toInt = m * m + n * n := by
  have c1 := c_lmul a a
  have c2 := c_lmul b b
  have c3 := c_ladd (a * a) (b * b)
  have r1 := rng64 (a * a)
  have r2 := rng64 (b * b)
  have r3 := rng64 v
  rw [← h] at c3
  rw [ea] at c1
  rw [eb] at c2
  generalize m * m = A at *
  generalize n * n = B at *
  omega
theorem own_eq {x y : UInt64} {m : Int} {b : Nat} (hx : Dy x m b) (hy : Dy y m b) : cmpValue (FP.dcmp x y) .l = (0 : Int32) := by
  have e : FP.dcmp x y = some (compare m m) := dy_cmp hx hy
  rw [e]
  simp only [compare, compareOfLessAndEq, Int.lt_irrefl, if_false, if_true]
  rfl
theorem own_nlt {x y : UInt64} {m n : Int} {b : Nat} (hx : Dy x m b) (hy : Dy y n b) (h : n ≤ m) : ¬ (cmpValue (FP.dcmp x y) .l < (0 : Int32)) := by
  have e : FP.dcmp x y = some (compare m n) := dy_cmp hx hy
  rw [e]
  simp only [compare, compareOfLessAndEq]
  have q : ¬ m < n := by omega
  by_cases r : m = n
  · subst r
    simp only [Int.lt_irrefl, if_false, if_true]
    decide
  · simp only [q, r, if_false]
    decide
theorem own_ngt {x y : UInt64} {m n : Int} {b : Nat} (hx : Dy x m b) (hy : Dy y n b) (h : m ≤ n) : ¬ ((0 : Int32) < cmpValue (FP.dcmp x y) .g) := by
  have e : FP.dcmp x y = some (compare m n) := dy_cmp hx hy
  rw [e]
  simp only [compare, compareOfLessAndEq]
  by_cases q : m < n
  · simp only [q, if_true]
    decide
  · have r : m = n := by omega
    subst r
    simp only [Int.lt_irrefl, if_false, if_true]
    decide

theorem pn_java_lang_Record : plainName "java/lang/Record" = true := by first | (simp [plainName, overriddenIn]; done) | decide +kernel
theorem d8_0 : decode jdk_30_method_1_code 0 = .ok (.aload_n 0, 1) := by decide +kernel
theorem d8_1 : decode jdk_30_method_1_code 1 = .ok (.invokespecial 1, 3) := by decide +kernel
theorem d8_4 : decode jdk_30_method_1_code 4 = .ok (.return_, 1) := by decide +kernel
def recinit_rm : Room := { frames := 1, cells := 0, slots := 0, locals := 12 }
def recinit_Q (Z : State) (a0 : Addr) (h0 : Heap) (n0 : Nat) (v : Option Value) (h : Heap) (L : List Loc) : Prop := (v = none) ∧ (Fr n0 L) ∧ (h = h0)
theorem recinit_ef (m : MethodId) (a0 : Addr) : entryFrame m #[(.ref a0)] 1 = mkF m 0 #[.val (.ref a0)] [] := by first | (simp [entryFrame, mkF, argsToLocals, Value.category]; done) | rfl
set_option maxRecDepth 65536 in
set_option maxHeartbeats 40000000 in
theorem recinit_c (l : Launch) (Z : State) (az : Array Value) (hw : ∀ d ∈ tables_1, d.before az Z = true) (ws : List Jvm.Cond) (a0 : Addr) (h0 : Heap) (n0 : Nat) (Z0 : n0 ≤ h0.size) :
    OCon l (⟨"java/lang/Record", "<init>", "()V"⟩ : MethodName) jdk_30_method_1_code 1 none ws recinit_rm Z #[(.ref a0)] h0 (recinit_Q Z a0 h0 n0) := by
  refine ocon (plainFor_of_name pn_java_lang_Record) ?_
  intro p e s m below meth c s₁ hx hby hml hown hnm hret hlk hZ X0 eh0
  have N0 := Fr.nil n0
  have K0 := Keep.refl h0 []
  refine ogoE (recinit_ef m a0) ?_
  generalize hG : (OEnd s below (recinit_Q Z a0 h0 n0) recinit_rm.cells recinit_rm.slots) = G
  show OWay p e below G s₁ (mkF m 0 #[.val (.ref a0)] [])
  refine ogo (fun _ z_ => XS.aloadN X0.here hx rfl (hb hby d8_0) rfl rfl z_) ?_
  show OWay p e below G s₁ (mkF m 1 #[.val (.ref a0)] [(.ref a0)])
  obtain ⟨T1, X1, eT1, st1⟩ := initO X0 hx hZ hown (hw _ (List.mem_of_getElem? (i := 46) rfl)) (hw _ (List.mem_of_getElem? (i := 19) rfl)) (hw _ (List.mem_of_getElem? (i := 20) rfl)) eh0 (g := (mkF m 1 #[.val (.ref a0)] [(.ref a0)])) rfl (by rw [hml]; rfl) rfl (hb hby d8_1) (by decide) (W := 0) (by show 2 * 0 + _ ≤ _; exact Nat.le_of_eq rfl) (by decide)
  refine ogo st1 ?_
  show OWay p e below G T1 (mkF m 4 #[.val (.ref a0)] [])
  subst hG
  refine wRetV X1 hx hret hlk (hb hby d8_4) (by decide) (by decide) eT1 ?_
  exact ⟨rfl, N0, rfl⟩
theorem pn_java_util_AbstractCollection : plainName "java/util/AbstractCollection" = true := by first | (simp [plainName, overriddenIn]; done) | decide +kernel
theorem d3_0 : decode jdk_22_method_1_code 0 = .ok (.aload_n 0, 1) := by decide +kernel
theorem d3_1 : decode jdk_22_method_1_code 1 = .ok (.invokespecial 1, 3) := by decide +kernel
theorem d3_4 : decode jdk_22_method_1_code 4 = .ok (.return_, 1) := by decide +kernel
def acinit_rm : Room := { frames := 1, cells := 0, slots := 0, locals := 12 }
def acinit_Q (Z : State) (a0 : Addr) (h0 : Heap) (n0 : Nat) (v : Option Value) (h : Heap) (L : List Loc) : Prop := (v = none) ∧ (Fr n0 L) ∧ (h = h0)
theorem acinit_ef (m : MethodId) (a0 : Addr) : entryFrame m #[(.ref a0)] 1 = mkF m 0 #[.val (.ref a0)] [] := by first | (simp [entryFrame, mkF, argsToLocals, Value.category]; done) | rfl
set_option maxRecDepth 65536 in
set_option maxHeartbeats 40000000 in
theorem acinit_c (l : Launch) (Z : State) (az : Array Value) (hw : ∀ d ∈ tables_1, d.before az Z = true) (ws : List Jvm.Cond) (a0 : Addr) (h0 : Heap) (n0 : Nat) (Z0 : n0 ≤ h0.size) :
    OCon l (⟨"java/util/AbstractCollection", "<init>", "()V"⟩ : MethodName) jdk_22_method_1_code 1 none ws acinit_rm Z #[(.ref a0)] h0 (acinit_Q Z a0 h0 n0) := by
  refine ocon (plainFor_of_name pn_java_util_AbstractCollection) ?_
  intro p e s m below meth c s₁ hx hby hml hown hnm hret hlk hZ X0 eh0
  have N0 := Fr.nil n0
  have K0 := Keep.refl h0 []
  refine ogoE (acinit_ef m a0) ?_
  generalize hG : (OEnd s below (acinit_Q Z a0 h0 n0) acinit_rm.cells acinit_rm.slots) = G
  show OWay p e below G s₁ (mkF m 0 #[.val (.ref a0)] [])
  refine ogo (fun _ z_ => XS.aloadN X0.here hx rfl (hb hby d3_0) rfl rfl z_) ?_
  show OWay p e below G s₁ (mkF m 1 #[.val (.ref a0)] [(.ref a0)])
  obtain ⟨T1, X1, eT1, st1⟩ := initO X0 hx hZ hown (hw _ (List.mem_of_getElem? (i := 18) rfl)) (hw _ (List.mem_of_getElem? (i := 19) rfl)) (hw _ (List.mem_of_getElem? (i := 20) rfl)) eh0 (g := (mkF m 1 #[.val (.ref a0)] [(.ref a0)])) rfl (by rw [hml]; rfl) rfl (hb hby d3_1) (by decide) (W := 0) (by show 2 * 0 + _ ≤ _; exact Nat.le_of_eq rfl) (by decide)
  refine ogo st1 ?_
  show OWay p e below G T1 (mkF m 4 #[.val (.ref a0)] [])
  subst hG
  refine wRetV X1 hx hret hlk (hb hby d3_4) (by decide) (by decide) eT1 ?_
  exact ⟨rfl, N0, rfl⟩
theorem pn_java_util_AbstractList : plainName "java/util/AbstractList" = true := by first | (simp [plainName, overriddenIn]; done) | decide +kernel
theorem d2_0 : decode jdk_39_method_1_code 0 = .ok (.aload_n 0, 1) := by decide +kernel
theorem d2_1 : decode jdk_39_method_1_code 1 = .ok (.invokespecial 1, 3) := by decide +kernel
theorem pd___V : parseMethodDescriptor "()V" = some ⟨[], none⟩ := by decide +kernel
theorem d2_4 : decode jdk_39_method_1_code 4 = .ok (.aload_n 0, 1) := by decide +kernel
theorem d2_5 : decode jdk_39_method_1_code 5 = .ok (.iconst 0, 1) := by decide +kernel
theorem d2_6 : decode jdk_39_method_1_code 6 = .ok (.putfield 7, 3) := by decide +kernel
theorem d2_9 : decode jdk_39_method_1_code 9 = .ok (.return_, 1) := by decide +kernel
def alinit0_rm : Room := { frames := 2, cells := 0, slots := 0, locals := 24 }
def alinit0_Q (Z : State) (a0 : Addr) (h0 : Heap) (n0 : Nat) (v : Option Value) (h : Heap) (L : List Loc) : Prop := (v = none) ∧ (Fr n0 L) ∧ (Keep h0 h [a0]) ∧ (Fld Z h a0 "java/util/AbstractList" "modCount" "I" (.int (0 : Int32))) ∧ (Fld Z h a0 "java/util/ArrayList" "elementData" "[Ljava/lang/Object;" .null) ∧ (Fld Z h a0 "java/util/ArrayList" "size" "I" (.int (0 : Int32)))
theorem alinit0_ef (m : MethodId) (a0 : Addr) : entryFrame m #[(.ref a0)] 1 = mkF m 0 #[.val (.ref a0)] [] := by first | (simp [entryFrame, mkF, argsToLocals, Value.category]; done) | rfl
set_option maxRecDepth 65536 in
set_option maxHeartbeats 40000000 in
theorem alinit0_c (l : Launch) (Z : State) (az : Array Value) (hw : ∀ d ∈ tables_1, d.before az Z = true) (ws : List Jvm.Cond) (a0 : Addr) (h0 : Heap) (n0 : Nat) (Z0 : n0 ≤ h0.size) (hp0 : Exa Z h0 a0 "java/util/ArrayList") (hp1 : n0 ≤ a0) (hp2 : Fld Z h0 a0 "java/util/AbstractList" "modCount" "I" (.int (0 : Int32))) (hp3 : Fld Z h0 a0 "java/util/ArrayList" "elementData" "[Ljava/lang/Object;" .null) (hp4 : Fld Z h0 a0 "java/util/ArrayList" "size" "I" (.int (0 : Int32))) :
    OCon l (⟨"java/util/AbstractList", "<init>", "()V"⟩ : MethodName) jdk_39_method_1_code 1 none ws alinit0_rm Z #[(.ref a0)] h0 (alinit0_Q Z a0 h0 n0) := by
  refine ocon (plainFor_of_name pn_java_util_AbstractList) ?_
  intro p e s m below meth c s₁ hx hby hml hown hnm hret hlk hZ X0 eh0
  have N0 := Fr.nil n0
  have K0 := Keep.refl h0 [a0]
  refine ogoE (alinit0_ef m a0) ?_
  have g_a0 := hp1
  generalize hG : (OEnd s below (alinit0_Q Z a0 h0 n0) alinit0_rm.cells alinit0_rm.slots) = G
  show OWay p e below G s₁ (mkF m 0 #[.val (.ref a0)] [])
  refine ogo (fun _ z_ => XS.aloadN X0.here hx rfl (hb hby d2_0) rfl rfl z_) ?_
  show OWay p e below G s₁ (mkF m 1 #[.val (.ref a0)] [(.ref a0)])
  obtain ⟨_, T1, L1, X1, hQ1, st1⟩ := wInit X0 hx hZ (y := (⟨"java/util/AbstractCollection", "<init>", "()V"⟩ : MethodName)) rfl hown (hw _ (List.mem_of_getElem? (i := 12) rfl)) (hw _ (List.mem_of_getElem? (i := 13) rfl)) (hw _ (List.mem_of_getElem? (i := 16) rfl)) (hw _ (List.mem_of_getElem? (i := 17) rfl)) (by decide) (acinit_c l Z az hw [] a0 h0 n0 Z0) 0 (by decide) (by decide) (g := (mkF m 1 #[.val (.ref a0)] [(.ref a0)])) rfl (by rw [hml]; rfl) (a := a0) (argsL := []) (rest := []) (lenOf pd___V rfl) rfl (by show 2 * 0 + _ ≤ _; exact Nat.le_of_eq rfl) (hb hby d2_1) rfl eh0 (by decide) (by decide)
  obtain ⟨rfl, N1q, eq1⟩ := hQ1
  have N1 := Fr.app N0 N1q
  refine ogoS st1 ?_
  show OWay p e below G T1 (mkF m 4 #[.val (.ref a0)] [])
  refine ogo (fun _ z_ => XS.aloadN X1.here hx rfl (hb hby d2_4) rfl rfl z_) ?_
  show OWay p e below G T1 (mkF m 5 #[.val (.ref a0)] [(.ref a0)])
  refine ogo (fun _ z_ => XS.iconst X1.here hx rfl (hb hby d2_5) z_) ?_
  show OWay p e below G T1 (mkF m 6 #[.val (.ref a0)] [(.int (0 : Int32)), (.ref a0)])
  obtain ⟨T2, h2, X2, eT2, W2, st2⟩ := putF X1 hx hZ hown (host := "") (Or.inl (hw _ (List.mem_of_getElem? (i := 21) rfl))) Via.refl eq1 hp2 hp0 (Or.inl (hw _ (List.mem_of_getElem? (i := 22) rfl))) (hw _ (List.mem_of_getElem? (i := 1) rfl)) (ty := .int) (by decide) rfl rfl (g := (mkF m 6 #[.val (.ref a0)] [(.int (0 : Int32)), (.ref a0)])) rfl rfl (hb hby d2_6)
  have K3 : Keep h0 h2 [a0] := K0.wr W2 (Or.inl (List.mem_of_getElem? (i := 0) rfl))
  have Fw2 : Fld Z h2 a0 "java/util/AbstractList" "modCount" "I" (.int (0 : Int32)) := hp2.same W2
  have N2 := Fr.snoc X2 N1 g_a0
  refine ogo st2 ?_
  show OWay p e below G T2 (mkF m 9 #[.val (.ref a0)] [])
  subst hG
  refine wRetV X2 hx hret hlk (hb hby d2_9) (by decide) (by decide) eT2 ?_
  exact ⟨rfl, N2, K3, Fw2, (hp3.other W2 (Or.inr (slot_ne (Or.inl (hw _ (List.mem_of_getElem? (i := 25) rfl))) (Or.inl (hw _ (List.mem_of_getElem? (i := 22) rfl))) (by decide) (t := (.array (.object "java/lang/Object"))) (t' := .int) (by decide) (by decide)))), (hp4.other W2 (Or.inr (slot_ne (Or.inl (hw _ (List.mem_of_getElem? (i := 65) rfl))) (Or.inl (hw _ (List.mem_of_getElem? (i := 22) rfl))) (by decide) (t := .int) (t' := .int) (by decide) (by decide))))⟩
theorem pn_java_util_ArrayList : plainName "java/util/ArrayList" = true := by first | (simp [plainName, overriddenIn]; done) | decide +kernel
theorem d1_0 : decode jdk_38_method_2_code 0 = .ok (.aload_n 0, 1) := by decide +kernel
theorem d1_1 : decode jdk_38_method_2_code 1 = .ok (.invokespecial 1, 3) := by decide +kernel
theorem d1_4 : decode jdk_38_method_2_code 4 = .ok (.aload_n 0, 1) := by decide +kernel
theorem d1_5 : decode jdk_38_method_2_code 5 = .ok (.getstatic 39, 3) := by decide +kernel
theorem d1_8 : decode jdk_38_method_2_code 8 = .ok (.putfield 9, 3) := by decide +kernel
theorem d1_11 : decode jdk_38_method_2_code 11 = .ok (.return_, 1) := by decide +kernel
def alinit_rm : Room := { frames := 3, cells := 0, slots := 0, locals := 36 }
def alinit_Q (Z : State) (a0 : Addr) (ev : Addr) (h0 : Heap) (n0 : Nat) (v : Option Value) (h : Heap) (L : List Loc) : Prop := (v = none) ∧ (Fr n0 L) ∧ (Keep h0 h [a0]) ∧ (Fld Z h a0 "java/util/AbstractList" "modCount" "I" (.int (0 : Int32))) ∧ (Fld Z h a0 "java/util/ArrayList" "elementData" "[Ljava/lang/Object;" (.ref ev)) ∧ (Fld Z h a0 "java/util/ArrayList" "size" "I" (.int (0 : Int32)))
theorem alinit_ef (m : MethodId) (a0 : Addr) : entryFrame m #[(.ref a0)] 1 = mkF m 0 #[.val (.ref a0)] [] := by first | (simp [entryFrame, mkF, argsToLocals, Value.category]; done) | rfl
set_option maxRecDepth 65536 in
set_option maxHeartbeats 40000000 in
theorem alinit_c (l : Launch) (Z : State) (az : Array Value) (hw : ∀ d ∈ tables_1, d.before az Z = true) (ws : List Jvm.Cond) (a0 : Addr) (ev : Addr) (h0 : Heap) (n0 : Nat) (Z0 : n0 ≤ h0.size) (hp0 : Exa Z h0 a0 "java/util/ArrayList") (hp1 : n0 ≤ a0) (hp2 : Fld Z h0 a0 "java/util/AbstractList" "modCount" "I" (.int (0 : Int32))) (hp3 : Fld Z h0 a0 "java/util/ArrayList" "elementData" "[Ljava/lang/Object;" .null) (hp4 : Fld Z h0 a0 "java/util/ArrayList" "size" "I" (.int (0 : Int32))) (hp5 : Sta Z Z.heap "java/util/ArrayList" "DEFAULTCAPACITY_EMPTY_ELEMENTDATA" "[Ljava/lang/Object;" (.ref ev)) (hp6 : Old Z n0 h0) :
    OCon l (⟨"java/util/ArrayList", "<init>", "()V"⟩ : MethodName) jdk_38_method_2_code 1 none ws alinit_rm Z #[(.ref a0)] h0 (alinit_Q Z a0 ev h0 n0) := by
  refine ocon (plainFor_of_name pn_java_util_ArrayList) ?_
  intro p e s m below meth c s₁ hx hby hml hown hnm hret hlk hZ X0 eh0
  have N0 := Fr.nil n0
  have K0 := Keep.refl h0 [a0]
  refine ogoE (alinit_ef m a0) ?_
  have g_a0 := hp1
  generalize hG : (OEnd s below (alinit_Q Z a0 ev h0 n0) alinit_rm.cells alinit_rm.slots) = G
  show OWay p e below G s₁ (mkF m 0 #[.val (.ref a0)] [])
  refine ogo (fun _ z_ => XS.aloadN X0.here hx rfl (hb hby d1_0) rfl rfl z_) ?_
  show OWay p e below G s₁ (mkF m 1 #[.val (.ref a0)] [(.ref a0)])
  obtain ⟨_, T1, L1, X1, hQ1, st1⟩ := wInit X0 hx hZ (y := (⟨"java/util/AbstractList", "<init>", "()V"⟩ : MethodName)) rfl hown (hw _ (List.mem_of_getElem? (i := 6) rfl)) (hw _ (List.mem_of_getElem? (i := 7) rfl)) (hw _ (List.mem_of_getElem? (i := 10) rfl)) (hw _ (List.mem_of_getElem? (i := 11) rfl)) (by decide) (alinit0_c l Z az hw [] a0 h0 n0 Z0 hp0 g_a0 hp2 hp3 hp4) 0 (by decide) (by decide) (g := (mkF m 1 #[.val (.ref a0)] [(.ref a0)])) rfl (by rw [hml]; rfl) (a := a0) (argsL := []) (rest := []) (lenOf pd___V rfl) rfl (by show 2 * 0 + _ ≤ _; exact Nat.le_of_eq rfl) (hb hby d1_1) rfl eh0 (by decide) (by decide)
  obtain ⟨rfl, N1q, Kq1, P2, P3, P4⟩ := hQ1
  have N1 := Fr.app N0 N1q
  have K5 : Keep h0 T1.heap [a0] := K0.trans Kq1 (allS (Or.inl (List.mem_of_getElem? (i := 0) rfl)) all0)
  refine ogoS st1 ?_
  show OWay p e below G T1 (mkF m 4 #[.val (.ref a0)] [])
  refine ogo (fun _ z_ => XS.aloadN X1.here hx rfl (hb hby d1_4) rfl rfl z_) ?_
  show OWay p e below G T1 (mkF m 5 #[.val (.ref a0)] [(.ref a0)])
  have F6 : Old Z n0 T1.heap := (hp6.keep Kq1 (allS g_a0 all0))
  obtain ⟨T7, X7, eT7, st7⟩ := getS2 X1 hx hZ hown (host := "") (Or.inl (hw _ (List.mem_of_getElem? (i := 23) rfl))) Via.refl rfl (hp5.ext F6.2) (g := (mkF m 5 #[.val (.ref a0)] [(.ref a0)])) rfl (hb hby d1_5)
  refine ogo st7 ?_
  show OWay p e below G T7 (mkF m 8 #[.val (.ref a0)] [(.ref ev), (.ref a0)])
  have F8 : Exa Z T1.heap a0 "java/util/ArrayList" := (hp0.keep Kq1)
  obtain ⟨T9, h9, X9, eT9, W9, st9⟩ := putF X7 hx hZ hown (host := "") (Or.inl (hw _ (List.mem_of_getElem? (i := 24) rfl))) Via.refl eT7 P3 F8 (Or.inl (hw _ (List.mem_of_getElem? (i := 25) rfl))) (hw _ (List.mem_of_getElem? (i := 1) rfl)) (ty := (.array (.object "java/lang/Object"))) (by decide) rfl rfl (g := (mkF m 8 #[.val (.ref a0)] [(.ref ev), (.ref a0)])) rfl rfl (hb hby d1_8)
  have K10 : Keep h0 h9 [a0] := K5.wr W9 (Or.inl (List.mem_of_getElem? (i := 0) rfl))
  have Fw9 : Fld Z h9 a0 "java/util/ArrayList" "elementData" "[Ljava/lang/Object;" (.ref ev) := P3.same W9
  have N9 := Fr.snoc X9 N1 g_a0
  refine ogo st9 ?_
  show OWay p e below G T9 (mkF m 11 #[.val (.ref a0)] [])
  subst hG
  refine wRetV X9 hx hret hlk (hb hby d1_11) (by decide) (by decide) eT9 ?_
  exact ⟨rfl, N9, K10, (P2.other W9 (Or.inr (slot_ne (Or.inl (hw _ (List.mem_of_getElem? (i := 22) rfl))) (Or.inl (hw _ (List.mem_of_getElem? (i := 25) rfl))) (by decide) (t := .int) (t' := (.array (.object "java/lang/Object"))) (by decide) (by decide)))), Fw9, (P4.other W9 (Or.inr (slot_ne (Or.inl (hw _ (List.mem_of_getElem? (i := 65) rfl))) (Or.inl (hw _ (List.mem_of_getElem? (i := 25) rfl))) (by decide) (t := .int) (t' := (.array (.object "java/lang/Object"))) (by decide) (by decide))))⟩
def imax (a b : Int32) : Int32 := if a < b then b else a
theorem d13_0 : decode jdk_29_method_65_code 0 = .ok (.iload_n 0, 1) := by decide +kernel
theorem d13_1 : decode jdk_29_method_65_code 1 = .ok (.iload_n 1, 1) := by decide +kernel
theorem d13_2 : decode jdk_29_method_65_code 2 = .ok (.if_icmp .lt 7, 3) := by decide +kernel
theorem d13_9 : decode jdk_29_method_65_code 9 = .ok (.iload_n 1, 1) := by decide +kernel
theorem d13_10 : decode jdk_29_method_65_code 10 = .ok (.ireturn, 1) := by decide +kernel
theorem d13_5 : decode jdk_29_method_65_code 5 = .ok (.iload_n 0, 1) := by decide +kernel
theorem d13_6 : decode jdk_29_method_65_code 6 = .ok (.goto 4, 3) := by decide +kernel
def imax_b_rm : Room := { frames := 0, cells := 0, slots := 0, locals := 0 }
def imax_b_Q (Z : State) (p0 : Int32) (p1 : Int32) (h0 : Heap) (n0 : Nat) (v : Option Value) (h : Heap) (L : List Loc) : Prop := (v = some (.int (imax p0 p1))) ∧ (Fr n0 L) ∧ (h = h0)
theorem imax_b_ef (m : MethodId) (p0 : Int32) (p1 : Int32) : entryFrame m #[(.int p0), (.int p1)] 2 = mkF m 0 #[.val (.int p0), .val (.int p1)] [] := by first | (simp [entryFrame, mkF, argsToLocals, Value.category]; done) | rfl
set_option maxRecDepth 65536 in
set_option maxHeartbeats 40000000 in
theorem imax_b_c (l : Launch) (Z : State) (az : Array Value) (hw : ∀ d ∈ tables_1, d.before az Z = true) (ws : List Jvm.Cond) (p0 : Int32) (p1 : Int32) (h0 : Heap) (n0 : Nat) (Z0 : n0 ≤ h0.size) :
    OCon l (⟨"java/lang/Math", "max", "(II)I"⟩ : MethodName) jdk_29_method_65_code 2 (some .int) ws imax_b_rm Z #[(.int p0), (.int p1)] h0 (imax_b_Q Z p0 p1 h0 n0) := by
  refine ocon (Jvm.Free.JP.mathPlain rfl (by decide +kernel)) ?_
  intro p e s m below meth c s₁ hx hby hml hown hnm hret hlk hZ X0 eh0
  have N0 := Fr.nil n0
  have K0 := Keep.refl h0 []
  refine ogoE (imax_b_ef m p0 p1) ?_
  generalize hG : (OEnd s below (imax_b_Q Z p0 p1 h0 n0) imax_b_rm.cells imax_b_rm.slots) = G
  show OWay p e below G s₁ (mkF m 0 #[.val (.int p0), .val (.int p1)] [])
  refine ogo (fun _ z_ => XS.iloadN X0.here hx rfl (hb hby d13_0) rfl z_) ?_
  show OWay p e below G s₁ (mkF m 1 #[.val (.int p0), .val (.int p1)] [(.int p0)])
  refine ogo (fun _ z_ => XS.iloadN X0.here hx rfl (hb hby d13_1) rfl z_) ?_
  show OWay p e below G s₁ (mkF m 2 #[.val (.int p0), .val (.int p1)] [(.int p1), (.int p0)])
  by_cases c2 : p0 < p1
  · refine ogo (fun _ z_ => XS.icmpYes X0.here hx rfl (pc0 := 2) (pc' := 9) rfl (hb hby d13_2) rfl (tlt c2).1 (by decide) (by decide) z_) ?_
    show OWay p e below G s₁ (mkF m 9 #[.val (.int p0), .val (.int p1)] [])
    refine ogo (fun _ z_ => XS.iloadN X0.here hx rfl (hb hby d13_9) rfl z_) ?_
    show OWay p e below G s₁ (mkF m 10 #[.val (.int p0), .val (.int p1)] [(.int p1)])
    subst hG
    refine wRet X0 hx hret hlk rfl (Or.inl ⟨rfl, Or.inl rfl, _, rfl⟩) (hb hby d13_10) (by decide) (by decide) eh0 ?_
    exact ⟨(congrArg some (congrArg Value.int (show _ = imax p0 p1 from by unfold imax; rw [if_pos c2]))), N0, rfl⟩
  · refine ogo (fun _ z_ => XS.icmpNo X0.here hx rfl (hb hby d13_2) rfl (flt c2).1 z_) ?_
    show OWay p e below G s₁ (mkF m 5 #[.val (.int p0), .val (.int p1)] [])
    refine ogo (fun _ z_ => XS.iloadN X0.here hx rfl (hb hby d13_5) rfl z_) ?_
    show OWay p e below G s₁ (mkF m 6 #[.val (.int p0), .val (.int p1)] [(.int p0)])
    refine ogo (fun _ z_ => XS.goto X0.here hx rfl (pc0 := 6) (pc' := 10) rfl (hb hby d13_6) (by decide) (by decide) z_) ?_
    show OWay p e below G s₁ (mkF m 10 #[.val (.int p0), .val (.int p1)] [(.int p0)])
    subst hG
    refine wRet X0 hx hret hlk rfl (Or.inl ⟨rfl, Or.inl rfl, _, rfl⟩) (hb hby d13_10) (by decide) (by decide) eh0 ?_
    exact ⟨(congrArg some (congrArg Value.int (show _ = imax p0 p1 from by unfold imax; rw [if_neg c2]))), N0, rfl⟩
theorem d12_0 : decode jdk_38_method_6_code 0 = .ok (.aload_n 0, 1) := by decide +kernel
theorem d12_1 : decode jdk_38_method_6_code 1 = .ok (.getfield 9, 3) := by decide +kernel
theorem d12_4 : decode jdk_38_method_6_code 4 = .ok (.arraylength, 1) := by decide +kernel
theorem d12_5 : decode jdk_38_method_6_code 5 = .ok (.istore_n 2, 1) := by decide +kernel
theorem d12_6 : decode jdk_38_method_6_code 6 = .ok (.iload_n 2, 1) := by decide +kernel
theorem d12_7 : decode jdk_38_method_6_code 7 = .ok (.ifCond .gt 13, 3) := by decide +kernel
theorem d12_10 : decode jdk_38_method_6_code 10 = .ok (.aload_n 0, 1) := by decide +kernel
theorem d12_11 : decode jdk_38_method_6_code 11 = .ok (.getfield 9, 3) := by decide +kernel
theorem d12_14 : decode jdk_38_method_6_code 14 = .ok (.getstatic 39, 3) := by decide +kernel
theorem d12_17 : decode jdk_38_method_6_code 17 = .ok (.if_acmp .eq 28, 3) := by decide +kernel
theorem d12_45 : decode jdk_38_method_6_code 45 = .ok (.aload_n 0, 1) := by decide +kernel
theorem d12_46 : decode jdk_38_method_6_code 46 = .ok (.bipush 10, 2) := by decide +kernel
theorem d12_48 : decode jdk_38_method_6_code 48 = .ok (.iload_n 1, 1) := by decide +kernel
theorem d12_49 : decode jdk_38_method_6_code 49 = .ok (.invokestatic 79, 3) := by decide +kernel
theorem pd__II_I : parseMethodDescriptor "(II)I" = some ⟨[.int, .int], some .int⟩ := by decide +kernel
theorem d12_52 : decode jdk_38_method_6_code 52 = .ok (.anewarray 7, 3) := by decide +kernel
theorem d12_55 : decode jdk_38_method_6_code 55 = .ok (.dup_x1, 1) := by decide +kernel
theorem d12_56 : decode jdk_38_method_6_code 56 = .ok (.putfield 9, 3) := by decide +kernel
theorem d12_59 : decode jdk_38_method_6_code 59 = .ok (.areturn, 1) := by decide +kernel
def growI_rm : Room := { frames := 1, cells := 1, slots := 10, locals := 14 }
def growI_Q (Z : State) (a0 : Addr) (ev : Addr) (kE : ClassId) (mc : Int32) (h0 : Heap) (n0 : Nat) (v : Option Value) (h : Heap) (L : List Loc) : Prop := ∃ b : Addr, ∃ k : ClassId, (v = some (.ref b)) ∧ (Fr n0 L) ∧ (Keep h0 h [a0]) ∧ (n0 ≤ b) ∧ (h0.size ≤ b) ∧ (Arv Z h b k (.object "java/lang/Object") (10 : Int32) [.null, .null, .null, .null, .null, .null, .null, .null, .null, .null] .null) ∧ (Fld Z h a0 "java/util/AbstractList" "modCount" "I" (.int mc)) ∧ (Fld Z h a0 "java/util/ArrayList" "elementData" "[Ljava/lang/Object;" (.ref b)) ∧ (Fld Z h a0 "java/util/ArrayList" "size" "I" (.int (0 : Int32))) ∧ (Ovr Z k "java/lang/Object")
theorem growI_ef (m : MethodId) (a0 : Addr) : entryFrame m #[(.ref a0), (.int (1 : Int32))] 4 = mkF m 0 #[.val (.ref a0), .val (.int (1 : Int32)), .unset, .unset] [] := by first | (simp [entryFrame, mkF, argsToLocals, Value.category]; done) | rfl
set_option maxRecDepth 65536 in
set_option maxHeartbeats 40000000 in
theorem growI_c (l : Launch) (Z : State) (az : Array Value) (hw : ∀ d ∈ tables_1, d.before az Z = true) (ws : List Jvm.Cond) (a0 : Addr) (ev : Addr) (kE : ClassId) (mc : Int32) (h0 : Heap) (n0 : Nat) (Z0 : n0 ≤ h0.size) (hp0 : Exa Z h0 a0 "java/util/ArrayList") (hp1 : n0 ≤ a0) (hp2 : Fld Z h0 a0 "java/util/AbstractList" "modCount" "I" (.int mc)) (hp3 : Fld Z h0 a0 "java/util/ArrayList" "elementData" "[Ljava/lang/Object;" (.ref ev)) (hp4 : Fld Z h0 a0 "java/util/ArrayList" "size" "I" (.int (0 : Int32))) (hp5 : Sta Z Z.heap "java/util/ArrayList" "DEFAULTCAPACITY_EMPTY_ELEMENTDATA" "[Ljava/lang/Object;" (.ref ev)) (hp6 : Arv Z Z.heap ev kE (.object "java/lang/Object") (0 : Int32) [] .null) (hp7 : Old Z n0 h0) :
    OCon l (⟨"java/util/ArrayList", "grow", "(I)[Ljava/lang/Object;"⟩ : MethodName) jdk_38_method_6_code 4 (some (.array (.object "java/lang/Object"))) ws growI_rm Z #[(.ref a0), (.int (1 : Int32))] h0 (growI_Q Z a0 ev kE mc h0 n0) := by
  refine ocon (plainFor_of_name pn_java_util_ArrayList) ?_
  intro p e s m below meth c s₁ hx hby hml hown hnm hret hlk hZ X0 eh0
  have N0 := Fr.nil n0
  have K0 := Keep.refl h0 [a0]
  refine ogoE (growI_ef m a0) ?_
  have g_a0 := hp1
  generalize hG : (OEnd s below (growI_Q Z a0 ev kE mc h0 n0) growI_rm.cells growI_rm.slots) = G
  show OWay p e below G s₁ (mkF m 0 #[.val (.ref a0), .val (.int (1 : Int32)), .unset, .unset] [])
  refine ogo (fun _ z_ => XS.aloadN X0.here hx rfl (hb hby d12_0) rfl rfl z_) ?_
  show OWay p e below G s₁ (mkF m 1 #[.val (.ref a0), .val (.int (1 : Int32)), .unset, .unset] [(.ref a0)])
  obtain ⟨T1, X1, eT1, st1⟩ := getF X0 hx hZ hown (host := "") (Or.inl (hw _ (List.mem_of_getElem? (i := 24) rfl))) Via.refl eh0 hp3 (g := (mkF m 1 #[.val (.ref a0), .val (.int (1 : Int32)), .unset, .unset] [(.ref a0)])) rfl rfl (hb hby d12_1)
  refine ogo st1 ?_
  show OWay p e below G T1 (mkF m 4 #[.val (.ref a0), .val (.int (1 : Int32)), .unset, .unset] [(.ref ev)])
  obtain ⟨cl_o2, Ar_o2, -, S_o2, N_o2, -, -⟩ := id (hp6.ext hp7.2)
  refine ogo (fun _ z_ => X1.arraylength hx (by rw [eT1]; exact Ar_o2.1) (State.isArrayOf_alike hZ.alike Ar_o2.2.1) (g := (mkF m 4 #[.val (.ref a0), .val (.int (1 : Int32)), .unset, .unset] [(.ref ev)])) rfl rfl (hb hby d12_4) _ z_) ?_
  rw [len_of S_o2 N_o2]
  show OWay p e below G T1 (mkF m 5 #[.val (.ref a0), .val (.int (1 : Int32)), .unset, .unset] [(.int (0 : Int32))])
  refine ogo (fun _ z_ => XS.istoreN X1.here hx rfl (hb hby d12_5) rfl (l' := #[.val (.ref a0), .val (.int (1 : Int32)), .val (.int (0 : Int32)), .unset]) rfl z_) ?_
  show OWay p e below G T1 (mkF m 6 #[.val (.ref a0), .val (.int (1 : Int32)), .val (.int (0 : Int32)), .unset] [])
  refine ogo (fun _ z_ => XS.iloadN X1.here hx rfl (hb hby d12_6) rfl z_) ?_
  show OWay p e below G T1 (mkF m 7 #[.val (.ref a0), .val (.int (1 : Int32)), .val (.int (0 : Int32)), .unset] [(.int (0 : Int32))])
  refine ogo (fun _ z_ => XS.ifNo X1.here hx rfl (hb hby d12_7) rfl ((if0 _ _).trans (flt (by decide)).2.2.1) z_) ?_
  show OWay p e below G T1 (mkF m 10 #[.val (.ref a0), .val (.int (1 : Int32)), .val (.int (0 : Int32)), .unset] [])
  refine ogo (fun _ z_ => XS.aloadN X1.here hx rfl (hb hby d12_10) rfl rfl z_) ?_
  show OWay p e below G T1 (mkF m 11 #[.val (.ref a0), .val (.int (1 : Int32)), .val (.int (0 : Int32)), .unset] [(.ref a0)])
  obtain ⟨T3, X3, eT3, st3⟩ := getF X1 hx hZ hown (host := "") (Or.inl (hw _ (List.mem_of_getElem? (i := 24) rfl))) Via.refl eT1 hp3 (g := (mkF m 11 #[.val (.ref a0), .val (.int (1 : Int32)), .val (.int (0 : Int32)), .unset] [(.ref a0)])) rfl rfl (hb hby d12_11)
  refine ogo st3 ?_
  show OWay p e below G T3 (mkF m 14 #[.val (.ref a0), .val (.int (1 : Int32)), .val (.int (0 : Int32)), .unset] [(.ref ev)])
  obtain ⟨T4, X4, eT4, st4⟩ := getS2 X3 hx hZ hown (host := "") (Or.inl (hw _ (List.mem_of_getElem? (i := 23) rfl))) Via.refl eT3 (hp5.ext hp7.2) (g := (mkF m 14 #[.val (.ref a0), .val (.int (1 : Int32)), .val (.int (0 : Int32)), .unset] [(.ref ev)])) rfl (hb hby d12_14)
  refine ogo st4 ?_
  show OWay p e below G T4 (mkF m 17 #[.val (.ref a0), .val (.int (1 : Int32)), .val (.int (0 : Int32)), .unset] [(.ref ev), (.ref ev)])
  refine ogo (fun _ z_ => Jvm.RoadKit.acmp (g := (mkF m 17 #[.val (.ref a0), .val (.int (1 : Int32)), .val (.int (0 : Int32)), .unset] [(.ref ev), (.ref ev)])) X4 hx rfl rfl rfl (pc0 := 17) (pc' := 45) (same := true) rfl (hb hby d12_17) rfl (decide_eq_true rfl) (by decide) (by decide) z_) ?_
  show OWay p e below G T4 (mkF m 45 #[.val (.ref a0), .val (.int (1 : Int32)), .val (.int (0 : Int32)), .unset] [])
  refine ogo (fun _ z_ => XS.aloadN X4.here hx rfl (hb hby d12_45) rfl rfl z_) ?_
  show OWay p e below G T4 (mkF m 46 #[.val (.ref a0), .val (.int (1 : Int32)), .val (.int (0 : Int32)), .unset] [(.ref a0)])
  refine ogo (fun _ z_ => XS.bipush X4.here hx rfl (hb hby d12_46) z_) ?_
  show OWay p e below G T4 (mkF m 48 #[.val (.ref a0), .val (.int (1 : Int32)), .val (.int (0 : Int32)), .unset] [(.int (10 : Int32)), (.ref a0)])
  refine ogo (fun _ z_ => XS.iloadN X4.here hx rfl (hb hby d12_48) rfl z_) ?_
  show OWay p e below G T4 (mkF m 49 #[.val (.ref a0), .val (.int (1 : Int32)), .val (.int (0 : Int32)), .unset] [(.int (1 : Int32)), (.int (10 : Int32)), (.ref a0)])
  obtain ⟨_, T5, L5, X5, hQ5, st5⟩ := wStatic X4 hx hZ (y := (⟨"java/lang/Math", "max", "(II)I"⟩ : MethodName)) hown (hw _ (List.mem_of_getElem? (i := 81) rfl)) (hw _ (List.mem_of_getElem? (i := 82) rfl)) (hw _ (List.mem_of_getElem? (i := 83) rfl)) (hw _ (List.mem_of_getElem? (i := 84) rfl)) (by decide) (imax_b_c l Z az hw [] (10 : Int32) (1 : Int32) h0 n0 Z0) 1 (by decide) (by decide) (g := (mkF m 49 #[.val (.ref a0), .val (.int (1 : Int32)), .val (.int (0 : Int32)), .unset] [(.int (1 : Int32)), (.int (10 : Int32)), (.ref a0)])) rfl (by rw [hml]; rfl) (argsL := [(.int (10 : Int32)), (.int (1 : Int32))]) (rest := [(.ref a0)]) (lenOf pd__II_I rfl) rfl (by show 2 * 0 + _ ≤ _; exact Nat.le_of_eq rfl) (hb hby d12_49) rfl eT4 (by decide) (by decide)
  obtain ⟨rfl, N5q, eq5⟩ := hQ5
  have N5 := Fr.app N0 N5q
  refine ogo st5 ?_
  show OWay p e below G T5 (mkF m 52 #[.val (.ref a0), .val (.int (1 : Int32)), .val (.int (0 : Int32)), .unset] [(.int (imax (10 : Int32) (1 : Int32))), (.ref a0)])
  refine ogoE (g' := (mkF m 52 #[.val (.ref a0), .val (.int (1 : Int32)), .val (.int (0 : Int32)), .unset] [(.int (10 : Int32)), (.ref a0)])) (by rw [show (imax (10 : Int32) (1 : Int32)) = (10 : Int32) from by decide]) ?_
  obtain ⟨T6, h6, k6, X6, eT6, E6, A6, O6, st6⟩ := newR X5 hx hZ hown (hw _ (List.mem_of_getElem? (i := 85) rfl)) (hw _ (List.mem_of_getElem? (i := 86) rfl)) eq5 (g := (mkF m 52 #[.val (.ref a0), .val (.int (1 : Int32)), .val (.int (0 : Int32)), .unset] [(.int (10 : Int32)), (.ref a0)])) rfl (hb hby d12_52) rfl (by decide) (cap := 10) (by decide) (by decide) (by decide) (by decide)
  obtain ⟨b6, g6⟩ : ∃ z, z = h0.size := ⟨_, rfl⟩
  rw [← g6] at A6 st6
  have g_b6 : n0 ≤ b6 := Nat.le_trans Z0 (Nat.le_of_eq g6.symm)
  have sz_b6 : h0.size ≤ b6 := Nat.le_trans K0.1 (Nat.le_of_eq g6.symm)
  have K7 : Keep h0 h6 [a0] := K0.ext E6
  have V_b6 : Arv Z h6 b6 k6 (.object "java/lang/Object") (10 : Int32) [.null, .null, .null, .null, .null, .null, .null, .null, .null, .null] .null := (Arv.new A6 (by decide)).pad (pad_rep [] .null 10)
  refine ogo st6 ?_
  show OWay p e below G T6 (mkF m 55 #[.val (.ref a0), .val (.int (1 : Int32)), .val (.int (0 : Int32)), .unset] [(.ref b6), (.ref a0)])
  refine ogo (fun _ z_ => XS.dupX1 X6.here hx rfl (hb hby d12_55) rfl rfl rfl z_) ?_
  show OWay p e below G T6 (mkF m 56 #[.val (.ref a0), .val (.int (1 : Int32)), .val (.int (0 : Int32)), .unset] [(.ref b6), (.ref a0), (.ref b6)])
  have F8 : Exa Z h6 a0 "java/util/ArrayList" := (hp0.ext E6)
  have F9 : Fld Z h6 a0 "java/util/ArrayList" "elementData" "[Ljava/lang/Object;" (.ref ev) := (hp3.ext E6)
  obtain ⟨T10, h10, X10, eT10, W10, st10⟩ := putF X6 hx hZ hown (host := "") (Or.inl (hw _ (List.mem_of_getElem? (i := 24) rfl))) Via.refl eT6 F9 F8 (Or.inl (hw _ (List.mem_of_getElem? (i := 25) rfl))) (hw _ (List.mem_of_getElem? (i := 1) rfl)) (ty := (.array (.object "java/lang/Object"))) (by decide) rfl rfl (g := (mkF m 56 #[.val (.ref a0), .val (.int (1 : Int32)), .val (.int (0 : Int32)), .unset] [(.ref b6), (.ref a0), (.ref b6)])) rfl rfl (hb hby d12_56)
  have K11 : Keep h0 h10 [a0] := K7.wr W10 (Or.inl (List.mem_of_getElem? (i := 0) rfl))
  have Fw10 : Fld Z h10 a0 "java/util/ArrayList" "elementData" "[Ljava/lang/Object;" (.ref b6) := F9.same W10
  have N10 := Fr.snoc X10 N5 g_a0
  refine ogo st10 ?_
  show OWay p e below G T10 (mkF m 59 #[.val (.ref a0), .val (.int (1 : Int32)), .val (.int (0 : Int32)), .unset] [(.ref b6)])
  subst hG
  refine wRet X10 hx hret hlk rfl (Or.inr (Or.inr (Or.inr (Or.inr ⟨rfl, rfl, rfl⟩)))) (hb hby d12_59) (by decide) (by decide) eT10 ?_
  exact ⟨b6, k6, rfl, N10, K11, g_b6, sz_b6, (V_b6.other W10 (Ne.symm (Nat.ne_of_lt (Nat.lt_of_lt_of_le hp2.lt (Nat.le_of_eq g6.symm))))), ((hp2.ext E6).other W10 (Or.inr (slot_ne (Or.inl (hw _ (List.mem_of_getElem? (i := 22) rfl))) (Or.inl (hw _ (List.mem_of_getElem? (i := 25) rfl))) (by decide) (t := .int) (t' := (.array (.object "java/lang/Object"))) (by decide) (by decide)))), Fw10, ((hp4.ext E6).other W10 (Or.inr (slot_ne (Or.inl (hw _ (List.mem_of_getElem? (i := 65) rfl))) (Or.inl (hw _ (List.mem_of_getElem? (i := 25) rfl))) (by decide) (t := .int) (t' := (.array (.object "java/lang/Object"))) (by decide) (by decide)))), O6⟩
theorem d11_0 : decode jdk_38_method_7_code 0 = .ok (.aload_n 0, 1) := by decide +kernel
theorem d11_1 : decode jdk_38_method_7_code 1 = .ok (.aload_n 0, 1) := by decide +kernel
theorem d11_2 : decode jdk_38_method_7_code 2 = .ok (.getfield 48, 3) := by decide +kernel
theorem d11_5 : decode jdk_38_method_7_code 5 = .ok (.iconst 1, 1) := by decide +kernel
theorem d11_6 : decode jdk_38_method_7_code 6 = .ok (.iadd, 1) := by decide +kernel
theorem d11_7 : decode jdk_38_method_7_code 7 = .ok (.invokevirtual 69, 3) := by decide +kernel
theorem pd__I__Ljava_lang_Object_ : parseMethodDescriptor "(I)[Ljava/lang/Object;" = some ⟨[.int], some (.array (.object "java/lang/Object"))⟩ := by decide +kernel
theorem d11_10 : decode jdk_38_method_7_code 10 = .ok (.areturn, 1) := by decide +kernel
def grow0_rm : Room := { frames := 2, cells := 1, slots := 10, locals := 29 }
def grow0_Q (Z : State) (a0 : Addr) (ev : Addr) (kE : ClassId) (mc : Int32) (h0 : Heap) (n0 : Nat) (v : Option Value) (h : Heap) (L : List Loc) : Prop := ∃ b : Addr, ∃ k : ClassId, (v = some (.ref b)) ∧ (Fr n0 L) ∧ (Keep h0 h [a0]) ∧ (n0 ≤ b) ∧ (h0.size ≤ b) ∧ (Arv Z h b k (.object "java/lang/Object") (10 : Int32) [.null, .null, .null, .null, .null, .null, .null, .null, .null, .null] .null) ∧ (Fld Z h a0 "java/util/AbstractList" "modCount" "I" (.int mc)) ∧ (Fld Z h a0 "java/util/ArrayList" "elementData" "[Ljava/lang/Object;" (.ref b)) ∧ (Fld Z h a0 "java/util/ArrayList" "size" "I" (.int (0 : Int32))) ∧ (Ovr Z k "java/lang/Object")
theorem grow0_ef (m : MethodId) (a0 : Addr) : entryFrame m #[(.ref a0)] 1 = mkF m 0 #[.val (.ref a0)] [] := by first | (simp [entryFrame, mkF, argsToLocals, Value.category]; done) | rfl
set_option maxRecDepth 65536 in
set_option maxHeartbeats 40000000 in
theorem grow0_c (l : Launch) (Z : State) (az : Array Value) (hw : ∀ d ∈ tables_1, d.before az Z = true) (ws : List Jvm.Cond) (a0 : Addr) (ev : Addr) (kE : ClassId) (mc : Int32) (h0 : Heap) (n0 : Nat) (Z0 : n0 ≤ h0.size) (hp0 : Exa Z h0 a0 "java/util/ArrayList") (hp1 : n0 ≤ a0) (hp2 : Fld Z h0 a0 "java/util/AbstractList" "modCount" "I" (.int mc)) (hp3 : Fld Z h0 a0 "java/util/ArrayList" "elementData" "[Ljava/lang/Object;" (.ref ev)) (hp4 : Fld Z h0 a0 "java/util/ArrayList" "size" "I" (.int (0 : Int32))) (hp5 : Sta Z Z.heap "java/util/ArrayList" "DEFAULTCAPACITY_EMPTY_ELEMENTDATA" "[Ljava/lang/Object;" (.ref ev)) (hp6 : Arv Z Z.heap ev kE (.object "java/lang/Object") (0 : Int32) [] .null) (hp7 : Old Z n0 h0) :
    OCon l (⟨"java/util/ArrayList", "grow", "()[Ljava/lang/Object;"⟩ : MethodName) jdk_38_method_7_code 1 (some (.array (.object "java/lang/Object"))) ws grow0_rm Z #[(.ref a0)] h0 (grow0_Q Z a0 ev kE mc h0 n0) := by
  refine ocon (plainFor_of_name pn_java_util_ArrayList) ?_
  intro p e s m below meth c s₁ hx hby hml hown hnm hret hlk hZ X0 eh0
  have N0 := Fr.nil n0
  have K0 := Keep.refl h0 [a0]
  refine ogoE (grow0_ef m a0) ?_
  have g_a0 := hp1
  generalize hG : (OEnd s below (grow0_Q Z a0 ev kE mc h0 n0) grow0_rm.cells grow0_rm.slots) = G
  show OWay p e below G s₁ (mkF m 0 #[.val (.ref a0)] [])
  refine ogo (fun _ z_ => XS.aloadN X0.here hx rfl (hb hby d11_0) rfl rfl z_) ?_
  show OWay p e below G s₁ (mkF m 1 #[.val (.ref a0)] [(.ref a0)])
  refine ogo (fun _ z_ => XS.aloadN X0.here hx rfl (hb hby d11_1) rfl rfl z_) ?_
  show OWay p e below G s₁ (mkF m 2 #[.val (.ref a0)] [(.ref a0), (.ref a0)])
  obtain ⟨T1, X1, eT1, st1⟩ := getF X0 hx hZ hown (host := "") (Or.inl (hw _ (List.mem_of_getElem? (i := 64) rfl))) Via.refl eh0 hp4 (g := (mkF m 2 #[.val (.ref a0)] [(.ref a0), (.ref a0)])) rfl rfl (hb hby d11_2)
  refine ogo st1 ?_
  show OWay p e below G T1 (mkF m 5 #[.val (.ref a0)] [(.int (0 : Int32)), (.ref a0)])
  refine ogo (fun _ z_ => XS.iconst X1.here hx rfl (hb hby d11_5) z_) ?_
  show OWay p e below G T1 (mkF m 6 #[.val (.ref a0)] [(.int (1 : Int32)), (.int (0 : Int32)), (.ref a0)])
  refine ogo (fun _ z_ => XS.iadd X1.here hx rfl (hb hby d11_6) rfl z_) ?_
  show OWay p e below G T1 (mkF m 7 #[.val (.ref a0)] [(.int ((0 : Int32) + (1 : Int32))), (.ref a0)])
  refine ogoE (g' := (mkF m 7 #[.val (.ref a0)] [(.int (1 : Int32)), (.ref a0)])) (by rw [show ((0 : Int32) + (1 : Int32)) = (1 : Int32) from by decide]) ?_
  obtain ⟨_, T2, L2, X2, hQ2, st2⟩ := wPrivate X1 hx hZ (y := (⟨"java/util/ArrayList", "grow", "(I)[Ljava/lang/Object;"⟩ : MethodName)) hown (hw _ (List.mem_of_getElem? (i := 76) rfl)) (hw _ (List.mem_of_getElem? (i := 77) rfl)) (hw _ (List.mem_of_getElem? (i := 79) rfl)) (hw _ (List.mem_of_getElem? (i := 78) rfl)) (hw _ (List.mem_of_getElem? (i := 2) rfl)) (hw _ (List.mem_of_getElem? (i := 80) rfl)) (by decide) (growI_c l Z az hw [] a0 ev kE mc h0 n0 Z0 hp0 g_a0 hp2 hp3 hp4 hp5 hp6 hp7) 0 (by decide) (by decide) hp0 (g := (mkF m 7 #[.val (.ref a0)] [(.int (1 : Int32)), (.ref a0)])) rfl (by rw [hml]; rfl) (argsL := [(.int (1 : Int32))]) (rest := []) (lenOf pd__I__Ljava_lang_Object_ rfl) rfl (by show 2 * 0 + _ ≤ _; exact Nat.le_of_eq rfl) (hb hby d11_7) rfl eT1 (by decide) (by decide)
  obtain ⟨b_3, k_4, rfl, N2q, Kq2, P5, P6, P7, P8, P9, P10, O_11⟩ := hQ2
  have N2 := Fr.app N0 N2q
  have K12 : Keep h0 T2.heap [a0] := K0.trans Kq2 (allS (Or.inl (List.mem_of_getElem? (i := 0) rfl)) all0)
  have g_b_3 := P5
  have sz_b_3 : h0.size ≤ b_3 := Nat.le_trans K0.1 P6
  refine ogoS st2 ?_
  show OWay p e below G T2 (mkF m 10 #[.val (.ref a0)] [(.ref b_3)])
  subst hG
  refine wRet X2 hx hret hlk rfl (Or.inr (Or.inr (Or.inr (Or.inr ⟨rfl, rfl, rfl⟩)))) (hb hby d11_10) (by decide) (by decide) rfl ?_
  exact ⟨b_3, k_4, rfl, N2, K12, g_b_3, sz_b_3, P7, P8, P9, P10, O_11⟩
theorem d10_0 : decode jdk_38_method_24_code 0 = .ok (.iload_n 3, 1) := by decide +kernel
theorem d10_1 : decode jdk_38_method_24_code 1 = .ok (.aload_n 2, 1) := by decide +kernel
theorem d10_2 : decode jdk_38_method_24_code 2 = .ok (.arraylength, 1) := by decide +kernel
theorem d10_3 : decode jdk_38_method_24_code 3 = .ok (.if_icmp .ne 8, 3) := by decide +kernel
theorem d10_6 : decode jdk_38_method_24_code 6 = .ok (.aload_n 0, 1) := by decide +kernel
theorem d10_7 : decode jdk_38_method_24_code 7 = .ok (.invokevirtual 129, 3) := by decide +kernel
theorem pd____Ljava_lang_Object_ : parseMethodDescriptor "()[Ljava/lang/Object;" = some ⟨[], some (.array (.object "java/lang/Object"))⟩ := by decide +kernel
theorem d10_10 : decode jdk_38_method_24_code 10 = .ok (.astore_n 2, 1) := by decide +kernel
theorem d10_11 : decode jdk_38_method_24_code 11 = .ok (.aload_n 2, 1) := by decide +kernel
theorem d10_12 : decode jdk_38_method_24_code 12 = .ok (.iload_n 3, 1) := by decide +kernel
theorem d10_13 : decode jdk_38_method_24_code 13 = .ok (.aload_n 1, 1) := by decide +kernel
theorem d10_14 : decode jdk_38_method_24_code 14 = .ok (.aastore, 1) := by decide +kernel
theorem d10_15 : decode jdk_38_method_24_code 15 = .ok (.aload_n 0, 1) := by decide +kernel
theorem d10_16 : decode jdk_38_method_24_code 16 = .ok (.iload_n 3, 1) := by decide +kernel
theorem d10_17 : decode jdk_38_method_24_code 17 = .ok (.iconst 1, 1) := by decide +kernel
theorem d10_18 : decode jdk_38_method_24_code 18 = .ok (.iadd, 1) := by decide +kernel
theorem d10_19 : decode jdk_38_method_24_code 19 = .ok (.putfield 48, 3) := by decide +kernel
theorem d10_22 : decode jdk_38_method_24_code 22 = .ok (.return_, 1) := by decide +kernel
def add3a_rm : Room := { frames := 3, cells := 1, slots := 10, locals := 41 }
def add3a_Q (Z : State) (a0 : Addr) (a1 : Addr) (ev : Addr) (kE : ClassId) (mc : Int32) (h0 : Heap) (n0 : Nat) (v : Option Value) (h : Heap) (L : List Loc) : Prop := ∃ b : Addr, ∃ k : ClassId, (v = none) ∧ (Fr n0 L) ∧ (Keep h0 h [a0]) ∧ (n0 ≤ b) ∧ (h0.size ≤ b) ∧ (Arv Z h b k (.object "java/lang/Object") (10 : Int32) [(.ref a1), .null, .null, .null, .null, .null, .null, .null, .null, .null] .null) ∧ (Fld Z h a0 "java/util/AbstractList" "modCount" "I" (.int mc)) ∧ (Fld Z h a0 "java/util/ArrayList" "elementData" "[Ljava/lang/Object;" (.ref b)) ∧ (Fld Z h a0 "java/util/ArrayList" "size" "I" (.int (1 : Int32))) ∧ (Ovr Z k "java/lang/Object")
theorem add3a_ef (m : MethodId) (a0 : Addr) (a1 : Addr) (ev : Addr) : entryFrame m #[(.ref a0), (.ref a1), (.ref ev), (.int (0 : Int32))] 4 = mkF m 0 #[.val (.ref a0), .val (.ref a1), .val (.ref ev), .val (.int (0 : Int32))] [] := by first | (simp [entryFrame, mkF, argsToLocals, Value.category]; done) | rfl
set_option maxRecDepth 65536 in
set_option maxHeartbeats 40000000 in
theorem add3a_c (l : Launch) (Z : State) (az : Array Value) (hw : ∀ d ∈ tables_1, d.before az Z = true) (ws : List Jvm.Cond) (a0 : Addr) (a1 : Addr) (ev : Addr) (kE : ClassId) (mc : Int32) (h0 : Heap) (n0 : Nat) (Z0 : n0 ≤ h0.size) (hp0 : Exa Z h0 a0 "java/util/ArrayList") (hp1 : n0 ≤ a0) (hp2 : Fld Z h0 a0 "java/util/AbstractList" "modCount" "I" (.int mc)) (hp3 : Fld Z h0 a0 "java/util/ArrayList" "elementData" "[Ljava/lang/Object;" (.ref ev)) (hp4 : Fld Z h0 a0 "java/util/ArrayList" "size" "I" (.int (0 : Int32))) (hp5 : Sta Z Z.heap "java/util/ArrayList" "DEFAULTCAPACITY_EMPTY_ELEMENTDATA" "[Ljava/lang/Object;" (.ref ev)) (hp6 : Arv Z Z.heap ev kE (.object "java/lang/Object") (0 : Int32) [] .null) (hp7 : Old Z n0 h0) (hp8 : Exa Z h0 a1 "com/example/wakeline/wakeline/trajectory/Point") :
    OCon l (⟨"java/util/ArrayList", "add", "(Ljava/lang/Object;[Ljava/lang/Object;I)V"⟩ : MethodName) jdk_38_method_24_code 4 none ws add3a_rm Z #[(.ref a0), (.ref a1), (.ref ev), (.int (0 : Int32))] h0 (add3a_Q Z a0 a1 ev kE mc h0 n0) := by
  refine ocon (plainFor_of_name pn_java_util_ArrayList) ?_
  intro p e s m below meth c s₁ hx hby hml hown hnm hret hlk hZ X0 eh0
  have N0 := Fr.nil n0
  have K0 := Keep.refl h0 [a0]
  refine ogoE (add3a_ef m a0 a1 ev) ?_
  have g_a0 := hp1
  generalize hG : (OEnd s below (add3a_Q Z a0 a1 ev kE mc h0 n0) add3a_rm.cells add3a_rm.slots) = G
  show OWay p e below G s₁ (mkF m 0 #[.val (.ref a0), .val (.ref a1), .val (.ref ev), .val (.int (0 : Int32))] [])
  refine ogo (fun _ z_ => XS.iloadN X0.here hx rfl (hb hby d10_0) rfl z_) ?_
  show OWay p e below G s₁ (mkF m 1 #[.val (.ref a0), .val (.ref a1), .val (.ref ev), .val (.int (0 : Int32))] [(.int (0 : Int32))])
  refine ogo (fun _ z_ => XS.aloadN X0.here hx rfl (hb hby d10_1) rfl rfl z_) ?_
  show OWay p e below G s₁ (mkF m 2 #[.val (.ref a0), .val (.ref a1), .val (.ref ev), .val (.int (0 : Int32))] [(.ref ev), (.int (0 : Int32))])
  obtain ⟨cl_o1, Ar_o1, -, S_o1, N_o1, -, -⟩ := id (hp6.ext hp7.2)
  refine ogo (fun _ z_ => X0.arraylength hx (by rw [eh0]; exact Ar_o1.1) (State.isArrayOf_alike hZ.alike Ar_o1.2.1) (g := (mkF m 2 #[.val (.ref a0), .val (.ref a1), .val (.ref ev), .val (.int (0 : Int32))] [(.ref ev), (.int (0 : Int32))])) rfl rfl (hb hby d10_2) _ z_) ?_
  rw [len_of S_o1 N_o1]
  show OWay p e below G s₁ (mkF m 3 #[.val (.ref a0), .val (.ref a1), .val (.ref ev), .val (.int (0 : Int32))] [(.int (0 : Int32)), (.int (0 : Int32))])
  refine ogo (fun _ z_ => XS.icmpNo X0.here hx rfl (hb hby d10_3) rfl (teq rfl).2 z_) ?_
  show OWay p e below G s₁ (mkF m 6 #[.val (.ref a0), .val (.ref a1), .val (.ref ev), .val (.int (0 : Int32))] [])
  refine ogo (fun _ z_ => XS.aloadN X0.here hx rfl (hb hby d10_6) rfl rfl z_) ?_
  show OWay p e below G s₁ (mkF m 7 #[.val (.ref a0), .val (.ref a1), .val (.ref ev), .val (.int (0 : Int32))] [(.ref a0)])
  obtain ⟨_, T2, L2, X2, hQ2, st2⟩ := wPrivate X0 hx hZ (y := (⟨"java/util/ArrayList", "grow", "()[Ljava/lang/Object;"⟩ : MethodName)) hown (hw _ (List.mem_of_getElem? (i := 71) rfl)) (hw _ (List.mem_of_getElem? (i := 72) rfl)) (hw _ (List.mem_of_getElem? (i := 74) rfl)) (hw _ (List.mem_of_getElem? (i := 73) rfl)) (hw _ (List.mem_of_getElem? (i := 2) rfl)) (hw _ (List.mem_of_getElem? (i := 75) rfl)) (by decide) (grow0_c l Z az hw [] a0 ev kE mc h0 n0 Z0 hp0 g_a0 hp2 hp3 hp4 hp5 hp6 hp7) 0 (by decide) (by decide) hp0 (g := (mkF m 7 #[.val (.ref a0), .val (.ref a1), .val (.ref ev), .val (.int (0 : Int32))] [(.ref a0)])) rfl (by rw [hml]; rfl) (argsL := []) (rest := []) (lenOf pd____Ljava_lang_Object_ rfl) rfl (by show 2 * 0 + _ ≤ _; exact Nat.le_of_eq rfl) (hb hby d10_7) rfl eh0 (by decide) (by decide)
  obtain ⟨b_3, k_4, rfl, N2q, Kq2, P5, P6, P7, P8, P9, P10, O_11⟩ := hQ2
  have N2 := Fr.app N0 N2q
  have K12 : Keep h0 T2.heap [a0] := K0.trans Kq2 (allS (Or.inl (List.mem_of_getElem? (i := 0) rfl)) all0)
  have g_b_3 := P5
  have sz_b_3 : h0.size ≤ b_3 := Nat.le_trans K0.1 P6
  refine ogoS st2 ?_
  show OWay p e below G T2 (mkF m 10 #[.val (.ref a0), .val (.ref a1), .val (.ref ev), .val (.int (0 : Int32))] [(.ref b_3)])
  refine ogo (fun _ z_ => XS.astoreN X2.here hx rfl (hb hby d10_10) rfl rfl (l' := #[.val (.ref a0), .val (.ref a1), .val (.ref b_3), .val (.int (0 : Int32))]) rfl z_) ?_
  show OWay p e below G T2 (mkF m 11 #[.val (.ref a0), .val (.ref a1), .val (.ref b_3), .val (.int (0 : Int32))] [])
  refine ogo (fun _ z_ => XS.aloadN X2.here hx rfl (hb hby d10_11) rfl rfl z_) ?_
  show OWay p e below G T2 (mkF m 12 #[.val (.ref a0), .val (.ref a1), .val (.ref b_3), .val (.int (0 : Int32))] [(.ref b_3)])
  refine ogo (fun _ z_ => XS.iloadN X2.here hx rfl (hb hby d10_12) rfl z_) ?_
  show OWay p e below G T2 (mkF m 13 #[.val (.ref a0), .val (.ref a1), .val (.ref b_3), .val (.int (0 : Int32))] [(.int (0 : Int32)), (.ref b_3)])
  refine ogo (fun _ z_ => XS.aloadN X2.here hx rfl (hb hby d10_13) rfl rfl z_) ?_
  show OWay p e below G T2 (mkF m 14 #[.val (.ref a0), .val (.ref a1), .val (.ref b_3), .val (.int (0 : Int32))] [(.ref a1), (.int (0 : Int32)), (.ref b_3)])
  obtain ⟨cl_o13, Ar_o13, q_o13, S_o13, N_o13, H_o13, G_o13⟩ := id P7
  have hin_o13 : ¬ ((0 : Int32) < 0 ∨ cl_o13.slots.size ≤ ((0 : Int32)).toNatClampNeg) := inb_of S_o13 ⟨by decide, by decide⟩
  have F15 : Exa Z T2.heap a1 "com/example/wakeline/wakeline/trajectory/Point" := (hp8.keep Kq2)
  obtain ⟨T14, h14, X14, eT14, W14, st14⟩ := stR X2 hx hZ rfl Ar_o13 (j := (0 : Int32)) hin_o13 rfl (Sto.ofV Ar_o13 q_o13 O_11 (Ins.of_exa F15 (hw _ (List.mem_of_getElem? (i := 87) rfl)))) (g := (mkF m 14 #[.val (.ref a0), .val (.ref a1), .val (.ref b_3), .val (.int (0 : Int32))] [(.ref a1), (.int (0 : Int32)), (.ref b_3)])) rfl rfl (hb hby d10_14)
  have K16 : Keep h0 h14 [a0] := K12.wr W14 (Or.inr sz_b_3)
  have V_14 : Arv Z h14 b_3 k_4 (.object "java/lang/Object") (10 : Int32) [(.ref a1), .null, .null, .null, .null, .null, .null, .null, .null, .null] .null := Arv.set Ar_o13 q_o13 S_o13 N_o13 H_o13 G_o13 rfl W14 0 rfl (Nat.le_of_ble_eq_true rfl)
  have N14 := Fr.snoc X14 N2 g_b_3
  refine ogo st14 ?_
  show OWay p e below G T14 (mkF m 15 #[.val (.ref a0), .val (.ref a1), .val (.ref b_3), .val (.int (0 : Int32))] [])
  refine ogo (fun _ z_ => XS.aloadN X14.here hx rfl (hb hby d10_15) rfl rfl z_) ?_
  show OWay p e below G T14 (mkF m 16 #[.val (.ref a0), .val (.ref a1), .val (.ref b_3), .val (.int (0 : Int32))] [(.ref a0)])
  refine ogo (fun _ z_ => XS.iloadN X14.here hx rfl (hb hby d10_16) rfl z_) ?_
  show OWay p e below G T14 (mkF m 17 #[.val (.ref a0), .val (.ref a1), .val (.ref b_3), .val (.int (0 : Int32))] [(.int (0 : Int32)), (.ref a0)])
  refine ogo (fun _ z_ => XS.iconst X14.here hx rfl (hb hby d10_17) z_) ?_
  show OWay p e below G T14 (mkF m 18 #[.val (.ref a0), .val (.ref a1), .val (.ref b_3), .val (.int (0 : Int32))] [(.int (1 : Int32)), (.int (0 : Int32)), (.ref a0)])
  refine ogo (fun _ z_ => XS.iadd X14.here hx rfl (hb hby d10_18) rfl z_) ?_
  show OWay p e below G T14 (mkF m 19 #[.val (.ref a0), .val (.ref a1), .val (.ref b_3), .val (.int (0 : Int32))] [(.int ((0 : Int32) + (1 : Int32))), (.ref a0)])
  refine ogoE (g' := (mkF m 19 #[.val (.ref a0), .val (.ref a1), .val (.ref b_3), .val (.int (0 : Int32))] [(.int (1 : Int32)), (.ref a0)])) (by rw [show ((0 : Int32) + (1 : Int32)) = (1 : Int32) from by decide]) ?_
  have F17 : Exa Z h14 a0 "java/util/ArrayList" := ((hp0.keep Kq2).wr W14)
  have F18 : Fld Z h14 a0 "java/util/ArrayList" "size" "I" (.int (0 : Int32)) := (P10.other W14 (Or.inl (Nat.ne_of_lt (Nat.lt_of_lt_of_le hp2.lt P6))))
  obtain ⟨T19, h19, X19, eT19, W19, st19⟩ := putF X14 hx hZ hown (host := "") (Or.inl (hw _ (List.mem_of_getElem? (i := 64) rfl))) Via.refl eT14 F18 F17 (Or.inl (hw _ (List.mem_of_getElem? (i := 65) rfl))) (hw _ (List.mem_of_getElem? (i := 1) rfl)) (ty := .int) (by decide) rfl rfl (g := (mkF m 19 #[.val (.ref a0), .val (.ref a1), .val (.ref b_3), .val (.int (0 : Int32))] [(.int (1 : Int32)), (.ref a0)])) rfl rfl (hb hby d10_19)
  have K20 : Keep h0 h19 [a0] := K16.wr W19 (Or.inl (List.mem_of_getElem? (i := 0) rfl))
  have Fw19 : Fld Z h19 a0 "java/util/ArrayList" "size" "I" (.int (1 : Int32)) := F18.same W19
  have N19 := Fr.snoc X19 N14 g_a0
  refine ogo st19 ?_
  show OWay p e below G T19 (mkF m 22 #[.val (.ref a0), .val (.ref a1), .val (.ref b_3), .val (.int (0 : Int32))] [])
  subst hG
  refine wRetV X19 hx hret hlk (hb hby d10_22) (by decide) (by decide) eT19 ?_
  exact ⟨b_3, k_4, rfl, N19, K20, g_b_3, sz_b_3, (V_14.other W19 (Ne.symm (Nat.ne_of_lt (Nat.lt_of_lt_of_le hp2.lt P6)))), ((P8.other W14 (Or.inl (Nat.ne_of_lt (Nat.lt_of_lt_of_le hp2.lt P6)))).other W19 (Or.inr (slot_ne (Or.inl (hw _ (List.mem_of_getElem? (i := 22) rfl))) (Or.inl (hw _ (List.mem_of_getElem? (i := 65) rfl))) (by decide) (t := .int) (t' := .int) (by decide) (by decide)))), ((P9.other W14 (Or.inl (Nat.ne_of_lt (Nat.lt_of_lt_of_le hp2.lt P6)))).other W19 (Or.inr (slot_ne (Or.inl (hw _ (List.mem_of_getElem? (i := 25) rfl))) (Or.inl (hw _ (List.mem_of_getElem? (i := 65) rfl))) (by decide) (t := (.array (.object "java/lang/Object"))) (t' := .int) (by decide) (by decide)))), Fw19, O_11⟩
def add3b_rm : Room := { frames := 0, cells := 0, slots := 0, locals := 0 }
def add3b_Q (Z : State) (a0 : Addr) (a1 : Addr) (b : Addr) (k : ClassId) (x0 : Addr) (mc : Int32) (h0 : Heap) (n0 : Nat) (v : Option Value) (h : Heap) (L : List Loc) : Prop := (v = none) ∧ (Fr n0 L) ∧ (Keep h0 h [a0, b]) ∧ (Arv Z h b k (.object "java/lang/Object") (10 : Int32) [(.ref x0), (.ref a1), .null, .null, .null, .null, .null, .null, .null, .null] .null) ∧ (Fld Z h a0 "java/util/AbstractList" "modCount" "I" (.int mc)) ∧ (Fld Z h a0 "java/util/ArrayList" "elementData" "[Ljava/lang/Object;" (.ref b)) ∧ (Fld Z h a0 "java/util/ArrayList" "size" "I" (.int (2 : Int32)))
theorem add3b_ef (m : MethodId) (a0 : Addr) (a1 : Addr) (b : Addr) : entryFrame m #[(.ref a0), (.ref a1), (.ref b), (.int (1 : Int32))] 4 = mkF m 0 #[.val (.ref a0), .val (.ref a1), .val (.ref b), .val (.int (1 : Int32))] [] := by first | (simp [entryFrame, mkF, argsToLocals, Value.category]; done) | rfl
set_option maxRecDepth 65536 in
set_option maxHeartbeats 40000000 in
theorem add3b_c (l : Launch) (Z : State) (az : Array Value) (hw : ∀ d ∈ tables_1, d.before az Z = true) (ws : List Jvm.Cond) (a0 : Addr) (a1 : Addr) (b : Addr) (k : ClassId) (x0 : Addr) (mc : Int32) (h0 : Heap) (n0 : Nat) (Z0 : n0 ≤ h0.size) (hp0 : Exa Z h0 a0 "java/util/ArrayList") (hp1 : n0 ≤ a0) (hp2 : n0 ≤ b) (hp3 : a0 ≠ b) (hp4 : Fld Z h0 a0 "java/util/AbstractList" "modCount" "I" (.int mc)) (hp5 : Fld Z h0 a0 "java/util/ArrayList" "elementData" "[Ljava/lang/Object;" (.ref b)) (hp6 : Fld Z h0 a0 "java/util/ArrayList" "size" "I" (.int (1 : Int32))) (hp7 : Arv Z h0 b k (.object "java/lang/Object") (10 : Int32) [(.ref x0), .null, .null, .null, .null, .null, .null, .null, .null, .null] .null) (hp8 : Exa Z h0 a1 "com/example/wakeline/wakeline/trajectory/Point") (hO : Ovr Z k "java/lang/Object") :
    OCon l (⟨"java/util/ArrayList", "add", "(Ljava/lang/Object;[Ljava/lang/Object;I)V"⟩ : MethodName) jdk_38_method_24_code 4 none ws add3b_rm Z #[(.ref a0), (.ref a1), (.ref b), (.int (1 : Int32))] h0 (add3b_Q Z a0 a1 b k x0 mc h0 n0) := by
  refine ocon (plainFor_of_name pn_java_util_ArrayList) ?_
  intro p e s m below meth c s₁ hx hby hml hown hnm hret hlk hZ X0 eh0
  have N0 := Fr.nil n0
  have K0 := Keep.refl h0 [a0, b]
  refine ogoE (add3b_ef m a0 a1 b) ?_
  have g_a0 := hp1
  have g_b := hp2
  generalize hG : (OEnd s below (add3b_Q Z a0 a1 b k x0 mc h0 n0) add3b_rm.cells add3b_rm.slots) = G
  show OWay p e below G s₁ (mkF m 0 #[.val (.ref a0), .val (.ref a1), .val (.ref b), .val (.int (1 : Int32))] [])
  refine ogo (fun _ z_ => XS.iloadN X0.here hx rfl (hb hby d10_0) rfl z_) ?_
  show OWay p e below G s₁ (mkF m 1 #[.val (.ref a0), .val (.ref a1), .val (.ref b), .val (.int (1 : Int32))] [(.int (1 : Int32))])
  refine ogo (fun _ z_ => XS.aloadN X0.here hx rfl (hb hby d10_1) rfl rfl z_) ?_
  show OWay p e below G s₁ (mkF m 2 #[.val (.ref a0), .val (.ref a1), .val (.ref b), .val (.int (1 : Int32))] [(.ref b), (.int (1 : Int32))])
  obtain ⟨cl_o1, Ar_o1, -, S_o1, N_o1, -, -⟩ := id hp7
  refine ogo (fun _ z_ => X0.arraylength hx (by rw [eh0]; exact Ar_o1.1) (State.isArrayOf_alike hZ.alike Ar_o1.2.1) (g := (mkF m 2 #[.val (.ref a0), .val (.ref a1), .val (.ref b), .val (.int (1 : Int32))] [(.ref b), (.int (1 : Int32))])) rfl rfl (hb hby d10_2) _ z_) ?_
  rw [len_of S_o1 N_o1]
  show OWay p e below G s₁ (mkF m 3 #[.val (.ref a0), .val (.ref a1), .val (.ref b), .val (.int (1 : Int32))] [(.int (10 : Int32)), (.int (1 : Int32))])
  refine ogo (fun _ z_ => XS.icmpYes X0.here hx rfl (pc0 := 3) (pc' := 11) rfl (hb hby d10_3) rfl (feq (by decide)).2 (by decide) (by decide) z_) ?_
  show OWay p e below G s₁ (mkF m 11 #[.val (.ref a0), .val (.ref a1), .val (.ref b), .val (.int (1 : Int32))] [])
  refine ogo (fun _ z_ => XS.aloadN X0.here hx rfl (hb hby d10_11) rfl rfl z_) ?_
  show OWay p e below G s₁ (mkF m 12 #[.val (.ref a0), .val (.ref a1), .val (.ref b), .val (.int (1 : Int32))] [(.ref b)])
  refine ogo (fun _ z_ => XS.iloadN X0.here hx rfl (hb hby d10_12) rfl z_) ?_
  show OWay p e below G s₁ (mkF m 13 #[.val (.ref a0), .val (.ref a1), .val (.ref b), .val (.int (1 : Int32))] [(.int (1 : Int32)), (.ref b)])
  refine ogo (fun _ z_ => XS.aloadN X0.here hx rfl (hb hby d10_13) rfl rfl z_) ?_
  show OWay p e below G s₁ (mkF m 14 #[.val (.ref a0), .val (.ref a1), .val (.ref b), .val (.int (1 : Int32))] [(.ref a1), (.int (1 : Int32)), (.ref b)])
  obtain ⟨cl_o2, Ar_o2, q_o2, S_o2, N_o2, H_o2, G_o2⟩ := id hp7
  have hin_o2 : ¬ ((1 : Int32) < 0 ∨ cl_o2.slots.size ≤ ((1 : Int32)).toNatClampNeg) := inb_of S_o2 ⟨by decide, by decide⟩
  obtain ⟨T3, h3, X3, eT3, W3, st3⟩ := stR X0 hx hZ eh0 Ar_o2 (j := (1 : Int32)) hin_o2 rfl (Sto.ofV Ar_o2 q_o2 hO (Ins.of_exa hp8 (hw _ (List.mem_of_getElem? (i := 87) rfl)))) (g := (mkF m 14 #[.val (.ref a0), .val (.ref a1), .val (.ref b), .val (.int (1 : Int32))] [(.ref a1), (.int (1 : Int32)), (.ref b)])) rfl rfl (hb hby d10_14)
  have K4 : Keep h0 h3 [a0, b] := K0.wr W3 (Or.inl (List.mem_of_getElem? (i := 1) rfl))
  have V_3 : Arv Z h3 b k (.object "java/lang/Object") (10 : Int32) [(.ref x0), (.ref a1), .null, .null, .null, .null, .null, .null, .null, .null] .null := Arv.set Ar_o2 q_o2 S_o2 N_o2 H_o2 G_o2 rfl W3 1 rfl (Nat.le_of_ble_eq_true rfl)
  have N3 := Fr.snoc X3 N0 g_b
  refine ogo st3 ?_
  show OWay p e below G T3 (mkF m 15 #[.val (.ref a0), .val (.ref a1), .val (.ref b), .val (.int (1 : Int32))] [])
  refine ogo (fun _ z_ => XS.aloadN X3.here hx rfl (hb hby d10_15) rfl rfl z_) ?_
  show OWay p e below G T3 (mkF m 16 #[.val (.ref a0), .val (.ref a1), .val (.ref b), .val (.int (1 : Int32))] [(.ref a0)])
  refine ogo (fun _ z_ => XS.iloadN X3.here hx rfl (hb hby d10_16) rfl z_) ?_
  show OWay p e below G T3 (mkF m 17 #[.val (.ref a0), .val (.ref a1), .val (.ref b), .val (.int (1 : Int32))] [(.int (1 : Int32)), (.ref a0)])
  refine ogo (fun _ z_ => XS.iconst X3.here hx rfl (hb hby d10_17) z_) ?_
  show OWay p e below G T3 (mkF m 18 #[.val (.ref a0), .val (.ref a1), .val (.ref b), .val (.int (1 : Int32))] [(.int (1 : Int32)), (.int (1 : Int32)), (.ref a0)])
  refine ogo (fun _ z_ => XS.iadd X3.here hx rfl (hb hby d10_18) rfl z_) ?_
  show OWay p e below G T3 (mkF m 19 #[.val (.ref a0), .val (.ref a1), .val (.ref b), .val (.int (1 : Int32))] [(.int ((1 : Int32) + (1 : Int32))), (.ref a0)])
  refine ogoE (g' := (mkF m 19 #[.val (.ref a0), .val (.ref a1), .val (.ref b), .val (.int (1 : Int32))] [(.int (2 : Int32)), (.ref a0)])) (by rw [show ((1 : Int32) + (1 : Int32)) = (2 : Int32) from by decide]) ?_
  have F5 : Exa Z h3 a0 "java/util/ArrayList" := (hp0.wr W3)
  have F6 : Fld Z h3 a0 "java/util/ArrayList" "size" "I" (.int (1 : Int32)) := (hp6.other W3 (Or.inl hp3))
  obtain ⟨T7, h7, X7, eT7, W7, st7⟩ := putF X3 hx hZ hown (host := "") (Or.inl (hw _ (List.mem_of_getElem? (i := 64) rfl))) Via.refl eT3 F6 F5 (Or.inl (hw _ (List.mem_of_getElem? (i := 65) rfl))) (hw _ (List.mem_of_getElem? (i := 1) rfl)) (ty := .int) (by decide) rfl rfl (g := (mkF m 19 #[.val (.ref a0), .val (.ref a1), .val (.ref b), .val (.int (1 : Int32))] [(.int (2 : Int32)), (.ref a0)])) rfl rfl (hb hby d10_19)
  have K8 : Keep h0 h7 [a0, b] := K4.wr W7 (Or.inl (List.mem_of_getElem? (i := 0) rfl))
  have Fw7 : Fld Z h7 a0 "java/util/ArrayList" "size" "I" (.int (2 : Int32)) := F6.same W7
  have N7 := Fr.snoc X7 N3 g_a0
  refine ogo st7 ?_
  show OWay p e below G T7 (mkF m 22 #[.val (.ref a0), .val (.ref a1), .val (.ref b), .val (.int (1 : Int32))] [])
  subst hG
  refine wRetV X7 hx hret hlk (hb hby d10_22) (by decide) (by decide) eT7 ?_
  exact ⟨rfl, N7, K8, (V_3.other W7 (Ne.symm hp3)), ((hp4.other W3 (Or.inl hp3)).other W7 (Or.inr (slot_ne (Or.inl (hw _ (List.mem_of_getElem? (i := 22) rfl))) (Or.inl (hw _ (List.mem_of_getElem? (i := 65) rfl))) (by decide) (t := .int) (t' := .int) (by decide) (by decide)))), ((hp5.other W3 (Or.inl hp3)).other W7 (Or.inr (slot_ne (Or.inl (hw _ (List.mem_of_getElem? (i := 25) rfl))) (Or.inl (hw _ (List.mem_of_getElem? (i := 65) rfl))) (by decide) (t := (.array (.object "java/lang/Object"))) (t' := .int) (by decide) (by decide)))), Fw7⟩
theorem d9_0 : decode jdk_38_method_25_code 0 = .ok (.aload_n 0, 1) := by decide +kernel
theorem d9_1 : decode jdk_38_method_25_code 1 = .ok (.dup, 1) := by decide +kernel
theorem d9_2 : decode jdk_38_method_25_code 2 = .ok (.getfield 63, 3) := by decide +kernel
theorem d9_5 : decode jdk_38_method_25_code 5 = .ok (.iconst 1, 1) := by decide +kernel
theorem d9_6 : decode jdk_38_method_25_code 6 = .ok (.iadd, 1) := by decide +kernel
theorem d9_7 : decode jdk_38_method_25_code 7 = .ok (.putfield 63, 3) := by decide +kernel
theorem d9_10 : decode jdk_38_method_25_code 10 = .ok (.aload_n 0, 1) := by decide +kernel
theorem d9_11 : decode jdk_38_method_25_code 11 = .ok (.aload_n 1, 1) := by decide +kernel
theorem d9_12 : decode jdk_38_method_25_code 12 = .ok (.aload_n 0, 1) := by decide +kernel
theorem d9_13 : decode jdk_38_method_25_code 13 = .ok (.getfield 9, 3) := by decide +kernel
theorem d9_16 : decode jdk_38_method_25_code 16 = .ok (.aload_n 0, 1) := by decide +kernel
theorem d9_17 : decode jdk_38_method_25_code 17 = .ok (.getfield 48, 3) := by decide +kernel
theorem d9_20 : decode jdk_38_method_25_code 20 = .ok (.invokevirtual 131, 3) := by decide +kernel
theorem pd__Ljava_lang_Object__Ljava_lang_Object_I_V : parseMethodDescriptor "(Ljava/lang/Object;[Ljava/lang/Object;I)V" = some ⟨[(.object "java/lang/Object"), (.array (.object "java/lang/Object")), .int], none⟩ := by decide +kernel
theorem d9_23 : decode jdk_38_method_25_code 23 = .ok (.iconst 1, 1) := by decide +kernel
theorem d9_24 : decode jdk_38_method_25_code 24 = .ok (.ireturn, 1) := by decide +kernel
def add1_rm : Room := { frames := 4, cells := 1, slots := 10, locals := 56 }
def add1_Q (Z : State) (a0 : Addr) (a1 : Addr) (ev : Addr) (kE : ClassId) (h0 : Heap) (n0 : Nat) (v : Option Value) (h : Heap) (L : List Loc) : Prop := ∃ b : Addr, ∃ k : ClassId, (v = some (.int (1 : Int32))) ∧ (Fr n0 L) ∧ (Keep h0 h [a0]) ∧ (n0 ≤ b) ∧ (h0.size ≤ b) ∧ (Arv Z h b k (.object "java/lang/Object") (10 : Int32) [(.ref a1), .null, .null, .null, .null, .null, .null, .null, .null, .null] .null) ∧ (Fld Z h a0 "java/util/AbstractList" "modCount" "I" (.int (1 : Int32))) ∧ (Fld Z h a0 "java/util/ArrayList" "elementData" "[Ljava/lang/Object;" (.ref b)) ∧ (Fld Z h a0 "java/util/ArrayList" "size" "I" (.int (1 : Int32))) ∧ (Ovr Z k "java/lang/Object")
theorem add1_ef (m : MethodId) (a0 : Addr) (a1 : Addr) : entryFrame m #[(.ref a0), (.ref a1)] 2 = mkF m 0 #[.val (.ref a0), .val (.ref a1)] [] := by first | (simp [entryFrame, mkF, argsToLocals, Value.category]; done) | rfl
set_option maxRecDepth 65536 in
set_option maxHeartbeats 40000000 in
theorem add1_c (l : Launch) (Z : State) (az : Array Value) (hw : ∀ d ∈ tables_1, d.before az Z = true) (ws : List Jvm.Cond) (a0 : Addr) (a1 : Addr) (ev : Addr) (kE : ClassId) (h0 : Heap) (n0 : Nat) (Z0 : n0 ≤ h0.size) (hp0 : Exa Z h0 a0 "java/util/ArrayList") (hp1 : n0 ≤ a0) (hp2 : Fld Z h0 a0 "java/util/AbstractList" "modCount" "I" (.int (0 : Int32))) (hp3 : Fld Z h0 a0 "java/util/ArrayList" "elementData" "[Ljava/lang/Object;" (.ref ev)) (hp4 : Fld Z h0 a0 "java/util/ArrayList" "size" "I" (.int (0 : Int32))) (hp5 : Sta Z Z.heap "java/util/ArrayList" "DEFAULTCAPACITY_EMPTY_ELEMENTDATA" "[Ljava/lang/Object;" (.ref ev)) (hp6 : Arv Z Z.heap ev kE (.object "java/lang/Object") (0 : Int32) [] .null) (hp7 : Old Z n0 h0) (hp8 : Exa Z h0 a1 "com/example/wakeline/wakeline/trajectory/Point") :
    OCon l (⟨"java/util/ArrayList", "add", "(Ljava/lang/Object;)Z"⟩ : MethodName) jdk_38_method_25_code 2 (some .boolean) ws add1_rm Z #[(.ref a0), (.ref a1)] h0 (add1_Q Z a0 a1 ev kE h0 n0) := by
  refine ocon (plainFor_of_name pn_java_util_ArrayList) ?_
  intro p e s m below meth c s₁ hx hby hml hown hnm hret hlk hZ X0 eh0
  have N0 := Fr.nil n0
  have K0 := Keep.refl h0 [a0]
  refine ogoE (add1_ef m a0 a1) ?_
  have g_a0 := hp1
  generalize hG : (OEnd s below (add1_Q Z a0 a1 ev kE h0 n0) add1_rm.cells add1_rm.slots) = G
  show OWay p e below G s₁ (mkF m 0 #[.val (.ref a0), .val (.ref a1)] [])
  refine ogo (fun _ z_ => XS.aloadN X0.here hx rfl (hb hby d9_0) rfl rfl z_) ?_
  show OWay p e below G s₁ (mkF m 1 #[.val (.ref a0), .val (.ref a1)] [(.ref a0)])
  refine ogo (fun _ z_ => XS.dup X0.here hx rfl (hb hby d9_1) rfl rfl z_) ?_
  show OWay p e below G s₁ (mkF m 2 #[.val (.ref a0), .val (.ref a1)] [(.ref a0), (.ref a0)])
  obtain ⟨T1, X1, eT1, st1⟩ := getF X0 hx hZ hown (host := "") (Or.inl (hw _ (List.mem_of_getElem? (i := 62) rfl))) (Via.of (hw _ (List.mem_of_getElem? (i := 63) rfl))) eh0 hp2 (g := (mkF m 2 #[.val (.ref a0), .val (.ref a1)] [(.ref a0), (.ref a0)])) rfl rfl (hb hby d9_2)
  refine ogo st1 ?_
  show OWay p e below G T1 (mkF m 5 #[.val (.ref a0), .val (.ref a1)] [(.int (0 : Int32)), (.ref a0)])
  refine ogo (fun _ z_ => XS.iconst X1.here hx rfl (hb hby d9_5) z_) ?_
  show OWay p e below G T1 (mkF m 6 #[.val (.ref a0), .val (.ref a1)] [(.int (1 : Int32)), (.int (0 : Int32)), (.ref a0)])
  refine ogo (fun _ z_ => XS.iadd X1.here hx rfl (hb hby d9_6) rfl z_) ?_
  show OWay p e below G T1 (mkF m 7 #[.val (.ref a0), .val (.ref a1)] [(.int ((0 : Int32) + (1 : Int32))), (.ref a0)])
  refine ogoE (g' := (mkF m 7 #[.val (.ref a0), .val (.ref a1)] [(.int (1 : Int32)), (.ref a0)])) (by rw [show ((0 : Int32) + (1 : Int32)) = (1 : Int32) from by decide]) ?_
  obtain ⟨T2, h2, X2, eT2, W2, st2⟩ := putF X1 hx hZ hown (host := "") (Or.inl (hw _ (List.mem_of_getElem? (i := 62) rfl))) (Via.of (hw _ (List.mem_of_getElem? (i := 63) rfl))) eT1 hp2 hp0 (Or.inl (hw _ (List.mem_of_getElem? (i := 22) rfl))) (hw _ (List.mem_of_getElem? (i := 1) rfl)) (ty := .int) (by decide) rfl rfl (g := (mkF m 7 #[.val (.ref a0), .val (.ref a1)] [(.int (1 : Int32)), (.ref a0)])) rfl rfl (hb hby d9_7)
  have K3 : Keep h0 h2 [a0] := K0.wr W2 (Or.inl (List.mem_of_getElem? (i := 0) rfl))
  have Fw2 : Fld Z h2 a0 "java/util/AbstractList" "modCount" "I" (.int (1 : Int32)) := hp2.same W2
  have N2 := Fr.snoc X2 N0 g_a0
  refine ogo st2 ?_
  show OWay p e below G T2 (mkF m 10 #[.val (.ref a0), .val (.ref a1)] [])
  refine ogo (fun _ z_ => XS.aloadN X2.here hx rfl (hb hby d9_10) rfl rfl z_) ?_
  show OWay p e below G T2 (mkF m 11 #[.val (.ref a0), .val (.ref a1)] [(.ref a0)])
  refine ogo (fun _ z_ => XS.aloadN X2.here hx rfl (hb hby d9_11) rfl rfl z_) ?_
  show OWay p e below G T2 (mkF m 12 #[.val (.ref a0), .val (.ref a1)] [(.ref a1), (.ref a0)])
  refine ogo (fun _ z_ => XS.aloadN X2.here hx rfl (hb hby d9_12) rfl rfl z_) ?_
  show OWay p e below G T2 (mkF m 13 #[.val (.ref a0), .val (.ref a1)] [(.ref a0), (.ref a1), (.ref a0)])
  have F4 : Fld Z h2 a0 "java/util/ArrayList" "elementData" "[Ljava/lang/Object;" (.ref ev) := (hp3.other W2 (Or.inr (slot_ne (Or.inl (hw _ (List.mem_of_getElem? (i := 25) rfl))) (Or.inl (hw _ (List.mem_of_getElem? (i := 22) rfl))) (by decide) (t := (.array (.object "java/lang/Object"))) (t' := .int) (by decide) (by decide))))
  obtain ⟨T5, X5, eT5, st5⟩ := getF X2 hx hZ hown (host := "") (Or.inl (hw _ (List.mem_of_getElem? (i := 24) rfl))) Via.refl eT2 F4 (g := (mkF m 13 #[.val (.ref a0), .val (.ref a1)] [(.ref a0), (.ref a1), (.ref a0)])) rfl rfl (hb hby d9_13)
  refine ogo st5 ?_
  show OWay p e below G T5 (mkF m 16 #[.val (.ref a0), .val (.ref a1)] [(.ref ev), (.ref a1), (.ref a0)])
  refine ogo (fun _ z_ => XS.aloadN X5.here hx rfl (hb hby d9_16) rfl rfl z_) ?_
  show OWay p e below G T5 (mkF m 17 #[.val (.ref a0), .val (.ref a1)] [(.ref a0), (.ref ev), (.ref a1), (.ref a0)])
  have F6 : Fld Z h2 a0 "java/util/ArrayList" "size" "I" (.int (0 : Int32)) := (hp4.other W2 (Or.inr (slot_ne (Or.inl (hw _ (List.mem_of_getElem? (i := 65) rfl))) (Or.inl (hw _ (List.mem_of_getElem? (i := 22) rfl))) (by decide) (t := .int) (t' := .int) (by decide) (by decide))))
  obtain ⟨T7, X7, eT7, st7⟩ := getF X5 hx hZ hown (host := "") (Or.inl (hw _ (List.mem_of_getElem? (i := 64) rfl))) Via.refl eT5 F6 (g := (mkF m 17 #[.val (.ref a0), .val (.ref a1)] [(.ref a0), (.ref ev), (.ref a1), (.ref a0)])) rfl rfl (hb hby d9_17)
  refine ogo st7 ?_
  show OWay p e below G T7 (mkF m 20 #[.val (.ref a0), .val (.ref a1)] [(.int (0 : Int32)), (.ref ev), (.ref a1), (.ref a0)])
  have F8 : Exa Z h2 a0 "java/util/ArrayList" := (hp0.wr W2)
  have F9 : Old Z n0 h2 := (hp7.wr W2 g_a0)
  have F10 : Exa Z h2 a1 "com/example/wakeline/wakeline/trajectory/Point" := (hp8.wr W2)
  obtain ⟨_, T11, L11, X11, hQ11, st11⟩ := wPrivate X7 hx hZ (y := (⟨"java/util/ArrayList", "add", "(Ljava/lang/Object;[Ljava/lang/Object;I)V"⟩ : MethodName)) hown (hw _ (List.mem_of_getElem? (i := 66) rfl)) (hw _ (List.mem_of_getElem? (i := 67) rfl)) (hw _ (List.mem_of_getElem? (i := 69) rfl)) (hw _ (List.mem_of_getElem? (i := 68) rfl)) (hw _ (List.mem_of_getElem? (i := 2) rfl)) (hw _ (List.mem_of_getElem? (i := 70) rfl)) (by decide) (add3a_c l Z az hw [] a0 a1 ev kE (1 : Int32) h2 n0 (Nat.le_trans Z0 (Keep.of_wr W2).1) F8 g_a0 Fw2 F4 F6 hp5 hp6 F9 F10) 0 (by decide) (by decide) F8 (g := (mkF m 20 #[.val (.ref a0), .val (.ref a1)] [(.int (0 : Int32)), (.ref ev), (.ref a1), (.ref a0)])) rfl (by rw [hml]; rfl) (argsL := [(.ref a1), (.ref ev), (.int (0 : Int32))]) (rest := []) (lenOf pd__Ljava_lang_Object__Ljava_lang_Object_I_V rfl) rfl (by show 2 * 0 + _ ≤ _; exact Nat.le_of_eq rfl) (hb hby d9_20) rfl eT7 (by decide) (by decide)
  obtain ⟨b_12, k_13, rfl, N11q, Kq11, P14, P15, P16, P17, P18, P19, O_20⟩ := hQ11
  have N11 := Fr.app N2 N11q
  have K21 : Keep h0 T11.heap [a0] := K3.trans Kq11 (allS (Or.inl (List.mem_of_getElem? (i := 0) rfl)) all0)
  have g_b_12 := P14
  have sz_b_12 : h0.size ≤ b_12 := Nat.le_trans K3.1 P15
  refine ogoS st11 ?_
  show OWay p e below G T11 (mkF m 23 #[.val (.ref a0), .val (.ref a1)] [])
  refine ogo (fun _ z_ => XS.iconst X11.here hx rfl (hb hby d9_23) z_) ?_
  show OWay p e below G T11 (mkF m 24 #[.val (.ref a0), .val (.ref a1)] [(.int (1 : Int32))])
  subst hG
  refine wRetN X11 hx (t := .boolean) hret hlk (by simp) (hb hby d9_24) (by decide) (by decide) rfl ?_
  exact ⟨b_12, k_13, rfl, N11, K21, g_b_12, sz_b_12, P16, P17, P18, P19, O_20⟩
def add2_rm : Room := { frames := 1, cells := 0, slots := 0, locals := 15 }
def add2_Q (Z : State) (a0 : Addr) (a1 : Addr) (b : Addr) (k : ClassId) (x0 : Addr) (h0 : Heap) (n0 : Nat) (v : Option Value) (h : Heap) (L : List Loc) : Prop := (v = some (.int (1 : Int32))) ∧ (Fr n0 L) ∧ (Keep h0 h [a0, b]) ∧ (Arv Z h b k (.object "java/lang/Object") (10 : Int32) [(.ref x0), (.ref a1), .null, .null, .null, .null, .null, .null, .null, .null] .null) ∧ (Fld Z h a0 "java/util/AbstractList" "modCount" "I" (.int (2 : Int32))) ∧ (Fld Z h a0 "java/util/ArrayList" "elementData" "[Ljava/lang/Object;" (.ref b)) ∧ (Fld Z h a0 "java/util/ArrayList" "size" "I" (.int (2 : Int32)))
theorem add2_ef (m : MethodId) (a0 : Addr) (a1 : Addr) : entryFrame m #[(.ref a0), (.ref a1)] 2 = mkF m 0 #[.val (.ref a0), .val (.ref a1)] [] := by first | (simp [entryFrame, mkF, argsToLocals, Value.category]; done) | rfl
set_option maxRecDepth 65536 in
set_option maxHeartbeats 40000000 in
theorem add2_c (l : Launch) (Z : State) (az : Array Value) (hw : ∀ d ∈ tables_1, d.before az Z = true) (ws : List Jvm.Cond) (a0 : Addr) (a1 : Addr) (b : Addr) (k : ClassId) (x0 : Addr) (h0 : Heap) (n0 : Nat) (Z0 : n0 ≤ h0.size) (hp0 : Exa Z h0 a0 "java/util/ArrayList") (hp1 : n0 ≤ a0) (hp2 : n0 ≤ b) (hp3 : a0 ≠ b) (hp4 : Fld Z h0 a0 "java/util/AbstractList" "modCount" "I" (.int (1 : Int32))) (hp5 : Fld Z h0 a0 "java/util/ArrayList" "elementData" "[Ljava/lang/Object;" (.ref b)) (hp6 : Fld Z h0 a0 "java/util/ArrayList" "size" "I" (.int (1 : Int32))) (hp7 : Arv Z h0 b k (.object "java/lang/Object") (10 : Int32) [(.ref x0), .null, .null, .null, .null, .null, .null, .null, .null, .null] .null) (hp8 : Exa Z h0 a1 "com/example/wakeline/wakeline/trajectory/Point") (hO : Ovr Z k "java/lang/Object") :
    OCon l (⟨"java/util/ArrayList", "add", "(Ljava/lang/Object;)Z"⟩ : MethodName) jdk_38_method_25_code 2 (some .boolean) ws add2_rm Z #[(.ref a0), (.ref a1)] h0 (add2_Q Z a0 a1 b k x0 h0 n0) := by
  refine ocon (plainFor_of_name pn_java_util_ArrayList) ?_
  intro p e s m below meth c s₁ hx hby hml hown hnm hret hlk hZ X0 eh0
  have N0 := Fr.nil n0
  have K0 := Keep.refl h0 [a0, b]
  refine ogoE (add2_ef m a0 a1) ?_
  have g_a0 := hp1
  have g_b := hp2
  generalize hG : (OEnd s below (add2_Q Z a0 a1 b k x0 h0 n0) add2_rm.cells add2_rm.slots) = G
  show OWay p e below G s₁ (mkF m 0 #[.val (.ref a0), .val (.ref a1)] [])
  refine ogo (fun _ z_ => XS.aloadN X0.here hx rfl (hb hby d9_0) rfl rfl z_) ?_
  show OWay p e below G s₁ (mkF m 1 #[.val (.ref a0), .val (.ref a1)] [(.ref a0)])
  refine ogo (fun _ z_ => XS.dup X0.here hx rfl (hb hby d9_1) rfl rfl z_) ?_
  show OWay p e below G s₁ (mkF m 2 #[.val (.ref a0), .val (.ref a1)] [(.ref a0), (.ref a0)])
  obtain ⟨T1, X1, eT1, st1⟩ := getF X0 hx hZ hown (host := "") (Or.inl (hw _ (List.mem_of_getElem? (i := 62) rfl))) (Via.of (hw _ (List.mem_of_getElem? (i := 63) rfl))) eh0 hp4 (g := (mkF m 2 #[.val (.ref a0), .val (.ref a1)] [(.ref a0), (.ref a0)])) rfl rfl (hb hby d9_2)
  refine ogo st1 ?_
  show OWay p e below G T1 (mkF m 5 #[.val (.ref a0), .val (.ref a1)] [(.int (1 : Int32)), (.ref a0)])
  refine ogo (fun _ z_ => XS.iconst X1.here hx rfl (hb hby d9_5) z_) ?_
  show OWay p e below G T1 (mkF m 6 #[.val (.ref a0), .val (.ref a1)] [(.int (1 : Int32)), (.int (1 : Int32)), (.ref a0)])
  refine ogo (fun _ z_ => XS.iadd X1.here hx rfl (hb hby d9_6) rfl z_) ?_
  show OWay p e below G T1 (mkF m 7 #[.val (.ref a0), .val (.ref a1)] [(.int ((1 : Int32) + (1 : Int32))), (.ref a0)])
  refine ogoE (g' := (mkF m 7 #[.val (.ref a0), .val (.ref a1)] [(.int (2 : Int32)), (.ref a0)])) (by rw [show ((1 : Int32) + (1 : Int32)) = (2 : Int32) from by decide]) ?_
  obtain ⟨T2, h2, X2, eT2, W2, st2⟩ := putF X1 hx hZ hown (host := "") (Or.inl (hw _ (List.mem_of_getElem? (i := 62) rfl))) (Via.of (hw _ (List.mem_of_getElem? (i := 63) rfl))) eT1 hp4 hp0 (Or.inl (hw _ (List.mem_of_getElem? (i := 22) rfl))) (hw _ (List.mem_of_getElem? (i := 1) rfl)) (ty := .int) (by decide) rfl rfl (g := (mkF m 7 #[.val (.ref a0), .val (.ref a1)] [(.int (2 : Int32)), (.ref a0)])) rfl rfl (hb hby d9_7)
  have K3 : Keep h0 h2 [a0, b] := K0.wr W2 (Or.inl (List.mem_of_getElem? (i := 0) rfl))
  have Fw2 : Fld Z h2 a0 "java/util/AbstractList" "modCount" "I" (.int (2 : Int32)) := hp4.same W2
  have N2 := Fr.snoc X2 N0 g_a0
  refine ogo st2 ?_
  show OWay p e below G T2 (mkF m 10 #[.val (.ref a0), .val (.ref a1)] [])
  refine ogo (fun _ z_ => XS.aloadN X2.here hx rfl (hb hby d9_10) rfl rfl z_) ?_
  show OWay p e below G T2 (mkF m 11 #[.val (.ref a0), .val (.ref a1)] [(.ref a0)])
  refine ogo (fun _ z_ => XS.aloadN X2.here hx rfl (hb hby d9_11) rfl rfl z_) ?_
  show OWay p e below G T2 (mkF m 12 #[.val (.ref a0), .val (.ref a1)] [(.ref a1), (.ref a0)])
  refine ogo (fun _ z_ => XS.aloadN X2.here hx rfl (hb hby d9_12) rfl rfl z_) ?_
  show OWay p e below G T2 (mkF m 13 #[.val (.ref a0), .val (.ref a1)] [(.ref a0), (.ref a1), (.ref a0)])
  have F4 : Fld Z h2 a0 "java/util/ArrayList" "elementData" "[Ljava/lang/Object;" (.ref b) := (hp5.other W2 (Or.inr (slot_ne (Or.inl (hw _ (List.mem_of_getElem? (i := 25) rfl))) (Or.inl (hw _ (List.mem_of_getElem? (i := 22) rfl))) (by decide) (t := (.array (.object "java/lang/Object"))) (t' := .int) (by decide) (by decide))))
  obtain ⟨T5, X5, eT5, st5⟩ := getF X2 hx hZ hown (host := "") (Or.inl (hw _ (List.mem_of_getElem? (i := 24) rfl))) Via.refl eT2 F4 (g := (mkF m 13 #[.val (.ref a0), .val (.ref a1)] [(.ref a0), (.ref a1), (.ref a0)])) rfl rfl (hb hby d9_13)
  refine ogo st5 ?_
  show OWay p e below G T5 (mkF m 16 #[.val (.ref a0), .val (.ref a1)] [(.ref b), (.ref a1), (.ref a0)])
  refine ogo (fun _ z_ => XS.aloadN X5.here hx rfl (hb hby d9_16) rfl rfl z_) ?_
  show OWay p e below G T5 (mkF m 17 #[.val (.ref a0), .val (.ref a1)] [(.ref a0), (.ref b), (.ref a1), (.ref a0)])
  have F6 : Fld Z h2 a0 "java/util/ArrayList" "size" "I" (.int (1 : Int32)) := (hp6.other W2 (Or.inr (slot_ne (Or.inl (hw _ (List.mem_of_getElem? (i := 65) rfl))) (Or.inl (hw _ (List.mem_of_getElem? (i := 22) rfl))) (by decide) (t := .int) (t' := .int) (by decide) (by decide))))
  obtain ⟨T7, X7, eT7, st7⟩ := getF X5 hx hZ hown (host := "") (Or.inl (hw _ (List.mem_of_getElem? (i := 64) rfl))) Via.refl eT5 F6 (g := (mkF m 17 #[.val (.ref a0), .val (.ref a1)] [(.ref a0), (.ref b), (.ref a1), (.ref a0)])) rfl rfl (hb hby d9_17)
  refine ogo st7 ?_
  show OWay p e below G T7 (mkF m 20 #[.val (.ref a0), .val (.ref a1)] [(.int (1 : Int32)), (.ref b), (.ref a1), (.ref a0)])
  have F8 : Exa Z h2 a0 "java/util/ArrayList" := (hp0.wr W2)
  have F9 : Arv Z h2 b k (.object "java/lang/Object") (10 : Int32) [(.ref x0), .null, .null, .null, .null, .null, .null, .null, .null, .null] .null := (hp7.other W2 (Ne.symm hp3))
  have F10 : Exa Z h2 a1 "com/example/wakeline/wakeline/trajectory/Point" := (hp8.wr W2)
  obtain ⟨_, T11, L11, X11, hQ11, st11⟩ := wPrivate X7 hx hZ (y := (⟨"java/util/ArrayList", "add", "(Ljava/lang/Object;[Ljava/lang/Object;I)V"⟩ : MethodName)) hown (hw _ (List.mem_of_getElem? (i := 66) rfl)) (hw _ (List.mem_of_getElem? (i := 67) rfl)) (hw _ (List.mem_of_getElem? (i := 69) rfl)) (hw _ (List.mem_of_getElem? (i := 68) rfl)) (hw _ (List.mem_of_getElem? (i := 2) rfl)) (hw _ (List.mem_of_getElem? (i := 70) rfl)) (by decide) (add3b_c l Z az hw [] a0 a1 b k x0 (2 : Int32) h2 n0 (Nat.le_trans Z0 (Keep.of_wr W2).1) F8 g_a0 g_b hp3 Fw2 F4 F6 F9 F10 hO) 0 (by decide) (by decide) F8 (g := (mkF m 20 #[.val (.ref a0), .val (.ref a1)] [(.int (1 : Int32)), (.ref b), (.ref a1), (.ref a0)])) rfl (by rw [hml]; rfl) (argsL := [(.ref a1), (.ref b), (.int (1 : Int32))]) (rest := []) (lenOf pd__Ljava_lang_Object__Ljava_lang_Object_I_V rfl) rfl (by show 2 * 0 + _ ≤ _; exact Nat.le_of_eq rfl) (hb hby d9_20) rfl eT7 (by decide) (by decide)
  obtain ⟨rfl, N11q, Kq11, P12, P13, P14, P15⟩ := hQ11
  have N11 := Fr.app N2 N11q
  have K16 : Keep h0 T11.heap [a0, b] := K3.trans Kq11 (allS (Or.inl (List.mem_of_getElem? (i := 0) rfl)) (allS (Or.inl (List.mem_of_getElem? (i := 1) rfl)) all0))
  refine ogoS st11 ?_
  show OWay p e below G T11 (mkF m 23 #[.val (.ref a0), .val (.ref a1)] [])
  refine ogo (fun _ z_ => XS.iconst X11.here hx rfl (hb hby d9_23) z_) ?_
  show OWay p e below G T11 (mkF m 24 #[.val (.ref a0), .val (.ref a1)] [(.int (1 : Int32))])
  subst hG
  refine wRetN X11 hx (t := .boolean) hret hlk (by simp) (hb hby d9_24) (by decide) (by decide) rfl ?_
  exact ⟨rfl, N11, K16, P12, P13, P14, P15⟩
theorem d15_0 : decode jdk_38_method_8_code 0 = .ok (.aload_n 0, 1) := by decide +kernel
theorem d15_1 : decode jdk_38_method_8_code 1 = .ok (.getfield 48, 3) := by decide +kernel
theorem d15_4 : decode jdk_38_method_8_code 4 = .ok (.ireturn, 1) := by decide +kernel
def get15_rm : Room := { frames := 0, cells := 0, slots := 0, locals := 0 }
def get15_Q (Z : State) (a0 : Addr) (w : Int32) (h0 : Heap) (n0 : Nat) (v : Option Value) (h : Heap) (L : List Loc) : Prop := (v = some (.int w)) ∧ (Fr n0 L) ∧ (h = h0)
theorem get15_ef (m : MethodId) (a0 : Addr) : entryFrame m #[(.ref a0)] 1 = mkF m 0 #[.val (.ref a0)] [] := by first | (simp [entryFrame, mkF, argsToLocals, Value.category]; done) | rfl
set_option maxRecDepth 65536 in
set_option maxHeartbeats 40000000 in
theorem get15_c (l : Launch) (Z : State) (az : Array Value) (hw : ∀ d ∈ tables_1, d.before az Z = true) (ws : List Jvm.Cond) (a0 : Addr) (w : Int32) (h0 : Heap) (n0 : Nat) (Z0 : n0 ≤ h0.size) (hp0 : Fld Z h0 a0 "java/util/ArrayList" "size" "I" (.int w)) :
    OCon l (⟨"java/util/ArrayList", "size", "()I"⟩ : MethodName) jdk_38_method_8_code 1 (some .int) ws get15_rm Z #[(.ref a0)] h0 (get15_Q Z a0 w h0 n0) := by
  refine ocon (plainFor_of_name pn_java_util_ArrayList) ?_
  intro p e s m below meth c s₁ hx hby hml hown hnm hret hlk hZ X0 eh0
  have N0 := Fr.nil n0
  have K0 := Keep.refl h0 []
  refine ogoE (get15_ef m a0) ?_
  generalize hG : (OEnd s below (get15_Q Z a0 w h0 n0) get15_rm.cells get15_rm.slots) = G
  show OWay p e below G s₁ (mkF m 0 #[.val (.ref a0)] [])
  refine ogo (fun _ z_ => XS.aloadN X0.here hx rfl (hb hby d15_0) rfl rfl z_) ?_
  show OWay p e below G s₁ (mkF m 1 #[.val (.ref a0)] [(.ref a0)])
  obtain ⟨T1, X1, eT1, st1⟩ := getF X0 hx hZ hown (host := "") (Or.inl (hw _ (List.mem_of_getElem? (i := 64) rfl))) Via.refl eh0 hp0 (g := (mkF m 1 #[.val (.ref a0)] [(.ref a0)])) rfl rfl (hb hby d15_1)
  refine ogo st1 ?_
  show OWay p e below G T1 (mkF m 4 #[.val (.ref a0)] [(.int w)])
  subst hG
  refine wRet X1 hx hret hlk rfl (Or.inl ⟨rfl, Or.inl rfl, _, rfl⟩) (hb hby d15_4) (by decide) (by decide) eT1 ?_
  exact ⟨rfl, N0, rfl⟩
theorem pn_jdk_internal_util_Preconditions : plainName "jdk/internal/util/Preconditions" = true := by first | (simp [plainName, overriddenIn]; done) | decide +kernel
theorem d18_0 : decode jdk_41_method_11_code 0 = .ok (.iload_n 0, 1) := by decide +kernel
theorem d18_1 : decode jdk_41_method_11_code 1 = .ok (.ifCond .lt 8, 3) := by decide +kernel
theorem d18_4 : decode jdk_41_method_11_code 4 = .ok (.iload_n 0, 1) := by decide +kernel
theorem d18_5 : decode jdk_41_method_11_code 5 = .ok (.iload_n 1, 1) := by decide +kernel
theorem d18_6 : decode jdk_41_method_11_code 6 = .ok (.if_icmp .lt 10, 3) := by decide +kernel
theorem d18_16 : decode jdk_41_method_11_code 16 = .ok (.iload_n 0, 1) := by decide +kernel
theorem d18_17 : decode jdk_41_method_11_code 17 = .ok (.ireturn, 1) := by decide +kernel
def pre_b_rm : Room := { frames := 0, cells := 0, slots := 0, locals := 0 }
def pre_b_Q (Z : State) (p0 : Int32) (p1 : Int32) (h0 : Heap) (n0 : Nat) (v : Option Value) (h : Heap) (L : List Loc) : Prop := (v = some (.int p0)) ∧ (Fr n0 L) ∧ (h = h0)
theorem pre_b_ef (m : MethodId) (p0 : Int32) (p1 : Int32) : entryFrame m #[(.int p0), (.int p1), .null] 3 = mkF m 0 #[.val (.int p0), .val (.int p1), .val .null] [] := by first | (simp [entryFrame, mkF, argsToLocals, Value.category]; done) | rfl
set_option maxRecDepth 65536 in
set_option maxHeartbeats 40000000 in
theorem pre_b_c (l : Launch) (Z : State) (az : Array Value) (hw : ∀ d ∈ tables_1, d.before az Z = true) (ws : List Jvm.Cond) (p0 : Int32) (p1 : Int32) (h0 : Heap) (n0 : Nat) (Z0 : n0 ≤ h0.size) (hi1 : ¬ p0 < (0 : Int32)) (hi2 : p0 < p1) :
    OCon l (⟨"jdk/internal/util/Preconditions", "checkIndex", "(IILjava/util/function/BiFunction;)I"⟩ : MethodName) jdk_41_method_11_code 3 (some .int) ws pre_b_rm Z #[(.int p0), (.int p1), .null] h0 (pre_b_Q Z p0 p1 h0 n0) := by
  refine ocon (plainFor_of_name pn_jdk_internal_util_Preconditions) ?_
  intro p e s m below meth c s₁ hx hby hml hown hnm hret hlk hZ X0 eh0
  have N0 := Fr.nil n0
  have K0 := Keep.refl h0 []
  refine ogoE (pre_b_ef m p0 p1) ?_
  generalize hG : (OEnd s below (pre_b_Q Z p0 p1 h0 n0) pre_b_rm.cells pre_b_rm.slots) = G
  show OWay p e below G s₁ (mkF m 0 #[.val (.int p0), .val (.int p1), .val .null] [])
  refine ogo (fun _ z_ => XS.iloadN X0.here hx rfl (hb hby d18_0) rfl z_) ?_
  show OWay p e below G s₁ (mkF m 1 #[.val (.int p0), .val (.int p1), .val .null] [(.int p0)])
  refine ogo (fun _ z_ => XS.ifNo X0.here hx rfl (hb hby d18_1) rfl ((if0 _ _).trans (flt (hi1)).1) z_) ?_
  show OWay p e below G s₁ (mkF m 4 #[.val (.int p0), .val (.int p1), .val .null] [])
  refine ogo (fun _ z_ => XS.iloadN X0.here hx rfl (hb hby d18_4) rfl z_) ?_
  show OWay p e below G s₁ (mkF m 5 #[.val (.int p0), .val (.int p1), .val .null] [(.int p0)])
  refine ogo (fun _ z_ => XS.iloadN X0.here hx rfl (hb hby d18_5) rfl z_) ?_
  show OWay p e below G s₁ (mkF m 6 #[.val (.int p0), .val (.int p1), .val .null] [(.int p1), (.int p0)])
  refine ogo (fun _ z_ => XS.icmpYes X0.here hx rfl (pc0 := 6) (pc' := 16) rfl (hb hby d18_6) rfl (tlt (hi2)).1 (by decide) (by decide) z_) ?_
  show OWay p e below G s₁ (mkF m 16 #[.val (.int p0), .val (.int p1), .val .null] [])
  refine ogo (fun _ z_ => XS.iloadN X0.here hx rfl (hb hby d18_16) rfl z_) ?_
  show OWay p e below G s₁ (mkF m 17 #[.val (.int p0), .val (.int p1), .val .null] [(.int p0)])
  subst hG
  refine wRet X0 hx hret hlk rfl (Or.inl ⟨rfl, Or.inl rfl, _, rfl⟩) (hb hby d18_17) (by decide) (by decide) eh0 ?_
  exact ⟨rfl, N0, rfl⟩
theorem pn_java_util_Objects : plainName "java/util/Objects" = true := by first | (simp [plainName, overriddenIn]; done) | decide +kernel
theorem d17_0 : decode jdk_31_method_17_code 0 = .ok (.iload_n 0, 1) := by decide +kernel
theorem d17_1 : decode jdk_31_method_17_code 1 = .ok (.iload_n 1, 1) := by decide +kernel
theorem d17_2 : decode jdk_31_method_17_code 2 = .ok (.aconst_null, 1) := by decide +kernel
theorem d17_3 : decode jdk_31_method_17_code 3 = .ok (.invokestatic 105, 3) := by decide +kernel
theorem pd__IILjava_util_function_BiFunction__I : parseMethodDescriptor "(IILjava/util/function/BiFunction;)I" = some ⟨[.int, .int, (.object "java/util/function/BiFunction")], some .int⟩ := by decide +kernel
theorem d17_6 : decode jdk_31_method_17_code 6 = .ok (.ireturn, 1) := by decide +kernel
def chk_b_rm : Room := { frames := 1, cells := 0, slots := 0, locals := 14 }
def chk_b_Q (Z : State) (p0 : Int32) (p1 : Int32) (h0 : Heap) (n0 : Nat) (v : Option Value) (h : Heap) (L : List Loc) : Prop := (v = some (.int p0)) ∧ (Fr n0 L) ∧ (h = h0)
theorem chk_b_ef (m : MethodId) (p0 : Int32) (p1 : Int32) : entryFrame m #[(.int p0), (.int p1)] 2 = mkF m 0 #[.val (.int p0), .val (.int p1)] [] := by first | (simp [entryFrame, mkF, argsToLocals, Value.category]; done) | rfl
set_option maxRecDepth 65536 in
set_option maxHeartbeats 40000000 in
theorem chk_b_c (l : Launch) (Z : State) (az : Array Value) (hw : ∀ d ∈ tables_1, d.before az Z = true) (ws : List Jvm.Cond) (p0 : Int32) (p1 : Int32) (h0 : Heap) (n0 : Nat) (Z0 : n0 ≤ h0.size) (hi1 : ¬ p0 < (0 : Int32)) (hi2 : p0 < p1) :
    OCon l (⟨"java/util/Objects", "checkIndex", "(II)I"⟩ : MethodName) jdk_31_method_17_code 2 (some .int) ws chk_b_rm Z #[(.int p0), (.int p1)] h0 (chk_b_Q Z p0 p1 h0 n0) := by
  refine ocon (plainFor_of_name pn_java_util_Objects) ?_
  intro p e s m below meth c s₁ hx hby hml hown hnm hret hlk hZ X0 eh0
  have N0 := Fr.nil n0
  have K0 := Keep.refl h0 []
  refine ogoE (chk_b_ef m p0 p1) ?_
  generalize hG : (OEnd s below (chk_b_Q Z p0 p1 h0 n0) chk_b_rm.cells chk_b_rm.slots) = G
  show OWay p e below G s₁ (mkF m 0 #[.val (.int p0), .val (.int p1)] [])
  refine ogo (fun _ z_ => XS.iloadN X0.here hx rfl (hb hby d17_0) rfl z_) ?_
  show OWay p e below G s₁ (mkF m 1 #[.val (.int p0), .val (.int p1)] [(.int p0)])
  refine ogo (fun _ z_ => XS.iloadN X0.here hx rfl (hb hby d17_1) rfl z_) ?_
  show OWay p e below G s₁ (mkF m 2 #[.val (.int p0), .val (.int p1)] [(.int p1), (.int p0)])
  refine ogo (fun _ z_ => XS.aconstNull X0.here hx rfl (hb hby d17_2) z_) ?_
  show OWay p e below G s₁ (mkF m 3 #[.val (.int p0), .val (.int p1)] [.null, (.int p1), (.int p0)])
  obtain ⟨_, T1, L1, X1, hQ1, st1⟩ := wStatic X0 hx hZ (y := (⟨"jdk/internal/util/Preconditions", "checkIndex", "(IILjava/util/function/BiFunction;)I"⟩ : MethodName)) hown (hw _ (List.mem_of_getElem? (i := 121) rfl)) (hw _ (List.mem_of_getElem? (i := 122) rfl)) (hw _ (List.mem_of_getElem? (i := 123) rfl)) (hw _ (List.mem_of_getElem? (i := 124) rfl)) (by decide) (pre_b_c l Z az hw [] p0 p1 h0 n0 Z0 hi1 hi2) 0 (by decide) (by decide) (g := (mkF m 3 #[.val (.int p0), .val (.int p1)] [.null, (.int p1), (.int p0)])) rfl (by rw [hml]; rfl) (argsL := [(.int p0), (.int p1), .null]) (rest := []) (lenOf pd__IILjava_util_function_BiFunction__I rfl) rfl (by show 2 * 0 + _ ≤ _; exact Nat.le_of_eq rfl) (hb hby d17_3) rfl eh0 (by decide) (by decide)
  obtain ⟨rfl, N1q, eq1⟩ := hQ1
  have N1 := Fr.app N0 N1q
  refine ogo st1 ?_
  show OWay p e below G T1 (mkF m 6 #[.val (.int p0), .val (.int p1)] [(.int p0)])
  subst hG
  refine wRet X1 hx hret hlk rfl (Or.inl ⟨rfl, Or.inl rfl, _, rfl⟩) (hb hby d17_6) (by decide) (by decide) eq1 ?_
  exact ⟨rfl, N1, rfl⟩
theorem d19_0 : decode jdk_38_method_18_code 0 = .ok (.aload_n 0, 1) := by decide +kernel
theorem d19_1 : decode jdk_38_method_18_code 1 = .ok (.getfield 9, 3) := by decide +kernel
theorem d19_4 : decode jdk_38_method_18_code 4 = .ok (.iload_n 1, 1) := by decide +kernel
theorem d19_5 : decode jdk_38_method_18_code 5 = .ok (.aaload, 1) := by decide +kernel
theorem d19_6 : decode jdk_38_method_18_code 6 = .ok (.areturn, 1) := by decide +kernel
def ed0_rm : Room := { frames := 0, cells := 0, slots := 0, locals := 0 }
def ed0_Q (Z : State) (a0 : Addr) (b : Addr) (k : ClassId) (x0 : Addr) (x1 : Addr) (h0 : Heap) (n0 : Nat) (v : Option Value) (h : Heap) (L : List Loc) : Prop := (v = some (.ref x0)) ∧ (Fr n0 L) ∧ (h = h0)
theorem ed0_ef (m : MethodId) (a0 : Addr) : entryFrame m #[(.ref a0), (.int (0 : Int32))] 2 = mkF m 0 #[.val (.ref a0), .val (.int (0 : Int32))] [] := by first | (simp [entryFrame, mkF, argsToLocals, Value.category]; done) | rfl
set_option maxRecDepth 65536 in
set_option maxHeartbeats 40000000 in
theorem ed0_c (l : Launch) (Z : State) (az : Array Value) (hw : ∀ d ∈ tables_1, d.before az Z = true) (ws : List Jvm.Cond) (a0 : Addr) (b : Addr) (k : ClassId) (x0 : Addr) (x1 : Addr) (h0 : Heap) (n0 : Nat) (Z0 : n0 ≤ h0.size) (hp0 : Fld Z h0 a0 "java/util/ArrayList" "elementData" "[Ljava/lang/Object;" (.ref b)) (hp1 : Arv Z h0 b k (.object "java/lang/Object") (10 : Int32) [(.ref x0), (.ref x1), .null, .null, .null, .null, .null, .null, .null, .null] .null) :
    OCon l (⟨"java/util/ArrayList", "elementData", "(I)Ljava/lang/Object;"⟩ : MethodName) jdk_38_method_18_code 2 (some (.object "java/lang/Object")) ws ed0_rm Z #[(.ref a0), (.int (0 : Int32))] h0 (ed0_Q Z a0 b k x0 x1 h0 n0) := by
  refine ocon (plainFor_of_name pn_java_util_ArrayList) ?_
  intro p e s m below meth c s₁ hx hby hml hown hnm hret hlk hZ X0 eh0
  have N0 := Fr.nil n0
  have K0 := Keep.refl h0 []
  refine ogoE (ed0_ef m a0) ?_
  generalize hG : (OEnd s below (ed0_Q Z a0 b k x0 x1 h0 n0) ed0_rm.cells ed0_rm.slots) = G
  show OWay p e below G s₁ (mkF m 0 #[.val (.ref a0), .val (.int (0 : Int32))] [])
  refine ogo (fun _ z_ => XS.aloadN X0.here hx rfl (hb hby d19_0) rfl rfl z_) ?_
  show OWay p e below G s₁ (mkF m 1 #[.val (.ref a0), .val (.int (0 : Int32))] [(.ref a0)])
  obtain ⟨T1, X1, eT1, st1⟩ := getF X0 hx hZ hown (host := "") (Or.inl (hw _ (List.mem_of_getElem? (i := 24) rfl))) Via.refl eh0 hp0 (g := (mkF m 1 #[.val (.ref a0), .val (.int (0 : Int32))] [(.ref a0)])) rfl rfl (hb hby d19_1)
  refine ogo st1 ?_
  show OWay p e below G T1 (mkF m 4 #[.val (.ref a0), .val (.int (0 : Int32))] [(.ref b)])
  refine ogo (fun _ z_ => XS.iloadN X1.here hx rfl (hb hby d19_4) rfl z_) ?_
  show OWay p e below G T1 (mkF m 5 #[.val (.ref a0), .val (.int (0 : Int32))] [(.int (0 : Int32)), (.ref b)])
  obtain ⟨cl_o2, Ar_o2, q_o2, S_o2, N_o2, H_o2, G_o2⟩ := id hp1
  have hin_o2 : ¬ ((0 : Int32) < 0 ∨ cl_o2.slots.size ≤ ((0 : Int32)).toNatClampNeg) := inb_of S_o2 ⟨by decide, by decide⟩
  have hat_o2 : cl_o2.slots[((0 : Int32)).toNatClampNeg]? = some (.ref x0) := H_o2.at hin_o2 rfl
  refine ogo (fun _ z_ => X1.aaload hx (j := (0 : Int32)) (v := (.ref x0)) (by rw [eT1]; exact Ar_o2.1) (State.isArrayOf_alike hZ.alike Ar_o2.2.1) rfl Ar_o2.2.2 hin_o2 hat_o2 (g := (mkF m 5 #[.val (.ref a0), .val (.int (0 : Int32))] [(.int (0 : Int32)), (.ref b)])) rfl rfl (hb hby d19_5) _ z_) ?_
  show OWay p e below G T1 (mkF m 6 #[.val (.ref a0), .val (.int (0 : Int32))] [(.ref x0)])
  subst hG
  refine wRet X1 hx hret hlk rfl (Or.inr (Or.inr (Or.inr (Or.inr ⟨rfl, rfl, rfl⟩)))) (hb hby d19_6) (by decide) (by decide) eT1 ?_
  exact ⟨rfl, N0, rfl⟩
def ed1_rm : Room := { frames := 0, cells := 0, slots := 0, locals := 0 }
def ed1_Q (Z : State) (a0 : Addr) (b : Addr) (k : ClassId) (x0 : Addr) (x1 : Addr) (h0 : Heap) (n0 : Nat) (v : Option Value) (h : Heap) (L : List Loc) : Prop := (v = some (.ref x1)) ∧ (Fr n0 L) ∧ (h = h0)
theorem ed1_ef (m : MethodId) (a0 : Addr) : entryFrame m #[(.ref a0), (.int (1 : Int32))] 2 = mkF m 0 #[.val (.ref a0), .val (.int (1 : Int32))] [] := by first | (simp [entryFrame, mkF, argsToLocals, Value.category]; done) | rfl
set_option maxRecDepth 65536 in
set_option maxHeartbeats 40000000 in
theorem ed1_c (l : Launch) (Z : State) (az : Array Value) (hw : ∀ d ∈ tables_1, d.before az Z = true) (ws : List Jvm.Cond) (a0 : Addr) (b : Addr) (k : ClassId) (x0 : Addr) (x1 : Addr) (h0 : Heap) (n0 : Nat) (Z0 : n0 ≤ h0.size) (hp0 : Fld Z h0 a0 "java/util/ArrayList" "elementData" "[Ljava/lang/Object;" (.ref b)) (hp1 : Arv Z h0 b k (.object "java/lang/Object") (10 : Int32) [(.ref x0), (.ref x1), .null, .null, .null, .null, .null, .null, .null, .null] .null) :
    OCon l (⟨"java/util/ArrayList", "elementData", "(I)Ljava/lang/Object;"⟩ : MethodName) jdk_38_method_18_code 2 (some (.object "java/lang/Object")) ws ed1_rm Z #[(.ref a0), (.int (1 : Int32))] h0 (ed1_Q Z a0 b k x0 x1 h0 n0) := by
  refine ocon (plainFor_of_name pn_java_util_ArrayList) ?_
  intro p e s m below meth c s₁ hx hby hml hown hnm hret hlk hZ X0 eh0
  have N0 := Fr.nil n0
  have K0 := Keep.refl h0 []
  refine ogoE (ed1_ef m a0) ?_
  generalize hG : (OEnd s below (ed1_Q Z a0 b k x0 x1 h0 n0) ed1_rm.cells ed1_rm.slots) = G
  show OWay p e below G s₁ (mkF m 0 #[.val (.ref a0), .val (.int (1 : Int32))] [])
  refine ogo (fun _ z_ => XS.aloadN X0.here hx rfl (hb hby d19_0) rfl rfl z_) ?_
  show OWay p e below G s₁ (mkF m 1 #[.val (.ref a0), .val (.int (1 : Int32))] [(.ref a0)])
  obtain ⟨T1, X1, eT1, st1⟩ := getF X0 hx hZ hown (host := "") (Or.inl (hw _ (List.mem_of_getElem? (i := 24) rfl))) Via.refl eh0 hp0 (g := (mkF m 1 #[.val (.ref a0), .val (.int (1 : Int32))] [(.ref a0)])) rfl rfl (hb hby d19_1)
  refine ogo st1 ?_
  show OWay p e below G T1 (mkF m 4 #[.val (.ref a0), .val (.int (1 : Int32))] [(.ref b)])
  refine ogo (fun _ z_ => XS.iloadN X1.here hx rfl (hb hby d19_4) rfl z_) ?_
  show OWay p e below G T1 (mkF m 5 #[.val (.ref a0), .val (.int (1 : Int32))] [(.int (1 : Int32)), (.ref b)])
  obtain ⟨cl_o2, Ar_o2, q_o2, S_o2, N_o2, H_o2, G_o2⟩ := id hp1
  have hin_o2 : ¬ ((1 : Int32) < 0 ∨ cl_o2.slots.size ≤ ((1 : Int32)).toNatClampNeg) := inb_of S_o2 ⟨by decide, by decide⟩
  have hat_o2 : cl_o2.slots[((1 : Int32)).toNatClampNeg]? = some (.ref x1) := H_o2.at hin_o2 rfl
  refine ogo (fun _ z_ => X1.aaload hx (j := (1 : Int32)) (v := (.ref x1)) (by rw [eT1]; exact Ar_o2.1) (State.isArrayOf_alike hZ.alike Ar_o2.2.1) rfl Ar_o2.2.2 hin_o2 hat_o2 (g := (mkF m 5 #[.val (.ref a0), .val (.int (1 : Int32))] [(.int (1 : Int32)), (.ref b)])) rfl rfl (hb hby d19_5) _ z_) ?_
  show OWay p e below G T1 (mkF m 6 #[.val (.ref a0), .val (.int (1 : Int32))] [(.ref x1)])
  subst hG
  refine wRet X1 hx hret hlk rfl (Or.inr (Or.inr (Or.inr (Or.inr ⟨rfl, rfl, rfl⟩)))) (hb hby d19_6) (by decide) (by decide) eT1 ?_
  exact ⟨rfl, N0, rfl⟩
theorem d16_0 : decode jdk_38_method_20_code 0 = .ok (.iload_n 1, 1) := by decide +kernel
theorem d16_1 : decode jdk_38_method_20_code 1 = .ok (.aload_n 0, 1) := by decide +kernel
theorem d16_2 : decode jdk_38_method_20_code 2 = .ok (.getfield 48, 3) := by decide +kernel
theorem d16_5 : decode jdk_38_method_20_code 5 = .ok (.invokestatic 118, 3) := by decide +kernel
theorem d16_8 : decode jdk_38_method_20_code 8 = .ok (.pop, 1) := by decide +kernel
theorem d16_9 : decode jdk_38_method_20_code 9 = .ok (.aload_n 0, 1) := by decide +kernel
theorem d16_10 : decode jdk_38_method_20_code 10 = .ok (.iload_n 1, 1) := by decide +kernel
theorem d16_11 : decode jdk_38_method_20_code 11 = .ok (.invokevirtual 123, 3) := by decide +kernel
theorem pd__I_Ljava_lang_Object_ : parseMethodDescriptor "(I)Ljava/lang/Object;" = some ⟨[.int], some (.object "java/lang/Object")⟩ := by decide +kernel
theorem d16_14 : decode jdk_38_method_20_code 14 = .ok (.areturn, 1) := by decide +kernel
def get0_rm : Room := { frames := 2, cells := 0, slots := 0, locals := 27 }
def get0_Q (Z : State) (a0 : Addr) (b : Addr) (k : ClassId) (x0 : Addr) (x1 : Addr) (h0 : Heap) (n0 : Nat) (v : Option Value) (h : Heap) (L : List Loc) : Prop := (v = some (.ref x0)) ∧ (Fr n0 L) ∧ (h = h0)
theorem get0_ef (m : MethodId) (a0 : Addr) : entryFrame m #[(.ref a0), (.int (0 : Int32))] 2 = mkF m 0 #[.val (.ref a0), .val (.int (0 : Int32))] [] := by first | (simp [entryFrame, mkF, argsToLocals, Value.category]; done) | rfl
set_option maxRecDepth 65536 in
set_option maxHeartbeats 40000000 in
theorem get0_c (l : Launch) (Z : State) (az : Array Value) (hw : ∀ d ∈ tables_1, d.before az Z = true) (ws : List Jvm.Cond) (a0 : Addr) (b : Addr) (k : ClassId) (x0 : Addr) (x1 : Addr) (h0 : Heap) (n0 : Nat) (Z0 : n0 ≤ h0.size) (hp0 : Exa Z h0 a0 "java/util/ArrayList") (hp1 : Fld Z h0 a0 "java/util/ArrayList" "size" "I" (.int (2 : Int32))) (hp2 : Fld Z h0 a0 "java/util/ArrayList" "elementData" "[Ljava/lang/Object;" (.ref b)) (hp3 : Arv Z h0 b k (.object "java/lang/Object") (10 : Int32) [(.ref x0), (.ref x1), .null, .null, .null, .null, .null, .null, .null, .null] .null) :
    OCon l (⟨"java/util/ArrayList", "get", "(I)Ljava/lang/Object;"⟩ : MethodName) jdk_38_method_20_code 2 (some (.object "java/lang/Object")) ws get0_rm Z #[(.ref a0), (.int (0 : Int32))] h0 (get0_Q Z a0 b k x0 x1 h0 n0) := by
  refine ocon (plainFor_of_name pn_java_util_ArrayList) ?_
  intro p e s m below meth c s₁ hx hby hml hown hnm hret hlk hZ X0 eh0
  have N0 := Fr.nil n0
  have K0 := Keep.refl h0 []
  refine ogoE (get0_ef m a0) ?_
  generalize hG : (OEnd s below (get0_Q Z a0 b k x0 x1 h0 n0) get0_rm.cells get0_rm.slots) = G
  show OWay p e below G s₁ (mkF m 0 #[.val (.ref a0), .val (.int (0 : Int32))] [])
  refine ogo (fun _ z_ => XS.iloadN X0.here hx rfl (hb hby d16_0) rfl z_) ?_
  show OWay p e below G s₁ (mkF m 1 #[.val (.ref a0), .val (.int (0 : Int32))] [(.int (0 : Int32))])
  refine ogo (fun _ z_ => XS.aloadN X0.here hx rfl (hb hby d16_1) rfl rfl z_) ?_
  show OWay p e below G s₁ (mkF m 2 #[.val (.ref a0), .val (.int (0 : Int32))] [(.ref a0), (.int (0 : Int32))])
  obtain ⟨T1, X1, eT1, st1⟩ := getF X0 hx hZ hown (host := "") (Or.inl (hw _ (List.mem_of_getElem? (i := 64) rfl))) Via.refl eh0 hp1 (g := (mkF m 2 #[.val (.ref a0), .val (.int (0 : Int32))] [(.ref a0), (.int (0 : Int32))])) rfl rfl (hb hby d16_2)
  refine ogo st1 ?_
  show OWay p e below G T1 (mkF m 5 #[.val (.ref a0), .val (.int (0 : Int32))] [(.int (2 : Int32)), (.int (0 : Int32))])
  obtain ⟨_, T2, L2, X2, hQ2, st2⟩ := wStatic X1 hx hZ (y := (⟨"java/util/Objects", "checkIndex", "(II)I"⟩ : MethodName)) hown (hw _ (List.mem_of_getElem? (i := 117) rfl)) (hw _ (List.mem_of_getElem? (i := 118) rfl)) (hw _ (List.mem_of_getElem? (i := 119) rfl)) (hw _ (List.mem_of_getElem? (i := 120) rfl)) (by decide) (chk_b_c l Z az hw [] (0 : Int32) (2 : Int32) h0 n0 Z0 (by decide) (by decide)) 0 (by decide) (by decide) (g := (mkF m 5 #[.val (.ref a0), .val (.int (0 : Int32))] [(.int (2 : Int32)), (.int (0 : Int32))])) rfl (by rw [hml]; rfl) (argsL := [(.int (0 : Int32)), (.int (2 : Int32))]) (rest := []) (lenOf pd__II_I rfl) rfl (by show 2 * 0 + _ ≤ _; exact Nat.le_of_eq rfl) (hb hby d16_5) rfl eT1 (by decide) (by decide)
  obtain ⟨rfl, N2q, eq2⟩ := hQ2
  have N2 := Fr.app N0 N2q
  refine ogo st2 ?_
  show OWay p e below G T2 (mkF m 8 #[.val (.ref a0), .val (.int (0 : Int32))] [(.int (0 : Int32))])
  refine ogo (fun _ z_ => XS.pop X2.here hx rfl (hb hby d16_8) rfl rfl z_) ?_
  show OWay p e below G T2 (mkF m 9 #[.val (.ref a0), .val (.int (0 : Int32))] [])
  refine ogo (fun _ z_ => XS.aloadN X2.here hx rfl (hb hby d16_9) rfl rfl z_) ?_
  show OWay p e below G T2 (mkF m 10 #[.val (.ref a0), .val (.int (0 : Int32))] [(.ref a0)])
  refine ogo (fun _ z_ => XS.iloadN X2.here hx rfl (hb hby d16_10) rfl z_) ?_
  show OWay p e below G T2 (mkF m 11 #[.val (.ref a0), .val (.int (0 : Int32))] [(.int (0 : Int32)), (.ref a0)])
  obtain ⟨_, T3, L3, X3, hQ3, st3⟩ := wVirtual X2 hx hZ (y := (⟨"java/util/ArrayList", "elementData", "(I)Ljava/lang/Object;"⟩ : MethodName)) (z := (⟨"java/util/ArrayList", "elementData", "(I)Ljava/lang/Object;"⟩ : MethodName)) hown (hw _ (List.mem_of_getElem? (i := 125) rfl)) (hw _ (List.mem_of_getElem? (i := 126) rfl)) (notFace_of_selects (args := #[]) (mvT hZ (hw _ (List.mem_of_getElem? (i := 128) rfl)))) (hw _ (List.mem_of_getElem? (i := 128) rfl)) (hw _ (List.mem_of_getElem? (i := 127) rfl)) (hw _ (List.mem_of_getElem? (i := 2) rfl)) (hw _ (List.mem_of_getElem? (i := 129) rfl)) (by decide) (ed0_c l Z az hw [] a0 b k x0 x1 h0 n0 Z0 hp2 hp3) 0 (by decide) (by decide) hp0 (g := (mkF m 11 #[.val (.ref a0), .val (.int (0 : Int32))] [(.int (0 : Int32)), (.ref a0)])) rfl (by rw [hml]; rfl) (argsL := [(.int (0 : Int32))]) (rest := []) (lenOf pd__I_Ljava_lang_Object_ rfl) rfl (by show 2 * 0 + _ ≤ _; exact Nat.le_of_eq rfl) (hb hby d16_11) rfl eq2 (by decide) (by decide)
  obtain ⟨rfl, N3q, eq3⟩ := hQ3
  have N3 := Fr.app N2 N3q
  refine ogoS st3 ?_
  show OWay p e below G T3 (mkF m 14 #[.val (.ref a0), .val (.int (0 : Int32))] [(.ref x0)])
  subst hG
  refine wRet X3 hx hret hlk rfl (Or.inr (Or.inr (Or.inr (Or.inr ⟨rfl, rfl, rfl⟩)))) (hb hby d16_14) (by decide) (by decide) eq3 ?_
  exact ⟨rfl, N3, rfl⟩
def get1_rm : Room := { frames := 2, cells := 0, slots := 0, locals := 27 }
def get1_Q (Z : State) (a0 : Addr) (b : Addr) (k : ClassId) (x0 : Addr) (x1 : Addr) (h0 : Heap) (n0 : Nat) (v : Option Value) (h : Heap) (L : List Loc) : Prop := (v = some (.ref x1)) ∧ (Fr n0 L) ∧ (h = h0)
theorem get1_ef (m : MethodId) (a0 : Addr) : entryFrame m #[(.ref a0), (.int (1 : Int32))] 2 = mkF m 0 #[.val (.ref a0), .val (.int (1 : Int32))] [] := by first | (simp [entryFrame, mkF, argsToLocals, Value.category]; done) | rfl
set_option maxRecDepth 65536 in
set_option maxHeartbeats 40000000 in
theorem get1_c (l : Launch) (Z : State) (az : Array Value) (hw : ∀ d ∈ tables_1, d.before az Z = true) (ws : List Jvm.Cond) (a0 : Addr) (b : Addr) (k : ClassId) (x0 : Addr) (x1 : Addr) (h0 : Heap) (n0 : Nat) (Z0 : n0 ≤ h0.size) (hp0 : Exa Z h0 a0 "java/util/ArrayList") (hp1 : Fld Z h0 a0 "java/util/ArrayList" "size" "I" (.int (2 : Int32))) (hp2 : Fld Z h0 a0 "java/util/ArrayList" "elementData" "[Ljava/lang/Object;" (.ref b)) (hp3 : Arv Z h0 b k (.object "java/lang/Object") (10 : Int32) [(.ref x0), (.ref x1), .null, .null, .null, .null, .null, .null, .null, .null] .null) :
    OCon l (⟨"java/util/ArrayList", "get", "(I)Ljava/lang/Object;"⟩ : MethodName) jdk_38_method_20_code 2 (some (.object "java/lang/Object")) ws get1_rm Z #[(.ref a0), (.int (1 : Int32))] h0 (get1_Q Z a0 b k x0 x1 h0 n0) := by
  refine ocon (plainFor_of_name pn_java_util_ArrayList) ?_
  intro p e s m below meth c s₁ hx hby hml hown hnm hret hlk hZ X0 eh0
  have N0 := Fr.nil n0
  have K0 := Keep.refl h0 []
  refine ogoE (get1_ef m a0) ?_
  generalize hG : (OEnd s below (get1_Q Z a0 b k x0 x1 h0 n0) get1_rm.cells get1_rm.slots) = G
  show OWay p e below G s₁ (mkF m 0 #[.val (.ref a0), .val (.int (1 : Int32))] [])
  refine ogo (fun _ z_ => XS.iloadN X0.here hx rfl (hb hby d16_0) rfl z_) ?_
  show OWay p e below G s₁ (mkF m 1 #[.val (.ref a0), .val (.int (1 : Int32))] [(.int (1 : Int32))])
  refine ogo (fun _ z_ => XS.aloadN X0.here hx rfl (hb hby d16_1) rfl rfl z_) ?_
  show OWay p e below G s₁ (mkF m 2 #[.val (.ref a0), .val (.int (1 : Int32))] [(.ref a0), (.int (1 : Int32))])
  obtain ⟨T1, X1, eT1, st1⟩ := getF X0 hx hZ hown (host := "") (Or.inl (hw _ (List.mem_of_getElem? (i := 64) rfl))) Via.refl eh0 hp1 (g := (mkF m 2 #[.val (.ref a0), .val (.int (1 : Int32))] [(.ref a0), (.int (1 : Int32))])) rfl rfl (hb hby d16_2)
  refine ogo st1 ?_
  show OWay p e below G T1 (mkF m 5 #[.val (.ref a0), .val (.int (1 : Int32))] [(.int (2 : Int32)), (.int (1 : Int32))])
  obtain ⟨_, T2, L2, X2, hQ2, st2⟩ := wStatic X1 hx hZ (y := (⟨"java/util/Objects", "checkIndex", "(II)I"⟩ : MethodName)) hown (hw _ (List.mem_of_getElem? (i := 117) rfl)) (hw _ (List.mem_of_getElem? (i := 118) rfl)) (hw _ (List.mem_of_getElem? (i := 119) rfl)) (hw _ (List.mem_of_getElem? (i := 120) rfl)) (by decide) (chk_b_c l Z az hw [] (1 : Int32) (2 : Int32) h0 n0 Z0 (by decide) (by decide)) 0 (by decide) (by decide) (g := (mkF m 5 #[.val (.ref a0), .val (.int (1 : Int32))] [(.int (2 : Int32)), (.int (1 : Int32))])) rfl (by rw [hml]; rfl) (argsL := [(.int (1 : Int32)), (.int (2 : Int32))]) (rest := []) (lenOf pd__II_I rfl) rfl (by show 2 * 0 + _ ≤ _; exact Nat.le_of_eq rfl) (hb hby d16_5) rfl eT1 (by decide) (by decide)
  obtain ⟨rfl, N2q, eq2⟩ := hQ2
  have N2 := Fr.app N0 N2q
  refine ogo st2 ?_
  show OWay p e below G T2 (mkF m 8 #[.val (.ref a0), .val (.int (1 : Int32))] [(.int (1 : Int32))])
  refine ogo (fun _ z_ => XS.pop X2.here hx rfl (hb hby d16_8) rfl rfl z_) ?_
  show OWay p e below G T2 (mkF m 9 #[.val (.ref a0), .val (.int (1 : Int32))] [])
  refine ogo (fun _ z_ => XS.aloadN X2.here hx rfl (hb hby d16_9) rfl rfl z_) ?_
  show OWay p e below G T2 (mkF m 10 #[.val (.ref a0), .val (.int (1 : Int32))] [(.ref a0)])
  refine ogo (fun _ z_ => XS.iloadN X2.here hx rfl (hb hby d16_10) rfl z_) ?_
  show OWay p e below G T2 (mkF m 11 #[.val (.ref a0), .val (.int (1 : Int32))] [(.int (1 : Int32)), (.ref a0)])
  obtain ⟨_, T3, L3, X3, hQ3, st3⟩ := wVirtual X2 hx hZ (y := (⟨"java/util/ArrayList", "elementData", "(I)Ljava/lang/Object;"⟩ : MethodName)) (z := (⟨"java/util/ArrayList", "elementData", "(I)Ljava/lang/Object;"⟩ : MethodName)) hown (hw _ (List.mem_of_getElem? (i := 125) rfl)) (hw _ (List.mem_of_getElem? (i := 126) rfl)) (notFace_of_selects (args := #[]) (mvT hZ (hw _ (List.mem_of_getElem? (i := 128) rfl)))) (hw _ (List.mem_of_getElem? (i := 128) rfl)) (hw _ (List.mem_of_getElem? (i := 127) rfl)) (hw _ (List.mem_of_getElem? (i := 2) rfl)) (hw _ (List.mem_of_getElem? (i := 129) rfl)) (by decide) (ed1_c l Z az hw [] a0 b k x0 x1 h0 n0 Z0 hp2 hp3) 0 (by decide) (by decide) hp0 (g := (mkF m 11 #[.val (.ref a0), .val (.int (1 : Int32))] [(.int (1 : Int32)), (.ref a0)])) rfl (by rw [hml]; rfl) (argsL := [(.int (1 : Int32))]) (rest := []) (lenOf pd__I_Ljava_lang_Object_ rfl) rfl (by show 2 * 0 + _ ≤ _; exact Nat.le_of_eq rfl) (hb hby d16_11) rfl eq2 (by decide) (by decide)
  obtain ⟨rfl, N3q, eq3⟩ := hQ3
  have N3 := Fr.app N2 N3q
  refine ogoS st3 ?_
  show OWay p e below G T3 (mkF m 14 #[.val (.ref a0), .val (.int (1 : Int32))] [(.ref x1)])
  subst hG
  refine wRet X3 hx hret hlk rfl (Or.inr (Or.inr (Or.inr (Or.inr ⟨rfl, rfl, rfl⟩)))) (hb hby d16_14) (by decide) (by decide) eq3 ?_
  exact ⟨rfl, N3, rfl⟩
theorem pn_com_example_wakeline_wakeline_trajectory_Point : plainName "com/example/wakeline/wakeline/trajectory/Point" = true := by first | (simp [plainName, overriddenIn]; done) | decide +kernel
theorem d7_0 : decode prog_65_method_1_code 0 = .ok (.aload_n 0, 1) := by decide +kernel
theorem d7_1 : decode prog_65_method_1_code 1 = .ok (.invokespecial 1, 3) := by decide +kernel
theorem d7_4 : decode prog_65_method_1_code 4 = .ok (.dload_n 1, 1) := by decide +kernel
theorem d7_5 : decode prog_65_method_1_code 5 = .ok (.ldc2_w 7, 3) := by decide +kernel
theorem d7_8 : decode prog_65_method_1_code 8 = .ok (.dcmp .l, 1) := by decide +kernel
theorem d7_9 : decode prog_65_method_1_code 9 = .ok (.ifCond .lt 11, 3) := by decide +kernel
theorem d7_12 : decode prog_65_method_1_code 12 = .ok (.dload_n 1, 1) := by decide +kernel
theorem d7_13 : decode prog_65_method_1_code 13 = .ok (.ldc2_w 9, 3) := by decide +kernel
theorem d7_16 : decode prog_65_method_1_code 16 = .ok (.dcmp .g, 1) := by decide +kernel
theorem d7_17 : decode prog_65_method_1_code 17 = .ok (.ifCond .le 20, 3) := by decide +kernel
theorem d7_37 : decode prog_65_method_1_code 37 = .ok (.dload_n 3, 1) := by decide +kernel
theorem d7_38 : decode prog_65_method_1_code 38 = .ok (.ldc2_w 26, 3) := by decide +kernel
theorem d7_41 : decode prog_65_method_1_code 41 = .ok (.dcmp .l, 1) := by decide +kernel
theorem d7_42 : decode prog_65_method_1_code 42 = .ok (.ifCond .lt 11, 3) := by decide +kernel
theorem d7_45 : decode prog_65_method_1_code 45 = .ok (.dload_n 3, 1) := by decide +kernel
theorem d7_46 : decode prog_65_method_1_code 46 = .ok (.ldc2_w 28, 3) := by decide +kernel
theorem d7_49 : decode prog_65_method_1_code 49 = .ok (.dcmp .g, 1) := by decide +kernel
theorem d7_50 : decode prog_65_method_1_code 50 = .ok (.ifCond .le 20, 3) := by decide +kernel
theorem d7_70 : decode prog_65_method_1_code 70 = .ok (.aload_n 0, 1) := by decide +kernel
theorem d7_71 : decode prog_65_method_1_code 71 = .ok (.dload_n 1, 1) := by decide +kernel
theorem d7_72 : decode prog_65_method_1_code 72 = .ok (.putfield 31, 3) := by decide +kernel
theorem d7_75 : decode prog_65_method_1_code 75 = .ok (.aload_n 0, 1) := by decide +kernel
theorem d7_76 : decode prog_65_method_1_code 76 = .ok (.dload_n 3, 1) := by decide +kernel
theorem d7_77 : decode prog_65_method_1_code 77 = .ok (.putfield 37, 3) := by decide +kernel
theorem d7_80 : decode prog_65_method_1_code 80 = .ok (.aload_n 0, 1) := by decide +kernel
theorem d7_81 : decode prog_65_method_1_code 81 = .ok (.lload 5, 2) := by decide +kernel
theorem d7_83 : decode prog_65_method_1_code 83 = .ok (.putfield 40, 3) := by decide +kernel
theorem d7_86 : decode prog_65_method_1_code 86 = .ok (.return_, 1) := by decide +kernel
def ctor7_rm : Room := { frames := 2, cells := 0, slots := 0, locals := 24 }
def ctor7_Q (Z : State) (a0 : Addr) (d1 : UInt64) (d2 : UInt64) (q3 : Int64) (h0 : Heap) (n0 : Nat) (v : Option Value) (h : Heap) (L : List Loc) : Prop := (v = none) ∧ (Fr n0 L) ∧ (Keep h0 h [a0]) ∧ (Fld Z h a0 "com/example/wakeline/wakeline/trajectory/Point" "longitude" "D" (.double d1)) ∧ (Fld Z h a0 "com/example/wakeline/wakeline/trajectory/Point" "latitude" "D" (.double d2)) ∧ (Fld Z h a0 "com/example/wakeline/wakeline/trajectory/Point" "epochMilli" "J" (.long q3))
theorem ctor7_ef (m : MethodId) (a0 : Addr) (d1 : UInt64) (d2 : UInt64) (q3 : Int64) : entryFrame m #[(.ref a0), (.double d1), (.double d2), (.long q3)] 7 = mkF m 0 #[.val (.ref a0), .val (.double d1), .second, .val (.double d2), .second, .val (.long q3), .second] [] := by first | (simp [entryFrame, mkF, argsToLocals, Value.category]; done) | rfl
set_option maxRecDepth 65536 in
set_option maxHeartbeats 40000000 in
theorem ctor7_c (l : Launch) (Z : State) (az : Array Value) (hw : ∀ d ∈ tables_1, d.before az Z = true) (ws : List Jvm.Cond) (a0 : Addr) (d1 : UInt64) (d2 : UInt64) (q3 : Int64) (h0 : Heap) (n0 : Nat) (Z0 : n0 ≤ h0.size) (hp0 : Exa Z h0 a0 "com/example/wakeline/wakeline/trajectory/Point") (hp1 : n0 ≤ a0) (hp2 : Fld Z h0 a0 "com/example/wakeline/wakeline/trajectory/Point" "longitude" "D" (.double (0 : UInt64))) (hp3 : Fld Z h0 a0 "com/example/wakeline/wakeline/trajectory/Point" "latitude" "D" (.double (0 : UInt64))) (hp4 : Fld Z h0 a0 "com/example/wakeline/wakeline/trajectory/Point" "epochMilli" "J" (.long (0 : Int64))) (hr1 : ¬ (cmpValue (FP.dcmp d1 (13863909240395005952 : UInt64)) .l) < (0 : Int32)) (hr2 : ¬ (0 : Int32) < (cmpValue (FP.dcmp d1 (4640537203540230144 : UInt64)) .g)) (hr3 : ¬ (cmpValue (FP.dcmp d2 (13859405640767635456 : UInt64)) .l) < (0 : Int32)) (hr4 : ¬ (0 : Int32) < (cmpValue (FP.dcmp d2 (4636033603912859648 : UInt64)) .g)) :
    OCon l (⟨"com/example/wakeline/wakeline/trajectory/Point", "<init>", "(DDJ)V"⟩ : MethodName) prog_65_method_1_code 7 none ws ctor7_rm Z #[(.ref a0), (.double d1), (.double d2), (.long q3)] h0 (ctor7_Q Z a0 d1 d2 q3 h0 n0) := by
  refine ocon (plainFor_of_name pn_com_example_wakeline_wakeline_trajectory_Point) ?_
  intro p e s m below meth c s₁ hx hby hml hown hnm hret hlk hZ X0 eh0
  have N0 := Fr.nil n0
  have K0 := Keep.refl h0 [a0]
  refine ogoE (ctor7_ef m a0 d1 d2 q3) ?_
  have g_a0 := hp1
  generalize hG : (OEnd s below (ctor7_Q Z a0 d1 d2 q3 h0 n0) ctor7_rm.cells ctor7_rm.slots) = G
  show OWay p e below G s₁ (mkF m 0 #[.val (.ref a0), .val (.double d1), .second, .val (.double d2), .second, .val (.long q3), .second] [])
  refine ogo (fun _ z_ => XS.aloadN X0.here hx rfl (hb hby d7_0) rfl rfl z_) ?_
  show OWay p e below G s₁ (mkF m 1 #[.val (.ref a0), .val (.double d1), .second, .val (.double d2), .second, .val (.long q3), .second] [(.ref a0)])
  obtain ⟨_, T1, L1, X1, hQ1, st1⟩ := wInit X0 hx hZ (y := (⟨"java/lang/Record", "<init>", "()V"⟩ : MethodName)) rfl hown (hw _ (List.mem_of_getElem? (i := 41) rfl)) (hw _ (List.mem_of_getElem? (i := 42) rfl)) (hw _ (List.mem_of_getElem? (i := 44) rfl)) (hw _ (List.mem_of_getElem? (i := 45) rfl)) (by decide) (recinit_c l Z az hw [] a0 h0 n0 Z0) 0 (by decide) (by decide) (g := (mkF m 1 #[.val (.ref a0), .val (.double d1), .second, .val (.double d2), .second, .val (.long q3), .second] [(.ref a0)])) rfl (by rw [hml]; rfl) (a := a0) (argsL := []) (rest := []) (lenOf pd___V rfl) rfl (by show 2 * 0 + _ ≤ _; exact Nat.le_of_eq rfl) (hb hby d7_1) rfl eh0 (by decide) (by decide)
  obtain ⟨rfl, N1q, eq1⟩ := hQ1
  have N1 := Fr.app N0 N1q
  refine ogoS st1 ?_
  show OWay p e below G T1 (mkF m 4 #[.val (.ref a0), .val (.double d1), .second, .val (.double d2), .second, .val (.long q3), .second] [])
  refine ogo (fun _ z_ => XS.dloadN X1.here hx rfl (hb hby d7_4) rfl z_) ?_
  show OWay p e below G T1 (mkF m 5 #[.val (.ref a0), .val (.double d1), .second, .val (.double d2), .second, .val (.long q3), .second] [(.double d1)])
  refine ogo (fun _ z_ => X1.ldc2DoubleC hx hown (mvT hZ (hw _ (List.mem_of_getElem? (i := 47) rfl))) (g := (mkF m 5 #[.val (.ref a0), .val (.double d1), .second, .val (.double d2), .second, .val (.long q3), .second] [(.double d1)])) rfl (hb hby d7_5) _ z_) ?_
  show OWay p e below G T1 (mkF m 8 #[.val (.ref a0), .val (.double d1), .second, .val (.double d2), .second, .val (.long q3), .second] [(.double (13863909240395005952 : UInt64)), (.double d1)])
  refine ogo (fun _ z_ => XS.dcmpS X1.here hx rfl (hb hby d7_8) rfl rfl z_) ?_
  show OWay p e below G T1 (mkF m 9 #[.val (.ref a0), .val (.double d1), .second, .val (.double d2), .second, .val (.long q3), .second] [(.int (cmpValue (FP.dcmp d1 (13863909240395005952 : UInt64)) .l))])
  refine ogo (fun _ z_ => XS.ifNo X1.here hx rfl (hb hby d7_9) rfl ((if0 _ _).trans (flt (hr1)).1) z_) ?_
  show OWay p e below G T1 (mkF m 12 #[.val (.ref a0), .val (.double d1), .second, .val (.double d2), .second, .val (.long q3), .second] [])
  refine ogo (fun _ z_ => XS.dloadN X1.here hx rfl (hb hby d7_12) rfl z_) ?_
  show OWay p e below G T1 (mkF m 13 #[.val (.ref a0), .val (.double d1), .second, .val (.double d2), .second, .val (.long q3), .second] [(.double d1)])
  refine ogo (fun _ z_ => X1.ldc2DoubleC hx hown (mvT hZ (hw _ (List.mem_of_getElem? (i := 48) rfl))) (g := (mkF m 13 #[.val (.ref a0), .val (.double d1), .second, .val (.double d2), .second, .val (.long q3), .second] [(.double d1)])) rfl (hb hby d7_13) _ z_) ?_
  show OWay p e below G T1 (mkF m 16 #[.val (.ref a0), .val (.double d1), .second, .val (.double d2), .second, .val (.long q3), .second] [(.double (4640537203540230144 : UInt64)), (.double d1)])
  refine ogo (fun _ z_ => XS.dcmpS X1.here hx rfl (hb hby d7_16) rfl rfl z_) ?_
  show OWay p e below G T1 (mkF m 17 #[.val (.ref a0), .val (.double d1), .second, .val (.double d2), .second, .val (.long q3), .second] [(.int (cmpValue (FP.dcmp d1 (4640537203540230144 : UInt64)) .g))])
  refine ogo (fun _ z_ => XS.ifYes X1.here hx rfl (pc0 := 17) (pc' := 37) rfl (hb hby d7_17) rfl ((if0 _ _).trans (flt (hr2)).2.2.2) (by decide) (by decide) z_) ?_
  show OWay p e below G T1 (mkF m 37 #[.val (.ref a0), .val (.double d1), .second, .val (.double d2), .second, .val (.long q3), .second] [])
  refine ogo (fun _ z_ => XS.dloadN X1.here hx rfl (hb hby d7_37) rfl z_) ?_
  show OWay p e below G T1 (mkF m 38 #[.val (.ref a0), .val (.double d1), .second, .val (.double d2), .second, .val (.long q3), .second] [(.double d2)])
  refine ogo (fun _ z_ => X1.ldc2DoubleC hx hown (mvT hZ (hw _ (List.mem_of_getElem? (i := 49) rfl))) (g := (mkF m 38 #[.val (.ref a0), .val (.double d1), .second, .val (.double d2), .second, .val (.long q3), .second] [(.double d2)])) rfl (hb hby d7_38) _ z_) ?_
  show OWay p e below G T1 (mkF m 41 #[.val (.ref a0), .val (.double d1), .second, .val (.double d2), .second, .val (.long q3), .second] [(.double (13859405640767635456 : UInt64)), (.double d2)])
  refine ogo (fun _ z_ => XS.dcmpS X1.here hx rfl (hb hby d7_41) rfl rfl z_) ?_
  show OWay p e below G T1 (mkF m 42 #[.val (.ref a0), .val (.double d1), .second, .val (.double d2), .second, .val (.long q3), .second] [(.int (cmpValue (FP.dcmp d2 (13859405640767635456 : UInt64)) .l))])
  refine ogo (fun _ z_ => XS.ifNo X1.here hx rfl (hb hby d7_42) rfl ((if0 _ _).trans (flt (hr3)).1) z_) ?_
  show OWay p e below G T1 (mkF m 45 #[.val (.ref a0), .val (.double d1), .second, .val (.double d2), .second, .val (.long q3), .second] [])
  refine ogo (fun _ z_ => XS.dloadN X1.here hx rfl (hb hby d7_45) rfl z_) ?_
  show OWay p e below G T1 (mkF m 46 #[.val (.ref a0), .val (.double d1), .second, .val (.double d2), .second, .val (.long q3), .second] [(.double d2)])
  refine ogo (fun _ z_ => X1.ldc2DoubleC hx hown (mvT hZ (hw _ (List.mem_of_getElem? (i := 50) rfl))) (g := (mkF m 46 #[.val (.ref a0), .val (.double d1), .second, .val (.double d2), .second, .val (.long q3), .second] [(.double d2)])) rfl (hb hby d7_46) _ z_) ?_
  show OWay p e below G T1 (mkF m 49 #[.val (.ref a0), .val (.double d1), .second, .val (.double d2), .second, .val (.long q3), .second] [(.double (4636033603912859648 : UInt64)), (.double d2)])
  refine ogo (fun _ z_ => XS.dcmpS X1.here hx rfl (hb hby d7_49) rfl rfl z_) ?_
  show OWay p e below G T1 (mkF m 50 #[.val (.ref a0), .val (.double d1), .second, .val (.double d2), .second, .val (.long q3), .second] [(.int (cmpValue (FP.dcmp d2 (4636033603912859648 : UInt64)) .g))])
  refine ogo (fun _ z_ => XS.ifYes X1.here hx rfl (pc0 := 50) (pc' := 70) rfl (hb hby d7_50) rfl ((if0 _ _).trans (flt (hr4)).2.2.2) (by decide) (by decide) z_) ?_
  show OWay p e below G T1 (mkF m 70 #[.val (.ref a0), .val (.double d1), .second, .val (.double d2), .second, .val (.long q3), .second] [])
  refine ogo (fun _ z_ => XS.aloadN X1.here hx rfl (hb hby d7_70) rfl rfl z_) ?_
  show OWay p e below G T1 (mkF m 71 #[.val (.ref a0), .val (.double d1), .second, .val (.double d2), .second, .val (.long q3), .second] [(.ref a0)])
  refine ogo (fun _ z_ => XS.dloadN X1.here hx rfl (hb hby d7_71) rfl z_) ?_
  show OWay p e below G T1 (mkF m 72 #[.val (.ref a0), .val (.double d1), .second, .val (.double d2), .second, .val (.long q3), .second] [(.double d1), (.ref a0)])
  obtain ⟨T2, h2, X2, eT2, W2, st2⟩ := putF X1 hx hZ hown (host := "") (Or.inl (hw _ (List.mem_of_getElem? (i := 51) rfl))) Via.refl eq1 hp2 hp0 (Or.inr ⟨(hw _ (List.mem_of_getElem? (i := 52) rfl)), rfl, hnm⟩) (hw _ (List.mem_of_getElem? (i := 27) rfl)) (ty := .double) (by decide) rfl rfl (g := (mkF m 72 #[.val (.ref a0), .val (.double d1), .second, .val (.double d2), .second, .val (.long q3), .second] [(.double d1), (.ref a0)])) rfl rfl (hb hby d7_72)
  have K3 : Keep h0 h2 [a0] := K0.wr W2 (Or.inl (List.mem_of_getElem? (i := 0) rfl))
  have Fw2 : Fld Z h2 a0 "com/example/wakeline/wakeline/trajectory/Point" "longitude" "D" (.double d1) := hp2.same W2
  have N2 := Fr.snoc X2 N1 g_a0
  refine ogo st2 ?_
  show OWay p e below G T2 (mkF m 75 #[.val (.ref a0), .val (.double d1), .second, .val (.double d2), .second, .val (.long q3), .second] [])
  refine ogo (fun _ z_ => XS.aloadN X2.here hx rfl (hb hby d7_75) rfl rfl z_) ?_
  show OWay p e below G T2 (mkF m 76 #[.val (.ref a0), .val (.double d1), .second, .val (.double d2), .second, .val (.long q3), .second] [(.ref a0)])
  refine ogo (fun _ z_ => XS.dloadN X2.here hx rfl (hb hby d7_76) rfl z_) ?_
  show OWay p e below G T2 (mkF m 77 #[.val (.ref a0), .val (.double d1), .second, .val (.double d2), .second, .val (.long q3), .second] [(.double d2), (.ref a0)])
  have F4 : Exa Z h2 a0 "com/example/wakeline/wakeline/trajectory/Point" := (hp0.wr W2)
  have F5 : Fld Z h2 a0 "com/example/wakeline/wakeline/trajectory/Point" "latitude" "D" (.double (0 : UInt64)) := (hp3.other W2 (Or.inr (slot_ne (Or.inr (hw _ (List.mem_of_getElem? (i := 54) rfl))) (Or.inr (hw _ (List.mem_of_getElem? (i := 52) rfl))) (by decide) (t := .double) (t' := .double) (by decide) (by decide))))
  obtain ⟨T6, h6, X6, eT6, W6, st6⟩ := putF X2 hx hZ hown (host := "") (Or.inl (hw _ (List.mem_of_getElem? (i := 53) rfl))) Via.refl eT2 F5 F4 (Or.inr ⟨(hw _ (List.mem_of_getElem? (i := 54) rfl)), rfl, hnm⟩) (hw _ (List.mem_of_getElem? (i := 27) rfl)) (ty := .double) (by decide) rfl rfl (g := (mkF m 77 #[.val (.ref a0), .val (.double d1), .second, .val (.double d2), .second, .val (.long q3), .second] [(.double d2), (.ref a0)])) rfl rfl (hb hby d7_77)
  have K7 : Keep h0 h6 [a0] := K3.wr W6 (Or.inl (List.mem_of_getElem? (i := 0) rfl))
  have Fw6 : Fld Z h6 a0 "com/example/wakeline/wakeline/trajectory/Point" "latitude" "D" (.double d2) := F5.same W6
  have N6 := Fr.snoc X6 N2 g_a0
  refine ogo st6 ?_
  show OWay p e below G T6 (mkF m 80 #[.val (.ref a0), .val (.double d1), .second, .val (.double d2), .second, .val (.long q3), .second] [])
  refine ogo (fun _ z_ => XS.aloadN X6.here hx rfl (hb hby d7_80) rfl rfl z_) ?_
  show OWay p e below G T6 (mkF m 81 #[.val (.ref a0), .val (.double d1), .second, .val (.double d2), .second, .val (.long q3), .second] [(.ref a0)])
  refine ogo (fun _ z_ => XS.lload X6.here hx rfl (hb hby d7_81) rfl z_) ?_
  show OWay p e below G T6 (mkF m 83 #[.val (.ref a0), .val (.double d1), .second, .val (.double d2), .second, .val (.long q3), .second] [(.long q3), (.ref a0)])
  have F8 : Exa Z h6 a0 "com/example/wakeline/wakeline/trajectory/Point" := (F4.wr W6)
  have F9 : Fld Z h6 a0 "com/example/wakeline/wakeline/trajectory/Point" "epochMilli" "J" (.long (0 : Int64)) := ((hp4.other W2 (Or.inr (slot_ne (Or.inr (hw _ (List.mem_of_getElem? (i := 56) rfl))) (Or.inr (hw _ (List.mem_of_getElem? (i := 52) rfl))) (by decide) (t := .long) (t' := .double) (by decide) (by decide)))).other W6 (Or.inr (slot_ne (Or.inr (hw _ (List.mem_of_getElem? (i := 56) rfl))) (Or.inr (hw _ (List.mem_of_getElem? (i := 54) rfl))) (by decide) (t := .long) (t' := .double) (by decide) (by decide))))
  obtain ⟨T10, h10, X10, eT10, W10, st10⟩ := putF X6 hx hZ hown (host := "") (Or.inl (hw _ (List.mem_of_getElem? (i := 55) rfl))) Via.refl eT6 F9 F8 (Or.inr ⟨(hw _ (List.mem_of_getElem? (i := 56) rfl)), rfl, hnm⟩) (hw _ (List.mem_of_getElem? (i := 27) rfl)) (ty := .long) (by decide) rfl rfl (g := (mkF m 83 #[.val (.ref a0), .val (.double d1), .second, .val (.double d2), .second, .val (.long q3), .second] [(.long q3), (.ref a0)])) rfl rfl (hb hby d7_83)
  have K11 : Keep h0 h10 [a0] := K7.wr W10 (Or.inl (List.mem_of_getElem? (i := 0) rfl))
  have Fw10 : Fld Z h10 a0 "com/example/wakeline/wakeline/trajectory/Point" "epochMilli" "J" (.long q3) := F9.same W10
  have N10 := Fr.snoc X10 N6 g_a0
  refine ogo st10 ?_
  show OWay p e below G T10 (mkF m 86 #[.val (.ref a0), .val (.double d1), .second, .val (.double d2), .second, .val (.long q3), .second] [])
  subst hG
  refine wRetV X10 hx hret hlk (hb hby d7_86) (by decide) (by decide) eT10 ?_
  exact ⟨rfl, N10, K11, ((Fw2.other W6 (Or.inr (slot_ne (Or.inr (hw _ (List.mem_of_getElem? (i := 52) rfl))) (Or.inr (hw _ (List.mem_of_getElem? (i := 54) rfl))) (by decide) (t := .double) (t' := .double) (by decide) (by decide)))).other W10 (Or.inr (slot_ne (Or.inr (hw _ (List.mem_of_getElem? (i := 52) rfl))) (Or.inr (hw _ (List.mem_of_getElem? (i := 56) rfl))) (by decide) (t := .double) (t' := .long) (by decide) (by decide)))), (Fw6.other W10 (Or.inr (slot_ne (Or.inr (hw _ (List.mem_of_getElem? (i := 54) rfl))) (Or.inr (hw _ (List.mem_of_getElem? (i := 56) rfl))) (by decide) (t := .double) (t' := .long) (by decide) (by decide)))), Fw10⟩
theorem d20_0 : decode prog_65_method_6_code 0 = .ok (.aload_n 0, 1) := by decide +kernel
theorem d20_1 : decode prog_65_method_6_code 1 = .ok (.getfield 31, 3) := by decide +kernel
theorem d20_4 : decode prog_65_method_6_code 4 = .ok (.dreturn, 1) := by decide +kernel
def get20_rm : Room := { frames := 0, cells := 0, slots := 0, locals := 0 }
def get20_Q (Z : State) (a0 : Addr) (w : UInt64) (h0 : Heap) (n0 : Nat) (v : Option Value) (h : Heap) (L : List Loc) : Prop := (v = some (.double w)) ∧ (Fr n0 L) ∧ (h = h0)
theorem get20_ef (m : MethodId) (a0 : Addr) : entryFrame m #[(.ref a0)] 1 = mkF m 0 #[.val (.ref a0)] [] := by first | (simp [entryFrame, mkF, argsToLocals, Value.category]; done) | rfl
set_option maxRecDepth 65536 in
set_option maxHeartbeats 40000000 in
theorem get20_c (l : Launch) (Z : State) (az : Array Value) (hw : ∀ d ∈ tables_1, d.before az Z = true) (ws : List Jvm.Cond) (a0 : Addr) (w : UInt64) (h0 : Heap) (n0 : Nat) (Z0 : n0 ≤ h0.size) (hp0 : Fld Z h0 a0 "com/example/wakeline/wakeline/trajectory/Point" "longitude" "D" (.double w)) :
    OCon l (⟨"com/example/wakeline/wakeline/trajectory/Point", "longitude", "()D"⟩ : MethodName) prog_65_method_6_code 1 (some .double) ws get20_rm Z #[(.ref a0)] h0 (get20_Q Z a0 w h0 n0) := by
  refine ocon (plainFor_of_name pn_com_example_wakeline_wakeline_trajectory_Point) ?_
  intro p e s m below meth c s₁ hx hby hml hown hnm hret hlk hZ X0 eh0
  have N0 := Fr.nil n0
  have K0 := Keep.refl h0 []
  refine ogoE (get20_ef m a0) ?_
  generalize hG : (OEnd s below (get20_Q Z a0 w h0 n0) get20_rm.cells get20_rm.slots) = G
  show OWay p e below G s₁ (mkF m 0 #[.val (.ref a0)] [])
  refine ogo (fun _ z_ => XS.aloadN X0.here hx rfl (hb hby d20_0) rfl rfl z_) ?_
  show OWay p e below G s₁ (mkF m 1 #[.val (.ref a0)] [(.ref a0)])
  obtain ⟨T1, X1, eT1, st1⟩ := getF X0 hx hZ hown (host := "") (Or.inl (hw _ (List.mem_of_getElem? (i := 51) rfl))) Via.refl eh0 hp0 (g := (mkF m 1 #[.val (.ref a0)] [(.ref a0)])) rfl rfl (hb hby d20_1)
  refine ogo st1 ?_
  show OWay p e below G T1 (mkF m 4 #[.val (.ref a0)] [(.double w)])
  subst hG
  refine wRet X1 hx hret hlk rfl (Or.inr (Or.inr (Or.inl ⟨rfl, rfl, _, rfl⟩))) (hb hby d20_4) (by decide) (by decide) eT1 ?_
  exact ⟨rfl, N0, rfl⟩
theorem d21_0 : decode prog_65_method_7_code 0 = .ok (.aload_n 0, 1) := by decide +kernel
theorem d21_1 : decode prog_65_method_7_code 1 = .ok (.getfield 37, 3) := by decide +kernel
theorem d21_4 : decode prog_65_method_7_code 4 = .ok (.dreturn, 1) := by decide +kernel
def get21_rm : Room := { frames := 0, cells := 0, slots := 0, locals := 0 }
def get21_Q (Z : State) (a0 : Addr) (w : UInt64) (h0 : Heap) (n0 : Nat) (v : Option Value) (h : Heap) (L : List Loc) : Prop := (v = some (.double w)) ∧ (Fr n0 L) ∧ (h = h0)
theorem get21_ef (m : MethodId) (a0 : Addr) : entryFrame m #[(.ref a0)] 1 = mkF m 0 #[.val (.ref a0)] [] := by first | (simp [entryFrame, mkF, argsToLocals, Value.category]; done) | rfl
set_option maxRecDepth 65536 in
set_option maxHeartbeats 40000000 in
theorem get21_c (l : Launch) (Z : State) (az : Array Value) (hw : ∀ d ∈ tables_1, d.before az Z = true) (ws : List Jvm.Cond) (a0 : Addr) (w : UInt64) (h0 : Heap) (n0 : Nat) (Z0 : n0 ≤ h0.size) (hp0 : Fld Z h0 a0 "com/example/wakeline/wakeline/trajectory/Point" "latitude" "D" (.double w)) :
    OCon l (⟨"com/example/wakeline/wakeline/trajectory/Point", "latitude", "()D"⟩ : MethodName) prog_65_method_7_code 1 (some .double) ws get21_rm Z #[(.ref a0)] h0 (get21_Q Z a0 w h0 n0) := by
  refine ocon (plainFor_of_name pn_com_example_wakeline_wakeline_trajectory_Point) ?_
  intro p e s m below meth c s₁ hx hby hml hown hnm hret hlk hZ X0 eh0
  have N0 := Fr.nil n0
  have K0 := Keep.refl h0 []
  refine ogoE (get21_ef m a0) ?_
  generalize hG : (OEnd s below (get21_Q Z a0 w h0 n0) get21_rm.cells get21_rm.slots) = G
  show OWay p e below G s₁ (mkF m 0 #[.val (.ref a0)] [])
  refine ogo (fun _ z_ => XS.aloadN X0.here hx rfl (hb hby d21_0) rfl rfl z_) ?_
  show OWay p e below G s₁ (mkF m 1 #[.val (.ref a0)] [(.ref a0)])
  obtain ⟨T1, X1, eT1, st1⟩ := getF X0 hx hZ hown (host := "") (Or.inl (hw _ (List.mem_of_getElem? (i := 53) rfl))) Via.refl eh0 hp0 (g := (mkF m 1 #[.val (.ref a0)] [(.ref a0)])) rfl rfl (hb hby d21_1)
  refine ogo st1 ?_
  show OWay p e below G T1 (mkF m 4 #[.val (.ref a0)] [(.double w)])
  subst hG
  refine wRet X1 hx hret hlk rfl (Or.inr (Or.inr (Or.inl ⟨rfl, rfl, _, rfl⟩))) (hb hby d21_4) (by decide) (by decide) eT1 ?_
  exact ⟨rfl, N0, rfl⟩
theorem pn_com_example_wakeline_wakeline_similarity_Coordinates : plainName "com/example/wakeline/wakeline/similarity/Coordinates" = true := by first | (simp [plainName, overriddenIn]; done) | decide +kernel
theorem d14_0 : decode prog_36_method_1_code 0 = .ok (.aload_n 0, 1) := by decide +kernel
theorem d14_1 : decode prog_36_method_1_code 1 = .ok (.invokespecial 1, 3) := by decide +kernel
theorem d14_4 : decode prog_36_method_1_code 4 = .ok (.aload_n 0, 1) := by decide +kernel
theorem d14_5 : decode prog_36_method_1_code 5 = .ok (.aload_n 1, 1) := by decide +kernel
theorem d14_6 : decode prog_36_method_1_code 6 = .ok (.invokeinterface 7 1, 5) := by decide +kernel
theorem pd___I : parseMethodDescriptor "()I" = some ⟨[], some .int⟩ := by decide +kernel
theorem d14_11 : decode prog_36_method_1_code 11 = .ok (.newarray .double, 2) := by decide +kernel
theorem d14_13 : decode prog_36_method_1_code 13 = .ok (.putfield 13, 3) := by decide +kernel
theorem d14_16 : decode prog_36_method_1_code 16 = .ok (.aload_n 0, 1) := by decide +kernel
theorem d14_17 : decode prog_36_method_1_code 17 = .ok (.aload_n 1, 1) := by decide +kernel
theorem d14_18 : decode prog_36_method_1_code 18 = .ok (.invokeinterface 7 1, 5) := by decide +kernel
theorem d14_23 : decode prog_36_method_1_code 23 = .ok (.newarray .double, 2) := by decide +kernel
theorem d14_25 : decode prog_36_method_1_code 25 = .ok (.putfield 19, 3) := by decide +kernel
theorem d14_28 : decode prog_36_method_1_code 28 = .ok (.iconst 0, 1) := by decide +kernel
theorem d14_29 : decode prog_36_method_1_code 29 = .ok (.istore_n 2, 1) := by decide +kernel
theorem d14_30 : decode prog_36_method_1_code 30 = .ok (.iload_n 2, 1) := by decide +kernel
theorem d14_31 : decode prog_36_method_1_code 31 = .ok (.aload_n 0, 1) := by decide +kernel
theorem d14_32 : decode prog_36_method_1_code 32 = .ok (.getfield 13, 3) := by decide +kernel
theorem d14_35 : decode prog_36_method_1_code 35 = .ok (.arraylength, 1) := by decide +kernel
theorem d14_36 : decode prog_36_method_1_code 36 = .ok (.if_icmp .ge 47, 3) := by decide +kernel
theorem d14_39 : decode prog_36_method_1_code 39 = .ok (.aload_n 0, 1) := by decide +kernel
theorem d14_40 : decode prog_36_method_1_code 40 = .ok (.getfield 13, 3) := by decide +kernel
theorem d14_43 : decode prog_36_method_1_code 43 = .ok (.iload_n 2, 1) := by decide +kernel
theorem d14_44 : decode prog_36_method_1_code 44 = .ok (.aload_n 1, 1) := by decide +kernel
theorem d14_45 : decode prog_36_method_1_code 45 = .ok (.iload_n 2, 1) := by decide +kernel
theorem d14_46 : decode prog_36_method_1_code 46 = .ok (.invokeinterface 22 2, 5) := by decide +kernel
theorem d14_51 : decode prog_36_method_1_code 51 = .ok (.checkcast 26, 3) := by decide +kernel
theorem d14_54 : decode prog_36_method_1_code 54 = .ok (.invokevirtual 28, 3) := by decide +kernel
theorem pd___D : parseMethodDescriptor "()D" = some ⟨[], some .double⟩ := by decide +kernel
theorem d14_57 : decode prog_36_method_1_code 57 = .ok (.dastore, 1) := by decide +kernel
theorem d14_58 : decode prog_36_method_1_code 58 = .ok (.aload_n 0, 1) := by decide +kernel
theorem d14_59 : decode prog_36_method_1_code 59 = .ok (.getfield 19, 3) := by decide +kernel
theorem d14_62 : decode prog_36_method_1_code 62 = .ok (.iload_n 2, 1) := by decide +kernel
theorem d14_63 : decode prog_36_method_1_code 63 = .ok (.aload_n 1, 1) := by decide +kernel
theorem d14_64 : decode prog_36_method_1_code 64 = .ok (.iload_n 2, 1) := by decide +kernel
theorem d14_65 : decode prog_36_method_1_code 65 = .ok (.invokeinterface 22 2, 5) := by decide +kernel
theorem d14_70 : decode prog_36_method_1_code 70 = .ok (.checkcast 26, 3) := by decide +kernel
theorem d14_73 : decode prog_36_method_1_code 73 = .ok (.invokevirtual 32, 3) := by decide +kernel
theorem d14_76 : decode prog_36_method_1_code 76 = .ok (.dastore, 1) := by decide +kernel
theorem d14_77 : decode prog_36_method_1_code 77 = .ok (.iinc 2 1, 3) := by decide +kernel
theorem d14_80 : decode prog_36_method_1_code 80 = .ok (.goto (-50), 3) := by decide +kernel
theorem d14_83 : decode prog_36_method_1_code 83 = .ok (.return_, 1) := by decide +kernel
def coord_rm : Room := { frames := 3, cells := 2, slots := 4, locals := 42 }
def coord_Q (Z : State) (a0 : Addr) (a1 : Addr) (b : Addr) (k : ClassId) (x0 : Addr) (x1 : Addr) (u0 : UInt64) (u1 : UInt64) (v0 : UInt64) (v1 : UInt64) (h0 : Heap) (n0 : Nat) (v : Option Value) (h : Heap) (L : List Loc) : Prop := ∃ lo : Addr, ∃ la : Addr, ∃ kl : ClassId, ∃ ka : ClassId, (v = none) ∧ (Fr n0 L) ∧ (Keep h0 h [a0]) ∧ (n0 ≤ lo) ∧ (h0.size ≤ lo) ∧ (n0 ≤ la) ∧ (h0.size ≤ la) ∧ (Arv Z h lo kl .double (2 : Int32) [(.double u0), (.double u1)] (.double (0 : UInt64))) ∧ (Arv Z h la ka .double (2 : Int32) [(.double v0), (.double v1)] (.double (0 : UInt64))) ∧ (Fld Z h a0 "com/example/wakeline/wakeline/similarity/Coordinates" "longitudes" "[D" (.ref lo)) ∧ (Fld Z h a0 "com/example/wakeline/wakeline/similarity/Coordinates" "latitudes" "[D" (.ref la))
theorem coord_ef (m : MethodId) (a0 : Addr) (a1 : Addr) : entryFrame m #[(.ref a0), (.ref a1)] 3 = mkF m 0 #[.val (.ref a0), .val (.ref a1), .unset] [] := by first | (simp [entryFrame, mkF, argsToLocals, Value.category]; done) | rfl
set_option maxRecDepth 65536 in
set_option maxHeartbeats 40000000 in
theorem coord_c (l : Launch) (Z : State) (az : Array Value) (hw : ∀ d ∈ tables_1, d.before az Z = true) (ws : List Jvm.Cond) (a0 : Addr) (a1 : Addr) (b : Addr) (k : ClassId) (x0 : Addr) (x1 : Addr) (u0 : UInt64) (u1 : UInt64) (v0 : UInt64) (v1 : UInt64) (h0 : Heap) (n0 : Nat) (Z0 : n0 ≤ h0.size) (hp0 : Exa Z h0 a0 "com/example/wakeline/wakeline/similarity/Coordinates") (hp1 : n0 ≤ a0) (hp2 : Fld Z h0 a0 "com/example/wakeline/wakeline/similarity/Coordinates" "longitudes" "[D" .null) (hp3 : Fld Z h0 a0 "com/example/wakeline/wakeline/similarity/Coordinates" "latitudes" "[D" .null) (hp4 : Exa Z h0 a1 "java/util/ArrayList") (hp5 : Fld Z h0 a1 "java/util/ArrayList" "size" "I" (.int (2 : Int32))) (hp6 : Fld Z h0 a1 "java/util/ArrayList" "elementData" "[Ljava/lang/Object;" (.ref b)) (hp7 : Arv Z h0 b k (.object "java/lang/Object") (10 : Int32) [(.ref x0), (.ref x1), .null, .null, .null, .null, .null, .null, .null, .null] .null) (hp8 : Exa Z h0 x0 "com/example/wakeline/wakeline/trajectory/Point") (hp9 : Fld Z h0 x0 "com/example/wakeline/wakeline/trajectory/Point" "longitude" "D" (.double u0)) (hp10 : Fld Z h0 x0 "com/example/wakeline/wakeline/trajectory/Point" "latitude" "D" (.double v0)) (hp11 : Exa Z h0 x1 "com/example/wakeline/wakeline/trajectory/Point") (hp12 : Fld Z h0 x1 "com/example/wakeline/wakeline/trajectory/Point" "longitude" "D" (.double u1)) (hp13 : Fld Z h0 x1 "com/example/wakeline/wakeline/trajectory/Point" "latitude" "D" (.double v1)) (hp14 : a0 ≠ a1) (hp15 : a0 ≠ b) (hp16 : a0 ≠ x0) (hp17 : a0 ≠ x1) :
    OCon l (⟨"com/example/wakeline/wakeline/similarity/Coordinates", "<init>", "(Ljava/util/List;)V"⟩ : MethodName) prog_36_method_1_code 3 none ws coord_rm Z #[(.ref a0), (.ref a1)] h0 (coord_Q Z a0 a1 b k x0 x1 u0 u1 v0 v1 h0 n0) := by
  refine ocon (plainFor_of_name pn_com_example_wakeline_wakeline_similarity_Coordinates) ?_
  intro p e s m below meth c s₁ hx hby hml hown hnm hret hlk hZ X0 eh0
  have N0 := Fr.nil n0
  have K0 := Keep.refl h0 [a0]
  refine ogoE (coord_ef m a0 a1) ?_
  have g_a0 := hp1
  generalize hG : (OEnd s below (coord_Q Z a0 a1 b k x0 x1 u0 u1 v0 v1 h0 n0) coord_rm.cells coord_rm.slots) = G
  show OWay p e below G s₁ (mkF m 0 #[.val (.ref a0), .val (.ref a1), .unset] [])
  refine ogo (fun _ z_ => XS.aloadN X0.here hx rfl (hb hby d14_0) rfl rfl z_) ?_
  show OWay p e below G s₁ (mkF m 1 #[.val (.ref a0), .val (.ref a1), .unset] [(.ref a0)])
  obtain ⟨T1, X1, eT1, st1⟩ := initO X0 hx hZ hown (hw _ (List.mem_of_getElem? (i := 94) rfl)) (hw _ (List.mem_of_getElem? (i := 19) rfl)) (hw _ (List.mem_of_getElem? (i := 20) rfl)) eh0 (g := (mkF m 1 #[.val (.ref a0), .val (.ref a1), .unset] [(.ref a0)])) rfl (by rw [hml]; rfl) rfl (hb hby d14_1) (by decide) (W := 0) (by show 2 * 0 + _ ≤ _; exact Nat.le_of_eq rfl) (by decide)
  refine ogo st1 ?_
  show OWay p e below G T1 (mkF m 4 #[.val (.ref a0), .val (.ref a1), .unset] [])
  refine ogo (fun _ z_ => XS.aloadN X1.here hx rfl (hb hby d14_4) rfl rfl z_) ?_
  show OWay p e below G T1 (mkF m 5 #[.val (.ref a0), .val (.ref a1), .unset] [(.ref a0)])
  refine ogo (fun _ z_ => XS.aloadN X1.here hx rfl (hb hby d14_5) rfl rfl z_) ?_
  show OWay p e below G T1 (mkF m 6 #[.val (.ref a0), .val (.ref a1), .unset] [(.ref a1), (.ref a0)])
  obtain ⟨_, T2, L2, X2, hQ2, st2⟩ := wInterface X1 hx hZ (y := (⟨"java/util/List", "size", "()I"⟩ : MethodName)) (z := (⟨"java/util/ArrayList", "size", "()I"⟩ : MethodName)) hown (hw _ (List.mem_of_getElem? (i := 95) rfl)) (hw _ (List.mem_of_getElem? (i := 96) rfl)) (hw _ (List.mem_of_getElem? (i := 97) rfl)) (hw _ (List.mem_of_getElem? (i := 98) rfl)) (hw _ (List.mem_of_getElem? (i := 99) rfl)) (hw _ (List.mem_of_getElem? (i := 100) rfl)) (hw _ (List.mem_of_getElem? (i := 101) rfl)) (hw _ (List.mem_of_getElem? (i := 102) rfl)) (hw _ (List.mem_of_getElem? (i := 2) rfl)) (hw _ (List.mem_of_getElem? (i := 103) rfl)) (by decide) (get15_c l Z az hw [] a1 (2 : Int32) h0 n0 Z0 hp5) 1 (by decide) (by decide) hp4 (g := (mkF m 6 #[.val (.ref a0), .val (.ref a1), .unset] [(.ref a1), (.ref a0)])) rfl (by rw [hml]; rfl) (argsL := []) (rest := [(.ref a0)]) (lenOf pd___I rfl) rfl (by show 2 * 0 + _ ≤ _; exact Nat.le_of_eq rfl) (hb hby d14_6) rfl eT1 (by decide) (by decide)
  obtain ⟨rfl, N2q, eq2⟩ := hQ2
  have N2 := Fr.app N0 N2q
  refine ogoS st2 ?_
  show OWay p e below G T2 (mkF m 11 #[.val (.ref a0), .val (.ref a1), .unset] [(.int (2 : Int32)), (.ref a0)])
  obtain ⟨T3, h3, k3, X3, eT3, E3, A3, st3⟩ := newP X2 hx hZ (hw _ (List.mem_of_getElem? (i := 104) rfl)) eq2 (g := (mkF m 11 #[.val (.ref a0), .val (.ref a1), .unset] [(.int (2 : Int32)), (.ref a0)])) rfl (hb hby d14_11) rfl (by decide) (cap := 2) (by decide) (by decide) (by decide) (by decide)
  obtain ⟨b3, g3⟩ : ∃ z, z = h0.size := ⟨_, rfl⟩
  rw [← g3] at A3 st3
  have g_b3 : n0 ≤ b3 := Nat.le_trans Z0 (Nat.le_of_eq g3.symm)
  have sz_b3 : h0.size ≤ b3 := Nat.le_trans K0.1 (Nat.le_of_eq g3.symm)
  have K4 : Keep h0 h3 [a0] := K0.ext E3
  have V_b3 : Arv Z h3 b3 k3 .double (2 : Int32) [(.double (0 : UInt64)), (.double (0 : UInt64))] (.double (0 : UInt64)) := (Arv.new A3 (by decide)).pad (pad_rep [] (.double (0 : UInt64)) 2)
  refine ogo st3 ?_
  show OWay p e below G T3 (mkF m 13 #[.val (.ref a0), .val (.ref a1), .unset] [(.ref b3), (.ref a0)])
  have F5 : Exa Z h3 a0 "com/example/wakeline/wakeline/similarity/Coordinates" := (hp0.ext E3)
  have F6 : Fld Z h3 a0 "com/example/wakeline/wakeline/similarity/Coordinates" "longitudes" "[D" .null := (hp2.ext E3)
  obtain ⟨T7, h7, X7, eT7, W7, st7⟩ := putF X3 hx hZ hown (host := "") (Or.inl (hw _ (List.mem_of_getElem? (i := 105) rfl))) Via.refl eT3 F6 F5 (Or.inr ⟨(hw _ (List.mem_of_getElem? (i := 106) rfl)), rfl, hnm⟩) (hw _ (List.mem_of_getElem? (i := 89) rfl)) (ty := (.array .double)) (by decide) rfl rfl (g := (mkF m 13 #[.val (.ref a0), .val (.ref a1), .unset] [(.ref b3), (.ref a0)])) rfl rfl (hb hby d14_13)
  have K8 : Keep h0 h7 [a0] := K4.wr W7 (Or.inl (List.mem_of_getElem? (i := 0) rfl))
  have Fw7 : Fld Z h7 a0 "com/example/wakeline/wakeline/similarity/Coordinates" "longitudes" "[D" (.ref b3) := F6.same W7
  have N7 := Fr.snoc X7 N2 g_a0
  refine ogo st7 ?_
  show OWay p e below G T7 (mkF m 16 #[.val (.ref a0), .val (.ref a1), .unset] [])
  refine ogo (fun _ z_ => XS.aloadN X7.here hx rfl (hb hby d14_16) rfl rfl z_) ?_
  show OWay p e below G T7 (mkF m 17 #[.val (.ref a0), .val (.ref a1), .unset] [(.ref a0)])
  refine ogo (fun _ z_ => XS.aloadN X7.here hx rfl (hb hby d14_17) rfl rfl z_) ?_
  show OWay p e below G T7 (mkF m 18 #[.val (.ref a0), .val (.ref a1), .unset] [(.ref a1), (.ref a0)])
  have F9 : Fld Z h7 a1 "java/util/ArrayList" "size" "I" (.int (2 : Int32)) := ((hp5.ext E3).other W7 (Or.inl (Ne.symm hp14)))
  have F11 : Exa Z h7 a1 "java/util/ArrayList" := ((hp4.ext E3).wr W7)
  obtain ⟨_, T10, L10, X10, hQ10, st10⟩ := wInterface X7 hx hZ (y := (⟨"java/util/List", "size", "()I"⟩ : MethodName)) (z := (⟨"java/util/ArrayList", "size", "()I"⟩ : MethodName)) hown (hw _ (List.mem_of_getElem? (i := 95) rfl)) (hw _ (List.mem_of_getElem? (i := 96) rfl)) (hw _ (List.mem_of_getElem? (i := 97) rfl)) (hw _ (List.mem_of_getElem? (i := 98) rfl)) (hw _ (List.mem_of_getElem? (i := 99) rfl)) (hw _ (List.mem_of_getElem? (i := 100) rfl)) (hw _ (List.mem_of_getElem? (i := 101) rfl)) (hw _ (List.mem_of_getElem? (i := 102) rfl)) (hw _ (List.mem_of_getElem? (i := 2) rfl)) (hw _ (List.mem_of_getElem? (i := 103) rfl)) (by decide) (get15_c l Z az hw [] a1 (2 : Int32) h7 n0 (Nat.le_trans (Nat.le_trans Z0 E3.1) (Keep.of_wr W7).1) F9) 1 (by decide) (by decide) F11 (g := (mkF m 18 #[.val (.ref a0), .val (.ref a1), .unset] [(.ref a1), (.ref a0)])) rfl (by rw [hml]; rfl) (argsL := []) (rest := [(.ref a0)]) (lenOf pd___I rfl) rfl (by show 2 * 0 + _ ≤ _; exact Nat.le_of_eq rfl) (hb hby d14_18) rfl eT7 (by decide) (by decide)
  obtain ⟨rfl, N10q, eq10⟩ := hQ10
  have N10 := Fr.app N7 N10q
  refine ogoS st10 ?_
  show OWay p e below G T10 (mkF m 23 #[.val (.ref a0), .val (.ref a1), .unset] [(.int (2 : Int32)), (.ref a0)])
  obtain ⟨T12, h12, k12, X12, eT12, E12, A12, st12⟩ := newP X10 hx hZ (hw _ (List.mem_of_getElem? (i := 104) rfl)) eq10 (g := (mkF m 23 #[.val (.ref a0), .val (.ref a1), .unset] [(.int (2 : Int32)), (.ref a0)])) rfl (hb hby d14_23) rfl (by decide) (cap := 2) (by decide) (by decide) (by decide) (by decide)
  obtain ⟨b12, g12⟩ : ∃ z, z = h7.size := ⟨_, rfl⟩
  rw [← g12] at A12 st12
  have g_b12 : n0 ≤ b12 := Nat.le_trans (Nat.le_trans (Nat.le_trans Z0 E3.1) (Keep.of_wr W7).1) (Nat.le_of_eq g12.symm)
  have sz_b12 : h0.size ≤ b12 := Nat.le_trans K8.1 (Nat.le_of_eq g12.symm)
  have K13 : Keep h0 h12 [a0] := K8.ext E12
  have V_b12 : Arv Z h12 b12 k12 .double (2 : Int32) [(.double (0 : UInt64)), (.double (0 : UInt64))] (.double (0 : UInt64)) := (Arv.new A12 (by decide)).pad (pad_rep [] (.double (0 : UInt64)) 2)
  refine ogo st12 ?_
  show OWay p e below G T12 (mkF m 25 #[.val (.ref a0), .val (.ref a1), .unset] [(.ref b12), (.ref a0)])
  have F14 : Exa Z h12 a0 "com/example/wakeline/wakeline/similarity/Coordinates" := ((F5.wr W7).ext E12)
  have F15 : Fld Z h12 a0 "com/example/wakeline/wakeline/similarity/Coordinates" "latitudes" "[D" .null := (((hp3.ext E3).other W7 (Or.inr (slot_ne (Or.inr (hw _ (List.mem_of_getElem? (i := 108) rfl))) (Or.inr (hw _ (List.mem_of_getElem? (i := 106) rfl))) (by decide) (t := (.array .double)) (t' := (.array .double)) (by decide) (by decide)))).ext E12)
  obtain ⟨T16, h16, X16, eT16, W16, st16⟩ := putF X12 hx hZ hown (host := "") (Or.inl (hw _ (List.mem_of_getElem? (i := 107) rfl))) Via.refl eT12 F15 F14 (Or.inr ⟨(hw _ (List.mem_of_getElem? (i := 108) rfl)), rfl, hnm⟩) (hw _ (List.mem_of_getElem? (i := 89) rfl)) (ty := (.array .double)) (by decide) rfl rfl (g := (mkF m 25 #[.val (.ref a0), .val (.ref a1), .unset] [(.ref b12), (.ref a0)])) rfl rfl (hb hby d14_25)
  have K17 : Keep h0 h16 [a0] := K13.wr W16 (Or.inl (List.mem_of_getElem? (i := 0) rfl))
  have Fw16 : Fld Z h16 a0 "com/example/wakeline/wakeline/similarity/Coordinates" "latitudes" "[D" (.ref b12) := F15.same W16
  have N16 := Fr.snoc X16 N10 g_a0
  refine ogo st16 ?_
  show OWay p e below G T16 (mkF m 28 #[.val (.ref a0), .val (.ref a1), .unset] [])
  refine ogo (fun _ z_ => XS.iconst X16.here hx rfl (hb hby d14_28) z_) ?_
  show OWay p e below G T16 (mkF m 29 #[.val (.ref a0), .val (.ref a1), .unset] [(.int (0 : Int32))])
  refine ogo (fun _ z_ => XS.istoreN X16.here hx rfl (hb hby d14_29) rfl (l' := #[.val (.ref a0), .val (.ref a1), .val (.int (0 : Int32))]) rfl z_) ?_
  show OWay p e below G T16 (mkF m 30 #[.val (.ref a0), .val (.ref a1), .val (.int (0 : Int32))] [])
  refine ogo (fun _ z_ => XS.iloadN X16.here hx rfl (hb hby d14_30) rfl z_) ?_
  show OWay p e below G T16 (mkF m 31 #[.val (.ref a0), .val (.ref a1), .val (.int (0 : Int32))] [(.int (0 : Int32))])
  refine ogo (fun _ z_ => XS.aloadN X16.here hx rfl (hb hby d14_31) rfl rfl z_) ?_
  show OWay p e below G T16 (mkF m 32 #[.val (.ref a0), .val (.ref a1), .val (.int (0 : Int32))] [(.ref a0), (.int (0 : Int32))])
  have F18 : Fld Z h16 a0 "com/example/wakeline/wakeline/similarity/Coordinates" "longitudes" "[D" (.ref b3) := ((Fw7.ext E12).other W16 (Or.inr (slot_ne (Or.inr (hw _ (List.mem_of_getElem? (i := 106) rfl))) (Or.inr (hw _ (List.mem_of_getElem? (i := 108) rfl))) (by decide) (t := (.array .double)) (t' := (.array .double)) (by decide) (by decide))))
  obtain ⟨T19, X19, eT19, st19⟩ := getF X16 hx hZ hown (host := "") (Or.inl (hw _ (List.mem_of_getElem? (i := 105) rfl))) Via.refl eT16 F18 (g := (mkF m 32 #[.val (.ref a0), .val (.ref a1), .val (.int (0 : Int32))] [(.ref a0), (.int (0 : Int32))])) rfl rfl (hb hby d14_32)
  refine ogo st19 ?_
  show OWay p e below G T19 (mkF m 35 #[.val (.ref a0), .val (.ref a1), .val (.int (0 : Int32))] [(.ref b3), (.int (0 : Int32))])
  have F20 : Arv Z h16 b3 k3 .double (2 : Int32) [(.double (0 : UInt64)), (.double (0 : UInt64))] (.double (0 : UInt64)) := (((V_b3.other W7 (Ne.symm (Nat.ne_of_lt (Nat.lt_of_lt_of_le hp0.lt (Nat.le_of_eq g3.symm))))).ext E12).other W16 (Ne.symm (Nat.ne_of_lt (Nat.lt_of_lt_of_le hp0.lt (Nat.le_of_eq g3.symm)))))
  obtain ⟨cl_o21, Ar_o21, -, S_o21, N_o21, -, -⟩ := id F20
  refine ogo (fun _ z_ => X19.arraylength hx (by rw [eT19]; exact Ar_o21.1) (State.isArrayOf_alike hZ.alike Ar_o21.2.1) (g := (mkF m 35 #[.val (.ref a0), .val (.ref a1), .val (.int (0 : Int32))] [(.ref b3), (.int (0 : Int32))])) rfl rfl (hb hby d14_35) _ z_) ?_
  rw [len_of S_o21 N_o21]
  show OWay p e below G T19 (mkF m 36 #[.val (.ref a0), .val (.ref a1), .val (.int (0 : Int32))] [(.int (2 : Int32)), (.int (0 : Int32))])
  refine ogo (fun _ z_ => XS.icmpNo X19.here hx rfl (hb hby d14_36) rfl (tlt (by decide)).2.1 z_) ?_
  show OWay p e below G T19 (mkF m 39 #[.val (.ref a0), .val (.ref a1), .val (.int (0 : Int32))] [])
  refine ogo (fun _ z_ => XS.aloadN X19.here hx rfl (hb hby d14_39) rfl rfl z_) ?_
  show OWay p e below G T19 (mkF m 40 #[.val (.ref a0), .val (.ref a1), .val (.int (0 : Int32))] [(.ref a0)])
  obtain ⟨T22, X22, eT22, st22⟩ := getF X19 hx hZ hown (host := "") (Or.inl (hw _ (List.mem_of_getElem? (i := 105) rfl))) Via.refl eT19 F18 (g := (mkF m 40 #[.val (.ref a0), .val (.ref a1), .val (.int (0 : Int32))] [(.ref a0)])) rfl rfl (hb hby d14_40)
  refine ogo st22 ?_
  show OWay p e below G T22 (mkF m 43 #[.val (.ref a0), .val (.ref a1), .val (.int (0 : Int32))] [(.ref b3)])
  refine ogo (fun _ z_ => XS.iloadN X22.here hx rfl (hb hby d14_43) rfl z_) ?_
  show OWay p e below G T22 (mkF m 44 #[.val (.ref a0), .val (.ref a1), .val (.int (0 : Int32))] [(.int (0 : Int32)), (.ref b3)])
  refine ogo (fun _ z_ => XS.aloadN X22.here hx rfl (hb hby d14_44) rfl rfl z_) ?_
  show OWay p e below G T22 (mkF m 45 #[.val (.ref a0), .val (.ref a1), .val (.int (0 : Int32))] [(.ref a1), (.int (0 : Int32)), (.ref b3)])
  refine ogo (fun _ z_ => XS.iloadN X22.here hx rfl (hb hby d14_45) rfl z_) ?_
  show OWay p e below G T22 (mkF m 46 #[.val (.ref a0), .val (.ref a1), .val (.int (0 : Int32))] [(.int (0 : Int32)), (.ref a1), (.int (0 : Int32)), (.ref b3)])
  have F23 : Exa Z h16 a1 "java/util/ArrayList" := ((F11.ext E12).wr W16)
  have F24 : Fld Z h16 a1 "java/util/ArrayList" "size" "I" (.int (2 : Int32)) := ((F9.ext E12).other W16 (Or.inl (Ne.symm hp14)))
  have F25 : Fld Z h16 a1 "java/util/ArrayList" "elementData" "[Ljava/lang/Object;" (.ref b) := ((((hp6.ext E3).other W7 (Or.inl (Ne.symm hp14))).ext E12).other W16 (Or.inl (Ne.symm hp14)))
  have F26 : Arv Z h16 b k (.object "java/lang/Object") (10 : Int32) [(.ref x0), (.ref x1), .null, .null, .null, .null, .null, .null, .null, .null] .null := ((((hp7.ext E3).other W7 (Ne.symm hp15)).ext E12).other W16 (Ne.symm hp15))
  obtain ⟨_, T27, L27, X27, hQ27, st27⟩ := wInterface X22 hx hZ (y := (⟨"java/util/List", "get", "(I)Ljava/lang/Object;"⟩ : MethodName)) (z := (⟨"java/util/ArrayList", "get", "(I)Ljava/lang/Object;"⟩ : MethodName)) hown (hw _ (List.mem_of_getElem? (i := 109) rfl)) (hw _ (List.mem_of_getElem? (i := 110) rfl)) (hw _ (List.mem_of_getElem? (i := 111) rfl)) (hw _ (List.mem_of_getElem? (i := 112) rfl)) (hw _ (List.mem_of_getElem? (i := 113) rfl)) (hw _ (List.mem_of_getElem? (i := 114) rfl)) (hw _ (List.mem_of_getElem? (i := 115) rfl)) (hw _ (List.mem_of_getElem? (i := 102) rfl)) (hw _ (List.mem_of_getElem? (i := 2) rfl)) (hw _ (List.mem_of_getElem? (i := 116) rfl)) (by decide) (get0_c l Z az hw [] a1 b k x0 x1 h16 n0 (Nat.le_trans (Nat.le_trans (Nat.le_trans (Nat.le_trans Z0 E3.1) (Keep.of_wr W7).1) E12.1) (Keep.of_wr W16).1) F23 F24 F25 F26) 2 (by decide) (by decide) F23 (g := (mkF m 46 #[.val (.ref a0), .val (.ref a1), .val (.int (0 : Int32))] [(.int (0 : Int32)), (.ref a1), (.int (0 : Int32)), (.ref b3)])) rfl (by rw [hml]; rfl) (argsL := [(.int (0 : Int32))]) (rest := [(.int (0 : Int32)), (.ref b3)]) (lenOf pd__I_Ljava_lang_Object_ rfl) rfl (by show 2 * 0 + _ ≤ _; exact Nat.le_of_eq rfl) (hb hby d14_46) rfl eT22 (by decide) (by decide)
  obtain ⟨rfl, N27q, eq27⟩ := hQ27
  have N27 := Fr.app N16 N27q
  refine ogoS st27 ?_
  show OWay p e below G T27 (mkF m 51 #[.val (.ref a0), .val (.ref a1), .val (.int (0 : Int32))] [(.ref x0), (.int (0 : Int32)), (.ref b3)])
  have F29 : Exa Z h16 x0 "com/example/wakeline/wakeline/trajectory/Point" := ((((hp8.ext E3).wr W7).ext E12).wr W16)
  obtain ⟨T28, X28, eT28, st28⟩ := castY X27 hx hZ hown (hw _ (List.mem_of_getElem? (i := 130) rfl)) eq27 (Ins.self F29) (g := (mkF m 51 #[.val (.ref a0), .val (.ref a1), .val (.int (0 : Int32))] [(.ref x0), (.int (0 : Int32)), (.ref b3)])) rfl rfl (hb hby d14_51)
  refine ogo st28 ?_
  show OWay p e below G T28 (mkF m 54 #[.val (.ref a0), .val (.ref a1), .val (.int (0 : Int32))] [(.ref x0), (.int (0 : Int32)), (.ref b3)])
  have F30 : Fld Z h16 x0 "com/example/wakeline/wakeline/trajectory/Point" "longitude" "D" (.double u0) := ((((hp9.ext E3).other W7 (Or.inl (Ne.symm hp16))).ext E12).other W16 (Or.inl (Ne.symm hp16)))
  obtain ⟨_, T31, L31, X31, hQ31, st31⟩ := wVirtual X28 hx hZ (y := (⟨"com/example/wakeline/wakeline/trajectory/Point", "longitude", "()D"⟩ : MethodName)) (z := (⟨"com/example/wakeline/wakeline/trajectory/Point", "longitude", "()D"⟩ : MethodName)) hown (hw _ (List.mem_of_getElem? (i := 132) rfl)) (hw _ (List.mem_of_getElem? (i := 133) rfl)) (notFace_of_selects (args := #[]) (mvT hZ (hw _ (List.mem_of_getElem? (i := 135) rfl)))) (hw _ (List.mem_of_getElem? (i := 135) rfl)) (hw _ (List.mem_of_getElem? (i := 134) rfl)) (hw _ (List.mem_of_getElem? (i := 28) rfl)) (hw _ (List.mem_of_getElem? (i := 136) rfl)) (by decide) (get20_c l Z az hw [] x0 u0 h16 n0 (Nat.le_trans (Nat.le_trans (Nat.le_trans (Nat.le_trans Z0 E3.1) (Keep.of_wr W7).1) E12.1) (Keep.of_wr W16).1) F30) 2 (by decide) (by decide) F29 (g := (mkF m 54 #[.val (.ref a0), .val (.ref a1), .val (.int (0 : Int32))] [(.ref x0), (.int (0 : Int32)), (.ref b3)])) rfl (by rw [hml]; rfl) (argsL := []) (rest := [(.int (0 : Int32)), (.ref b3)]) (lenOf pd___D rfl) rfl (by show 2 * 0 + _ ≤ _; exact Nat.le_of_eq rfl) (hb hby d14_54) rfl eT28 (by decide) (by decide)
  obtain ⟨rfl, N31q, eq31⟩ := hQ31
  have N31 := Fr.app N27 N31q
  refine ogoS st31 ?_
  show OWay p e below G T31 (mkF m 57 #[.val (.ref a0), .val (.ref a1), .val (.int (0 : Int32))] [(.double u0), (.int (0 : Int32)), (.ref b3)])
  obtain ⟨cl_o32, Ar_o32, q_o32, S_o32, N_o32, H_o32, G_o32⟩ := id F20
  have hin_o32 : ¬ ((0 : Int32) < 0 ∨ cl_o32.slots.size ≤ ((0 : Int32)).toNatClampNeg) := inb_of S_o32 ⟨by decide, by decide⟩
  obtain ⟨T33, h33, X33, eT33, W33, st33⟩ := stD X31 hx hZ eq31 Ar_o32 (j := (0 : Int32)) hin_o32 (g := (mkF m 57 #[.val (.ref a0), .val (.ref a1), .val (.int (0 : Int32))] [(.double u0), (.int (0 : Int32)), (.ref b3)])) rfl rfl (hb hby d14_57)
  have K34 : Keep h0 h33 [a0] := K17.wr W33 (Or.inr sz_b3)
  have V_33 : Arv Z h33 b3 k3 .double (2 : Int32) [(.double u0), (.double (0 : UInt64))] (.double (0 : UInt64)) := Arv.set Ar_o32 q_o32 S_o32 N_o32 H_o32 G_o32 rfl W33 0 rfl (Nat.le_of_ble_eq_true rfl)
  have N33 := Fr.snoc X33 N31 g_b3
  refine ogo st33 ?_
  show OWay p e below G T33 (mkF m 58 #[.val (.ref a0), .val (.ref a1), .val (.int (0 : Int32))] [])
  refine ogo (fun _ z_ => XS.aloadN X33.here hx rfl (hb hby d14_58) rfl rfl z_) ?_
  show OWay p e below G T33 (mkF m 59 #[.val (.ref a0), .val (.ref a1), .val (.int (0 : Int32))] [(.ref a0)])
  have F35 : Fld Z h33 a0 "com/example/wakeline/wakeline/similarity/Coordinates" "latitudes" "[D" (.ref b12) := (Fw16.other W33 (Or.inl (Nat.ne_of_lt (Nat.lt_of_lt_of_le hp0.lt (Nat.le_of_eq g3.symm)))))
  obtain ⟨T36, X36, eT36, st36⟩ := getF X33 hx hZ hown (host := "") (Or.inl (hw _ (List.mem_of_getElem? (i := 107) rfl))) Via.refl eT33 F35 (g := (mkF m 59 #[.val (.ref a0), .val (.ref a1), .val (.int (0 : Int32))] [(.ref a0)])) rfl rfl (hb hby d14_59)
  refine ogo st36 ?_
  show OWay p e below G T36 (mkF m 62 #[.val (.ref a0), .val (.ref a1), .val (.int (0 : Int32))] [(.ref b12)])
  refine ogo (fun _ z_ => XS.iloadN X36.here hx rfl (hb hby d14_62) rfl z_) ?_
  show OWay p e below G T36 (mkF m 63 #[.val (.ref a0), .val (.ref a1), .val (.int (0 : Int32))] [(.int (0 : Int32)), (.ref b12)])
  refine ogo (fun _ z_ => XS.aloadN X36.here hx rfl (hb hby d14_63) rfl rfl z_) ?_
  show OWay p e below G T36 (mkF m 64 #[.val (.ref a0), .val (.ref a1), .val (.int (0 : Int32))] [(.ref a1), (.int (0 : Int32)), (.ref b12)])
  refine ogo (fun _ z_ => XS.iloadN X36.here hx rfl (hb hby d14_64) rfl z_) ?_
  show OWay p e below G T36 (mkF m 65 #[.val (.ref a0), .val (.ref a1), .val (.int (0 : Int32))] [(.int (0 : Int32)), (.ref a1), (.int (0 : Int32)), (.ref b12)])
  have F37 : Exa Z h33 a1 "java/util/ArrayList" := (F23.wr W33)
  have F38 : Fld Z h33 a1 "java/util/ArrayList" "size" "I" (.int (2 : Int32)) := (F24.other W33 (Or.inl (Nat.ne_of_lt (Nat.lt_of_lt_of_le hp4.lt (Nat.le_of_eq g3.symm)))))
  have F39 : Fld Z h33 a1 "java/util/ArrayList" "elementData" "[Ljava/lang/Object;" (.ref b) := (F25.other W33 (Or.inl (Nat.ne_of_lt (Nat.lt_of_lt_of_le hp4.lt (Nat.le_of_eq g3.symm)))))
  have F40 : Arv Z h33 b k (.object "java/lang/Object") (10 : Int32) [(.ref x0), (.ref x1), .null, .null, .null, .null, .null, .null, .null, .null] .null := (F26.other W33 (Nat.ne_of_lt (Nat.lt_of_lt_of_le hp7.lt (Nat.le_of_eq g3.symm))))
  obtain ⟨_, T41, L41, X41, hQ41, st41⟩ := wInterface X36 hx hZ (y := (⟨"java/util/List", "get", "(I)Ljava/lang/Object;"⟩ : MethodName)) (z := (⟨"java/util/ArrayList", "get", "(I)Ljava/lang/Object;"⟩ : MethodName)) hown (hw _ (List.mem_of_getElem? (i := 109) rfl)) (hw _ (List.mem_of_getElem? (i := 110) rfl)) (hw _ (List.mem_of_getElem? (i := 111) rfl)) (hw _ (List.mem_of_getElem? (i := 112) rfl)) (hw _ (List.mem_of_getElem? (i := 113) rfl)) (hw _ (List.mem_of_getElem? (i := 114) rfl)) (hw _ (List.mem_of_getElem? (i := 115) rfl)) (hw _ (List.mem_of_getElem? (i := 102) rfl)) (hw _ (List.mem_of_getElem? (i := 2) rfl)) (hw _ (List.mem_of_getElem? (i := 116) rfl)) (by decide) (get0_c l Z az hw [] a1 b k x0 x1 h33 n0 (Nat.le_trans (Nat.le_trans (Nat.le_trans (Nat.le_trans (Nat.le_trans Z0 E3.1) (Keep.of_wr W7).1) E12.1) (Keep.of_wr W16).1) (Keep.of_wr W33).1) F37 F38 F39 F40) 2 (by decide) (by decide) F37 (g := (mkF m 65 #[.val (.ref a0), .val (.ref a1), .val (.int (0 : Int32))] [(.int (0 : Int32)), (.ref a1), (.int (0 : Int32)), (.ref b12)])) rfl (by rw [hml]; rfl) (argsL := [(.int (0 : Int32))]) (rest := [(.int (0 : Int32)), (.ref b12)]) (lenOf pd__I_Ljava_lang_Object_ rfl) rfl (by show 2 * 0 + _ ≤ _; exact Nat.le_of_eq rfl) (hb hby d14_65) rfl eT36 (by decide) (by decide)
  obtain ⟨rfl, N41q, eq41⟩ := hQ41
  have N41 := Fr.app N33 N41q
  refine ogoS st41 ?_
  show OWay p e below G T41 (mkF m 70 #[.val (.ref a0), .val (.ref a1), .val (.int (0 : Int32))] [(.ref x0), (.int (0 : Int32)), (.ref b12)])
  have F43 : Exa Z h33 x0 "com/example/wakeline/wakeline/trajectory/Point" := (F29.wr W33)
  obtain ⟨T42, X42, eT42, st42⟩ := castY X41 hx hZ hown (hw _ (List.mem_of_getElem? (i := 130) rfl)) eq41 (Ins.self F43) (g := (mkF m 70 #[.val (.ref a0), .val (.ref a1), .val (.int (0 : Int32))] [(.ref x0), (.int (0 : Int32)), (.ref b12)])) rfl rfl (hb hby d14_70)
  refine ogo st42 ?_
  show OWay p e below G T42 (mkF m 73 #[.val (.ref a0), .val (.ref a1), .val (.int (0 : Int32))] [(.ref x0), (.int (0 : Int32)), (.ref b12)])
  have F44 : Fld Z h33 x0 "com/example/wakeline/wakeline/trajectory/Point" "latitude" "D" (.double v0) := (((((hp10.ext E3).other W7 (Or.inl (Ne.symm hp16))).ext E12).other W16 (Or.inl (Ne.symm hp16))).other W33 (Or.inl (Nat.ne_of_lt (Nat.lt_of_lt_of_le hp10.lt (Nat.le_of_eq g3.symm)))))
  obtain ⟨_, T45, L45, X45, hQ45, st45⟩ := wVirtual X42 hx hZ (y := (⟨"com/example/wakeline/wakeline/trajectory/Point", "latitude", "()D"⟩ : MethodName)) (z := (⟨"com/example/wakeline/wakeline/trajectory/Point", "latitude", "()D"⟩ : MethodName)) hown (hw _ (List.mem_of_getElem? (i := 137) rfl)) (hw _ (List.mem_of_getElem? (i := 138) rfl)) (notFace_of_selects (args := #[]) (mvT hZ (hw _ (List.mem_of_getElem? (i := 140) rfl)))) (hw _ (List.mem_of_getElem? (i := 140) rfl)) (hw _ (List.mem_of_getElem? (i := 139) rfl)) (hw _ (List.mem_of_getElem? (i := 28) rfl)) (hw _ (List.mem_of_getElem? (i := 141) rfl)) (by decide) (get21_c l Z az hw [] x0 v0 h33 n0 (Nat.le_trans (Nat.le_trans (Nat.le_trans (Nat.le_trans (Nat.le_trans Z0 E3.1) (Keep.of_wr W7).1) E12.1) (Keep.of_wr W16).1) (Keep.of_wr W33).1) F44) 2 (by decide) (by decide) F43 (g := (mkF m 73 #[.val (.ref a0), .val (.ref a1), .val (.int (0 : Int32))] [(.ref x0), (.int (0 : Int32)), (.ref b12)])) rfl (by rw [hml]; rfl) (argsL := []) (rest := [(.int (0 : Int32)), (.ref b12)]) (lenOf pd___D rfl) rfl (by show 2 * 0 + _ ≤ _; exact Nat.le_of_eq rfl) (hb hby d14_73) rfl eT42 (by decide) (by decide)
  obtain ⟨rfl, N45q, eq45⟩ := hQ45
  have N45 := Fr.app N41 N45q
  refine ogoS st45 ?_
  show OWay p e below G T45 (mkF m 76 #[.val (.ref a0), .val (.ref a1), .val (.int (0 : Int32))] [(.double v0), (.int (0 : Int32)), (.ref b12)])
  have F46 : Arv Z h33 b12 k12 .double (2 : Int32) [(.double (0 : UInt64)), (.double (0 : UInt64))] (.double (0 : UInt64)) := ((V_b12.other W16 (Ne.symm (Nat.ne_of_lt (Nat.lt_of_lt_of_le Fw7.lt (Nat.le_of_eq g12.symm))))).other W33 (Ne.symm (Nat.ne_of_lt (Nat.lt_of_lt_of_le (V_b3.other W7 (Ne.symm (Nat.ne_of_lt (Nat.lt_of_lt_of_le hp0.lt (Nat.le_of_eq g3.symm))))).lt (Nat.le_of_eq g12.symm)))))
  obtain ⟨cl_o47, Ar_o47, q_o47, S_o47, N_o47, H_o47, G_o47⟩ := id F46
  have hin_o47 : ¬ ((0 : Int32) < 0 ∨ cl_o47.slots.size ≤ ((0 : Int32)).toNatClampNeg) := inb_of S_o47 ⟨by decide, by decide⟩
  obtain ⟨T48, h48, X48, eT48, W48, st48⟩ := stD X45 hx hZ eq45 Ar_o47 (j := (0 : Int32)) hin_o47 (g := (mkF m 76 #[.val (.ref a0), .val (.ref a1), .val (.int (0 : Int32))] [(.double v0), (.int (0 : Int32)), (.ref b12)])) rfl rfl (hb hby d14_76)
  have K49 : Keep h0 h48 [a0] := K34.wr W48 (Or.inr sz_b12)
  have V_48 : Arv Z h48 b12 k12 .double (2 : Int32) [(.double v0), (.double (0 : UInt64))] (.double (0 : UInt64)) := Arv.set Ar_o47 q_o47 S_o47 N_o47 H_o47 G_o47 rfl W48 0 rfl (Nat.le_of_ble_eq_true rfl)
  have N48 := Fr.snoc X48 N45 g_b12
  refine ogo st48 ?_
  show OWay p e below G T48 (mkF m 77 #[.val (.ref a0), .val (.ref a1), .val (.int (0 : Int32))] [])
  refine ogo (fun _ z_ => XS.iinc X48.here hx rfl (hb hby d14_77) rfl (l' := #[.val (.ref a0), .val (.ref a1), .val (.int ((0 : Int32) + (1 : Int32)))]) rfl z_) ?_
  show OWay p e below G T48 (mkF m 80 #[.val (.ref a0), .val (.ref a1), .val (.int ((0 : Int32) + (1 : Int32)))] [])
  refine ogoE (g' := (mkF m 80 #[.val (.ref a0), .val (.ref a1), .val (.int (1 : Int32))] [])) (by rw [show ((0 : Int32) + (1 : Int32)) = (1 : Int32) from by decide]) ?_
  refine ogo (fun _ z_ => XS.goto X48.here hx rfl (pc0 := 80) (pc' := 30) rfl (hb hby d14_80) (by decide) (by decide) z_) ?_
  show OWay p e below G T48 (mkF m 30 #[.val (.ref a0), .val (.ref a1), .val (.int (1 : Int32))] [])
  refine ogo (fun _ z_ => XS.iloadN X48.here hx rfl (hb hby d14_30) rfl z_) ?_
  show OWay p e below G T48 (mkF m 31 #[.val (.ref a0), .val (.ref a1), .val (.int (1 : Int32))] [(.int (1 : Int32))])
  refine ogo (fun _ z_ => XS.aloadN X48.here hx rfl (hb hby d14_31) rfl rfl z_) ?_
  show OWay p e below G T48 (mkF m 32 #[.val (.ref a0), .val (.ref a1), .val (.int (1 : Int32))] [(.ref a0), (.int (1 : Int32))])
  have F50 : Fld Z h48 a0 "com/example/wakeline/wakeline/similarity/Coordinates" "longitudes" "[D" (.ref b3) := ((F18.other W33 (Or.inl (Nat.ne_of_lt (Nat.lt_of_lt_of_le hp0.lt (Nat.le_of_eq g3.symm))))).other W48 (Or.inl (Nat.ne_of_lt (Nat.lt_of_lt_of_le Fw7.lt (Nat.le_of_eq g12.symm)))))
  obtain ⟨T51, X51, eT51, st51⟩ := getF X48 hx hZ hown (host := "") (Or.inl (hw _ (List.mem_of_getElem? (i := 105) rfl))) Via.refl eT48 F50 (g := (mkF m 32 #[.val (.ref a0), .val (.ref a1), .val (.int (1 : Int32))] [(.ref a0), (.int (1 : Int32))])) rfl rfl (hb hby d14_32)
  refine ogo st51 ?_
  show OWay p e below G T51 (mkF m 35 #[.val (.ref a0), .val (.ref a1), .val (.int (1 : Int32))] [(.ref b3), (.int (1 : Int32))])
  have F52 : Arv Z h48 b3 k3 .double (2 : Int32) [(.double u0), (.double (0 : UInt64))] (.double (0 : UInt64)) := (V_33.other W48 (Nat.ne_of_lt (Nat.lt_of_lt_of_le (V_b3.other W7 (Ne.symm (Nat.ne_of_lt (Nat.lt_of_lt_of_le hp0.lt (Nat.le_of_eq g3.symm))))).lt (Nat.le_of_eq g12.symm))))
  obtain ⟨cl_o53, Ar_o53, -, S_o53, N_o53, -, -⟩ := id F52
  refine ogo (fun _ z_ => X51.arraylength hx (by rw [eT51]; exact Ar_o53.1) (State.isArrayOf_alike hZ.alike Ar_o53.2.1) (g := (mkF m 35 #[.val (.ref a0), .val (.ref a1), .val (.int (1 : Int32))] [(.ref b3), (.int (1 : Int32))])) rfl rfl (hb hby d14_35) _ z_) ?_
  rw [len_of S_o53 N_o53]
  show OWay p e below G T51 (mkF m 36 #[.val (.ref a0), .val (.ref a1), .val (.int (1 : Int32))] [(.int (2 : Int32)), (.int (1 : Int32))])
  refine ogo (fun _ z_ => XS.icmpNo X51.here hx rfl (hb hby d14_36) rfl (tlt (by decide)).2.1 z_) ?_
  show OWay p e below G T51 (mkF m 39 #[.val (.ref a0), .val (.ref a1), .val (.int (1 : Int32))] [])
  refine ogo (fun _ z_ => XS.aloadN X51.here hx rfl (hb hby d14_39) rfl rfl z_) ?_
  show OWay p e below G T51 (mkF m 40 #[.val (.ref a0), .val (.ref a1), .val (.int (1 : Int32))] [(.ref a0)])
  obtain ⟨T54, X54, eT54, st54⟩ := getF X51 hx hZ hown (host := "") (Or.inl (hw _ (List.mem_of_getElem? (i := 105) rfl))) Via.refl eT51 F50 (g := (mkF m 40 #[.val (.ref a0), .val (.ref a1), .val (.int (1 : Int32))] [(.ref a0)])) rfl rfl (hb hby d14_40)
  refine ogo st54 ?_
  show OWay p e below G T54 (mkF m 43 #[.val (.ref a0), .val (.ref a1), .val (.int (1 : Int32))] [(.ref b3)])
  refine ogo (fun _ z_ => XS.iloadN X54.here hx rfl (hb hby d14_43) rfl z_) ?_
  show OWay p e below G T54 (mkF m 44 #[.val (.ref a0), .val (.ref a1), .val (.int (1 : Int32))] [(.int (1 : Int32)), (.ref b3)])
  refine ogo (fun _ z_ => XS.aloadN X54.here hx rfl (hb hby d14_44) rfl rfl z_) ?_
  show OWay p e below G T54 (mkF m 45 #[.val (.ref a0), .val (.ref a1), .val (.int (1 : Int32))] [(.ref a1), (.int (1 : Int32)), (.ref b3)])
  refine ogo (fun _ z_ => XS.iloadN X54.here hx rfl (hb hby d14_45) rfl z_) ?_
  show OWay p e below G T54 (mkF m 46 #[.val (.ref a0), .val (.ref a1), .val (.int (1 : Int32))] [(.int (1 : Int32)), (.ref a1), (.int (1 : Int32)), (.ref b3)])
  have F55 : Exa Z h48 a1 "java/util/ArrayList" := (F37.wr W48)
  have F56 : Fld Z h48 a1 "java/util/ArrayList" "size" "I" (.int (2 : Int32)) := (F38.other W48 (Or.inl (Nat.ne_of_lt (Nat.lt_of_lt_of_le F11.lt (Nat.le_of_eq g12.symm)))))
  have F57 : Fld Z h48 a1 "java/util/ArrayList" "elementData" "[Ljava/lang/Object;" (.ref b) := (F39.other W48 (Or.inl (Nat.ne_of_lt (Nat.lt_of_lt_of_le F11.lt (Nat.le_of_eq g12.symm)))))
  have F58 : Arv Z h48 b k (.object "java/lang/Object") (10 : Int32) [(.ref x0), (.ref x1), .null, .null, .null, .null, .null, .null, .null, .null] .null := (F40.other W48 (Nat.ne_of_lt (Nat.lt_of_lt_of_le ((hp7.ext E3).other W7 (Ne.symm hp15)).lt (Nat.le_of_eq g12.symm))))
  obtain ⟨_, T59, L59, X59, hQ59, st59⟩ := wInterface X54 hx hZ (y := (⟨"java/util/List", "get", "(I)Ljava/lang/Object;"⟩ : MethodName)) (z := (⟨"java/util/ArrayList", "get", "(I)Ljava/lang/Object;"⟩ : MethodName)) hown (hw _ (List.mem_of_getElem? (i := 109) rfl)) (hw _ (List.mem_of_getElem? (i := 110) rfl)) (hw _ (List.mem_of_getElem? (i := 111) rfl)) (hw _ (List.mem_of_getElem? (i := 112) rfl)) (hw _ (List.mem_of_getElem? (i := 113) rfl)) (hw _ (List.mem_of_getElem? (i := 114) rfl)) (hw _ (List.mem_of_getElem? (i := 115) rfl)) (hw _ (List.mem_of_getElem? (i := 102) rfl)) (hw _ (List.mem_of_getElem? (i := 2) rfl)) (hw _ (List.mem_of_getElem? (i := 116) rfl)) (by decide) (get1_c l Z az hw [] a1 b k x0 x1 h48 n0 (Nat.le_trans (Nat.le_trans (Nat.le_trans (Nat.le_trans (Nat.le_trans (Nat.le_trans Z0 E3.1) (Keep.of_wr W7).1) E12.1) (Keep.of_wr W16).1) (Keep.of_wr W33).1) (Keep.of_wr W48).1) F55 F56 F57 F58) 2 (by decide) (by decide) F55 (g := (mkF m 46 #[.val (.ref a0), .val (.ref a1), .val (.int (1 : Int32))] [(.int (1 : Int32)), (.ref a1), (.int (1 : Int32)), (.ref b3)])) rfl (by rw [hml]; rfl) (argsL := [(.int (1 : Int32))]) (rest := [(.int (1 : Int32)), (.ref b3)]) (lenOf pd__I_Ljava_lang_Object_ rfl) rfl (by show 2 * 0 + _ ≤ _; exact Nat.le_of_eq rfl) (hb hby d14_46) rfl eT54 (by decide) (by decide)
  obtain ⟨rfl, N59q, eq59⟩ := hQ59
  have N59 := Fr.app N48 N59q
  refine ogoS st59 ?_
  show OWay p e below G T59 (mkF m 51 #[.val (.ref a0), .val (.ref a1), .val (.int (1 : Int32))] [(.ref x1), (.int (1 : Int32)), (.ref b3)])
  have F61 : Exa Z h48 x1 "com/example/wakeline/wakeline/trajectory/Point" := ((((((hp11.ext E3).wr W7).ext E12).wr W16).wr W33).wr W48)
  obtain ⟨T60, X60, eT60, st60⟩ := castY X59 hx hZ hown (hw _ (List.mem_of_getElem? (i := 130) rfl)) eq59 (Ins.self F61) (g := (mkF m 51 #[.val (.ref a0), .val (.ref a1), .val (.int (1 : Int32))] [(.ref x1), (.int (1 : Int32)), (.ref b3)])) rfl rfl (hb hby d14_51)
  refine ogo st60 ?_
  show OWay p e below G T60 (mkF m 54 #[.val (.ref a0), .val (.ref a1), .val (.int (1 : Int32))] [(.ref x1), (.int (1 : Int32)), (.ref b3)])
  have F62 : Fld Z h48 x1 "com/example/wakeline/wakeline/trajectory/Point" "longitude" "D" (.double u1) := ((((((hp12.ext E3).other W7 (Or.inl (Ne.symm hp17))).ext E12).other W16 (Or.inl (Ne.symm hp17))).other W33 (Or.inl (Nat.ne_of_lt (Nat.lt_of_lt_of_le hp12.lt (Nat.le_of_eq g3.symm))))).other W48 (Or.inl (Nat.ne_of_lt (Nat.lt_of_lt_of_le ((hp12.ext E3).other W7 (Or.inl (Ne.symm hp17))).lt (Nat.le_of_eq g12.symm)))))
  obtain ⟨_, T63, L63, X63, hQ63, st63⟩ := wVirtual X60 hx hZ (y := (⟨"com/example/wakeline/wakeline/trajectory/Point", "longitude", "()D"⟩ : MethodName)) (z := (⟨"com/example/wakeline/wakeline/trajectory/Point", "longitude", "()D"⟩ : MethodName)) hown (hw _ (List.mem_of_getElem? (i := 132) rfl)) (hw _ (List.mem_of_getElem? (i := 133) rfl)) (notFace_of_selects (args := #[]) (mvT hZ (hw _ (List.mem_of_getElem? (i := 135) rfl)))) (hw _ (List.mem_of_getElem? (i := 135) rfl)) (hw _ (List.mem_of_getElem? (i := 134) rfl)) (hw _ (List.mem_of_getElem? (i := 28) rfl)) (hw _ (List.mem_of_getElem? (i := 136) rfl)) (by decide) (get20_c l Z az hw [] x1 u1 h48 n0 (Nat.le_trans (Nat.le_trans (Nat.le_trans (Nat.le_trans (Nat.le_trans (Nat.le_trans Z0 E3.1) (Keep.of_wr W7).1) E12.1) (Keep.of_wr W16).1) (Keep.of_wr W33).1) (Keep.of_wr W48).1) F62) 2 (by decide) (by decide) F61 (g := (mkF m 54 #[.val (.ref a0), .val (.ref a1), .val (.int (1 : Int32))] [(.ref x1), (.int (1 : Int32)), (.ref b3)])) rfl (by rw [hml]; rfl) (argsL := []) (rest := [(.int (1 : Int32)), (.ref b3)]) (lenOf pd___D rfl) rfl (by show 2 * 0 + _ ≤ _; exact Nat.le_of_eq rfl) (hb hby d14_54) rfl eT60 (by decide) (by decide)
  obtain ⟨rfl, N63q, eq63⟩ := hQ63
  have N63 := Fr.app N59 N63q
  refine ogoS st63 ?_
  show OWay p e below G T63 (mkF m 57 #[.val (.ref a0), .val (.ref a1), .val (.int (1 : Int32))] [(.double u1), (.int (1 : Int32)), (.ref b3)])
  obtain ⟨cl_o64, Ar_o64, q_o64, S_o64, N_o64, H_o64, G_o64⟩ := id F52
  have hin_o64 : ¬ ((1 : Int32) < 0 ∨ cl_o64.slots.size ≤ ((1 : Int32)).toNatClampNeg) := inb_of S_o64 ⟨by decide, by decide⟩
  obtain ⟨T65, h65, X65, eT65, W65, st65⟩ := stD X63 hx hZ eq63 Ar_o64 (j := (1 : Int32)) hin_o64 (g := (mkF m 57 #[.val (.ref a0), .val (.ref a1), .val (.int (1 : Int32))] [(.double u1), (.int (1 : Int32)), (.ref b3)])) rfl rfl (hb hby d14_57)
  have K66 : Keep h0 h65 [a0] := K49.wr W65 (Or.inr sz_b3)
  have V_65 : Arv Z h65 b3 k3 .double (2 : Int32) [(.double u0), (.double u1)] (.double (0 : UInt64)) := Arv.set Ar_o64 q_o64 S_o64 N_o64 H_o64 G_o64 rfl W65 1 rfl (Nat.le_of_ble_eq_true rfl)
  have N65 := Fr.snoc X65 N63 g_b3
  refine ogo st65 ?_
  show OWay p e below G T65 (mkF m 58 #[.val (.ref a0), .val (.ref a1), .val (.int (1 : Int32))] [])
  refine ogo (fun _ z_ => XS.aloadN X65.here hx rfl (hb hby d14_58) rfl rfl z_) ?_
  show OWay p e below G T65 (mkF m 59 #[.val (.ref a0), .val (.ref a1), .val (.int (1 : Int32))] [(.ref a0)])
  have F67 : Fld Z h65 a0 "com/example/wakeline/wakeline/similarity/Coordinates" "latitudes" "[D" (.ref b12) := ((F35.other W48 (Or.inl (Nat.ne_of_lt (Nat.lt_of_lt_of_le Fw7.lt (Nat.le_of_eq g12.symm))))).other W65 (Or.inl (Nat.ne_of_lt (Nat.lt_of_lt_of_le hp0.lt (Nat.le_of_eq g3.symm)))))
  obtain ⟨T68, X68, eT68, st68⟩ := getF X65 hx hZ hown (host := "") (Or.inl (hw _ (List.mem_of_getElem? (i := 107) rfl))) Via.refl eT65 F67 (g := (mkF m 59 #[.val (.ref a0), .val (.ref a1), .val (.int (1 : Int32))] [(.ref a0)])) rfl rfl (hb hby d14_59)
  refine ogo st68 ?_
  show OWay p e below G T68 (mkF m 62 #[.val (.ref a0), .val (.ref a1), .val (.int (1 : Int32))] [(.ref b12)])
  refine ogo (fun _ z_ => XS.iloadN X68.here hx rfl (hb hby d14_62) rfl z_) ?_
  show OWay p e below G T68 (mkF m 63 #[.val (.ref a0), .val (.ref a1), .val (.int (1 : Int32))] [(.int (1 : Int32)), (.ref b12)])
  refine ogo (fun _ z_ => XS.aloadN X68.here hx rfl (hb hby d14_63) rfl rfl z_) ?_
  show OWay p e below G T68 (mkF m 64 #[.val (.ref a0), .val (.ref a1), .val (.int (1 : Int32))] [(.ref a1), (.int (1 : Int32)), (.ref b12)])
  refine ogo (fun _ z_ => XS.iloadN X68.here hx rfl (hb hby d14_64) rfl z_) ?_
  show OWay p e below G T68 (mkF m 65 #[.val (.ref a0), .val (.ref a1), .val (.int (1 : Int32))] [(.int (1 : Int32)), (.ref a1), (.int (1 : Int32)), (.ref b12)])
  have F69 : Exa Z h65 a1 "java/util/ArrayList" := (F55.wr W65)
  have F70 : Fld Z h65 a1 "java/util/ArrayList" "size" "I" (.int (2 : Int32)) := (F56.other W65 (Or.inl (Nat.ne_of_lt (Nat.lt_of_lt_of_le hp4.lt (Nat.le_of_eq g3.symm)))))
  have F71 : Fld Z h65 a1 "java/util/ArrayList" "elementData" "[Ljava/lang/Object;" (.ref b) := (F57.other W65 (Or.inl (Nat.ne_of_lt (Nat.lt_of_lt_of_le hp4.lt (Nat.le_of_eq g3.symm)))))
  have F72 : Arv Z h65 b k (.object "java/lang/Object") (10 : Int32) [(.ref x0), (.ref x1), .null, .null, .null, .null, .null, .null, .null, .null] .null := (F58.other W65 (Nat.ne_of_lt (Nat.lt_of_lt_of_le hp7.lt (Nat.le_of_eq g3.symm))))
  obtain ⟨_, T73, L73, X73, hQ73, st73⟩ := wInterface X68 hx hZ (y := (⟨"java/util/List", "get", "(I)Ljava/lang/Object;"⟩ : MethodName)) (z := (⟨"java/util/ArrayList", "get", "(I)Ljava/lang/Object;"⟩ : MethodName)) hown (hw _ (List.mem_of_getElem? (i := 109) rfl)) (hw _ (List.mem_of_getElem? (i := 110) rfl)) (hw _ (List.mem_of_getElem? (i := 111) rfl)) (hw _ (List.mem_of_getElem? (i := 112) rfl)) (hw _ (List.mem_of_getElem? (i := 113) rfl)) (hw _ (List.mem_of_getElem? (i := 114) rfl)) (hw _ (List.mem_of_getElem? (i := 115) rfl)) (hw _ (List.mem_of_getElem? (i := 102) rfl)) (hw _ (List.mem_of_getElem? (i := 2) rfl)) (hw _ (List.mem_of_getElem? (i := 116) rfl)) (by decide) (get1_c l Z az hw [] a1 b k x0 x1 h65 n0 (Nat.le_trans (Nat.le_trans (Nat.le_trans (Nat.le_trans (Nat.le_trans (Nat.le_trans (Nat.le_trans Z0 E3.1) (Keep.of_wr W7).1) E12.1) (Keep.of_wr W16).1) (Keep.of_wr W33).1) (Keep.of_wr W48).1) (Keep.of_wr W65).1) F69 F70 F71 F72) 2 (by decide) (by decide) F69 (g := (mkF m 65 #[.val (.ref a0), .val (.ref a1), .val (.int (1 : Int32))] [(.int (1 : Int32)), (.ref a1), (.int (1 : Int32)), (.ref b12)])) rfl (by rw [hml]; rfl) (argsL := [(.int (1 : Int32))]) (rest := [(.int (1 : Int32)), (.ref b12)]) (lenOf pd__I_Ljava_lang_Object_ rfl) rfl (by show 2 * 0 + _ ≤ _; exact Nat.le_of_eq rfl) (hb hby d14_65) rfl eT68 (by decide) (by decide)
  obtain ⟨rfl, N73q, eq73⟩ := hQ73
  have N73 := Fr.app N65 N73q
  refine ogoS st73 ?_
  show OWay p e below G T73 (mkF m 70 #[.val (.ref a0), .val (.ref a1), .val (.int (1 : Int32))] [(.ref x1), (.int (1 : Int32)), (.ref b12)])
  have F75 : Exa Z h65 x1 "com/example/wakeline/wakeline/trajectory/Point" := (F61.wr W65)
  obtain ⟨T74, X74, eT74, st74⟩ := castY X73 hx hZ hown (hw _ (List.mem_of_getElem? (i := 130) rfl)) eq73 (Ins.self F75) (g := (mkF m 70 #[.val (.ref a0), .val (.ref a1), .val (.int (1 : Int32))] [(.ref x1), (.int (1 : Int32)), (.ref b12)])) rfl rfl (hb hby d14_70)
  refine ogo st74 ?_
  show OWay p e below G T74 (mkF m 73 #[.val (.ref a0), .val (.ref a1), .val (.int (1 : Int32))] [(.ref x1), (.int (1 : Int32)), (.ref b12)])
  have F76 : Fld Z h65 x1 "com/example/wakeline/wakeline/trajectory/Point" "latitude" "D" (.double v1) := (((((((hp13.ext E3).other W7 (Or.inl (Ne.symm hp17))).ext E12).other W16 (Or.inl (Ne.symm hp17))).other W33 (Or.inl (Nat.ne_of_lt (Nat.lt_of_lt_of_le hp13.lt (Nat.le_of_eq g3.symm))))).other W48 (Or.inl (Nat.ne_of_lt (Nat.lt_of_lt_of_le ((hp13.ext E3).other W7 (Or.inl (Ne.symm hp17))).lt (Nat.le_of_eq g12.symm))))).other W65 (Or.inl (Nat.ne_of_lt (Nat.lt_of_lt_of_le hp13.lt (Nat.le_of_eq g3.symm)))))
  obtain ⟨_, T77, L77, X77, hQ77, st77⟩ := wVirtual X74 hx hZ (y := (⟨"com/example/wakeline/wakeline/trajectory/Point", "latitude", "()D"⟩ : MethodName)) (z := (⟨"com/example/wakeline/wakeline/trajectory/Point", "latitude", "()D"⟩ : MethodName)) hown (hw _ (List.mem_of_getElem? (i := 137) rfl)) (hw _ (List.mem_of_getElem? (i := 138) rfl)) (notFace_of_selects (args := #[]) (mvT hZ (hw _ (List.mem_of_getElem? (i := 140) rfl)))) (hw _ (List.mem_of_getElem? (i := 140) rfl)) (hw _ (List.mem_of_getElem? (i := 139) rfl)) (hw _ (List.mem_of_getElem? (i := 28) rfl)) (hw _ (List.mem_of_getElem? (i := 141) rfl)) (by decide) (get21_c l Z az hw [] x1 v1 h65 n0 (Nat.le_trans (Nat.le_trans (Nat.le_trans (Nat.le_trans (Nat.le_trans (Nat.le_trans (Nat.le_trans Z0 E3.1) (Keep.of_wr W7).1) E12.1) (Keep.of_wr W16).1) (Keep.of_wr W33).1) (Keep.of_wr W48).1) (Keep.of_wr W65).1) F76) 2 (by decide) (by decide) F75 (g := (mkF m 73 #[.val (.ref a0), .val (.ref a1), .val (.int (1 : Int32))] [(.ref x1), (.int (1 : Int32)), (.ref b12)])) rfl (by rw [hml]; rfl) (argsL := []) (rest := [(.int (1 : Int32)), (.ref b12)]) (lenOf pd___D rfl) rfl (by show 2 * 0 + _ ≤ _; exact Nat.le_of_eq rfl) (hb hby d14_73) rfl eT74 (by decide) (by decide)
  obtain ⟨rfl, N77q, eq77⟩ := hQ77
  have N77 := Fr.app N73 N77q
  refine ogoS st77 ?_
  show OWay p e below G T77 (mkF m 76 #[.val (.ref a0), .val (.ref a1), .val (.int (1 : Int32))] [(.double v1), (.int (1 : Int32)), (.ref b12)])
  have F78 : Arv Z h65 b12 k12 .double (2 : Int32) [(.double v0), (.double (0 : UInt64))] (.double (0 : UInt64)) := (V_48.other W65 (Ne.symm (Nat.ne_of_lt (Nat.lt_of_lt_of_le (V_b3.other W7 (Ne.symm (Nat.ne_of_lt (Nat.lt_of_lt_of_le hp0.lt (Nat.le_of_eq g3.symm))))).lt (Nat.le_of_eq g12.symm)))))
  obtain ⟨cl_o79, Ar_o79, q_o79, S_o79, N_o79, H_o79, G_o79⟩ := id F78
  have hin_o79 : ¬ ((1 : Int32) < 0 ∨ cl_o79.slots.size ≤ ((1 : Int32)).toNatClampNeg) := inb_of S_o79 ⟨by decide, by decide⟩
  obtain ⟨T80, h80, X80, eT80, W80, st80⟩ := stD X77 hx hZ eq77 Ar_o79 (j := (1 : Int32)) hin_o79 (g := (mkF m 76 #[.val (.ref a0), .val (.ref a1), .val (.int (1 : Int32))] [(.double v1), (.int (1 : Int32)), (.ref b12)])) rfl rfl (hb hby d14_76)
  have K81 : Keep h0 h80 [a0] := K66.wr W80 (Or.inr sz_b12)
  have V_80 : Arv Z h80 b12 k12 .double (2 : Int32) [(.double v0), (.double v1)] (.double (0 : UInt64)) := Arv.set Ar_o79 q_o79 S_o79 N_o79 H_o79 G_o79 rfl W80 1 rfl (Nat.le_of_ble_eq_true rfl)
  have N80 := Fr.snoc X80 N77 g_b12
  refine ogo st80 ?_
  show OWay p e below G T80 (mkF m 77 #[.val (.ref a0), .val (.ref a1), .val (.int (1 : Int32))] [])
  refine ogo (fun _ z_ => XS.iinc X80.here hx rfl (hb hby d14_77) rfl (l' := #[.val (.ref a0), .val (.ref a1), .val (.int ((1 : Int32) + (1 : Int32)))]) rfl z_) ?_
  show OWay p e below G T80 (mkF m 80 #[.val (.ref a0), .val (.ref a1), .val (.int ((1 : Int32) + (1 : Int32)))] [])
  refine ogoE (g' := (mkF m 80 #[.val (.ref a0), .val (.ref a1), .val (.int (2 : Int32))] [])) (by rw [show ((1 : Int32) + (1 : Int32)) = (2 : Int32) from by decide]) ?_
  refine ogo (fun _ z_ => XS.goto X80.here hx rfl (pc0 := 80) (pc' := 30) rfl (hb hby d14_80) (by decide) (by decide) z_) ?_
  show OWay p e below G T80 (mkF m 30 #[.val (.ref a0), .val (.ref a1), .val (.int (2 : Int32))] [])
  refine ogo (fun _ z_ => XS.iloadN X80.here hx rfl (hb hby d14_30) rfl z_) ?_
  show OWay p e below G T80 (mkF m 31 #[.val (.ref a0), .val (.ref a1), .val (.int (2 : Int32))] [(.int (2 : Int32))])
  refine ogo (fun _ z_ => XS.aloadN X80.here hx rfl (hb hby d14_31) rfl rfl z_) ?_
  show OWay p e below G T80 (mkF m 32 #[.val (.ref a0), .val (.ref a1), .val (.int (2 : Int32))] [(.ref a0), (.int (2 : Int32))])
  have F82 : Fld Z h80 a0 "com/example/wakeline/wakeline/similarity/Coordinates" "longitudes" "[D" (.ref b3) := ((F50.other W65 (Or.inl (Nat.ne_of_lt (Nat.lt_of_lt_of_le hp0.lt (Nat.le_of_eq g3.symm))))).other W80 (Or.inl (Nat.ne_of_lt (Nat.lt_of_lt_of_le Fw7.lt (Nat.le_of_eq g12.symm)))))
  obtain ⟨T83, X83, eT83, st83⟩ := getF X80 hx hZ hown (host := "") (Or.inl (hw _ (List.mem_of_getElem? (i := 105) rfl))) Via.refl eT80 F82 (g := (mkF m 32 #[.val (.ref a0), .val (.ref a1), .val (.int (2 : Int32))] [(.ref a0), (.int (2 : Int32))])) rfl rfl (hb hby d14_32)
  refine ogo st83 ?_
  show OWay p e below G T83 (mkF m 35 #[.val (.ref a0), .val (.ref a1), .val (.int (2 : Int32))] [(.ref b3), (.int (2 : Int32))])
  have F84 : Arv Z h80 b3 k3 .double (2 : Int32) [(.double u0), (.double u1)] (.double (0 : UInt64)) := (V_65.other W80 (Nat.ne_of_lt (Nat.lt_of_lt_of_le (V_b3.other W7 (Ne.symm (Nat.ne_of_lt (Nat.lt_of_lt_of_le hp0.lt (Nat.le_of_eq g3.symm))))).lt (Nat.le_of_eq g12.symm))))
  obtain ⟨cl_o85, Ar_o85, -, S_o85, N_o85, -, -⟩ := id F84
  refine ogo (fun _ z_ => X83.arraylength hx (by rw [eT83]; exact Ar_o85.1) (State.isArrayOf_alike hZ.alike Ar_o85.2.1) (g := (mkF m 35 #[.val (.ref a0), .val (.ref a1), .val (.int (2 : Int32))] [(.ref b3), (.int (2 : Int32))])) rfl rfl (hb hby d14_35) _ z_) ?_
  rw [len_of S_o85 N_o85]
  show OWay p e below G T83 (mkF m 36 #[.val (.ref a0), .val (.ref a1), .val (.int (2 : Int32))] [(.int (2 : Int32)), (.int (2 : Int32))])
  refine ogo (fun _ z_ => XS.icmpYes X83.here hx rfl (pc0 := 36) (pc' := 83) rfl (hb hby d14_36) rfl (flt (by decide)).2.1 (by decide) (by decide) z_) ?_
  show OWay p e below G T83 (mkF m 83 #[.val (.ref a0), .val (.ref a1), .val (.int (2 : Int32))] [])
  subst hG
  refine wRetV X83 hx hret hlk (hb hby d14_83) (by decide) (by decide) eT83 ?_
  exact ⟨b3, b12, k3, k12, rfl, N80, K81, g_b3, sz_b3, g_b12, sz_b12, F84, V_80, F82, (F67.other W80 (Or.inl (Nat.ne_of_lt (Nat.lt_of_lt_of_le Fw7.lt (Nat.le_of_eq g12.symm)))))⟩
theorem d22_0 : decode prog_36_method_5_code 0 = .ok (.aload_n 0, 1) := by decide +kernel
theorem d22_1 : decode prog_36_method_5_code 1 = .ok (.getfield 13, 3) := by decide +kernel
theorem d22_4 : decode prog_36_method_5_code 4 = .ok (.iload_n 1, 1) := by decide +kernel
theorem d22_5 : decode prog_36_method_5_code 5 = .ok (.daload, 1) := by decide +kernel
theorem d22_6 : decode prog_36_method_5_code 6 = .ok (.aload_n 2, 1) := by decide +kernel
theorem d22_7 : decode prog_36_method_5_code 7 = .ok (.getfield 13, 3) := by decide +kernel
theorem d22_10 : decode prog_36_method_5_code 10 = .ok (.iload_n 3, 1) := by decide +kernel
theorem d22_11 : decode prog_36_method_5_code 11 = .ok (.daload, 1) := by decide +kernel
theorem d22_12 : decode prog_36_method_5_code 12 = .ok (.dsub, 1) := by decide +kernel
theorem d22_13 : decode prog_36_method_5_code 13 = .ok (.dstore 4, 2) := by decide +kernel
theorem d22_15 : decode prog_36_method_5_code 15 = .ok (.aload_n 0, 1) := by decide +kernel
theorem d22_16 : decode prog_36_method_5_code 16 = .ok (.getfield 19, 3) := by decide +kernel
theorem d22_19 : decode prog_36_method_5_code 19 = .ok (.iload_n 1, 1) := by decide +kernel
theorem d22_20 : decode prog_36_method_5_code 20 = .ok (.daload, 1) := by decide +kernel
theorem d22_21 : decode prog_36_method_5_code 21 = .ok (.aload_n 2, 1) := by decide +kernel
theorem d22_22 : decode prog_36_method_5_code 22 = .ok (.getfield 19, 3) := by decide +kernel
theorem d22_25 : decode prog_36_method_5_code 25 = .ok (.iload_n 3, 1) := by decide +kernel
theorem d22_26 : decode prog_36_method_5_code 26 = .ok (.daload, 1) := by decide +kernel
theorem d22_27 : decode prog_36_method_5_code 27 = .ok (.dsub, 1) := by decide +kernel
theorem d22_28 : decode prog_36_method_5_code 28 = .ok (.dstore 6, 2) := by decide +kernel
theorem d22_30 : decode prog_36_method_5_code 30 = .ok (.dload 4, 2) := by decide +kernel
theorem d22_32 : decode prog_36_method_5_code 32 = .ok (.dload 4, 2) := by decide +kernel
theorem d22_34 : decode prog_36_method_5_code 34 = .ok (.dmul, 1) := by decide +kernel
theorem d22_35 : decode prog_36_method_5_code 35 = .ok (.dload 6, 2) := by decide +kernel
theorem d22_37 : decode prog_36_method_5_code 37 = .ok (.dload 6, 2) := by decide +kernel
theorem d22_39 : decode prog_36_method_5_code 39 = .ok (.dmul, 1) := by decide +kernel
theorem d22_40 : decode prog_36_method_5_code 40 = .ok (.dadd, 1) := by decide +kernel
theorem d22_41 : decode prog_36_method_5_code 41 = .ok (.dreturn, 1) := by decide +kernel
def sd00_rm : Room := { frames := 0, cells := 0, slots := 0, locals := 0 }
def sd00_Q (Z : State) (a0 : Addr) (a2 : Addr) (lo1 : Addr) (la1 : Addr) (kl1 : ClassId) (ka1 : ClassId) (lo2 : Addr) (la2 : Addr) (kl2 : ClassId) (ka2 : ClassId) (sx01 : UInt64) (sx11 : UInt64) (sy01 : UInt64) (sy11 : UInt64) (sx02 : UInt64) (sx12 : UInt64) (sy02 : UInt64) (sy12 : UInt64) (m1 : Int) (m2 : Int) (n1 : Int) (n2 : Int) (h0 : Heap) (n0 : Nat) (v : Option Value) (h : Heap) (L : List Loc) : Prop := ∃ dr : UInt64, (v = some (.double dr)) ∧ (Fr n0 L) ∧ (h = h0) ∧ (Dy dr ((m1 - m2) * (m1 - m2) + (n1 - n2) * (n1 - n2)) 1096)
theorem sd00_ef (m : MethodId) (a0 : Addr) (a2 : Addr) : entryFrame m #[(.ref a0), (.int (0 : Int32)), (.ref a2), (.int (0 : Int32))] 8 = mkF m 0 #[.val (.ref a0), .val (.int (0 : Int32)), .val (.ref a2), .val (.int (0 : Int32)), .unset, .unset, .unset, .unset] [] := by first | (simp [entryFrame, mkF, argsToLocals, Value.category]; done) | rfl
set_option maxRecDepth 65536 in
set_option maxHeartbeats 40000000 in
theorem sd00_c (l : Launch) (Z : State) (az : Array Value) (hw : ∀ d ∈ tables_1, d.before az Z = true) (ws : List Jvm.Cond) (a0 : Addr) (a2 : Addr) (lo1 : Addr) (la1 : Addr) (kl1 : ClassId) (ka1 : ClassId) (lo2 : Addr) (la2 : Addr) (kl2 : ClassId) (ka2 : ClassId) (sx01 : UInt64) (sx11 : UInt64) (sy01 : UInt64) (sy11 : UInt64) (sx02 : UInt64) (sx12 : UInt64) (sy02 : UInt64) (sy12 : UInt64) (m1 : Int) (m2 : Int) (n1 : Int) (n2 : Int) (h0 : Heap) (n0 : Nat) (Z0 : n0 ≤ h0.size) (hp0 : Fld Z h0 a0 "com/example/wakeline/wakeline/similarity/Coordinates" "longitudes" "[D" (.ref lo1)) (hp1 : Fld Z h0 a0 "com/example/wakeline/wakeline/similarity/Coordinates" "latitudes" "[D" (.ref la1)) (hp2 : Arv Z h0 lo1 kl1 .double (2 : Int32) [(.double sx01), (.double sx11)] (.double (0 : UInt64))) (hp3 : Arv Z h0 la1 ka1 .double (2 : Int32) [(.double sy01), (.double sy11)] (.double (0 : UInt64))) (hp4 : Fld Z h0 a2 "com/example/wakeline/wakeline/similarity/Coordinates" "longitudes" "[D" (.ref lo2)) (hp5 : Fld Z h0 a2 "com/example/wakeline/wakeline/similarity/Coordinates" "latitudes" "[D" (.ref la2)) (hp6 : Arv Z h0 lo2 kl2 .double (2 : Int32) [(.double sx02), (.double sx12)] (.double (0 : UInt64))) (hp7 : Arv Z h0 la2 ka2 .double (2 : Int32) [(.double sy02), (.double sy12)] (.double (0 : UInt64))) (hx1 : Dy sx01 m1 1098) (hx2 : Dy sx02 m2 1098) (hy1 : Dy sy01 n1 1098) (hy2 : Dy sy02 n2 1098) (hbm1 : -720 ≤ m1 ∧ m1 ≤ 720) (hbm2 : -720 ≤ m2 ∧ m2 ≤ 720) (hbn1 : -720 ≤ n1 ∧ n1 ≤ 720) (hbn2 : -720 ≤ n2 ∧ n2 ≤ 720) :
    OCon l (⟨"com/example/wakeline/wakeline/similarity/Coordinates", "squaredDistance", "(ILcom/example/wakeline/wakeline/similarity/Coordinates;I)D"⟩ : MethodName) prog_36_method_5_code 8 (some .double) ws sd00_rm Z #[(.ref a0), (.int (0 : Int32)), (.ref a2), (.int (0 : Int32))] h0 (sd00_Q Z a0 a2 lo1 la1 kl1 ka1 lo2 la2 kl2 ka2 sx01 sx11 sy01 sy11 sx02 sx12 sy02 sy12 m1 m2 n1 n2 h0 n0) := by
  refine ocon (plainFor_of_name pn_com_example_wakeline_wakeline_similarity_Coordinates) ?_
  intro p e s m below meth c s₁ hx hby hml hown hnm hret hlk hZ X0 eh0
  have N0 := Fr.nil n0
  have K0 := Keep.refl h0 []
  refine ogoE (sd00_ef m a0 a2) ?_
  generalize hG : (OEnd s below (sd00_Q Z a0 a2 lo1 la1 kl1 ka1 lo2 la2 kl2 ka2 sx01 sx11 sy01 sy11 sx02 sx12 sy02 sy12 m1 m2 n1 n2 h0 n0) sd00_rm.cells sd00_rm.slots) = G
  show OWay p e below G s₁ (mkF m 0 #[.val (.ref a0), .val (.int (0 : Int32)), .val (.ref a2), .val (.int (0 : Int32)), .unset, .unset, .unset, .unset] [])
  refine ogo (fun _ z_ => XS.aloadN X0.here hx rfl (hb hby d22_0) rfl rfl z_) ?_
  show OWay p e below G s₁ (mkF m 1 #[.val (.ref a0), .val (.int (0 : Int32)), .val (.ref a2), .val (.int (0 : Int32)), .unset, .unset, .unset, .unset] [(.ref a0)])
  obtain ⟨T1, X1, eT1, st1⟩ := getF X0 hx hZ hown (host := "") (Or.inl (hw _ (List.mem_of_getElem? (i := 105) rfl))) Via.refl eh0 hp0 (g := (mkF m 1 #[.val (.ref a0), .val (.int (0 : Int32)), .val (.ref a2), .val (.int (0 : Int32)), .unset, .unset, .unset, .unset] [(.ref a0)])) rfl rfl (hb hby d22_1)
  refine ogo st1 ?_
  show OWay p e below G T1 (mkF m 4 #[.val (.ref a0), .val (.int (0 : Int32)), .val (.ref a2), .val (.int (0 : Int32)), .unset, .unset, .unset, .unset] [(.ref lo1)])
  refine ogo (fun _ z_ => XS.iloadN X1.here hx rfl (hb hby d22_4) rfl z_) ?_
  show OWay p e below G T1 (mkF m 5 #[.val (.ref a0), .val (.int (0 : Int32)), .val (.ref a2), .val (.int (0 : Int32)), .unset, .unset, .unset, .unset] [(.int (0 : Int32)), (.ref lo1)])
  obtain ⟨cl_o2, Ar_o2, q_o2, S_o2, N_o2, H_o2, G_o2⟩ := id hp2
  have hin_o2 : ¬ ((0 : Int32) < 0 ∨ cl_o2.slots.size ≤ ((0 : Int32)).toNatClampNeg) := inb_of S_o2 ⟨by decide, by decide⟩
  have hat_o2 : cl_o2.slots[((0 : Int32)).toNatClampNeg]? = some (.double sx01) := H_o2.at hin_o2 rfl
  refine ogo (fun _ z_ => X1.daload hx (j := (0 : Int32)) (v := (.double sx01)) (by rw [eT1]; exact Ar_o2.1) (State.isArrayOf_alike hZ.alike Ar_o2.2.1) Ar_o2.2.2 hin_o2 hat_o2 (g := (mkF m 5 #[.val (.ref a0), .val (.int (0 : Int32)), .val (.ref a2), .val (.int (0 : Int32)), .unset, .unset, .unset, .unset] [(.int (0 : Int32)), (.ref lo1)])) rfl rfl (hb hby d22_5) _ z_) ?_
  show OWay p e below G T1 (mkF m 6 #[.val (.ref a0), .val (.int (0 : Int32)), .val (.ref a2), .val (.int (0 : Int32)), .unset, .unset, .unset, .unset] [(.double sx01)])
  refine ogo (fun _ z_ => XS.aloadN X1.here hx rfl (hb hby d22_6) rfl rfl z_) ?_
  show OWay p e below G T1 (mkF m 7 #[.val (.ref a0), .val (.int (0 : Int32)), .val (.ref a2), .val (.int (0 : Int32)), .unset, .unset, .unset, .unset] [(.ref a2), (.double sx01)])
  obtain ⟨T3, X3, eT3, st3⟩ := getF X1 hx hZ hown (host := "") (Or.inl (hw _ (List.mem_of_getElem? (i := 105) rfl))) Via.refl eT1 hp4 (g := (mkF m 7 #[.val (.ref a0), .val (.int (0 : Int32)), .val (.ref a2), .val (.int (0 : Int32)), .unset, .unset, .unset, .unset] [(.ref a2), (.double sx01)])) rfl rfl (hb hby d22_7)
  refine ogo st3 ?_
  show OWay p e below G T3 (mkF m 10 #[.val (.ref a0), .val (.int (0 : Int32)), .val (.ref a2), .val (.int (0 : Int32)), .unset, .unset, .unset, .unset] [(.ref lo2), (.double sx01)])
  refine ogo (fun _ z_ => XS.iloadN X3.here hx rfl (hb hby d22_10) rfl z_) ?_
  show OWay p e below G T3 (mkF m 11 #[.val (.ref a0), .val (.int (0 : Int32)), .val (.ref a2), .val (.int (0 : Int32)), .unset, .unset, .unset, .unset] [(.int (0 : Int32)), (.ref lo2), (.double sx01)])
  obtain ⟨cl_o4, Ar_o4, q_o4, S_o4, N_o4, H_o4, G_o4⟩ := id hp6
  have hin_o4 : ¬ ((0 : Int32) < 0 ∨ cl_o4.slots.size ≤ ((0 : Int32)).toNatClampNeg) := inb_of S_o4 ⟨by decide, by decide⟩
  have hat_o4 : cl_o4.slots[((0 : Int32)).toNatClampNeg]? = some (.double sx02) := H_o4.at hin_o4 rfl
  refine ogo (fun _ z_ => X3.daload hx (j := (0 : Int32)) (v := (.double sx02)) (by rw [eT3]; exact Ar_o4.1) (State.isArrayOf_alike hZ.alike Ar_o4.2.1) Ar_o4.2.2 hin_o4 hat_o4 (g := (mkF m 11 #[.val (.ref a0), .val (.int (0 : Int32)), .val (.ref a2), .val (.int (0 : Int32)), .unset, .unset, .unset, .unset] [(.int (0 : Int32)), (.ref lo2), (.double sx01)])) rfl rfl (hb hby d22_11) _ z_) ?_
  show OWay p e below G T3 (mkF m 12 #[.val (.ref a0), .val (.int (0 : Int32)), .val (.ref a2), .val (.int (0 : Int32)), .unset, .unset, .unset, .unset] [(.double sx02), (.double sx01)])
  refine ogo (fun _ z_ => XS.dsubS X3.here hx rfl (hb hby d22_12) rfl (dy_nn (own_df hx1 hx2 hbm1 hbm2)) rfl z_) ?_
  show OWay p e below G T3 (mkF m 13 #[.val (.ref a0), .val (.int (0 : Int32)), .val (.ref a2), .val (.int (0 : Int32)), .unset, .unset, .unset, .unset] [(.double (FP.dsub sx01 sx02))])
  suffices Jv4_5 : ∀ v4_5 : UInt64, v4_5 = (FP.dsub sx01 sx02) → OWay p e below G T3 (mkF m 13 #[.val (.ref a0), .val (.int (0 : Int32)), .val (.ref a2), .val (.int (0 : Int32)), .unset, .unset, .unset, .unset] [(.double v4_5)]) from Jv4_5 _ rfl
  intro v4_5 hv4_5
  refine ogo (fun _ z_ => XS.dstore X3.here hx rfl (hb hby d22_13) rfl (l' := #[.val (.ref a0), .val (.int (0 : Int32)), .val (.ref a2), .val (.int (0 : Int32)), .val (.double v4_5), .second, .unset, .unset]) rfl z_) ?_
  show OWay p e below G T3 (mkF m 15 #[.val (.ref a0), .val (.int (0 : Int32)), .val (.ref a2), .val (.int (0 : Int32)), .val (.double v4_5), .second, .unset, .unset] [])
  refine ogo (fun _ z_ => XS.aloadN X3.here hx rfl (hb hby d22_15) rfl rfl z_) ?_
  show OWay p e below G T3 (mkF m 16 #[.val (.ref a0), .val (.int (0 : Int32)), .val (.ref a2), .val (.int (0 : Int32)), .val (.double v4_5), .second, .unset, .unset] [(.ref a0)])
  obtain ⟨T6, X6, eT6, st6⟩ := getF X3 hx hZ hown (host := "") (Or.inl (hw _ (List.mem_of_getElem? (i := 107) rfl))) Via.refl eT3 hp1 (g := (mkF m 16 #[.val (.ref a0), .val (.int (0 : Int32)), .val (.ref a2), .val (.int (0 : Int32)), .val (.double v4_5), .second, .unset, .unset] [(.ref a0)])) rfl rfl (hb hby d22_16)
  refine ogo st6 ?_
  show OWay p e below G T6 (mkF m 19 #[.val (.ref a0), .val (.int (0 : Int32)), .val (.ref a2), .val (.int (0 : Int32)), .val (.double v4_5), .second, .unset, .unset] [(.ref la1)])
  refine ogo (fun _ z_ => XS.iloadN X6.here hx rfl (hb hby d22_19) rfl z_) ?_
  show OWay p e below G T6 (mkF m 20 #[.val (.ref a0), .val (.int (0 : Int32)), .val (.ref a2), .val (.int (0 : Int32)), .val (.double v4_5), .second, .unset, .unset] [(.int (0 : Int32)), (.ref la1)])
  obtain ⟨cl_o7, Ar_o7, q_o7, S_o7, N_o7, H_o7, G_o7⟩ := id hp3
  have hin_o7 : ¬ ((0 : Int32) < 0 ∨ cl_o7.slots.size ≤ ((0 : Int32)).toNatClampNeg) := inb_of S_o7 ⟨by decide, by decide⟩
  have hat_o7 : cl_o7.slots[((0 : Int32)).toNatClampNeg]? = some (.double sy01) := H_o7.at hin_o7 rfl
  refine ogo (fun _ z_ => X6.daload hx (j := (0 : Int32)) (v := (.double sy01)) (by rw [eT6]; exact Ar_o7.1) (State.isArrayOf_alike hZ.alike Ar_o7.2.1) Ar_o7.2.2 hin_o7 hat_o7 (g := (mkF m 20 #[.val (.ref a0), .val (.int (0 : Int32)), .val (.ref a2), .val (.int (0 : Int32)), .val (.double v4_5), .second, .unset, .unset] [(.int (0 : Int32)), (.ref la1)])) rfl rfl (hb hby d22_20) _ z_) ?_
  show OWay p e below G T6 (mkF m 21 #[.val (.ref a0), .val (.int (0 : Int32)), .val (.ref a2), .val (.int (0 : Int32)), .val (.double v4_5), .second, .unset, .unset] [(.double sy01)])
  refine ogo (fun _ z_ => XS.aloadN X6.here hx rfl (hb hby d22_21) rfl rfl z_) ?_
  show OWay p e below G T6 (mkF m 22 #[.val (.ref a0), .val (.int (0 : Int32)), .val (.ref a2), .val (.int (0 : Int32)), .val (.double v4_5), .second, .unset, .unset] [(.ref a2), (.double sy01)])
  obtain ⟨T8, X8, eT8, st8⟩ := getF X6 hx hZ hown (host := "") (Or.inl (hw _ (List.mem_of_getElem? (i := 107) rfl))) Via.refl eT6 hp5 (g := (mkF m 22 #[.val (.ref a0), .val (.int (0 : Int32)), .val (.ref a2), .val (.int (0 : Int32)), .val (.double v4_5), .second, .unset, .unset] [(.ref a2), (.double sy01)])) rfl rfl (hb hby d22_22)
  refine ogo st8 ?_
  show OWay p e below G T8 (mkF m 25 #[.val (.ref a0), .val (.int (0 : Int32)), .val (.ref a2), .val (.int (0 : Int32)), .val (.double v4_5), .second, .unset, .unset] [(.ref la2), (.double sy01)])
  refine ogo (fun _ z_ => XS.iloadN X8.here hx rfl (hb hby d22_25) rfl z_) ?_
  show OWay p e below G T8 (mkF m 26 #[.val (.ref a0), .val (.int (0 : Int32)), .val (.ref a2), .val (.int (0 : Int32)), .val (.double v4_5), .second, .unset, .unset] [(.int (0 : Int32)), (.ref la2), (.double sy01)])
  obtain ⟨cl_o9, Ar_o9, q_o9, S_o9, N_o9, H_o9, G_o9⟩ := id hp7
  have hin_o9 : ¬ ((0 : Int32) < 0 ∨ cl_o9.slots.size ≤ ((0 : Int32)).toNatClampNeg) := inb_of S_o9 ⟨by decide, by decide⟩
  have hat_o9 : cl_o9.slots[((0 : Int32)).toNatClampNeg]? = some (.double sy02) := H_o9.at hin_o9 rfl
  refine ogo (fun _ z_ => X8.daload hx (j := (0 : Int32)) (v := (.double sy02)) (by rw [eT8]; exact Ar_o9.1) (State.isArrayOf_alike hZ.alike Ar_o9.2.1) Ar_o9.2.2 hin_o9 hat_o9 (g := (mkF m 26 #[.val (.ref a0), .val (.int (0 : Int32)), .val (.ref a2), .val (.int (0 : Int32)), .val (.double v4_5), .second, .unset, .unset] [(.int (0 : Int32)), (.ref la2), (.double sy01)])) rfl rfl (hb hby d22_26) _ z_) ?_
  show OWay p e below G T8 (mkF m 27 #[.val (.ref a0), .val (.int (0 : Int32)), .val (.ref a2), .val (.int (0 : Int32)), .val (.double v4_5), .second, .unset, .unset] [(.double sy02), (.double sy01)])
  refine ogo (fun _ z_ => XS.dsubS X8.here hx rfl (hb hby d22_27) rfl (dy_nn (own_df hy1 hy2 hbn1 hbn2)) rfl z_) ?_
  show OWay p e below G T8 (mkF m 28 #[.val (.ref a0), .val (.int (0 : Int32)), .val (.ref a2), .val (.int (0 : Int32)), .val (.double v4_5), .second, .unset, .unset] [(.double (FP.dsub sy01 sy02))])
  suffices Jv6_10 : ∀ v6_10 : UInt64, v6_10 = (FP.dsub sy01 sy02) → OWay p e below G T8 (mkF m 28 #[.val (.ref a0), .val (.int (0 : Int32)), .val (.ref a2), .val (.int (0 : Int32)), .val (.double v4_5), .second, .unset, .unset] [(.double v6_10)]) from Jv6_10 _ rfl
  intro v6_10 hv6_10
  refine ogo (fun _ z_ => XS.dstore X8.here hx rfl (hb hby d22_28) rfl (l' := #[.val (.ref a0), .val (.int (0 : Int32)), .val (.ref a2), .val (.int (0 : Int32)), .val (.double v4_5), .second, .val (.double v6_10), .second]) rfl z_) ?_
  show OWay p e below G T8 (mkF m 30 #[.val (.ref a0), .val (.int (0 : Int32)), .val (.ref a2), .val (.int (0 : Int32)), .val (.double v4_5), .second, .val (.double v6_10), .second] [])
  have hD4 : Dy v4_5 (m1 - m2) 1098 := by rw [hv4_5]; exact own_df hx1 hx2 hbm1 hbm2
  have hD6 : Dy v6_10 (n1 - n2) 1098 := by rw [hv6_10]; exact own_df hy1 hy2 hbn1 hbn2
  refine ogo (fun _ z_ => XS.dload X8.here hx rfl (hb hby d22_30) rfl z_) ?_
  show OWay p e below G T8 (mkF m 32 #[.val (.ref a0), .val (.int (0 : Int32)), .val (.ref a2), .val (.int (0 : Int32)), .val (.double v4_5), .second, .val (.double v6_10), .second] [(.double v4_5)])
  refine ogo (fun _ z_ => XS.dload X8.here hx rfl (hb hby d22_32) rfl z_) ?_
  show OWay p e below G T8 (mkF m 34 #[.val (.ref a0), .val (.int (0 : Int32)), .val (.ref a2), .val (.int (0 : Int32)), .val (.double v4_5), .second, .val (.double v6_10), .second] [(.double v4_5), (.double v4_5)])
  refine ogo (fun _ z_ => XS.dmulS X8.here hx rfl (hb hby d22_34) rfl (dy_nn (own_ml hD4 (by omega))) rfl z_) ?_
  show OWay p e below G T8 (mkF m 35 #[.val (.ref a0), .val (.int (0 : Int32)), .val (.ref a2), .val (.int (0 : Int32)), .val (.double v4_5), .second, .val (.double v6_10), .second] [(.double (FP.dmul v4_5 v4_5))])
  refine ogo (fun _ z_ => XS.dload X8.here hx rfl (hb hby d22_35) rfl z_) ?_
  show OWay p e below G T8 (mkF m 37 #[.val (.ref a0), .val (.int (0 : Int32)), .val (.ref a2), .val (.int (0 : Int32)), .val (.double v4_5), .second, .val (.double v6_10), .second] [(.double v6_10), (.double (FP.dmul v4_5 v4_5))])
  refine ogo (fun _ z_ => XS.dload X8.here hx rfl (hb hby d22_37) rfl z_) ?_
  show OWay p e below G T8 (mkF m 39 #[.val (.ref a0), .val (.int (0 : Int32)), .val (.ref a2), .val (.int (0 : Int32)), .val (.double v4_5), .second, .val (.double v6_10), .second] [(.double v6_10), (.double v6_10), (.double (FP.dmul v4_5 v4_5))])
  refine ogo (fun _ z_ => XS.dmulS X8.here hx rfl (hb hby d22_39) rfl (dy_nn (own_ml hD6 (by omega))) rfl z_) ?_
  show OWay p e below G T8 (mkF m 40 #[.val (.ref a0), .val (.int (0 : Int32)), .val (.ref a2), .val (.int (0 : Int32)), .val (.double v4_5), .second, .val (.double v6_10), .second] [(.double (FP.dmul v6_10 v6_10)), (.double (FP.dmul v4_5 v4_5))])
  refine ogo (fun _ z_ => XS.daddS X8.here hx rfl (hb hby d22_40) rfl (dy_nn (own_sm hD4 hD6 (by omega) (by omega))) rfl z_) ?_
  show OWay p e below G T8 (mkF m 41 #[.val (.ref a0), .val (.int (0 : Int32)), .val (.ref a2), .val (.int (0 : Int32)), .val (.double v4_5), .second, .val (.double v6_10), .second] [(.double (FP.dadd (FP.dmul v4_5 v4_5) (FP.dmul v6_10 v6_10)))])
  subst hG
  refine wRet X8 hx hret hlk rfl (Or.inr (Or.inr (Or.inl ⟨rfl, rfl, _, rfl⟩))) (hb hby d22_41) (by decide) (by decide) eT8 ?_
  exact ⟨(FP.dadd (FP.dmul v4_5 v4_5) (FP.dmul v6_10 v6_10)), rfl, N0, rfl, (own_sm hD4 hD6 (by omega) (by omega))⟩
def sd01_rm : Room := { frames := 0, cells := 0, slots := 0, locals := 0 }
def sd01_Q (Z : State) (a0 : Addr) (a2 : Addr) (lo1 : Addr) (la1 : Addr) (kl1 : ClassId) (ka1 : ClassId) (lo2 : Addr) (la2 : Addr) (kl2 : ClassId) (ka2 : ClassId) (sx01 : UInt64) (sx11 : UInt64) (sy01 : UInt64) (sy11 : UInt64) (sx02 : UInt64) (sx12 : UInt64) (sy02 : UInt64) (sy12 : UInt64) (m1 : Int) (m2 : Int) (n1 : Int) (n2 : Int) (h0 : Heap) (n0 : Nat) (v : Option Value) (h : Heap) (L : List Loc) : Prop := ∃ dr : UInt64, (v = some (.double dr)) ∧ (Fr n0 L) ∧ (h = h0) ∧ (Dy dr ((m1 - m2) * (m1 - m2) + (n1 - n2) * (n1 - n2)) 1096)
theorem sd01_ef (m : MethodId) (a0 : Addr) (a2 : Addr) : entryFrame m #[(.ref a0), (.int (0 : Int32)), (.ref a2), (.int (1 : Int32))] 8 = mkF m 0 #[.val (.ref a0), .val (.int (0 : Int32)), .val (.ref a2), .val (.int (1 : Int32)), .unset, .unset, .unset, .unset] [] := by first | (simp [entryFrame, mkF, argsToLocals, Value.category]; done) | rfl
set_option maxRecDepth 65536 in
set_option maxHeartbeats 40000000 in
theorem sd01_c (l : Launch) (Z : State) (az : Array Value) (hw : ∀ d ∈ tables_1, d.before az Z = true) (ws : List Jvm.Cond) (a0 : Addr) (a2 : Addr) (lo1 : Addr) (la1 : Addr) (kl1 : ClassId) (ka1 : ClassId) (lo2 : Addr) (la2 : Addr) (kl2 : ClassId) (ka2 : ClassId) (sx01 : UInt64) (sx11 : UInt64) (sy01 : UInt64) (sy11 : UInt64) (sx02 : UInt64) (sx12 : UInt64) (sy02 : UInt64) (sy12 : UInt64) (m1 : Int) (m2 : Int) (n1 : Int) (n2 : Int) (h0 : Heap) (n0 : Nat) (Z0 : n0 ≤ h0.size) (hp0 : Fld Z h0 a0 "com/example/wakeline/wakeline/similarity/Coordinates" "longitudes" "[D" (.ref lo1)) (hp1 : Fld Z h0 a0 "com/example/wakeline/wakeline/similarity/Coordinates" "latitudes" "[D" (.ref la1)) (hp2 : Arv Z h0 lo1 kl1 .double (2 : Int32) [(.double sx01), (.double sx11)] (.double (0 : UInt64))) (hp3 : Arv Z h0 la1 ka1 .double (2 : Int32) [(.double sy01), (.double sy11)] (.double (0 : UInt64))) (hp4 : Fld Z h0 a2 "com/example/wakeline/wakeline/similarity/Coordinates" "longitudes" "[D" (.ref lo2)) (hp5 : Fld Z h0 a2 "com/example/wakeline/wakeline/similarity/Coordinates" "latitudes" "[D" (.ref la2)) (hp6 : Arv Z h0 lo2 kl2 .double (2 : Int32) [(.double sx02), (.double sx12)] (.double (0 : UInt64))) (hp7 : Arv Z h0 la2 ka2 .double (2 : Int32) [(.double sy02), (.double sy12)] (.double (0 : UInt64))) (hx1 : Dy sx01 m1 1098) (hx2 : Dy sx12 m2 1098) (hy1 : Dy sy01 n1 1098) (hy2 : Dy sy12 n2 1098) (hbm1 : -720 ≤ m1 ∧ m1 ≤ 720) (hbm2 : -720 ≤ m2 ∧ m2 ≤ 720) (hbn1 : -720 ≤ n1 ∧ n1 ≤ 720) (hbn2 : -720 ≤ n2 ∧ n2 ≤ 720) :
    OCon l (⟨"com/example/wakeline/wakeline/similarity/Coordinates", "squaredDistance", "(ILcom/example/wakeline/wakeline/similarity/Coordinates;I)D"⟩ : MethodName) prog_36_method_5_code 8 (some .double) ws sd01_rm Z #[(.ref a0), (.int (0 : Int32)), (.ref a2), (.int (1 : Int32))] h0 (sd01_Q Z a0 a2 lo1 la1 kl1 ka1 lo2 la2 kl2 ka2 sx01 sx11 sy01 sy11 sx02 sx12 sy02 sy12 m1 m2 n1 n2 h0 n0) := by
  refine ocon (plainFor_of_name pn_com_example_wakeline_wakeline_similarity_Coordinates) ?_
  intro p e s m below meth c s₁ hx hby hml hown hnm hret hlk hZ X0 eh0
  have N0 := Fr.nil n0
  have K0 := Keep.refl h0 []
  refine ogoE (sd01_ef m a0 a2) ?_
  generalize hG : (OEnd s below (sd01_Q Z a0 a2 lo1 la1 kl1 ka1 lo2 la2 kl2 ka2 sx01 sx11 sy01 sy11 sx02 sx12 sy02 sy12 m1 m2 n1 n2 h0 n0) sd01_rm.cells sd01_rm.slots) = G
  show OWay p e below G s₁ (mkF m 0 #[.val (.ref a0), .val (.int (0 : Int32)), .val (.ref a2), .val (.int (1 : Int32)), .unset, .unset, .unset, .unset] [])
  refine ogo (fun _ z_ => XS.aloadN X0.here hx rfl (hb hby d22_0) rfl rfl z_) ?_
  show OWay p e below G s₁ (mkF m 1 #[.val (.ref a0), .val (.int (0 : Int32)), .val (.ref a2), .val (.int (1 : Int32)), .unset, .unset, .unset, .unset] [(.ref a0)])
  obtain ⟨T1, X1, eT1, st1⟩ := getF X0 hx hZ hown (host := "") (Or.inl (hw _ (List.mem_of_getElem? (i := 105) rfl))) Via.refl eh0 hp0 (g := (mkF m 1 #[.val (.ref a0), .val (.int (0 : Int32)), .val (.ref a2), .val (.int (1 : Int32)), .unset, .unset, .unset, .unset] [(.ref a0)])) rfl rfl (hb hby d22_1)
  refine ogo st1 ?_
  show OWay p e below G T1 (mkF m 4 #[.val (.ref a0), .val (.int (0 : Int32)), .val (.ref a2), .val (.int (1 : Int32)), .unset, .unset, .unset, .unset] [(.ref lo1)])
  refine ogo (fun _ z_ => XS.iloadN X1.here hx rfl (hb hby d22_4) rfl z_) ?_
  show OWay p e below G T1 (mkF m 5 #[.val (.ref a0), .val (.int (0 : Int32)), .val (.ref a2), .val (.int (1 : Int32)), .unset, .unset, .unset, .unset] [(.int (0 : Int32)), (.ref lo1)])
  obtain ⟨cl_o2, Ar_o2, q_o2, S_o2, N_o2, H_o2, G_o2⟩ := id hp2
  have hin_o2 : ¬ ((0 : Int32) < 0 ∨ cl_o2.slots.size ≤ ((0 : Int32)).toNatClampNeg) := inb_of S_o2 ⟨by decide, by decide⟩
  have hat_o2 : cl_o2.slots[((0 : Int32)).toNatClampNeg]? = some (.double sx01) := H_o2.at hin_o2 rfl
  refine ogo (fun _ z_ => X1.daload hx (j := (0 : Int32)) (v := (.double sx01)) (by rw [eT1]; exact Ar_o2.1) (State.isArrayOf_alike hZ.alike Ar_o2.2.1) Ar_o2.2.2 hin_o2 hat_o2 (g := (mkF m 5 #[.val (.ref a0), .val (.int (0 : Int32)), .val (.ref a2), .val (.int (1 : Int32)), .unset, .unset, .unset, .unset] [(.int (0 : Int32)), (.ref lo1)])) rfl rfl (hb hby d22_5) _ z_) ?_
  show OWay p e below G T1 (mkF m 6 #[.val (.ref a0), .val (.int (0 : Int32)), .val (.ref a2), .val (.int (1 : Int32)), .unset, .unset, .unset, .unset] [(.double sx01)])
  refine ogo (fun _ z_ => XS.aloadN X1.here hx rfl (hb hby d22_6) rfl rfl z_) ?_
  show OWay p e below G T1 (mkF m 7 #[.val (.ref a0), .val (.int (0 : Int32)), .val (.ref a2), .val (.int (1 : Int32)), .unset, .unset, .unset, .unset] [(.ref a2), (.double sx01)])
  obtain ⟨T3, X3, eT3, st3⟩ := getF X1 hx hZ hown (host := "") (Or.inl (hw _ (List.mem_of_getElem? (i := 105) rfl))) Via.refl eT1 hp4 (g := (mkF m 7 #[.val (.ref a0), .val (.int (0 : Int32)), .val (.ref a2), .val (.int (1 : Int32)), .unset, .unset, .unset, .unset] [(.ref a2), (.double sx01)])) rfl rfl (hb hby d22_7)
  refine ogo st3 ?_
  show OWay p e below G T3 (mkF m 10 #[.val (.ref a0), .val (.int (0 : Int32)), .val (.ref a2), .val (.int (1 : Int32)), .unset, .unset, .unset, .unset] [(.ref lo2), (.double sx01)])
  refine ogo (fun _ z_ => XS.iloadN X3.here hx rfl (hb hby d22_10) rfl z_) ?_
  show OWay p e below G T3 (mkF m 11 #[.val (.ref a0), .val (.int (0 : Int32)), .val (.ref a2), .val (.int (1 : Int32)), .unset, .unset, .unset, .unset] [(.int (1 : Int32)), (.ref lo2), (.double sx01)])
  obtain ⟨cl_o4, Ar_o4, q_o4, S_o4, N_o4, H_o4, G_o4⟩ := id hp6
  have hin_o4 : ¬ ((1 : Int32) < 0 ∨ cl_o4.slots.size ≤ ((1 : Int32)).toNatClampNeg) := inb_of S_o4 ⟨by decide, by decide⟩
  have hat_o4 : cl_o4.slots[((1 : Int32)).toNatClampNeg]? = some (.double sx12) := H_o4.at hin_o4 rfl
  refine ogo (fun _ z_ => X3.daload hx (j := (1 : Int32)) (v := (.double sx12)) (by rw [eT3]; exact Ar_o4.1) (State.isArrayOf_alike hZ.alike Ar_o4.2.1) Ar_o4.2.2 hin_o4 hat_o4 (g := (mkF m 11 #[.val (.ref a0), .val (.int (0 : Int32)), .val (.ref a2), .val (.int (1 : Int32)), .unset, .unset, .unset, .unset] [(.int (1 : Int32)), (.ref lo2), (.double sx01)])) rfl rfl (hb hby d22_11) _ z_) ?_
  show OWay p e below G T3 (mkF m 12 #[.val (.ref a0), .val (.int (0 : Int32)), .val (.ref a2), .val (.int (1 : Int32)), .unset, .unset, .unset, .unset] [(.double sx12), (.double sx01)])
  refine ogo (fun _ z_ => XS.dsubS X3.here hx rfl (hb hby d22_12) rfl (dy_nn (own_df hx1 hx2 hbm1 hbm2)) rfl z_) ?_
  show OWay p e below G T3 (mkF m 13 #[.val (.ref a0), .val (.int (0 : Int32)), .val (.ref a2), .val (.int (1 : Int32)), .unset, .unset, .unset, .unset] [(.double (FP.dsub sx01 sx12))])
  suffices Jv4_5 : ∀ v4_5 : UInt64, v4_5 = (FP.dsub sx01 sx12) → OWay p e below G T3 (mkF m 13 #[.val (.ref a0), .val (.int (0 : Int32)), .val (.ref a2), .val (.int (1 : Int32)), .unset, .unset, .unset, .unset] [(.double v4_5)]) from Jv4_5 _ rfl
  intro v4_5 hv4_5
  refine ogo (fun _ z_ => XS.dstore X3.here hx rfl (hb hby d22_13) rfl (l' := #[.val (.ref a0), .val (.int (0 : Int32)), .val (.ref a2), .val (.int (1 : Int32)), .val (.double v4_5), .second, .unset, .unset]) rfl z_) ?_
  show OWay p e below G T3 (mkF m 15 #[.val (.ref a0), .val (.int (0 : Int32)), .val (.ref a2), .val (.int (1 : Int32)), .val (.double v4_5), .second, .unset, .unset] [])
  refine ogo (fun _ z_ => XS.aloadN X3.here hx rfl (hb hby d22_15) rfl rfl z_) ?_
  show OWay p e below G T3 (mkF m 16 #[.val (.ref a0), .val (.int (0 : Int32)), .val (.ref a2), .val (.int (1 : Int32)), .val (.double v4_5), .second, .unset, .unset] [(.ref a0)])
  obtain ⟨T6, X6, eT6, st6⟩ := getF X3 hx hZ hown (host := "") (Or.inl (hw _ (List.mem_of_getElem? (i := 107) rfl))) Via.refl eT3 hp1 (g := (mkF m 16 #[.val (.ref a0), .val (.int (0 : Int32)), .val (.ref a2), .val (.int (1 : Int32)), .val (.double v4_5), .second, .unset, .unset] [(.ref a0)])) rfl rfl (hb hby d22_16)
  refine ogo st6 ?_
  show OWay p e below G T6 (mkF m 19 #[.val (.ref a0), .val (.int (0 : Int32)), .val (.ref a2), .val (.int (1 : Int32)), .val (.double v4_5), .second, .unset, .unset] [(.ref la1)])
  refine ogo (fun _ z_ => XS.iloadN X6.here hx rfl (hb hby d22_19) rfl z_) ?_
  show OWay p e below G T6 (mkF m 20 #[.val (.ref a0), .val (.int (0 : Int32)), .val (.ref a2), .val (.int (1 : Int32)), .val (.double v4_5), .second, .unset, .unset] [(.int (0 : Int32)), (.ref la1)])
  obtain ⟨cl_o7, Ar_o7, q_o7, S_o7, N_o7, H_o7, G_o7⟩ := id hp3
  have hin_o7 : ¬ ((0 : Int32) < 0 ∨ cl_o7.slots.size ≤ ((0 : Int32)).toNatClampNeg) := inb_of S_o7 ⟨by decide, by decide⟩
  have hat_o7 : cl_o7.slots[((0 : Int32)).toNatClampNeg]? = some (.double sy01) := H_o7.at hin_o7 rfl
  refine ogo (fun _ z_ => X6.daload hx (j := (0 : Int32)) (v := (.double sy01)) (by rw [eT6]; exact Ar_o7.1) (State.isArrayOf_alike hZ.alike Ar_o7.2.1) Ar_o7.2.2 hin_o7 hat_o7 (g := (mkF m 20 #[.val (.ref a0), .val (.int (0 : Int32)), .val (.ref a2), .val (.int (1 : Int32)), .val (.double v4_5), .second, .unset, .unset] [(.int (0 : Int32)), (.ref la1)])) rfl rfl (hb hby d22_20) _ z_) ?_
  show OWay p e below G T6 (mkF m 21 #[.val (.ref a0), .val (.int (0 : Int32)), .val (.ref a2), .val (.int (1 : Int32)), .val (.double v4_5), .second, .unset, .unset] [(.double sy01)])
  refine ogo (fun _ z_ => XS.aloadN X6.here hx rfl (hb hby d22_21) rfl rfl z_) ?_
  show OWay p e below G T6 (mkF m 22 #[.val (.ref a0), .val (.int (0 : Int32)), .val (.ref a2), .val (.int (1 : Int32)), .val (.double v4_5), .second, .unset, .unset] [(.ref a2), (.double sy01)])
  obtain ⟨T8, X8, eT8, st8⟩ := getF X6 hx hZ hown (host := "") (Or.inl (hw _ (List.mem_of_getElem? (i := 107) rfl))) Via.refl eT6 hp5 (g := (mkF m 22 #[.val (.ref a0), .val (.int (0 : Int32)), .val (.ref a2), .val (.int (1 : Int32)), .val (.double v4_5), .second, .unset, .unset] [(.ref a2), (.double sy01)])) rfl rfl (hb hby d22_22)
  refine ogo st8 ?_
  show OWay p e below G T8 (mkF m 25 #[.val (.ref a0), .val (.int (0 : Int32)), .val (.ref a2), .val (.int (1 : Int32)), .val (.double v4_5), .second, .unset, .unset] [(.ref la2), (.double sy01)])
  refine ogo (fun _ z_ => XS.iloadN X8.here hx rfl (hb hby d22_25) rfl z_) ?_
  show OWay p e below G T8 (mkF m 26 #[.val (.ref a0), .val (.int (0 : Int32)), .val (.ref a2), .val (.int (1 : Int32)), .val (.double v4_5), .second, .unset, .unset] [(.int (1 : Int32)), (.ref la2), (.double sy01)])
  obtain ⟨cl_o9, Ar_o9, q_o9, S_o9, N_o9, H_o9, G_o9⟩ := id hp7
  have hin_o9 : ¬ ((1 : Int32) < 0 ∨ cl_o9.slots.size ≤ ((1 : Int32)).toNatClampNeg) := inb_of S_o9 ⟨by decide, by decide⟩
  have hat_o9 : cl_o9.slots[((1 : Int32)).toNatClampNeg]? = some (.double sy12) := H_o9.at hin_o9 rfl
  refine ogo (fun _ z_ => X8.daload hx (j := (1 : Int32)) (v := (.double sy12)) (by rw [eT8]; exact Ar_o9.1) (State.isArrayOf_alike hZ.alike Ar_o9.2.1) Ar_o9.2.2 hin_o9 hat_o9 (g := (mkF m 26 #[.val (.ref a0), .val (.int (0 : Int32)), .val (.ref a2), .val (.int (1 : Int32)), .val (.double v4_5), .second, .unset, .unset] [(.int (1 : Int32)), (.ref la2), (.double sy01)])) rfl rfl (hb hby d22_26) _ z_) ?_
  show OWay p e below G T8 (mkF m 27 #[.val (.ref a0), .val (.int (0 : Int32)), .val (.ref a2), .val (.int (1 : Int32)), .val (.double v4_5), .second, .unset, .unset] [(.double sy12), (.double sy01)])
  refine ogo (fun _ z_ => XS.dsubS X8.here hx rfl (hb hby d22_27) rfl (dy_nn (own_df hy1 hy2 hbn1 hbn2)) rfl z_) ?_
  show OWay p e below G T8 (mkF m 28 #[.val (.ref a0), .val (.int (0 : Int32)), .val (.ref a2), .val (.int (1 : Int32)), .val (.double v4_5), .second, .unset, .unset] [(.double (FP.dsub sy01 sy12))])
  suffices Jv6_10 : ∀ v6_10 : UInt64, v6_10 = (FP.dsub sy01 sy12) → OWay p e below G T8 (mkF m 28 #[.val (.ref a0), .val (.int (0 : Int32)), .val (.ref a2), .val (.int (1 : Int32)), .val (.double v4_5), .second, .unset, .unset] [(.double v6_10)]) from Jv6_10 _ rfl
  intro v6_10 hv6_10
  refine ogo (fun _ z_ => XS.dstore X8.here hx rfl (hb hby d22_28) rfl (l' := #[.val (.ref a0), .val (.int (0 : Int32)), .val (.ref a2), .val (.int (1 : Int32)), .val (.double v4_5), .second, .val (.double v6_10), .second]) rfl z_) ?_
  show OWay p e below G T8 (mkF m 30 #[.val (.ref a0), .val (.int (0 : Int32)), .val (.ref a2), .val (.int (1 : Int32)), .val (.double v4_5), .second, .val (.double v6_10), .second] [])
  have hD4 : Dy v4_5 (m1 - m2) 1098 := by rw [hv4_5]; exact own_df hx1 hx2 hbm1 hbm2
  have hD6 : Dy v6_10 (n1 - n2) 1098 := by rw [hv6_10]; exact own_df hy1 hy2 hbn1 hbn2
  refine ogo (fun _ z_ => XS.dload X8.here hx rfl (hb hby d22_30) rfl z_) ?_
  show OWay p e below G T8 (mkF m 32 #[.val (.ref a0), .val (.int (0 : Int32)), .val (.ref a2), .val (.int (1 : Int32)), .val (.double v4_5), .second, .val (.double v6_10), .second] [(.double v4_5)])
  refine ogo (fun _ z_ => XS.dload X8.here hx rfl (hb hby d22_32) rfl z_) ?_
  show OWay p e below G T8 (mkF m 34 #[.val (.ref a0), .val (.int (0 : Int32)), .val (.ref a2), .val (.int (1 : Int32)), .val (.double v4_5), .second, .val (.double v6_10), .second] [(.double v4_5), (.double v4_5)])
  refine ogo (fun _ z_ => XS.dmulS X8.here hx rfl (hb hby d22_34) rfl (dy_nn (own_ml hD4 (by omega))) rfl z_) ?_
  show OWay p e below G T8 (mkF m 35 #[.val (.ref a0), .val (.int (0 : Int32)), .val (.ref a2), .val (.int (1 : Int32)), .val (.double v4_5), .second, .val (.double v6_10), .second] [(.double (FP.dmul v4_5 v4_5))])
  refine ogo (fun _ z_ => XS.dload X8.here hx rfl (hb hby d22_35) rfl z_) ?_
  show OWay p e below G T8 (mkF m 37 #[.val (.ref a0), .val (.int (0 : Int32)), .val (.ref a2), .val (.int (1 : Int32)), .val (.double v4_5), .second, .val (.double v6_10), .second] [(.double v6_10), (.double (FP.dmul v4_5 v4_5))])
  refine ogo (fun _ z_ => XS.dload X8.here hx rfl (hb hby d22_37) rfl z_) ?_
  show OWay p e below G T8 (mkF m 39 #[.val (.ref a0), .val (.int (0 : Int32)), .val (.ref a2), .val (.int (1 : Int32)), .val (.double v4_5), .second, .val (.double v6_10), .second] [(.double v6_10), (.double v6_10), (.double (FP.dmul v4_5 v4_5))])
  refine ogo (fun _ z_ => XS.dmulS X8.here hx rfl (hb hby d22_39) rfl (dy_nn (own_ml hD6 (by omega))) rfl z_) ?_
  show OWay p e below G T8 (mkF m 40 #[.val (.ref a0), .val (.int (0 : Int32)), .val (.ref a2), .val (.int (1 : Int32)), .val (.double v4_5), .second, .val (.double v6_10), .second] [(.double (FP.dmul v6_10 v6_10)), (.double (FP.dmul v4_5 v4_5))])
  refine ogo (fun _ z_ => XS.daddS X8.here hx rfl (hb hby d22_40) rfl (dy_nn (own_sm hD4 hD6 (by omega) (by omega))) rfl z_) ?_
  show OWay p e below G T8 (mkF m 41 #[.val (.ref a0), .val (.int (0 : Int32)), .val (.ref a2), .val (.int (1 : Int32)), .val (.double v4_5), .second, .val (.double v6_10), .second] [(.double (FP.dadd (FP.dmul v4_5 v4_5) (FP.dmul v6_10 v6_10)))])
  subst hG
  refine wRet X8 hx hret hlk rfl (Or.inr (Or.inr (Or.inl ⟨rfl, rfl, _, rfl⟩))) (hb hby d22_41) (by decide) (by decide) eT8 ?_
  exact ⟨(FP.dadd (FP.dmul v4_5 v4_5) (FP.dmul v6_10 v6_10)), rfl, N0, rfl, (own_sm hD4 hD6 (by omega) (by omega))⟩
def sd10_rm : Room := { frames := 0, cells := 0, slots := 0, locals := 0 }
def sd10_Q (Z : State) (a0 : Addr) (a2 : Addr) (lo1 : Addr) (la1 : Addr) (kl1 : ClassId) (ka1 : ClassId) (lo2 : Addr) (la2 : Addr) (kl2 : ClassId) (ka2 : ClassId) (sx01 : UInt64) (sx11 : UInt64) (sy01 : UInt64) (sy11 : UInt64) (sx02 : UInt64) (sx12 : UInt64) (sy02 : UInt64) (sy12 : UInt64) (m1 : Int) (m2 : Int) (n1 : Int) (n2 : Int) (h0 : Heap) (n0 : Nat) (v : Option Value) (h : Heap) (L : List Loc) : Prop := ∃ dr : UInt64, (v = some (.double dr)) ∧ (Fr n0 L) ∧ (h = h0) ∧ (Dy dr ((m1 - m2) * (m1 - m2) + (n1 - n2) * (n1 - n2)) 1096)
theorem sd10_ef (m : MethodId) (a0 : Addr) (a2 : Addr) : entryFrame m #[(.ref a0), (.int (1 : Int32)), (.ref a2), (.int (0 : Int32))] 8 = mkF m 0 #[.val (.ref a0), .val (.int (1 : Int32)), .val (.ref a2), .val (.int (0 : Int32)), .unset, .unset, .unset, .unset] [] := by first | (simp [entryFrame, mkF, argsToLocals, Value.category]; done) | rfl
set_option maxRecDepth 65536 in
set_option maxHeartbeats 40000000 in
theorem sd10_c (l : Launch) (Z : State) (az : Array Value) (hw : ∀ d ∈ tables_1, d.before az Z = true) (ws : List Jvm.Cond) (a0 : Addr) (a2 : Addr) (lo1 : Addr) (la1 : Addr) (kl1 : ClassId) (ka1 : ClassId) (lo2 : Addr) (la2 : Addr) (kl2 : ClassId) (ka2 : ClassId) (sx01 : UInt64) (sx11 : UInt64) (sy01 : UInt64) (sy11 : UInt64) (sx02 : UInt64) (sx12 : UInt64) (sy02 : UInt64) (sy12 : UInt64) (m1 : Int) (m2 : Int) (n1 : Int) (n2 : Int) (h0 : Heap) (n0 : Nat) (Z0 : n0 ≤ h0.size) (hp0 : Fld Z h0 a0 "com/example/wakeline/wakeline/similarity/Coordinates" "longitudes" "[D" (.ref lo1)) (hp1 : Fld Z h0 a0 "com/example/wakeline/wakeline/similarity/Coordinates" "latitudes" "[D" (.ref la1)) (hp2 : Arv Z h0 lo1 kl1 .double (2 : Int32) [(.double sx01), (.double sx11)] (.double (0 : UInt64))) (hp3 : Arv Z h0 la1 ka1 .double (2 : Int32) [(.double sy01), (.double sy11)] (.double (0 : UInt64))) (hp4 : Fld Z h0 a2 "com/example/wakeline/wakeline/similarity/Coordinates" "longitudes" "[D" (.ref lo2)) (hp5 : Fld Z h0 a2 "com/example/wakeline/wakeline/similarity/Coordinates" "latitudes" "[D" (.ref la2)) (hp6 : Arv Z h0 lo2 kl2 .double (2 : Int32) [(.double sx02), (.double sx12)] (.double (0 : UInt64))) (hp7 : Arv Z h0 la2 ka2 .double (2 : Int32) [(.double sy02), (.double sy12)] (.double (0 : UInt64))) (hx1 : Dy sx11 m1 1098) (hx2 : Dy sx02 m2 1098) (hy1 : Dy sy11 n1 1098) (hy2 : Dy sy02 n2 1098) (hbm1 : -720 ≤ m1 ∧ m1 ≤ 720) (hbm2 : -720 ≤ m2 ∧ m2 ≤ 720) (hbn1 : -720 ≤ n1 ∧ n1 ≤ 720) (hbn2 : -720 ≤ n2 ∧ n2 ≤ 720) :
    OCon l (⟨"com/example/wakeline/wakeline/similarity/Coordinates", "squaredDistance", "(ILcom/example/wakeline/wakeline/similarity/Coordinates;I)D"⟩ : MethodName) prog_36_method_5_code 8 (some .double) ws sd10_rm Z #[(.ref a0), (.int (1 : Int32)), (.ref a2), (.int (0 : Int32))] h0 (sd10_Q Z a0 a2 lo1 la1 kl1 ka1 lo2 la2 kl2 ka2 sx01 sx11 sy01 sy11 sx02 sx12 sy02 sy12 m1 m2 n1 n2 h0 n0) := by
  refine ocon (plainFor_of_name pn_com_example_wakeline_wakeline_similarity_Coordinates) ?_
  intro p e s m below meth c s₁ hx hby hml hown hnm hret hlk hZ X0 eh0
  have N0 := Fr.nil n0
  have K0 := Keep.refl h0 []
  refine ogoE (sd10_ef m a0 a2) ?_
  generalize hG : (OEnd s below (sd10_Q Z a0 a2 lo1 la1 kl1 ka1 lo2 la2 kl2 ka2 sx01 sx11 sy01 sy11 sx02 sx12 sy02 sy12 m1 m2 n1 n2 h0 n0) sd10_rm.cells sd10_rm.slots) = G
  show OWay p e below G s₁ (mkF m 0 #[.val (.ref a0), .val (.int (1 : Int32)), .val (.ref a2), .val (.int (0 : Int32)), .unset, .unset, .unset, .unset] [])
  refine ogo (fun _ z_ => XS.aloadN X0.here hx rfl (hb hby d22_0) rfl rfl z_) ?_
  show OWay p e below G s₁ (mkF m 1 #[.val (.ref a0), .val (.int (1 : Int32)), .val (.ref a2), .val (.int (0 : Int32)), .unset, .unset, .unset, .unset] [(.ref a0)])
  obtain ⟨T1, X1, eT1, st1⟩ := getF X0 hx hZ hown (host := "") (Or.inl (hw _ (List.mem_of_getElem? (i := 105) rfl))) Via.refl eh0 hp0 (g := (mkF m 1 #[.val (.ref a0), .val (.int (1 : Int32)), .val (.ref a2), .val (.int (0 : Int32)), .unset, .unset, .unset, .unset] [(.ref a0)])) rfl rfl (hb hby d22_1)
  refine ogo st1 ?_
  show OWay p e below G T1 (mkF m 4 #[.val (.ref a0), .val (.int (1 : Int32)), .val (.ref a2), .val (.int (0 : Int32)), .unset, .unset, .unset, .unset] [(.ref lo1)])
  refine ogo (fun _ z_ => XS.iloadN X1.here hx rfl (hb hby d22_4) rfl z_) ?_
  show OWay p e below G T1 (mkF m 5 #[.val (.ref a0), .val (.int (1 : Int32)), .val (.ref a2), .val (.int (0 : Int32)), .unset, .unset, .unset, .unset] [(.int (1 : Int32)), (.ref lo1)])
  obtain ⟨cl_o2, Ar_o2, q_o2, S_o2, N_o2, H_o2, G_o2⟩ := id hp2
  have hin_o2 : ¬ ((1 : Int32) < 0 ∨ cl_o2.slots.size ≤ ((1 : Int32)).toNatClampNeg) := inb_of S_o2 ⟨by decide, by decide⟩
  have hat_o2 : cl_o2.slots[((1 : Int32)).toNatClampNeg]? = some (.double sx11) := H_o2.at hin_o2 rfl
  refine ogo (fun _ z_ => X1.daload hx (j := (1 : Int32)) (v := (.double sx11)) (by rw [eT1]; exact Ar_o2.1) (State.isArrayOf_alike hZ.alike Ar_o2.2.1) Ar_o2.2.2 hin_o2 hat_o2 (g := (mkF m 5 #[.val (.ref a0), .val (.int (1 : Int32)), .val (.ref a2), .val (.int (0 : Int32)), .unset, .unset, .unset, .unset] [(.int (1 : Int32)), (.ref lo1)])) rfl rfl (hb hby d22_5) _ z_) ?_
  show OWay p e below G T1 (mkF m 6 #[.val (.ref a0), .val (.int (1 : Int32)), .val (.ref a2), .val (.int (0 : Int32)), .unset, .unset, .unset, .unset] [(.double sx11)])
  refine ogo (fun _ z_ => XS.aloadN X1.here hx rfl (hb hby d22_6) rfl rfl z_) ?_
  show OWay p e below G T1 (mkF m 7 #[.val (.ref a0), .val (.int (1 : Int32)), .val (.ref a2), .val (.int (0 : Int32)), .unset, .unset, .unset, .unset] [(.ref a2), (.double sx11)])
  obtain ⟨T3, X3, eT3, st3⟩ := getF X1 hx hZ hown (host := "") (Or.inl (hw _ (List.mem_of_getElem? (i := 105) rfl))) Via.refl eT1 hp4 (g := (mkF m 7 #[.val (.ref a0), .val (.int (1 : Int32)), .val (.ref a2), .val (.int (0 : Int32)), .unset, .unset, .unset, .unset] [(.ref a2), (.double sx11)])) rfl rfl (hb hby d22_7)
  refine ogo st3 ?_
  show OWay p e below G T3 (mkF m 10 #[.val (.ref a0), .val (.int (1 : Int32)), .val (.ref a2), .val (.int (0 : Int32)), .unset, .unset, .unset, .unset] [(.ref lo2), (.double sx11)])
  refine ogo (fun _ z_ => XS.iloadN X3.here hx rfl (hb hby d22_10) rfl z_) ?_
  show OWay p e below G T3 (mkF m 11 #[.val (.ref a0), .val (.int (1 : Int32)), .val (.ref a2), .val (.int (0 : Int32)), .unset, .unset, .unset, .unset] [(.int (0 : Int32)), (.ref lo2), (.double sx11)])
  obtain ⟨cl_o4, Ar_o4, q_o4, S_o4, N_o4, H_o4, G_o4⟩ := id hp6
  have hin_o4 : ¬ ((0 : Int32) < 0 ∨ cl_o4.slots.size ≤ ((0 : Int32)).toNatClampNeg) := inb_of S_o4 ⟨by decide, by decide⟩
  have hat_o4 : cl_o4.slots[((0 : Int32)).toNatClampNeg]? = some (.double sx02) := H_o4.at hin_o4 rfl
  refine ogo (fun _ z_ => X3.daload hx (j := (0 : Int32)) (v := (.double sx02)) (by rw [eT3]; exact Ar_o4.1) (State.isArrayOf_alike hZ.alike Ar_o4.2.1) Ar_o4.2.2 hin_o4 hat_o4 (g := (mkF m 11 #[.val (.ref a0), .val (.int (1 : Int32)), .val (.ref a2), .val (.int (0 : Int32)), .unset, .unset, .unset, .unset] [(.int (0 : Int32)), (.ref lo2), (.double sx11)])) rfl rfl (hb hby d22_11) _ z_) ?_
  show OWay p e below G T3 (mkF m 12 #[.val (.ref a0), .val (.int (1 : Int32)), .val (.ref a2), .val (.int (0 : Int32)), .unset, .unset, .unset, .unset] [(.double sx02), (.double sx11)])
  refine ogo (fun _ z_ => XS.dsubS X3.here hx rfl (hb hby d22_12) rfl (dy_nn (own_df hx1 hx2 hbm1 hbm2)) rfl z_) ?_
  show OWay p e below G T3 (mkF m 13 #[.val (.ref a0), .val (.int (1 : Int32)), .val (.ref a2), .val (.int (0 : Int32)), .unset, .unset, .unset, .unset] [(.double (FP.dsub sx11 sx02))])
  suffices Jv4_5 : ∀ v4_5 : UInt64, v4_5 = (FP.dsub sx11 sx02) → OWay p e below G T3 (mkF m 13 #[.val (.ref a0), .val (.int (1 : Int32)), .val (.ref a2), .val (.int (0 : Int32)), .unset, .unset, .unset, .unset] [(.double v4_5)]) from Jv4_5 _ rfl
  intro v4_5 hv4_5
  refine ogo (fun _ z_ => XS.dstore X3.here hx rfl (hb hby d22_13) rfl (l' := #[.val (.ref a0), .val (.int (1 : Int32)), .val (.ref a2), .val (.int (0 : Int32)), .val (.double v4_5), .second, .unset, .unset]) rfl z_) ?_
  show OWay p e below G T3 (mkF m 15 #[.val (.ref a0), .val (.int (1 : Int32)), .val (.ref a2), .val (.int (0 : Int32)), .val (.double v4_5), .second, .unset, .unset] [])
  refine ogo (fun _ z_ => XS.aloadN X3.here hx rfl (hb hby d22_15) rfl rfl z_) ?_
  show OWay p e below G T3 (mkF m 16 #[.val (.ref a0), .val (.int (1 : Int32)), .val (.ref a2), .val (.int (0 : Int32)), .val (.double v4_5), .second, .unset, .unset] [(.ref a0)])
  obtain ⟨T6, X6, eT6, st6⟩ := getF X3 hx hZ hown (host := "") (Or.inl (hw _ (List.mem_of_getElem? (i := 107) rfl))) Via.refl eT3 hp1 (g := (mkF m 16 #[.val (.ref a0), .val (.int (1 : Int32)), .val (.ref a2), .val (.int (0 : Int32)), .val (.double v4_5), .second, .unset, .unset] [(.ref a0)])) rfl rfl (hb hby d22_16)
  refine ogo st6 ?_
  show OWay p e below G T6 (mkF m 19 #[.val (.ref a0), .val (.int (1 : Int32)), .val (.ref a2), .val (.int (0 : Int32)), .val (.double v4_5), .second, .unset, .unset] [(.ref la1)])
  refine ogo (fun _ z_ => XS.iloadN X6.here hx rfl (hb hby d22_19) rfl z_) ?_
  show OWay p e below G T6 (mkF m 20 #[.val (.ref a0), .val (.int (1 : Int32)), .val (.ref a2), .val (.int (0 : Int32)), .val (.double v4_5), .second, .unset, .unset] [(.int (1 : Int32)), (.ref la1)])
  obtain ⟨cl_o7, Ar_o7, q_o7, S_o7, N_o7, H_o7, G_o7⟩ := id hp3
  have hin_o7 : ¬ ((1 : Int32) < 0 ∨ cl_o7.slots.size ≤ ((1 : Int32)).toNatClampNeg) := inb_of S_o7 ⟨by decide, by decide⟩
  have hat_o7 : cl_o7.slots[((1 : Int32)).toNatClampNeg]? = some (.double sy11) := H_o7.at hin_o7 rfl
  refine ogo (fun _ z_ => X6.daload hx (j := (1 : Int32)) (v := (.double sy11)) (by rw [eT6]; exact Ar_o7.1) (State.isArrayOf_alike hZ.alike Ar_o7.2.1) Ar_o7.2.2 hin_o7 hat_o7 (g := (mkF m 20 #[.val (.ref a0), .val (.int (1 : Int32)), .val (.ref a2), .val (.int (0 : Int32)), .val (.double v4_5), .second, .unset, .unset] [(.int (1 : Int32)), (.ref la1)])) rfl rfl (hb hby d22_20) _ z_) ?_
  show OWay p e below G T6 (mkF m 21 #[.val (.ref a0), .val (.int (1 : Int32)), .val (.ref a2), .val (.int (0 : Int32)), .val (.double v4_5), .second, .unset, .unset] [(.double sy11)])
  refine ogo (fun _ z_ => XS.aloadN X6.here hx rfl (hb hby d22_21) rfl rfl z_) ?_
  show OWay p e below G T6 (mkF m 22 #[.val (.ref a0), .val (.int (1 : Int32)), .val (.ref a2), .val (.int (0 : Int32)), .val (.double v4_5), .second, .unset, .unset] [(.ref a2), (.double sy11)])
  obtain ⟨T8, X8, eT8, st8⟩ := getF X6 hx hZ hown (host := "") (Or.inl (hw _ (List.mem_of_getElem? (i := 107) rfl))) Via.refl eT6 hp5 (g := (mkF m 22 #[.val (.ref a0), .val (.int (1 : Int32)), .val (.ref a2), .val (.int (0 : Int32)), .val (.double v4_5), .second, .unset, .unset] [(.ref a2), (.double sy11)])) rfl rfl (hb hby d22_22)
  refine ogo st8 ?_
  show OWay p e below G T8 (mkF m 25 #[.val (.ref a0), .val (.int (1 : Int32)), .val (.ref a2), .val (.int (0 : Int32)), .val (.double v4_5), .second, .unset, .unset] [(.ref la2), (.double sy11)])
  refine ogo (fun _ z_ => XS.iloadN X8.here hx rfl (hb hby d22_25) rfl z_) ?_
  show OWay p e below G T8 (mkF m 26 #[.val (.ref a0), .val (.int (1 : Int32)), .val (.ref a2), .val (.int (0 : Int32)), .val (.double v4_5), .second, .unset, .unset] [(.int (0 : Int32)), (.ref la2), (.double sy11)])
  obtain ⟨cl_o9, Ar_o9, q_o9, S_o9, N_o9, H_o9, G_o9⟩ := id hp7
  have hin_o9 : ¬ ((0 : Int32) < 0 ∨ cl_o9.slots.size ≤ ((0 : Int32)).toNatClampNeg) := inb_of S_o9 ⟨by decide, by decide⟩
  have hat_o9 : cl_o9.slots[((0 : Int32)).toNatClampNeg]? = some (.double sy02) := H_o9.at hin_o9 rfl
  refine ogo (fun _ z_ => X8.daload hx (j := (0 : Int32)) (v := (.double sy02)) (by rw [eT8]; exact Ar_o9.1) (State.isArrayOf_alike hZ.alike Ar_o9.2.1) Ar_o9.2.2 hin_o9 hat_o9 (g := (mkF m 26 #[.val (.ref a0), .val (.int (1 : Int32)), .val (.ref a2), .val (.int (0 : Int32)), .val (.double v4_5), .second, .unset, .unset] [(.int (0 : Int32)), (.ref la2), (.double sy11)])) rfl rfl (hb hby d22_26) _ z_) ?_
  show OWay p e below G T8 (mkF m 27 #[.val (.ref a0), .val (.int (1 : Int32)), .val (.ref a2), .val (.int (0 : Int32)), .val (.double v4_5), .second, .unset, .unset] [(.double sy02), (.double sy11)])
  refine ogo (fun _ z_ => XS.dsubS X8.here hx rfl (hb hby d22_27) rfl (dy_nn (own_df hy1 hy2 hbn1 hbn2)) rfl z_) ?_
  show OWay p e below G T8 (mkF m 28 #[.val (.ref a0), .val (.int (1 : Int32)), .val (.ref a2), .val (.int (0 : Int32)), .val (.double v4_5), .second, .unset, .unset] [(.double (FP.dsub sy11 sy02))])
  suffices Jv6_10 : ∀ v6_10 : UInt64, v6_10 = (FP.dsub sy11 sy02) → OWay p e below G T8 (mkF m 28 #[.val (.ref a0), .val (.int (1 : Int32)), .val (.ref a2), .val (.int (0 : Int32)), .val (.double v4_5), .second, .unset, .unset] [(.double v6_10)]) from Jv6_10 _ rfl
  intro v6_10 hv6_10
  refine ogo (fun _ z_ => XS.dstore X8.here hx rfl (hb hby d22_28) rfl (l' := #[.val (.ref a0), .val (.int (1 : Int32)), .val (.ref a2), .val (.int (0 : Int32)), .val (.double v4_5), .second, .val (.double v6_10), .second]) rfl z_) ?_
  show OWay p e below G T8 (mkF m 30 #[.val (.ref a0), .val (.int (1 : Int32)), .val (.ref a2), .val (.int (0 : Int32)), .val (.double v4_5), .second, .val (.double v6_10), .second] [])
  have hD4 : Dy v4_5 (m1 - m2) 1098 := by rw [hv4_5]; exact own_df hx1 hx2 hbm1 hbm2
  have hD6 : Dy v6_10 (n1 - n2) 1098 := by rw [hv6_10]; exact own_df hy1 hy2 hbn1 hbn2
  refine ogo (fun _ z_ => XS.dload X8.here hx rfl (hb hby d22_30) rfl z_) ?_
  show OWay p e below G T8 (mkF m 32 #[.val (.ref a0), .val (.int (1 : Int32)), .val (.ref a2), .val (.int (0 : Int32)), .val (.double v4_5), .second, .val (.double v6_10), .second] [(.double v4_5)])
  refine ogo (fun _ z_ => XS.dload X8.here hx rfl (hb hby d22_32) rfl z_) ?_
  show OWay p e below G T8 (mkF m 34 #[.val (.ref a0), .val (.int (1 : Int32)), .val (.ref a2), .val (.int (0 : Int32)), .val (.double v4_5), .second, .val (.double v6_10), .second] [(.double v4_5), (.double v4_5)])
  refine ogo (fun _ z_ => XS.dmulS X8.here hx rfl (hb hby d22_34) rfl (dy_nn (own_ml hD4 (by omega))) rfl z_) ?_
  show OWay p e below G T8 (mkF m 35 #[.val (.ref a0), .val (.int (1 : Int32)), .val (.ref a2), .val (.int (0 : Int32)), .val (.double v4_5), .second, .val (.double v6_10), .second] [(.double (FP.dmul v4_5 v4_5))])
  refine ogo (fun _ z_ => XS.dload X8.here hx rfl (hb hby d22_35) rfl z_) ?_
  show OWay p e below G T8 (mkF m 37 #[.val (.ref a0), .val (.int (1 : Int32)), .val (.ref a2), .val (.int (0 : Int32)), .val (.double v4_5), .second, .val (.double v6_10), .second] [(.double v6_10), (.double (FP.dmul v4_5 v4_5))])
  refine ogo (fun _ z_ => XS.dload X8.here hx rfl (hb hby d22_37) rfl z_) ?_
  show OWay p e below G T8 (mkF m 39 #[.val (.ref a0), .val (.int (1 : Int32)), .val (.ref a2), .val (.int (0 : Int32)), .val (.double v4_5), .second, .val (.double v6_10), .second] [(.double v6_10), (.double v6_10), (.double (FP.dmul v4_5 v4_5))])
  refine ogo (fun _ z_ => XS.dmulS X8.here hx rfl (hb hby d22_39) rfl (dy_nn (own_ml hD6 (by omega))) rfl z_) ?_
  show OWay p e below G T8 (mkF m 40 #[.val (.ref a0), .val (.int (1 : Int32)), .val (.ref a2), .val (.int (0 : Int32)), .val (.double v4_5), .second, .val (.double v6_10), .second] [(.double (FP.dmul v6_10 v6_10)), (.double (FP.dmul v4_5 v4_5))])
  refine ogo (fun _ z_ => XS.daddS X8.here hx rfl (hb hby d22_40) rfl (dy_nn (own_sm hD4 hD6 (by omega) (by omega))) rfl z_) ?_
  show OWay p e below G T8 (mkF m 41 #[.val (.ref a0), .val (.int (1 : Int32)), .val (.ref a2), .val (.int (0 : Int32)), .val (.double v4_5), .second, .val (.double v6_10), .second] [(.double (FP.dadd (FP.dmul v4_5 v4_5) (FP.dmul v6_10 v6_10)))])
  subst hG
  refine wRet X8 hx hret hlk rfl (Or.inr (Or.inr (Or.inl ⟨rfl, rfl, _, rfl⟩))) (hb hby d22_41) (by decide) (by decide) eT8 ?_
  exact ⟨(FP.dadd (FP.dmul v4_5 v4_5) (FP.dmul v6_10 v6_10)), rfl, N0, rfl, (own_sm hD4 hD6 (by omega) (by omega))⟩
def sd11_rm : Room := { frames := 0, cells := 0, slots := 0, locals := 0 }
def sd11_Q (Z : State) (a0 : Addr) (a2 : Addr) (lo1 : Addr) (la1 : Addr) (kl1 : ClassId) (ka1 : ClassId) (lo2 : Addr) (la2 : Addr) (kl2 : ClassId) (ka2 : ClassId) (sx01 : UInt64) (sx11 : UInt64) (sy01 : UInt64) (sy11 : UInt64) (sx02 : UInt64) (sx12 : UInt64) (sy02 : UInt64) (sy12 : UInt64) (m1 : Int) (m2 : Int) (n1 : Int) (n2 : Int) (h0 : Heap) (n0 : Nat) (v : Option Value) (h : Heap) (L : List Loc) : Prop := ∃ dr : UInt64, (v = some (.double dr)) ∧ (Fr n0 L) ∧ (h = h0) ∧ (Dy dr ((m1 - m2) * (m1 - m2) + (n1 - n2) * (n1 - n2)) 1096)
theorem sd11_ef (m : MethodId) (a0 : Addr) (a2 : Addr) : entryFrame m #[(.ref a0), (.int (1 : Int32)), (.ref a2), (.int (1 : Int32))] 8 = mkF m 0 #[.val (.ref a0), .val (.int (1 : Int32)), .val (.ref a2), .val (.int (1 : Int32)), .unset, .unset, .unset, .unset] [] := by first | (simp [entryFrame, mkF, argsToLocals, Value.category]; done) | rfl
set_option maxRecDepth 65536 in
set_option maxHeartbeats 40000000 in
theorem sd11_c (l : Launch) (Z : State) (az : Array Value) (hw : ∀ d ∈ tables_1, d.before az Z = true) (ws : List Jvm.Cond) (a0 : Addr) (a2 : Addr) (lo1 : Addr) (la1 : Addr) (kl1 : ClassId) (ka1 : ClassId) (lo2 : Addr) (la2 : Addr) (kl2 : ClassId) (ka2 : ClassId) (sx01 : UInt64) (sx11 : UInt64) (sy01 : UInt64) (sy11 : UInt64) (sx02 : UInt64) (sx12 : UInt64) (sy02 : UInt64) (sy12 : UInt64) (m1 : Int) (m2 : Int) (n1 : Int) (n2 : Int) (h0 : Heap) (n0 : Nat) (Z0 : n0 ≤ h0.size) (hp0 : Fld Z h0 a0 "com/example/wakeline/wakeline/similarity/Coordinates" "longitudes" "[D" (.ref lo1)) (hp1 : Fld Z h0 a0 "com/example/wakeline/wakeline/similarity/Coordinates" "latitudes" "[D" (.ref la1)) (hp2 : Arv Z h0 lo1 kl1 .double (2 : Int32) [(.double sx01), (.double sx11)] (.double (0 : UInt64))) (hp3 : Arv Z h0 la1 ka1 .double (2 : Int32) [(.double sy01), (.double sy11)] (.double (0 : UInt64))) (hp4 : Fld Z h0 a2 "com/example/wakeline/wakeline/similarity/Coordinates" "longitudes" "[D" (.ref lo2)) (hp5 : Fld Z h0 a2 "com/example/wakeline/wakeline/similarity/Coordinates" "latitudes" "[D" (.ref la2)) (hp6 : Arv Z h0 lo2 kl2 .double (2 : Int32) [(.double sx02), (.double sx12)] (.double (0 : UInt64))) (hp7 : Arv Z h0 la2 ka2 .double (2 : Int32) [(.double sy02), (.double sy12)] (.double (0 : UInt64))) (hx1 : Dy sx11 m1 1098) (hx2 : Dy sx12 m2 1098) (hy1 : Dy sy11 n1 1098) (hy2 : Dy sy12 n2 1098) (hbm1 : -720 ≤ m1 ∧ m1 ≤ 720) (hbm2 : -720 ≤ m2 ∧ m2 ≤ 720) (hbn1 : -720 ≤ n1 ∧ n1 ≤ 720) (hbn2 : -720 ≤ n2 ∧ n2 ≤ 720) :
    OCon l (⟨"com/example/wakeline/wakeline/similarity/Coordinates", "squaredDistance", "(ILcom/example/wakeline/wakeline/similarity/Coordinates;I)D"⟩ : MethodName) prog_36_method_5_code 8 (some .double) ws sd11_rm Z #[(.ref a0), (.int (1 : Int32)), (.ref a2), (.int (1 : Int32))] h0 (sd11_Q Z a0 a2 lo1 la1 kl1 ka1 lo2 la2 kl2 ka2 sx01 sx11 sy01 sy11 sx02 sx12 sy02 sy12 m1 m2 n1 n2 h0 n0) := by
  refine ocon (plainFor_of_name pn_com_example_wakeline_wakeline_similarity_Coordinates) ?_
  intro p e s m below meth c s₁ hx hby hml hown hnm hret hlk hZ X0 eh0
  have N0 := Fr.nil n0
  have K0 := Keep.refl h0 []
  refine ogoE (sd11_ef m a0 a2) ?_
  generalize hG : (OEnd s below (sd11_Q Z a0 a2 lo1 la1 kl1 ka1 lo2 la2 kl2 ka2 sx01 sx11 sy01 sy11 sx02 sx12 sy02 sy12 m1 m2 n1 n2 h0 n0) sd11_rm.cells sd11_rm.slots) = G
  show OWay p e below G s₁ (mkF m 0 #[.val (.ref a0), .val (.int (1 : Int32)), .val (.ref a2), .val (.int (1 : Int32)), .unset, .unset, .unset, .unset] [])
  refine ogo (fun _ z_ => XS.aloadN X0.here hx rfl (hb hby d22_0) rfl rfl z_) ?_
  show OWay p e below G s₁ (mkF m 1 #[.val (.ref a0), .val (.int (1 : Int32)), .val (.ref a2), .val (.int (1 : Int32)), .unset, .unset, .unset, .unset] [(.ref a0)])
  obtain ⟨T1, X1, eT1, st1⟩ := getF X0 hx hZ hown (host := "") (Or.inl (hw _ (List.mem_of_getElem? (i := 105) rfl))) Via.refl eh0 hp0 (g := (mkF m 1 #[.val (.ref a0), .val (.int (1 : Int32)), .val (.ref a2), .val (.int (1 : Int32)), .unset, .unset, .unset, .unset] [(.ref a0)])) rfl rfl (hb hby d22_1)
  refine ogo st1 ?_
  show OWay p e below G T1 (mkF m 4 #[.val (.ref a0), .val (.int (1 : Int32)), .val (.ref a2), .val (.int (1 : Int32)), .unset, .unset, .unset, .unset] [(.ref lo1)])
  refine ogo (fun _ z_ => XS.iloadN X1.here hx rfl (hb hby d22_4) rfl z_) ?_
  show OWay p e below G T1 (mkF m 5 #[.val (.ref a0), .val (.int (1 : Int32)), .val (.ref a2), .val (.int (1 : Int32)), .unset, .unset, .unset, .unset] [(.int (1 : Int32)), (.ref lo1)])
  obtain ⟨cl_o2, Ar_o2, q_o2, S_o2, N_o2, H_o2, G_o2⟩ := id hp2
  have hin_o2 : ¬ ((1 : Int32) < 0 ∨ cl_o2.slots.size ≤ ((1 : Int32)).toNatClampNeg) := inb_of S_o2 ⟨by decide, by decide⟩
  have hat_o2 : cl_o2.slots[((1 : Int32)).toNatClampNeg]? = some (.double sx11) := H_o2.at hin_o2 rfl
  refine ogo (fun _ z_ => X1.daload hx (j := (1 : Int32)) (v := (.double sx11)) (by rw [eT1]; exact Ar_o2.1) (State.isArrayOf_alike hZ.alike Ar_o2.2.1) Ar_o2.2.2 hin_o2 hat_o2 (g := (mkF m 5 #[.val (.ref a0), .val (.int (1 : Int32)), .val (.ref a2), .val (.int (1 : Int32)), .unset, .unset, .unset, .unset] [(.int (1 : Int32)), (.ref lo1)])) rfl rfl (hb hby d22_5) _ z_) ?_
  show OWay p e below G T1 (mkF m 6 #[.val (.ref a0), .val (.int (1 : Int32)), .val (.ref a2), .val (.int (1 : Int32)), .unset, .unset, .unset, .unset] [(.double sx11)])
  refine ogo (fun _ z_ => XS.aloadN X1.here hx rfl (hb hby d22_6) rfl rfl z_) ?_
  show OWay p e below G T1 (mkF m 7 #[.val (.ref a0), .val (.int (1 : Int32)), .val (.ref a2), .val (.int (1 : Int32)), .unset, .unset, .unset, .unset] [(.ref a2), (.double sx11)])
  obtain ⟨T3, X3, eT3, st3⟩ := getF X1 hx hZ hown (host := "") (Or.inl (hw _ (List.mem_of_getElem? (i := 105) rfl))) Via.refl eT1 hp4 (g := (mkF m 7 #[.val (.ref a0), .val (.int (1 : Int32)), .val (.ref a2), .val (.int (1 : Int32)), .unset, .unset, .unset, .unset] [(.ref a2), (.double sx11)])) rfl rfl (hb hby d22_7)
  refine ogo st3 ?_
  show OWay p e below G T3 (mkF m 10 #[.val (.ref a0), .val (.int (1 : Int32)), .val (.ref a2), .val (.int (1 : Int32)), .unset, .unset, .unset, .unset] [(.ref lo2), (.double sx11)])
  refine ogo (fun _ z_ => XS.iloadN X3.here hx rfl (hb hby d22_10) rfl z_) ?_
  show OWay p e below G T3 (mkF m 11 #[.val (.ref a0), .val (.int (1 : Int32)), .val (.ref a2), .val (.int (1 : Int32)), .unset, .unset, .unset, .unset] [(.int (1 : Int32)), (.ref lo2), (.double sx11)])
  obtain ⟨cl_o4, Ar_o4, q_o4, S_o4, N_o4, H_o4, G_o4⟩ := id hp6
  have hin_o4 : ¬ ((1 : Int32) < 0 ∨ cl_o4.slots.size ≤ ((1 : Int32)).toNatClampNeg) := inb_of S_o4 ⟨by decide, by decide⟩
  have hat_o4 : cl_o4.slots[((1 : Int32)).toNatClampNeg]? = some (.double sx12) := H_o4.at hin_o4 rfl
  refine ogo (fun _ z_ => X3.daload hx (j := (1 : Int32)) (v := (.double sx12)) (by rw [eT3]; exact Ar_o4.1) (State.isArrayOf_alike hZ.alike Ar_o4.2.1) Ar_o4.2.2 hin_o4 hat_o4 (g := (mkF m 11 #[.val (.ref a0), .val (.int (1 : Int32)), .val (.ref a2), .val (.int (1 : Int32)), .unset, .unset, .unset, .unset] [(.int (1 : Int32)), (.ref lo2), (.double sx11)])) rfl rfl (hb hby d22_11) _ z_) ?_
  show OWay p e below G T3 (mkF m 12 #[.val (.ref a0), .val (.int (1 : Int32)), .val (.ref a2), .val (.int (1 : Int32)), .unset, .unset, .unset, .unset] [(.double sx12), (.double sx11)])
  refine ogo (fun _ z_ => XS.dsubS X3.here hx rfl (hb hby d22_12) rfl (dy_nn (own_df hx1 hx2 hbm1 hbm2)) rfl z_) ?_
  show OWay p e below G T3 (mkF m 13 #[.val (.ref a0), .val (.int (1 : Int32)), .val (.ref a2), .val (.int (1 : Int32)), .unset, .unset, .unset, .unset] [(.double (FP.dsub sx11 sx12))])
  suffices Jv4_5 : ∀ v4_5 : UInt64, v4_5 = (FP.dsub sx11 sx12) → OWay p e below G T3 (mkF m 13 #[.val (.ref a0), .val (.int (1 : Int32)), .val (.ref a2), .val (.int (1 : Int32)), .unset, .unset, .unset, .unset] [(.double v4_5)]) from Jv4_5 _ rfl
  intro v4_5 hv4_5
  refine ogo (fun _ z_ => XS.dstore X3.here hx rfl (hb hby d22_13) rfl (l' := #[.val (.ref a0), .val (.int (1 : Int32)), .val (.ref a2), .val (.int (1 : Int32)), .val (.double v4_5), .second, .unset, .unset]) rfl z_) ?_
  show OWay p e below G T3 (mkF m 15 #[.val (.ref a0), .val (.int (1 : Int32)), .val (.ref a2), .val (.int (1 : Int32)), .val (.double v4_5), .second, .unset, .unset] [])
  refine ogo (fun _ z_ => XS.aloadN X3.here hx rfl (hb hby d22_15) rfl rfl z_) ?_
  show OWay p e below G T3 (mkF m 16 #[.val (.ref a0), .val (.int (1 : Int32)), .val (.ref a2), .val (.int (1 : Int32)), .val (.double v4_5), .second, .unset, .unset] [(.ref a0)])
  obtain ⟨T6, X6, eT6, st6⟩ := getF X3 hx hZ hown (host := "") (Or.inl (hw _ (List.mem_of_getElem? (i := 107) rfl))) Via.refl eT3 hp1 (g := (mkF m 16 #[.val (.ref a0), .val (.int (1 : Int32)), .val (.ref a2), .val (.int (1 : Int32)), .val (.double v4_5), .second, .unset, .unset] [(.ref a0)])) rfl rfl (hb hby d22_16)
  refine ogo st6 ?_
  show OWay p e below G T6 (mkF m 19 #[.val (.ref a0), .val (.int (1 : Int32)), .val (.ref a2), .val (.int (1 : Int32)), .val (.double v4_5), .second, .unset, .unset] [(.ref la1)])
  refine ogo (fun _ z_ => XS.iloadN X6.here hx rfl (hb hby d22_19) rfl z_) ?_
  show OWay p e below G T6 (mkF m 20 #[.val (.ref a0), .val (.int (1 : Int32)), .val (.ref a2), .val (.int (1 : Int32)), .val (.double v4_5), .second, .unset, .unset] [(.int (1 : Int32)), (.ref la1)])
  obtain ⟨cl_o7, Ar_o7, q_o7, S_o7, N_o7, H_o7, G_o7⟩ := id hp3
  have hin_o7 : ¬ ((1 : Int32) < 0 ∨ cl_o7.slots.size ≤ ((1 : Int32)).toNatClampNeg) := inb_of S_o7 ⟨by decide, by decide⟩
  have hat_o7 : cl_o7.slots[((1 : Int32)).toNatClampNeg]? = some (.double sy11) := H_o7.at hin_o7 rfl
  refine ogo (fun _ z_ => X6.daload hx (j := (1 : Int32)) (v := (.double sy11)) (by rw [eT6]; exact Ar_o7.1) (State.isArrayOf_alike hZ.alike Ar_o7.2.1) Ar_o7.2.2 hin_o7 hat_o7 (g := (mkF m 20 #[.val (.ref a0), .val (.int (1 : Int32)), .val (.ref a2), .val (.int (1 : Int32)), .val (.double v4_5), .second, .unset, .unset] [(.int (1 : Int32)), (.ref la1)])) rfl rfl (hb hby d22_20) _ z_) ?_
  show OWay p e below G T6 (mkF m 21 #[.val (.ref a0), .val (.int (1 : Int32)), .val (.ref a2), .val (.int (1 : Int32)), .val (.double v4_5), .second, .unset, .unset] [(.double sy11)])
  refine ogo (fun _ z_ => XS.aloadN X6.here hx rfl (hb hby d22_21) rfl rfl z_) ?_
  show OWay p e below G T6 (mkF m 22 #[.val (.ref a0), .val (.int (1 : Int32)), .val (.ref a2), .val (.int (1 : Int32)), .val (.double v4_5), .second, .unset, .unset] [(.ref a2), (.double sy11)])
  obtain ⟨T8, X8, eT8, st8⟩ := getF X6 hx hZ hown (host := "") (Or.inl (hw _ (List.mem_of_getElem? (i := 107) rfl))) Via.refl eT6 hp5 (g := (mkF m 22 #[.val (.ref a0), .val (.int (1 : Int32)), .val (.ref a2), .val (.int (1 : Int32)), .val (.double v4_5), .second, .unset, .unset] [(.ref a2), (.double sy11)])) rfl rfl (hb hby d22_22)
  refine ogo st8 ?_
  show OWay p e below G T8 (mkF m 25 #[.val (.ref a0), .val (.int (1 : Int32)), .val (.ref a2), .val (.int (1 : Int32)), .val (.double v4_5), .second, .unset, .unset] [(.ref la2), (.double sy11)])
  refine ogo (fun _ z_ => XS.iloadN X8.here hx rfl (hb hby d22_25) rfl z_) ?_
  show OWay p e below G T8 (mkF m 26 #[.val (.ref a0), .val (.int (1 : Int32)), .val (.ref a2), .val (.int (1 : Int32)), .val (.double v4_5), .second, .unset, .unset] [(.int (1 : Int32)), (.ref la2), (.double sy11)])
  obtain ⟨cl_o9, Ar_o9, q_o9, S_o9, N_o9, H_o9, G_o9⟩ := id hp7
  have hin_o9 : ¬ ((1 : Int32) < 0 ∨ cl_o9.slots.size ≤ ((1 : Int32)).toNatClampNeg) := inb_of S_o9 ⟨by decide, by decide⟩
  have hat_o9 : cl_o9.slots[((1 : Int32)).toNatClampNeg]? = some (.double sy12) := H_o9.at hin_o9 rfl
  refine ogo (fun _ z_ => X8.daload hx (j := (1 : Int32)) (v := (.double sy12)) (by rw [eT8]; exact Ar_o9.1) (State.isArrayOf_alike hZ.alike Ar_o9.2.1) Ar_o9.2.2 hin_o9 hat_o9 (g := (mkF m 26 #[.val (.ref a0), .val (.int (1 : Int32)), .val (.ref a2), .val (.int (1 : Int32)), .val (.double v4_5), .second, .unset, .unset] [(.int (1 : Int32)), (.ref la2), (.double sy11)])) rfl rfl (hb hby d22_26) _ z_) ?_
  show OWay p e below G T8 (mkF m 27 #[.val (.ref a0), .val (.int (1 : Int32)), .val (.ref a2), .val (.int (1 : Int32)), .val (.double v4_5), .second, .unset, .unset] [(.double sy12), (.double sy11)])
  refine ogo (fun _ z_ => XS.dsubS X8.here hx rfl (hb hby d22_27) rfl (dy_nn (own_df hy1 hy2 hbn1 hbn2)) rfl z_) ?_
  show OWay p e below G T8 (mkF m 28 #[.val (.ref a0), .val (.int (1 : Int32)), .val (.ref a2), .val (.int (1 : Int32)), .val (.double v4_5), .second, .unset, .unset] [(.double (FP.dsub sy11 sy12))])
  suffices Jv6_10 : ∀ v6_10 : UInt64, v6_10 = (FP.dsub sy11 sy12) → OWay p e below G T8 (mkF m 28 #[.val (.ref a0), .val (.int (1 : Int32)), .val (.ref a2), .val (.int (1 : Int32)), .val (.double v4_5), .second, .unset, .unset] [(.double v6_10)]) from Jv6_10 _ rfl
  intro v6_10 hv6_10
  refine ogo (fun _ z_ => XS.dstore X8.here hx rfl (hb hby d22_28) rfl (l' := #[.val (.ref a0), .val (.int (1 : Int32)), .val (.ref a2), .val (.int (1 : Int32)), .val (.double v4_5), .second, .val (.double v6_10), .second]) rfl z_) ?_
  show OWay p e below G T8 (mkF m 30 #[.val (.ref a0), .val (.int (1 : Int32)), .val (.ref a2), .val (.int (1 : Int32)), .val (.double v4_5), .second, .val (.double v6_10), .second] [])
  have hD4 : Dy v4_5 (m1 - m2) 1098 := by rw [hv4_5]; exact own_df hx1 hx2 hbm1 hbm2
  have hD6 : Dy v6_10 (n1 - n2) 1098 := by rw [hv6_10]; exact own_df hy1 hy2 hbn1 hbn2
  refine ogo (fun _ z_ => XS.dload X8.here hx rfl (hb hby d22_30) rfl z_) ?_
  show OWay p e below G T8 (mkF m 32 #[.val (.ref a0), .val (.int (1 : Int32)), .val (.ref a2), .val (.int (1 : Int32)), .val (.double v4_5), .second, .val (.double v6_10), .second] [(.double v4_5)])
  refine ogo (fun _ z_ => XS.dload X8.here hx rfl (hb hby d22_32) rfl z_) ?_
  show OWay p e below G T8 (mkF m 34 #[.val (.ref a0), .val (.int (1 : Int32)), .val (.ref a2), .val (.int (1 : Int32)), .val (.double v4_5), .second, .val (.double v6_10), .second] [(.double v4_5), (.double v4_5)])
  refine ogo (fun _ z_ => XS.dmulS X8.here hx rfl (hb hby d22_34) rfl (dy_nn (own_ml hD4 (by omega))) rfl z_) ?_
  show OWay p e below G T8 (mkF m 35 #[.val (.ref a0), .val (.int (1 : Int32)), .val (.ref a2), .val (.int (1 : Int32)), .val (.double v4_5), .second, .val (.double v6_10), .second] [(.double (FP.dmul v4_5 v4_5))])
  refine ogo (fun _ z_ => XS.dload X8.here hx rfl (hb hby d22_35) rfl z_) ?_
  show OWay p e below G T8 (mkF m 37 #[.val (.ref a0), .val (.int (1 : Int32)), .val (.ref a2), .val (.int (1 : Int32)), .val (.double v4_5), .second, .val (.double v6_10), .second] [(.double v6_10), (.double (FP.dmul v4_5 v4_5))])
  refine ogo (fun _ z_ => XS.dload X8.here hx rfl (hb hby d22_37) rfl z_) ?_
  show OWay p e below G T8 (mkF m 39 #[.val (.ref a0), .val (.int (1 : Int32)), .val (.ref a2), .val (.int (1 : Int32)), .val (.double v4_5), .second, .val (.double v6_10), .second] [(.double v6_10), (.double v6_10), (.double (FP.dmul v4_5 v4_5))])
  refine ogo (fun _ z_ => XS.dmulS X8.here hx rfl (hb hby d22_39) rfl (dy_nn (own_ml hD6 (by omega))) rfl z_) ?_
  show OWay p e below G T8 (mkF m 40 #[.val (.ref a0), .val (.int (1 : Int32)), .val (.ref a2), .val (.int (1 : Int32)), .val (.double v4_5), .second, .val (.double v6_10), .second] [(.double (FP.dmul v6_10 v6_10)), (.double (FP.dmul v4_5 v4_5))])
  refine ogo (fun _ z_ => XS.daddS X8.here hx rfl (hb hby d22_40) rfl (dy_nn (own_sm hD4 hD6 (by omega) (by omega))) rfl z_) ?_
  show OWay p e below G T8 (mkF m 41 #[.val (.ref a0), .val (.int (1 : Int32)), .val (.ref a2), .val (.int (1 : Int32)), .val (.double v4_5), .second, .val (.double v6_10), .second] [(.double (FP.dadd (FP.dmul v4_5 v4_5) (FP.dmul v6_10 v6_10)))])
  subst hG
  refine wRet X8 hx hret hlk rfl (Or.inr (Or.inr (Or.inl ⟨rfl, rfl, _, rfl⟩))) (hb hby d22_41) (by decide) (by decide) eT8 ?_
  exact ⟨(FP.dadd (FP.dmul v4_5 v4_5) (FP.dmul v6_10 v6_10)), rfl, N0, rfl, (own_sm hD4 hD6 (by omega) (by omega))⟩
theorem pn_com_example_wakeline_wakeline_similarity_CoordinatesSquaredDistancePinLaw : plainName "com/example/wakeline/wakeline/similarity/CoordinatesSquaredDistancePinLaw" = true := by first | (simp [plainName, overriddenIn]; done) | decide +kernel
theorem d5_0 : decode method_2_code 0 = .ok (.iload_n 0, 1) := by decide +kernel
theorem d5_1 : decode method_2_code 1 = .ok (.ldc 7, 2) := by decide +kernel
theorem d5_3 : decode method_2_code 3 = .ok (.iand, 1) := by decide +kernel
theorem d5_4 : decode method_2_code 4 = .ok (.sipush 1441, 3) := by decide +kernel
theorem d5_7 : decode method_2_code 7 = .ok (.irem, 1) := by decide +kernel
theorem d5_8 : decode method_2_code 8 = .ok (.sipush 720, 3) := by decide +kernel
theorem d5_11 : decode method_2_code 11 = .ok (.isub, 1) := by decide +kernel
theorem d5_12 : decode method_2_code 12 = .ok (.ireturn, 1) := by decide +kernel
def lonQ_b_rm : Room := { frames := 0, cells := 0, slots := 0, locals := 0 }
def lonQ_b_Q (Z : State) (p0 : Int32) (h0 : Heap) (n0 : Nat) (v : Option Value) (h : Heap) (L : List Loc) : Prop := (v = some (.int (lonQ p0))) ∧ (Fr n0 L) ∧ (h = h0)
theorem lonQ_b_ef (m : MethodId) (p0 : Int32) : entryFrame m #[(.int p0)] 1 = mkF m 0 #[.val (.int p0)] [] := by first | (simp [entryFrame, mkF, argsToLocals, Value.category]; done) | rfl
set_option maxRecDepth 65536 in
set_option maxHeartbeats 40000000 in
theorem lonQ_b_c (l : Launch) (Z : State) (az : Array Value) (hw : ∀ d ∈ tables_1, d.before az Z = true) (ws : List Jvm.Cond) (p0 : Int32) (h0 : Heap) (n0 : Nat) (Z0 : n0 ≤ h0.size) :
    OCon l (⟨"com/example/wakeline/wakeline/similarity/CoordinatesSquaredDistancePinLaw", "lonQ", "(I)I"⟩ : MethodName) method_2_code 1 (some .int) ws lonQ_b_rm Z #[(.int p0)] h0 (lonQ_b_Q Z p0 h0 n0) := by
  refine ocon (plainFor_of_name pn_com_example_wakeline_wakeline_similarity_CoordinatesSquaredDistancePinLaw) ?_
  intro p e s m below meth c s₁ hx hby hml hown hnm hret hlk hZ X0 eh0
  have N0 := Fr.nil n0
  have K0 := Keep.refl h0 []
  refine ogoE (lonQ_b_ef m p0) ?_
  generalize hG : (OEnd s below (lonQ_b_Q Z p0 h0 n0) lonQ_b_rm.cells lonQ_b_rm.slots) = G
  show OWay p e below G s₁ (mkF m 0 #[.val (.int p0)] [])
  refine ogo (fun _ z_ => XS.iloadN X0.here hx rfl (hb hby d5_0) rfl z_) ?_
  show OWay p e below G s₁ (mkF m 1 #[.val (.int p0)] [(.int p0)])
  refine ogo (fun _ z_ => X0.ldcInt hx hown (mvT hZ (hw _ (List.mem_of_getElem? (i := 33) rfl))) (g := (mkF m 1 #[.val (.int p0)] [(.int p0)])) rfl (hb hby d5_1) _ z_) ?_
  show OWay p e below G s₁ (mkF m 3 #[.val (.int p0)] [(.int (65535 : Int32)), (.int p0)])
  refine ogo (fun _ z_ => XS.iand X0.here hx rfl (hb hby d5_3) rfl z_) ?_
  show OWay p e below G s₁ (mkF m 4 #[.val (.int p0)] [(.int (p0 &&& (65535 : Int32)))])
  refine ogo (fun _ z_ => XS.sipush X0.here hx rfl (hb hby d5_4) z_) ?_
  show OWay p e below G s₁ (mkF m 7 #[.val (.int p0)] [(.int (1441 : Int32)), (.int (p0 &&& (65535 : Int32)))])
  refine ogo (fun _ z_ => iremM X0 hx rfl (hb hby d5_7) rfl (by decide) z_) ?_
  show OWay p e below G s₁ (mkF m 8 #[.val (.int p0)] [(.int ((p0 &&& (65535 : Int32)) % (1441 : Int32)))])
  refine ogo (fun _ z_ => XS.sipush X0.here hx rfl (hb hby d5_8) z_) ?_
  show OWay p e below G s₁ (mkF m 11 #[.val (.int p0)] [(.int (720 : Int32)), (.int ((p0 &&& (65535 : Int32)) % (1441 : Int32)))])
  refine ogo (fun _ z_ => XS.isub X0.here hx rfl (hb hby d5_11) rfl z_) ?_
  show OWay p e below G s₁ (mkF m 12 #[.val (.int p0)] [(.int (((p0 &&& (65535 : Int32)) % (1441 : Int32)) - (720 : Int32)))])
  subst hG
  refine wRet X0 hx hret hlk rfl (Or.inl ⟨rfl, Or.inl rfl, _, rfl⟩) (hb hby d5_12) (by decide) (by decide) eh0 ?_
  exact ⟨rfl, N0, rfl⟩
theorem d6_0 : decode method_3_code 0 = .ok (.iload_n 0, 1) := by decide +kernel
theorem d6_1 : decode method_3_code 1 = .ok (.bipush 16, 2) := by decide +kernel
theorem d6_3 : decode method_3_code 3 = .ok (.iushr, 1) := by decide +kernel
theorem d6_4 : decode method_3_code 4 = .ok (.ldc 7, 2) := by decide +kernel
theorem d6_6 : decode method_3_code 6 = .ok (.iand, 1) := by decide +kernel
theorem d6_7 : decode method_3_code 7 = .ok (.sipush 721, 3) := by decide +kernel
theorem d6_10 : decode method_3_code 10 = .ok (.irem, 1) := by decide +kernel
theorem d6_11 : decode method_3_code 11 = .ok (.sipush 360, 3) := by decide +kernel
theorem d6_14 : decode method_3_code 14 = .ok (.isub, 1) := by decide +kernel
theorem d6_15 : decode method_3_code 15 = .ok (.ireturn, 1) := by decide +kernel
def latQ_b_rm : Room := { frames := 0, cells := 0, slots := 0, locals := 0 }
def latQ_b_Q (Z : State) (p0 : Int32) (h0 : Heap) (n0 : Nat) (v : Option Value) (h : Heap) (L : List Loc) : Prop := (v = some (.int (latQ p0))) ∧ (Fr n0 L) ∧ (h = h0)
theorem latQ_b_ef (m : MethodId) (p0 : Int32) : entryFrame m #[(.int p0)] 1 = mkF m 0 #[.val (.int p0)] [] := by first | (simp [entryFrame, mkF, argsToLocals, Value.category]; done) | rfl
set_option maxRecDepth 65536 in
set_option maxHeartbeats 40000000 in
theorem latQ_b_c (l : Launch) (Z : State) (az : Array Value) (hw : ∀ d ∈ tables_1, d.before az Z = true) (ws : List Jvm.Cond) (p0 : Int32) (h0 : Heap) (n0 : Nat) (Z0 : n0 ≤ h0.size) :
    OCon l (⟨"com/example/wakeline/wakeline/similarity/CoordinatesSquaredDistancePinLaw", "latQ", "(I)I"⟩ : MethodName) method_3_code 1 (some .int) ws latQ_b_rm Z #[(.int p0)] h0 (latQ_b_Q Z p0 h0 n0) := by
  refine ocon (plainFor_of_name pn_com_example_wakeline_wakeline_similarity_CoordinatesSquaredDistancePinLaw) ?_
  intro p e s m below meth c s₁ hx hby hml hown hnm hret hlk hZ X0 eh0
  have N0 := Fr.nil n0
  have K0 := Keep.refl h0 []
  refine ogoE (latQ_b_ef m p0) ?_
  generalize hG : (OEnd s below (latQ_b_Q Z p0 h0 n0) latQ_b_rm.cells latQ_b_rm.slots) = G
  show OWay p e below G s₁ (mkF m 0 #[.val (.int p0)] [])
  refine ogo (fun _ z_ => XS.iloadN X0.here hx rfl (hb hby d6_0) rfl z_) ?_
  show OWay p e below G s₁ (mkF m 1 #[.val (.int p0)] [(.int p0)])
  refine ogo (fun _ z_ => XS.bipush X0.here hx rfl (hb hby d6_1) z_) ?_
  show OWay p e below G s₁ (mkF m 3 #[.val (.int p0)] [(.int (16 : Int32)), (.int p0)])
  refine ogo (fun _ z_ => XS.iushr X0.here hx rfl (hb hby d6_3) rfl z_) ?_
  show OWay p e below G s₁ (mkF m 4 #[.val (.int p0)] [(.int ((p0.toUInt32 >>> ((16 : Int32) &&& 31).toUInt32).toInt32))])
  refine ogo (fun _ z_ => X0.ldcInt hx hown (mvT hZ (hw _ (List.mem_of_getElem? (i := 33) rfl))) (g := (mkF m 4 #[.val (.int p0)] [(.int ((p0.toUInt32 >>> ((16 : Int32) &&& 31).toUInt32).toInt32))])) rfl (hb hby d6_4) _ z_) ?_
  show OWay p e below G s₁ (mkF m 6 #[.val (.int p0)] [(.int (65535 : Int32)), (.int ((p0.toUInt32 >>> ((16 : Int32) &&& 31).toUInt32).toInt32))])
  refine ogo (fun _ z_ => XS.iand X0.here hx rfl (hb hby d6_6) rfl z_) ?_
  show OWay p e below G s₁ (mkF m 7 #[.val (.int p0)] [(.int (((p0.toUInt32 >>> ((16 : Int32) &&& 31).toUInt32).toInt32) &&& (65535 : Int32)))])
  refine ogo (fun _ z_ => XS.sipush X0.here hx rfl (hb hby d6_7) z_) ?_
  show OWay p e below G s₁ (mkF m 10 #[.val (.int p0)] [(.int (721 : Int32)), (.int (((p0.toUInt32 >>> ((16 : Int32) &&& 31).toUInt32).toInt32) &&& (65535 : Int32)))])
  refine ogo (fun _ z_ => iremM X0 hx rfl (hb hby d6_10) rfl (by decide) z_) ?_
  show OWay p e below G s₁ (mkF m 11 #[.val (.int p0)] [(.int ((((p0.toUInt32 >>> ((16 : Int32) &&& 31).toUInt32).toInt32) &&& (65535 : Int32)) % (721 : Int32)))])
  refine ogo (fun _ z_ => XS.sipush X0.here hx rfl (hb hby d6_11) z_) ?_
  show OWay p e below G s₁ (mkF m 14 #[.val (.int p0)] [(.int (360 : Int32)), (.int ((((p0.toUInt32 >>> ((16 : Int32) &&& 31).toUInt32).toInt32) &&& (65535 : Int32)) % (721 : Int32)))])
  refine ogo (fun _ z_ => XS.isub X0.here hx rfl (hb hby d6_14) rfl z_) ?_
  show OWay p e below G s₁ (mkF m 15 #[.val (.int p0)] [(.int (((((p0.toUInt32 >>> ((16 : Int32) &&& 31).toUInt32).toInt32) &&& (65535 : Int32)) % (721 : Int32)) - (360 : Int32)))])
  subst hG
  refine wRet X0 hx hret hlk rfl (Or.inl ⟨rfl, Or.inl rfl, _, rfl⟩) (hb hby d6_15) (by decide) (by decide) eh0 ?_
  exact ⟨rfl, N0, rfl⟩
theorem pd__I_I : parseMethodDescriptor "(I)I" = some ⟨[.int], some .int⟩ := by decide +kernel
theorem pd__DDJ_V : parseMethodDescriptor "(DDJ)V" = some ⟨[.double, .double, .long], none⟩ := by decide +kernel
theorem pd__Ljava_lang_Object__Z : parseMethodDescriptor "(Ljava/lang/Object;)Z" = some ⟨[(.object "java/lang/Object")], some .boolean⟩ := by decide +kernel
theorem pd__Ljava_util_List__V : parseMethodDescriptor "(Ljava/util/List;)V" = some ⟨[(.object "java/util/List")], none⟩ := by decide +kernel
theorem pd__ILcom_example_wakeline_wakeline_similarity_Coordinates_I_D : parseMethodDescriptor "(ILcom/example/wakeline/wakeline/similarity/Coordinates;I)D" = some ⟨[.int, (.object "com/example/wakeline/wakeline/similarity/Coordinates"), .int], some .double⟩ := by decide +kernel
def law_Q (Z : State) (p0 : Int32) (p1 : Int32) (p2 : Int32) (p3 : Int32) (p4 : Int32) (ev : Addr) (kE : ClassId) (h0 : Heap) (n0 : Nat) (v : Option Value) (h : Heap) (L : List Loc) : Prop := v = some (.int 1) ∧ Fr n0 L
theorem law_ef (m : MethodId) (p0 : Int32) (p1 : Int32) (p2 : Int32) (p3 : Int32) (p4 : Int32) : entryFrame m #[(.int p0), (.int p1), (.int p2), (.int p3), (.int p4)] maxLocals = mkF m 0 #[.val (.int p0), .val (.int p1), .val (.int p2), .val (.int p3), .val (.int p4), .unset, .unset, .unset, .unset, .unset, .unset, .unset, .unset, .unset, .unset, .unset, .unset, .unset, .unset, .unset, .unset, .unset, .unset, .unset, .unset] [] := by first | (simp [entryFrame, mkF, argsToLocals, Value.category, maxLocals]; done) | rfl
set_option maxRecDepth 65536 in
set_option maxHeartbeats 40000000 in
theorem law_c (l : Launch) (Z : State) (az : Array Value) (hw : ∀ d ∈ tables_1, d.before az Z = true) (ws : List Jvm.Cond) (p0 : Int32) (p1 : Int32) (p2 : Int32) (p3 : Int32) (p4 : Int32) (ev : Addr) (kE : ClassId) (h0 : Heap) (n0 : Nat) (Z0 : n0 ≤ h0.size) (hp0 : Sta Z Z.heap "java/util/ArrayList" "DEFAULTCAPACITY_EMPTY_ELEMENTDATA" "[Ljava/lang/Object;" (.ref ev)) (hp1 : Arv Z Z.heap ev kE (.object "java/lang/Object") (0 : Int32) [] .null) (hp2 : Old Z n0 h0) :
    OCon l x code maxLocals ret ws room_1 Z #[(.int p0), (.int p1), (.int p2), (.int p3), (.int p4)] h0 (law_Q Z p0 p1 p2 p3 p4 ev kE h0 n0) := by
  refine ocon (plainFor_of_name pn_com_example_wakeline_wakeline_similarity_CoordinatesSquaredDistancePinLaw) ?_
  intro p e s m below meth c s₁ hx hby hml hown hnm hret hlk hZ X0 eh0
  have N0 := Fr.nil n0
  have K0 := Keep.refl h0 []
  refine ogoE (law_ef m p0 p1 p2 p3 p4) ?_
  generalize hG : (OEnd s below (law_Q Z p0 p1 p2 p3 p4 ev kE h0 n0) room_1.cells room_1.slots) = G
  show OWay p e below G s₁ (mkF m 0 #[.val (.int p0), .val (.int p1), .val (.int p2), .val (.int p3), .val (.int p4), .unset, .unset, .unset, .unset, .unset, .unset, .unset, .unset, .unset, .unset, .unset, .unset, .unset, .unset, .unset, .unset, .unset, .unset, .unset, .unset] [])
  refine ogo (fun _ z_ => XS.iload X0.here hx rfl (hb hby at_0) rfl z_) ?_
  show OWay p e below G s₁ (mkF m 2 #[.val (.int p0), .val (.int p1), .val (.int p2), .val (.int p3), .val (.int p4), .unset, .unset, .unset, .unset, .unset, .unset, .unset, .unset, .unset, .unset, .unset, .unset, .unset, .unset, .unset, .unset, .unset, .unset, .unset, .unset] [(.int p4)])
  refine ogo (fun _ z_ => XS.iconst X0.here hx rfl (hb hby at_2) z_) ?_
  show OWay p e below G s₁ (mkF m 3 #[.val (.int p0), .val (.int p1), .val (.int p2), .val (.int p3), .val (.int p4), .unset, .unset, .unset, .unset, .unset, .unset, .unset, .unset, .unset, .unset, .unset, .unset, .unset, .unset, .unset, .unset, .unset, .unset, .unset, .unset] [(.int (1 : Int32)), (.int p4)])
  refine ogo (fun _ z_ => XS.iand X0.here hx rfl (hb hby at_3) rfl z_) ?_
  show OWay p e below G s₁ (mkF m 4 #[.val (.int p0), .val (.int p1), .val (.int p2), .val (.int p3), .val (.int p4), .unset, .unset, .unset, .unset, .unset, .unset, .unset, .unset, .unset, .unset, .unset, .unset, .unset, .unset, .unset, .unset, .unset, .unset, .unset, .unset] [(.int (p4 &&& (1 : Int32)))])
  suffices Jv5_1 : ∀ v5_1 : Int32, v5_1 = (p4 &&& (1 : Int32)) → OWay p e below G s₁ (mkF m 4 #[.val (.int p0), .val (.int p1), .val (.int p2), .val (.int p3), .val (.int p4), .unset, .unset, .unset, .unset, .unset, .unset, .unset, .unset, .unset, .unset, .unset, .unset, .unset, .unset, .unset, .unset, .unset, .unset, .unset, .unset] [(.int v5_1)]) from Jv5_1 _ rfl
  intro v5_1 hv5_1
  refine ogo (fun _ z_ => XS.istore X0.here hx rfl (hb hby at_4) rfl (l' := #[.val (.int p0), .val (.int p1), .val (.int p2), .val (.int p3), .val (.int p4), .val (.int v5_1), .unset, .unset, .unset, .unset, .unset, .unset, .unset, .unset, .unset, .unset, .unset, .unset, .unset, .unset, .unset, .unset, .unset, .unset, .unset]) rfl z_) ?_
  show OWay p e below G s₁ (mkF m 6 #[.val (.int p0), .val (.int p1), .val (.int p2), .val (.int p3), .val (.int p4), .val (.int v5_1), .unset, .unset, .unset, .unset, .unset, .unset, .unset, .unset, .unset, .unset, .unset, .unset, .unset, .unset, .unset, .unset, .unset, .unset, .unset] [])
  refine ogo (fun _ z_ => XS.iload X0.here hx rfl (hb hby at_6) rfl z_) ?_
  show OWay p e below G s₁ (mkF m 8 #[.val (.int p0), .val (.int p1), .val (.int p2), .val (.int p3), .val (.int p4), .val (.int v5_1), .unset, .unset, .unset, .unset, .unset, .unset, .unset, .unset, .unset, .unset, .unset, .unset, .unset, .unset, .unset, .unset, .unset, .unset, .unset] [(.int p4)])
  refine ogo (fun _ z_ => XS.iconst X0.here hx rfl (hb hby at_8) z_) ?_
  show OWay p e below G s₁ (mkF m 9 #[.val (.int p0), .val (.int p1), .val (.int p2), .val (.int p3), .val (.int p4), .val (.int v5_1), .unset, .unset, .unset, .unset, .unset, .unset, .unset, .unset, .unset, .unset, .unset, .unset, .unset, .unset, .unset, .unset, .unset, .unset, .unset] [(.int (1 : Int32)), (.int p4)])
  refine ogo (fun _ z_ => XS.iushr X0.here hx rfl (hb hby at_9) rfl z_) ?_
  show OWay p e below G s₁ (mkF m 10 #[.val (.int p0), .val (.int p1), .val (.int p2), .val (.int p3), .val (.int p4), .val (.int v5_1), .unset, .unset, .unset, .unset, .unset, .unset, .unset, .unset, .unset, .unset, .unset, .unset, .unset, .unset, .unset, .unset, .unset, .unset, .unset] [(.int ((p4.toUInt32 >>> ((1 : Int32) &&& 31).toUInt32).toInt32))])
  refine ogo (fun _ z_ => XS.iconst X0.here hx rfl (hb hby at_10) z_) ?_
  show OWay p e below G s₁ (mkF m 11 #[.val (.int p0), .val (.int p1), .val (.int p2), .val (.int p3), .val (.int p4), .val (.int v5_1), .unset, .unset, .unset, .unset, .unset, .unset, .unset, .unset, .unset, .unset, .unset, .unset, .unset, .unset, .unset, .unset, .unset, .unset, .unset] [(.int (1 : Int32)), (.int ((p4.toUInt32 >>> ((1 : Int32) &&& 31).toUInt32).toInt32))])
  refine ogo (fun _ z_ => XS.iand X0.here hx rfl (hb hby at_11) rfl z_) ?_
  show OWay p e below G s₁ (mkF m 12 #[.val (.int p0), .val (.int p1), .val (.int p2), .val (.int p3), .val (.int p4), .val (.int v5_1), .unset, .unset, .unset, .unset, .unset, .unset, .unset, .unset, .unset, .unset, .unset, .unset, .unset, .unset, .unset, .unset, .unset, .unset, .unset] [(.int (((p4.toUInt32 >>> ((1 : Int32) &&& 31).toUInt32).toInt32) &&& (1 : Int32)))])
  suffices Jv6_2 : ∀ v6_2 : Int32, v6_2 = (((p4.toUInt32 >>> ((1 : Int32) &&& 31).toUInt32).toInt32) &&& (1 : Int32)) → OWay p e below G s₁ (mkF m 12 #[.val (.int p0), .val (.int p1), .val (.int p2), .val (.int p3), .val (.int p4), .val (.int v5_1), .unset, .unset, .unset, .unset, .unset, .unset, .unset, .unset, .unset, .unset, .unset, .unset, .unset, .unset, .unset, .unset, .unset, .unset, .unset] [(.int v6_2)]) from Jv6_2 _ rfl
  intro v6_2 hv6_2
  refine ogo (fun _ z_ => XS.istore X0.here hx rfl (hb hby at_12) rfl (l' := #[.val (.int p0), .val (.int p1), .val (.int p2), .val (.int p3), .val (.int p4), .val (.int v5_1), .val (.int v6_2), .unset, .unset, .unset, .unset, .unset, .unset, .unset, .unset, .unset, .unset, .unset, .unset, .unset, .unset, .unset, .unset, .unset, .unset]) rfl z_) ?_
  show OWay p e below G s₁ (mkF m 14 #[.val (.int p0), .val (.int p1), .val (.int p2), .val (.int p3), .val (.int p4), .val (.int v5_1), .val (.int v6_2), .unset, .unset, .unset, .unset, .unset, .unset, .unset, .unset, .unset, .unset, .unset, .unset, .unset, .unset, .unset, .unset, .unset, .unset] [])
  refine ogo (fun _ z_ => XS.iload X0.here hx rfl (hb hby at_14) rfl z_) ?_
  show OWay p e below G s₁ (mkF m 16 #[.val (.int p0), .val (.int p1), .val (.int p2), .val (.int p3), .val (.int p4), .val (.int v5_1), .val (.int v6_2), .unset, .unset, .unset, .unset, .unset, .unset, .unset, .unset, .unset, .unset, .unset, .unset, .unset, .unset, .unset, .unset, .unset, .unset] [(.int p4)])
  refine ogo (fun _ z_ => XS.iconst X0.here hx rfl (hb hby at_16) z_) ?_
  show OWay p e below G s₁ (mkF m 17 #[.val (.int p0), .val (.int p1), .val (.int p2), .val (.int p3), .val (.int p4), .val (.int v5_1), .val (.int v6_2), .unset, .unset, .unset, .unset, .unset, .unset, .unset, .unset, .unset, .unset, .unset, .unset, .unset, .unset, .unset, .unset, .unset, .unset] [(.int (2 : Int32)), (.int p4)])
  refine ogo (fun _ z_ => XS.iushr X0.here hx rfl (hb hby at_17) rfl z_) ?_
  show OWay p e below G s₁ (mkF m 18 #[.val (.int p0), .val (.int p1), .val (.int p2), .val (.int p3), .val (.int p4), .val (.int v5_1), .val (.int v6_2), .unset, .unset, .unset, .unset, .unset, .unset, .unset, .unset, .unset, .unset, .unset, .unset, .unset, .unset, .unset, .unset, .unset, .unset] [(.int ((p4.toUInt32 >>> ((2 : Int32) &&& 31).toUInt32).toInt32))])
  refine ogo (fun _ z_ => XS.iconst X0.here hx rfl (hb hby at_18) z_) ?_
  show OWay p e below G s₁ (mkF m 19 #[.val (.int p0), .val (.int p1), .val (.int p2), .val (.int p3), .val (.int p4), .val (.int v5_1), .val (.int v6_2), .unset, .unset, .unset, .unset, .unset, .unset, .unset, .unset, .unset, .unset, .unset, .unset, .unset, .unset, .unset, .unset, .unset, .unset] [(.int (1 : Int32)), (.int ((p4.toUInt32 >>> ((2 : Int32) &&& 31).toUInt32).toInt32))])
  refine ogo (fun _ z_ => XS.iand X0.here hx rfl (hb hby at_19) rfl z_) ?_
  show OWay p e below G s₁ (mkF m 20 #[.val (.int p0), .val (.int p1), .val (.int p2), .val (.int p3), .val (.int p4), .val (.int v5_1), .val (.int v6_2), .unset, .unset, .unset, .unset, .unset, .unset, .unset, .unset, .unset, .unset, .unset, .unset, .unset, .unset, .unset, .unset, .unset, .unset] [(.int (((p4.toUInt32 >>> ((2 : Int32) &&& 31).toUInt32).toInt32) &&& (1 : Int32)))])
  have J4 : ∀ (us0_3 : Int32), us0_3 = (if (((p4.toUInt32 >>> ((2 : Int32) &&& 31).toUInt32).toInt32) &&& (1 : Int32)) = (0 : Int32) then (0 : Int32) else (1 : Int32)) → OWay p e below G s₁ (mkF m 28 #[.val (.int p0), .val (.int p1), .val (.int p2), .val (.int p3), .val (.int p4), .val (.int v5_1), .val (.int v6_2), .unset, .unset, .unset, .unset, .unset, .unset, .unset, .unset, .unset, .unset, .unset, .unset, .unset, .unset, .unset, .unset, .unset, .unset] [(.int us0_3)]) := by
    intro us0_3 hus0_3
    refine ogo (fun _ z_ => XS.istore X0.here hx rfl (hb hby at_28) rfl (l' := #[.val (.int p0), .val (.int p1), .val (.int p2), .val (.int p3), .val (.int p4), .val (.int v5_1), .val (.int v6_2), .val (.int us0_3), .unset, .unset, .unset, .unset, .unset, .unset, .unset, .unset, .unset, .unset, .unset, .unset, .unset, .unset, .unset, .unset, .unset]) rfl z_) ?_
    show OWay p e below G s₁ (mkF m 30 #[.val (.int p0), .val (.int p1), .val (.int p2), .val (.int p3), .val (.int p4), .val (.int v5_1), .val (.int v6_2), .val (.int us0_3), .unset, .unset, .unset, .unset, .unset, .unset, .unset, .unset, .unset, .unset, .unset, .unset, .unset, .unset, .unset, .unset, .unset] [])
    obtain ⟨T5, h5, X5, eT5, E5, A5, D5, -, st5⟩ := newO X0 hx hZ hown (hw _ (List.mem_of_getElem? (i := 0) rfl)) (hw _ (List.mem_of_getElem? (i := 1) rfl)) (hw _ (List.mem_of_getElem? (i := 2) rfl)) eh0 (g := (mkF m 30 #[.val (.int p0), .val (.int p1), .val (.int p2), .val (.int p3), .val (.int p4), .val (.int v5_1), .val (.int v6_2), .val (.int us0_3), .unset, .unset, .unset, .unset, .unset, .unset, .unset, .unset, .unset, .unset, .unset, .unset, .unset, .unset, .unset, .unset, .unset] [])) rfl (hb hby at_30) (by decide) (by decide)
    obtain ⟨b5, g5⟩ : ∃ z, z = h0.size := ⟨_, rfl⟩
    rw [← g5] at A5 D5 st5
    have g_b5 : n0 ≤ b5 := Nat.le_trans Z0 (Nat.le_of_eq g5.symm)
    have sz_b5 : h0.size ≤ b5 := Nat.le_trans K0.1 (Nat.le_of_eq g5.symm)
    have K6 : Keep h0 h5 [] := K0.ext E5
    have F_modCount_b5 : Fld Z h5 b5 "java/util/AbstractList" "modCount" "I" (.int (0 : Int32)) := D5 (Or.inl (hw _ (List.mem_of_getElem? (i := 22) rfl))) (ty := .int) (by decide)
    have F_elementData_b5 : Fld Z h5 b5 "java/util/ArrayList" "elementData" "[Ljava/lang/Object;" .null := D5 (Or.inl (hw _ (List.mem_of_getElem? (i := 25) rfl))) (ty := (.array (.object "java/lang/Object"))) (by decide)
    have F_size_b5 : Fld Z h5 b5 "java/util/ArrayList" "size" "I" (.int (0 : Int32)) := D5 (Or.inl (hw _ (List.mem_of_getElem? (i := 65) rfl))) (ty := .int) (by decide)
    refine ogo st5 ?_
    show OWay p e below G T5 (mkF m 33 #[.val (.int p0), .val (.int p1), .val (.int p2), .val (.int p3), .val (.int p4), .val (.int v5_1), .val (.int v6_2), .val (.int us0_3), .unset, .unset, .unset, .unset, .unset, .unset, .unset, .unset, .unset, .unset, .unset, .unset, .unset, .unset, .unset, .unset, .unset] [(.ref b5)])
    refine ogo (fun _ z_ => XS.dup X5.here hx rfl (hb hby at_33) rfl rfl z_) ?_
    show OWay p e below G T5 (mkF m 34 #[.val (.int p0), .val (.int p1), .val (.int p2), .val (.int p3), .val (.int p4), .val (.int v5_1), .val (.int v6_2), .val (.int us0_3), .unset, .unset, .unset, .unset, .unset, .unset, .unset, .unset, .unset, .unset, .unset, .unset, .unset, .unset, .unset, .unset, .unset] [(.ref b5), (.ref b5)])
    have F7 : Old Z n0 h5 := (hp2.ext E5)
    obtain ⟨_, T8, L8, X8, hQ8, st8⟩ := wInit X5 hx hZ (y := (⟨"java/util/ArrayList", "<init>", "()V"⟩ : MethodName)) rfl hown (hw _ (List.mem_of_getElem? (i := 3) rfl)) (hw _ (List.mem_of_getElem? (i := 4) rfl)) (hw _ (List.mem_of_getElem? (i := 2) rfl)) (hw _ (List.mem_of_getElem? (i := 5) rfl)) (by decide) (alinit_c l Z az hw [] b5 ev h5 n0 (Nat.le_trans Z0 E5.1) A5 g_b5 F_modCount_b5 F_elementData_b5 F_size_b5 hp0 F7) 1 (by decide) (by decide) (g := (mkF m 34 #[.val (.int p0), .val (.int p1), .val (.int p2), .val (.int p3), .val (.int p4), .val (.int v5_1), .val (.int v6_2), .val (.int us0_3), .unset, .unset, .unset, .unset, .unset, .unset, .unset, .unset, .unset, .unset, .unset, .unset, .unset, .unset, .unset, .unset, .unset] [(.ref b5), (.ref b5)])) rfl (by rw [hml]; rfl) (a := b5) (argsL := []) (rest := [(.ref b5)]) (lenOf pd___V rfl) rfl (by show 2 * 0 + _ ≤ _; exact Nat.le_of_eq rfl) (hb hby at_34) rfl eT5 (by decide) (by decide)
    obtain ⟨rfl, N8q, Kq8, P9, P10, P11⟩ := hQ8
    have N8 := Fr.app N0 N8q
    have K12 : Keep h0 T8.heap [] := K6.trans Kq8 (allS (Or.inr sz_b5) all0)
    refine ogoS st8 ?_
    show OWay p e below G T8 (mkF m 37 #[.val (.int p0), .val (.int p1), .val (.int p2), .val (.int p3), .val (.int p4), .val (.int v5_1), .val (.int v6_2), .val (.int us0_3), .unset, .unset, .unset, .unset, .unset, .unset, .unset, .unset, .unset, .unset, .unset, .unset, .unset, .unset, .unset, .unset, .unset] [(.ref b5)])
    refine ogo (fun _ z_ => XS.astore X8.here hx rfl (hb hby at_37) rfl rfl (l' := #[.val (.int p0), .val (.int p1), .val (.int p2), .val (.int p3), .val (.int p4), .val (.int v5_1), .val (.int v6_2), .val (.int us0_3), .val (.ref b5), .unset, .unset, .unset, .unset, .unset, .unset, .unset, .unset, .unset, .unset, .unset, .unset, .unset, .unset, .unset, .unset]) rfl z_) ?_
    show OWay p e below G T8 (mkF m 39 #[.val (.int p0), .val (.int p1), .val (.int p2), .val (.int p3), .val (.int p4), .val (.int v5_1), .val (.int v6_2), .val (.int us0_3), .val (.ref b5), .unset, .unset, .unset, .unset, .unset, .unset, .unset, .unset, .unset, .unset, .unset, .unset, .unset, .unset, .unset, .unset] [])
    refine ogo (fun _ z_ => XS.aload X8.here hx rfl (hb hby at_39) rfl rfl z_) ?_
    show OWay p e below G T8 (mkF m 41 #[.val (.int p0), .val (.int p1), .val (.int p2), .val (.int p3), .val (.int p4), .val (.int v5_1), .val (.int v6_2), .val (.int us0_3), .val (.ref b5), .unset, .unset, .unset, .unset, .unset, .unset, .unset, .unset, .unset, .unset, .unset, .unset, .unset, .unset, .unset, .unset] [(.ref b5)])
    obtain ⟨T13, h13, X13, eT13, E13, A13, D13, -, st13⟩ := newO X8 hx hZ hown (hw _ (List.mem_of_getElem? (i := 26) rfl)) (hw _ (List.mem_of_getElem? (i := 27) rfl)) (hw _ (List.mem_of_getElem? (i := 28) rfl)) rfl (g := (mkF m 41 #[.val (.int p0), .val (.int p1), .val (.int p2), .val (.int p3), .val (.int p4), .val (.int v5_1), .val (.int v6_2), .val (.int us0_3), .val (.ref b5), .unset, .unset, .unset, .unset, .unset, .unset, .unset, .unset, .unset, .unset, .unset, .unset, .unset, .unset, .unset, .unset] [(.ref b5)])) rfl (hb hby at_41) (by decide) (by decide)
    obtain ⟨b13, g13⟩ : ∃ z, z = T8.heap.size := ⟨_, rfl⟩
    rw [← g13] at A13 D13 st13
    have g_b13 : n0 ≤ b13 := Nat.le_trans (Nat.le_trans (Nat.le_trans Z0 E5.1) Kq8.1) (Nat.le_of_eq g13.symm)
    have sz_b13 : h0.size ≤ b13 := Nat.le_trans K12.1 (Nat.le_of_eq g13.symm)
    have K14 : Keep h0 h13 [] := K12.ext E13
    have F_longitude_b13 : Fld Z h13 b13 "com/example/wakeline/wakeline/trajectory/Point" "longitude" "D" (.double (0 : UInt64)) := D13 (Or.inr (hw _ (List.mem_of_getElem? (i := 52) rfl))) (ty := .double) (by decide)
    have F_latitude_b13 : Fld Z h13 b13 "com/example/wakeline/wakeline/trajectory/Point" "latitude" "D" (.double (0 : UInt64)) := D13 (Or.inr (hw _ (List.mem_of_getElem? (i := 54) rfl))) (ty := .double) (by decide)
    have F_epochMilli_b13 : Fld Z h13 b13 "com/example/wakeline/wakeline/trajectory/Point" "epochMilli" "J" (.long (0 : Int64)) := D13 (Or.inr (hw _ (List.mem_of_getElem? (i := 56) rfl))) (ty := .long) (by decide)
    refine ogo st13 ?_
    show OWay p e below G T13 (mkF m 44 #[.val (.int p0), .val (.int p1), .val (.int p2), .val (.int p3), .val (.int p4), .val (.int v5_1), .val (.int v6_2), .val (.int us0_3), .val (.ref b5), .unset, .unset, .unset, .unset, .unset, .unset, .unset, .unset, .unset, .unset, .unset, .unset, .unset, .unset, .unset, .unset] [(.ref b13), (.ref b5)])
    refine ogo (fun _ z_ => XS.dup X13.here hx rfl (hb hby at_44) rfl rfl z_) ?_
    show OWay p e below G T13 (mkF m 45 #[.val (.int p0), .val (.int p1), .val (.int p2), .val (.int p3), .val (.int p4), .val (.int v5_1), .val (.int v6_2), .val (.int us0_3), .val (.ref b5), .unset, .unset, .unset, .unset, .unset, .unset, .unset, .unset, .unset, .unset, .unset, .unset, .unset, .unset, .unset, .unset] [(.ref b13), (.ref b13), (.ref b5)])
    refine ogo (fun _ z_ => XS.iloadN X13.here hx rfl (hb hby at_45) rfl z_) ?_
    show OWay p e below G T13 (mkF m 46 #[.val (.int p0), .val (.int p1), .val (.int p2), .val (.int p3), .val (.int p4), .val (.int v5_1), .val (.int v6_2), .val (.int us0_3), .val (.ref b5), .unset, .unset, .unset, .unset, .unset, .unset, .unset, .unset, .unset, .unset, .unset, .unset, .unset, .unset, .unset, .unset] [(.int p0), (.ref b13), (.ref b13), (.ref b5)])
    obtain ⟨_, T15, L15, X15, hQ15, st15⟩ := wStatic X13 hx hZ (y := (⟨"com/example/wakeline/wakeline/similarity/CoordinatesSquaredDistancePinLaw", "lonQ", "(I)I"⟩ : MethodName)) hown (hw _ (List.mem_of_getElem? (i := 29) rfl)) (hw _ (List.mem_of_getElem? (i := 30) rfl)) (hw _ (List.mem_of_getElem? (i := 31) rfl)) (hw _ (List.mem_of_getElem? (i := 32) rfl)) (by decide) (lonQ_b_c l Z az hw [] p0 h13 n0 (Nat.le_trans (Nat.le_trans (Nat.le_trans Z0 E5.1) Kq8.1) E13.1)) 3 (by decide) (by decide) (g := (mkF m 46 #[.val (.int p0), .val (.int p1), .val (.int p2), .val (.int p3), .val (.int p4), .val (.int v5_1), .val (.int v6_2), .val (.int us0_3), .val (.ref b5), .unset, .unset, .unset, .unset, .unset, .unset, .unset, .unset, .unset, .unset, .unset, .unset, .unset, .unset, .unset, .unset] [(.int p0), (.ref b13), (.ref b13), (.ref b5)])) rfl (by rw [hml]; rfl) (argsL := [(.int p0)]) (rest := [(.ref b13), (.ref b13), (.ref b5)]) (lenOf pd__I_I rfl) rfl (by show 2 * 0 + _ ≤ _; exact Nat.le_of_eq rfl) (hb hby at_46) rfl eT13 (by decide) (by decide)
    obtain ⟨rfl, N15q, eq15⟩ := hQ15
    have N15 := Fr.app N8 N15q
    refine ogo st15 ?_
    show OWay p e below G T15 (mkF m 49 #[.val (.int p0), .val (.int p1), .val (.int p2), .val (.int p3), .val (.int p4), .val (.int v5_1), .val (.int v6_2), .val (.int us0_3), .val (.ref b5), .unset, .unset, .unset, .unset, .unset, .unset, .unset, .unset, .unset, .unset, .unset, .unset, .unset, .unset, .unset, .unset] [(.int (lonQ p0)), (.ref b13), (.ref b13), (.ref b5)])
    refine ogo (fun _ z_ => XS.i2dS X15.here hx rfl (hb hby at_49) rfl rfl z_) ?_
    show OWay p e below G T15 (mkF m 50 #[.val (.int p0), .val (.int p1), .val (.int p2), .val (.int p3), .val (.int p4), .val (.int v5_1), .val (.int v6_2), .val (.int us0_3), .val (.ref b5), .unset, .unset, .unset, .unset, .unset, .unset, .unset, .unset, .unset, .unset, .unset, .unset, .unset, .unset, .unset, .unset] [(.double (FP.i2d (lonQ p0))), (.ref b13), (.ref b13), (.ref b5)])
    refine ogo (fun _ z_ => X15.ldc2DoubleC hx hown (mvT hZ (hw _ (List.mem_of_getElem? (i := 34) rfl))) (g := (mkF m 50 #[.val (.int p0), .val (.int p1), .val (.int p2), .val (.int p3), .val (.int p4), .val (.int v5_1), .val (.int v6_2), .val (.int us0_3), .val (.ref b5), .unset, .unset, .unset, .unset, .unset, .unset, .unset, .unset, .unset, .unset, .unset, .unset, .unset, .unset, .unset, .unset] [(.double (FP.i2d (lonQ p0))), (.ref b13), (.ref b13), (.ref b5)])) rfl (hb hby at_50) _ z_) ?_
    show OWay p e below G T15 (mkF m 53 #[.val (.int p0), .val (.int p1), .val (.int p2), .val (.int p3), .val (.int p4), .val (.int v5_1), .val (.int v6_2), .val (.int us0_3), .val (.ref b5), .unset, .unset, .unset, .unset, .unset, .unset, .unset, .unset, .unset, .unset, .unset, .unset, .unset, .unset, .unset, .unset] [(.double (4616189618054758400 : UInt64)), (.double (FP.i2d (lonQ p0))), (.ref b13), (.ref b13), (.ref b5)])
    refine ogo (fun _ z_ => XS.ddivS X15.here hx rfl (hb hby at_53) rfl (dy_nn (own_q4 (lonQ p0))) rfl z_) ?_
    show OWay p e below G T15 (mkF m 54 #[.val (.int p0), .val (.int p1), .val (.int p2), .val (.int p3), .val (.int p4), .val (.int v5_1), .val (.int v6_2), .val (.int us0_3), .val (.ref b5), .unset, .unset, .unset, .unset, .unset, .unset, .unset, .unset, .unset, .unset, .unset, .unset, .unset, .unset, .unset, .unset] [(.double (FP.ddiv (FP.i2d (lonQ p0)) (4616189618054758400 : UInt64))), (.ref b13), (.ref b13), (.ref b5)])
    refine ogo (fun _ z_ => XS.iloadN X15.here hx rfl (hb hby at_54) rfl z_) ?_
    show OWay p e below G T15 (mkF m 55 #[.val (.int p0), .val (.int p1), .val (.int p2), .val (.int p3), .val (.int p4), .val (.int v5_1), .val (.int v6_2), .val (.int us0_3), .val (.ref b5), .unset, .unset, .unset, .unset, .unset, .unset, .unset, .unset, .unset, .unset, .unset, .unset, .unset, .unset, .unset, .unset] [(.int p0), (.double (FP.ddiv (FP.i2d (lonQ p0)) (4616189618054758400 : UInt64))), (.ref b13), (.ref b13), (.ref b5)])
    obtain ⟨_, T16, L16, X16, hQ16, st16⟩ := wStatic X15 hx hZ (y := (⟨"com/example/wakeline/wakeline/similarity/CoordinatesSquaredDistancePinLaw", "latQ", "(I)I"⟩ : MethodName)) hown (hw _ (List.mem_of_getElem? (i := 35) rfl)) (hw _ (List.mem_of_getElem? (i := 36) rfl)) (hw _ (List.mem_of_getElem? (i := 31) rfl)) (hw _ (List.mem_of_getElem? (i := 37) rfl)) (by decide) (latQ_b_c l Z az hw [] p0 h13 n0 (Nat.le_trans (Nat.le_trans (Nat.le_trans Z0 E5.1) Kq8.1) E13.1)) 5 (by decide) (by decide) (g := (mkF m 55 #[.val (.int p0), .val (.int p1), .val (.int p2), .val (.int p3), .val (.int p4), .val (.int v5_1), .val (.int v6_2), .val (.int us0_3), .val (.ref b5), .unset, .unset, .unset, .unset, .unset, .unset, .unset, .unset, .unset, .unset, .unset, .unset, .unset, .unset, .unset, .unset] [(.int p0), (.double (FP.ddiv (FP.i2d (lonQ p0)) (4616189618054758400 : UInt64))), (.ref b13), (.ref b13), (.ref b5)])) rfl (by rw [hml]; rfl) (argsL := [(.int p0)]) (rest := [(.double (FP.ddiv (FP.i2d (lonQ p0)) (4616189618054758400 : UInt64))), (.ref b13), (.ref b13), (.ref b5)]) (lenOf pd__I_I rfl) rfl (by show 2 * 0 + _ ≤ _; exact Nat.le_of_eq rfl) (hb hby at_55) rfl eq15 (by decide) (by decide)
    obtain ⟨rfl, N16q, eq16⟩ := hQ16
    have N16 := Fr.app N15 N16q
    refine ogo st16 ?_
    show OWay p e below G T16 (mkF m 58 #[.val (.int p0), .val (.int p1), .val (.int p2), .val (.int p3), .val (.int p4), .val (.int v5_1), .val (.int v6_2), .val (.int us0_3), .val (.ref b5), .unset, .unset, .unset, .unset, .unset, .unset, .unset, .unset, .unset, .unset, .unset, .unset, .unset, .unset, .unset, .unset] [(.int (latQ p0)), (.double (FP.ddiv (FP.i2d (lonQ p0)) (4616189618054758400 : UInt64))), (.ref b13), (.ref b13), (.ref b5)])
    refine ogo (fun _ z_ => XS.i2dS X16.here hx rfl (hb hby at_58) rfl rfl z_) ?_
    show OWay p e below G T16 (mkF m 59 #[.val (.int p0), .val (.int p1), .val (.int p2), .val (.int p3), .val (.int p4), .val (.int v5_1), .val (.int v6_2), .val (.int us0_3), .val (.ref b5), .unset, .unset, .unset, .unset, .unset, .unset, .unset, .unset, .unset, .unset, .unset, .unset, .unset, .unset, .unset, .unset] [(.double (FP.i2d (latQ p0))), (.double (FP.ddiv (FP.i2d (lonQ p0)) (4616189618054758400 : UInt64))), (.ref b13), (.ref b13), (.ref b5)])
    refine ogo (fun _ z_ => X16.ldc2DoubleC hx hown (mvT hZ (hw _ (List.mem_of_getElem? (i := 34) rfl))) (g := (mkF m 59 #[.val (.int p0), .val (.int p1), .val (.int p2), .val (.int p3), .val (.int p4), .val (.int v5_1), .val (.int v6_2), .val (.int us0_3), .val (.ref b5), .unset, .unset, .unset, .unset, .unset, .unset, .unset, .unset, .unset, .unset, .unset, .unset, .unset, .unset, .unset, .unset] [(.double (FP.i2d (latQ p0))), (.double (FP.ddiv (FP.i2d (lonQ p0)) (4616189618054758400 : UInt64))), (.ref b13), (.ref b13), (.ref b5)])) rfl (hb hby at_59) _ z_) ?_
    show OWay p e below G T16 (mkF m 62 #[.val (.int p0), .val (.int p1), .val (.int p2), .val (.int p3), .val (.int p4), .val (.int v5_1), .val (.int v6_2), .val (.int us0_3), .val (.ref b5), .unset, .unset, .unset, .unset, .unset, .unset, .unset, .unset, .unset, .unset, .unset, .unset, .unset, .unset, .unset, .unset] [(.double (4616189618054758400 : UInt64)), (.double (FP.i2d (latQ p0))), (.double (FP.ddiv (FP.i2d (lonQ p0)) (4616189618054758400 : UInt64))), (.ref b13), (.ref b13), (.ref b5)])
    refine ogo (fun _ z_ => XS.ddivS X16.here hx rfl (hb hby at_62) rfl (dy_nn (own_q4 (latQ p0))) rfl z_) ?_
    show OWay p e below G T16 (mkF m 63 #[.val (.int p0), .val (.int p1), .val (.int p2), .val (.int p3), .val (.int p4), .val (.int v5_1), .val (.int v6_2), .val (.int us0_3), .val (.ref b5), .unset, .unset, .unset, .unset, .unset, .unset, .unset, .unset, .unset, .unset, .unset, .unset, .unset, .unset, .unset, .unset] [(.double (FP.ddiv (FP.i2d (latQ p0)) (4616189618054758400 : UInt64))), (.double (FP.ddiv (FP.i2d (lonQ p0)) (4616189618054758400 : UInt64))), (.ref b13), (.ref b13), (.ref b5)])
    refine ogo (fun _ z_ => XS.lconst X16.here hx rfl (hb hby at_63) z_) ?_
    show OWay p e below G T16 (mkF m 64 #[.val (.int p0), .val (.int p1), .val (.int p2), .val (.int p3), .val (.int p4), .val (.int v5_1), .val (.int v6_2), .val (.int us0_3), .val (.ref b5), .unset, .unset, .unset, .unset, .unset, .unset, .unset, .unset, .unset, .unset, .unset, .unset, .unset, .unset, .unset, .unset] [(.long (0 : Int64)), (.double (FP.ddiv (FP.i2d (latQ p0)) (4616189618054758400 : UInt64))), (.double (FP.ddiv (FP.i2d (lonQ p0)) (4616189618054758400 : UInt64))), (.ref b13), (.ref b13), (.ref b5)])
    obtain ⟨_, T17, L17, X17, hQ17, st17⟩ := wInit X16 hx hZ (y := (⟨"com/example/wakeline/wakeline/trajectory/Point", "<init>", "(DDJ)V"⟩ : MethodName)) rfl hown (hw _ (List.mem_of_getElem? (i := 38) rfl)) (hw _ (List.mem_of_getElem? (i := 39) rfl)) (hw _ (List.mem_of_getElem? (i := 28) rfl)) (hw _ (List.mem_of_getElem? (i := 40) rfl)) (by decide) (ctor7_c l Z az hw [] b13 (FP.ddiv (FP.i2d (lonQ p0)) (4616189618054758400 : UInt64)) (FP.ddiv (FP.i2d (latQ p0)) (4616189618054758400 : UInt64)) (0 : Int64) h13 n0 (Nat.le_trans (Nat.le_trans (Nat.le_trans Z0 E5.1) Kq8.1) E13.1) A13 g_b13 F_longitude_b13 F_latitude_b13 F_epochMilli_b13 (own_nlt (own_q4 _) dy_m180 (own_lon p0).1) (own_ngt (own_q4 _) dy_p180 (own_lon p0).2) (own_nlt (own_q4 _) dy_m90 (own_lat p0).1) (own_ngt (own_q4 _) dy_p90 (own_lat p0).2)) 2 (by decide) (by decide) (g := (mkF m 64 #[.val (.int p0), .val (.int p1), .val (.int p2), .val (.int p3), .val (.int p4), .val (.int v5_1), .val (.int v6_2), .val (.int us0_3), .val (.ref b5), .unset, .unset, .unset, .unset, .unset, .unset, .unset, .unset, .unset, .unset, .unset, .unset, .unset, .unset, .unset, .unset] [(.long (0 : Int64)), (.double (FP.ddiv (FP.i2d (latQ p0)) (4616189618054758400 : UInt64))), (.double (FP.ddiv (FP.i2d (lonQ p0)) (4616189618054758400 : UInt64))), (.ref b13), (.ref b13), (.ref b5)])) rfl (by rw [hml]; rfl) (a := b13) (argsL := [(.double (FP.ddiv (FP.i2d (lonQ p0)) (4616189618054758400 : UInt64))), (.double (FP.ddiv (FP.i2d (latQ p0)) (4616189618054758400 : UInt64))), (.long (0 : Int64))]) (rest := [(.ref b13), (.ref b5)]) (lenOf pd__DDJ_V rfl) rfl (by show 2 * 0 + _ ≤ _; exact Nat.le_of_eq rfl) (hb hby at_64) rfl eq16 (by decide) (by decide)
    obtain ⟨rfl, N17q, Kq17, P18, P19, P20⟩ := hQ17
    have N17 := Fr.app N16 N17q
    have K21 : Keep h0 T17.heap [] := K14.trans Kq17 (allS (Or.inr sz_b13) all0)
    refine ogoS st17 ?_
    show OWay p e below G T17 (mkF m 67 #[.val (.int p0), .val (.int p1), .val (.int p2), .val (.int p3), .val (.int p4), .val (.int v5_1), .val (.int v6_2), .val (.int us0_3), .val (.ref b5), .unset, .unset, .unset, .unset, .unset, .unset, .unset, .unset, .unset, .unset, .unset, .unset, .unset, .unset, .unset, .unset] [(.ref b13), (.ref b5)])
    have F22 : Exa Z T17.heap b5 "java/util/ArrayList" := (((A5.keep Kq8).ext E13).keep Kq17)
    have F23 : Fld Z T17.heap b5 "java/util/AbstractList" "modCount" "I" (.int (0 : Int32)) := ((P9.ext E13).keep Kq17 (ninS (Nat.ne_of_lt (Nat.lt_of_lt_of_le P9.lt (Nat.le_of_eq g13.symm))) nin0))
    have F24 : Fld Z T17.heap b5 "java/util/ArrayList" "elementData" "[Ljava/lang/Object;" (.ref ev) := ((P10.ext E13).keep Kq17 (ninS (Nat.ne_of_lt (Nat.lt_of_lt_of_le P10.lt (Nat.le_of_eq g13.symm))) nin0))
    have F25 : Fld Z T17.heap b5 "java/util/ArrayList" "size" "I" (.int (0 : Int32)) := ((P11.ext E13).keep Kq17 (ninS (Nat.ne_of_lt (Nat.lt_of_lt_of_le P11.lt (Nat.le_of_eq g13.symm))) nin0))
    have F26 : Old Z n0 T17.heap := (((F7.keep Kq8 (allS g_b5 all0)).ext E13).keep Kq17 (allS g_b13 all0))
    have F27 : Exa Z T17.heap b13 "com/example/wakeline/wakeline/trajectory/Point" := (A13.keep Kq17)
    obtain ⟨_, T28, L28, X28, hQ28, st28⟩ := wVirtual X17 hx hZ (y := (⟨"java/util/ArrayList", "add", "(Ljava/lang/Object;)Z"⟩ : MethodName)) (z := (⟨"java/util/ArrayList", "add", "(Ljava/lang/Object;)Z"⟩ : MethodName)) hown (hw _ (List.mem_of_getElem? (i := 57) rfl)) (hw _ (List.mem_of_getElem? (i := 58) rfl)) (notFace_of_selects (args := #[]) (mvT hZ (hw _ (List.mem_of_getElem? (i := 60) rfl)))) (hw _ (List.mem_of_getElem? (i := 60) rfl)) (hw _ (List.mem_of_getElem? (i := 59) rfl)) (hw _ (List.mem_of_getElem? (i := 2) rfl)) (hw _ (List.mem_of_getElem? (i := 61) rfl)) (by decide) (add1_c l Z az hw [] b5 b13 ev kE T17.heap n0 (Nat.le_trans (Nat.le_trans (Nat.le_trans (Nat.le_trans Z0 E5.1) Kq8.1) E13.1) Kq17.1) F22 g_b5 F23 F24 F25 hp0 hp1 F26 F27) 0 (by decide) (by decide) F22 (g := (mkF m 67 #[.val (.int p0), .val (.int p1), .val (.int p2), .val (.int p3), .val (.int p4), .val (.int v5_1), .val (.int v6_2), .val (.int us0_3), .val (.ref b5), .unset, .unset, .unset, .unset, .unset, .unset, .unset, .unset, .unset, .unset, .unset, .unset, .unset, .unset, .unset, .unset] [(.ref b13), (.ref b5)])) rfl (by rw [hml]; rfl) (argsL := [(.ref b13)]) (rest := []) (lenOf pd__Ljava_lang_Object__Z rfl) rfl (by show 2 * 0 + _ ≤ _; exact Nat.le_of_eq rfl) (hb hby at_67) rfl rfl (by decide) (by decide)
    obtain ⟨b_29, k_30, rfl, N28q, Kq28, P31, P32, P33, P34, P35, P36, O_37⟩ := hQ28
    have N28 := Fr.app N17 N28q
    have K38 : Keep h0 T28.heap [] := K21.trans Kq28 (allS (Or.inr sz_b5) all0)
    have g_b_29 := P31
    have sz_b_29 : h0.size ≤ b_29 := Nat.le_trans K21.1 P32
    refine ogoS st28 ?_
    show OWay p e below G T28 (mkF m 70 #[.val (.int p0), .val (.int p1), .val (.int p2), .val (.int p3), .val (.int p4), .val (.int v5_1), .val (.int v6_2), .val (.int us0_3), .val (.ref b5), .unset, .unset, .unset, .unset, .unset, .unset, .unset, .unset, .unset, .unset, .unset, .unset, .unset, .unset, .unset, .unset] [(.int (1 : Int32))])
    refine ogo (fun _ z_ => XS.pop X28.here hx rfl (hb hby at_70) rfl rfl z_) ?_
    show OWay p e below G T28 (mkF m 71 #[.val (.int p0), .val (.int p1), .val (.int p2), .val (.int p3), .val (.int p4), .val (.int v5_1), .val (.int v6_2), .val (.int us0_3), .val (.ref b5), .unset, .unset, .unset, .unset, .unset, .unset, .unset, .unset, .unset, .unset, .unset, .unset, .unset, .unset, .unset, .unset] [])
    refine ogo (fun _ z_ => XS.aload X28.here hx rfl (hb hby at_71) rfl rfl z_) ?_
    show OWay p e below G T28 (mkF m 73 #[.val (.int p0), .val (.int p1), .val (.int p2), .val (.int p3), .val (.int p4), .val (.int v5_1), .val (.int v6_2), .val (.int us0_3), .val (.ref b5), .unset, .unset, .unset, .unset, .unset, .unset, .unset, .unset, .unset, .unset, .unset, .unset, .unset, .unset, .unset, .unset] [(.ref b5)])
    obtain ⟨T39, h39, X39, eT39, E39, A39, D39, -, st39⟩ := newO X28 hx hZ hown (hw _ (List.mem_of_getElem? (i := 26) rfl)) (hw _ (List.mem_of_getElem? (i := 27) rfl)) (hw _ (List.mem_of_getElem? (i := 28) rfl)) rfl (g := (mkF m 73 #[.val (.int p0), .val (.int p1), .val (.int p2), .val (.int p3), .val (.int p4), .val (.int v5_1), .val (.int v6_2), .val (.int us0_3), .val (.ref b5), .unset, .unset, .unset, .unset, .unset, .unset, .unset, .unset, .unset, .unset, .unset, .unset, .unset, .unset, .unset, .unset] [(.ref b5)])) rfl (hb hby at_73) (by decide) (by decide)
    obtain ⟨b39, g39⟩ : ∃ z, z = T28.heap.size := ⟨_, rfl⟩
    rw [← g39] at A39 D39 st39
    have g_b39 : n0 ≤ b39 := Nat.le_trans (Nat.le_trans (Nat.le_trans (Nat.le_trans (Nat.le_trans (Nat.le_trans Z0 E5.1) Kq8.1) E13.1) Kq17.1) Kq28.1) (Nat.le_of_eq g39.symm)
    have sz_b39 : h0.size ≤ b39 := Nat.le_trans K38.1 (Nat.le_of_eq g39.symm)
    have K40 : Keep h0 h39 [] := K38.ext E39
    have F_longitude_b39 : Fld Z h39 b39 "com/example/wakeline/wakeline/trajectory/Point" "longitude" "D" (.double (0 : UInt64)) := D39 (Or.inr (hw _ (List.mem_of_getElem? (i := 52) rfl))) (ty := .double) (by decide)
    have F_latitude_b39 : Fld Z h39 b39 "com/example/wakeline/wakeline/trajectory/Point" "latitude" "D" (.double (0 : UInt64)) := D39 (Or.inr (hw _ (List.mem_of_getElem? (i := 54) rfl))) (ty := .double) (by decide)
    have F_epochMilli_b39 : Fld Z h39 b39 "com/example/wakeline/wakeline/trajectory/Point" "epochMilli" "J" (.long (0 : Int64)) := D39 (Or.inr (hw _ (List.mem_of_getElem? (i := 56) rfl))) (ty := .long) (by decide)
    refine ogo st39 ?_
    show OWay p e below G T39 (mkF m 76 #[.val (.int p0), .val (.int p1), .val (.int p2), .val (.int p3), .val (.int p4), .val (.int v5_1), .val (.int v6_2), .val (.int us0_3), .val (.ref b5), .unset, .unset, .unset, .unset, .unset, .unset, .unset, .unset, .unset, .unset, .unset, .unset, .unset, .unset, .unset, .unset] [(.ref b39), (.ref b5)])
    refine ogo (fun _ z_ => XS.dup X39.here hx rfl (hb hby at_76) rfl rfl z_) ?_
    show OWay p e below G T39 (mkF m 77 #[.val (.int p0), .val (.int p1), .val (.int p2), .val (.int p3), .val (.int p4), .val (.int v5_1), .val (.int v6_2), .val (.int us0_3), .val (.ref b5), .unset, .unset, .unset, .unset, .unset, .unset, .unset, .unset, .unset, .unset, .unset, .unset, .unset, .unset, .unset, .unset] [(.ref b39), (.ref b39), (.ref b5)])
    refine ogo (fun _ z_ => XS.iloadN X39.here hx rfl (hb hby at_77) rfl z_) ?_
    show OWay p e below G T39 (mkF m 78 #[.val (.int p0), .val (.int p1), .val (.int p2), .val (.int p3), .val (.int p4), .val (.int v5_1), .val (.int v6_2), .val (.int us0_3), .val (.ref b5), .unset, .unset, .unset, .unset, .unset, .unset, .unset, .unset, .unset, .unset, .unset, .unset, .unset, .unset, .unset, .unset] [(.int p1), (.ref b39), (.ref b39), (.ref b5)])
    obtain ⟨_, T41, L41, X41, hQ41, st41⟩ := wStatic X39 hx hZ (y := (⟨"com/example/wakeline/wakeline/similarity/CoordinatesSquaredDistancePinLaw", "lonQ", "(I)I"⟩ : MethodName)) hown (hw _ (List.mem_of_getElem? (i := 29) rfl)) (hw _ (List.mem_of_getElem? (i := 30) rfl)) (hw _ (List.mem_of_getElem? (i := 31) rfl)) (hw _ (List.mem_of_getElem? (i := 32) rfl)) (by decide) (lonQ_b_c l Z az hw [] p1 h39 n0 (Nat.le_trans (Nat.le_trans (Nat.le_trans (Nat.le_trans (Nat.le_trans (Nat.le_trans Z0 E5.1) Kq8.1) E13.1) Kq17.1) Kq28.1) E39.1)) 3 (by decide) (by decide) (g := (mkF m 78 #[.val (.int p0), .val (.int p1), .val (.int p2), .val (.int p3), .val (.int p4), .val (.int v5_1), .val (.int v6_2), .val (.int us0_3), .val (.ref b5), .unset, .unset, .unset, .unset, .unset, .unset, .unset, .unset, .unset, .unset, .unset, .unset, .unset, .unset, .unset, .unset] [(.int p1), (.ref b39), (.ref b39), (.ref b5)])) rfl (by rw [hml]; rfl) (argsL := [(.int p1)]) (rest := [(.ref b39), (.ref b39), (.ref b5)]) (lenOf pd__I_I rfl) rfl (by show 2 * 0 + _ ≤ _; exact Nat.le_of_eq rfl) (hb hby at_78) rfl eT39 (by decide) (by decide)
    obtain ⟨rfl, N41q, eq41⟩ := hQ41
    have N41 := Fr.app N28 N41q
    refine ogo st41 ?_
    show OWay p e below G T41 (mkF m 81 #[.val (.int p0), .val (.int p1), .val (.int p2), .val (.int p3), .val (.int p4), .val (.int v5_1), .val (.int v6_2), .val (.int us0_3), .val (.ref b5), .unset, .unset, .unset, .unset, .unset, .unset, .unset, .unset, .unset, .unset, .unset, .unset, .unset, .unset, .unset, .unset] [(.int (lonQ p1)), (.ref b39), (.ref b39), (.ref b5)])
    refine ogo (fun _ z_ => XS.i2dS X41.here hx rfl (hb hby at_81) rfl rfl z_) ?_
    show OWay p e below G T41 (mkF m 82 #[.val (.int p0), .val (.int p1), .val (.int p2), .val (.int p3), .val (.int p4), .val (.int v5_1), .val (.int v6_2), .val (.int us0_3), .val (.ref b5), .unset, .unset, .unset, .unset, .unset, .unset, .unset, .unset, .unset, .unset, .unset, .unset, .unset, .unset, .unset, .unset] [(.double (FP.i2d (lonQ p1))), (.ref b39), (.ref b39), (.ref b5)])
    refine ogo (fun _ z_ => X41.ldc2DoubleC hx hown (mvT hZ (hw _ (List.mem_of_getElem? (i := 34) rfl))) (g := (mkF m 82 #[.val (.int p0), .val (.int p1), .val (.int p2), .val (.int p3), .val (.int p4), .val (.int v5_1), .val (.int v6_2), .val (.int us0_3), .val (.ref b5), .unset, .unset, .unset, .unset, .unset, .unset, .unset, .unset, .unset, .unset, .unset, .unset, .unset, .unset, .unset, .unset] [(.double (FP.i2d (lonQ p1))), (.ref b39), (.ref b39), (.ref b5)])) rfl (hb hby at_82) _ z_) ?_
    show OWay p e below G T41 (mkF m 85 #[.val (.int p0), .val (.int p1), .val (.int p2), .val (.int p3), .val (.int p4), .val (.int v5_1), .val (.int v6_2), .val (.int us0_3), .val (.ref b5), .unset, .unset, .unset, .unset, .unset, .unset, .unset, .unset, .unset, .unset, .unset, .unset, .unset, .unset, .unset, .unset] [(.double (4616189618054758400 : UInt64)), (.double (FP.i2d (lonQ p1))), (.ref b39), (.ref b39), (.ref b5)])
    refine ogo (fun _ z_ => XS.ddivS X41.here hx rfl (hb hby at_85) rfl (dy_nn (own_q4 (lonQ p1))) rfl z_) ?_
    show OWay p e below G T41 (mkF m 86 #[.val (.int p0), .val (.int p1), .val (.int p2), .val (.int p3), .val (.int p4), .val (.int v5_1), .val (.int v6_2), .val (.int us0_3), .val (.ref b5), .unset, .unset, .unset, .unset, .unset, .unset, .unset, .unset, .unset, .unset, .unset, .unset, .unset, .unset, .unset, .unset] [(.double (FP.ddiv (FP.i2d (lonQ p1)) (4616189618054758400 : UInt64))), (.ref b39), (.ref b39), (.ref b5)])
    refine ogo (fun _ z_ => XS.iloadN X41.here hx rfl (hb hby at_86) rfl z_) ?_
    show OWay p e below G T41 (mkF m 87 #[.val (.int p0), .val (.int p1), .val (.int p2), .val (.int p3), .val (.int p4), .val (.int v5_1), .val (.int v6_2), .val (.int us0_3), .val (.ref b5), .unset, .unset, .unset, .unset, .unset, .unset, .unset, .unset, .unset, .unset, .unset, .unset, .unset, .unset, .unset, .unset] [(.int p1), (.double (FP.ddiv (FP.i2d (lonQ p1)) (4616189618054758400 : UInt64))), (.ref b39), (.ref b39), (.ref b5)])
    obtain ⟨_, T42, L42, X42, hQ42, st42⟩ := wStatic X41 hx hZ (y := (⟨"com/example/wakeline/wakeline/similarity/CoordinatesSquaredDistancePinLaw", "latQ", "(I)I"⟩ : MethodName)) hown (hw _ (List.mem_of_getElem? (i := 35) rfl)) (hw _ (List.mem_of_getElem? (i := 36) rfl)) (hw _ (List.mem_of_getElem? (i := 31) rfl)) (hw _ (List.mem_of_getElem? (i := 37) rfl)) (by decide) (latQ_b_c l Z az hw [] p1 h39 n0 (Nat.le_trans (Nat.le_trans (Nat.le_trans (Nat.le_trans (Nat.le_trans (Nat.le_trans Z0 E5.1) Kq8.1) E13.1) Kq17.1) Kq28.1) E39.1)) 5 (by decide) (by decide) (g := (mkF m 87 #[.val (.int p0), .val (.int p1), .val (.int p2), .val (.int p3), .val (.int p4), .val (.int v5_1), .val (.int v6_2), .val (.int us0_3), .val (.ref b5), .unset, .unset, .unset, .unset, .unset, .unset, .unset, .unset, .unset, .unset, .unset, .unset, .unset, .unset, .unset, .unset] [(.int p1), (.double (FP.ddiv (FP.i2d (lonQ p1)) (4616189618054758400 : UInt64))), (.ref b39), (.ref b39), (.ref b5)])) rfl (by rw [hml]; rfl) (argsL := [(.int p1)]) (rest := [(.double (FP.ddiv (FP.i2d (lonQ p1)) (4616189618054758400 : UInt64))), (.ref b39), (.ref b39), (.ref b5)]) (lenOf pd__I_I rfl) rfl (by show 2 * 0 + _ ≤ _; exact Nat.le_of_eq rfl) (hb hby at_87) rfl eq41 (by decide) (by decide)
    obtain ⟨rfl, N42q, eq42⟩ := hQ42
    have N42 := Fr.app N41 N42q
    refine ogo st42 ?_
    show OWay p e below G T42 (mkF m 90 #[.val (.int p0), .val (.int p1), .val (.int p2), .val (.int p3), .val (.int p4), .val (.int v5_1), .val (.int v6_2), .val (.int us0_3), .val (.ref b5), .unset, .unset, .unset, .unset, .unset, .unset, .unset, .unset, .unset, .unset, .unset, .unset, .unset, .unset, .unset, .unset] [(.int (latQ p1)), (.double (FP.ddiv (FP.i2d (lonQ p1)) (4616189618054758400 : UInt64))), (.ref b39), (.ref b39), (.ref b5)])
    refine ogo (fun _ z_ => XS.i2dS X42.here hx rfl (hb hby at_90) rfl rfl z_) ?_
    show OWay p e below G T42 (mkF m 91 #[.val (.int p0), .val (.int p1), .val (.int p2), .val (.int p3), .val (.int p4), .val (.int v5_1), .val (.int v6_2), .val (.int us0_3), .val (.ref b5), .unset, .unset, .unset, .unset, .unset, .unset, .unset, .unset, .unset, .unset, .unset, .unset, .unset, .unset, .unset, .unset] [(.double (FP.i2d (latQ p1))), (.double (FP.ddiv (FP.i2d (lonQ p1)) (4616189618054758400 : UInt64))), (.ref b39), (.ref b39), (.ref b5)])
    refine ogo (fun _ z_ => X42.ldc2DoubleC hx hown (mvT hZ (hw _ (List.mem_of_getElem? (i := 34) rfl))) (g := (mkF m 91 #[.val (.int p0), .val (.int p1), .val (.int p2), .val (.int p3), .val (.int p4), .val (.int v5_1), .val (.int v6_2), .val (.int us0_3), .val (.ref b5), .unset, .unset, .unset, .unset, .unset, .unset, .unset, .unset, .unset, .unset, .unset, .unset, .unset, .unset, .unset, .unset] [(.double (FP.i2d (latQ p1))), (.double (FP.ddiv (FP.i2d (lonQ p1)) (4616189618054758400 : UInt64))), (.ref b39), (.ref b39), (.ref b5)])) rfl (hb hby at_91) _ z_) ?_
    show OWay p e below G T42 (mkF m 94 #[.val (.int p0), .val (.int p1), .val (.int p2), .val (.int p3), .val (.int p4), .val (.int v5_1), .val (.int v6_2), .val (.int us0_3), .val (.ref b5), .unset, .unset, .unset, .unset, .unset, .unset, .unset, .unset, .unset, .unset, .unset, .unset, .unset, .unset, .unset, .unset] [(.double (4616189618054758400 : UInt64)), (.double (FP.i2d (latQ p1))), (.double (FP.ddiv (FP.i2d (lonQ p1)) (4616189618054758400 : UInt64))), (.ref b39), (.ref b39), (.ref b5)])
    refine ogo (fun _ z_ => XS.ddivS X42.here hx rfl (hb hby at_94) rfl (dy_nn (own_q4 (latQ p1))) rfl z_) ?_
    show OWay p e below G T42 (mkF m 95 #[.val (.int p0), .val (.int p1), .val (.int p2), .val (.int p3), .val (.int p4), .val (.int v5_1), .val (.int v6_2), .val (.int us0_3), .val (.ref b5), .unset, .unset, .unset, .unset, .unset, .unset, .unset, .unset, .unset, .unset, .unset, .unset, .unset, .unset, .unset, .unset] [(.double (FP.ddiv (FP.i2d (latQ p1)) (4616189618054758400 : UInt64))), (.double (FP.ddiv (FP.i2d (lonQ p1)) (4616189618054758400 : UInt64))), (.ref b39), (.ref b39), (.ref b5)])
    refine ogo (fun _ z_ => XS.lconst X42.here hx rfl (hb hby at_95) z_) ?_
    show OWay p e below G T42 (mkF m 96 #[.val (.int p0), .val (.int p1), .val (.int p2), .val (.int p3), .val (.int p4), .val (.int v5_1), .val (.int v6_2), .val (.int us0_3), .val (.ref b5), .unset, .unset, .unset, .unset, .unset, .unset, .unset, .unset, .unset, .unset, .unset, .unset, .unset, .unset, .unset, .unset] [(.long (0 : Int64)), (.double (FP.ddiv (FP.i2d (latQ p1)) (4616189618054758400 : UInt64))), (.double (FP.ddiv (FP.i2d (lonQ p1)) (4616189618054758400 : UInt64))), (.ref b39), (.ref b39), (.ref b5)])
    obtain ⟨_, T43, L43, X43, hQ43, st43⟩ := wInit X42 hx hZ (y := (⟨"com/example/wakeline/wakeline/trajectory/Point", "<init>", "(DDJ)V"⟩ : MethodName)) rfl hown (hw _ (List.mem_of_getElem? (i := 38) rfl)) (hw _ (List.mem_of_getElem? (i := 39) rfl)) (hw _ (List.mem_of_getElem? (i := 28) rfl)) (hw _ (List.mem_of_getElem? (i := 40) rfl)) (by decide) (ctor7_c l Z az hw [] b39 (FP.ddiv (FP.i2d (lonQ p1)) (4616189618054758400 : UInt64)) (FP.ddiv (FP.i2d (latQ p1)) (4616189618054758400 : UInt64)) (0 : Int64) h39 n0 (Nat.le_trans (Nat.le_trans (Nat.le_trans (Nat.le_trans (Nat.le_trans (Nat.le_trans Z0 E5.1) Kq8.1) E13.1) Kq17.1) Kq28.1) E39.1) A39 g_b39 F_longitude_b39 F_latitude_b39 F_epochMilli_b39 (own_nlt (own_q4 _) dy_m180 (own_lon p1).1) (own_ngt (own_q4 _) dy_p180 (own_lon p1).2) (own_nlt (own_q4 _) dy_m90 (own_lat p1).1) (own_ngt (own_q4 _) dy_p90 (own_lat p1).2)) 2 (by decide) (by decide) (g := (mkF m 96 #[.val (.int p0), .val (.int p1), .val (.int p2), .val (.int p3), .val (.int p4), .val (.int v5_1), .val (.int v6_2), .val (.int us0_3), .val (.ref b5), .unset, .unset, .unset, .unset, .unset, .unset, .unset, .unset, .unset, .unset, .unset, .unset, .unset, .unset, .unset, .unset] [(.long (0 : Int64)), (.double (FP.ddiv (FP.i2d (latQ p1)) (4616189618054758400 : UInt64))), (.double (FP.ddiv (FP.i2d (lonQ p1)) (4616189618054758400 : UInt64))), (.ref b39), (.ref b39), (.ref b5)])) rfl (by rw [hml]; rfl) (a := b39) (argsL := [(.double (FP.ddiv (FP.i2d (lonQ p1)) (4616189618054758400 : UInt64))), (.double (FP.ddiv (FP.i2d (latQ p1)) (4616189618054758400 : UInt64))), (.long (0 : Int64))]) (rest := [(.ref b39), (.ref b5)]) (lenOf pd__DDJ_V rfl) rfl (by show 2 * 0 + _ ≤ _; exact Nat.le_of_eq rfl) (hb hby at_96) rfl eq42 (by decide) (by decide)
    obtain ⟨rfl, N43q, Kq43, P44, P45, P46⟩ := hQ43
    have N43 := Fr.app N42 N43q
    have K47 : Keep h0 T43.heap [] := K40.trans Kq43 (allS (Or.inr sz_b39) all0)
    refine ogoS st43 ?_
    show OWay p e below G T43 (mkF m 99 #[.val (.int p0), .val (.int p1), .val (.int p2), .val (.int p3), .val (.int p4), .val (.int v5_1), .val (.int v6_2), .val (.int us0_3), .val (.ref b5), .unset, .unset, .unset, .unset, .unset, .unset, .unset, .unset, .unset, .unset, .unset, .unset, .unset, .unset, .unset, .unset] [(.ref b39), (.ref b5)])
    have F48 : Exa Z T43.heap b5 "java/util/ArrayList" := (((F22.keep Kq28).ext E39).keep Kq43)
    have F49 : Fld Z T43.heap b5 "java/util/AbstractList" "modCount" "I" (.int (1 : Int32)) := ((P34.ext E39).keep Kq43 (ninS (Nat.ne_of_lt (Nat.lt_of_lt_of_le P34.lt (Nat.le_of_eq g39.symm))) nin0))
    have F50 : Fld Z T43.heap b5 "java/util/ArrayList" "elementData" "[Ljava/lang/Object;" (.ref b_29) := ((P35.ext E39).keep Kq43 (ninS (Nat.ne_of_lt (Nat.lt_of_lt_of_le P35.lt (Nat.le_of_eq g39.symm))) nin0))
    have F51 : Fld Z T43.heap b5 "java/util/ArrayList" "size" "I" (.int (1 : Int32)) := ((P36.ext E39).keep Kq43 (ninS (Nat.ne_of_lt (Nat.lt_of_lt_of_le P36.lt (Nat.le_of_eq g39.symm))) nin0))
    have F52 : Arv Z T43.heap b_29 k_30 (.object "java/lang/Object") (10 : Int32) [(.ref b13), .null, .null, .null, .null, .null, .null, .null, .null, .null] .null := ((P33.ext E39).keep Kq43 (ninS (Nat.ne_of_lt (Nat.lt_of_lt_of_le P33.lt (Nat.le_of_eq g39.symm))) nin0))
    have F53 : Exa Z T43.heap b39 "com/example/wakeline/wakeline/trajectory/Point" := (A39.keep Kq43)
    obtain ⟨_, T54, L54, X54, hQ54, st54⟩ := wVirtual X43 hx hZ (y := (⟨"java/util/ArrayList", "add", "(Ljava/lang/Object;)Z"⟩ : MethodName)) (z := (⟨"java/util/ArrayList", "add", "(Ljava/lang/Object;)Z"⟩ : MethodName)) hown (hw _ (List.mem_of_getElem? (i := 57) rfl)) (hw _ (List.mem_of_getElem? (i := 58) rfl)) (notFace_of_selects (args := #[]) (mvT hZ (hw _ (List.mem_of_getElem? (i := 60) rfl)))) (hw _ (List.mem_of_getElem? (i := 60) rfl)) (hw _ (List.mem_of_getElem? (i := 59) rfl)) (hw _ (List.mem_of_getElem? (i := 2) rfl)) (hw _ (List.mem_of_getElem? (i := 61) rfl)) (by decide) (add2_c l Z az hw [] b5 b39 b_29 k_30 b13 T43.heap n0 (Nat.le_trans (Nat.le_trans (Nat.le_trans (Nat.le_trans (Nat.le_trans (Nat.le_trans (Nat.le_trans Z0 E5.1) Kq8.1) E13.1) Kq17.1) Kq28.1) E39.1) Kq43.1) F48 g_b5 g_b_29 (Nat.ne_of_lt (Nat.lt_of_lt_of_le F23.lt P32)) F49 F50 F51 F52 F53 O_37) 0 (by decide) (by decide) F48 (g := (mkF m 99 #[.val (.int p0), .val (.int p1), .val (.int p2), .val (.int p3), .val (.int p4), .val (.int v5_1), .val (.int v6_2), .val (.int us0_3), .val (.ref b5), .unset, .unset, .unset, .unset, .unset, .unset, .unset, .unset, .unset, .unset, .unset, .unset, .unset, .unset, .unset, .unset] [(.ref b39), (.ref b5)])) rfl (by rw [hml]; rfl) (argsL := [(.ref b39)]) (rest := []) (lenOf pd__Ljava_lang_Object__Z rfl) rfl (by show 2 * 0 + _ ≤ _; exact Nat.le_of_eq rfl) (hb hby at_99) rfl rfl (by decide) (by decide)
    obtain ⟨rfl, N54q, Kq54, P55, P56, P57, P58⟩ := hQ54
    have N54 := Fr.app N43 N54q
    have K59 : Keep h0 T54.heap [] := K47.trans Kq54 (allS (Or.inr sz_b5) (allS (Or.inr sz_b_29) all0))
    refine ogoS st54 ?_
    show OWay p e below G T54 (mkF m 102 #[.val (.int p0), .val (.int p1), .val (.int p2), .val (.int p3), .val (.int p4), .val (.int v5_1), .val (.int v6_2), .val (.int us0_3), .val (.ref b5), .unset, .unset, .unset, .unset, .unset, .unset, .unset, .unset, .unset, .unset, .unset, .unset, .unset, .unset, .unset, .unset] [(.int (1 : Int32))])
    refine ogo (fun _ z_ => XS.pop X54.here hx rfl (hb hby at_102) rfl rfl z_) ?_
    show OWay p e below G T54 (mkF m 103 #[.val (.int p0), .val (.int p1), .val (.int p2), .val (.int p3), .val (.int p4), .val (.int v5_1), .val (.int v6_2), .val (.int us0_3), .val (.ref b5), .unset, .unset, .unset, .unset, .unset, .unset, .unset, .unset, .unset, .unset, .unset, .unset, .unset, .unset, .unset, .unset] [])
    obtain ⟨T60, h60, X60, eT60, E60, A60, D60, -, st60⟩ := newO X54 hx hZ hown (hw _ (List.mem_of_getElem? (i := 0) rfl)) (hw _ (List.mem_of_getElem? (i := 1) rfl)) (hw _ (List.mem_of_getElem? (i := 2) rfl)) rfl (g := (mkF m 103 #[.val (.int p0), .val (.int p1), .val (.int p2), .val (.int p3), .val (.int p4), .val (.int v5_1), .val (.int v6_2), .val (.int us0_3), .val (.ref b5), .unset, .unset, .unset, .unset, .unset, .unset, .unset, .unset, .unset, .unset, .unset, .unset, .unset, .unset, .unset, .unset] [])) rfl (hb hby at_103) (by decide) (by decide)
    obtain ⟨b60, g60⟩ : ∃ z, z = T54.heap.size := ⟨_, rfl⟩
    rw [← g60] at A60 D60 st60
    have g_b60 : n0 ≤ b60 := Nat.le_trans (Nat.le_trans (Nat.le_trans (Nat.le_trans (Nat.le_trans (Nat.le_trans (Nat.le_trans (Nat.le_trans (Nat.le_trans Z0 E5.1) Kq8.1) E13.1) Kq17.1) Kq28.1) E39.1) Kq43.1) Kq54.1) (Nat.le_of_eq g60.symm)
    have sz_b60 : h0.size ≤ b60 := Nat.le_trans K59.1 (Nat.le_of_eq g60.symm)
    have K61 : Keep h0 h60 [] := K59.ext E60
    have F_modCount_b60 : Fld Z h60 b60 "java/util/AbstractList" "modCount" "I" (.int (0 : Int32)) := D60 (Or.inl (hw _ (List.mem_of_getElem? (i := 22) rfl))) (ty := .int) (by decide)
    have F_elementData_b60 : Fld Z h60 b60 "java/util/ArrayList" "elementData" "[Ljava/lang/Object;" .null := D60 (Or.inl (hw _ (List.mem_of_getElem? (i := 25) rfl))) (ty := (.array (.object "java/lang/Object"))) (by decide)
    have F_size_b60 : Fld Z h60 b60 "java/util/ArrayList" "size" "I" (.int (0 : Int32)) := D60 (Or.inl (hw _ (List.mem_of_getElem? (i := 65) rfl))) (ty := .int) (by decide)
    refine ogo st60 ?_
    show OWay p e below G T60 (mkF m 106 #[.val (.int p0), .val (.int p1), .val (.int p2), .val (.int p3), .val (.int p4), .val (.int v5_1), .val (.int v6_2), .val (.int us0_3), .val (.ref b5), .unset, .unset, .unset, .unset, .unset, .unset, .unset, .unset, .unset, .unset, .unset, .unset, .unset, .unset, .unset, .unset] [(.ref b60)])
    refine ogo (fun _ z_ => XS.dup X60.here hx rfl (hb hby at_106) rfl rfl z_) ?_
    show OWay p e below G T60 (mkF m 107 #[.val (.int p0), .val (.int p1), .val (.int p2), .val (.int p3), .val (.int p4), .val (.int v5_1), .val (.int v6_2), .val (.int us0_3), .val (.ref b5), .unset, .unset, .unset, .unset, .unset, .unset, .unset, .unset, .unset, .unset, .unset, .unset, .unset, .unset, .unset, .unset] [(.ref b60), (.ref b60)])
    have F62 : Old Z n0 h60 := (((((F26.keep Kq28 (allS g_b5 all0)).ext E39).keep Kq43 (allS g_b39 all0)).keep Kq54 (allS g_b5 (allS g_b_29 all0))).ext E60)
    obtain ⟨_, T63, L63, X63, hQ63, st63⟩ := wInit X60 hx hZ (y := (⟨"java/util/ArrayList", "<init>", "()V"⟩ : MethodName)) rfl hown (hw _ (List.mem_of_getElem? (i := 3) rfl)) (hw _ (List.mem_of_getElem? (i := 4) rfl)) (hw _ (List.mem_of_getElem? (i := 2) rfl)) (hw _ (List.mem_of_getElem? (i := 5) rfl)) (by decide) (alinit_c l Z az hw [] b60 ev h60 n0 (Nat.le_trans (Nat.le_trans (Nat.le_trans (Nat.le_trans (Nat.le_trans (Nat.le_trans (Nat.le_trans (Nat.le_trans (Nat.le_trans Z0 E5.1) Kq8.1) E13.1) Kq17.1) Kq28.1) E39.1) Kq43.1) Kq54.1) E60.1) A60 g_b60 F_modCount_b60 F_elementData_b60 F_size_b60 hp0 F62) 1 (by decide) (by decide) (g := (mkF m 107 #[.val (.int p0), .val (.int p1), .val (.int p2), .val (.int p3), .val (.int p4), .val (.int v5_1), .val (.int v6_2), .val (.int us0_3), .val (.ref b5), .unset, .unset, .unset, .unset, .unset, .unset, .unset, .unset, .unset, .unset, .unset, .unset, .unset, .unset, .unset, .unset] [(.ref b60), (.ref b60)])) rfl (by rw [hml]; rfl) (a := b60) (argsL := []) (rest := [(.ref b60)]) (lenOf pd___V rfl) rfl (by show 2 * 0 + _ ≤ _; exact Nat.le_of_eq rfl) (hb hby at_107) rfl eT60 (by decide) (by decide)
    obtain ⟨rfl, N63q, Kq63, P64, P65, P66⟩ := hQ63
    have N63 := Fr.app N54 N63q
    have K67 : Keep h0 T63.heap [] := K61.trans Kq63 (allS (Or.inr sz_b60) all0)
    refine ogoS st63 ?_
    show OWay p e below G T63 (mkF m 110 #[.val (.int p0), .val (.int p1), .val (.int p2), .val (.int p3), .val (.int p4), .val (.int v5_1), .val (.int v6_2), .val (.int us0_3), .val (.ref b5), .unset, .unset, .unset, .unset, .unset, .unset, .unset, .unset, .unset, .unset, .unset, .unset, .unset, .unset, .unset, .unset] [(.ref b60)])
    refine ogo (fun _ z_ => XS.astore X63.here hx rfl (hb hby at_110) rfl rfl (l' := #[.val (.int p0), .val (.int p1), .val (.int p2), .val (.int p3), .val (.int p4), .val (.int v5_1), .val (.int v6_2), .val (.int us0_3), .val (.ref b5), .val (.ref b60), .unset, .unset, .unset, .unset, .unset, .unset, .unset, .unset, .unset, .unset, .unset, .unset, .unset, .unset, .unset]) rfl z_) ?_
    show OWay p e below G T63 (mkF m 112 #[.val (.int p0), .val (.int p1), .val (.int p2), .val (.int p3), .val (.int p4), .val (.int v5_1), .val (.int v6_2), .val (.int us0_3), .val (.ref b5), .val (.ref b60), .unset, .unset, .unset, .unset, .unset, .unset, .unset, .unset, .unset, .unset, .unset, .unset, .unset, .unset, .unset] [])
    refine ogo (fun _ z_ => XS.aload X63.here hx rfl (hb hby at_112) rfl rfl z_) ?_
    show OWay p e below G T63 (mkF m 114 #[.val (.int p0), .val (.int p1), .val (.int p2), .val (.int p3), .val (.int p4), .val (.int v5_1), .val (.int v6_2), .val (.int us0_3), .val (.ref b5), .val (.ref b60), .unset, .unset, .unset, .unset, .unset, .unset, .unset, .unset, .unset, .unset, .unset, .unset, .unset, .unset, .unset] [(.ref b60)])
    obtain ⟨T68, h68, X68, eT68, E68, A68, D68, -, st68⟩ := newO X63 hx hZ hown (hw _ (List.mem_of_getElem? (i := 26) rfl)) (hw _ (List.mem_of_getElem? (i := 27) rfl)) (hw _ (List.mem_of_getElem? (i := 28) rfl)) rfl (g := (mkF m 114 #[.val (.int p0), .val (.int p1), .val (.int p2), .val (.int p3), .val (.int p4), .val (.int v5_1), .val (.int v6_2), .val (.int us0_3), .val (.ref b5), .val (.ref b60), .unset, .unset, .unset, .unset, .unset, .unset, .unset, .unset, .unset, .unset, .unset, .unset, .unset, .unset, .unset] [(.ref b60)])) rfl (hb hby at_114) (by decide) (by decide)
    obtain ⟨b68, g68⟩ : ∃ z, z = T63.heap.size := ⟨_, rfl⟩
    rw [← g68] at A68 D68 st68
    have g_b68 : n0 ≤ b68 := Nat.le_trans (Nat.le_trans (Nat.le_trans (Nat.le_trans (Nat.le_trans (Nat.le_trans (Nat.le_trans (Nat.le_trans (Nat.le_trans (Nat.le_trans (Nat.le_trans Z0 E5.1) Kq8.1) E13.1) Kq17.1) Kq28.1) E39.1) Kq43.1) Kq54.1) E60.1) Kq63.1) (Nat.le_of_eq g68.symm)
    have sz_b68 : h0.size ≤ b68 := Nat.le_trans K67.1 (Nat.le_of_eq g68.symm)
    have K69 : Keep h0 h68 [] := K67.ext E68
    have F_longitude_b68 : Fld Z h68 b68 "com/example/wakeline/wakeline/trajectory/Point" "longitude" "D" (.double (0 : UInt64)) := D68 (Or.inr (hw _ (List.mem_of_getElem? (i := 52) rfl))) (ty := .double) (by decide)
    have F_latitude_b68 : Fld Z h68 b68 "com/example/wakeline/wakeline/trajectory/Point" "latitude" "D" (.double (0 : UInt64)) := D68 (Or.inr (hw _ (List.mem_of_getElem? (i := 54) rfl))) (ty := .double) (by decide)
    have F_epochMilli_b68 : Fld Z h68 b68 "com/example/wakeline/wakeline/trajectory/Point" "epochMilli" "J" (.long (0 : Int64)) := D68 (Or.inr (hw _ (List.mem_of_getElem? (i := 56) rfl))) (ty := .long) (by decide)
    refine ogo st68 ?_
    show OWay p e below G T68 (mkF m 117 #[.val (.int p0), .val (.int p1), .val (.int p2), .val (.int p3), .val (.int p4), .val (.int v5_1), .val (.int v6_2), .val (.int us0_3), .val (.ref b5), .val (.ref b60), .unset, .unset, .unset, .unset, .unset, .unset, .unset, .unset, .unset, .unset, .unset, .unset, .unset, .unset, .unset] [(.ref b68), (.ref b60)])
    refine ogo (fun _ z_ => XS.dup X68.here hx rfl (hb hby at_117) rfl rfl z_) ?_
    show OWay p e below G T68 (mkF m 118 #[.val (.int p0), .val (.int p1), .val (.int p2), .val (.int p3), .val (.int p4), .val (.int v5_1), .val (.int v6_2), .val (.int us0_3), .val (.ref b5), .val (.ref b60), .unset, .unset, .unset, .unset, .unset, .unset, .unset, .unset, .unset, .unset, .unset, .unset, .unset, .unset, .unset] [(.ref b68), (.ref b68), (.ref b60)])
    refine ogo (fun _ z_ => XS.iloadN X68.here hx rfl (hb hby at_118) rfl z_) ?_
    show OWay p e below G T68 (mkF m 119 #[.val (.int p0), .val (.int p1), .val (.int p2), .val (.int p3), .val (.int p4), .val (.int v5_1), .val (.int v6_2), .val (.int us0_3), .val (.ref b5), .val (.ref b60), .unset, .unset, .unset, .unset, .unset, .unset, .unset, .unset, .unset, .unset, .unset, .unset, .unset, .unset, .unset] [(.int p2), (.ref b68), (.ref b68), (.ref b60)])
    obtain ⟨_, T70, L70, X70, hQ70, st70⟩ := wStatic X68 hx hZ (y := (⟨"com/example/wakeline/wakeline/similarity/CoordinatesSquaredDistancePinLaw", "lonQ", "(I)I"⟩ : MethodName)) hown (hw _ (List.mem_of_getElem? (i := 29) rfl)) (hw _ (List.mem_of_getElem? (i := 30) rfl)) (hw _ (List.mem_of_getElem? (i := 31) rfl)) (hw _ (List.mem_of_getElem? (i := 32) rfl)) (by decide) (lonQ_b_c l Z az hw [] p2 h68 n0 (Nat.le_trans (Nat.le_trans (Nat.le_trans (Nat.le_trans (Nat.le_trans (Nat.le_trans (Nat.le_trans (Nat.le_trans (Nat.le_trans (Nat.le_trans (Nat.le_trans Z0 E5.1) Kq8.1) E13.1) Kq17.1) Kq28.1) E39.1) Kq43.1) Kq54.1) E60.1) Kq63.1) E68.1)) 3 (by decide) (by decide) (g := (mkF m 119 #[.val (.int p0), .val (.int p1), .val (.int p2), .val (.int p3), .val (.int p4), .val (.int v5_1), .val (.int v6_2), .val (.int us0_3), .val (.ref b5), .val (.ref b60), .unset, .unset, .unset, .unset, .unset, .unset, .unset, .unset, .unset, .unset, .unset, .unset, .unset, .unset, .unset] [(.int p2), (.ref b68), (.ref b68), (.ref b60)])) rfl (by rw [hml]; rfl) (argsL := [(.int p2)]) (rest := [(.ref b68), (.ref b68), (.ref b60)]) (lenOf pd__I_I rfl) rfl (by show 2 * 0 + _ ≤ _; exact Nat.le_of_eq rfl) (hb hby at_119) rfl eT68 (by decide) (by decide)
    obtain ⟨rfl, N70q, eq70⟩ := hQ70
    have N70 := Fr.app N63 N70q
    refine ogo st70 ?_
    show OWay p e below G T70 (mkF m 122 #[.val (.int p0), .val (.int p1), .val (.int p2), .val (.int p3), .val (.int p4), .val (.int v5_1), .val (.int v6_2), .val (.int us0_3), .val (.ref b5), .val (.ref b60), .unset, .unset, .unset, .unset, .unset, .unset, .unset, .unset, .unset, .unset, .unset, .unset, .unset, .unset, .unset] [(.int (lonQ p2)), (.ref b68), (.ref b68), (.ref b60)])
    refine ogo (fun _ z_ => XS.i2dS X70.here hx rfl (hb hby at_122) rfl rfl z_) ?_
    show OWay p e below G T70 (mkF m 123 #[.val (.int p0), .val (.int p1), .val (.int p2), .val (.int p3), .val (.int p4), .val (.int v5_1), .val (.int v6_2), .val (.int us0_3), .val (.ref b5), .val (.ref b60), .unset, .unset, .unset, .unset, .unset, .unset, .unset, .unset, .unset, .unset, .unset, .unset, .unset, .unset, .unset] [(.double (FP.i2d (lonQ p2))), (.ref b68), (.ref b68), (.ref b60)])
    refine ogo (fun _ z_ => X70.ldc2DoubleC hx hown (mvT hZ (hw _ (List.mem_of_getElem? (i := 34) rfl))) (g := (mkF m 123 #[.val (.int p0), .val (.int p1), .val (.int p2), .val (.int p3), .val (.int p4), .val (.int v5_1), .val (.int v6_2), .val (.int us0_3), .val (.ref b5), .val (.ref b60), .unset, .unset, .unset, .unset, .unset, .unset, .unset, .unset, .unset, .unset, .unset, .unset, .unset, .unset, .unset] [(.double (FP.i2d (lonQ p2))), (.ref b68), (.ref b68), (.ref b60)])) rfl (hb hby at_123) _ z_) ?_
    show OWay p e below G T70 (mkF m 126 #[.val (.int p0), .val (.int p1), .val (.int p2), .val (.int p3), .val (.int p4), .val (.int v5_1), .val (.int v6_2), .val (.int us0_3), .val (.ref b5), .val (.ref b60), .unset, .unset, .unset, .unset, .unset, .unset, .unset, .unset, .unset, .unset, .unset, .unset, .unset, .unset, .unset] [(.double (4616189618054758400 : UInt64)), (.double (FP.i2d (lonQ p2))), (.ref b68), (.ref b68), (.ref b60)])
    refine ogo (fun _ z_ => XS.ddivS X70.here hx rfl (hb hby at_126) rfl (dy_nn (own_q4 (lonQ p2))) rfl z_) ?_
    show OWay p e below G T70 (mkF m 127 #[.val (.int p0), .val (.int p1), .val (.int p2), .val (.int p3), .val (.int p4), .val (.int v5_1), .val (.int v6_2), .val (.int us0_3), .val (.ref b5), .val (.ref b60), .unset, .unset, .unset, .unset, .unset, .unset, .unset, .unset, .unset, .unset, .unset, .unset, .unset, .unset, .unset] [(.double (FP.ddiv (FP.i2d (lonQ p2)) (4616189618054758400 : UInt64))), (.ref b68), (.ref b68), (.ref b60)])
    refine ogo (fun _ z_ => XS.iloadN X70.here hx rfl (hb hby at_127) rfl z_) ?_
    show OWay p e below G T70 (mkF m 128 #[.val (.int p0), .val (.int p1), .val (.int p2), .val (.int p3), .val (.int p4), .val (.int v5_1), .val (.int v6_2), .val (.int us0_3), .val (.ref b5), .val (.ref b60), .unset, .unset, .unset, .unset, .unset, .unset, .unset, .unset, .unset, .unset, .unset, .unset, .unset, .unset, .unset] [(.int p2), (.double (FP.ddiv (FP.i2d (lonQ p2)) (4616189618054758400 : UInt64))), (.ref b68), (.ref b68), (.ref b60)])
    obtain ⟨_, T71, L71, X71, hQ71, st71⟩ := wStatic X70 hx hZ (y := (⟨"com/example/wakeline/wakeline/similarity/CoordinatesSquaredDistancePinLaw", "latQ", "(I)I"⟩ : MethodName)) hown (hw _ (List.mem_of_getElem? (i := 35) rfl)) (hw _ (List.mem_of_getElem? (i := 36) rfl)) (hw _ (List.mem_of_getElem? (i := 31) rfl)) (hw _ (List.mem_of_getElem? (i := 37) rfl)) (by decide) (latQ_b_c l Z az hw [] p2 h68 n0 (Nat.le_trans (Nat.le_trans (Nat.le_trans (Nat.le_trans (Nat.le_trans (Nat.le_trans (Nat.le_trans (Nat.le_trans (Nat.le_trans (Nat.le_trans (Nat.le_trans Z0 E5.1) Kq8.1) E13.1) Kq17.1) Kq28.1) E39.1) Kq43.1) Kq54.1) E60.1) Kq63.1) E68.1)) 5 (by decide) (by decide) (g := (mkF m 128 #[.val (.int p0), .val (.int p1), .val (.int p2), .val (.int p3), .val (.int p4), .val (.int v5_1), .val (.int v6_2), .val (.int us0_3), .val (.ref b5), .val (.ref b60), .unset, .unset, .unset, .unset, .unset, .unset, .unset, .unset, .unset, .unset, .unset, .unset, .unset, .unset, .unset] [(.int p2), (.double (FP.ddiv (FP.i2d (lonQ p2)) (4616189618054758400 : UInt64))), (.ref b68), (.ref b68), (.ref b60)])) rfl (by rw [hml]; rfl) (argsL := [(.int p2)]) (rest := [(.double (FP.ddiv (FP.i2d (lonQ p2)) (4616189618054758400 : UInt64))), (.ref b68), (.ref b68), (.ref b60)]) (lenOf pd__I_I rfl) rfl (by show 2 * 0 + _ ≤ _; exact Nat.le_of_eq rfl) (hb hby at_128) rfl eq70 (by decide) (by decide)
    obtain ⟨rfl, N71q, eq71⟩ := hQ71
    have N71 := Fr.app N70 N71q
    refine ogo st71 ?_
    show OWay p e below G T71 (mkF m 131 #[.val (.int p0), .val (.int p1), .val (.int p2), .val (.int p3), .val (.int p4), .val (.int v5_1), .val (.int v6_2), .val (.int us0_3), .val (.ref b5), .val (.ref b60), .unset, .unset, .unset, .unset, .unset, .unset, .unset, .unset, .unset, .unset, .unset, .unset, .unset, .unset, .unset] [(.int (latQ p2)), (.double (FP.ddiv (FP.i2d (lonQ p2)) (4616189618054758400 : UInt64))), (.ref b68), (.ref b68), (.ref b60)])
    refine ogo (fun _ z_ => XS.i2dS X71.here hx rfl (hb hby at_131) rfl rfl z_) ?_
    show OWay p e below G T71 (mkF m 132 #[.val (.int p0), .val (.int p1), .val (.int p2), .val (.int p3), .val (.int p4), .val (.int v5_1), .val (.int v6_2), .val (.int us0_3), .val (.ref b5), .val (.ref b60), .unset, .unset, .unset, .unset, .unset, .unset, .unset, .unset, .unset, .unset, .unset, .unset, .unset, .unset, .unset] [(.double (FP.i2d (latQ p2))), (.double (FP.ddiv (FP.i2d (lonQ p2)) (4616189618054758400 : UInt64))), (.ref b68), (.ref b68), (.ref b60)])
    refine ogo (fun _ z_ => X71.ldc2DoubleC hx hown (mvT hZ (hw _ (List.mem_of_getElem? (i := 34) rfl))) (g := (mkF m 132 #[.val (.int p0), .val (.int p1), .val (.int p2), .val (.int p3), .val (.int p4), .val (.int v5_1), .val (.int v6_2), .val (.int us0_3), .val (.ref b5), .val (.ref b60), .unset, .unset, .unset, .unset, .unset, .unset, .unset, .unset, .unset, .unset, .unset, .unset, .unset, .unset, .unset] [(.double (FP.i2d (latQ p2))), (.double (FP.ddiv (FP.i2d (lonQ p2)) (4616189618054758400 : UInt64))), (.ref b68), (.ref b68), (.ref b60)])) rfl (hb hby at_132) _ z_) ?_
    show OWay p e below G T71 (mkF m 135 #[.val (.int p0), .val (.int p1), .val (.int p2), .val (.int p3), .val (.int p4), .val (.int v5_1), .val (.int v6_2), .val (.int us0_3), .val (.ref b5), .val (.ref b60), .unset, .unset, .unset, .unset, .unset, .unset, .unset, .unset, .unset, .unset, .unset, .unset, .unset, .unset, .unset] [(.double (4616189618054758400 : UInt64)), (.double (FP.i2d (latQ p2))), (.double (FP.ddiv (FP.i2d (lonQ p2)) (4616189618054758400 : UInt64))), (.ref b68), (.ref b68), (.ref b60)])
    refine ogo (fun _ z_ => XS.ddivS X71.here hx rfl (hb hby at_135) rfl (dy_nn (own_q4 (latQ p2))) rfl z_) ?_
    show OWay p e below G T71 (mkF m 136 #[.val (.int p0), .val (.int p1), .val (.int p2), .val (.int p3), .val (.int p4), .val (.int v5_1), .val (.int v6_2), .val (.int us0_3), .val (.ref b5), .val (.ref b60), .unset, .unset, .unset, .unset, .unset, .unset, .unset, .unset, .unset, .unset, .unset, .unset, .unset, .unset, .unset] [(.double (FP.ddiv (FP.i2d (latQ p2)) (4616189618054758400 : UInt64))), (.double (FP.ddiv (FP.i2d (lonQ p2)) (4616189618054758400 : UInt64))), (.ref b68), (.ref b68), (.ref b60)])
    refine ogo (fun _ z_ => XS.lconst X71.here hx rfl (hb hby at_136) z_) ?_
    show OWay p e below G T71 (mkF m 137 #[.val (.int p0), .val (.int p1), .val (.int p2), .val (.int p3), .val (.int p4), .val (.int v5_1), .val (.int v6_2), .val (.int us0_3), .val (.ref b5), .val (.ref b60), .unset, .unset, .unset, .unset, .unset, .unset, .unset, .unset, .unset, .unset, .unset, .unset, .unset, .unset, .unset] [(.long (0 : Int64)), (.double (FP.ddiv (FP.i2d (latQ p2)) (4616189618054758400 : UInt64))), (.double (FP.ddiv (FP.i2d (lonQ p2)) (4616189618054758400 : UInt64))), (.ref b68), (.ref b68), (.ref b60)])
    obtain ⟨_, T72, L72, X72, hQ72, st72⟩ := wInit X71 hx hZ (y := (⟨"com/example/wakeline/wakeline/trajectory/Point", "<init>", "(DDJ)V"⟩ : MethodName)) rfl hown (hw _ (List.mem_of_getElem? (i := 38) rfl)) (hw _ (List.mem_of_getElem? (i := 39) rfl)) (hw _ (List.mem_of_getElem? (i := 28) rfl)) (hw _ (List.mem_of_getElem? (i := 40) rfl)) (by decide) (ctor7_c l Z az hw [] b68 (FP.ddiv (FP.i2d (lonQ p2)) (4616189618054758400 : UInt64)) (FP.ddiv (FP.i2d (latQ p2)) (4616189618054758400 : UInt64)) (0 : Int64) h68 n0 (Nat.le_trans (Nat.le_trans (Nat.le_trans (Nat.le_trans (Nat.le_trans (Nat.le_trans (Nat.le_trans (Nat.le_trans (Nat.le_trans (Nat.le_trans (Nat.le_trans Z0 E5.1) Kq8.1) E13.1) Kq17.1) Kq28.1) E39.1) Kq43.1) Kq54.1) E60.1) Kq63.1) E68.1) A68 g_b68 F_longitude_b68 F_latitude_b68 F_epochMilli_b68 (own_nlt (own_q4 _) dy_m180 (own_lon p2).1) (own_ngt (own_q4 _) dy_p180 (own_lon p2).2) (own_nlt (own_q4 _) dy_m90 (own_lat p2).1) (own_ngt (own_q4 _) dy_p90 (own_lat p2).2)) 2 (by decide) (by decide) (g := (mkF m 137 #[.val (.int p0), .val (.int p1), .val (.int p2), .val (.int p3), .val (.int p4), .val (.int v5_1), .val (.int v6_2), .val (.int us0_3), .val (.ref b5), .val (.ref b60), .unset, .unset, .unset, .unset, .unset, .unset, .unset, .unset, .unset, .unset, .unset, .unset, .unset, .unset, .unset] [(.long (0 : Int64)), (.double (FP.ddiv (FP.i2d (latQ p2)) (4616189618054758400 : UInt64))), (.double (FP.ddiv (FP.i2d (lonQ p2)) (4616189618054758400 : UInt64))), (.ref b68), (.ref b68), (.ref b60)])) rfl (by rw [hml]; rfl) (a := b68) (argsL := [(.double (FP.ddiv (FP.i2d (lonQ p2)) (4616189618054758400 : UInt64))), (.double (FP.ddiv (FP.i2d (latQ p2)) (4616189618054758400 : UInt64))), (.long (0 : Int64))]) (rest := [(.ref b68), (.ref b60)]) (lenOf pd__DDJ_V rfl) rfl (by show 2 * 0 + _ ≤ _; exact Nat.le_of_eq rfl) (hb hby at_137) rfl eq71 (by decide) (by decide)
    obtain ⟨rfl, N72q, Kq72, P73, P74, P75⟩ := hQ72
    have N72 := Fr.app N71 N72q
    have K76 : Keep h0 T72.heap [] := K69.trans Kq72 (allS (Or.inr sz_b68) all0)
    refine ogoS st72 ?_
    show OWay p e below G T72 (mkF m 140 #[.val (.int p0), .val (.int p1), .val (.int p2), .val (.int p3), .val (.int p4), .val (.int v5_1), .val (.int v6_2), .val (.int us0_3), .val (.ref b5), .val (.ref b60), .unset, .unset, .unset, .unset, .unset, .unset, .unset, .unset, .unset, .unset, .unset, .unset, .unset, .unset, .unset] [(.ref b68), (.ref b60)])
    have F77 : Exa Z T72.heap b60 "java/util/ArrayList" := (((A60.keep Kq63).ext E68).keep Kq72)
    have F78 : Fld Z T72.heap b60 "java/util/AbstractList" "modCount" "I" (.int (0 : Int32)) := ((P64.ext E68).keep Kq72 (ninS (Nat.ne_of_lt (Nat.lt_of_lt_of_le P64.lt (Nat.le_of_eq g68.symm))) nin0))
    have F79 : Fld Z T72.heap b60 "java/util/ArrayList" "elementData" "[Ljava/lang/Object;" (.ref ev) := ((P65.ext E68).keep Kq72 (ninS (Nat.ne_of_lt (Nat.lt_of_lt_of_le P65.lt (Nat.le_of_eq g68.symm))) nin0))
    have F80 : Fld Z T72.heap b60 "java/util/ArrayList" "size" "I" (.int (0 : Int32)) := ((P66.ext E68).keep Kq72 (ninS (Nat.ne_of_lt (Nat.lt_of_lt_of_le P66.lt (Nat.le_of_eq g68.symm))) nin0))
    have F81 : Old Z n0 T72.heap := (((F62.keep Kq63 (allS g_b60 all0)).ext E68).keep Kq72 (allS g_b68 all0))
    have F82 : Exa Z T72.heap b68 "com/example/wakeline/wakeline/trajectory/Point" := (A68.keep Kq72)
    obtain ⟨_, T83, L83, X83, hQ83, st83⟩ := wVirtual X72 hx hZ (y := (⟨"java/util/ArrayList", "add", "(Ljava/lang/Object;)Z"⟩ : MethodName)) (z := (⟨"java/util/ArrayList", "add", "(Ljava/lang/Object;)Z"⟩ : MethodName)) hown (hw _ (List.mem_of_getElem? (i := 57) rfl)) (hw _ (List.mem_of_getElem? (i := 58) rfl)) (notFace_of_selects (args := #[]) (mvT hZ (hw _ (List.mem_of_getElem? (i := 60) rfl)))) (hw _ (List.mem_of_getElem? (i := 60) rfl)) (hw _ (List.mem_of_getElem? (i := 59) rfl)) (hw _ (List.mem_of_getElem? (i := 2) rfl)) (hw _ (List.mem_of_getElem? (i := 61) rfl)) (by decide) (add1_c l Z az hw [] b60 b68 ev kE T72.heap n0 (Nat.le_trans (Nat.le_trans (Nat.le_trans (Nat.le_trans (Nat.le_trans (Nat.le_trans (Nat.le_trans (Nat.le_trans (Nat.le_trans (Nat.le_trans (Nat.le_trans (Nat.le_trans Z0 E5.1) Kq8.1) E13.1) Kq17.1) Kq28.1) E39.1) Kq43.1) Kq54.1) E60.1) Kq63.1) E68.1) Kq72.1) F77 g_b60 F78 F79 F80 hp0 hp1 F81 F82) 0 (by decide) (by decide) F77 (g := (mkF m 140 #[.val (.int p0), .val (.int p1), .val (.int p2), .val (.int p3), .val (.int p4), .val (.int v5_1), .val (.int v6_2), .val (.int us0_3), .val (.ref b5), .val (.ref b60), .unset, .unset, .unset, .unset, .unset, .unset, .unset, .unset, .unset, .unset, .unset, .unset, .unset, .unset, .unset] [(.ref b68), (.ref b60)])) rfl (by rw [hml]; rfl) (argsL := [(.ref b68)]) (rest := []) (lenOf pd__Ljava_lang_Object__Z rfl) rfl (by show 2 * 0 + _ ≤ _; exact Nat.le_of_eq rfl) (hb hby at_140) rfl rfl (by decide) (by decide)
    obtain ⟨b_84, k_85, rfl, N83q, Kq83, P86, P87, P88, P89, P90, P91, O_92⟩ := hQ83
    have N83 := Fr.app N72 N83q
    have K93 : Keep h0 T83.heap [] := K76.trans Kq83 (allS (Or.inr sz_b60) all0)
    have g_b_84 := P86
    have sz_b_84 : h0.size ≤ b_84 := Nat.le_trans K76.1 P87
    refine ogoS st83 ?_
    show OWay p e below G T83 (mkF m 143 #[.val (.int p0), .val (.int p1), .val (.int p2), .val (.int p3), .val (.int p4), .val (.int v5_1), .val (.int v6_2), .val (.int us0_3), .val (.ref b5), .val (.ref b60), .unset, .unset, .unset, .unset, .unset, .unset, .unset, .unset, .unset, .unset, .unset, .unset, .unset, .unset, .unset] [(.int (1 : Int32))])
    refine ogo (fun _ z_ => XS.pop X83.here hx rfl (hb hby at_143) rfl rfl z_) ?_
    show OWay p e below G T83 (mkF m 144 #[.val (.int p0), .val (.int p1), .val (.int p2), .val (.int p3), .val (.int p4), .val (.int v5_1), .val (.int v6_2), .val (.int us0_3), .val (.ref b5), .val (.ref b60), .unset, .unset, .unset, .unset, .unset, .unset, .unset, .unset, .unset, .unset, .unset, .unset, .unset, .unset, .unset] [])
    refine ogo (fun _ z_ => XS.aload X83.here hx rfl (hb hby at_144) rfl rfl z_) ?_
    show OWay p e below G T83 (mkF m 146 #[.val (.int p0), .val (.int p1), .val (.int p2), .val (.int p3), .val (.int p4), .val (.int v5_1), .val (.int v6_2), .val (.int us0_3), .val (.ref b5), .val (.ref b60), .unset, .unset, .unset, .unset, .unset, .unset, .unset, .unset, .unset, .unset, .unset, .unset, .unset, .unset, .unset] [(.ref b60)])
    obtain ⟨T94, h94, X94, eT94, E94, A94, D94, -, st94⟩ := newO X83 hx hZ hown (hw _ (List.mem_of_getElem? (i := 26) rfl)) (hw _ (List.mem_of_getElem? (i := 27) rfl)) (hw _ (List.mem_of_getElem? (i := 28) rfl)) rfl (g := (mkF m 146 #[.val (.int p0), .val (.int p1), .val (.int p2), .val (.int p3), .val (.int p4), .val (.int v5_1), .val (.int v6_2), .val (.int us0_3), .val (.ref b5), .val (.ref b60), .unset, .unset, .unset, .unset, .unset, .unset, .unset, .unset, .unset, .unset, .unset, .unset, .unset, .unset, .unset] [(.ref b60)])) rfl (hb hby at_146) (by decide) (by decide)
    obtain ⟨b94, g94⟩ : ∃ z, z = T83.heap.size := ⟨_, rfl⟩
    rw [← g94] at A94 D94 st94
    have g_b94 : n0 ≤ b94 := Nat.le_trans (Nat.le_trans (Nat.le_trans (Nat.le_trans (Nat.le_trans (Nat.le_trans (Nat.le_trans (Nat.le_trans (Nat.le_trans (Nat.le_trans (Nat.le_trans (Nat.le_trans (Nat.le_trans (Nat.le_trans Z0 E5.1) Kq8.1) E13.1) Kq17.1) Kq28.1) E39.1) Kq43.1) Kq54.1) E60.1) Kq63.1) E68.1) Kq72.1) Kq83.1) (Nat.le_of_eq g94.symm)
    have sz_b94 : h0.size ≤ b94 := Nat.le_trans K93.1 (Nat.le_of_eq g94.symm)
    have K95 : Keep h0 h94 [] := K93.ext E94
    have F_longitude_b94 : Fld Z h94 b94 "com/example/wakeline/wakeline/trajectory/Point" "longitude" "D" (.double (0 : UInt64)) := D94 (Or.inr (hw _ (List.mem_of_getElem? (i := 52) rfl))) (ty := .double) (by decide)
    have F_latitude_b94 : Fld Z h94 b94 "com/example/wakeline/wakeline/trajectory/Point" "latitude" "D" (.double (0 : UInt64)) := D94 (Or.inr (hw _ (List.mem_of_getElem? (i := 54) rfl))) (ty := .double) (by decide)
    have F_epochMilli_b94 : Fld Z h94 b94 "com/example/wakeline/wakeline/trajectory/Point" "epochMilli" "J" (.long (0 : Int64)) := D94 (Or.inr (hw _ (List.mem_of_getElem? (i := 56) rfl))) (ty := .long) (by decide)
    refine ogo st94 ?_
    show OWay p e below G T94 (mkF m 149 #[.val (.int p0), .val (.int p1), .val (.int p2), .val (.int p3), .val (.int p4), .val (.int v5_1), .val (.int v6_2), .val (.int us0_3), .val (.ref b5), .val (.ref b60), .unset, .unset, .unset, .unset, .unset, .unset, .unset, .unset, .unset, .unset, .unset, .unset, .unset, .unset, .unset] [(.ref b94), (.ref b60)])
    refine ogo (fun _ z_ => XS.dup X94.here hx rfl (hb hby at_149) rfl rfl z_) ?_
    show OWay p e below G T94 (mkF m 150 #[.val (.int p0), .val (.int p1), .val (.int p2), .val (.int p3), .val (.int p4), .val (.int v5_1), .val (.int v6_2), .val (.int us0_3), .val (.ref b5), .val (.ref b60), .unset, .unset, .unset, .unset, .unset, .unset, .unset, .unset, .unset, .unset, .unset, .unset, .unset, .unset, .unset] [(.ref b94), (.ref b94), (.ref b60)])
    refine ogo (fun _ z_ => XS.iloadN X94.here hx rfl (hb hby at_150) rfl z_) ?_
    show OWay p e below G T94 (mkF m 151 #[.val (.int p0), .val (.int p1), .val (.int p2), .val (.int p3), .val (.int p4), .val (.int v5_1), .val (.int v6_2), .val (.int us0_3), .val (.ref b5), .val (.ref b60), .unset, .unset, .unset, .unset, .unset, .unset, .unset, .unset, .unset, .unset, .unset, .unset, .unset, .unset, .unset] [(.int p3), (.ref b94), (.ref b94), (.ref b60)])
    obtain ⟨_, T96, L96, X96, hQ96, st96⟩ := wStatic X94 hx hZ (y := (⟨"com/example/wakeline/wakeline/similarity/CoordinatesSquaredDistancePinLaw", "lonQ", "(I)I"⟩ : MethodName)) hown (hw _ (List.mem_of_getElem? (i := 29) rfl)) (hw _ (List.mem_of_getElem? (i := 30) rfl)) (hw _ (List.mem_of_getElem? (i := 31) rfl)) (hw _ (List.mem_of_getElem? (i := 32) rfl)) (by decide) (lonQ_b_c l Z az hw [] p3 h94 n0 (Nat.le_trans (Nat.le_trans (Nat.le_trans (Nat.le_trans (Nat.le_trans (Nat.le_trans (Nat.le_trans (Nat.le_trans (Nat.le_trans (Nat.le_trans (Nat.le_trans (Nat.le_trans (Nat.le_trans (Nat.le_trans Z0 E5.1) Kq8.1) E13.1) Kq17.1) Kq28.1) E39.1) Kq43.1) Kq54.1) E60.1) Kq63.1) E68.1) Kq72.1) Kq83.1) E94.1)) 3 (by decide) (by decide) (g := (mkF m 151 #[.val (.int p0), .val (.int p1), .val (.int p2), .val (.int p3), .val (.int p4), .val (.int v5_1), .val (.int v6_2), .val (.int us0_3), .val (.ref b5), .val (.ref b60), .unset, .unset, .unset, .unset, .unset, .unset, .unset, .unset, .unset, .unset, .unset, .unset, .unset, .unset, .unset] [(.int p3), (.ref b94), (.ref b94), (.ref b60)])) rfl (by rw [hml]; rfl) (argsL := [(.int p3)]) (rest := [(.ref b94), (.ref b94), (.ref b60)]) (lenOf pd__I_I rfl) rfl (by show 2 * 0 + _ ≤ _; exact Nat.le_of_eq rfl) (hb hby at_151) rfl eT94 (by decide) (by decide)
    obtain ⟨rfl, N96q, eq96⟩ := hQ96
    have N96 := Fr.app N83 N96q
    refine ogo st96 ?_
    show OWay p e below G T96 (mkF m 154 #[.val (.int p0), .val (.int p1), .val (.int p2), .val (.int p3), .val (.int p4), .val (.int v5_1), .val (.int v6_2), .val (.int us0_3), .val (.ref b5), .val (.ref b60), .unset, .unset, .unset, .unset, .unset, .unset, .unset, .unset, .unset, .unset, .unset, .unset, .unset, .unset, .unset] [(.int (lonQ p3)), (.ref b94), (.ref b94), (.ref b60)])
    refine ogo (fun _ z_ => XS.i2dS X96.here hx rfl (hb hby at_154) rfl rfl z_) ?_
    show OWay p e below G T96 (mkF m 155 #[.val (.int p0), .val (.int p1), .val (.int p2), .val (.int p3), .val (.int p4), .val (.int v5_1), .val (.int v6_2), .val (.int us0_3), .val (.ref b5), .val (.ref b60), .unset, .unset, .unset, .unset, .unset, .unset, .unset, .unset, .unset, .unset, .unset, .unset, .unset, .unset, .unset] [(.double (FP.i2d (lonQ p3))), (.ref b94), (.ref b94), (.ref b60)])
    refine ogo (fun _ z_ => X96.ldc2DoubleC hx hown (mvT hZ (hw _ (List.mem_of_getElem? (i := 34) rfl))) (g := (mkF m 155 #[.val (.int p0), .val (.int p1), .val (.int p2), .val (.int p3), .val (.int p4), .val (.int v5_1), .val (.int v6_2), .val (.int us0_3), .val (.ref b5), .val (.ref b60), .unset, .unset, .unset, .unset, .unset, .unset, .unset, .unset, .unset, .unset, .unset, .unset, .unset, .unset, .unset] [(.double (FP.i2d (lonQ p3))), (.ref b94), (.ref b94), (.ref b60)])) rfl (hb hby at_155) _ z_) ?_
    show OWay p e below G T96 (mkF m 158 #[.val (.int p0), .val (.int p1), .val (.int p2), .val (.int p3), .val (.int p4), .val (.int v5_1), .val (.int v6_2), .val (.int us0_3), .val (.ref b5), .val (.ref b60), .unset, .unset, .unset, .unset, .unset, .unset, .unset, .unset, .unset, .unset, .unset, .unset, .unset, .unset, .unset] [(.double (4616189618054758400 : UInt64)), (.double (FP.i2d (lonQ p3))), (.ref b94), (.ref b94), (.ref b60)])
    refine ogo (fun _ z_ => XS.ddivS X96.here hx rfl (hb hby at_158) rfl (dy_nn (own_q4 (lonQ p3))) rfl z_) ?_
    show OWay p e below G T96 (mkF m 159 #[.val (.int p0), .val (.int p1), .val (.int p2), .val (.int p3), .val (.int p4), .val (.int v5_1), .val (.int v6_2), .val (.int us0_3), .val (.ref b5), .val (.ref b60), .unset, .unset, .unset, .unset, .unset, .unset, .unset, .unset, .unset, .unset, .unset, .unset, .unset, .unset, .unset] [(.double (FP.ddiv (FP.i2d (lonQ p3)) (4616189618054758400 : UInt64))), (.ref b94), (.ref b94), (.ref b60)])
    refine ogo (fun _ z_ => XS.iloadN X96.here hx rfl (hb hby at_159) rfl z_) ?_
    show OWay p e below G T96 (mkF m 160 #[.val (.int p0), .val (.int p1), .val (.int p2), .val (.int p3), .val (.int p4), .val (.int v5_1), .val (.int v6_2), .val (.int us0_3), .val (.ref b5), .val (.ref b60), .unset, .unset, .unset, .unset, .unset, .unset, .unset, .unset, .unset, .unset, .unset, .unset, .unset, .unset, .unset] [(.int p3), (.double (FP.ddiv (FP.i2d (lonQ p3)) (4616189618054758400 : UInt64))), (.ref b94), (.ref b94), (.ref b60)])
    obtain ⟨_, T97, L97, X97, hQ97, st97⟩ := wStatic X96 hx hZ (y := (⟨"com/example/wakeline/wakeline/similarity/CoordinatesSquaredDistancePinLaw", "latQ", "(I)I"⟩ : MethodName)) hown (hw _ (List.mem_of_getElem? (i := 35) rfl)) (hw _ (List.mem_of_getElem? (i := 36) rfl)) (hw _ (List.mem_of_getElem? (i := 31) rfl)) (hw _ (List.mem_of_getElem? (i := 37) rfl)) (by decide) (latQ_b_c l Z az hw [] p3 h94 n0 (Nat.le_trans (Nat.le_trans (Nat.le_trans (Nat.le_trans (Nat.le_trans (Nat.le_trans (Nat.le_trans (Nat.le_trans (Nat.le_trans (Nat.le_trans (Nat.le_trans (Nat.le_trans (Nat.le_trans (Nat.le_trans Z0 E5.1) Kq8.1) E13.1) Kq17.1) Kq28.1) E39.1) Kq43.1) Kq54.1) E60.1) Kq63.1) E68.1) Kq72.1) Kq83.1) E94.1)) 5 (by decide) (by decide) (g := (mkF m 160 #[.val (.int p0), .val (.int p1), .val (.int p2), .val (.int p3), .val (.int p4), .val (.int v5_1), .val (.int v6_2), .val (.int us0_3), .val (.ref b5), .val (.ref b60), .unset, .unset, .unset, .unset, .unset, .unset, .unset, .unset, .unset, .unset, .unset, .unset, .unset, .unset, .unset] [(.int p3), (.double (FP.ddiv (FP.i2d (lonQ p3)) (4616189618054758400 : UInt64))), (.ref b94), (.ref b94), (.ref b60)])) rfl (by rw [hml]; rfl) (argsL := [(.int p3)]) (rest := [(.double (FP.ddiv (FP.i2d (lonQ p3)) (4616189618054758400 : UInt64))), (.ref b94), (.ref b94), (.ref b60)]) (lenOf pd__I_I rfl) rfl (by show 2 * 0 + _ ≤ _; exact Nat.le_of_eq rfl) (hb hby at_160) rfl eq96 (by decide) (by decide)
    obtain ⟨rfl, N97q, eq97⟩ := hQ97
    have N97 := Fr.app N96 N97q
    refine ogo st97 ?_
    show OWay p e below G T97 (mkF m 163 #[.val (.int p0), .val (.int p1), .val (.int p2), .val (.int p3), .val (.int p4), .val (.int v5_1), .val (.int v6_2), .val (.int us0_3), .val (.ref b5), .val (.ref b60), .unset, .unset, .unset, .unset, .unset, .unset, .unset, .unset, .unset, .unset, .unset, .unset, .unset, .unset, .unset] [(.int (latQ p3)), (.double (FP.ddiv (FP.i2d (lonQ p3)) (4616189618054758400 : UInt64))), (.ref b94), (.ref b94), (.ref b60)])
    refine ogo (fun _ z_ => XS.i2dS X97.here hx rfl (hb hby at_163) rfl rfl z_) ?_
    show OWay p e below G T97 (mkF m 164 #[.val (.int p0), .val (.int p1), .val (.int p2), .val (.int p3), .val (.int p4), .val (.int v5_1), .val (.int v6_2), .val (.int us0_3), .val (.ref b5), .val (.ref b60), .unset, .unset, .unset, .unset, .unset, .unset, .unset, .unset, .unset, .unset, .unset, .unset, .unset, .unset, .unset] [(.double (FP.i2d (latQ p3))), (.double (FP.ddiv (FP.i2d (lonQ p3)) (4616189618054758400 : UInt64))), (.ref b94), (.ref b94), (.ref b60)])
    refine ogo (fun _ z_ => X97.ldc2DoubleC hx hown (mvT hZ (hw _ (List.mem_of_getElem? (i := 34) rfl))) (g := (mkF m 164 #[.val (.int p0), .val (.int p1), .val (.int p2), .val (.int p3), .val (.int p4), .val (.int v5_1), .val (.int v6_2), .val (.int us0_3), .val (.ref b5), .val (.ref b60), .unset, .unset, .unset, .unset, .unset, .unset, .unset, .unset, .unset, .unset, .unset, .unset, .unset, .unset, .unset] [(.double (FP.i2d (latQ p3))), (.double (FP.ddiv (FP.i2d (lonQ p3)) (4616189618054758400 : UInt64))), (.ref b94), (.ref b94), (.ref b60)])) rfl (hb hby at_164) _ z_) ?_
    show OWay p e below G T97 (mkF m 167 #[.val (.int p0), .val (.int p1), .val (.int p2), .val (.int p3), .val (.int p4), .val (.int v5_1), .val (.int v6_2), .val (.int us0_3), .val (.ref b5), .val (.ref b60), .unset, .unset, .unset, .unset, .unset, .unset, .unset, .unset, .unset, .unset, .unset, .unset, .unset, .unset, .unset] [(.double (4616189618054758400 : UInt64)), (.double (FP.i2d (latQ p3))), (.double (FP.ddiv (FP.i2d (lonQ p3)) (4616189618054758400 : UInt64))), (.ref b94), (.ref b94), (.ref b60)])
    refine ogo (fun _ z_ => XS.ddivS X97.here hx rfl (hb hby at_167) rfl (dy_nn (own_q4 (latQ p3))) rfl z_) ?_
    show OWay p e below G T97 (mkF m 168 #[.val (.int p0), .val (.int p1), .val (.int p2), .val (.int p3), .val (.int p4), .val (.int v5_1), .val (.int v6_2), .val (.int us0_3), .val (.ref b5), .val (.ref b60), .unset, .unset, .unset, .unset, .unset, .unset, .unset, .unset, .unset, .unset, .unset, .unset, .unset, .unset, .unset] [(.double (FP.ddiv (FP.i2d (latQ p3)) (4616189618054758400 : UInt64))), (.double (FP.ddiv (FP.i2d (lonQ p3)) (4616189618054758400 : UInt64))), (.ref b94), (.ref b94), (.ref b60)])
    refine ogo (fun _ z_ => XS.lconst X97.here hx rfl (hb hby at_168) z_) ?_
    show OWay p e below G T97 (mkF m 169 #[.val (.int p0), .val (.int p1), .val (.int p2), .val (.int p3), .val (.int p4), .val (.int v5_1), .val (.int v6_2), .val (.int us0_3), .val (.ref b5), .val (.ref b60), .unset, .unset, .unset, .unset, .unset, .unset, .unset, .unset, .unset, .unset, .unset, .unset, .unset, .unset, .unset] [(.long (0 : Int64)), (.double (FP.ddiv (FP.i2d (latQ p3)) (4616189618054758400 : UInt64))), (.double (FP.ddiv (FP.i2d (lonQ p3)) (4616189618054758400 : UInt64))), (.ref b94), (.ref b94), (.ref b60)])
    obtain ⟨_, T98, L98, X98, hQ98, st98⟩ := wInit X97 hx hZ (y := (⟨"com/example/wakeline/wakeline/trajectory/Point", "<init>", "(DDJ)V"⟩ : MethodName)) rfl hown (hw _ (List.mem_of_getElem? (i := 38) rfl)) (hw _ (List.mem_of_getElem? (i := 39) rfl)) (hw _ (List.mem_of_getElem? (i := 28) rfl)) (hw _ (List.mem_of_getElem? (i := 40) rfl)) (by decide) (ctor7_c l Z az hw [] b94 (FP.ddiv (FP.i2d (lonQ p3)) (4616189618054758400 : UInt64)) (FP.ddiv (FP.i2d (latQ p3)) (4616189618054758400 : UInt64)) (0 : Int64) h94 n0 (Nat.le_trans (Nat.le_trans (Nat.le_trans (Nat.le_trans (Nat.le_trans (Nat.le_trans (Nat.le_trans (Nat.le_trans (Nat.le_trans (Nat.le_trans (Nat.le_trans (Nat.le_trans (Nat.le_trans (Nat.le_trans Z0 E5.1) Kq8.1) E13.1) Kq17.1) Kq28.1) E39.1) Kq43.1) Kq54.1) E60.1) Kq63.1) E68.1) Kq72.1) Kq83.1) E94.1) A94 g_b94 F_longitude_b94 F_latitude_b94 F_epochMilli_b94 (own_nlt (own_q4 _) dy_m180 (own_lon p3).1) (own_ngt (own_q4 _) dy_p180 (own_lon p3).2) (own_nlt (own_q4 _) dy_m90 (own_lat p3).1) (own_ngt (own_q4 _) dy_p90 (own_lat p3).2)) 2 (by decide) (by decide) (g := (mkF m 169 #[.val (.int p0), .val (.int p1), .val (.int p2), .val (.int p3), .val (.int p4), .val (.int v5_1), .val (.int v6_2), .val (.int us0_3), .val (.ref b5), .val (.ref b60), .unset, .unset, .unset, .unset, .unset, .unset, .unset, .unset, .unset, .unset, .unset, .unset, .unset, .unset, .unset] [(.long (0 : Int64)), (.double (FP.ddiv (FP.i2d (latQ p3)) (4616189618054758400 : UInt64))), (.double (FP.ddiv (FP.i2d (lonQ p3)) (4616189618054758400 : UInt64))), (.ref b94), (.ref b94), (.ref b60)])) rfl (by rw [hml]; rfl) (a := b94) (argsL := [(.double (FP.ddiv (FP.i2d (lonQ p3)) (4616189618054758400 : UInt64))), (.double (FP.ddiv (FP.i2d (latQ p3)) (4616189618054758400 : UInt64))), (.long (0 : Int64))]) (rest := [(.ref b94), (.ref b60)]) (lenOf pd__DDJ_V rfl) rfl (by show 2 * 0 + _ ≤ _; exact Nat.le_of_eq rfl) (hb hby at_169) rfl eq97 (by decide) (by decide)
    obtain ⟨rfl, N98q, Kq98, P99, P100, P101⟩ := hQ98
    have N98 := Fr.app N97 N98q
    have K102 : Keep h0 T98.heap [] := K95.trans Kq98 (allS (Or.inr sz_b94) all0)
    refine ogoS st98 ?_
    show OWay p e below G T98 (mkF m 172 #[.val (.int p0), .val (.int p1), .val (.int p2), .val (.int p3), .val (.int p4), .val (.int v5_1), .val (.int v6_2), .val (.int us0_3), .val (.ref b5), .val (.ref b60), .unset, .unset, .unset, .unset, .unset, .unset, .unset, .unset, .unset, .unset, .unset, .unset, .unset, .unset, .unset] [(.ref b94), (.ref b60)])
    have F103 : Exa Z T98.heap b60 "java/util/ArrayList" := (((F77.keep Kq83).ext E94).keep Kq98)
    have F104 : Fld Z T98.heap b60 "java/util/AbstractList" "modCount" "I" (.int (1 : Int32)) := ((P89.ext E94).keep Kq98 (ninS (Nat.ne_of_lt (Nat.lt_of_lt_of_le P89.lt (Nat.le_of_eq g94.symm))) nin0))
    have F105 : Fld Z T98.heap b60 "java/util/ArrayList" "elementData" "[Ljava/lang/Object;" (.ref b_84) := ((P90.ext E94).keep Kq98 (ninS (Nat.ne_of_lt (Nat.lt_of_lt_of_le P90.lt (Nat.le_of_eq g94.symm))) nin0))
    have F106 : Fld Z T98.heap b60 "java/util/ArrayList" "size" "I" (.int (1 : Int32)) := ((P91.ext E94).keep Kq98 (ninS (Nat.ne_of_lt (Nat.lt_of_lt_of_le P91.lt (Nat.le_of_eq g94.symm))) nin0))
    have F107 : Arv Z T98.heap b_84 k_85 (.object "java/lang/Object") (10 : Int32) [(.ref b68), .null, .null, .null, .null, .null, .null, .null, .null, .null] .null := ((P88.ext E94).keep Kq98 (ninS (Nat.ne_of_lt (Nat.lt_of_lt_of_le P88.lt (Nat.le_of_eq g94.symm))) nin0))
    have F108 : Exa Z T98.heap b94 "com/example/wakeline/wakeline/trajectory/Point" := (A94.keep Kq98)
    obtain ⟨_, T109, L109, X109, hQ109, st109⟩ := wVirtual X98 hx hZ (y := (⟨"java/util/ArrayList", "add", "(Ljava/lang/Object;)Z"⟩ : MethodName)) (z := (⟨"java/util/ArrayList", "add", "(Ljava/lang/Object;)Z"⟩ : MethodName)) hown (hw _ (List.mem_of_getElem? (i := 57) rfl)) (hw _ (List.mem_of_getElem? (i := 58) rfl)) (notFace_of_selects (args := #[]) (mvT hZ (hw _ (List.mem_of_getElem? (i := 60) rfl)))) (hw _ (List.mem_of_getElem? (i := 60) rfl)) (hw _ (List.mem_of_getElem? (i := 59) rfl)) (hw _ (List.mem_of_getElem? (i := 2) rfl)) (hw _ (List.mem_of_getElem? (i := 61) rfl)) (by decide) (add2_c l Z az hw [] b60 b94 b_84 k_85 b68 T98.heap n0 (Nat.le_trans (Nat.le_trans (Nat.le_trans (Nat.le_trans (Nat.le_trans (Nat.le_trans (Nat.le_trans (Nat.le_trans (Nat.le_trans (Nat.le_trans (Nat.le_trans (Nat.le_trans (Nat.le_trans (Nat.le_trans (Nat.le_trans Z0 E5.1) Kq8.1) E13.1) Kq17.1) Kq28.1) E39.1) Kq43.1) Kq54.1) E60.1) Kq63.1) E68.1) Kq72.1) Kq83.1) E94.1) Kq98.1) F103 g_b60 g_b_84 (Nat.ne_of_lt (Nat.lt_of_lt_of_le F78.lt P87)) F104 F105 F106 F107 F108 O_92) 0 (by decide) (by decide) F103 (g := (mkF m 172 #[.val (.int p0), .val (.int p1), .val (.int p2), .val (.int p3), .val (.int p4), .val (.int v5_1), .val (.int v6_2), .val (.int us0_3), .val (.ref b5), .val (.ref b60), .unset, .unset, .unset, .unset, .unset, .unset, .unset, .unset, .unset, .unset, .unset, .unset, .unset, .unset, .unset] [(.ref b94), (.ref b60)])) rfl (by rw [hml]; rfl) (argsL := [(.ref b94)]) (rest := []) (lenOf pd__Ljava_lang_Object__Z rfl) rfl (by show 2 * 0 + _ ≤ _; exact Nat.le_of_eq rfl) (hb hby at_172) rfl rfl (by decide) (by decide)
    obtain ⟨rfl, N109q, Kq109, P110, P111, P112, P113⟩ := hQ109
    have N109 := Fr.app N98 N109q
    have K114 : Keep h0 T109.heap [] := K102.trans Kq109 (allS (Or.inr sz_b60) (allS (Or.inr sz_b_84) all0))
    refine ogoS st109 ?_
    show OWay p e below G T109 (mkF m 175 #[.val (.int p0), .val (.int p1), .val (.int p2), .val (.int p3), .val (.int p4), .val (.int v5_1), .val (.int v6_2), .val (.int us0_3), .val (.ref b5), .val (.ref b60), .unset, .unset, .unset, .unset, .unset, .unset, .unset, .unset, .unset, .unset, .unset, .unset, .unset, .unset, .unset] [(.int (1 : Int32))])
    refine ogo (fun _ z_ => XS.pop X109.here hx rfl (hb hby at_175) rfl rfl z_) ?_
    show OWay p e below G T109 (mkF m 176 #[.val (.int p0), .val (.int p1), .val (.int p2), .val (.int p3), .val (.int p4), .val (.int v5_1), .val (.int v6_2), .val (.int us0_3), .val (.ref b5), .val (.ref b60), .unset, .unset, .unset, .unset, .unset, .unset, .unset, .unset, .unset, .unset, .unset, .unset, .unset, .unset, .unset] [])
    obtain ⟨T115, h115, X115, eT115, E115, A115, D115, -, st115⟩ := newO X109 hx hZ hown (hw _ (List.mem_of_getElem? (i := 88) rfl)) (hw _ (List.mem_of_getElem? (i := 89) rfl)) (hw _ (List.mem_of_getElem? (i := 90) rfl)) rfl (g := (mkF m 176 #[.val (.int p0), .val (.int p1), .val (.int p2), .val (.int p3), .val (.int p4), .val (.int v5_1), .val (.int v6_2), .val (.int us0_3), .val (.ref b5), .val (.ref b60), .unset, .unset, .unset, .unset, .unset, .unset, .unset, .unset, .unset, .unset, .unset, .unset, .unset, .unset, .unset] [])) rfl (hb hby at_176) (by decide) (by decide)
    obtain ⟨b115, g115⟩ : ∃ z, z = T109.heap.size := ⟨_, rfl⟩
    rw [← g115] at A115 D115 st115
    have g_b115 : n0 ≤ b115 := Nat.le_trans (Nat.le_trans (Nat.le_trans (Nat.le_trans (Nat.le_trans (Nat.le_trans (Nat.le_trans (Nat.le_trans (Nat.le_trans (Nat.le_trans (Nat.le_trans (Nat.le_trans (Nat.le_trans (Nat.le_trans (Nat.le_trans (Nat.le_trans (Nat.le_trans Z0 E5.1) Kq8.1) E13.1) Kq17.1) Kq28.1) E39.1) Kq43.1) Kq54.1) E60.1) Kq63.1) E68.1) Kq72.1) Kq83.1) E94.1) Kq98.1) Kq109.1) (Nat.le_of_eq g115.symm)
    have sz_b115 : h0.size ≤ b115 := Nat.le_trans K114.1 (Nat.le_of_eq g115.symm)
    have K116 : Keep h0 h115 [] := K114.ext E115
    have F_longitudes_b115 : Fld Z h115 b115 "com/example/wakeline/wakeline/similarity/Coordinates" "longitudes" "[D" .null := D115 (Or.inr (hw _ (List.mem_of_getElem? (i := 106) rfl))) (ty := (.array .double)) (by decide)
    have F_latitudes_b115 : Fld Z h115 b115 "com/example/wakeline/wakeline/similarity/Coordinates" "latitudes" "[D" .null := D115 (Or.inr (hw _ (List.mem_of_getElem? (i := 108) rfl))) (ty := (.array .double)) (by decide)
    refine ogo st115 ?_
    show OWay p e below G T115 (mkF m 179 #[.val (.int p0), .val (.int p1), .val (.int p2), .val (.int p3), .val (.int p4), .val (.int v5_1), .val (.int v6_2), .val (.int us0_3), .val (.ref b5), .val (.ref b60), .unset, .unset, .unset, .unset, .unset, .unset, .unset, .unset, .unset, .unset, .unset, .unset, .unset, .unset, .unset] [(.ref b115)])
    refine ogo (fun _ z_ => XS.dup X115.here hx rfl (hb hby at_179) rfl rfl z_) ?_
    show OWay p e below G T115 (mkF m 180 #[.val (.int p0), .val (.int p1), .val (.int p2), .val (.int p3), .val (.int p4), .val (.int v5_1), .val (.int v6_2), .val (.int us0_3), .val (.ref b5), .val (.ref b60), .unset, .unset, .unset, .unset, .unset, .unset, .unset, .unset, .unset, .unset, .unset, .unset, .unset, .unset, .unset] [(.ref b115), (.ref b115)])
    refine ogo (fun _ z_ => XS.aload X115.here hx rfl (hb hby at_180) rfl rfl z_) ?_
    show OWay p e below G T115 (mkF m 182 #[.val (.int p0), .val (.int p1), .val (.int p2), .val (.int p3), .val (.int p4), .val (.int v5_1), .val (.int v6_2), .val (.int us0_3), .val (.ref b5), .val (.ref b60), .unset, .unset, .unset, .unset, .unset, .unset, .unset, .unset, .unset, .unset, .unset, .unset, .unset, .unset, .unset] [(.ref b5), (.ref b115), (.ref b115)])
    have F117 : Exa Z h115 b5 "java/util/ArrayList" := ((((((((((F48.keep Kq54).ext E60).keep Kq63).ext E68).keep Kq72).keep Kq83).ext E94).keep Kq98).keep Kq109).ext E115)
    have F118 : Fld Z h115 b5 "java/util/ArrayList" "size" "I" (.int (2 : Int32)) := (((((((((P58.ext E60).keep Kq63 (ninS (Nat.ne_of_lt (Nat.lt_of_lt_of_le P56.lt (Nat.le_of_eq g60.symm))) nin0)).ext E68).keep Kq72 (ninS (Nat.ne_of_lt (Nat.lt_of_lt_of_le ((P56.ext E60).keep Kq63 (ninS (Nat.ne_of_lt (Nat.lt_of_lt_of_le P56.lt (Nat.le_of_eq g60.symm))) nin0)).lt (Nat.le_of_eq g68.symm))) nin0)).keep Kq83 (ninS (Nat.ne_of_lt (Nat.lt_of_lt_of_le P56.lt (Nat.le_of_eq g60.symm))) nin0)).ext E94).keep Kq98 (ninS (Nat.ne_of_lt (Nat.lt_of_lt_of_le (((((P56.ext E60).keep Kq63 (ninS (Nat.ne_of_lt (Nat.lt_of_lt_of_le P56.lt (Nat.le_of_eq g60.symm))) nin0)).ext E68).keep Kq72 (ninS (Nat.ne_of_lt (Nat.lt_of_lt_of_le ((P56.ext E60).keep Kq63 (ninS (Nat.ne_of_lt (Nat.lt_of_lt_of_le P56.lt (Nat.le_of_eq g60.symm))) nin0)).lt (Nat.le_of_eq g68.symm))) nin0)).keep Kq83 (ninS (Nat.ne_of_lt (Nat.lt_of_lt_of_le P56.lt (Nat.le_of_eq g60.symm))) nin0)).lt (Nat.le_of_eq g94.symm))) nin0)).keep Kq109 (ninS (Nat.ne_of_lt (Nat.lt_of_lt_of_le P56.lt (Nat.le_of_eq g60.symm))) (ninS (Nat.ne_of_lt (Nat.lt_of_lt_of_le ((((P56.ext E60).keep Kq63 (ninS (Nat.ne_of_lt (Nat.lt_of_lt_of_le P56.lt (Nat.le_of_eq g60.symm))) nin0)).ext E68).keep Kq72 (ninS (Nat.ne_of_lt (Nat.lt_of_lt_of_le ((P56.ext E60).keep Kq63 (ninS (Nat.ne_of_lt (Nat.lt_of_lt_of_le P56.lt (Nat.le_of_eq g60.symm))) nin0)).lt (Nat.le_of_eq g68.symm))) nin0)).lt P87)) nin0))).ext E115)
    have F119 : Fld Z h115 b5 "java/util/ArrayList" "elementData" "[Ljava/lang/Object;" (.ref b_29) := (((((((((P57.ext E60).keep Kq63 (ninS (Nat.ne_of_lt (Nat.lt_of_lt_of_le P56.lt (Nat.le_of_eq g60.symm))) nin0)).ext E68).keep Kq72 (ninS (Nat.ne_of_lt (Nat.lt_of_lt_of_le ((P56.ext E60).keep Kq63 (ninS (Nat.ne_of_lt (Nat.lt_of_lt_of_le P56.lt (Nat.le_of_eq g60.symm))) nin0)).lt (Nat.le_of_eq g68.symm))) nin0)).keep Kq83 (ninS (Nat.ne_of_lt (Nat.lt_of_lt_of_le P56.lt (Nat.le_of_eq g60.symm))) nin0)).ext E94).keep Kq98 (ninS (Nat.ne_of_lt (Nat.lt_of_lt_of_le (((((P56.ext E60).keep Kq63 (ninS (Nat.ne_of_lt (Nat.lt_of_lt_of_le P56.lt (Nat.le_of_eq g60.symm))) nin0)).ext E68).keep Kq72 (ninS (Nat.ne_of_lt (Nat.lt_of_lt_of_le ((P56.ext E60).keep Kq63 (ninS (Nat.ne_of_lt (Nat.lt_of_lt_of_le P56.lt (Nat.le_of_eq g60.symm))) nin0)).lt (Nat.le_of_eq g68.symm))) nin0)).keep Kq83 (ninS (Nat.ne_of_lt (Nat.lt_of_lt_of_le P56.lt (Nat.le_of_eq g60.symm))) nin0)).lt (Nat.le_of_eq g94.symm))) nin0)).keep Kq109 (ninS (Nat.ne_of_lt (Nat.lt_of_lt_of_le P56.lt (Nat.le_of_eq g60.symm))) (ninS (Nat.ne_of_lt (Nat.lt_of_lt_of_le ((((P56.ext E60).keep Kq63 (ninS (Nat.ne_of_lt (Nat.lt_of_lt_of_le P56.lt (Nat.le_of_eq g60.symm))) nin0)).ext E68).keep Kq72 (ninS (Nat.ne_of_lt (Nat.lt_of_lt_of_le ((P56.ext E60).keep Kq63 (ninS (Nat.ne_of_lt (Nat.lt_of_lt_of_le P56.lt (Nat.le_of_eq g60.symm))) nin0)).lt (Nat.le_of_eq g68.symm))) nin0)).lt P87)) nin0))).ext E115)
    have F120 : Arv Z h115 b_29 k_30 (.object "java/lang/Object") (10 : Int32) [(.ref b13), (.ref b39), .null, .null, .null, .null, .null, .null, .null, .null] .null := (((((((((P55.ext E60).keep Kq63 (ninS (Nat.ne_of_lt (Nat.lt_of_lt_of_le P55.lt (Nat.le_of_eq g60.symm))) nin0)).ext E68).keep Kq72 (ninS (Nat.ne_of_lt (Nat.lt_of_lt_of_le ((P55.ext E60).keep Kq63 (ninS (Nat.ne_of_lt (Nat.lt_of_lt_of_le P55.lt (Nat.le_of_eq g60.symm))) nin0)).lt (Nat.le_of_eq g68.symm))) nin0)).keep Kq83 (ninS (Nat.ne_of_lt (Nat.lt_of_lt_of_le P55.lt (Nat.le_of_eq g60.symm))) nin0)).ext E94).keep Kq98 (ninS (Nat.ne_of_lt (Nat.lt_of_lt_of_le (((((P55.ext E60).keep Kq63 (ninS (Nat.ne_of_lt (Nat.lt_of_lt_of_le P55.lt (Nat.le_of_eq g60.symm))) nin0)).ext E68).keep Kq72 (ninS (Nat.ne_of_lt (Nat.lt_of_lt_of_le ((P55.ext E60).keep Kq63 (ninS (Nat.ne_of_lt (Nat.lt_of_lt_of_le P55.lt (Nat.le_of_eq g60.symm))) nin0)).lt (Nat.le_of_eq g68.symm))) nin0)).keep Kq83 (ninS (Nat.ne_of_lt (Nat.lt_of_lt_of_le P55.lt (Nat.le_of_eq g60.symm))) nin0)).lt (Nat.le_of_eq g94.symm))) nin0)).keep Kq109 (ninS (Nat.ne_of_lt (Nat.lt_of_lt_of_le P55.lt (Nat.le_of_eq g60.symm))) (ninS (Nat.ne_of_lt (Nat.lt_of_lt_of_le ((((P55.ext E60).keep Kq63 (ninS (Nat.ne_of_lt (Nat.lt_of_lt_of_le P55.lt (Nat.le_of_eq g60.symm))) nin0)).ext E68).keep Kq72 (ninS (Nat.ne_of_lt (Nat.lt_of_lt_of_le ((P55.ext E60).keep Kq63 (ninS (Nat.ne_of_lt (Nat.lt_of_lt_of_le P55.lt (Nat.le_of_eq g60.symm))) nin0)).lt (Nat.le_of_eq g68.symm))) nin0)).lt P87)) nin0))).ext E115)
    have F121 : Exa Z h115 b13 "com/example/wakeline/wakeline/trajectory/Point" := (((((((((((((F27.keep Kq28).ext E39).keep Kq43).keep Kq54).ext E60).keep Kq63).ext E68).keep Kq72).keep Kq83).ext E94).keep Kq98).keep Kq109).ext E115)
    have F122 : Fld Z h115 b13 "com/example/wakeline/wakeline/trajectory/Point" "longitude" "D" (.double (FP.ddiv (FP.i2d (lonQ p0)) (4616189618054758400 : UInt64))) := (((((((((((((P18.keep Kq28 (ninS (Ne.symm (Nat.ne_of_lt (Nat.lt_of_lt_of_le P9.lt (Nat.le_of_eq g13.symm)))) nin0)).ext E39).keep Kq43 (ninS (Nat.ne_of_lt (Nat.lt_of_lt_of_le (P18.keep Kq28 (ninS (Ne.symm (Nat.ne_of_lt (Nat.lt_of_lt_of_le P9.lt (Nat.le_of_eq g13.symm)))) nin0)).lt (Nat.le_of_eq g39.symm))) nin0)).keep Kq54 (ninS (Ne.symm (Nat.ne_of_lt (Nat.lt_of_lt_of_le P9.lt (Nat.le_of_eq g13.symm)))) (ninS (Nat.ne_of_lt (Nat.lt_of_lt_of_le P18.lt P32)) nin0))).ext E60).keep Kq63 (ninS (Nat.ne_of_lt (Nat.lt_of_lt_of_le ((((P18.keep Kq28 (ninS (Ne.symm (Nat.ne_of_lt (Nat.lt_of_lt_of_le P9.lt (Nat.le_of_eq g13.symm)))) nin0)).ext E39).keep Kq43 (ninS (Nat.ne_of_lt (Nat.lt_of_lt_of_le (P18.keep Kq28 (ninS (Ne.symm (Nat.ne_of_lt (Nat.lt_of_lt_of_le P9.lt (Nat.le_of_eq g13.symm)))) nin0)).lt (Nat.le_of_eq g39.symm))) nin0)).keep Kq54 (ninS (Ne.symm (Nat.ne_of_lt (Nat.lt_of_lt_of_le P9.lt (Nat.le_of_eq g13.symm)))) (ninS (Nat.ne_of_lt (Nat.lt_of_lt_of_le P18.lt P32)) nin0))).lt (Nat.le_of_eq g60.symm))) nin0)).ext E68).keep Kq72 (ninS (Nat.ne_of_lt (Nat.lt_of_lt_of_le ((((((P18.keep Kq28 (ninS (Ne.symm (Nat.ne_of_lt (Nat.lt_of_lt_of_le P9.lt (Nat.le_of_eq g13.symm)))) nin0)).ext E39).keep Kq43 (ninS (Nat.ne_of_lt (Nat.lt_of_lt_of_le (P18.keep Kq28 (ninS (Ne.symm (Nat.ne_of_lt (Nat.lt_of_lt_of_le P9.lt (Nat.le_of_eq g13.symm)))) nin0)).lt (Nat.le_of_eq g39.symm))) nin0)).keep Kq54 (ninS (Ne.symm (Nat.ne_of_lt (Nat.lt_of_lt_of_le P9.lt (Nat.le_of_eq g13.symm)))) (ninS (Nat.ne_of_lt (Nat.lt_of_lt_of_le P18.lt P32)) nin0))).ext E60).keep Kq63 (ninS (Nat.ne_of_lt (Nat.lt_of_lt_of_le ((((P18.keep Kq28 (ninS (Ne.symm (Nat.ne_of_lt (Nat.lt_of_lt_of_le P9.lt (Nat.le_of_eq g13.symm)))) nin0)).ext E39).keep Kq43 (ninS (Nat.ne_of_lt (Nat.lt_of_lt_of_le (P18.keep Kq28 (ninS (Ne.symm (Nat.ne_of_lt (Nat.lt_of_lt_of_le P9.lt (Nat.le_of_eq g13.symm)))) nin0)).lt (Nat.le_of_eq g39.symm))) nin0)).keep Kq54 (ninS (Ne.symm (Nat.ne_of_lt (Nat.lt_of_lt_of_le P9.lt (Nat.le_of_eq g13.symm)))) (ninS (Nat.ne_of_lt (Nat.lt_of_lt_of_le P18.lt P32)) nin0))).lt (Nat.le_of_eq g60.symm))) nin0)).lt (Nat.le_of_eq g68.symm))) nin0)).keep Kq83 (ninS (Nat.ne_of_lt (Nat.lt_of_lt_of_le ((((P18.keep Kq28 (ninS (Ne.symm (Nat.ne_of_lt (Nat.lt_of_lt_of_le P9.lt (Nat.le_of_eq g13.symm)))) nin0)).ext E39).keep Kq43 (ninS (Nat.ne_of_lt (Nat.lt_of_lt_of_le (P18.keep Kq28 (ninS (Ne.symm (Nat.ne_of_lt (Nat.lt_of_lt_of_le P9.lt (Nat.le_of_eq g13.symm)))) nin0)).lt (Nat.le_of_eq g39.symm))) nin0)).keep Kq54 (ninS (Ne.symm (Nat.ne_of_lt (Nat.lt_of_lt_of_le P9.lt (Nat.le_of_eq g13.symm)))) (ninS (Nat.ne_of_lt (Nat.lt_of_lt_of_le P18.lt P32)) nin0))).lt (Nat.le_of_eq g60.symm))) nin0)).ext E94).keep Kq98 (ninS (Nat.ne_of_lt (Nat.lt_of_lt_of_le (((((((((P18.keep Kq28 (ninS (Ne.symm (Nat.ne_of_lt (Nat.lt_of_lt_of_le P9.lt (Nat.le_of_eq g13.symm)))) nin0)).ext E39).keep Kq43 (ninS (Nat.ne_of_lt (Nat.lt_of_lt_of_le (P18.keep Kq28 (ninS (Ne.symm (Nat.ne_of_lt (Nat.lt_of_lt_of_le P9.lt (Nat.le_of_eq g13.symm)))) nin0)).lt (Nat.le_of_eq g39.symm))) nin0)).keep Kq54 (ninS (Ne.symm (Nat.ne_of_lt (Nat.lt_of_lt_of_le P9.lt (Nat.le_of_eq g13.symm)))) (ninS (Nat.ne_of_lt (Nat.lt_of_lt_of_le P18.lt P32)) nin0))).ext E60).keep Kq63 (ninS (Nat.ne_of_lt (Nat.lt_of_lt_of_le ((((P18.keep Kq28 (ninS (Ne.symm (Nat.ne_of_lt (Nat.lt_of_lt_of_le P9.lt (Nat.le_of_eq g13.symm)))) nin0)).ext E39).keep Kq43 (ninS (Nat.ne_of_lt (Nat.lt_of_lt_of_le (P18.keep Kq28 (ninS (Ne.symm (Nat.ne_of_lt (Nat.lt_of_lt_of_le P9.lt (Nat.le_of_eq g13.symm)))) nin0)).lt (Nat.le_of_eq g39.symm))) nin0)).keep Kq54 (ninS (Ne.symm (Nat.ne_of_lt (Nat.lt_of_lt_of_le P9.lt (Nat.le_of_eq g13.symm)))) (ninS (Nat.ne_of_lt (Nat.lt_of_lt_of_le P18.lt P32)) nin0))).lt (Nat.le_of_eq g60.symm))) nin0)).ext E68).keep Kq72 (ninS (Nat.ne_of_lt (Nat.lt_of_lt_of_le ((((((P18.keep Kq28 (ninS (Ne.symm (Nat.ne_of_lt (Nat.lt_of_lt_of_le P9.lt (Nat.le_of_eq g13.symm)))) nin0)).ext E39).keep Kq43 (ninS (Nat.ne_of_lt (Nat.lt_of_lt_of_le (P18.keep Kq28 (ninS (Ne.symm (Nat.ne_of_lt (Nat.lt_of_lt_of_le P9.lt (Nat.le_of_eq g13.symm)))) nin0)).lt (Nat.le_of_eq g39.symm))) nin0)).keep Kq54 (ninS (Ne.symm (Nat.ne_of_lt (Nat.lt_of_lt_of_le P9.lt (Nat.le_of_eq g13.symm)))) (ninS (Nat.ne_of_lt (Nat.lt_of_lt_of_le P18.lt P32)) nin0))).ext E60).keep Kq63 (ninS (Nat.ne_of_lt (Nat.lt_of_lt_of_le ((((P18.keep Kq28 (ninS (Ne.symm (Nat.ne_of_lt (Nat.lt_of_lt_of_le P9.lt (Nat.le_of_eq g13.symm)))) nin0)).ext E39).keep Kq43 (ninS (Nat.ne_of_lt (Nat.lt_of_lt_of_le (P18.keep Kq28 (ninS (Ne.symm (Nat.ne_of_lt (Nat.lt_of_lt_of_le P9.lt (Nat.le_of_eq g13.symm)))) nin0)).lt (Nat.le_of_eq g39.symm))) nin0)).keep Kq54 (ninS (Ne.symm (Nat.ne_of_lt (Nat.lt_of_lt_of_le P9.lt (Nat.le_of_eq g13.symm)))) (ninS (Nat.ne_of_lt (Nat.lt_of_lt_of_le P18.lt P32)) nin0))).lt (Nat.le_of_eq g60.symm))) nin0)).lt (Nat.le_of_eq g68.symm))) nin0)).keep Kq83 (ninS (Nat.ne_of_lt (Nat.lt_of_lt_of_le ((((P18.keep Kq28 (ninS (Ne.symm (Nat.ne_of_lt (Nat.lt_of_lt_of_le P9.lt (Nat.le_of_eq g13.symm)))) nin0)).ext E39).keep Kq43 (ninS (Nat.ne_of_lt (Nat.lt_of_lt_of_le (P18.keep Kq28 (ninS (Ne.symm (Nat.ne_of_lt (Nat.lt_of_lt_of_le P9.lt (Nat.le_of_eq g13.symm)))) nin0)).lt (Nat.le_of_eq g39.symm))) nin0)).keep Kq54 (ninS (Ne.symm (Nat.ne_of_lt (Nat.lt_of_lt_of_le P9.lt (Nat.le_of_eq g13.symm)))) (ninS (Nat.ne_of_lt (Nat.lt_of_lt_of_le P18.lt P32)) nin0))).lt (Nat.le_of_eq g60.symm))) nin0)).lt (Nat.le_of_eq g94.symm))) nin0)).keep Kq109 (ninS (Nat.ne_of_lt (Nat.lt_of_lt_of_le ((((P18.keep Kq28 (ninS (Ne.symm (Nat.ne_of_lt (Nat.lt_of_lt_of_le P9.lt (Nat.le_of_eq g13.symm)))) nin0)).ext E39).keep Kq43 (ninS (Nat.ne_of_lt (Nat.lt_of_lt_of_le (P18.keep Kq28 (ninS (Ne.symm (Nat.ne_of_lt (Nat.lt_of_lt_of_le P9.lt (Nat.le_of_eq g13.symm)))) nin0)).lt (Nat.le_of_eq g39.symm))) nin0)).keep Kq54 (ninS (Ne.symm (Nat.ne_of_lt (Nat.lt_of_lt_of_le P9.lt (Nat.le_of_eq g13.symm)))) (ninS (Nat.ne_of_lt (Nat.lt_of_lt_of_le P18.lt P32)) nin0))).lt (Nat.le_of_eq g60.symm))) (ninS (Nat.ne_of_lt (Nat.lt_of_lt_of_le ((((((((P18.keep Kq28 (ninS (Ne.symm (Nat.ne_of_lt (Nat.lt_of_lt_of_le P9.lt (Nat.le_of_eq g13.symm)))) nin0)).ext E39).keep Kq43 (ninS (Nat.ne_of_lt (Nat.lt_of_lt_of_le (P18.keep Kq28 (ninS (Ne.symm (Nat.ne_of_lt (Nat.lt_of_lt_of_le P9.lt (Nat.le_of_eq g13.symm)))) nin0)).lt (Nat.le_of_eq g39.symm))) nin0)).keep Kq54 (ninS (Ne.symm (Nat.ne_of_lt (Nat.lt_of_lt_of_le P9.lt (Nat.le_of_eq g13.symm)))) (ninS (Nat.ne_of_lt (Nat.lt_of_lt_of_le P18.lt P32)) nin0))).ext E60).keep Kq63 (ninS (Nat.ne_of_lt (Nat.lt_of_lt_of_le ((((P18.keep Kq28 (ninS (Ne.symm (Nat.ne_of_lt (Nat.lt_of_lt_of_le P9.lt (Nat.le_of_eq g13.symm)))) nin0)).ext E39).keep Kq43 (ninS (Nat.ne_of_lt (Nat.lt_of_lt_of_le (P18.keep Kq28 (ninS (Ne.symm (Nat.ne_of_lt (Nat.lt_of_lt_of_le P9.lt (Nat.le_of_eq g13.symm)))) nin0)).lt (Nat.le_of_eq g39.symm))) nin0)).keep Kq54 (ninS (Ne.symm (Nat.ne_of_lt (Nat.lt_of_lt_of_le P9.lt (Nat.le_of_eq g13.symm)))) (ninS (Nat.ne_of_lt (Nat.lt_of_lt_of_le P18.lt P32)) nin0))).lt (Nat.le_of_eq g60.symm))) nin0)).ext E68).keep Kq72 (ninS (Nat.ne_of_lt (Nat.lt_of_lt_of_le ((((((P18.keep Kq28 (ninS (Ne.symm (Nat.ne_of_lt (Nat.lt_of_lt_of_le P9.lt (Nat.le_of_eq g13.symm)))) nin0)).ext E39).keep Kq43 (ninS (Nat.ne_of_lt (Nat.lt_of_lt_of_le (P18.keep Kq28 (ninS (Ne.symm (Nat.ne_of_lt (Nat.lt_of_lt_of_le P9.lt (Nat.le_of_eq g13.symm)))) nin0)).lt (Nat.le_of_eq g39.symm))) nin0)).keep Kq54 (ninS (Ne.symm (Nat.ne_of_lt (Nat.lt_of_lt_of_le P9.lt (Nat.le_of_eq g13.symm)))) (ninS (Nat.ne_of_lt (Nat.lt_of_lt_of_le P18.lt P32)) nin0))).ext E60).keep Kq63 (ninS (Nat.ne_of_lt (Nat.lt_of_lt_of_le ((((P18.keep Kq28 (ninS (Ne.symm (Nat.ne_of_lt (Nat.lt_of_lt_of_le P9.lt (Nat.le_of_eq g13.symm)))) nin0)).ext E39).keep Kq43 (ninS (Nat.ne_of_lt (Nat.lt_of_lt_of_le (P18.keep Kq28 (ninS (Ne.symm (Nat.ne_of_lt (Nat.lt_of_lt_of_le P9.lt (Nat.le_of_eq g13.symm)))) nin0)).lt (Nat.le_of_eq g39.symm))) nin0)).keep Kq54 (ninS (Ne.symm (Nat.ne_of_lt (Nat.lt_of_lt_of_le P9.lt (Nat.le_of_eq g13.symm)))) (ninS (Nat.ne_of_lt (Nat.lt_of_lt_of_le P18.lt P32)) nin0))).lt (Nat.le_of_eq g60.symm))) nin0)).lt (Nat.le_of_eq g68.symm))) nin0)).lt P87)) nin0))).ext E115)
    have F123 : Fld Z h115 b13 "com/example/wakeline/wakeline/trajectory/Point" "latitude" "D" (.double (FP.ddiv (FP.i2d (latQ p0)) (4616189618054758400 : UInt64))) := (((((((((((((P19.keep Kq28 (ninS (Ne.symm (Nat.ne_of_lt (Nat.lt_of_lt_of_le P9.lt (Nat.le_of_eq g13.symm)))) nin0)).ext E39).keep Kq43 (ninS (Nat.ne_of_lt (Nat.lt_of_lt_of_le (P19.keep Kq28 (ninS (Ne.symm (Nat.ne_of_lt (Nat.lt_of_lt_of_le P9.lt (Nat.le_of_eq g13.symm)))) nin0)).lt (Nat.le_of_eq g39.symm))) nin0)).keep Kq54 (ninS (Ne.symm (Nat.ne_of_lt (Nat.lt_of_lt_of_le P9.lt (Nat.le_of_eq g13.symm)))) (ninS (Nat.ne_of_lt (Nat.lt_of_lt_of_le P19.lt P32)) nin0))).ext E60).keep Kq63 (ninS (Nat.ne_of_lt (Nat.lt_of_lt_of_le ((((P19.keep Kq28 (ninS (Ne.symm (Nat.ne_of_lt (Nat.lt_of_lt_of_le P9.lt (Nat.le_of_eq g13.symm)))) nin0)).ext E39).keep Kq43 (ninS (Nat.ne_of_lt (Nat.lt_of_lt_of_le (P19.keep Kq28 (ninS (Ne.symm (Nat.ne_of_lt (Nat.lt_of_lt_of_le P9.lt (Nat.le_of_eq g13.symm)))) nin0)).lt (Nat.le_of_eq g39.symm))) nin0)).keep Kq54 (ninS (Ne.symm (Nat.ne_of_lt (Nat.lt_of_lt_of_le P9.lt (Nat.le_of_eq g13.symm)))) (ninS (Nat.ne_of_lt (Nat.lt_of_lt_of_le P19.lt P32)) nin0))).lt (Nat.le_of_eq g60.symm))) nin0)).ext E68).keep Kq72 (ninS (Nat.ne_of_lt (Nat.lt_of_lt_of_le ((((((P19.keep Kq28 (ninS (Ne.symm (Nat.ne_of_lt (Nat.lt_of_lt_of_le P9.lt (Nat.le_of_eq g13.symm)))) nin0)).ext E39).keep Kq43 (ninS (Nat.ne_of_lt (Nat.lt_of_lt_of_le (P19.keep Kq28 (ninS (Ne.symm (Nat.ne_of_lt (Nat.lt_of_lt_of_le P9.lt (Nat.le_of_eq g13.symm)))) nin0)).lt (Nat.le_of_eq g39.symm))) nin0)).keep Kq54 (ninS (Ne.symm (Nat.ne_of_lt (Nat.lt_of_lt_of_le P9.lt (Nat.le_of_eq g13.symm)))) (ninS (Nat.ne_of_lt (Nat.lt_of_lt_of_le P19.lt P32)) nin0))).ext E60).keep Kq63 (ninS (Nat.ne_of_lt (Nat.lt_of_lt_of_le ((((P19.keep Kq28 (ninS (Ne.symm (Nat.ne_of_lt (Nat.lt_of_lt_of_le P9.lt (Nat.le_of_eq g13.symm)))) nin0)).ext E39).keep Kq43 (ninS (Nat.ne_of_lt (Nat.lt_of_lt_of_le (P19.keep Kq28 (ninS (Ne.symm (Nat.ne_of_lt (Nat.lt_of_lt_of_le P9.lt (Nat.le_of_eq g13.symm)))) nin0)).lt (Nat.le_of_eq g39.symm))) nin0)).keep Kq54 (ninS (Ne.symm (Nat.ne_of_lt (Nat.lt_of_lt_of_le P9.lt (Nat.le_of_eq g13.symm)))) (ninS (Nat.ne_of_lt (Nat.lt_of_lt_of_le P19.lt P32)) nin0))).lt (Nat.le_of_eq g60.symm))) nin0)).lt (Nat.le_of_eq g68.symm))) nin0)).keep Kq83 (ninS (Nat.ne_of_lt (Nat.lt_of_lt_of_le ((((P19.keep Kq28 (ninS (Ne.symm (Nat.ne_of_lt (Nat.lt_of_lt_of_le P9.lt (Nat.le_of_eq g13.symm)))) nin0)).ext E39).keep Kq43 (ninS (Nat.ne_of_lt (Nat.lt_of_lt_of_le (P19.keep Kq28 (ninS (Ne.symm (Nat.ne_of_lt (Nat.lt_of_lt_of_le P9.lt (Nat.le_of_eq g13.symm)))) nin0)).lt (Nat.le_of_eq g39.symm))) nin0)).keep Kq54 (ninS (Ne.symm (Nat.ne_of_lt (Nat.lt_of_lt_of_le P9.lt (Nat.le_of_eq g13.symm)))) (ninS (Nat.ne_of_lt (Nat.lt_of_lt_of_le P19.lt P32)) nin0))).lt (Nat.le_of_eq g60.symm))) nin0)).ext E94).keep Kq98 (ninS (Nat.ne_of_lt (Nat.lt_of_lt_of_le (((((((((P19.keep Kq28 (ninS (Ne.symm (Nat.ne_of_lt (Nat.lt_of_lt_of_le P9.lt (Nat.le_of_eq g13.symm)))) nin0)).ext E39).keep Kq43 (ninS (Nat.ne_of_lt (Nat.lt_of_lt_of_le (P19.keep Kq28 (ninS (Ne.symm (Nat.ne_of_lt (Nat.lt_of_lt_of_le P9.lt (Nat.le_of_eq g13.symm)))) nin0)).lt (Nat.le_of_eq g39.symm))) nin0)).keep Kq54 (ninS (Ne.symm (Nat.ne_of_lt (Nat.lt_of_lt_of_le P9.lt (Nat.le_of_eq g13.symm)))) (ninS (Nat.ne_of_lt (Nat.lt_of_lt_of_le P19.lt P32)) nin0))).ext E60).keep Kq63 (ninS (Nat.ne_of_lt (Nat.lt_of_lt_of_le ((((P19.keep Kq28 (ninS (Ne.symm (Nat.ne_of_lt (Nat.lt_of_lt_of_le P9.lt (Nat.le_of_eq g13.symm)))) nin0)).ext E39).keep Kq43 (ninS (Nat.ne_of_lt (Nat.lt_of_lt_of_le (P19.keep Kq28 (ninS (Ne.symm (Nat.ne_of_lt (Nat.lt_of_lt_of_le P9.lt (Nat.le_of_eq g13.symm)))) nin0)).lt (Nat.le_of_eq g39.symm))) nin0)).keep Kq54 (ninS (Ne.symm (Nat.ne_of_lt (Nat.lt_of_lt_of_le P9.lt (Nat.le_of_eq g13.symm)))) (ninS (Nat.ne_of_lt (Nat.lt_of_lt_of_le P19.lt P32)) nin0))).lt (Nat.le_of_eq g60.symm))) nin0)).ext E68).keep Kq72 (ninS (Nat.ne_of_lt (Nat.lt_of_lt_of_le ((((((P19.keep Kq28 (ninS (Ne.symm (Nat.ne_of_lt (Nat.lt_of_lt_of_le P9.lt (Nat.le_of_eq g13.symm)))) nin0)).ext E39).keep Kq43 (ninS (Nat.ne_of_lt (Nat.lt_of_lt_of_le (P19.keep Kq28 (ninS (Ne.symm (Nat.ne_of_lt (Nat.lt_of_lt_of_le P9.lt (Nat.le_of_eq g13.symm)))) nin0)).lt (Nat.le_of_eq g39.symm))) nin0)).keep Kq54 (ninS (Ne.symm (Nat.ne_of_lt (Nat.lt_of_lt_of_le P9.lt (Nat.le_of_eq g13.symm)))) (ninS (Nat.ne_of_lt (Nat.lt_of_lt_of_le P19.lt P32)) nin0))).ext E60).keep Kq63 (ninS (Nat.ne_of_lt (Nat.lt_of_lt_of_le ((((P19.keep Kq28 (ninS (Ne.symm (Nat.ne_of_lt (Nat.lt_of_lt_of_le P9.lt (Nat.le_of_eq g13.symm)))) nin0)).ext E39).keep Kq43 (ninS (Nat.ne_of_lt (Nat.lt_of_lt_of_le (P19.keep Kq28 (ninS (Ne.symm (Nat.ne_of_lt (Nat.lt_of_lt_of_le P9.lt (Nat.le_of_eq g13.symm)))) nin0)).lt (Nat.le_of_eq g39.symm))) nin0)).keep Kq54 (ninS (Ne.symm (Nat.ne_of_lt (Nat.lt_of_lt_of_le P9.lt (Nat.le_of_eq g13.symm)))) (ninS (Nat.ne_of_lt (Nat.lt_of_lt_of_le P19.lt P32)) nin0))).lt (Nat.le_of_eq g60.symm))) nin0)).lt (Nat.le_of_eq g68.symm))) nin0)).keep Kq83 (ninS (Nat.ne_of_lt (Nat.lt_of_lt_of_le ((((P19.keep Kq28 (ninS (Ne.symm (Nat.ne_of_lt (Nat.lt_of_lt_of_le P9.lt (Nat.le_of_eq g13.symm)))) nin0)).ext E39).keep Kq43 (ninS (Nat.ne_of_lt (Nat.lt_of_lt_of_le (P19.keep Kq28 (ninS (Ne.symm (Nat.ne_of_lt (Nat.lt_of_lt_of_le P9.lt (Nat.le_of_eq g13.symm)))) nin0)).lt (Nat.le_of_eq g39.symm))) nin0)).keep Kq54 (ninS (Ne.symm (Nat.ne_of_lt (Nat.lt_of_lt_of_le P9.lt (Nat.le_of_eq g13.symm)))) (ninS (Nat.ne_of_lt (Nat.lt_of_lt_of_le P19.lt P32)) nin0))).lt (Nat.le_of_eq g60.symm))) nin0)).lt (Nat.le_of_eq g94.symm))) nin0)).keep Kq109 (ninS (Nat.ne_of_lt (Nat.lt_of_lt_of_le ((((P19.keep Kq28 (ninS (Ne.symm (Nat.ne_of_lt (Nat.lt_of_lt_of_le P9.lt (Nat.le_of_eq g13.symm)))) nin0)).ext E39).keep Kq43 (ninS (Nat.ne_of_lt (Nat.lt_of_lt_of_le (P19.keep Kq28 (ninS (Ne.symm (Nat.ne_of_lt (Nat.lt_of_lt_of_le P9.lt (Nat.le_of_eq g13.symm)))) nin0)).lt (Nat.le_of_eq g39.symm))) nin0)).keep Kq54 (ninS (Ne.symm (Nat.ne_of_lt (Nat.lt_of_lt_of_le P9.lt (Nat.le_of_eq g13.symm)))) (ninS (Nat.ne_of_lt (Nat.lt_of_lt_of_le P19.lt P32)) nin0))).lt (Nat.le_of_eq g60.symm))) (ninS (Nat.ne_of_lt (Nat.lt_of_lt_of_le ((((((((P19.keep Kq28 (ninS (Ne.symm (Nat.ne_of_lt (Nat.lt_of_lt_of_le P9.lt (Nat.le_of_eq g13.symm)))) nin0)).ext E39).keep Kq43 (ninS (Nat.ne_of_lt (Nat.lt_of_lt_of_le (P19.keep Kq28 (ninS (Ne.symm (Nat.ne_of_lt (Nat.lt_of_lt_of_le P9.lt (Nat.le_of_eq g13.symm)))) nin0)).lt (Nat.le_of_eq g39.symm))) nin0)).keep Kq54 (ninS (Ne.symm (Nat.ne_of_lt (Nat.lt_of_lt_of_le P9.lt (Nat.le_of_eq g13.symm)))) (ninS (Nat.ne_of_lt (Nat.lt_of_lt_of_le P19.lt P32)) nin0))).ext E60).keep Kq63 (ninS (Nat.ne_of_lt (Nat.lt_of_lt_of_le ((((P19.keep Kq28 (ninS (Ne.symm (Nat.ne_of_lt (Nat.lt_of_lt_of_le P9.lt (Nat.le_of_eq g13.symm)))) nin0)).ext E39).keep Kq43 (ninS (Nat.ne_of_lt (Nat.lt_of_lt_of_le (P19.keep Kq28 (ninS (Ne.symm (Nat.ne_of_lt (Nat.lt_of_lt_of_le P9.lt (Nat.le_of_eq g13.symm)))) nin0)).lt (Nat.le_of_eq g39.symm))) nin0)).keep Kq54 (ninS (Ne.symm (Nat.ne_of_lt (Nat.lt_of_lt_of_le P9.lt (Nat.le_of_eq g13.symm)))) (ninS (Nat.ne_of_lt (Nat.lt_of_lt_of_le P19.lt P32)) nin0))).lt (Nat.le_of_eq g60.symm))) nin0)).ext E68).keep Kq72 (ninS (Nat.ne_of_lt (Nat.lt_of_lt_of_le ((((((P19.keep Kq28 (ninS (Ne.symm (Nat.ne_of_lt (Nat.lt_of_lt_of_le P9.lt (Nat.le_of_eq g13.symm)))) nin0)).ext E39).keep Kq43 (ninS (Nat.ne_of_lt (Nat.lt_of_lt_of_le (P19.keep Kq28 (ninS (Ne.symm (Nat.ne_of_lt (Nat.lt_of_lt_of_le P9.lt (Nat.le_of_eq g13.symm)))) nin0)).lt (Nat.le_of_eq g39.symm))) nin0)).keep Kq54 (ninS (Ne.symm (Nat.ne_of_lt (Nat.lt_of_lt_of_le P9.lt (Nat.le_of_eq g13.symm)))) (ninS (Nat.ne_of_lt (Nat.lt_of_lt_of_le P19.lt P32)) nin0))).ext E60).keep Kq63 (ninS (Nat.ne_of_lt (Nat.lt_of_lt_of_le ((((P19.keep Kq28 (ninS (Ne.symm (Nat.ne_of_lt (Nat.lt_of_lt_of_le P9.lt (Nat.le_of_eq g13.symm)))) nin0)).ext E39).keep Kq43 (ninS (Nat.ne_of_lt (Nat.lt_of_lt_of_le (P19.keep Kq28 (ninS (Ne.symm (Nat.ne_of_lt (Nat.lt_of_lt_of_le P9.lt (Nat.le_of_eq g13.symm)))) nin0)).lt (Nat.le_of_eq g39.symm))) nin0)).keep Kq54 (ninS (Ne.symm (Nat.ne_of_lt (Nat.lt_of_lt_of_le P9.lt (Nat.le_of_eq g13.symm)))) (ninS (Nat.ne_of_lt (Nat.lt_of_lt_of_le P19.lt P32)) nin0))).lt (Nat.le_of_eq g60.symm))) nin0)).lt (Nat.le_of_eq g68.symm))) nin0)).lt P87)) nin0))).ext E115)
    have F124 : Exa Z h115 b39 "com/example/wakeline/wakeline/trajectory/Point" := ((((((((((F53.keep Kq54).ext E60).keep Kq63).ext E68).keep Kq72).keep Kq83).ext E94).keep Kq98).keep Kq109).ext E115)
    have F125 : Fld Z h115 b39 "com/example/wakeline/wakeline/trajectory/Point" "longitude" "D" (.double (FP.ddiv (FP.i2d (lonQ p1)) (4616189618054758400 : UInt64))) := ((((((((((P44.keep Kq54 (ninS (Ne.symm (Nat.ne_of_lt (Nat.lt_of_lt_of_le P34.lt (Nat.le_of_eq g39.symm)))) (ninS (Ne.symm (Nat.ne_of_lt (Nat.lt_of_lt_of_le P33.lt (Nat.le_of_eq g39.symm)))) nin0))).ext E60).keep Kq63 (ninS (Nat.ne_of_lt (Nat.lt_of_lt_of_le (P44.keep Kq54 (ninS (Ne.symm (Nat.ne_of_lt (Nat.lt_of_lt_of_le P34.lt (Nat.le_of_eq g39.symm)))) (ninS (Ne.symm (Nat.ne_of_lt (Nat.lt_of_lt_of_le P33.lt (Nat.le_of_eq g39.symm)))) nin0))).lt (Nat.le_of_eq g60.symm))) nin0)).ext E68).keep Kq72 (ninS (Nat.ne_of_lt (Nat.lt_of_lt_of_le (((P44.keep Kq54 (ninS (Ne.symm (Nat.ne_of_lt (Nat.lt_of_lt_of_le P34.lt (Nat.le_of_eq g39.symm)))) (ninS (Ne.symm (Nat.ne_of_lt (Nat.lt_of_lt_of_le P33.lt (Nat.le_of_eq g39.symm)))) nin0))).ext E60).keep Kq63 (ninS (Nat.ne_of_lt (Nat.lt_of_lt_of_le (P44.keep Kq54 (ninS (Ne.symm (Nat.ne_of_lt (Nat.lt_of_lt_of_le P34.lt (Nat.le_of_eq g39.symm)))) (ninS (Ne.symm (Nat.ne_of_lt (Nat.lt_of_lt_of_le P33.lt (Nat.le_of_eq g39.symm)))) nin0))).lt (Nat.le_of_eq g60.symm))) nin0)).lt (Nat.le_of_eq g68.symm))) nin0)).keep Kq83 (ninS (Nat.ne_of_lt (Nat.lt_of_lt_of_le (P44.keep Kq54 (ninS (Ne.symm (Nat.ne_of_lt (Nat.lt_of_lt_of_le P34.lt (Nat.le_of_eq g39.symm)))) (ninS (Ne.symm (Nat.ne_of_lt (Nat.lt_of_lt_of_le P33.lt (Nat.le_of_eq g39.symm)))) nin0))).lt (Nat.le_of_eq g60.symm))) nin0)).ext E94).keep Kq98 (ninS (Nat.ne_of_lt (Nat.lt_of_lt_of_le ((((((P44.keep Kq54 (ninS (Ne.symm (Nat.ne_of_lt (Nat.lt_of_lt_of_le P34.lt (Nat.le_of_eq g39.symm)))) (ninS (Ne.symm (Nat.ne_of_lt (Nat.lt_of_lt_of_le P33.lt (Nat.le_of_eq g39.symm)))) nin0))).ext E60).keep Kq63 (ninS (Nat.ne_of_lt (Nat.lt_of_lt_of_le (P44.keep Kq54 (ninS (Ne.symm (Nat.ne_of_lt (Nat.lt_of_lt_of_le P34.lt (Nat.le_of_eq g39.symm)))) (ninS (Ne.symm (Nat.ne_of_lt (Nat.lt_of_lt_of_le P33.lt (Nat.le_of_eq g39.symm)))) nin0))).lt (Nat.le_of_eq g60.symm))) nin0)).ext E68).keep Kq72 (ninS (Nat.ne_of_lt (Nat.lt_of_lt_of_le (((P44.keep Kq54 (ninS (Ne.symm (Nat.ne_of_lt (Nat.lt_of_lt_of_le P34.lt (Nat.le_of_eq g39.symm)))) (ninS (Ne.symm (Nat.ne_of_lt (Nat.lt_of_lt_of_le P33.lt (Nat.le_of_eq g39.symm)))) nin0))).ext E60).keep Kq63 (ninS (Nat.ne_of_lt (Nat.lt_of_lt_of_le (P44.keep Kq54 (ninS (Ne.symm (Nat.ne_of_lt (Nat.lt_of_lt_of_le P34.lt (Nat.le_of_eq g39.symm)))) (ninS (Ne.symm (Nat.ne_of_lt (Nat.lt_of_lt_of_le P33.lt (Nat.le_of_eq g39.symm)))) nin0))).lt (Nat.le_of_eq g60.symm))) nin0)).lt (Nat.le_of_eq g68.symm))) nin0)).keep Kq83 (ninS (Nat.ne_of_lt (Nat.lt_of_lt_of_le (P44.keep Kq54 (ninS (Ne.symm (Nat.ne_of_lt (Nat.lt_of_lt_of_le P34.lt (Nat.le_of_eq g39.symm)))) (ninS (Ne.symm (Nat.ne_of_lt (Nat.lt_of_lt_of_le P33.lt (Nat.le_of_eq g39.symm)))) nin0))).lt (Nat.le_of_eq g60.symm))) nin0)).lt (Nat.le_of_eq g94.symm))) nin0)).keep Kq109 (ninS (Nat.ne_of_lt (Nat.lt_of_lt_of_le (P44.keep Kq54 (ninS (Ne.symm (Nat.ne_of_lt (Nat.lt_of_lt_of_le P34.lt (Nat.le_of_eq g39.symm)))) (ninS (Ne.symm (Nat.ne_of_lt (Nat.lt_of_lt_of_le P33.lt (Nat.le_of_eq g39.symm)))) nin0))).lt (Nat.le_of_eq g60.symm))) (ninS (Nat.ne_of_lt (Nat.lt_of_lt_of_le (((((P44.keep Kq54 (ninS (Ne.symm (Nat.ne_of_lt (Nat.lt_of_lt_of_le P34.lt (Nat.le_of_eq g39.symm)))) (ninS (Ne.symm (Nat.ne_of_lt (Nat.lt_of_lt_of_le P33.lt (Nat.le_of_eq g39.symm)))) nin0))).ext E60).keep Kq63 (ninS (Nat.ne_of_lt (Nat.lt_of_lt_of_le (P44.keep Kq54 (ninS (Ne.symm (Nat.ne_of_lt (Nat.lt_of_lt_of_le P34.lt (Nat.le_of_eq g39.symm)))) (ninS (Ne.symm (Nat.ne_of_lt (Nat.lt_of_lt_of_le P33.lt (Nat.le_of_eq g39.symm)))) nin0))).lt (Nat.le_of_eq g60.symm))) nin0)).ext E68).keep Kq72 (ninS (Nat.ne_of_lt (Nat.lt_of_lt_of_le (((P44.keep Kq54 (ninS (Ne.symm (Nat.ne_of_lt (Nat.lt_of_lt_of_le P34.lt (Nat.le_of_eq g39.symm)))) (ninS (Ne.symm (Nat.ne_of_lt (Nat.lt_of_lt_of_le P33.lt (Nat.le_of_eq g39.symm)))) nin0))).ext E60).keep Kq63 (ninS (Nat.ne_of_lt (Nat.lt_of_lt_of_le (P44.keep Kq54 (ninS (Ne.symm (Nat.ne_of_lt (Nat.lt_of_lt_of_le P34.lt (Nat.le_of_eq g39.symm)))) (ninS (Ne.symm (Nat.ne_of_lt (Nat.lt_of_lt_of_le P33.lt (Nat.le_of_eq g39.symm)))) nin0))).lt (Nat.le_of_eq g60.symm))) nin0)).lt (Nat.le_of_eq g68.symm))) nin0)).lt P87)) nin0))).ext E115)
    have F126 : Fld Z h115 b39 "com/example/wakeline/wakeline/trajectory/Point" "latitude" "D" (.double (FP.ddiv (FP.i2d (latQ p1)) (4616189618054758400 : UInt64))) := ((((((((((P45.keep Kq54 (ninS (Ne.symm (Nat.ne_of_lt (Nat.lt_of_lt_of_le P34.lt (Nat.le_of_eq g39.symm)))) (ninS (Ne.symm (Nat.ne_of_lt (Nat.lt_of_lt_of_le P33.lt (Nat.le_of_eq g39.symm)))) nin0))).ext E60).keep Kq63 (ninS (Nat.ne_of_lt (Nat.lt_of_lt_of_le (P45.keep Kq54 (ninS (Ne.symm (Nat.ne_of_lt (Nat.lt_of_lt_of_le P34.lt (Nat.le_of_eq g39.symm)))) (ninS (Ne.symm (Nat.ne_of_lt (Nat.lt_of_lt_of_le P33.lt (Nat.le_of_eq g39.symm)))) nin0))).lt (Nat.le_of_eq g60.symm))) nin0)).ext E68).keep Kq72 (ninS (Nat.ne_of_lt (Nat.lt_of_lt_of_le (((P45.keep Kq54 (ninS (Ne.symm (Nat.ne_of_lt (Nat.lt_of_lt_of_le P34.lt (Nat.le_of_eq g39.symm)))) (ninS (Ne.symm (Nat.ne_of_lt (Nat.lt_of_lt_of_le P33.lt (Nat.le_of_eq g39.symm)))) nin0))).ext E60).keep Kq63 (ninS (Nat.ne_of_lt (Nat.lt_of_lt_of_le (P45.keep Kq54 (ninS (Ne.symm (Nat.ne_of_lt (Nat.lt_of_lt_of_le P34.lt (Nat.le_of_eq g39.symm)))) (ninS (Ne.symm (Nat.ne_of_lt (Nat.lt_of_lt_of_le P33.lt (Nat.le_of_eq g39.symm)))) nin0))).lt (Nat.le_of_eq g60.symm))) nin0)).lt (Nat.le_of_eq g68.symm))) nin0)).keep Kq83 (ninS (Nat.ne_of_lt (Nat.lt_of_lt_of_le (P45.keep Kq54 (ninS (Ne.symm (Nat.ne_of_lt (Nat.lt_of_lt_of_le P34.lt (Nat.le_of_eq g39.symm)))) (ninS (Ne.symm (Nat.ne_of_lt (Nat.lt_of_lt_of_le P33.lt (Nat.le_of_eq g39.symm)))) nin0))).lt (Nat.le_of_eq g60.symm))) nin0)).ext E94).keep Kq98 (ninS (Nat.ne_of_lt (Nat.lt_of_lt_of_le ((((((P45.keep Kq54 (ninS (Ne.symm (Nat.ne_of_lt (Nat.lt_of_lt_of_le P34.lt (Nat.le_of_eq g39.symm)))) (ninS (Ne.symm (Nat.ne_of_lt (Nat.lt_of_lt_of_le P33.lt (Nat.le_of_eq g39.symm)))) nin0))).ext E60).keep Kq63 (ninS (Nat.ne_of_lt (Nat.lt_of_lt_of_le (P45.keep Kq54 (ninS (Ne.symm (Nat.ne_of_lt (Nat.lt_of_lt_of_le P34.lt (Nat.le_of_eq g39.symm)))) (ninS (Ne.symm (Nat.ne_of_lt (Nat.lt_of_lt_of_le P33.lt (Nat.le_of_eq g39.symm)))) nin0))).lt (Nat.le_of_eq g60.symm))) nin0)).ext E68).keep Kq72 (ninS (Nat.ne_of_lt (Nat.lt_of_lt_of_le (((P45.keep Kq54 (ninS (Ne.symm (Nat.ne_of_lt (Nat.lt_of_lt_of_le P34.lt (Nat.le_of_eq g39.symm)))) (ninS (Ne.symm (Nat.ne_of_lt (Nat.lt_of_lt_of_le P33.lt (Nat.le_of_eq g39.symm)))) nin0))).ext E60).keep Kq63 (ninS (Nat.ne_of_lt (Nat.lt_of_lt_of_le (P45.keep Kq54 (ninS (Ne.symm (Nat.ne_of_lt (Nat.lt_of_lt_of_le P34.lt (Nat.le_of_eq g39.symm)))) (ninS (Ne.symm (Nat.ne_of_lt (Nat.lt_of_lt_of_le P33.lt (Nat.le_of_eq g39.symm)))) nin0))).lt (Nat.le_of_eq g60.symm))) nin0)).lt (Nat.le_of_eq g68.symm))) nin0)).keep Kq83 (ninS (Nat.ne_of_lt (Nat.lt_of_lt_of_le (P45.keep Kq54 (ninS (Ne.symm (Nat.ne_of_lt (Nat.lt_of_lt_of_le P34.lt (Nat.le_of_eq g39.symm)))) (ninS (Ne.symm (Nat.ne_of_lt (Nat.lt_of_lt_of_le P33.lt (Nat.le_of_eq g39.symm)))) nin0))).lt (Nat.le_of_eq g60.symm))) nin0)).lt (Nat.le_of_eq g94.symm))) nin0)).keep Kq109 (ninS (Nat.ne_of_lt (Nat.lt_of_lt_of_le (P45.keep Kq54 (ninS (Ne.symm (Nat.ne_of_lt (Nat.lt_of_lt_of_le P34.lt (Nat.le_of_eq g39.symm)))) (ninS (Ne.symm (Nat.ne_of_lt (Nat.lt_of_lt_of_le P33.lt (Nat.le_of_eq g39.symm)))) nin0))).lt (Nat.le_of_eq g60.symm))) (ninS (Nat.ne_of_lt (Nat.lt_of_lt_of_le (((((P45.keep Kq54 (ninS (Ne.symm (Nat.ne_of_lt (Nat.lt_of_lt_of_le P34.lt (Nat.le_of_eq g39.symm)))) (ninS (Ne.symm (Nat.ne_of_lt (Nat.lt_of_lt_of_le P33.lt (Nat.le_of_eq g39.symm)))) nin0))).ext E60).keep Kq63 (ninS (Nat.ne_of_lt (Nat.lt_of_lt_of_le (P45.keep Kq54 (ninS (Ne.symm (Nat.ne_of_lt (Nat.lt_of_lt_of_le P34.lt (Nat.le_of_eq g39.symm)))) (ninS (Ne.symm (Nat.ne_of_lt (Nat.lt_of_lt_of_le P33.lt (Nat.le_of_eq g39.symm)))) nin0))).lt (Nat.le_of_eq g60.symm))) nin0)).ext E68).keep Kq72 (ninS (Nat.ne_of_lt (Nat.lt_of_lt_of_le (((P45.keep Kq54 (ninS (Ne.symm (Nat.ne_of_lt (Nat.lt_of_lt_of_le P34.lt (Nat.le_of_eq g39.symm)))) (ninS (Ne.symm (Nat.ne_of_lt (Nat.lt_of_lt_of_le P33.lt (Nat.le_of_eq g39.symm)))) nin0))).ext E60).keep Kq63 (ninS (Nat.ne_of_lt (Nat.lt_of_lt_of_le (P45.keep Kq54 (ninS (Ne.symm (Nat.ne_of_lt (Nat.lt_of_lt_of_le P34.lt (Nat.le_of_eq g39.symm)))) (ninS (Ne.symm (Nat.ne_of_lt (Nat.lt_of_lt_of_le P33.lt (Nat.le_of_eq g39.symm)))) nin0))).lt (Nat.le_of_eq g60.symm))) nin0)).lt (Nat.le_of_eq g68.symm))) nin0)).lt P87)) nin0))).ext E115)
    obtain ⟨_, T127, L127, X127, hQ127, st127⟩ := wInit X115 hx hZ (y := (⟨"com/example/wakeline/wakeline/similarity/Coordinates", "<init>", "(Ljava/util/List;)V"⟩ : MethodName)) rfl hown (hw _ (List.mem_of_getElem? (i := 91) rfl)) (hw _ (List.mem_of_getElem? (i := 92) rfl)) (hw _ (List.mem_of_getElem? (i := 90) rfl)) (hw _ (List.mem_of_getElem? (i := 93) rfl)) (by decide) (coord_c l Z az hw [] b115 b5 b_29 k_30 b13 b39 (FP.ddiv (FP.i2d (lonQ p0)) (4616189618054758400 : UInt64)) (FP.ddiv (FP.i2d (lonQ p1)) (4616189618054758400 : UInt64)) (FP.ddiv (FP.i2d (latQ p0)) (4616189618054758400 : UInt64)) (FP.ddiv (FP.i2d (latQ p1)) (4616189618054758400 : UInt64)) h115 n0 (Nat.le_trans (Nat.le_trans (Nat.le_trans (Nat.le_trans (Nat.le_trans (Nat.le_trans (Nat.le_trans (Nat.le_trans (Nat.le_trans (Nat.le_trans (Nat.le_trans (Nat.le_trans (Nat.le_trans (Nat.le_trans (Nat.le_trans (Nat.le_trans (Nat.le_trans Z0 E5.1) Kq8.1) E13.1) Kq17.1) Kq28.1) E39.1) Kq43.1) Kq54.1) E60.1) Kq63.1) E68.1) Kq72.1) Kq83.1) E94.1) Kq98.1) Kq109.1) E115.1) A115 g_b115 F_longitudes_b115 F_latitudes_b115 F117 F118 F119 F120 F121 F122 F123 F124 F125 F126 (Ne.symm (Nat.ne_of_lt (Nat.lt_of_lt_of_le ((((((((P56.ext E60).keep Kq63 (ninS (Nat.ne_of_lt (Nat.lt_of_lt_of_le P56.lt (Nat.le_of_eq g60.symm))) nin0)).ext E68).keep Kq72 (ninS (Nat.ne_of_lt (Nat.lt_of_lt_of_le ((P56.ext E60).keep Kq63 (ninS (Nat.ne_of_lt (Nat.lt_of_lt_of_le P56.lt (Nat.le_of_eq g60.symm))) nin0)).lt (Nat.le_of_eq g68.symm))) nin0)).keep Kq83 (ninS (Nat.ne_of_lt (Nat.lt_of_lt_of_le P56.lt (Nat.le_of_eq g60.symm))) nin0)).ext E94).keep Kq98 (ninS (Nat.ne_of_lt (Nat.lt_of_lt_of_le (((((P56.ext E60).keep Kq63 (ninS (Nat.ne_of_lt (Nat.lt_of_lt_of_le P56.lt (Nat.le_of_eq g60.symm))) nin0)).ext E68).keep Kq72 (ninS (Nat.ne_of_lt (Nat.lt_of_lt_of_le ((P56.ext E60).keep Kq63 (ninS (Nat.ne_of_lt (Nat.lt_of_lt_of_le P56.lt (Nat.le_of_eq g60.symm))) nin0)).lt (Nat.le_of_eq g68.symm))) nin0)).keep Kq83 (ninS (Nat.ne_of_lt (Nat.lt_of_lt_of_le P56.lt (Nat.le_of_eq g60.symm))) nin0)).lt (Nat.le_of_eq g94.symm))) nin0)).keep Kq109 (ninS (Nat.ne_of_lt (Nat.lt_of_lt_of_le P56.lt (Nat.le_of_eq g60.symm))) (ninS (Nat.ne_of_lt (Nat.lt_of_lt_of_le ((((P56.ext E60).keep Kq63 (ninS (Nat.ne_of_lt (Nat.lt_of_lt_of_le P56.lt (Nat.le_of_eq g60.symm))) nin0)).ext E68).keep Kq72 (ninS (Nat.ne_of_lt (Nat.lt_of_lt_of_le ((P56.ext E60).keep Kq63 (ninS (Nat.ne_of_lt (Nat.lt_of_lt_of_le P56.lt (Nat.le_of_eq g60.symm))) nin0)).lt (Nat.le_of_eq g68.symm))) nin0)).lt P87)) nin0))).lt (Nat.le_of_eq g115.symm)))) (Ne.symm (Nat.ne_of_lt (Nat.lt_of_lt_of_le ((((((((P55.ext E60).keep Kq63 (ninS (Nat.ne_of_lt (Nat.lt_of_lt_of_le P55.lt (Nat.le_of_eq g60.symm))) nin0)).ext E68).keep Kq72 (ninS (Nat.ne_of_lt (Nat.lt_of_lt_of_le ((P55.ext E60).keep Kq63 (ninS (Nat.ne_of_lt (Nat.lt_of_lt_of_le P55.lt (Nat.le_of_eq g60.symm))) nin0)).lt (Nat.le_of_eq g68.symm))) nin0)).keep Kq83 (ninS (Nat.ne_of_lt (Nat.lt_of_lt_of_le P55.lt (Nat.le_of_eq g60.symm))) nin0)).ext E94).keep Kq98 (ninS (Nat.ne_of_lt (Nat.lt_of_lt_of_le (((((P55.ext E60).keep Kq63 (ninS (Nat.ne_of_lt (Nat.lt_of_lt_of_le P55.lt (Nat.le_of_eq g60.symm))) nin0)).ext E68).keep Kq72 (ninS (Nat.ne_of_lt (Nat.lt_of_lt_of_le ((P55.ext E60).keep Kq63 (ninS (Nat.ne_of_lt (Nat.lt_of_lt_of_le P55.lt (Nat.le_of_eq g60.symm))) nin0)).lt (Nat.le_of_eq g68.symm))) nin0)).keep Kq83 (ninS (Nat.ne_of_lt (Nat.lt_of_lt_of_le P55.lt (Nat.le_of_eq g60.symm))) nin0)).lt (Nat.le_of_eq g94.symm))) nin0)).keep Kq109 (ninS (Nat.ne_of_lt (Nat.lt_of_lt_of_le P55.lt (Nat.le_of_eq g60.symm))) (ninS (Nat.ne_of_lt (Nat.lt_of_lt_of_le ((((P55.ext E60).keep Kq63 (ninS (Nat.ne_of_lt (Nat.lt_of_lt_of_le P55.lt (Nat.le_of_eq g60.symm))) nin0)).ext E68).keep Kq72 (ninS (Nat.ne_of_lt (Nat.lt_of_lt_of_le ((P55.ext E60).keep Kq63 (ninS (Nat.ne_of_lt (Nat.lt_of_lt_of_le P55.lt (Nat.le_of_eq g60.symm))) nin0)).lt (Nat.le_of_eq g68.symm))) nin0)).lt P87)) nin0))).lt (Nat.le_of_eq g115.symm)))) (Ne.symm (Nat.ne_of_lt (Nat.lt_of_lt_of_le ((((((((((((P20.keep Kq28 (ninS (Ne.symm (Nat.ne_of_lt (Nat.lt_of_lt_of_le P9.lt (Nat.le_of_eq g13.symm)))) nin0)).ext E39).keep Kq43 (ninS (Nat.ne_of_lt (Nat.lt_of_lt_of_le (P20.keep Kq28 (ninS (Ne.symm (Nat.ne_of_lt (Nat.lt_of_lt_of_le P9.lt (Nat.le_of_eq g13.symm)))) nin0)).lt (Nat.le_of_eq g39.symm))) nin0)).keep Kq54 (ninS (Ne.symm (Nat.ne_of_lt (Nat.lt_of_lt_of_le P9.lt (Nat.le_of_eq g13.symm)))) (ninS (Nat.ne_of_lt (Nat.lt_of_lt_of_le P20.lt P32)) nin0))).ext E60).keep Kq63 (ninS (Nat.ne_of_lt (Nat.lt_of_lt_of_le ((((P20.keep Kq28 (ninS (Ne.symm (Nat.ne_of_lt (Nat.lt_of_lt_of_le P9.lt (Nat.le_of_eq g13.symm)))) nin0)).ext E39).keep Kq43 (ninS (Nat.ne_of_lt (Nat.lt_of_lt_of_le (P20.keep Kq28 (ninS (Ne.symm (Nat.ne_of_lt (Nat.lt_of_lt_of_le P9.lt (Nat.le_of_eq g13.symm)))) nin0)).lt (Nat.le_of_eq g39.symm))) nin0)).keep Kq54 (ninS (Ne.symm (Nat.ne_of_lt (Nat.lt_of_lt_of_le P9.lt (Nat.le_of_eq g13.symm)))) (ninS (Nat.ne_of_lt (Nat.lt_of_lt_of_le P20.lt P32)) nin0))).lt (Nat.le_of_eq g60.symm))) nin0)).ext E68).keep Kq72 (ninS (Nat.ne_of_lt (Nat.lt_of_lt_of_le ((((((P20.keep Kq28 (ninS (Ne.symm (Nat.ne_of_lt (Nat.lt_of_lt_of_le P9.lt (Nat.le_of_eq g13.symm)))) nin0)).ext E39).keep Kq43 (ninS (Nat.ne_of_lt (Nat.lt_of_lt_of_le (P20.keep Kq28 (ninS (Ne.symm (Nat.ne_of_lt (Nat.lt_of_lt_of_le P9.lt (Nat.le_of_eq g13.symm)))) nin0)).lt (Nat.le_of_eq g39.symm))) nin0)).keep Kq54 (ninS (Ne.symm (Nat.ne_of_lt (Nat.lt_of_lt_of_le P9.lt (Nat.le_of_eq g13.symm)))) (ninS (Nat.ne_of_lt (Nat.lt_of_lt_of_le P20.lt P32)) nin0))).ext E60).keep Kq63 (ninS (Nat.ne_of_lt (Nat.lt_of_lt_of_le ((((P20.keep Kq28 (ninS (Ne.symm (Nat.ne_of_lt (Nat.lt_of_lt_of_le P9.lt (Nat.le_of_eq g13.symm)))) nin0)).ext E39).keep Kq43 (ninS (Nat.ne_of_lt (Nat.lt_of_lt_of_le (P20.keep Kq28 (ninS (Ne.symm (Nat.ne_of_lt (Nat.lt_of_lt_of_le P9.lt (Nat.le_of_eq g13.symm)))) nin0)).lt (Nat.le_of_eq g39.symm))) nin0)).keep Kq54 (ninS (Ne.symm (Nat.ne_of_lt (Nat.lt_of_lt_of_le P9.lt (Nat.le_of_eq g13.symm)))) (ninS (Nat.ne_of_lt (Nat.lt_of_lt_of_le P20.lt P32)) nin0))).lt (Nat.le_of_eq g60.symm))) nin0)).lt (Nat.le_of_eq g68.symm))) nin0)).keep Kq83 (ninS (Nat.ne_of_lt (Nat.lt_of_lt_of_le ((((P20.keep Kq28 (ninS (Ne.symm (Nat.ne_of_lt (Nat.lt_of_lt_of_le P9.lt (Nat.le_of_eq g13.symm)))) nin0)).ext E39).keep Kq43 (ninS (Nat.ne_of_lt (Nat.lt_of_lt_of_le (P20.keep Kq28 (ninS (Ne.symm (Nat.ne_of_lt (Nat.lt_of_lt_of_le P9.lt (Nat.le_of_eq g13.symm)))) nin0)).lt (Nat.le_of_eq g39.symm))) nin0)).keep Kq54 (ninS (Ne.symm (Nat.ne_of_lt (Nat.lt_of_lt_of_le P9.lt (Nat.le_of_eq g13.symm)))) (ninS (Nat.ne_of_lt (Nat.lt_of_lt_of_le P20.lt P32)) nin0))).lt (Nat.le_of_eq g60.symm))) nin0)).ext E94).keep Kq98 (ninS (Nat.ne_of_lt (Nat.lt_of_lt_of_le (((((((((P20.keep Kq28 (ninS (Ne.symm (Nat.ne_of_lt (Nat.lt_of_lt_of_le P9.lt (Nat.le_of_eq g13.symm)))) nin0)).ext E39).keep Kq43 (ninS (Nat.ne_of_lt (Nat.lt_of_lt_of_le (P20.keep Kq28 (ninS (Ne.symm (Nat.ne_of_lt (Nat.lt_of_lt_of_le P9.lt (Nat.le_of_eq g13.symm)))) nin0)).lt (Nat.le_of_eq g39.symm))) nin0)).keep Kq54 (ninS (Ne.symm (Nat.ne_of_lt (Nat.lt_of_lt_of_le P9.lt (Nat.le_of_eq g13.symm)))) (ninS (Nat.ne_of_lt (Nat.lt_of_lt_of_le P20.lt P32)) nin0))).ext E60).keep Kq63 (ninS (Nat.ne_of_lt (Nat.lt_of_lt_of_le ((((P20.keep Kq28 (ninS (Ne.symm (Nat.ne_of_lt (Nat.lt_of_lt_of_le P9.lt (Nat.le_of_eq g13.symm)))) nin0)).ext E39).keep Kq43 (ninS (Nat.ne_of_lt (Nat.lt_of_lt_of_le (P20.keep Kq28 (ninS (Ne.symm (Nat.ne_of_lt (Nat.lt_of_lt_of_le P9.lt (Nat.le_of_eq g13.symm)))) nin0)).lt (Nat.le_of_eq g39.symm))) nin0)).keep Kq54 (ninS (Ne.symm (Nat.ne_of_lt (Nat.lt_of_lt_of_le P9.lt (Nat.le_of_eq g13.symm)))) (ninS (Nat.ne_of_lt (Nat.lt_of_lt_of_le P20.lt P32)) nin0))).lt (Nat.le_of_eq g60.symm))) nin0)).ext E68).keep Kq72 (ninS (Nat.ne_of_lt (Nat.lt_of_lt_of_le ((((((P20.keep Kq28 (ninS (Ne.symm (Nat.ne_of_lt (Nat.lt_of_lt_of_le P9.lt (Nat.le_of_eq g13.symm)))) nin0)).ext E39).keep Kq43 (ninS (Nat.ne_of_lt (Nat.lt_of_lt_of_le (P20.keep Kq28 (ninS (Ne.symm (Nat.ne_of_lt (Nat.lt_of_lt_of_le P9.lt (Nat.le_of_eq g13.symm)))) nin0)).lt (Nat.le_of_eq g39.symm))) nin0)).keep Kq54 (ninS (Ne.symm (Nat.ne_of_lt (Nat.lt_of_lt_of_le P9.lt (Nat.le_of_eq g13.symm)))) (ninS (Nat.ne_of_lt (Nat.lt_of_lt_of_le P20.lt P32)) nin0))).ext E60).keep Kq63 (ninS (Nat.ne_of_lt (Nat.lt_of_lt_of_le ((((P20.keep Kq28 (ninS (Ne.symm (Nat.ne_of_lt (Nat.lt_of_lt_of_le P9.lt (Nat.le_of_eq g13.symm)))) nin0)).ext E39).keep Kq43 (ninS (Nat.ne_of_lt (Nat.lt_of_lt_of_le (P20.keep Kq28 (ninS (Ne.symm (Nat.ne_of_lt (Nat.lt_of_lt_of_le P9.lt (Nat.le_of_eq g13.symm)))) nin0)).lt (Nat.le_of_eq g39.symm))) nin0)).keep Kq54 (ninS (Ne.symm (Nat.ne_of_lt (Nat.lt_of_lt_of_le P9.lt (Nat.le_of_eq g13.symm)))) (ninS (Nat.ne_of_lt (Nat.lt_of_lt_of_le P20.lt P32)) nin0))).lt (Nat.le_of_eq g60.symm))) nin0)).lt (Nat.le_of_eq g68.symm))) nin0)).keep Kq83 (ninS (Nat.ne_of_lt (Nat.lt_of_lt_of_le ((((P20.keep Kq28 (ninS (Ne.symm (Nat.ne_of_lt (Nat.lt_of_lt_of_le P9.lt (Nat.le_of_eq g13.symm)))) nin0)).ext E39).keep Kq43 (ninS (Nat.ne_of_lt (Nat.lt_of_lt_of_le (P20.keep Kq28 (ninS (Ne.symm (Nat.ne_of_lt (Nat.lt_of_lt_of_le P9.lt (Nat.le_of_eq g13.symm)))) nin0)).lt (Nat.le_of_eq g39.symm))) nin0)).keep Kq54 (ninS (Ne.symm (Nat.ne_of_lt (Nat.lt_of_lt_of_le P9.lt (Nat.le_of_eq g13.symm)))) (ninS (Nat.ne_of_lt (Nat.lt_of_lt_of_le P20.lt P32)) nin0))).lt (Nat.le_of_eq g60.symm))) nin0)).lt (Nat.le_of_eq g94.symm))) nin0)).keep Kq109 (ninS (Nat.ne_of_lt (Nat.lt_of_lt_of_le ((((P20.keep Kq28 (ninS (Ne.symm (Nat.ne_of_lt (Nat.lt_of_lt_of_le P9.lt (Nat.le_of_eq g13.symm)))) nin0)).ext E39).keep Kq43 (ninS (Nat.ne_of_lt (Nat.lt_of_lt_of_le (P20.keep Kq28 (ninS (Ne.symm (Nat.ne_of_lt (Nat.lt_of_lt_of_le P9.lt (Nat.le_of_eq g13.symm)))) nin0)).lt (Nat.le_of_eq g39.symm))) nin0)).keep Kq54 (ninS (Ne.symm (Nat.ne_of_lt (Nat.lt_of_lt_of_le P9.lt (Nat.le_of_eq g13.symm)))) (ninS (Nat.ne_of_lt (Nat.lt_of_lt_of_le P20.lt P32)) nin0))).lt (Nat.le_of_eq g60.symm))) (ninS (Nat.ne_of_lt (Nat.lt_of_lt_of_le ((((((((P20.keep Kq28 (ninS (Ne.symm (Nat.ne_of_lt (Nat.lt_of_lt_of_le P9.lt (Nat.le_of_eq g13.symm)))) nin0)).ext E39).keep Kq43 (ninS (Nat.ne_of_lt (Nat.lt_of_lt_of_le (P20.keep Kq28 (ninS (Ne.symm (Nat.ne_of_lt (Nat.lt_of_lt_of_le P9.lt (Nat.le_of_eq g13.symm)))) nin0)).lt (Nat.le_of_eq g39.symm))) nin0)).keep Kq54 (ninS (Ne.symm (Nat.ne_of_lt (Nat.lt_of_lt_of_le P9.lt (Nat.le_of_eq g13.symm)))) (ninS (Nat.ne_of_lt (Nat.lt_of_lt_of_le P20.lt P32)) nin0))).ext E60).keep Kq63 (ninS (Nat.ne_of_lt (Nat.lt_of_lt_of_le ((((P20.keep Kq28 (ninS (Ne.symm (Nat.ne_of_lt (Nat.lt_of_lt_of_le P9.lt (Nat.le_of_eq g13.symm)))) nin0)).ext E39).keep Kq43 (ninS (Nat.ne_of_lt (Nat.lt_of_lt_of_le (P20.keep Kq28 (ninS (Ne.symm (Nat.ne_of_lt (Nat.lt_of_lt_of_le P9.lt (Nat.le_of_eq g13.symm)))) nin0)).lt (Nat.le_of_eq g39.symm))) nin0)).keep Kq54 (ninS (Ne.symm (Nat.ne_of_lt (Nat.lt_of_lt_of_le P9.lt (Nat.le_of_eq g13.symm)))) (ninS (Nat.ne_of_lt (Nat.lt_of_lt_of_le P20.lt P32)) nin0))).lt (Nat.le_of_eq g60.symm))) nin0)).ext E68).keep Kq72 (ninS (Nat.ne_of_lt (Nat.lt_of_lt_of_le ((((((P20.keep Kq28 (ninS (Ne.symm (Nat.ne_of_lt (Nat.lt_of_lt_of_le P9.lt (Nat.le_of_eq g13.symm)))) nin0)).ext E39).keep Kq43 (ninS (Nat.ne_of_lt (Nat.lt_of_lt_of_le (P20.keep Kq28 (ninS (Ne.symm (Nat.ne_of_lt (Nat.lt_of_lt_of_le P9.lt (Nat.le_of_eq g13.symm)))) nin0)).lt (Nat.le_of_eq g39.symm))) nin0)).keep Kq54 (ninS (Ne.symm (Nat.ne_of_lt (Nat.lt_of_lt_of_le P9.lt (Nat.le_of_eq g13.symm)))) (ninS (Nat.ne_of_lt (Nat.lt_of_lt_of_le P20.lt P32)) nin0))).ext E60).keep Kq63 (ninS (Nat.ne_of_lt (Nat.lt_of_lt_of_le ((((P20.keep Kq28 (ninS (Ne.symm (Nat.ne_of_lt (Nat.lt_of_lt_of_le P9.lt (Nat.le_of_eq g13.symm)))) nin0)).ext E39).keep Kq43 (ninS (Nat.ne_of_lt (Nat.lt_of_lt_of_le (P20.keep Kq28 (ninS (Ne.symm (Nat.ne_of_lt (Nat.lt_of_lt_of_le P9.lt (Nat.le_of_eq g13.symm)))) nin0)).lt (Nat.le_of_eq g39.symm))) nin0)).keep Kq54 (ninS (Ne.symm (Nat.ne_of_lt (Nat.lt_of_lt_of_le P9.lt (Nat.le_of_eq g13.symm)))) (ninS (Nat.ne_of_lt (Nat.lt_of_lt_of_le P20.lt P32)) nin0))).lt (Nat.le_of_eq g60.symm))) nin0)).lt (Nat.le_of_eq g68.symm))) nin0)).lt P87)) nin0))).lt (Nat.le_of_eq g115.symm)))) (Ne.symm (Nat.ne_of_lt (Nat.lt_of_lt_of_le (((((((((P46.keep Kq54 (ninS (Ne.symm (Nat.ne_of_lt (Nat.lt_of_lt_of_le P34.lt (Nat.le_of_eq g39.symm)))) (ninS (Ne.symm (Nat.ne_of_lt (Nat.lt_of_lt_of_le P33.lt (Nat.le_of_eq g39.symm)))) nin0))).ext E60).keep Kq63 (ninS (Nat.ne_of_lt (Nat.lt_of_lt_of_le (P46.keep Kq54 (ninS (Ne.symm (Nat.ne_of_lt (Nat.lt_of_lt_of_le P34.lt (Nat.le_of_eq g39.symm)))) (ninS (Ne.symm (Nat.ne_of_lt (Nat.lt_of_lt_of_le P33.lt (Nat.le_of_eq g39.symm)))) nin0))).lt (Nat.le_of_eq g60.symm))) nin0)).ext E68).keep Kq72 (ninS (Nat.ne_of_lt (Nat.lt_of_lt_of_le (((P46.keep Kq54 (ninS (Ne.symm (Nat.ne_of_lt (Nat.lt_of_lt_of_le P34.lt (Nat.le_of_eq g39.symm)))) (ninS (Ne.symm (Nat.ne_of_lt (Nat.lt_of_lt_of_le P33.lt (Nat.le_of_eq g39.symm)))) nin0))).ext E60).keep Kq63 (ninS (Nat.ne_of_lt (Nat.lt_of_lt_of_le (P46.keep Kq54 (ninS (Ne.symm (Nat.ne_of_lt (Nat.lt_of_lt_of_le P34.lt (Nat.le_of_eq g39.symm)))) (ninS (Ne.symm (Nat.ne_of_lt (Nat.lt_of_lt_of_le P33.lt (Nat.le_of_eq g39.symm)))) nin0))).lt (Nat.le_of_eq g60.symm))) nin0)).lt (Nat.le_of_eq g68.symm))) nin0)).keep Kq83 (ninS (Nat.ne_of_lt (Nat.lt_of_lt_of_le (P46.keep Kq54 (ninS (Ne.symm (Nat.ne_of_lt (Nat.lt_of_lt_of_le P34.lt (Nat.le_of_eq g39.symm)))) (ninS (Ne.symm (Nat.ne_of_lt (Nat.lt_of_lt_of_le P33.lt (Nat.le_of_eq g39.symm)))) nin0))).lt (Nat.le_of_eq g60.symm))) nin0)).ext E94).keep Kq98 (ninS (Nat.ne_of_lt (Nat.lt_of_lt_of_le ((((((P46.keep Kq54 (ninS (Ne.symm (Nat.ne_of_lt (Nat.lt_of_lt_of_le P34.lt (Nat.le_of_eq g39.symm)))) (ninS (Ne.symm (Nat.ne_of_lt (Nat.lt_of_lt_of_le P33.lt (Nat.le_of_eq g39.symm)))) nin0))).ext E60).keep Kq63 (ninS (Nat.ne_of_lt (Nat.lt_of_lt_of_le (P46.keep Kq54 (ninS (Ne.symm (Nat.ne_of_lt (Nat.lt_of_lt_of_le P34.lt (Nat.le_of_eq g39.symm)))) (ninS (Ne.symm (Nat.ne_of_lt (Nat.lt_of_lt_of_le P33.lt (Nat.le_of_eq g39.symm)))) nin0))).lt (Nat.le_of_eq g60.symm))) nin0)).ext E68).keep Kq72 (ninS (Nat.ne_of_lt (Nat.lt_of_lt_of_le (((P46.keep Kq54 (ninS (Ne.symm (Nat.ne_of_lt (Nat.lt_of_lt_of_le P34.lt (Nat.le_of_eq g39.symm)))) (ninS (Ne.symm (Nat.ne_of_lt (Nat.lt_of_lt_of_le P33.lt (Nat.le_of_eq g39.symm)))) nin0))).ext E60).keep Kq63 (ninS (Nat.ne_of_lt (Nat.lt_of_lt_of_le (P46.keep Kq54 (ninS (Ne.symm (Nat.ne_of_lt (Nat.lt_of_lt_of_le P34.lt (Nat.le_of_eq g39.symm)))) (ninS (Ne.symm (Nat.ne_of_lt (Nat.lt_of_lt_of_le P33.lt (Nat.le_of_eq g39.symm)))) nin0))).lt (Nat.le_of_eq g60.symm))) nin0)).lt (Nat.le_of_eq g68.symm))) nin0)).keep Kq83 (ninS (Nat.ne_of_lt (Nat.lt_of_lt_of_le (P46.keep Kq54 (ninS (Ne.symm (Nat.ne_of_lt (Nat.lt_of_lt_of_le P34.lt (Nat.le_of_eq g39.symm)))) (ninS (Ne.symm (Nat.ne_of_lt (Nat.lt_of_lt_of_le P33.lt (Nat.le_of_eq g39.symm)))) nin0))).lt (Nat.le_of_eq g60.symm))) nin0)).lt (Nat.le_of_eq g94.symm))) nin0)).keep Kq109 (ninS (Nat.ne_of_lt (Nat.lt_of_lt_of_le (P46.keep Kq54 (ninS (Ne.symm (Nat.ne_of_lt (Nat.lt_of_lt_of_le P34.lt (Nat.le_of_eq g39.symm)))) (ninS (Ne.symm (Nat.ne_of_lt (Nat.lt_of_lt_of_le P33.lt (Nat.le_of_eq g39.symm)))) nin0))).lt (Nat.le_of_eq g60.symm))) (ninS (Nat.ne_of_lt (Nat.lt_of_lt_of_le (((((P46.keep Kq54 (ninS (Ne.symm (Nat.ne_of_lt (Nat.lt_of_lt_of_le P34.lt (Nat.le_of_eq g39.symm)))) (ninS (Ne.symm (Nat.ne_of_lt (Nat.lt_of_lt_of_le P33.lt (Nat.le_of_eq g39.symm)))) nin0))).ext E60).keep Kq63 (ninS (Nat.ne_of_lt (Nat.lt_of_lt_of_le (P46.keep Kq54 (ninS (Ne.symm (Nat.ne_of_lt (Nat.lt_of_lt_of_le P34.lt (Nat.le_of_eq g39.symm)))) (ninS (Ne.symm (Nat.ne_of_lt (Nat.lt_of_lt_of_le P33.lt (Nat.le_of_eq g39.symm)))) nin0))).lt (Nat.le_of_eq g60.symm))) nin0)).ext E68).keep Kq72 (ninS (Nat.ne_of_lt (Nat.lt_of_lt_of_le (((P46.keep Kq54 (ninS (Ne.symm (Nat.ne_of_lt (Nat.lt_of_lt_of_le P34.lt (Nat.le_of_eq g39.symm)))) (ninS (Ne.symm (Nat.ne_of_lt (Nat.lt_of_lt_of_le P33.lt (Nat.le_of_eq g39.symm)))) nin0))).ext E60).keep Kq63 (ninS (Nat.ne_of_lt (Nat.lt_of_lt_of_le (P46.keep Kq54 (ninS (Ne.symm (Nat.ne_of_lt (Nat.lt_of_lt_of_le P34.lt (Nat.le_of_eq g39.symm)))) (ninS (Ne.symm (Nat.ne_of_lt (Nat.lt_of_lt_of_le P33.lt (Nat.le_of_eq g39.symm)))) nin0))).lt (Nat.le_of_eq g60.symm))) nin0)).lt (Nat.le_of_eq g68.symm))) nin0)).lt P87)) nin0))).lt (Nat.le_of_eq g115.symm))))) 1 (by decide) (by decide) (g := (mkF m 182 #[.val (.int p0), .val (.int p1), .val (.int p2), .val (.int p3), .val (.int p4), .val (.int v5_1), .val (.int v6_2), .val (.int us0_3), .val (.ref b5), .val (.ref b60), .unset, .unset, .unset, .unset, .unset, .unset, .unset, .unset, .unset, .unset, .unset, .unset, .unset, .unset, .unset] [(.ref b5), (.ref b115), (.ref b115)])) rfl (by rw [hml]; rfl) (a := b115) (argsL := [(.ref b5)]) (rest := [(.ref b115)]) (lenOf pd__Ljava_util_List__V rfl) rfl (by show 2 * 0 + _ ≤ _; exact Nat.le_of_eq rfl) (hb hby at_182) rfl eT115 (by decide) (by decide)
    obtain ⟨lo_128, la_129, kl_130, ka_131, rfl, N127q, Kq127, P132, P133, P134, P135, P136, P137, P138, P139⟩ := hQ127
    have N127 := Fr.app N109 N127q
    have K140 : Keep h0 T127.heap [] := K116.trans Kq127 (allS (Or.inr sz_b115) all0)
    have g_lo_128 := P132
    have sz_lo_128 : h0.size ≤ lo_128 := Nat.le_trans K116.1 P133
    have g_la_129 := P134
    have sz_la_129 : h0.size ≤ la_129 := Nat.le_trans K116.1 P135
    refine ogoS st127 ?_
    show OWay p e below G T127 (mkF m 185 #[.val (.int p0), .val (.int p1), .val (.int p2), .val (.int p3), .val (.int p4), .val (.int v5_1), .val (.int v6_2), .val (.int us0_3), .val (.ref b5), .val (.ref b60), .unset, .unset, .unset, .unset, .unset, .unset, .unset, .unset, .unset, .unset, .unset, .unset, .unset, .unset, .unset] [(.ref b115)])
    refine ogo (fun _ z_ => XS.astore X127.here hx rfl (hb hby at_185) rfl rfl (l' := #[.val (.int p0), .val (.int p1), .val (.int p2), .val (.int p3), .val (.int p4), .val (.int v5_1), .val (.int v6_2), .val (.int us0_3), .val (.ref b5), .val (.ref b60), .val (.ref b115), .unset, .unset, .unset, .unset, .unset, .unset, .unset, .unset, .unset, .unset, .unset, .unset, .unset, .unset]) rfl z_) ?_
    show OWay p e below G T127 (mkF m 187 #[.val (.int p0), .val (.int p1), .val (.int p2), .val (.int p3), .val (.int p4), .val (.int v5_1), .val (.int v6_2), .val (.int us0_3), .val (.ref b5), .val (.ref b60), .val (.ref b115), .unset, .unset, .unset, .unset, .unset, .unset, .unset, .unset, .unset, .unset, .unset, .unset, .unset, .unset] [])
    obtain ⟨T141, h141, X141, eT141, E141, A141, D141, -, st141⟩ := newO X127 hx hZ hown (hw _ (List.mem_of_getElem? (i := 88) rfl)) (hw _ (List.mem_of_getElem? (i := 89) rfl)) (hw _ (List.mem_of_getElem? (i := 90) rfl)) rfl (g := (mkF m 187 #[.val (.int p0), .val (.int p1), .val (.int p2), .val (.int p3), .val (.int p4), .val (.int v5_1), .val (.int v6_2), .val (.int us0_3), .val (.ref b5), .val (.ref b60), .val (.ref b115), .unset, .unset, .unset, .unset, .unset, .unset, .unset, .unset, .unset, .unset, .unset, .unset, .unset, .unset] [])) rfl (hb hby at_187) (by decide) (by decide)
    obtain ⟨b141, g141⟩ : ∃ z, z = T127.heap.size := ⟨_, rfl⟩
    rw [← g141] at A141 D141 st141
    have g_b141 : n0 ≤ b141 := Nat.le_trans (Nat.le_trans (Nat.le_trans (Nat.le_trans (Nat.le_trans (Nat.le_trans (Nat.le_trans (Nat.le_trans (Nat.le_trans (Nat.le_trans (Nat.le_trans (Nat.le_trans (Nat.le_trans (Nat.le_trans (Nat.le_trans (Nat.le_trans (Nat.le_trans (Nat.le_trans (Nat.le_trans Z0 E5.1) Kq8.1) E13.1) Kq17.1) Kq28.1) E39.1) Kq43.1) Kq54.1) E60.1) Kq63.1) E68.1) Kq72.1) Kq83.1) E94.1) Kq98.1) Kq109.1) E115.1) Kq127.1) (Nat.le_of_eq g141.symm)
    have sz_b141 : h0.size ≤ b141 := Nat.le_trans K140.1 (Nat.le_of_eq g141.symm)
    have K142 : Keep h0 h141 [] := K140.ext E141
    have F_longitudes_b141 : Fld Z h141 b141 "com/example/wakeline/wakeline/similarity/Coordinates" "longitudes" "[D" .null := D141 (Or.inr (hw _ (List.mem_of_getElem? (i := 106) rfl))) (ty := (.array .double)) (by decide)
    have F_latitudes_b141 : Fld Z h141 b141 "com/example/wakeline/wakeline/similarity/Coordinates" "latitudes" "[D" .null := D141 (Or.inr (hw _ (List.mem_of_getElem? (i := 108) rfl))) (ty := (.array .double)) (by decide)
    refine ogo st141 ?_
    show OWay p e below G T141 (mkF m 190 #[.val (.int p0), .val (.int p1), .val (.int p2), .val (.int p3), .val (.int p4), .val (.int v5_1), .val (.int v6_2), .val (.int us0_3), .val (.ref b5), .val (.ref b60), .val (.ref b115), .unset, .unset, .unset, .unset, .unset, .unset, .unset, .unset, .unset, .unset, .unset, .unset, .unset, .unset] [(.ref b141)])
    refine ogo (fun _ z_ => XS.dup X141.here hx rfl (hb hby at_190) rfl rfl z_) ?_
    show OWay p e below G T141 (mkF m 191 #[.val (.int p0), .val (.int p1), .val (.int p2), .val (.int p3), .val (.int p4), .val (.int v5_1), .val (.int v6_2), .val (.int us0_3), .val (.ref b5), .val (.ref b60), .val (.ref b115), .unset, .unset, .unset, .unset, .unset, .unset, .unset, .unset, .unset, .unset, .unset, .unset, .unset, .unset] [(.ref b141), (.ref b141)])
    refine ogo (fun _ z_ => XS.aload X141.here hx rfl (hb hby at_191) rfl rfl z_) ?_
    show OWay p e below G T141 (mkF m 193 #[.val (.int p0), .val (.int p1), .val (.int p2), .val (.int p3), .val (.int p4), .val (.int v5_1), .val (.int v6_2), .val (.int us0_3), .val (.ref b5), .val (.ref b60), .val (.ref b115), .unset, .unset, .unset, .unset, .unset, .unset, .unset, .unset, .unset, .unset, .unset, .unset, .unset, .unset] [(.ref b60), (.ref b141), (.ref b141)])
    have F143 : Exa Z h141 b60 "java/util/ArrayList" := ((((F103.keep Kq109).ext E115).keep Kq127).ext E141)
    have F144 : Fld Z h141 b60 "java/util/ArrayList" "size" "I" (.int (2 : Int32)) := (((P113.ext E115).keep Kq127 (ninS (Nat.ne_of_lt (Nat.lt_of_lt_of_le P111.lt (Nat.le_of_eq g115.symm))) nin0)).ext E141)
    have F145 : Fld Z h141 b60 "java/util/ArrayList" "elementData" "[Ljava/lang/Object;" (.ref b_84) := (((P112.ext E115).keep Kq127 (ninS (Nat.ne_of_lt (Nat.lt_of_lt_of_le P111.lt (Nat.le_of_eq g115.symm))) nin0)).ext E141)
    have F146 : Arv Z h141 b_84 k_85 (.object "java/lang/Object") (10 : Int32) [(.ref b68), (.ref b94), .null, .null, .null, .null, .null, .null, .null, .null] .null := (((P110.ext E115).keep Kq127 (ninS (Nat.ne_of_lt (Nat.lt_of_lt_of_le P110.lt (Nat.le_of_eq g115.symm))) nin0)).ext E141)
    have F147 : Exa Z h141 b68 "com/example/wakeline/wakeline/trajectory/Point" := (((((((F82.keep Kq83).ext E94).keep Kq98).keep Kq109).ext E115).keep Kq127).ext E141)
    have F148 : Fld Z h141 b68 "com/example/wakeline/wakeline/trajectory/Point" "longitude" "D" (.double (FP.ddiv (FP.i2d (lonQ p2)) (4616189618054758400 : UInt64))) := (((((((P73.keep Kq83 (ninS (Ne.symm (Nat.ne_of_lt (Nat.lt_of_lt_of_le P64.lt (Nat.le_of_eq g68.symm)))) nin0)).ext E94).keep Kq98 (ninS (Nat.ne_of_lt (Nat.lt_of_lt_of_le (P73.keep Kq83 (ninS (Ne.symm (Nat.ne_of_lt (Nat.lt_of_lt_of_le P64.lt (Nat.le_of_eq g68.symm)))) nin0)).lt (Nat.le_of_eq g94.symm))) nin0)).keep Kq109 (ninS (Ne.symm (Nat.ne_of_lt (Nat.lt_of_lt_of_le P64.lt (Nat.le_of_eq g68.symm)))) (ninS (Nat.ne_of_lt (Nat.lt_of_lt_of_le P73.lt P87)) nin0))).ext E115).keep Kq127 (ninS (Nat.ne_of_lt (Nat.lt_of_lt_of_le ((((P73.keep Kq83 (ninS (Ne.symm (Nat.ne_of_lt (Nat.lt_of_lt_of_le P64.lt (Nat.le_of_eq g68.symm)))) nin0)).ext E94).keep Kq98 (ninS (Nat.ne_of_lt (Nat.lt_of_lt_of_le (P73.keep Kq83 (ninS (Ne.symm (Nat.ne_of_lt (Nat.lt_of_lt_of_le P64.lt (Nat.le_of_eq g68.symm)))) nin0)).lt (Nat.le_of_eq g94.symm))) nin0)).keep Kq109 (ninS (Ne.symm (Nat.ne_of_lt (Nat.lt_of_lt_of_le P64.lt (Nat.le_of_eq g68.symm)))) (ninS (Nat.ne_of_lt (Nat.lt_of_lt_of_le P73.lt P87)) nin0))).lt (Nat.le_of_eq g115.symm))) nin0)).ext E141)
    have F149 : Fld Z h141 b68 "com/example/wakeline/wakeline/trajectory/Point" "latitude" "D" (.double (FP.ddiv (FP.i2d (latQ p2)) (4616189618054758400 : UInt64))) := (((((((P74.keep Kq83 (ninS (Ne.symm (Nat.ne_of_lt (Nat.lt_of_lt_of_le P64.lt (Nat.le_of_eq g68.symm)))) nin0)).ext E94).keep Kq98 (ninS (Nat.ne_of_lt (Nat.lt_of_lt_of_le (P74.keep Kq83 (ninS (Ne.symm (Nat.ne_of_lt (Nat.lt_of_lt_of_le P64.lt (Nat.le_of_eq g68.symm)))) nin0)).lt (Nat.le_of_eq g94.symm))) nin0)).keep Kq109 (ninS (Ne.symm (Nat.ne_of_lt (Nat.lt_of_lt_of_le P64.lt (Nat.le_of_eq g68.symm)))) (ninS (Nat.ne_of_lt (Nat.lt_of_lt_of_le P74.lt P87)) nin0))).ext E115).keep Kq127 (ninS (Nat.ne_of_lt (Nat.lt_of_lt_of_le ((((P74.keep Kq83 (ninS (Ne.symm (Nat.ne_of_lt (Nat.lt_of_lt_of_le P64.lt (Nat.le_of_eq g68.symm)))) nin0)).ext E94).keep Kq98 (ninS (Nat.ne_of_lt (Nat.lt_of_lt_of_le (P74.keep Kq83 (ninS (Ne.symm (Nat.ne_of_lt (Nat.lt_of_lt_of_le P64.lt (Nat.le_of_eq g68.symm)))) nin0)).lt (Nat.le_of_eq g94.symm))) nin0)).keep Kq109 (ninS (Ne.symm (Nat.ne_of_lt (Nat.lt_of_lt_of_le P64.lt (Nat.le_of_eq g68.symm)))) (ninS (Nat.ne_of_lt (Nat.lt_of_lt_of_le P74.lt P87)) nin0))).lt (Nat.le_of_eq g115.symm))) nin0)).ext E141)
    have F150 : Exa Z h141 b94 "com/example/wakeline/wakeline/trajectory/Point" := ((((F108.keep Kq109).ext E115).keep Kq127).ext E141)
    have F151 : Fld Z h141 b94 "com/example/wakeline/wakeline/trajectory/Point" "longitude" "D" (.double (FP.ddiv (FP.i2d (lonQ p3)) (4616189618054758400 : UInt64))) := ((((P99.keep Kq109 (ninS (Ne.symm (Nat.ne_of_lt (Nat.lt_of_lt_of_le P89.lt (Nat.le_of_eq g94.symm)))) (ninS (Ne.symm (Nat.ne_of_lt (Nat.lt_of_lt_of_le P88.lt (Nat.le_of_eq g94.symm)))) nin0))).ext E115).keep Kq127 (ninS (Nat.ne_of_lt (Nat.lt_of_lt_of_le (P99.keep Kq109 (ninS (Ne.symm (Nat.ne_of_lt (Nat.lt_of_lt_of_le P89.lt (Nat.le_of_eq g94.symm)))) (ninS (Ne.symm (Nat.ne_of_lt (Nat.lt_of_lt_of_le P88.lt (Nat.le_of_eq g94.symm)))) nin0))).lt (Nat.le_of_eq g115.symm))) nin0)).ext E141)
    have F152 : Fld Z h141 b94 "com/example/wakeline/wakeline/trajectory/Point" "latitude" "D" (.double (FP.ddiv (FP.i2d (latQ p3)) (4616189618054758400 : UInt64))) := ((((P100.keep Kq109 (ninS (Ne.symm (Nat.ne_of_lt (Nat.lt_of_lt_of_le P89.lt (Nat.le_of_eq g94.symm)))) (ninS (Ne.symm (Nat.ne_of_lt (Nat.lt_of_lt_of_le P88.lt (Nat.le_of_eq g94.symm)))) nin0))).ext E115).keep Kq127 (ninS (Nat.ne_of_lt (Nat.lt_of_lt_of_le (P100.keep Kq109 (ninS (Ne.symm (Nat.ne_of_lt (Nat.lt_of_lt_of_le P89.lt (Nat.le_of_eq g94.symm)))) (ninS (Ne.symm (Nat.ne_of_lt (Nat.lt_of_lt_of_le P88.lt (Nat.le_of_eq g94.symm)))) nin0))).lt (Nat.le_of_eq g115.symm))) nin0)).ext E141)
    obtain ⟨_, T153, L153, X153, hQ153, st153⟩ := wInit X141 hx hZ (y := (⟨"com/example/wakeline/wakeline/similarity/Coordinates", "<init>", "(Ljava/util/List;)V"⟩ : MethodName)) rfl hown (hw _ (List.mem_of_getElem? (i := 91) rfl)) (hw _ (List.mem_of_getElem? (i := 92) rfl)) (hw _ (List.mem_of_getElem? (i := 90) rfl)) (hw _ (List.mem_of_getElem? (i := 93) rfl)) (by decide) (coord_c l Z az hw [] b141 b60 b_84 k_85 b68 b94 (FP.ddiv (FP.i2d (lonQ p2)) (4616189618054758400 : UInt64)) (FP.ddiv (FP.i2d (lonQ p3)) (4616189618054758400 : UInt64)) (FP.ddiv (FP.i2d (latQ p2)) (4616189618054758400 : UInt64)) (FP.ddiv (FP.i2d (latQ p3)) (4616189618054758400 : UInt64)) h141 n0 (Nat.le_trans (Nat.le_trans (Nat.le_trans (Nat.le_trans (Nat.le_trans (Nat.le_trans (Nat.le_trans (Nat.le_trans (Nat.le_trans (Nat.le_trans (Nat.le_trans (Nat.le_trans (Nat.le_trans (Nat.le_trans (Nat.le_trans (Nat.le_trans (Nat.le_trans (Nat.le_trans (Nat.le_trans Z0 E5.1) Kq8.1) E13.1) Kq17.1) Kq28.1) E39.1) Kq43.1) Kq54.1) E60.1) Kq63.1) E68.1) Kq72.1) Kq83.1) E94.1) Kq98.1) Kq109.1) E115.1) Kq127.1) E141.1) A141 g_b141 F_longitudes_b141 F_latitudes_b141 F143 F144 F145 F146 F147 F148 F149 F150 F151 F152 (Ne.symm (Nat.ne_of_lt (Nat.lt_of_lt_of_le ((P111.ext E115).keep Kq127 (ninS (Nat.ne_of_lt (Nat.lt_of_lt_of_le P111.lt (Nat.le_of_eq g115.symm))) nin0)).lt (Nat.le_of_eq g141.symm)))) (Ne.symm (Nat.ne_of_lt (Nat.lt_of_lt_of_le ((P110.ext E115).keep Kq127 (ninS (Nat.ne_of_lt (Nat.lt_of_lt_of_le P110.lt (Nat.le_of_eq g115.symm))) nin0)).lt (Nat.le_of_eq g141.symm)))) (Ne.symm (Nat.ne_of_lt (Nat.lt_of_lt_of_le ((((((P75.keep Kq83 (ninS (Ne.symm (Nat.ne_of_lt (Nat.lt_of_lt_of_le P64.lt (Nat.le_of_eq g68.symm)))) nin0)).ext E94).keep Kq98 (ninS (Nat.ne_of_lt (Nat.lt_of_lt_of_le (P75.keep Kq83 (ninS (Ne.symm (Nat.ne_of_lt (Nat.lt_of_lt_of_le P64.lt (Nat.le_of_eq g68.symm)))) nin0)).lt (Nat.le_of_eq g94.symm))) nin0)).keep Kq109 (ninS (Ne.symm (Nat.ne_of_lt (Nat.lt_of_lt_of_le P64.lt (Nat.le_of_eq g68.symm)))) (ninS (Nat.ne_of_lt (Nat.lt_of_lt_of_le P75.lt P87)) nin0))).ext E115).keep Kq127 (ninS (Nat.ne_of_lt (Nat.lt_of_lt_of_le ((((P75.keep Kq83 (ninS (Ne.symm (Nat.ne_of_lt (Nat.lt_of_lt_of_le P64.lt (Nat.le_of_eq g68.symm)))) nin0)).ext E94).keep Kq98 (ninS (Nat.ne_of_lt (Nat.lt_of_lt_of_le (P75.keep Kq83 (ninS (Ne.symm (Nat.ne_of_lt (Nat.lt_of_lt_of_le P64.lt (Nat.le_of_eq g68.symm)))) nin0)).lt (Nat.le_of_eq g94.symm))) nin0)).keep Kq109 (ninS (Ne.symm (Nat.ne_of_lt (Nat.lt_of_lt_of_le P64.lt (Nat.le_of_eq g68.symm)))) (ninS (Nat.ne_of_lt (Nat.lt_of_lt_of_le P75.lt P87)) nin0))).lt (Nat.le_of_eq g115.symm))) nin0)).lt (Nat.le_of_eq g141.symm)))) (Ne.symm (Nat.ne_of_lt (Nat.lt_of_lt_of_le (((P101.keep Kq109 (ninS (Ne.symm (Nat.ne_of_lt (Nat.lt_of_lt_of_le P89.lt (Nat.le_of_eq g94.symm)))) (ninS (Ne.symm (Nat.ne_of_lt (Nat.lt_of_lt_of_le P88.lt (Nat.le_of_eq g94.symm)))) nin0))).ext E115).keep Kq127 (ninS (Nat.ne_of_lt (Nat.lt_of_lt_of_le (P101.keep Kq109 (ninS (Ne.symm (Nat.ne_of_lt (Nat.lt_of_lt_of_le P89.lt (Nat.le_of_eq g94.symm)))) (ninS (Ne.symm (Nat.ne_of_lt (Nat.lt_of_lt_of_le P88.lt (Nat.le_of_eq g94.symm)))) nin0))).lt (Nat.le_of_eq g115.symm))) nin0)).lt (Nat.le_of_eq g141.symm))))) 1 (by decide) (by decide) (g := (mkF m 193 #[.val (.int p0), .val (.int p1), .val (.int p2), .val (.int p3), .val (.int p4), .val (.int v5_1), .val (.int v6_2), .val (.int us0_3), .val (.ref b5), .val (.ref b60), .val (.ref b115), .unset, .unset, .unset, .unset, .unset, .unset, .unset, .unset, .unset, .unset, .unset, .unset, .unset, .unset] [(.ref b60), (.ref b141), (.ref b141)])) rfl (by rw [hml]; rfl) (a := b141) (argsL := [(.ref b60)]) (rest := [(.ref b141)]) (lenOf pd__Ljava_util_List__V rfl) rfl (by show 2 * 0 + _ ≤ _; exact Nat.le_of_eq rfl) (hb hby at_193) rfl eT141 (by decide) (by decide)
    obtain ⟨lo_154, la_155, kl_156, ka_157, rfl, N153q, Kq153, P158, P159, P160, P161, P162, P163, P164, P165⟩ := hQ153
    have N153 := Fr.app N127 N153q
    have K166 : Keep h0 T153.heap [] := K142.trans Kq153 (allS (Or.inr sz_b141) all0)
    have g_lo_154 := P158
    have sz_lo_154 : h0.size ≤ lo_154 := Nat.le_trans K142.1 P159
    have g_la_155 := P160
    have sz_la_155 : h0.size ≤ la_155 := Nat.le_trans K142.1 P161
    refine ogoS st153 ?_
    show OWay p e below G T153 (mkF m 196 #[.val (.int p0), .val (.int p1), .val (.int p2), .val (.int p3), .val (.int p4), .val (.int v5_1), .val (.int v6_2), .val (.int us0_3), .val (.ref b5), .val (.ref b60), .val (.ref b115), .unset, .unset, .unset, .unset, .unset, .unset, .unset, .unset, .unset, .unset, .unset, .unset, .unset, .unset] [(.ref b141)])
    refine ogo (fun _ z_ => XS.astore X153.here hx rfl (hb hby at_196) rfl rfl (l' := #[.val (.int p0), .val (.int p1), .val (.int p2), .val (.int p3), .val (.int p4), .val (.int v5_1), .val (.int v6_2), .val (.int us0_3), .val (.ref b5), .val (.ref b60), .val (.ref b115), .val (.ref b141), .unset, .unset, .unset, .unset, .unset, .unset, .unset, .unset, .unset, .unset, .unset, .unset, .unset]) rfl z_) ?_
    show OWay p e below G T153 (mkF m 198 #[.val (.int p0), .val (.int p1), .val (.int p2), .val (.int p3), .val (.int p4), .val (.int v5_1), .val (.int v6_2), .val (.int us0_3), .val (.ref b5), .val (.ref b60), .val (.ref b115), .val (.ref b141), .unset, .unset, .unset, .unset, .unset, .unset, .unset, .unset, .unset, .unset, .unset, .unset, .unset] [])
    rcases (own_if hus0_3 : us0_3 = (0 : Int32) ∨ us0_3 = (1 : Int32)) with rfl | rfl
    · show OWay p e below G T153 (mkF m 198 #[.val (.int p0), .val (.int p1), .val (.int p2), .val (.int p3), .val (.int p4), .val (.int v5_1), .val (.int v6_2), .val (.int (0 : Int32)), .val (.ref b5), .val (.ref b60), .val (.ref b115), .val (.ref b141), .unset, .unset, .unset, .unset, .unset, .unset, .unset, .unset, .unset, .unset, .unset, .unset, .unset] [])
      refine ogo (fun _ z_ => XS.iload X153.here hx rfl (hb hby at_198) rfl z_) ?_
      show OWay p e below G T153 (mkF m 200 #[.val (.int p0), .val (.int p1), .val (.int p2), .val (.int p3), .val (.int p4), .val (.int v5_1), .val (.int v6_2), .val (.int (0 : Int32)), .val (.ref b5), .val (.ref b60), .val (.ref b115), .val (.ref b141), .unset, .unset, .unset, .unset, .unset, .unset, .unset, .unset, .unset, .unset, .unset, .unset, .unset] [(.int (0 : Int32))])
      refine ogo (fun _ z_ => XS.ifYes X153.here hx rfl (pc0 := 200) (pc' := 208) rfl (hb hby at_200) rfl ((if0 _ _).trans (teq rfl).1) (by decide) (by decide) z_) ?_
      show OWay p e below G T153 (mkF m 208 #[.val (.int p0), .val (.int p1), .val (.int p2), .val (.int p3), .val (.int p4), .val (.int v5_1), .val (.int v6_2), .val (.int (0 : Int32)), .val (.ref b5), .val (.ref b60), .val (.ref b115), .val (.ref b141), .unset, .unset, .unset, .unset, .unset, .unset, .unset, .unset, .unset, .unset, .unset, .unset, .unset] [])
      refine ogo (fun _ z_ => XS.aload X153.here hx rfl (hb hby at_208) rfl rfl z_) ?_
      show OWay p e below G T153 (mkF m 210 #[.val (.int p0), .val (.int p1), .val (.int p2), .val (.int p3), .val (.int p4), .val (.int v5_1), .val (.int v6_2), .val (.int (0 : Int32)), .val (.ref b5), .val (.ref b60), .val (.ref b115), .val (.ref b141), .unset, .unset, .unset, .unset, .unset, .unset, .unset, .unset, .unset, .unset, .unset, .unset, .unset] [(.ref b141)])
      refine ogo (fun _ z_ => XS.astore X153.here hx rfl (hb hby at_210) rfl rfl (l' := #[.val (.int p0), .val (.int p1), .val (.int p2), .val (.int p3), .val (.int p4), .val (.int v5_1), .val (.int v6_2), .val (.int (0 : Int32)), .val (.ref b5), .val (.ref b60), .val (.ref b115), .val (.ref b141), .val (.ref b141), .unset, .unset, .unset, .unset, .unset, .unset, .unset, .unset, .unset, .unset, .unset, .unset]) rfl z_) ?_
      show OWay p e below G T153 (mkF m 212 #[.val (.int p0), .val (.int p1), .val (.int p2), .val (.int p3), .val (.int p4), .val (.int v5_1), .val (.int v6_2), .val (.int (0 : Int32)), .val (.ref b5), .val (.ref b60), .val (.ref b115), .val (.ref b141), .val (.ref b141), .unset, .unset, .unset, .unset, .unset, .unset, .unset, .unset, .unset, .unset, .unset, .unset] [])
      rcases (own_bit _ _ hv5_1 : v5_1 = (0 : Int32) ∨ v5_1 = (1 : Int32)) with rfl | rfl
      · show OWay p e below G T153 (mkF m 212 #[.val (.int p0), .val (.int p1), .val (.int p2), .val (.int p3), .val (.int p4), .val (.int (0 : Int32)), .val (.int v6_2), .val (.int (0 : Int32)), .val (.ref b5), .val (.ref b60), .val (.ref b115), .val (.ref b141), .val (.ref b141), .unset, .unset, .unset, .unset, .unset, .unset, .unset, .unset, .unset, .unset, .unset, .unset] [])
        refine ogo (fun _ z_ => XS.iload X153.here hx rfl (hb hby at_212) rfl z_) ?_
        show OWay p e below G T153 (mkF m 214 #[.val (.int p0), .val (.int p1), .val (.int p2), .val (.int p3), .val (.int p4), .val (.int (0 : Int32)), .val (.int v6_2), .val (.int (0 : Int32)), .val (.ref b5), .val (.ref b60), .val (.ref b115), .val (.ref b141), .val (.ref b141), .unset, .unset, .unset, .unset, .unset, .unset, .unset, .unset, .unset, .unset, .unset, .unset] [(.int (0 : Int32))])
        refine ogo (fun _ z_ => XS.ifNo X153.here hx rfl (hb hby at_214) rfl ((if0 _ _).trans (teq rfl).2) z_) ?_
        show OWay p e below G T153 (mkF m 217 #[.val (.int p0), .val (.int p1), .val (.int p2), .val (.int p3), .val (.int p4), .val (.int (0 : Int32)), .val (.int v6_2), .val (.int (0 : Int32)), .val (.ref b5), .val (.ref b60), .val (.ref b115), .val (.ref b141), .val (.ref b141), .unset, .unset, .unset, .unset, .unset, .unset, .unset, .unset, .unset, .unset, .unset, .unset] [])
        refine ogo (fun _ z_ => XS.iloadN X153.here hx rfl (hb hby at_217) rfl z_) ?_
        show OWay p e below G T153 (mkF m 218 #[.val (.int p0), .val (.int p1), .val (.int p2), .val (.int p3), .val (.int p4), .val (.int (0 : Int32)), .val (.int v6_2), .val (.int (0 : Int32)), .val (.ref b5), .val (.ref b60), .val (.ref b115), .val (.ref b141), .val (.ref b141), .unset, .unset, .unset, .unset, .unset, .unset, .unset, .unset, .unset, .unset, .unset, .unset] [(.int p0)])
        obtain ⟨_, T167, L167, X167, hQ167, st167⟩ := wStatic X153 hx hZ (y := (⟨"com/example/wakeline/wakeline/similarity/CoordinatesSquaredDistancePinLaw", "lonQ", "(I)I"⟩ : MethodName)) hown (hw _ (List.mem_of_getElem? (i := 29) rfl)) (hw _ (List.mem_of_getElem? (i := 30) rfl)) (hw _ (List.mem_of_getElem? (i := 31) rfl)) (hw _ (List.mem_of_getElem? (i := 32) rfl)) (by decide) (lonQ_b_c l Z az hw [] p0 T153.heap n0 (Nat.le_trans (Nat.le_trans (Nat.le_trans (Nat.le_trans (Nat.le_trans (Nat.le_trans (Nat.le_trans (Nat.le_trans (Nat.le_trans (Nat.le_trans (Nat.le_trans (Nat.le_trans (Nat.le_trans (Nat.le_trans (Nat.le_trans (Nat.le_trans (Nat.le_trans (Nat.le_trans (Nat.le_trans (Nat.le_trans Z0 E5.1) Kq8.1) E13.1) Kq17.1) Kq28.1) E39.1) Kq43.1) Kq54.1) E60.1) Kq63.1) E68.1) Kq72.1) Kq83.1) E94.1) Kq98.1) Kq109.1) E115.1) Kq127.1) E141.1) Kq153.1)) 0 (by decide) (by decide) (g := (mkF m 218 #[.val (.int p0), .val (.int p1), .val (.int p2), .val (.int p3), .val (.int p4), .val (.int (0 : Int32)), .val (.int v6_2), .val (.int (0 : Int32)), .val (.ref b5), .val (.ref b60), .val (.ref b115), .val (.ref b141), .val (.ref b141), .unset, .unset, .unset, .unset, .unset, .unset, .unset, .unset, .unset, .unset, .unset, .unset] [(.int p0)])) rfl (by rw [hml]; rfl) (argsL := [(.int p0)]) (rest := []) (lenOf pd__I_I rfl) rfl (by show 2 * 0 + _ ≤ _; exact Nat.le_of_eq rfl) (hb hby at_218) rfl rfl (by decide) (by decide)
        obtain ⟨rfl, N167q, eq167⟩ := hQ167
        have N167 := Fr.app N153 N167q
        refine ogo st167 ?_
        show OWay p e below G T167 (mkF m 221 #[.val (.int p0), .val (.int p1), .val (.int p2), .val (.int p3), .val (.int p4), .val (.int (0 : Int32)), .val (.int v6_2), .val (.int (0 : Int32)), .val (.ref b5), .val (.ref b60), .val (.ref b115), .val (.ref b141), .val (.ref b141), .unset, .unset, .unset, .unset, .unset, .unset, .unset, .unset, .unset, .unset, .unset, .unset] [(.int (lonQ p0))])
        refine ogo (fun _ z_ => XS.goto X167.here hx rfl (pc0 := 221) (pc' := 228) rfl (hb hby at_221) (by decide) (by decide) z_) ?_
        show OWay p e below G T167 (mkF m 228 #[.val (.int p0), .val (.int p1), .val (.int p2), .val (.int p3), .val (.int p4), .val (.int (0 : Int32)), .val (.int v6_2), .val (.int (0 : Int32)), .val (.ref b5), .val (.ref b60), .val (.ref b115), .val (.ref b141), .val (.ref b141), .unset, .unset, .unset, .unset, .unset, .unset, .unset, .unset, .unset, .unset, .unset, .unset] [(.int (lonQ p0))])
        suffices Jv13_168 : ∀ v13_168 : Int32, v13_168 = (lonQ p0) → OWay p e below G T167 (mkF m 228 #[.val (.int p0), .val (.int p1), .val (.int p2), .val (.int p3), .val (.int p4), .val (.int (0 : Int32)), .val (.int v6_2), .val (.int (0 : Int32)), .val (.ref b5), .val (.ref b60), .val (.ref b115), .val (.ref b141), .val (.ref b141), .unset, .unset, .unset, .unset, .unset, .unset, .unset, .unset, .unset, .unset, .unset, .unset] [(.int v13_168)]) from Jv13_168 _ rfl
        intro v13_168 hv13_168
        refine ogo (fun _ z_ => XS.istore X167.here hx rfl (hb hby at_228) rfl (l' := #[.val (.int p0), .val (.int p1), .val (.int p2), .val (.int p3), .val (.int p4), .val (.int (0 : Int32)), .val (.int v6_2), .val (.int (0 : Int32)), .val (.ref b5), .val (.ref b60), .val (.ref b115), .val (.ref b141), .val (.ref b141), .val (.int v13_168), .unset, .unset, .unset, .unset, .unset, .unset, .unset, .unset, .unset, .unset, .unset]) rfl z_) ?_
        show OWay p e below G T167 (mkF m 230 #[.val (.int p0), .val (.int p1), .val (.int p2), .val (.int p3), .val (.int p4), .val (.int (0 : Int32)), .val (.int v6_2), .val (.int (0 : Int32)), .val (.ref b5), .val (.ref b60), .val (.ref b115), .val (.ref b141), .val (.ref b141), .val (.int v13_168), .unset, .unset, .unset, .unset, .unset, .unset, .unset, .unset, .unset, .unset, .unset] [])
        rcases (own_bit _ _ hv6_2 : v6_2 = (0 : Int32) ∨ v6_2 = (1 : Int32)) with rfl | rfl
        · show OWay p e below G T167 (mkF m 230 #[.val (.int p0), .val (.int p1), .val (.int p2), .val (.int p3), .val (.int p4), .val (.int (0 : Int32)), .val (.int (0 : Int32)), .val (.int (0 : Int32)), .val (.ref b5), .val (.ref b60), .val (.ref b115), .val (.ref b141), .val (.ref b141), .val (.int v13_168), .unset, .unset, .unset, .unset, .unset, .unset, .unset, .unset, .unset, .unset, .unset] [])
          refine ogo (fun _ z_ => XS.iload X167.here hx rfl (hb hby at_230) rfl z_) ?_
          show OWay p e below G T167 (mkF m 232 #[.val (.int p0), .val (.int p1), .val (.int p2), .val (.int p3), .val (.int p4), .val (.int (0 : Int32)), .val (.int (0 : Int32)), .val (.int (0 : Int32)), .val (.ref b5), .val (.ref b60), .val (.ref b115), .val (.ref b141), .val (.ref b141), .val (.int v13_168), .unset, .unset, .unset, .unset, .unset, .unset, .unset, .unset, .unset, .unset, .unset] [(.int (0 : Int32))])
          refine ogo (fun _ z_ => XS.ifNo X167.here hx rfl (hb hby at_232) rfl ((if0 _ _).trans (teq rfl).2) z_) ?_
          show OWay p e below G T167 (mkF m 235 #[.val (.int p0), .val (.int p1), .val (.int p2), .val (.int p3), .val (.int p4), .val (.int (0 : Int32)), .val (.int (0 : Int32)), .val (.int (0 : Int32)), .val (.ref b5), .val (.ref b60), .val (.ref b115), .val (.ref b141), .val (.ref b141), .val (.int v13_168), .unset, .unset, .unset, .unset, .unset, .unset, .unset, .unset, .unset, .unset, .unset] [])
          refine ogo (fun _ z_ => XS.iloadN X167.here hx rfl (hb hby at_235) rfl z_) ?_
          show OWay p e below G T167 (mkF m 236 #[.val (.int p0), .val (.int p1), .val (.int p2), .val (.int p3), .val (.int p4), .val (.int (0 : Int32)), .val (.int (0 : Int32)), .val (.int (0 : Int32)), .val (.ref b5), .val (.ref b60), .val (.ref b115), .val (.ref b141), .val (.ref b141), .val (.int v13_168), .unset, .unset, .unset, .unset, .unset, .unset, .unset, .unset, .unset, .unset, .unset] [(.int p0)])
          obtain ⟨_, T169, L169, X169, hQ169, st169⟩ := wStatic X167 hx hZ (y := (⟨"com/example/wakeline/wakeline/similarity/CoordinatesSquaredDistancePinLaw", "latQ", "(I)I"⟩ : MethodName)) hown (hw _ (List.mem_of_getElem? (i := 35) rfl)) (hw _ (List.mem_of_getElem? (i := 36) rfl)) (hw _ (List.mem_of_getElem? (i := 31) rfl)) (hw _ (List.mem_of_getElem? (i := 37) rfl)) (by decide) (latQ_b_c l Z az hw [] p0 T153.heap n0 (Nat.le_trans (Nat.le_trans (Nat.le_trans (Nat.le_trans (Nat.le_trans (Nat.le_trans (Nat.le_trans (Nat.le_trans (Nat.le_trans (Nat.le_trans (Nat.le_trans (Nat.le_trans (Nat.le_trans (Nat.le_trans (Nat.le_trans (Nat.le_trans (Nat.le_trans (Nat.le_trans (Nat.le_trans (Nat.le_trans Z0 E5.1) Kq8.1) E13.1) Kq17.1) Kq28.1) E39.1) Kq43.1) Kq54.1) E60.1) Kq63.1) E68.1) Kq72.1) Kq83.1) E94.1) Kq98.1) Kq109.1) E115.1) Kq127.1) E141.1) Kq153.1)) 0 (by decide) (by decide) (g := (mkF m 236 #[.val (.int p0), .val (.int p1), .val (.int p2), .val (.int p3), .val (.int p4), .val (.int (0 : Int32)), .val (.int (0 : Int32)), .val (.int (0 : Int32)), .val (.ref b5), .val (.ref b60), .val (.ref b115), .val (.ref b141), .val (.ref b141), .val (.int v13_168), .unset, .unset, .unset, .unset, .unset, .unset, .unset, .unset, .unset, .unset, .unset] [(.int p0)])) rfl (by rw [hml]; rfl) (argsL := [(.int p0)]) (rest := []) (lenOf pd__I_I rfl) rfl (by show 2 * 0 + _ ≤ _; exact Nat.le_of_eq rfl) (hb hby at_236) rfl eq167 (by decide) (by decide)
          obtain ⟨rfl, N169q, eq169⟩ := hQ169
          have N169 := Fr.app N167 N169q
          refine ogo st169 ?_
          show OWay p e below G T169 (mkF m 239 #[.val (.int p0), .val (.int p1), .val (.int p2), .val (.int p3), .val (.int p4), .val (.int (0 : Int32)), .val (.int (0 : Int32)), .val (.int (0 : Int32)), .val (.ref b5), .val (.ref b60), .val (.ref b115), .val (.ref b141), .val (.ref b141), .val (.int v13_168), .unset, .unset, .unset, .unset, .unset, .unset, .unset, .unset, .unset, .unset, .unset] [(.int (latQ p0))])
          refine ogo (fun _ z_ => XS.goto X169.here hx rfl (pc0 := 239) (pc' := 246) rfl (hb hby at_239) (by decide) (by decide) z_) ?_
          show OWay p e below G T169 (mkF m 246 #[.val (.int p0), .val (.int p1), .val (.int p2), .val (.int p3), .val (.int p4), .val (.int (0 : Int32)), .val (.int (0 : Int32)), .val (.int (0 : Int32)), .val (.ref b5), .val (.ref b60), .val (.ref b115), .val (.ref b141), .val (.ref b141), .val (.int v13_168), .unset, .unset, .unset, .unset, .unset, .unset, .unset, .unset, .unset, .unset, .unset] [(.int (latQ p0))])
          suffices Jv14_170 : ∀ v14_170 : Int32, v14_170 = (latQ p0) → OWay p e below G T169 (mkF m 246 #[.val (.int p0), .val (.int p1), .val (.int p2), .val (.int p3), .val (.int p4), .val (.int (0 : Int32)), .val (.int (0 : Int32)), .val (.int (0 : Int32)), .val (.ref b5), .val (.ref b60), .val (.ref b115), .val (.ref b141), .val (.ref b141), .val (.int v13_168), .unset, .unset, .unset, .unset, .unset, .unset, .unset, .unset, .unset, .unset, .unset] [(.int v14_170)]) from Jv14_170 _ rfl
          intro v14_170 hv14_170
          refine ogo (fun _ z_ => XS.istore X169.here hx rfl (hb hby at_246) rfl (l' := #[.val (.int p0), .val (.int p1), .val (.int p2), .val (.int p3), .val (.int p4), .val (.int (0 : Int32)), .val (.int (0 : Int32)), .val (.int (0 : Int32)), .val (.ref b5), .val (.ref b60), .val (.ref b115), .val (.ref b141), .val (.ref b141), .val (.int v13_168), .val (.int v14_170), .unset, .unset, .unset, .unset, .unset, .unset, .unset, .unset, .unset, .unset]) rfl z_) ?_
          show OWay p e below G T169 (mkF m 248 #[.val (.int p0), .val (.int p1), .val (.int p2), .val (.int p3), .val (.int p4), .val (.int (0 : Int32)), .val (.int (0 : Int32)), .val (.int (0 : Int32)), .val (.ref b5), .val (.ref b60), .val (.ref b115), .val (.ref b141), .val (.ref b141), .val (.int v13_168), .val (.int v14_170), .unset, .unset, .unset, .unset, .unset, .unset, .unset, .unset, .unset, .unset] [])
          refine ogo (fun _ z_ => XS.iload X169.here hx rfl (hb hby at_248) rfl z_) ?_
          show OWay p e below G T169 (mkF m 250 #[.val (.int p0), .val (.int p1), .val (.int p2), .val (.int p3), .val (.int p4), .val (.int (0 : Int32)), .val (.int (0 : Int32)), .val (.int (0 : Int32)), .val (.ref b5), .val (.ref b60), .val (.ref b115), .val (.ref b141), .val (.ref b141), .val (.int v13_168), .val (.int v14_170), .unset, .unset, .unset, .unset, .unset, .unset, .unset, .unset, .unset, .unset] [(.int (0 : Int32))])
          refine ogo (fun _ z_ => XS.ifYes X169.here hx rfl (pc0 := 250) (pc' := 292) rfl (hb hby at_250) rfl ((if0 _ _).trans (teq rfl).1) (by decide) (by decide) z_) ?_
          show OWay p e below G T169 (mkF m 292 #[.val (.int p0), .val (.int p1), .val (.int p2), .val (.int p3), .val (.int p4), .val (.int (0 : Int32)), .val (.int (0 : Int32)), .val (.int (0 : Int32)), .val (.ref b5), .val (.ref b60), .val (.ref b115), .val (.ref b141), .val (.ref b141), .val (.int v13_168), .val (.int v14_170), .unset, .unset, .unset, .unset, .unset, .unset, .unset, .unset, .unset, .unset] [])
          refine ogo (fun _ z_ => XS.iload X169.here hx rfl (hb hby at_292) rfl z_) ?_
          show OWay p e below G T169 (mkF m 294 #[.val (.int p0), .val (.int p1), .val (.int p2), .val (.int p3), .val (.int p4), .val (.int (0 : Int32)), .val (.int (0 : Int32)), .val (.int (0 : Int32)), .val (.ref b5), .val (.ref b60), .val (.ref b115), .val (.ref b141), .val (.ref b141), .val (.int v13_168), .val (.int v14_170), .unset, .unset, .unset, .unset, .unset, .unset, .unset, .unset, .unset, .unset] [(.int (0 : Int32))])
          refine ogo (fun _ z_ => XS.ifNo X169.here hx rfl (hb hby at_294) rfl ((if0 _ _).trans (teq rfl).2) z_) ?_
          show OWay p e below G T169 (mkF m 297 #[.val (.int p0), .val (.int p1), .val (.int p2), .val (.int p3), .val (.int p4), .val (.int (0 : Int32)), .val (.int (0 : Int32)), .val (.int (0 : Int32)), .val (.ref b5), .val (.ref b60), .val (.ref b115), .val (.ref b141), .val (.ref b141), .val (.int v13_168), .val (.int v14_170), .unset, .unset, .unset, .unset, .unset, .unset, .unset, .unset, .unset, .unset] [])
          refine ogo (fun _ z_ => XS.iloadN X169.here hx rfl (hb hby at_297) rfl z_) ?_
          show OWay p e below G T169 (mkF m 298 #[.val (.int p0), .val (.int p1), .val (.int p2), .val (.int p3), .val (.int p4), .val (.int (0 : Int32)), .val (.int (0 : Int32)), .val (.int (0 : Int32)), .val (.ref b5), .val (.ref b60), .val (.ref b115), .val (.ref b141), .val (.ref b141), .val (.int v13_168), .val (.int v14_170), .unset, .unset, .unset, .unset, .unset, .unset, .unset, .unset, .unset, .unset] [(.int p2)])
          obtain ⟨_, T171, L171, X171, hQ171, st171⟩ := wStatic X169 hx hZ (y := (⟨"com/example/wakeline/wakeline/similarity/CoordinatesSquaredDistancePinLaw", "lonQ", "(I)I"⟩ : MethodName)) hown (hw _ (List.mem_of_getElem? (i := 29) rfl)) (hw _ (List.mem_of_getElem? (i := 30) rfl)) (hw _ (List.mem_of_getElem? (i := 31) rfl)) (hw _ (List.mem_of_getElem? (i := 32) rfl)) (by decide) (lonQ_b_c l Z az hw [] p2 T153.heap n0 (Nat.le_trans (Nat.le_trans (Nat.le_trans (Nat.le_trans (Nat.le_trans (Nat.le_trans (Nat.le_trans (Nat.le_trans (Nat.le_trans (Nat.le_trans (Nat.le_trans (Nat.le_trans (Nat.le_trans (Nat.le_trans (Nat.le_trans (Nat.le_trans (Nat.le_trans (Nat.le_trans (Nat.le_trans (Nat.le_trans Z0 E5.1) Kq8.1) E13.1) Kq17.1) Kq28.1) E39.1) Kq43.1) Kq54.1) E60.1) Kq63.1) E68.1) Kq72.1) Kq83.1) E94.1) Kq98.1) Kq109.1) E115.1) Kq127.1) E141.1) Kq153.1)) 0 (by decide) (by decide) (g := (mkF m 298 #[.val (.int p0), .val (.int p1), .val (.int p2), .val (.int p3), .val (.int p4), .val (.int (0 : Int32)), .val (.int (0 : Int32)), .val (.int (0 : Int32)), .val (.ref b5), .val (.ref b60), .val (.ref b115), .val (.ref b141), .val (.ref b141), .val (.int v13_168), .val (.int v14_170), .unset, .unset, .unset, .unset, .unset, .unset, .unset, .unset, .unset, .unset] [(.int p2)])) rfl (by rw [hml]; rfl) (argsL := [(.int p2)]) (rest := []) (lenOf pd__I_I rfl) rfl (by show 2 * 0 + _ ≤ _; exact Nat.le_of_eq rfl) (hb hby at_298) rfl eq169 (by decide) (by decide)
          obtain ⟨rfl, N171q, eq171⟩ := hQ171
          have N171 := Fr.app N169 N171q
          refine ogo st171 ?_
          show OWay p e below G T171 (mkF m 301 #[.val (.int p0), .val (.int p1), .val (.int p2), .val (.int p3), .val (.int p4), .val (.int (0 : Int32)), .val (.int (0 : Int32)), .val (.int (0 : Int32)), .val (.ref b5), .val (.ref b60), .val (.ref b115), .val (.ref b141), .val (.ref b141), .val (.int v13_168), .val (.int v14_170), .unset, .unset, .unset, .unset, .unset, .unset, .unset, .unset, .unset, .unset] [(.int (lonQ p2))])
          refine ogo (fun _ z_ => XS.goto X171.here hx rfl (pc0 := 301) (pc' := 308) rfl (hb hby at_301) (by decide) (by decide) z_) ?_
          show OWay p e below G T171 (mkF m 308 #[.val (.int p0), .val (.int p1), .val (.int p2), .val (.int p3), .val (.int p4), .val (.int (0 : Int32)), .val (.int (0 : Int32)), .val (.int (0 : Int32)), .val (.ref b5), .val (.ref b60), .val (.ref b115), .val (.ref b141), .val (.ref b141), .val (.int v13_168), .val (.int v14_170), .unset, .unset, .unset, .unset, .unset, .unset, .unset, .unset, .unset, .unset] [(.int (lonQ p2))])
          suffices Jv15_172 : ∀ v15_172 : Int32, v15_172 = (lonQ p2) → OWay p e below G T171 (mkF m 308 #[.val (.int p0), .val (.int p1), .val (.int p2), .val (.int p3), .val (.int p4), .val (.int (0 : Int32)), .val (.int (0 : Int32)), .val (.int (0 : Int32)), .val (.ref b5), .val (.ref b60), .val (.ref b115), .val (.ref b141), .val (.ref b141), .val (.int v13_168), .val (.int v14_170), .unset, .unset, .unset, .unset, .unset, .unset, .unset, .unset, .unset, .unset] [(.int v15_172)]) from Jv15_172 _ rfl
          intro v15_172 hv15_172
          refine ogo (fun _ z_ => XS.istore X171.here hx rfl (hb hby at_308) rfl (l' := #[.val (.int p0), .val (.int p1), .val (.int p2), .val (.int p3), .val (.int p4), .val (.int (0 : Int32)), .val (.int (0 : Int32)), .val (.int (0 : Int32)), .val (.ref b5), .val (.ref b60), .val (.ref b115), .val (.ref b141), .val (.ref b141), .val (.int v13_168), .val (.int v14_170), .val (.int v15_172), .unset, .unset, .unset, .unset, .unset, .unset, .unset, .unset, .unset]) rfl z_) ?_
          show OWay p e below G T171 (mkF m 310 #[.val (.int p0), .val (.int p1), .val (.int p2), .val (.int p3), .val (.int p4), .val (.int (0 : Int32)), .val (.int (0 : Int32)), .val (.int (0 : Int32)), .val (.ref b5), .val (.ref b60), .val (.ref b115), .val (.ref b141), .val (.ref b141), .val (.int v13_168), .val (.int v14_170), .val (.int v15_172), .unset, .unset, .unset, .unset, .unset, .unset, .unset, .unset, .unset] [])
          refine ogo (fun _ z_ => XS.iload X171.here hx rfl (hb hby at_310) rfl z_) ?_
          show OWay p e below G T171 (mkF m 312 #[.val (.int p0), .val (.int p1), .val (.int p2), .val (.int p3), .val (.int p4), .val (.int (0 : Int32)), .val (.int (0 : Int32)), .val (.int (0 : Int32)), .val (.ref b5), .val (.ref b60), .val (.ref b115), .val (.ref b141), .val (.ref b141), .val (.int v13_168), .val (.int v14_170), .val (.int v15_172), .unset, .unset, .unset, .unset, .unset, .unset, .unset, .unset, .unset] [(.int (0 : Int32))])
          refine ogo (fun _ z_ => XS.ifNo X171.here hx rfl (hb hby at_312) rfl ((if0 _ _).trans (teq rfl).2) z_) ?_
          show OWay p e below G T171 (mkF m 315 #[.val (.int p0), .val (.int p1), .val (.int p2), .val (.int p3), .val (.int p4), .val (.int (0 : Int32)), .val (.int (0 : Int32)), .val (.int (0 : Int32)), .val (.ref b5), .val (.ref b60), .val (.ref b115), .val (.ref b141), .val (.ref b141), .val (.int v13_168), .val (.int v14_170), .val (.int v15_172), .unset, .unset, .unset, .unset, .unset, .unset, .unset, .unset, .unset] [])
          refine ogo (fun _ z_ => XS.iloadN X171.here hx rfl (hb hby at_315) rfl z_) ?_
          show OWay p e below G T171 (mkF m 316 #[.val (.int p0), .val (.int p1), .val (.int p2), .val (.int p3), .val (.int p4), .val (.int (0 : Int32)), .val (.int (0 : Int32)), .val (.int (0 : Int32)), .val (.ref b5), .val (.ref b60), .val (.ref b115), .val (.ref b141), .val (.ref b141), .val (.int v13_168), .val (.int v14_170), .val (.int v15_172), .unset, .unset, .unset, .unset, .unset, .unset, .unset, .unset, .unset] [(.int p2)])
          obtain ⟨_, T173, L173, X173, hQ173, st173⟩ := wStatic X171 hx hZ (y := (⟨"com/example/wakeline/wakeline/similarity/CoordinatesSquaredDistancePinLaw", "latQ", "(I)I"⟩ : MethodName)) hown (hw _ (List.mem_of_getElem? (i := 35) rfl)) (hw _ (List.mem_of_getElem? (i := 36) rfl)) (hw _ (List.mem_of_getElem? (i := 31) rfl)) (hw _ (List.mem_of_getElem? (i := 37) rfl)) (by decide) (latQ_b_c l Z az hw [] p2 T153.heap n0 (Nat.le_trans (Nat.le_trans (Nat.le_trans (Nat.le_trans (Nat.le_trans (Nat.le_trans (Nat.le_trans (Nat.le_trans (Nat.le_trans (Nat.le_trans (Nat.le_trans (Nat.le_trans (Nat.le_trans (Nat.le_trans (Nat.le_trans (Nat.le_trans (Nat.le_trans (Nat.le_trans (Nat.le_trans (Nat.le_trans Z0 E5.1) Kq8.1) E13.1) Kq17.1) Kq28.1) E39.1) Kq43.1) Kq54.1) E60.1) Kq63.1) E68.1) Kq72.1) Kq83.1) E94.1) Kq98.1) Kq109.1) E115.1) Kq127.1) E141.1) Kq153.1)) 0 (by decide) (by decide) (g := (mkF m 316 #[.val (.int p0), .val (.int p1), .val (.int p2), .val (.int p3), .val (.int p4), .val (.int (0 : Int32)), .val (.int (0 : Int32)), .val (.int (0 : Int32)), .val (.ref b5), .val (.ref b60), .val (.ref b115), .val (.ref b141), .val (.ref b141), .val (.int v13_168), .val (.int v14_170), .val (.int v15_172), .unset, .unset, .unset, .unset, .unset, .unset, .unset, .unset, .unset] [(.int p2)])) rfl (by rw [hml]; rfl) (argsL := [(.int p2)]) (rest := []) (lenOf pd__I_I rfl) rfl (by show 2 * 0 + _ ≤ _; exact Nat.le_of_eq rfl) (hb hby at_316) rfl eq171 (by decide) (by decide)
          obtain ⟨rfl, N173q, eq173⟩ := hQ173
          have N173 := Fr.app N171 N173q
          refine ogo st173 ?_
          show OWay p e below G T173 (mkF m 319 #[.val (.int p0), .val (.int p1), .val (.int p2), .val (.int p3), .val (.int p4), .val (.int (0 : Int32)), .val (.int (0 : Int32)), .val (.int (0 : Int32)), .val (.ref b5), .val (.ref b60), .val (.ref b115), .val (.ref b141), .val (.ref b141), .val (.int v13_168), .val (.int v14_170), .val (.int v15_172), .unset, .unset, .unset, .unset, .unset, .unset, .unset, .unset, .unset] [(.int (latQ p2))])
          refine ogo (fun _ z_ => XS.goto X173.here hx rfl (pc0 := 319) (pc' := 326) rfl (hb hby at_319) (by decide) (by decide) z_) ?_
          show OWay p e below G T173 (mkF m 326 #[.val (.int p0), .val (.int p1), .val (.int p2), .val (.int p3), .val (.int p4), .val (.int (0 : Int32)), .val (.int (0 : Int32)), .val (.int (0 : Int32)), .val (.ref b5), .val (.ref b60), .val (.ref b115), .val (.ref b141), .val (.ref b141), .val (.int v13_168), .val (.int v14_170), .val (.int v15_172), .unset, .unset, .unset, .unset, .unset, .unset, .unset, .unset, .unset] [(.int (latQ p2))])
          suffices Jv16_174 : ∀ v16_174 : Int32, v16_174 = (latQ p2) → OWay p e below G T173 (mkF m 326 #[.val (.int p0), .val (.int p1), .val (.int p2), .val (.int p3), .val (.int p4), .val (.int (0 : Int32)), .val (.int (0 : Int32)), .val (.int (0 : Int32)), .val (.ref b5), .val (.ref b60), .val (.ref b115), .val (.ref b141), .val (.ref b141), .val (.int v13_168), .val (.int v14_170), .val (.int v15_172), .unset, .unset, .unset, .unset, .unset, .unset, .unset, .unset, .unset] [(.int v16_174)]) from Jv16_174 _ rfl
          intro v16_174 hv16_174
          refine ogo (fun _ z_ => XS.istore X173.here hx rfl (hb hby at_326) rfl (l' := #[.val (.int p0), .val (.int p1), .val (.int p2), .val (.int p3), .val (.int p4), .val (.int (0 : Int32)), .val (.int (0 : Int32)), .val (.int (0 : Int32)), .val (.ref b5), .val (.ref b60), .val (.ref b115), .val (.ref b141), .val (.ref b141), .val (.int v13_168), .val (.int v14_170), .val (.int v15_172), .val (.int v16_174), .unset, .unset, .unset, .unset, .unset, .unset, .unset, .unset]) rfl z_) ?_
          show OWay p e below G T173 (mkF m 328 #[.val (.int p0), .val (.int p1), .val (.int p2), .val (.int p3), .val (.int p4), .val (.int (0 : Int32)), .val (.int (0 : Int32)), .val (.int (0 : Int32)), .val (.ref b5), .val (.ref b60), .val (.ref b115), .val (.ref b141), .val (.ref b141), .val (.int v13_168), .val (.int v14_170), .val (.int v15_172), .val (.int v16_174), .unset, .unset, .unset, .unset, .unset, .unset, .unset, .unset] [])
          refine ogo (fun _ z_ => XS.iload X173.here hx rfl (hb hby at_328) rfl z_) ?_
          show OWay p e below G T173 (mkF m 330 #[.val (.int p0), .val (.int p1), .val (.int p2), .val (.int p3), .val (.int p4), .val (.int (0 : Int32)), .val (.int (0 : Int32)), .val (.int (0 : Int32)), .val (.ref b5), .val (.ref b60), .val (.ref b115), .val (.ref b141), .val (.ref b141), .val (.int v13_168), .val (.int v14_170), .val (.int v15_172), .val (.int v16_174), .unset, .unset, .unset, .unset, .unset, .unset, .unset, .unset] [(.int v13_168)])
          refine ogo (fun _ z_ => XS.i2l X173.here hx rfl (hb hby at_330) rfl z_) ?_
          show OWay p e below G T173 (mkF m 331 #[.val (.int p0), .val (.int p1), .val (.int p2), .val (.int p3), .val (.int p4), .val (.int (0 : Int32)), .val (.int (0 : Int32)), .val (.int (0 : Int32)), .val (.ref b5), .val (.ref b60), .val (.ref b115), .val (.ref b141), .val (.ref b141), .val (.int v13_168), .val (.int v14_170), .val (.int v15_172), .val (.int v16_174), .unset, .unset, .unset, .unset, .unset, .unset, .unset, .unset] [(.long (v13_168.toInt64))])
          refine ogo (fun _ z_ => XS.iload X173.here hx rfl (hb hby at_331) rfl z_) ?_
          show OWay p e below G T173 (mkF m 333 #[.val (.int p0), .val (.int p1), .val (.int p2), .val (.int p3), .val (.int p4), .val (.int (0 : Int32)), .val (.int (0 : Int32)), .val (.int (0 : Int32)), .val (.ref b5), .val (.ref b60), .val (.ref b115), .val (.ref b141), .val (.ref b141), .val (.int v13_168), .val (.int v14_170), .val (.int v15_172), .val (.int v16_174), .unset, .unset, .unset, .unset, .unset, .unset, .unset, .unset] [(.int v15_172), (.long (v13_168.toInt64))])
          refine ogo (fun _ z_ => XS.i2l X173.here hx rfl (hb hby at_333) rfl z_) ?_
          show OWay p e below G T173 (mkF m 334 #[.val (.int p0), .val (.int p1), .val (.int p2), .val (.int p3), .val (.int p4), .val (.int (0 : Int32)), .val (.int (0 : Int32)), .val (.int (0 : Int32)), .val (.ref b5), .val (.ref b60), .val (.ref b115), .val (.ref b141), .val (.ref b141), .val (.int v13_168), .val (.int v14_170), .val (.int v15_172), .val (.int v16_174), .unset, .unset, .unset, .unset, .unset, .unset, .unset, .unset] [(.long (v15_172.toInt64)), (.long (v13_168.toInt64))])
          refine ogo (fun _ z_ => XS.lsub X173.here hx rfl (hb hby at_334) rfl z_) ?_
          show OWay p e below G T173 (mkF m 335 #[.val (.int p0), .val (.int p1), .val (.int p2), .val (.int p3), .val (.int p4), .val (.int (0 : Int32)), .val (.int (0 : Int32)), .val (.int (0 : Int32)), .val (.ref b5), .val (.ref b60), .val (.ref b115), .val (.ref b141), .val (.ref b141), .val (.int v13_168), .val (.int v14_170), .val (.int v15_172), .val (.int v16_174), .unset, .unset, .unset, .unset, .unset, .unset, .unset, .unset] [(.long ((v13_168.toInt64) - (v15_172.toInt64)))])
          suffices Jv17_175 : ∀ v17_175 : Int64, v17_175 = ((v13_168.toInt64) - (v15_172.toInt64)) → OWay p e below G T173 (mkF m 335 #[.val (.int p0), .val (.int p1), .val (.int p2), .val (.int p3), .val (.int p4), .val (.int (0 : Int32)), .val (.int (0 : Int32)), .val (.int (0 : Int32)), .val (.ref b5), .val (.ref b60), .val (.ref b115), .val (.ref b141), .val (.ref b141), .val (.int v13_168), .val (.int v14_170), .val (.int v15_172), .val (.int v16_174), .unset, .unset, .unset, .unset, .unset, .unset, .unset, .unset] [(.long v17_175)]) from Jv17_175 _ rfl
          intro v17_175 hv17_175
          refine ogo (fun _ z_ => XS.lstore X173.here hx rfl (hb hby at_335) rfl (l' := #[.val (.int p0), .val (.int p1), .val (.int p2), .val (.int p3), .val (.int p4), .val (.int (0 : Int32)), .val (.int (0 : Int32)), .val (.int (0 : Int32)), .val (.ref b5), .val (.ref b60), .val (.ref b115), .val (.ref b141), .val (.ref b141), .val (.int v13_168), .val (.int v14_170), .val (.int v15_172), .val (.int v16_174), .val (.long v17_175), .second, .unset, .unset, .unset, .unset, .unset, .unset]) rfl z_) ?_
          show OWay p e below G T173 (mkF m 337 #[.val (.int p0), .val (.int p1), .val (.int p2), .val (.int p3), .val (.int p4), .val (.int (0 : Int32)), .val (.int (0 : Int32)), .val (.int (0 : Int32)), .val (.ref b5), .val (.ref b60), .val (.ref b115), .val (.ref b141), .val (.ref b141), .val (.int v13_168), .val (.int v14_170), .val (.int v15_172), .val (.int v16_174), .val (.long v17_175), .second, .unset, .unset, .unset, .unset, .unset, .unset] [])
          refine ogo (fun _ z_ => XS.iload X173.here hx rfl (hb hby at_337) rfl z_) ?_
          show OWay p e below G T173 (mkF m 339 #[.val (.int p0), .val (.int p1), .val (.int p2), .val (.int p3), .val (.int p4), .val (.int (0 : Int32)), .val (.int (0 : Int32)), .val (.int (0 : Int32)), .val (.ref b5), .val (.ref b60), .val (.ref b115), .val (.ref b141), .val (.ref b141), .val (.int v13_168), .val (.int v14_170), .val (.int v15_172), .val (.int v16_174), .val (.long v17_175), .second, .unset, .unset, .unset, .unset, .unset, .unset] [(.int v14_170)])
          refine ogo (fun _ z_ => XS.i2l X173.here hx rfl (hb hby at_339) rfl z_) ?_
          show OWay p e below G T173 (mkF m 340 #[.val (.int p0), .val (.int p1), .val (.int p2), .val (.int p3), .val (.int p4), .val (.int (0 : Int32)), .val (.int (0 : Int32)), .val (.int (0 : Int32)), .val (.ref b5), .val (.ref b60), .val (.ref b115), .val (.ref b141), .val (.ref b141), .val (.int v13_168), .val (.int v14_170), .val (.int v15_172), .val (.int v16_174), .val (.long v17_175), .second, .unset, .unset, .unset, .unset, .unset, .unset] [(.long (v14_170.toInt64))])
          refine ogo (fun _ z_ => XS.iload X173.here hx rfl (hb hby at_340) rfl z_) ?_
          show OWay p e below G T173 (mkF m 342 #[.val (.int p0), .val (.int p1), .val (.int p2), .val (.int p3), .val (.int p4), .val (.int (0 : Int32)), .val (.int (0 : Int32)), .val (.int (0 : Int32)), .val (.ref b5), .val (.ref b60), .val (.ref b115), .val (.ref b141), .val (.ref b141), .val (.int v13_168), .val (.int v14_170), .val (.int v15_172), .val (.int v16_174), .val (.long v17_175), .second, .unset, .unset, .unset, .unset, .unset, .unset] [(.int v16_174), (.long (v14_170.toInt64))])
          refine ogo (fun _ z_ => XS.i2l X173.here hx rfl (hb hby at_342) rfl z_) ?_
          show OWay p e below G T173 (mkF m 343 #[.val (.int p0), .val (.int p1), .val (.int p2), .val (.int p3), .val (.int p4), .val (.int (0 : Int32)), .val (.int (0 : Int32)), .val (.int (0 : Int32)), .val (.ref b5), .val (.ref b60), .val (.ref b115), .val (.ref b141), .val (.ref b141), .val (.int v13_168), .val (.int v14_170), .val (.int v15_172), .val (.int v16_174), .val (.long v17_175), .second, .unset, .unset, .unset, .unset, .unset, .unset] [(.long (v16_174.toInt64)), (.long (v14_170.toInt64))])
          refine ogo (fun _ z_ => XS.lsub X173.here hx rfl (hb hby at_343) rfl z_) ?_
          show OWay p e below G T173 (mkF m 344 #[.val (.int p0), .val (.int p1), .val (.int p2), .val (.int p3), .val (.int p4), .val (.int (0 : Int32)), .val (.int (0 : Int32)), .val (.int (0 : Int32)), .val (.ref b5), .val (.ref b60), .val (.ref b115), .val (.ref b141), .val (.ref b141), .val (.int v13_168), .val (.int v14_170), .val (.int v15_172), .val (.int v16_174), .val (.long v17_175), .second, .unset, .unset, .unset, .unset, .unset, .unset] [(.long ((v14_170.toInt64) - (v16_174.toInt64)))])
          suffices Jv19_176 : ∀ v19_176 : Int64, v19_176 = ((v14_170.toInt64) - (v16_174.toInt64)) → OWay p e below G T173 (mkF m 344 #[.val (.int p0), .val (.int p1), .val (.int p2), .val (.int p3), .val (.int p4), .val (.int (0 : Int32)), .val (.int (0 : Int32)), .val (.int (0 : Int32)), .val (.ref b5), .val (.ref b60), .val (.ref b115), .val (.ref b141), .val (.ref b141), .val (.int v13_168), .val (.int v14_170), .val (.int v15_172), .val (.int v16_174), .val (.long v17_175), .second, .unset, .unset, .unset, .unset, .unset, .unset] [(.long v19_176)]) from Jv19_176 _ rfl
          intro v19_176 hv19_176
          refine ogo (fun _ z_ => XS.lstore X173.here hx rfl (hb hby at_344) rfl (l' := #[.val (.int p0), .val (.int p1), .val (.int p2), .val (.int p3), .val (.int p4), .val (.int (0 : Int32)), .val (.int (0 : Int32)), .val (.int (0 : Int32)), .val (.ref b5), .val (.ref b60), .val (.ref b115), .val (.ref b141), .val (.ref b141), .val (.int v13_168), .val (.int v14_170), .val (.int v15_172), .val (.int v16_174), .val (.long v17_175), .second, .val (.long v19_176), .second, .unset, .unset, .unset, .unset]) rfl z_) ?_
          show OWay p e below G T173 (mkF m 346 #[.val (.int p0), .val (.int p1), .val (.int p2), .val (.int p3), .val (.int p4), .val (.int (0 : Int32)), .val (.int (0 : Int32)), .val (.int (0 : Int32)), .val (.ref b5), .val (.ref b60), .val (.ref b115), .val (.ref b141), .val (.ref b141), .val (.int v13_168), .val (.int v14_170), .val (.int v15_172), .val (.int v16_174), .val (.long v17_175), .second, .val (.long v19_176), .second, .unset, .unset, .unset, .unset] [])
          refine ogo (fun _ z_ => XS.lload X173.here hx rfl (hb hby at_346) rfl z_) ?_
          show OWay p e below G T173 (mkF m 348 #[.val (.int p0), .val (.int p1), .val (.int p2), .val (.int p3), .val (.int p4), .val (.int (0 : Int32)), .val (.int (0 : Int32)), .val (.int (0 : Int32)), .val (.ref b5), .val (.ref b60), .val (.ref b115), .val (.ref b141), .val (.ref b141), .val (.int v13_168), .val (.int v14_170), .val (.int v15_172), .val (.int v16_174), .val (.long v17_175), .second, .val (.long v19_176), .second, .unset, .unset, .unset, .unset] [(.long v17_175)])
          refine ogo (fun _ z_ => XS.lload X173.here hx rfl (hb hby at_348) rfl z_) ?_
          show OWay p e below G T173 (mkF m 350 #[.val (.int p0), .val (.int p1), .val (.int p2), .val (.int p3), .val (.int p4), .val (.int (0 : Int32)), .val (.int (0 : Int32)), .val (.int (0 : Int32)), .val (.ref b5), .val (.ref b60), .val (.ref b115), .val (.ref b141), .val (.ref b141), .val (.int v13_168), .val (.int v14_170), .val (.int v15_172), .val (.int v16_174), .val (.long v17_175), .second, .val (.long v19_176), .second, .unset, .unset, .unset, .unset] [(.long v17_175), (.long v17_175)])
          refine ogo (fun _ z_ => XS.lmul X173.here hx rfl (hb hby at_350) rfl z_) ?_
          show OWay p e below G T173 (mkF m 351 #[.val (.int p0), .val (.int p1), .val (.int p2), .val (.int p3), .val (.int p4), .val (.int (0 : Int32)), .val (.int (0 : Int32)), .val (.int (0 : Int32)), .val (.ref b5), .val (.ref b60), .val (.ref b115), .val (.ref b141), .val (.ref b141), .val (.int v13_168), .val (.int v14_170), .val (.int v15_172), .val (.int v16_174), .val (.long v17_175), .second, .val (.long v19_176), .second, .unset, .unset, .unset, .unset] [(.long (v17_175 * v17_175))])
          refine ogo (fun _ z_ => XS.lload X173.here hx rfl (hb hby at_351) rfl z_) ?_
          show OWay p e below G T173 (mkF m 353 #[.val (.int p0), .val (.int p1), .val (.int p2), .val (.int p3), .val (.int p4), .val (.int (0 : Int32)), .val (.int (0 : Int32)), .val (.int (0 : Int32)), .val (.ref b5), .val (.ref b60), .val (.ref b115), .val (.ref b141), .val (.ref b141), .val (.int v13_168), .val (.int v14_170), .val (.int v15_172), .val (.int v16_174), .val (.long v17_175), .second, .val (.long v19_176), .second, .unset, .unset, .unset, .unset] [(.long v19_176), (.long (v17_175 * v17_175))])
          refine ogo (fun _ z_ => XS.lload X173.here hx rfl (hb hby at_353) rfl z_) ?_
          show OWay p e below G T173 (mkF m 355 #[.val (.int p0), .val (.int p1), .val (.int p2), .val (.int p3), .val (.int p4), .val (.int (0 : Int32)), .val (.int (0 : Int32)), .val (.int (0 : Int32)), .val (.ref b5), .val (.ref b60), .val (.ref b115), .val (.ref b141), .val (.ref b141), .val (.int v13_168), .val (.int v14_170), .val (.int v15_172), .val (.int v16_174), .val (.long v17_175), .second, .val (.long v19_176), .second, .unset, .unset, .unset, .unset] [(.long v19_176), (.long v19_176), (.long (v17_175 * v17_175))])
          refine ogo (fun _ z_ => XS.lmul X173.here hx rfl (hb hby at_355) rfl z_) ?_
          show OWay p e below G T173 (mkF m 356 #[.val (.int p0), .val (.int p1), .val (.int p2), .val (.int p3), .val (.int p4), .val (.int (0 : Int32)), .val (.int (0 : Int32)), .val (.int (0 : Int32)), .val (.ref b5), .val (.ref b60), .val (.ref b115), .val (.ref b141), .val (.ref b141), .val (.int v13_168), .val (.int v14_170), .val (.int v15_172), .val (.int v16_174), .val (.long v17_175), .second, .val (.long v19_176), .second, .unset, .unset, .unset, .unset] [(.long (v19_176 * v19_176)), (.long (v17_175 * v17_175))])
          refine ogo (fun _ z_ => XS.ladd X173.here hx rfl (hb hby at_356) rfl z_) ?_
          show OWay p e below G T173 (mkF m 357 #[.val (.int p0), .val (.int p1), .val (.int p2), .val (.int p3), .val (.int p4), .val (.int (0 : Int32)), .val (.int (0 : Int32)), .val (.int (0 : Int32)), .val (.ref b5), .val (.ref b60), .val (.ref b115), .val (.ref b141), .val (.ref b141), .val (.int v13_168), .val (.int v14_170), .val (.int v15_172), .val (.int v16_174), .val (.long v17_175), .second, .val (.long v19_176), .second, .unset, .unset, .unset, .unset] [(.long ((v17_175 * v17_175) + (v19_176 * v19_176)))])
          suffices Jv21_177 : ∀ v21_177 : Int64, v21_177 = ((v17_175 * v17_175) + (v19_176 * v19_176)) → OWay p e below G T173 (mkF m 357 #[.val (.int p0), .val (.int p1), .val (.int p2), .val (.int p3), .val (.int p4), .val (.int (0 : Int32)), .val (.int (0 : Int32)), .val (.int (0 : Int32)), .val (.ref b5), .val (.ref b60), .val (.ref b115), .val (.ref b141), .val (.ref b141), .val (.int v13_168), .val (.int v14_170), .val (.int v15_172), .val (.int v16_174), .val (.long v17_175), .second, .val (.long v19_176), .second, .unset, .unset, .unset, .unset] [(.long v21_177)]) from Jv21_177 _ rfl
          intro v21_177 hv21_177
          refine ogo (fun _ z_ => XS.lstore X173.here hx rfl (hb hby at_357) rfl (l' := #[.val (.int p0), .val (.int p1), .val (.int p2), .val (.int p3), .val (.int p4), .val (.int (0 : Int32)), .val (.int (0 : Int32)), .val (.int (0 : Int32)), .val (.ref b5), .val (.ref b60), .val (.ref b115), .val (.ref b141), .val (.ref b141), .val (.int v13_168), .val (.int v14_170), .val (.int v15_172), .val (.int v16_174), .val (.long v17_175), .second, .val (.long v19_176), .second, .val (.long v21_177), .second, .unset, .unset]) rfl z_) ?_
          show OWay p e below G T173 (mkF m 359 #[.val (.int p0), .val (.int p1), .val (.int p2), .val (.int p3), .val (.int p4), .val (.int (0 : Int32)), .val (.int (0 : Int32)), .val (.int (0 : Int32)), .val (.ref b5), .val (.ref b60), .val (.ref b115), .val (.ref b141), .val (.ref b141), .val (.int v13_168), .val (.int v14_170), .val (.int v15_172), .val (.int v16_174), .val (.long v17_175), .second, .val (.long v19_176), .second, .val (.long v21_177), .second, .unset, .unset] [])
          refine ogo (fun _ z_ => XS.aload X173.here hx rfl (hb hby at_359) rfl rfl z_) ?_
          show OWay p e below G T173 (mkF m 361 #[.val (.int p0), .val (.int p1), .val (.int p2), .val (.int p3), .val (.int p4), .val (.int (0 : Int32)), .val (.int (0 : Int32)), .val (.int (0 : Int32)), .val (.ref b5), .val (.ref b60), .val (.ref b115), .val (.ref b141), .val (.ref b141), .val (.int v13_168), .val (.int v14_170), .val (.int v15_172), .val (.int v16_174), .val (.long v17_175), .second, .val (.long v19_176), .second, .val (.long v21_177), .second, .unset, .unset] [(.ref b115)])
          refine ogo (fun _ z_ => XS.iload X173.here hx rfl (hb hby at_361) rfl z_) ?_
          show OWay p e below G T173 (mkF m 363 #[.val (.int p0), .val (.int p1), .val (.int p2), .val (.int p3), .val (.int p4), .val (.int (0 : Int32)), .val (.int (0 : Int32)), .val (.int (0 : Int32)), .val (.ref b5), .val (.ref b60), .val (.ref b115), .val (.ref b141), .val (.ref b141), .val (.int v13_168), .val (.int v14_170), .val (.int v15_172), .val (.int v16_174), .val (.long v17_175), .second, .val (.long v19_176), .second, .val (.long v21_177), .second, .unset, .unset] [(.int (0 : Int32)), (.ref b115)])
          refine ogo (fun _ z_ => XS.aload X173.here hx rfl (hb hby at_363) rfl rfl z_) ?_
          show OWay p e below G T173 (mkF m 365 #[.val (.int p0), .val (.int p1), .val (.int p2), .val (.int p3), .val (.int p4), .val (.int (0 : Int32)), .val (.int (0 : Int32)), .val (.int (0 : Int32)), .val (.ref b5), .val (.ref b60), .val (.ref b115), .val (.ref b141), .val (.ref b141), .val (.int v13_168), .val (.int v14_170), .val (.int v15_172), .val (.int v16_174), .val (.long v17_175), .second, .val (.long v19_176), .second, .val (.long v21_177), .second, .unset, .unset] [(.ref b141), (.int (0 : Int32)), (.ref b115)])
          refine ogo (fun _ z_ => XS.iload X173.here hx rfl (hb hby at_365) rfl z_) ?_
          show OWay p e below G T173 (mkF m 367 #[.val (.int p0), .val (.int p1), .val (.int p2), .val (.int p3), .val (.int p4), .val (.int (0 : Int32)), .val (.int (0 : Int32)), .val (.int (0 : Int32)), .val (.ref b5), .val (.ref b60), .val (.ref b115), .val (.ref b141), .val (.ref b141), .val (.int v13_168), .val (.int v14_170), .val (.int v15_172), .val (.int v16_174), .val (.long v17_175), .second, .val (.long v19_176), .second, .val (.long v21_177), .second, .unset, .unset] [(.int (0 : Int32)), (.ref b141), (.int (0 : Int32)), (.ref b115)])
          have F178 : Fld Z T153.heap b115 "com/example/wakeline/wakeline/similarity/Coordinates" "longitudes" "[D" (.ref lo_128) := ((P138.ext E141).keep Kq153 (ninS (Nat.ne_of_lt (Nat.lt_of_lt_of_le P138.lt (Nat.le_of_eq g141.symm))) nin0))
          have F179 : Fld Z T153.heap b115 "com/example/wakeline/wakeline/similarity/Coordinates" "latitudes" "[D" (.ref la_129) := ((P139.ext E141).keep Kq153 (ninS (Nat.ne_of_lt (Nat.lt_of_lt_of_le P139.lt (Nat.le_of_eq g141.symm))) nin0))
          have F180 : Arv Z T153.heap lo_128 kl_130 .double (2 : Int32) [(.double (FP.ddiv (FP.i2d (lonQ p0)) (4616189618054758400 : UInt64))), (.double (FP.ddiv (FP.i2d (lonQ p1)) (4616189618054758400 : UInt64)))] (.double (0 : UInt64)) := ((P136.ext E141).keep Kq153 (ninS (Nat.ne_of_lt (Nat.lt_of_lt_of_le P136.lt (Nat.le_of_eq g141.symm))) nin0))
          have F181 : Arv Z T153.heap la_129 ka_131 .double (2 : Int32) [(.double (FP.ddiv (FP.i2d (latQ p0)) (4616189618054758400 : UInt64))), (.double (FP.ddiv (FP.i2d (latQ p1)) (4616189618054758400 : UInt64)))] (.double (0 : UInt64)) := ((P137.ext E141).keep Kq153 (ninS (Nat.ne_of_lt (Nat.lt_of_lt_of_le P137.lt (Nat.le_of_eq g141.symm))) nin0))
          have F183 : Exa Z T153.heap b115 "com/example/wakeline/wakeline/similarity/Coordinates" := (((A115.keep Kq127).ext E141).keep Kq153)
          obtain ⟨_, T182, L182, X182, hQ182, st182⟩ := wVirtual X173 hx hZ (y := (⟨"com/example/wakeline/wakeline/similarity/Coordinates", "squaredDistance", "(ILcom/example/wakeline/wakeline/similarity/Coordinates;I)D"⟩ : MethodName)) (z := (⟨"com/example/wakeline/wakeline/similarity/Coordinates", "squaredDistance", "(ILcom/example/wakeline/wakeline/similarity/Coordinates;I)D"⟩ : MethodName)) hown (hw _ (List.mem_of_getElem? (i := 142) rfl)) (hw _ (List.mem_of_getElem? (i := 143) rfl)) (notFace_of_selects (args := #[]) (mvT hZ (hw _ (List.mem_of_getElem? (i := 145) rfl)))) (hw _ (List.mem_of_getElem? (i := 145) rfl)) (hw _ (List.mem_of_getElem? (i := 144) rfl)) (hw _ (List.mem_of_getElem? (i := 90) rfl)) (hw _ (List.mem_of_getElem? (i := 146) rfl)) (by decide) (sd00_c l Z az hw [] b115 b141 lo_128 la_129 kl_130 ka_131 lo_154 la_155 kl_156 ka_157 (FP.ddiv (FP.i2d (lonQ p0)) (4616189618054758400 : UInt64)) (FP.ddiv (FP.i2d (lonQ p1)) (4616189618054758400 : UInt64)) (FP.ddiv (FP.i2d (latQ p0)) (4616189618054758400 : UInt64)) (FP.ddiv (FP.i2d (latQ p1)) (4616189618054758400 : UInt64)) (FP.ddiv (FP.i2d (lonQ p2)) (4616189618054758400 : UInt64)) (FP.ddiv (FP.i2d (lonQ p3)) (4616189618054758400 : UInt64)) (FP.ddiv (FP.i2d (latQ p2)) (4616189618054758400 : UInt64)) (FP.ddiv (FP.i2d (latQ p3)) (4616189618054758400 : UInt64)) (lonQ p0).toInt (lonQ p2).toInt (latQ p0).toInt (latQ p2).toInt T153.heap n0 (Nat.le_trans (Nat.le_trans (Nat.le_trans (Nat.le_trans (Nat.le_trans (Nat.le_trans (Nat.le_trans (Nat.le_trans (Nat.le_trans (Nat.le_trans (Nat.le_trans (Nat.le_trans (Nat.le_trans (Nat.le_trans (Nat.le_trans (Nat.le_trans (Nat.le_trans (Nat.le_trans (Nat.le_trans (Nat.le_trans Z0 E5.1) Kq8.1) E13.1) Kq17.1) Kq28.1) E39.1) Kq43.1) Kq54.1) E60.1) Kq63.1) E68.1) Kq72.1) Kq83.1) E94.1) Kq98.1) Kq109.1) E115.1) Kq127.1) E141.1) Kq153.1) F178 F179 F180 F181 P164 P165 P162 P163 (own_q4 (lonQ p0)) (own_q4 (lonQ p2)) (own_q4 (latQ p0)) (own_q4 (latQ p2)) (own_lon p0) (own_lon p2) (own_lat7 p0) (own_lat7 p2)) 0 (by decide) (by decide) F183 (g := (mkF m 367 #[.val (.int p0), .val (.int p1), .val (.int p2), .val (.int p3), .val (.int p4), .val (.int (0 : Int32)), .val (.int (0 : Int32)), .val (.int (0 : Int32)), .val (.ref b5), .val (.ref b60), .val (.ref b115), .val (.ref b141), .val (.ref b141), .val (.int v13_168), .val (.int v14_170), .val (.int v15_172), .val (.int v16_174), .val (.long v17_175), .second, .val (.long v19_176), .second, .val (.long v21_177), .second, .unset, .unset] [(.int (0 : Int32)), (.ref b141), (.int (0 : Int32)), (.ref b115)])) rfl (by rw [hml]; rfl) (argsL := [(.int (0 : Int32)), (.ref b141), (.int (0 : Int32))]) (rest := []) (lenOf pd__ILcom_example_wakeline_wakeline_similarity_Coordinates_I_D rfl) rfl (by show 2 * 0 + _ ≤ _; exact Nat.le_of_eq rfl) (hb hby at_367) rfl eq173 (by decide) (by decide)
          obtain ⟨dr_184, rfl, N182q, eq182, dx_185⟩ := hQ182
          have N182 := Fr.app N173 N182q
          refine ogoS st182 ?_
          show OWay p e below G T182 (mkF m 370 #[.val (.int p0), .val (.int p1), .val (.int p2), .val (.int p3), .val (.int p4), .val (.int (0 : Int32)), .val (.int (0 : Int32)), .val (.int (0 : Int32)), .val (.ref b5), .val (.ref b60), .val (.ref b115), .val (.ref b141), .val (.ref b141), .val (.int v13_168), .val (.int v14_170), .val (.int v15_172), .val (.int v16_174), .val (.long v17_175), .second, .val (.long v19_176), .second, .val (.long v21_177), .second, .unset, .unset] [(.double dr_184)])
          refine ogo (fun _ z_ => XS.dstore X182.here hx rfl (hb hby at_370) rfl (l' := #[.val (.int p0), .val (.int p1), .val (.int p2), .val (.int p3), .val (.int p4), .val (.int (0 : Int32)), .val (.int (0 : Int32)), .val (.int (0 : Int32)), .val (.ref b5), .val (.ref b60), .val (.ref b115), .val (.ref b141), .val (.ref b141), .val (.int v13_168), .val (.int v14_170), .val (.int v15_172), .val (.int v16_174), .val (.long v17_175), .second, .val (.long v19_176), .second, .val (.long v21_177), .second, .val (.double dr_184), .second]) rfl z_) ?_
          show OWay p e below G T182 (mkF m 372 #[.val (.int p0), .val (.int p1), .val (.int p2), .val (.int p3), .val (.int p4), .val (.int (0 : Int32)), .val (.int (0 : Int32)), .val (.int (0 : Int32)), .val (.ref b5), .val (.ref b60), .val (.ref b115), .val (.ref b141), .val (.ref b141), .val (.int v13_168), .val (.int v14_170), .val (.int v15_172), .val (.int v16_174), .val (.long v17_175), .second, .val (.long v19_176), .second, .val (.long v21_177), .second, .val (.double dr_184), .second] [])
          refine ogo (fun _ z_ => XS.dload X182.here hx rfl (hb hby at_372) rfl z_) ?_
          show OWay p e below G T182 (mkF m 374 #[.val (.int p0), .val (.int p1), .val (.int p2), .val (.int p3), .val (.int p4), .val (.int (0 : Int32)), .val (.int (0 : Int32)), .val (.int (0 : Int32)), .val (.ref b5), .val (.ref b60), .val (.ref b115), .val (.ref b141), .val (.ref b141), .val (.int v13_168), .val (.int v14_170), .val (.int v15_172), .val (.int v16_174), .val (.long v17_175), .second, .val (.long v19_176), .second, .val (.long v21_177), .second, .val (.double dr_184), .second] [(.double dr_184)])
          have q17 := own_dl v13_168 v15_172 (lonQ p0).toInt (lonQ p2).toInt v17_175 (by rw [hv13_168]) (by rw [hv15_172]) (own_lon p0) (own_lon p2) hv17_175
          have q19 := own_dl v14_170 v16_174 (latQ p0).toInt (latQ p2).toInt v19_176 (by rw [hv14_170]) (by rw [hv16_174]) (own_lat7 p0) (own_lat7 p2) hv19_176
          have r1 := own_lon p0
          have r2 := own_lon p2
          have r3 := own_lat7 p0
          have r4 := own_lat7 p2
          have s1 := own_sq ((lonQ p0).toInt - (lonQ p2).toInt) (by omega) (by omega)
          have s2 := own_sq ((latQ p0).toInt - (latQ p2).toInt) (by omega) (by omega)
          have q21 := own_rf v17_175 v19_176 v21_177 _ _ q17 q19 s1 s2 hv21_177
          have D16 := own_q16 v21_177 (by rw [q21]; omega)
          refine ogo (fun _ z_ => XS.lload X182.here hx rfl (hb hby at_374) rfl z_) ?_
          show OWay p e below G T182 (mkF m 376 #[.val (.int p0), .val (.int p1), .val (.int p2), .val (.int p3), .val (.int p4), .val (.int (0 : Int32)), .val (.int (0 : Int32)), .val (.int (0 : Int32)), .val (.ref b5), .val (.ref b60), .val (.ref b115), .val (.ref b141), .val (.ref b141), .val (.int v13_168), .val (.int v14_170), .val (.int v15_172), .val (.int v16_174), .val (.long v17_175), .second, .val (.long v19_176), .second, .val (.long v21_177), .second, .val (.double dr_184), .second] [(.long v21_177), (.double dr_184)])
          refine ogo (fun _ z_ => XS.l2dS X182.here hx rfl (hb hby at_376) rfl rfl z_) ?_
          show OWay p e below G T182 (mkF m 377 #[.val (.int p0), .val (.int p1), .val (.int p2), .val (.int p3), .val (.int p4), .val (.int (0 : Int32)), .val (.int (0 : Int32)), .val (.int (0 : Int32)), .val (.ref b5), .val (.ref b60), .val (.ref b115), .val (.ref b141), .val (.ref b141), .val (.int v13_168), .val (.int v14_170), .val (.int v15_172), .val (.int v16_174), .val (.long v17_175), .second, .val (.long v19_176), .second, .val (.long v21_177), .second, .val (.double dr_184), .second] [(.double (FP.l2d v21_177)), (.double dr_184)])
          refine ogo (fun _ z_ => X182.ldc2DoubleC hx hown (mvT hZ (hw _ (List.mem_of_getElem? (i := 147) rfl))) (g := (mkF m 377 #[.val (.int p0), .val (.int p1), .val (.int p2), .val (.int p3), .val (.int p4), .val (.int (0 : Int32)), .val (.int (0 : Int32)), .val (.int (0 : Int32)), .val (.ref b5), .val (.ref b60), .val (.ref b115), .val (.ref b141), .val (.ref b141), .val (.int v13_168), .val (.int v14_170), .val (.int v15_172), .val (.int v16_174), .val (.long v17_175), .second, .val (.long v19_176), .second, .val (.long v21_177), .second, .val (.double dr_184), .second] [(.double (FP.l2d v21_177)), (.double dr_184)])) rfl (hb hby at_377) _ z_) ?_
          show OWay p e below G T182 (mkF m 380 #[.val (.int p0), .val (.int p1), .val (.int p2), .val (.int p3), .val (.int p4), .val (.int (0 : Int32)), .val (.int (0 : Int32)), .val (.int (0 : Int32)), .val (.ref b5), .val (.ref b60), .val (.ref b115), .val (.ref b141), .val (.ref b141), .val (.int v13_168), .val (.int v14_170), .val (.int v15_172), .val (.int v16_174), .val (.long v17_175), .second, .val (.long v19_176), .second, .val (.long v21_177), .second, .val (.double dr_184), .second] [(.double (4625196817309499392 : UInt64)), (.double (FP.l2d v21_177)), (.double dr_184)])
          refine ogo (fun _ z_ => XS.ddivS X182.here hx rfl (hb hby at_380) rfl (dy_nn D16) rfl z_) ?_
          show OWay p e below G T182 (mkF m 381 #[.val (.int p0), .val (.int p1), .val (.int p2), .val (.int p3), .val (.int p4), .val (.int (0 : Int32)), .val (.int (0 : Int32)), .val (.int (0 : Int32)), .val (.ref b5), .val (.ref b60), .val (.ref b115), .val (.ref b141), .val (.ref b141), .val (.int v13_168), .val (.int v14_170), .val (.int v15_172), .val (.int v16_174), .val (.long v17_175), .second, .val (.long v19_176), .second, .val (.long v21_177), .second, .val (.double dr_184), .second] [(.double (FP.ddiv (FP.l2d v21_177) (4625196817309499392 : UInt64))), (.double dr_184)])
          refine ogo (fun _ z_ => XS.dcmpS X182.here hx rfl (hb hby at_381) rfl rfl z_) ?_
          show OWay p e below G T182 (mkF m 382 #[.val (.int p0), .val (.int p1), .val (.int p2), .val (.int p3), .val (.int p4), .val (.int (0 : Int32)), .val (.int (0 : Int32)), .val (.int (0 : Int32)), .val (.ref b5), .val (.ref b60), .val (.ref b115), .val (.ref b141), .val (.ref b141), .val (.int v13_168), .val (.int v14_170), .val (.int v15_172), .val (.int v16_174), .val (.long v17_175), .second, .val (.long v19_176), .second, .val (.long v21_177), .second, .val (.double dr_184), .second] [(.int (cmpValue (FP.dcmp dr_184 (FP.ddiv (FP.l2d v21_177) (4625196817309499392 : UInt64))) .l))])
          refine ogo (fun _ z_ => XS.ifNo X182.here hx rfl (hb hby at_382) rfl ((if0 _ _).trans (teq (own_eq dx_185 (q21 ▸ D16))).2) z_) ?_
          show OWay p e below G T182 (mkF m 385 #[.val (.int p0), .val (.int p1), .val (.int p2), .val (.int p3), .val (.int p4), .val (.int (0 : Int32)), .val (.int (0 : Int32)), .val (.int (0 : Int32)), .val (.ref b5), .val (.ref b60), .val (.ref b115), .val (.ref b141), .val (.ref b141), .val (.int v13_168), .val (.int v14_170), .val (.int v15_172), .val (.int v16_174), .val (.long v17_175), .second, .val (.long v19_176), .second, .val (.long v21_177), .second, .val (.double dr_184), .second] [])
          refine ogo (fun _ z_ => XS.iconst X182.here hx rfl (hb hby at_385) z_) ?_
          show OWay p e below G T182 (mkF m 386 #[.val (.int p0), .val (.int p1), .val (.int p2), .val (.int p3), .val (.int p4), .val (.int (0 : Int32)), .val (.int (0 : Int32)), .val (.int (0 : Int32)), .val (.ref b5), .val (.ref b60), .val (.ref b115), .val (.ref b141), .val (.ref b141), .val (.int v13_168), .val (.int v14_170), .val (.int v15_172), .val (.int v16_174), .val (.long v17_175), .second, .val (.long v19_176), .second, .val (.long v21_177), .second, .val (.double dr_184), .second] [(.int (1 : Int32))])
          refine ogo (fun _ z_ => XS.goto X182.here hx rfl (pc0 := 386) (pc' := 390) rfl (hb hby at_386) (by decide) (by decide) z_) ?_
          show OWay p e below G T182 (mkF m 390 #[.val (.int p0), .val (.int p1), .val (.int p2), .val (.int p3), .val (.int p4), .val (.int (0 : Int32)), .val (.int (0 : Int32)), .val (.int (0 : Int32)), .val (.ref b5), .val (.ref b60), .val (.ref b115), .val (.ref b141), .val (.ref b141), .val (.int v13_168), .val (.int v14_170), .val (.int v15_172), .val (.int v16_174), .val (.long v17_175), .second, .val (.long v19_176), .second, .val (.long v21_177), .second, .val (.double dr_184), .second] [(.int (1 : Int32))])
          subst hG
          refine wRetN X182 hx (t := .boolean) hret hlk (by simp) (hb hby at_390) (by decide) (by decide) eq182 ?_
          exact ⟨rfl, N182⟩
        · show OWay p e below G T167 (mkF m 230 #[.val (.int p0), .val (.int p1), .val (.int p2), .val (.int p3), .val (.int p4), .val (.int (0 : Int32)), .val (.int (1 : Int32)), .val (.int (0 : Int32)), .val (.ref b5), .val (.ref b60), .val (.ref b115), .val (.ref b141), .val (.ref b141), .val (.int v13_168), .unset, .unset, .unset, .unset, .unset, .unset, .unset, .unset, .unset, .unset, .unset] [])
          refine ogo (fun _ z_ => XS.iload X167.here hx rfl (hb hby at_230) rfl z_) ?_
          show OWay p e below G T167 (mkF m 232 #[.val (.int p0), .val (.int p1), .val (.int p2), .val (.int p3), .val (.int p4), .val (.int (0 : Int32)), .val (.int (1 : Int32)), .val (.int (0 : Int32)), .val (.ref b5), .val (.ref b60), .val (.ref b115), .val (.ref b141), .val (.ref b141), .val (.int v13_168), .unset, .unset, .unset, .unset, .unset, .unset, .unset, .unset, .unset, .unset, .unset] [(.int (0 : Int32))])
          refine ogo (fun _ z_ => XS.ifNo X167.here hx rfl (hb hby at_232) rfl ((if0 _ _).trans (teq rfl).2) z_) ?_
          show OWay p e below G T167 (mkF m 235 #[.val (.int p0), .val (.int p1), .val (.int p2), .val (.int p3), .val (.int p4), .val (.int (0 : Int32)), .val (.int (1 : Int32)), .val (.int (0 : Int32)), .val (.ref b5), .val (.ref b60), .val (.ref b115), .val (.ref b141), .val (.ref b141), .val (.int v13_168), .unset, .unset, .unset, .unset, .unset, .unset, .unset, .unset, .unset, .unset, .unset] [])
          refine ogo (fun _ z_ => XS.iloadN X167.here hx rfl (hb hby at_235) rfl z_) ?_
          show OWay p e below G T167 (mkF m 236 #[.val (.int p0), .val (.int p1), .val (.int p2), .val (.int p3), .val (.int p4), .val (.int (0 : Int32)), .val (.int (1 : Int32)), .val (.int (0 : Int32)), .val (.ref b5), .val (.ref b60), .val (.ref b115), .val (.ref b141), .val (.ref b141), .val (.int v13_168), .unset, .unset, .unset, .unset, .unset, .unset, .unset, .unset, .unset, .unset, .unset] [(.int p0)])
          obtain ⟨_, T186, L186, X186, hQ186, st186⟩ := wStatic X167 hx hZ (y := (⟨"com/example/wakeline/wakeline/similarity/CoordinatesSquaredDistancePinLaw", "latQ", "(I)I"⟩ : MethodName)) hown (hw _ (List.mem_of_getElem? (i := 35) rfl)) (hw _ (List.mem_of_getElem? (i := 36) rfl)) (hw _ (List.mem_of_getElem? (i := 31) rfl)) (hw _ (List.mem_of_getElem? (i := 37) rfl)) (by decide) (latQ_b_c l Z az hw [] p0 T153.heap n0 (Nat.le_trans (Nat.le_trans (Nat.le_trans (Nat.le_trans (Nat.le_trans (Nat.le_trans (Nat.le_trans (Nat.le_trans (Nat.le_trans (Nat.le_trans (Nat.le_trans (Nat.le_trans (Nat.le_trans (Nat.le_trans (Nat.le_trans (Nat.le_trans (Nat.le_trans (Nat.le_trans (Nat.le_trans (Nat.le_trans Z0 E5.1) Kq8.1) E13.1) Kq17.1) Kq28.1) E39.1) Kq43.1) Kq54.1) E60.1) Kq63.1) E68.1) Kq72.1) Kq83.1) E94.1) Kq98.1) Kq109.1) E115.1) Kq127.1) E141.1) Kq153.1)) 0 (by decide) (by decide) (g := (mkF m 236 #[.val (.int p0), .val (.int p1), .val (.int p2), .val (.int p3), .val (.int p4), .val (.int (0 : Int32)), .val (.int (1 : Int32)), .val (.int (0 : Int32)), .val (.ref b5), .val (.ref b60), .val (.ref b115), .val (.ref b141), .val (.ref b141), .val (.int v13_168), .unset, .unset, .unset, .unset, .unset, .unset, .unset, .unset, .unset, .unset, .unset] [(.int p0)])) rfl (by rw [hml]; rfl) (argsL := [(.int p0)]) (rest := []) (lenOf pd__I_I rfl) rfl (by show 2 * 0 + _ ≤ _; exact Nat.le_of_eq rfl) (hb hby at_236) rfl eq167 (by decide) (by decide)
          obtain ⟨rfl, N186q, eq186⟩ := hQ186
          have N186 := Fr.app N167 N186q
          refine ogo st186 ?_
          show OWay p e below G T186 (mkF m 239 #[.val (.int p0), .val (.int p1), .val (.int p2), .val (.int p3), .val (.int p4), .val (.int (0 : Int32)), .val (.int (1 : Int32)), .val (.int (0 : Int32)), .val (.ref b5), .val (.ref b60), .val (.ref b115), .val (.ref b141), .val (.ref b141), .val (.int v13_168), .unset, .unset, .unset, .unset, .unset, .unset, .unset, .unset, .unset, .unset, .unset] [(.int (latQ p0))])
          refine ogo (fun _ z_ => XS.goto X186.here hx rfl (pc0 := 239) (pc' := 246) rfl (hb hby at_239) (by decide) (by decide) z_) ?_
          show OWay p e below G T186 (mkF m 246 #[.val (.int p0), .val (.int p1), .val (.int p2), .val (.int p3), .val (.int p4), .val (.int (0 : Int32)), .val (.int (1 : Int32)), .val (.int (0 : Int32)), .val (.ref b5), .val (.ref b60), .val (.ref b115), .val (.ref b141), .val (.ref b141), .val (.int v13_168), .unset, .unset, .unset, .unset, .unset, .unset, .unset, .unset, .unset, .unset, .unset] [(.int (latQ p0))])
          suffices Jv14_187 : ∀ v14_187 : Int32, v14_187 = (latQ p0) → OWay p e below G T186 (mkF m 246 #[.val (.int p0), .val (.int p1), .val (.int p2), .val (.int p3), .val (.int p4), .val (.int (0 : Int32)), .val (.int (1 : Int32)), .val (.int (0 : Int32)), .val (.ref b5), .val (.ref b60), .val (.ref b115), .val (.ref b141), .val (.ref b141), .val (.int v13_168), .unset, .unset, .unset, .unset, .unset, .unset, .unset, .unset, .unset, .unset, .unset] [(.int v14_187)]) from Jv14_187 _ rfl
          intro v14_187 hv14_187
          refine ogo (fun _ z_ => XS.istore X186.here hx rfl (hb hby at_246) rfl (l' := #[.val (.int p0), .val (.int p1), .val (.int p2), .val (.int p3), .val (.int p4), .val (.int (0 : Int32)), .val (.int (1 : Int32)), .val (.int (0 : Int32)), .val (.ref b5), .val (.ref b60), .val (.ref b115), .val (.ref b141), .val (.ref b141), .val (.int v13_168), .val (.int v14_187), .unset, .unset, .unset, .unset, .unset, .unset, .unset, .unset, .unset, .unset]) rfl z_) ?_
          show OWay p e below G T186 (mkF m 248 #[.val (.int p0), .val (.int p1), .val (.int p2), .val (.int p3), .val (.int p4), .val (.int (0 : Int32)), .val (.int (1 : Int32)), .val (.int (0 : Int32)), .val (.ref b5), .val (.ref b60), .val (.ref b115), .val (.ref b141), .val (.ref b141), .val (.int v13_168), .val (.int v14_187), .unset, .unset, .unset, .unset, .unset, .unset, .unset, .unset, .unset, .unset] [])
          refine ogo (fun _ z_ => XS.iload X186.here hx rfl (hb hby at_248) rfl z_) ?_
          show OWay p e below G T186 (mkF m 250 #[.val (.int p0), .val (.int p1), .val (.int p2), .val (.int p3), .val (.int p4), .val (.int (0 : Int32)), .val (.int (1 : Int32)), .val (.int (0 : Int32)), .val (.ref b5), .val (.ref b60), .val (.ref b115), .val (.ref b141), .val (.ref b141), .val (.int v13_168), .val (.int v14_187), .unset, .unset, .unset, .unset, .unset, .unset, .unset, .unset, .unset, .unset] [(.int (0 : Int32))])
          refine ogo (fun _ z_ => XS.ifYes X186.here hx rfl (pc0 := 250) (pc' := 292) rfl (hb hby at_250) rfl ((if0 _ _).trans (teq rfl).1) (by decide) (by decide) z_) ?_
          show OWay p e below G T186 (mkF m 292 #[.val (.int p0), .val (.int p1), .val (.int p2), .val (.int p3), .val (.int p4), .val (.int (0 : Int32)), .val (.int (1 : Int32)), .val (.int (0 : Int32)), .val (.ref b5), .val (.ref b60), .val (.ref b115), .val (.ref b141), .val (.ref b141), .val (.int v13_168), .val (.int v14_187), .unset, .unset, .unset, .unset, .unset, .unset, .unset, .unset, .unset, .unset] [])
          refine ogo (fun _ z_ => XS.iload X186.here hx rfl (hb hby at_292) rfl z_) ?_
          show OWay p e below G T186 (mkF m 294 #[.val (.int p0), .val (.int p1), .val (.int p2), .val (.int p3), .val (.int p4), .val (.int (0 : Int32)), .val (.int (1 : Int32)), .val (.int (0 : Int32)), .val (.ref b5), .val (.ref b60), .val (.ref b115), .val (.ref b141), .val (.ref b141), .val (.int v13_168), .val (.int v14_187), .unset, .unset, .unset, .unset, .unset, .unset, .unset, .unset, .unset, .unset] [(.int (1 : Int32))])
          refine ogo (fun _ z_ => XS.ifYes X186.here hx rfl (pc0 := 294) (pc' := 304) rfl (hb hby at_294) rfl ((if0 _ _).trans (feq (by decide)).2) (by decide) (by decide) z_) ?_
          show OWay p e below G T186 (mkF m 304 #[.val (.int p0), .val (.int p1), .val (.int p2), .val (.int p3), .val (.int p4), .val (.int (0 : Int32)), .val (.int (1 : Int32)), .val (.int (0 : Int32)), .val (.ref b5), .val (.ref b60), .val (.ref b115), .val (.ref b141), .val (.ref b141), .val (.int v13_168), .val (.int v14_187), .unset, .unset, .unset, .unset, .unset, .unset, .unset, .unset, .unset, .unset] [])
          refine ogo (fun _ z_ => XS.iloadN X186.here hx rfl (hb hby at_304) rfl z_) ?_
          show OWay p e below G T186 (mkF m 305 #[.val (.int p0), .val (.int p1), .val (.int p2), .val (.int p3), .val (.int p4), .val (.int (0 : Int32)), .val (.int (1 : Int32)), .val (.int (0 : Int32)), .val (.ref b5), .val (.ref b60), .val (.ref b115), .val (.ref b141), .val (.ref b141), .val (.int v13_168), .val (.int v14_187), .unset, .unset, .unset, .unset, .unset, .unset, .unset, .unset, .unset, .unset] [(.int p3)])
          obtain ⟨_, T188, L188, X188, hQ188, st188⟩ := wStatic X186 hx hZ (y := (⟨"com/example/wakeline/wakeline/similarity/CoordinatesSquaredDistancePinLaw", "lonQ", "(I)I"⟩ : MethodName)) hown (hw _ (List.mem_of_getElem? (i := 29) rfl)) (hw _ (List.mem_of_getElem? (i := 30) rfl)) (hw _ (List.mem_of_getElem? (i := 31) rfl)) (hw _ (List.mem_of_getElem? (i := 32) rfl)) (by decide) (lonQ_b_c l Z az hw [] p3 T153.heap n0 (Nat.le_trans (Nat.le_trans (Nat.le_trans (Nat.le_trans (Nat.le_trans (Nat.le_trans (Nat.le_trans (Nat.le_trans (Nat.le_trans (Nat.le_trans (Nat.le_trans (Nat.le_trans (Nat.le_trans (Nat.le_trans (Nat.le_trans (Nat.le_trans (Nat.le_trans (Nat.le_trans (Nat.le_trans (Nat.le_trans Z0 E5.1) Kq8.1) E13.1) Kq17.1) Kq28.1) E39.1) Kq43.1) Kq54.1) E60.1) Kq63.1) E68.1) Kq72.1) Kq83.1) E94.1) Kq98.1) Kq109.1) E115.1) Kq127.1) E141.1) Kq153.1)) 0 (by decide) (by decide) (g := (mkF m 305 #[.val (.int p0), .val (.int p1), .val (.int p2), .val (.int p3), .val (.int p4), .val (.int (0 : Int32)), .val (.int (1 : Int32)), .val (.int (0 : Int32)), .val (.ref b5), .val (.ref b60), .val (.ref b115), .val (.ref b141), .val (.ref b141), .val (.int v13_168), .val (.int v14_187), .unset, .unset, .unset, .unset, .unset, .unset, .unset, .unset, .unset, .unset] [(.int p3)])) rfl (by rw [hml]; rfl) (argsL := [(.int p3)]) (rest := []) (lenOf pd__I_I rfl) rfl (by show 2 * 0 + _ ≤ _; exact Nat.le_of_eq rfl) (hb hby at_305) rfl eq186 (by decide) (by decide)
          obtain ⟨rfl, N188q, eq188⟩ := hQ188
          have N188 := Fr.app N186 N188q
          refine ogo st188 ?_
          show OWay p e below G T188 (mkF m 308 #[.val (.int p0), .val (.int p1), .val (.int p2), .val (.int p3), .val (.int p4), .val (.int (0 : Int32)), .val (.int (1 : Int32)), .val (.int (0 : Int32)), .val (.ref b5), .val (.ref b60), .val (.ref b115), .val (.ref b141), .val (.ref b141), .val (.int v13_168), .val (.int v14_187), .unset, .unset, .unset, .unset, .unset, .unset, .unset, .unset, .unset, .unset] [(.int (lonQ p3))])
          suffices Jv15_189 : ∀ v15_189 : Int32, v15_189 = (lonQ p3) → OWay p e below G T188 (mkF m 308 #[.val (.int p0), .val (.int p1), .val (.int p2), .val (.int p3), .val (.int p4), .val (.int (0 : Int32)), .val (.int (1 : Int32)), .val (.int (0 : Int32)), .val (.ref b5), .val (.ref b60), .val (.ref b115), .val (.ref b141), .val (.ref b141), .val (.int v13_168), .val (.int v14_187), .unset, .unset, .unset, .unset, .unset, .unset, .unset, .unset, .unset, .unset] [(.int v15_189)]) from Jv15_189 _ rfl
          intro v15_189 hv15_189
          refine ogo (fun _ z_ => XS.istore X188.here hx rfl (hb hby at_308) rfl (l' := #[.val (.int p0), .val (.int p1), .val (.int p2), .val (.int p3), .val (.int p4), .val (.int (0 : Int32)), .val (.int (1 : Int32)), .val (.int (0 : Int32)), .val (.ref b5), .val (.ref b60), .val (.ref b115), .val (.ref b141), .val (.ref b141), .val (.int v13_168), .val (.int v14_187), .val (.int v15_189), .unset, .unset, .unset, .unset, .unset, .unset, .unset, .unset, .unset]) rfl z_) ?_
          show OWay p e below G T188 (mkF m 310 #[.val (.int p0), .val (.int p1), .val (.int p2), .val (.int p3), .val (.int p4), .val (.int (0 : Int32)), .val (.int (1 : Int32)), .val (.int (0 : Int32)), .val (.ref b5), .val (.ref b60), .val (.ref b115), .val (.ref b141), .val (.ref b141), .val (.int v13_168), .val (.int v14_187), .val (.int v15_189), .unset, .unset, .unset, .unset, .unset, .unset, .unset, .unset, .unset] [])
          refine ogo (fun _ z_ => XS.iload X188.here hx rfl (hb hby at_310) rfl z_) ?_
          show OWay p e below G T188 (mkF m 312 #[.val (.int p0), .val (.int p1), .val (.int p2), .val (.int p3), .val (.int p4), .val (.int (0 : Int32)), .val (.int (1 : Int32)), .val (.int (0 : Int32)), .val (.ref b5), .val (.ref b60), .val (.ref b115), .val (.ref b141), .val (.ref b141), .val (.int v13_168), .val (.int v14_187), .val (.int v15_189), .unset, .unset, .unset, .unset, .unset, .unset, .unset, .unset, .unset] [(.int (1 : Int32))])
          refine ogo (fun _ z_ => XS.ifYes X188.here hx rfl (pc0 := 312) (pc' := 322) rfl (hb hby at_312) rfl ((if0 _ _).trans (feq (by decide)).2) (by decide) (by decide) z_) ?_
          show OWay p e below G T188 (mkF m 322 #[.val (.int p0), .val (.int p1), .val (.int p2), .val (.int p3), .val (.int p4), .val (.int (0 : Int32)), .val (.int (1 : Int32)), .val (.int (0 : Int32)), .val (.ref b5), .val (.ref b60), .val (.ref b115), .val (.ref b141), .val (.ref b141), .val (.int v13_168), .val (.int v14_187), .val (.int v15_189), .unset, .unset, .unset, .unset, .unset, .unset, .unset, .unset, .unset] [])
          refine ogo (fun _ z_ => XS.iloadN X188.here hx rfl (hb hby at_322) rfl z_) ?_
          show OWay p e below G T188 (mkF m 323 #[.val (.int p0), .val (.int p1), .val (.int p2), .val (.int p3), .val (.int p4), .val (.int (0 : Int32)), .val (.int (1 : Int32)), .val (.int (0 : Int32)), .val (.ref b5), .val (.ref b60), .val (.ref b115), .val (.ref b141), .val (.ref b141), .val (.int v13_168), .val (.int v14_187), .val (.int v15_189), .unset, .unset, .unset, .unset, .unset, .unset, .unset, .unset, .unset] [(.int p3)])
          obtain ⟨_, T190, L190, X190, hQ190, st190⟩ := wStatic X188 hx hZ (y := (⟨"com/example/wakeline/wakeline/similarity/CoordinatesSquaredDistancePinLaw", "latQ", "(I)I"⟩ : MethodName)) hown (hw _ (List.mem_of_getElem? (i := 35) rfl)) (hw _ (List.mem_of_getElem? (i := 36) rfl)) (hw _ (List.mem_of_getElem? (i := 31) rfl)) (hw _ (List.mem_of_getElem? (i := 37) rfl)) (by decide) (latQ_b_c l Z az hw [] p3 T153.heap n0 (Nat.le_trans (Nat.le_trans (Nat.le_trans (Nat.le_trans (Nat.le_trans (Nat.le_trans (Nat.le_trans (Nat.le_trans (Nat.le_trans (Nat.le_trans (Nat.le_trans (Nat.le_trans (Nat.le_trans (Nat.le_trans (Nat.le_trans (Nat.le_trans (Nat.le_trans (Nat.le_trans (Nat.le_trans (Nat.le_trans Z0 E5.1) Kq8.1) E13.1) Kq17.1) Kq28.1) E39.1) Kq43.1) Kq54.1) E60.1) Kq63.1) E68.1) Kq72.1) Kq83.1) E94.1) Kq98.1) Kq109.1) E115.1) Kq127.1) E141.1) Kq153.1)) 0 (by decide) (by decide) (g := (mkF m 323 #[.val (.int p0), .val (.int p1), .val (.int p2), .val (.int p3), .val (.int p4), .val (.int (0 : Int32)), .val (.int (1 : Int32)), .val (.int (0 : Int32)), .val (.ref b5), .val (.ref b60), .val (.ref b115), .val (.ref b141), .val (.ref b141), .val (.int v13_168), .val (.int v14_187), .val (.int v15_189), .unset, .unset, .unset, .unset, .unset, .unset, .unset, .unset, .unset] [(.int p3)])) rfl (by rw [hml]; rfl) (argsL := [(.int p3)]) (rest := []) (lenOf pd__I_I rfl) rfl (by show 2 * 0 + _ ≤ _; exact Nat.le_of_eq rfl) (hb hby at_323) rfl eq188 (by decide) (by decide)
          obtain ⟨rfl, N190q, eq190⟩ := hQ190
          have N190 := Fr.app N188 N190q
          refine ogo st190 ?_
          show OWay p e below G T190 (mkF m 326 #[.val (.int p0), .val (.int p1), .val (.int p2), .val (.int p3), .val (.int p4), .val (.int (0 : Int32)), .val (.int (1 : Int32)), .val (.int (0 : Int32)), .val (.ref b5), .val (.ref b60), .val (.ref b115), .val (.ref b141), .val (.ref b141), .val (.int v13_168), .val (.int v14_187), .val (.int v15_189), .unset, .unset, .unset, .unset, .unset, .unset, .unset, .unset, .unset] [(.int (latQ p3))])
          suffices Jv16_191 : ∀ v16_191 : Int32, v16_191 = (latQ p3) → OWay p e below G T190 (mkF m 326 #[.val (.int p0), .val (.int p1), .val (.int p2), .val (.int p3), .val (.int p4), .val (.int (0 : Int32)), .val (.int (1 : Int32)), .val (.int (0 : Int32)), .val (.ref b5), .val (.ref b60), .val (.ref b115), .val (.ref b141), .val (.ref b141), .val (.int v13_168), .val (.int v14_187), .val (.int v15_189), .unset, .unset, .unset, .unset, .unset, .unset, .unset, .unset, .unset] [(.int v16_191)]) from Jv16_191 _ rfl
          intro v16_191 hv16_191
          refine ogo (fun _ z_ => XS.istore X190.here hx rfl (hb hby at_326) rfl (l' := #[.val (.int p0), .val (.int p1), .val (.int p2), .val (.int p3), .val (.int p4), .val (.int (0 : Int32)), .val (.int (1 : Int32)), .val (.int (0 : Int32)), .val (.ref b5), .val (.ref b60), .val (.ref b115), .val (.ref b141), .val (.ref b141), .val (.int v13_168), .val (.int v14_187), .val (.int v15_189), .val (.int v16_191), .unset, .unset, .unset, .unset, .unset, .unset, .unset, .unset]) rfl z_) ?_
          show OWay p e below G T190 (mkF m 328 #[.val (.int p0), .val (.int p1), .val (.int p2), .val (.int p3), .val (.int p4), .val (.int (0 : Int32)), .val (.int (1 : Int32)), .val (.int (0 : Int32)), .val (.ref b5), .val (.ref b60), .val (.ref b115), .val (.ref b141), .val (.ref b141), .val (.int v13_168), .val (.int v14_187), .val (.int v15_189), .val (.int v16_191), .unset, .unset, .unset, .unset, .unset, .unset, .unset, .unset] [])
          refine ogo (fun _ z_ => XS.iload X190.here hx rfl (hb hby at_328) rfl z_) ?_
          show OWay p e below G T190 (mkF m 330 #[.val (.int p0), .val (.int p1), .val (.int p2), .val (.int p3), .val (.int p4), .val (.int (0 : Int32)), .val (.int (1 : Int32)), .val (.int (0 : Int32)), .val (.ref b5), .val (.ref b60), .val (.ref b115), .val (.ref b141), .val (.ref b141), .val (.int v13_168), .val (.int v14_187), .val (.int v15_189), .val (.int v16_191), .unset, .unset, .unset, .unset, .unset, .unset, .unset, .unset] [(.int v13_168)])
          refine ogo (fun _ z_ => XS.i2l X190.here hx rfl (hb hby at_330) rfl z_) ?_
          show OWay p e below G T190 (mkF m 331 #[.val (.int p0), .val (.int p1), .val (.int p2), .val (.int p3), .val (.int p4), .val (.int (0 : Int32)), .val (.int (1 : Int32)), .val (.int (0 : Int32)), .val (.ref b5), .val (.ref b60), .val (.ref b115), .val (.ref b141), .val (.ref b141), .val (.int v13_168), .val (.int v14_187), .val (.int v15_189), .val (.int v16_191), .unset, .unset, .unset, .unset, .unset, .unset, .unset, .unset] [(.long (v13_168.toInt64))])
          refine ogo (fun _ z_ => XS.iload X190.here hx rfl (hb hby at_331) rfl z_) ?_
          show OWay p e below G T190 (mkF m 333 #[.val (.int p0), .val (.int p1), .val (.int p2), .val (.int p3), .val (.int p4), .val (.int (0 : Int32)), .val (.int (1 : Int32)), .val (.int (0 : Int32)), .val (.ref b5), .val (.ref b60), .val (.ref b115), .val (.ref b141), .val (.ref b141), .val (.int v13_168), .val (.int v14_187), .val (.int v15_189), .val (.int v16_191), .unset, .unset, .unset, .unset, .unset, .unset, .unset, .unset] [(.int v15_189), (.long (v13_168.toInt64))])
          refine ogo (fun _ z_ => XS.i2l X190.here hx rfl (hb hby at_333) rfl z_) ?_
          show OWay p e below G T190 (mkF m 334 #[.val (.int p0), .val (.int p1), .val (.int p2), .val (.int p3), .val (.int p4), .val (.int (0 : Int32)), .val (.int (1 : Int32)), .val (.int (0 : Int32)), .val (.ref b5), .val (.ref b60), .val (.ref b115), .val (.ref b141), .val (.ref b141), .val (.int v13_168), .val (.int v14_187), .val (.int v15_189), .val (.int v16_191), .unset, .unset, .unset, .unset, .unset, .unset, .unset, .unset] [(.long (v15_189.toInt64)), (.long (v13_168.toInt64))])
          refine ogo (fun _ z_ => XS.lsub X190.here hx rfl (hb hby at_334) rfl z_) ?_
          show OWay p e below G T190 (mkF m 335 #[.val (.int p0), .val (.int p1), .val (.int p2), .val (.int p3), .val (.int p4), .val (.int (0 : Int32)), .val (.int (1 : Int32)), .val (.int (0 : Int32)), .val (.ref b5), .val (.ref b60), .val (.ref b115), .val (.ref b141), .val (.ref b141), .val (.int v13_168), .val (.int v14_187), .val (.int v15_189), .val (.int v16_191), .unset, .unset, .unset, .unset, .unset, .unset, .unset, .unset] [(.long ((v13_168.toInt64) - (v15_189.toInt64)))])
          suffices Jv17_192 : ∀ v17_192 : Int64, v17_192 = ((v13_168.toInt64) - (v15_189.toInt64)) → OWay p e below G T190 (mkF m 335 #[.val (.int p0), .val (.int p1), .val (.int p2), .val (.int p3), .val (.int p4), .val (.int (0 : Int32)), .val (.int (1 : Int32)), .val (.int (0 : Int32)), .val (.ref b5), .val (.ref b60), .val (.ref b115), .val (.ref b141), .val (.ref b141), .val (.int v13_168), .val (.int v14_187), .val (.int v15_189), .val (.int v16_191), .unset, .unset, .unset, .unset, .unset, .unset, .unset, .unset] [(.long v17_192)]) from Jv17_192 _ rfl
          intro v17_192 hv17_192
          refine ogo (fun _ z_ => XS.lstore X190.here hx rfl (hb hby at_335) rfl (l' := #[.val (.int p0), .val (.int p1), .val (.int p2), .val (.int p3), .val (.int p4), .val (.int (0 : Int32)), .val (.int (1 : Int32)), .val (.int (0 : Int32)), .val (.ref b5), .val (.ref b60), .val (.ref b115), .val (.ref b141), .val (.ref b141), .val (.int v13_168), .val (.int v14_187), .val (.int v15_189), .val (.int v16_191), .val (.long v17_192), .second, .unset, .unset, .unset, .unset, .unset, .unset]) rfl z_) ?_
          show OWay p e below G T190 (mkF m 337 #[.val (.int p0), .val (.int p1), .val (.int p2), .val (.int p3), .val (.int p4), .val (.int (0 : Int32)), .val (.int (1 : Int32)), .val (.int (0 : Int32)), .val (.ref b5), .val (.ref b60), .val (.ref b115), .val (.ref b141), .val (.ref b141), .val (.int v13_168), .val (.int v14_187), .val (.int v15_189), .val (.int v16_191), .val (.long v17_192), .second, .unset, .unset, .unset, .unset, .unset, .unset] [])
          refine ogo (fun _ z_ => XS.iload X190.here hx rfl (hb hby at_337) rfl z_) ?_
          show OWay p e below G T190 (mkF m 339 #[.val (.int p0), .val (.int p1), .val (.int p2), .val (.int p3), .val (.int p4), .val (.int (0 : Int32)), .val (.int (1 : Int32)), .val (.int (0 : Int32)), .val (.ref b5), .val (.ref b60), .val (.ref b115), .val (.ref b141), .val (.ref b141), .val (.int v13_168), .val (.int v14_187), .val (.int v15_189), .val (.int v16_191), .val (.long v17_192), .second, .unset, .unset, .unset, .unset, .unset, .unset] [(.int v14_187)])
          refine ogo (fun _ z_ => XS.i2l X190.here hx rfl (hb hby at_339) rfl z_) ?_
          show OWay p e below G T190 (mkF m 340 #[.val (.int p0), .val (.int p1), .val (.int p2), .val (.int p3), .val (.int p4), .val (.int (0 : Int32)), .val (.int (1 : Int32)), .val (.int (0 : Int32)), .val (.ref b5), .val (.ref b60), .val (.ref b115), .val (.ref b141), .val (.ref b141), .val (.int v13_168), .val (.int v14_187), .val (.int v15_189), .val (.int v16_191), .val (.long v17_192), .second, .unset, .unset, .unset, .unset, .unset, .unset] [(.long (v14_187.toInt64))])
          refine ogo (fun _ z_ => XS.iload X190.here hx rfl (hb hby at_340) rfl z_) ?_
          show OWay p e below G T190 (mkF m 342 #[.val (.int p0), .val (.int p1), .val (.int p2), .val (.int p3), .val (.int p4), .val (.int (0 : Int32)), .val (.int (1 : Int32)), .val (.int (0 : Int32)), .val (.ref b5), .val (.ref b60), .val (.ref b115), .val (.ref b141), .val (.ref b141), .val (.int v13_168), .val (.int v14_187), .val (.int v15_189), .val (.int v16_191), .val (.long v17_192), .second, .unset, .unset, .unset, .unset, .unset, .unset] [(.int v16_191), (.long (v14_187.toInt64))])
          refine ogo (fun _ z_ => XS.i2l X190.here hx rfl (hb hby at_342) rfl z_) ?_
          show OWay p e below G T190 (mkF m 343 #[.val (.int p0), .val (.int p1), .val (.int p2), .val (.int p3), .val (.int p4), .val (.int (0 : Int32)), .val (.int (1 : Int32)), .val (.int (0 : Int32)), .val (.ref b5), .val (.ref b60), .val (.ref b115), .val (.ref b141), .val (.ref b141), .val (.int v13_168), .val (.int v14_187), .val (.int v15_189), .val (.int v16_191), .val (.long v17_192), .second, .unset, .unset, .unset, .unset, .unset, .unset] [(.long (v16_191.toInt64)), (.long (v14_187.toInt64))])
          refine ogo (fun _ z_ => XS.lsub X190.here hx rfl (hb hby at_343) rfl z_) ?_
          show OWay p e below G T190 (mkF m 344 #[.val (.int p0), .val (.int p1), .val (.int p2), .val (.int p3), .val (.int p4), .val (.int (0 : Int32)), .val (.int (1 : Int32)), .val (.int (0 : Int32)), .val (.ref b5), .val (.ref b60), .val (.ref b115), .val (.ref b141), .val (.ref b141), .val (.int v13_168), .val (.int v14_187), .val (.int v15_189), .val (.int v16_191), .val (.long v17_192), .second, .unset, .unset, .unset, .unset, .unset, .unset] [(.long ((v14_187.toInt64) - (v16_191.toInt64)))])
          suffices Jv19_193 : ∀ v19_193 : Int64, v19_193 = ((v14_187.toInt64) - (v16_191.toInt64)) → OWay p e below G T190 (mkF m 344 #[.val (.int p0), .val (.int p1), .val (.int p2), .val (.int p3), .val (.int p4), .val (.int (0 : Int32)), .val (.int (1 : Int32)), .val (.int (0 : Int32)), .val (.ref b5), .val (.ref b60), .val (.ref b115), .val (.ref b141), .val (.ref b141), .val (.int v13_168), .val (.int v14_187), .val (.int v15_189), .val (.int v16_191), .val (.long v17_192), .second, .unset, .unset, .unset, .unset, .unset, .unset] [(.long v19_193)]) from Jv19_193 _ rfl
          intro v19_193 hv19_193
          refine ogo (fun _ z_ => XS.lstore X190.here hx rfl (hb hby at_344) rfl (l' := #[.val (.int p0), .val (.int p1), .val (.int p2), .val (.int p3), .val (.int p4), .val (.int (0 : Int32)), .val (.int (1 : Int32)), .val (.int (0 : Int32)), .val (.ref b5), .val (.ref b60), .val (.ref b115), .val (.ref b141), .val (.ref b141), .val (.int v13_168), .val (.int v14_187), .val (.int v15_189), .val (.int v16_191), .val (.long v17_192), .second, .val (.long v19_193), .second, .unset, .unset, .unset, .unset]) rfl z_) ?_
          show OWay p e below G T190 (mkF m 346 #[.val (.int p0), .val (.int p1), .val (.int p2), .val (.int p3), .val (.int p4), .val (.int (0 : Int32)), .val (.int (1 : Int32)), .val (.int (0 : Int32)), .val (.ref b5), .val (.ref b60), .val (.ref b115), .val (.ref b141), .val (.ref b141), .val (.int v13_168), .val (.int v14_187), .val (.int v15_189), .val (.int v16_191), .val (.long v17_192), .second, .val (.long v19_193), .second, .unset, .unset, .unset, .unset] [])
          refine ogo (fun _ z_ => XS.lload X190.here hx rfl (hb hby at_346) rfl z_) ?_
          show OWay p e below G T190 (mkF m 348 #[.val (.int p0), .val (.int p1), .val (.int p2), .val (.int p3), .val (.int p4), .val (.int (0 : Int32)), .val (.int (1 : Int32)), .val (.int (0 : Int32)), .val (.ref b5), .val (.ref b60), .val (.ref b115), .val (.ref b141), .val (.ref b141), .val (.int v13_168), .val (.int v14_187), .val (.int v15_189), .val (.int v16_191), .val (.long v17_192), .second, .val (.long v19_193), .second, .unset, .unset, .unset, .unset] [(.long v17_192)])
          refine ogo (fun _ z_ => XS.lload X190.here hx rfl (hb hby at_348) rfl z_) ?_
          show OWay p e below G T190 (mkF m 350 #[.val (.int p0), .val (.int p1), .val (.int p2), .val (.int p3), .val (.int p4), .val (.int (0 : Int32)), .val (.int (1 : Int32)), .val (.int (0 : Int32)), .val (.ref b5), .val (.ref b60), .val (.ref b115), .val (.ref b141), .val (.ref b141), .val (.int v13_168), .val (.int v14_187), .val (.int v15_189), .val (.int v16_191), .val (.long v17_192), .second, .val (.long v19_193), .second, .unset, .unset, .unset, .unset] [(.long v17_192), (.long v17_192)])
          refine ogo (fun _ z_ => XS.lmul X190.here hx rfl (hb hby at_350) rfl z_) ?_
          show OWay p e below G T190 (mkF m 351 #[.val (.int p0), .val (.int p1), .val (.int p2), .val (.int p3), .val (.int p4), .val (.int (0 : Int32)), .val (.int (1 : Int32)), .val (.int (0 : Int32)), .val (.ref b5), .val (.ref b60), .val (.ref b115), .val (.ref b141), .val (.ref b141), .val (.int v13_168), .val (.int v14_187), .val (.int v15_189), .val (.int v16_191), .val (.long v17_192), .second, .val (.long v19_193), .second, .unset, .unset, .unset, .unset] [(.long (v17_192 * v17_192))])
          refine ogo (fun _ z_ => XS.lload X190.here hx rfl (hb hby at_351) rfl z_) ?_
          show OWay p e below G T190 (mkF m 353 #[.val (.int p0), .val (.int p1), .val (.int p2), .val (.int p3), .val (.int p4), .val (.int (0 : Int32)), .val (.int (1 : Int32)), .val (.int (0 : Int32)), .val (.ref b5), .val (.ref b60), .val (.ref b115), .val (.ref b141), .val (.ref b141), .val (.int v13_168), .val (.int v14_187), .val (.int v15_189), .val (.int v16_191), .val (.long v17_192), .second, .val (.long v19_193), .second, .unset, .unset, .unset, .unset] [(.long v19_193), (.long (v17_192 * v17_192))])
          refine ogo (fun _ z_ => XS.lload X190.here hx rfl (hb hby at_353) rfl z_) ?_
          show OWay p e below G T190 (mkF m 355 #[.val (.int p0), .val (.int p1), .val (.int p2), .val (.int p3), .val (.int p4), .val (.int (0 : Int32)), .val (.int (1 : Int32)), .val (.int (0 : Int32)), .val (.ref b5), .val (.ref b60), .val (.ref b115), .val (.ref b141), .val (.ref b141), .val (.int v13_168), .val (.int v14_187), .val (.int v15_189), .val (.int v16_191), .val (.long v17_192), .second, .val (.long v19_193), .second, .unset, .unset, .unset, .unset] [(.long v19_193), (.long v19_193), (.long (v17_192 * v17_192))])
          refine ogo (fun _ z_ => XS.lmul X190.here hx rfl (hb hby at_355) rfl z_) ?_
          show OWay p e below G T190 (mkF m 356 #[.val (.int p0), .val (.int p1), .val (.int p2), .val (.int p3), .val (.int p4), .val (.int (0 : Int32)), .val (.int (1 : Int32)), .val (.int (0 : Int32)), .val (.ref b5), .val (.ref b60), .val (.ref b115), .val (.ref b141), .val (.ref b141), .val (.int v13_168), .val (.int v14_187), .val (.int v15_189), .val (.int v16_191), .val (.long v17_192), .second, .val (.long v19_193), .second, .unset, .unset, .unset, .unset] [(.long (v19_193 * v19_193)), (.long (v17_192 * v17_192))])
          refine ogo (fun _ z_ => XS.ladd X190.here hx rfl (hb hby at_356) rfl z_) ?_
          show OWay p e below G T190 (mkF m 357 #[.val (.int p0), .val (.int p1), .val (.int p2), .val (.int p3), .val (.int p4), .val (.int (0 : Int32)), .val (.int (1 : Int32)), .val (.int (0 : Int32)), .val (.ref b5), .val (.ref b60), .val (.ref b115), .val (.ref b141), .val (.ref b141), .val (.int v13_168), .val (.int v14_187), .val (.int v15_189), .val (.int v16_191), .val (.long v17_192), .second, .val (.long v19_193), .second, .unset, .unset, .unset, .unset] [(.long ((v17_192 * v17_192) + (v19_193 * v19_193)))])
          suffices Jv21_194 : ∀ v21_194 : Int64, v21_194 = ((v17_192 * v17_192) + (v19_193 * v19_193)) → OWay p e below G T190 (mkF m 357 #[.val (.int p0), .val (.int p1), .val (.int p2), .val (.int p3), .val (.int p4), .val (.int (0 : Int32)), .val (.int (1 : Int32)), .val (.int (0 : Int32)), .val (.ref b5), .val (.ref b60), .val (.ref b115), .val (.ref b141), .val (.ref b141), .val (.int v13_168), .val (.int v14_187), .val (.int v15_189), .val (.int v16_191), .val (.long v17_192), .second, .val (.long v19_193), .second, .unset, .unset, .unset, .unset] [(.long v21_194)]) from Jv21_194 _ rfl
          intro v21_194 hv21_194
          refine ogo (fun _ z_ => XS.lstore X190.here hx rfl (hb hby at_357) rfl (l' := #[.val (.int p0), .val (.int p1), .val (.int p2), .val (.int p3), .val (.int p4), .val (.int (0 : Int32)), .val (.int (1 : Int32)), .val (.int (0 : Int32)), .val (.ref b5), .val (.ref b60), .val (.ref b115), .val (.ref b141), .val (.ref b141), .val (.int v13_168), .val (.int v14_187), .val (.int v15_189), .val (.int v16_191), .val (.long v17_192), .second, .val (.long v19_193), .second, .val (.long v21_194), .second, .unset, .unset]) rfl z_) ?_
          show OWay p e below G T190 (mkF m 359 #[.val (.int p0), .val (.int p1), .val (.int p2), .val (.int p3), .val (.int p4), .val (.int (0 : Int32)), .val (.int (1 : Int32)), .val (.int (0 : Int32)), .val (.ref b5), .val (.ref b60), .val (.ref b115), .val (.ref b141), .val (.ref b141), .val (.int v13_168), .val (.int v14_187), .val (.int v15_189), .val (.int v16_191), .val (.long v17_192), .second, .val (.long v19_193), .second, .val (.long v21_194), .second, .unset, .unset] [])
          refine ogo (fun _ z_ => XS.aload X190.here hx rfl (hb hby at_359) rfl rfl z_) ?_
          show OWay p e below G T190 (mkF m 361 #[.val (.int p0), .val (.int p1), .val (.int p2), .val (.int p3), .val (.int p4), .val (.int (0 : Int32)), .val (.int (1 : Int32)), .val (.int (0 : Int32)), .val (.ref b5), .val (.ref b60), .val (.ref b115), .val (.ref b141), .val (.ref b141), .val (.int v13_168), .val (.int v14_187), .val (.int v15_189), .val (.int v16_191), .val (.long v17_192), .second, .val (.long v19_193), .second, .val (.long v21_194), .second, .unset, .unset] [(.ref b115)])
          refine ogo (fun _ z_ => XS.iload X190.here hx rfl (hb hby at_361) rfl z_) ?_
          show OWay p e below G T190 (mkF m 363 #[.val (.int p0), .val (.int p1), .val (.int p2), .val (.int p3), .val (.int p4), .val (.int (0 : Int32)), .val (.int (1 : Int32)), .val (.int (0 : Int32)), .val (.ref b5), .val (.ref b60), .val (.ref b115), .val (.ref b141), .val (.ref b141), .val (.int v13_168), .val (.int v14_187), .val (.int v15_189), .val (.int v16_191), .val (.long v17_192), .second, .val (.long v19_193), .second, .val (.long v21_194), .second, .unset, .unset] [(.int (0 : Int32)), (.ref b115)])
          refine ogo (fun _ z_ => XS.aload X190.here hx rfl (hb hby at_363) rfl rfl z_) ?_
          show OWay p e below G T190 (mkF m 365 #[.val (.int p0), .val (.int p1), .val (.int p2), .val (.int p3), .val (.int p4), .val (.int (0 : Int32)), .val (.int (1 : Int32)), .val (.int (0 : Int32)), .val (.ref b5), .val (.ref b60), .val (.ref b115), .val (.ref b141), .val (.ref b141), .val (.int v13_168), .val (.int v14_187), .val (.int v15_189), .val (.int v16_191), .val (.long v17_192), .second, .val (.long v19_193), .second, .val (.long v21_194), .second, .unset, .unset] [(.ref b141), (.int (0 : Int32)), (.ref b115)])
          refine ogo (fun _ z_ => XS.iload X190.here hx rfl (hb hby at_365) rfl z_) ?_
          show OWay p e below G T190 (mkF m 367 #[.val (.int p0), .val (.int p1), .val (.int p2), .val (.int p3), .val (.int p4), .val (.int (0 : Int32)), .val (.int (1 : Int32)), .val (.int (0 : Int32)), .val (.ref b5), .val (.ref b60), .val (.ref b115), .val (.ref b141), .val (.ref b141), .val (.int v13_168), .val (.int v14_187), .val (.int v15_189), .val (.int v16_191), .val (.long v17_192), .second, .val (.long v19_193), .second, .val (.long v21_194), .second, .unset, .unset] [(.int (1 : Int32)), (.ref b141), (.int (0 : Int32)), (.ref b115)])
          have F195 : Fld Z T153.heap b115 "com/example/wakeline/wakeline/similarity/Coordinates" "longitudes" "[D" (.ref lo_128) := ((P138.ext E141).keep Kq153 (ninS (Nat.ne_of_lt (Nat.lt_of_lt_of_le P138.lt (Nat.le_of_eq g141.symm))) nin0))
          have F196 : Fld Z T153.heap b115 "com/example/wakeline/wakeline/similarity/Coordinates" "latitudes" "[D" (.ref la_129) := ((P139.ext E141).keep Kq153 (ninS (Nat.ne_of_lt (Nat.lt_of_lt_of_le P139.lt (Nat.le_of_eq g141.symm))) nin0))
          have F197 : Arv Z T153.heap lo_128 kl_130 .double (2 : Int32) [(.double (FP.ddiv (FP.i2d (lonQ p0)) (4616189618054758400 : UInt64))), (.double (FP.ddiv (FP.i2d (lonQ p1)) (4616189618054758400 : UInt64)))] (.double (0 : UInt64)) := ((P136.ext E141).keep Kq153 (ninS (Nat.ne_of_lt (Nat.lt_of_lt_of_le P136.lt (Nat.le_of_eq g141.symm))) nin0))
          have F198 : Arv Z T153.heap la_129 ka_131 .double (2 : Int32) [(.double (FP.ddiv (FP.i2d (latQ p0)) (4616189618054758400 : UInt64))), (.double (FP.ddiv (FP.i2d (latQ p1)) (4616189618054758400 : UInt64)))] (.double (0 : UInt64)) := ((P137.ext E141).keep Kq153 (ninS (Nat.ne_of_lt (Nat.lt_of_lt_of_le P137.lt (Nat.le_of_eq g141.symm))) nin0))
          have F200 : Exa Z T153.heap b115 "com/example/wakeline/wakeline/similarity/Coordinates" := (((A115.keep Kq127).ext E141).keep Kq153)
          obtain ⟨_, T199, L199, X199, hQ199, st199⟩ := wVirtual X190 hx hZ (y := (⟨"com/example/wakeline/wakeline/similarity/Coordinates", "squaredDistance", "(ILcom/example/wakeline/wakeline/similarity/Coordinates;I)D"⟩ : MethodName)) (z := (⟨"com/example/wakeline/wakeline/similarity/Coordinates", "squaredDistance", "(ILcom/example/wakeline/wakeline/similarity/Coordinates;I)D"⟩ : MethodName)) hown (hw _ (List.mem_of_getElem? (i := 142) rfl)) (hw _ (List.mem_of_getElem? (i := 143) rfl)) (notFace_of_selects (args := #[]) (mvT hZ (hw _ (List.mem_of_getElem? (i := 145) rfl)))) (hw _ (List.mem_of_getElem? (i := 145) rfl)) (hw _ (List.mem_of_getElem? (i := 144) rfl)) (hw _ (List.mem_of_getElem? (i := 90) rfl)) (hw _ (List.mem_of_getElem? (i := 146) rfl)) (by decide) (sd01_c l Z az hw [] b115 b141 lo_128 la_129 kl_130 ka_131 lo_154 la_155 kl_156 ka_157 (FP.ddiv (FP.i2d (lonQ p0)) (4616189618054758400 : UInt64)) (FP.ddiv (FP.i2d (lonQ p1)) (4616189618054758400 : UInt64)) (FP.ddiv (FP.i2d (latQ p0)) (4616189618054758400 : UInt64)) (FP.ddiv (FP.i2d (latQ p1)) (4616189618054758400 : UInt64)) (FP.ddiv (FP.i2d (lonQ p2)) (4616189618054758400 : UInt64)) (FP.ddiv (FP.i2d (lonQ p3)) (4616189618054758400 : UInt64)) (FP.ddiv (FP.i2d (latQ p2)) (4616189618054758400 : UInt64)) (FP.ddiv (FP.i2d (latQ p3)) (4616189618054758400 : UInt64)) (lonQ p0).toInt (lonQ p3).toInt (latQ p0).toInt (latQ p3).toInt T153.heap n0 (Nat.le_trans (Nat.le_trans (Nat.le_trans (Nat.le_trans (Nat.le_trans (Nat.le_trans (Nat.le_trans (Nat.le_trans (Nat.le_trans (Nat.le_trans (Nat.le_trans (Nat.le_trans (Nat.le_trans (Nat.le_trans (Nat.le_trans (Nat.le_trans (Nat.le_trans (Nat.le_trans (Nat.le_trans (Nat.le_trans Z0 E5.1) Kq8.1) E13.1) Kq17.1) Kq28.1) E39.1) Kq43.1) Kq54.1) E60.1) Kq63.1) E68.1) Kq72.1) Kq83.1) E94.1) Kq98.1) Kq109.1) E115.1) Kq127.1) E141.1) Kq153.1) F195 F196 F197 F198 P164 P165 P162 P163 (own_q4 (lonQ p0)) (own_q4 (lonQ p3)) (own_q4 (latQ p0)) (own_q4 (latQ p3)) (own_lon p0) (own_lon p3) (own_lat7 p0) (own_lat7 p3)) 0 (by decide) (by decide) F200 (g := (mkF m 367 #[.val (.int p0), .val (.int p1), .val (.int p2), .val (.int p3), .val (.int p4), .val (.int (0 : Int32)), .val (.int (1 : Int32)), .val (.int (0 : Int32)), .val (.ref b5), .val (.ref b60), .val (.ref b115), .val (.ref b141), .val (.ref b141), .val (.int v13_168), .val (.int v14_187), .val (.int v15_189), .val (.int v16_191), .val (.long v17_192), .second, .val (.long v19_193), .second, .val (.long v21_194), .second, .unset, .unset] [(.int (1 : Int32)), (.ref b141), (.int (0 : Int32)), (.ref b115)])) rfl (by rw [hml]; rfl) (argsL := [(.int (0 : Int32)), (.ref b141), (.int (1 : Int32))]) (rest := []) (lenOf pd__ILcom_example_wakeline_wakeline_similarity_Coordinates_I_D rfl) rfl (by show 2 * 0 + _ ≤ _; exact Nat.le_of_eq rfl) (hb hby at_367) rfl eq190 (by decide) (by decide)
          obtain ⟨dr_201, rfl, N199q, eq199, dx_202⟩ := hQ199
          have N199 := Fr.app N190 N199q
          refine ogoS st199 ?_
          show OWay p e below G T199 (mkF m 370 #[.val (.int p0), .val (.int p1), .val (.int p2), .val (.int p3), .val (.int p4), .val (.int (0 : Int32)), .val (.int (1 : Int32)), .val (.int (0 : Int32)), .val (.ref b5), .val (.ref b60), .val (.ref b115), .val (.ref b141), .val (.ref b141), .val (.int v13_168), .val (.int v14_187), .val (.int v15_189), .val (.int v16_191), .val (.long v17_192), .second, .val (.long v19_193), .second, .val (.long v21_194), .second, .unset, .unset] [(.double dr_201)])
          refine ogo (fun _ z_ => XS.dstore X199.here hx rfl (hb hby at_370) rfl (l' := #[.val (.int p0), .val (.int p1), .val (.int p2), .val (.int p3), .val (.int p4), .val (.int (0 : Int32)), .val (.int (1 : Int32)), .val (.int (0 : Int32)), .val (.ref b5), .val (.ref b60), .val (.ref b115), .val (.ref b141), .val (.ref b141), .val (.int v13_168), .val (.int v14_187), .val (.int v15_189), .val (.int v16_191), .val (.long v17_192), .second, .val (.long v19_193), .second, .val (.long v21_194), .second, .val (.double dr_201), .second]) rfl z_) ?_
          show OWay p e below G T199 (mkF m 372 #[.val (.int p0), .val (.int p1), .val (.int p2), .val (.int p3), .val (.int p4), .val (.int (0 : Int32)), .val (.int (1 : Int32)), .val (.int (0 : Int32)), .val (.ref b5), .val (.ref b60), .val (.ref b115), .val (.ref b141), .val (.ref b141), .val (.int v13_168), .val (.int v14_187), .val (.int v15_189), .val (.int v16_191), .val (.long v17_192), .second, .val (.long v19_193), .second, .val (.long v21_194), .second, .val (.double dr_201), .second] [])
          refine ogo (fun _ z_ => XS.dload X199.here hx rfl (hb hby at_372) rfl z_) ?_
          show OWay p e below G T199 (mkF m 374 #[.val (.int p0), .val (.int p1), .val (.int p2), .val (.int p3), .val (.int p4), .val (.int (0 : Int32)), .val (.int (1 : Int32)), .val (.int (0 : Int32)), .val (.ref b5), .val (.ref b60), .val (.ref b115), .val (.ref b141), .val (.ref b141), .val (.int v13_168), .val (.int v14_187), .val (.int v15_189), .val (.int v16_191), .val (.long v17_192), .second, .val (.long v19_193), .second, .val (.long v21_194), .second, .val (.double dr_201), .second] [(.double dr_201)])
          have q17 := own_dl v13_168 v15_189 (lonQ p0).toInt (lonQ p3).toInt v17_192 (by rw [hv13_168]) (by rw [hv15_189]) (own_lon p0) (own_lon p3) hv17_192
          have q19 := own_dl v14_187 v16_191 (latQ p0).toInt (latQ p3).toInt v19_193 (by rw [hv14_187]) (by rw [hv16_191]) (own_lat7 p0) (own_lat7 p3) hv19_193
          have r1 := own_lon p0
          have r2 := own_lon p3
          have r3 := own_lat7 p0
          have r4 := own_lat7 p3
          have s1 := own_sq ((lonQ p0).toInt - (lonQ p3).toInt) (by omega) (by omega)
          have s2 := own_sq ((latQ p0).toInt - (latQ p3).toInt) (by omega) (by omega)
          have q21 := own_rf v17_192 v19_193 v21_194 _ _ q17 q19 s1 s2 hv21_194
          have D16 := own_q16 v21_194 (by rw [q21]; omega)
          refine ogo (fun _ z_ => XS.lload X199.here hx rfl (hb hby at_374) rfl z_) ?_
          show OWay p e below G T199 (mkF m 376 #[.val (.int p0), .val (.int p1), .val (.int p2), .val (.int p3), .val (.int p4), .val (.int (0 : Int32)), .val (.int (1 : Int32)), .val (.int (0 : Int32)), .val (.ref b5), .val (.ref b60), .val (.ref b115), .val (.ref b141), .val (.ref b141), .val (.int v13_168), .val (.int v14_187), .val (.int v15_189), .val (.int v16_191), .val (.long v17_192), .second, .val (.long v19_193), .second, .val (.long v21_194), .second, .val (.double dr_201), .second] [(.long v21_194), (.double dr_201)])
          refine ogo (fun _ z_ => XS.l2dS X199.here hx rfl (hb hby at_376) rfl rfl z_) ?_
          show OWay p e below G T199 (mkF m 377 #[.val (.int p0), .val (.int p1), .val (.int p2), .val (.int p3), .val (.int p4), .val (.int (0 : Int32)), .val (.int (1 : Int32)), .val (.int (0 : Int32)), .val (.ref b5), .val (.ref b60), .val (.ref b115), .val (.ref b141), .val (.ref b141), .val (.int v13_168), .val (.int v14_187), .val (.int v15_189), .val (.int v16_191), .val (.long v17_192), .second, .val (.long v19_193), .second, .val (.long v21_194), .second, .val (.double dr_201), .second] [(.double (FP.l2d v21_194)), (.double dr_201)])
          refine ogo (fun _ z_ => X199.ldc2DoubleC hx hown (mvT hZ (hw _ (List.mem_of_getElem? (i := 147) rfl))) (g := (mkF m 377 #[.val (.int p0), .val (.int p1), .val (.int p2), .val (.int p3), .val (.int p4), .val (.int (0 : Int32)), .val (.int (1 : Int32)), .val (.int (0 : Int32)), .val (.ref b5), .val (.ref b60), .val (.ref b115), .val (.ref b141), .val (.ref b141), .val (.int v13_168), .val (.int v14_187), .val (.int v15_189), .val (.int v16_191), .val (.long v17_192), .second, .val (.long v19_193), .second, .val (.long v21_194), .second, .val (.double dr_201), .second] [(.double (FP.l2d v21_194)), (.double dr_201)])) rfl (hb hby at_377) _ z_) ?_
          show OWay p e below G T199 (mkF m 380 #[.val (.int p0), .val (.int p1), .val (.int p2), .val (.int p3), .val (.int p4), .val (.int (0 : Int32)), .val (.int (1 : Int32)), .val (.int (0 : Int32)), .val (.ref b5), .val (.ref b60), .val (.ref b115), .val (.ref b141), .val (.ref b141), .val (.int v13_168), .val (.int v14_187), .val (.int v15_189), .val (.int v16_191), .val (.long v17_192), .second, .val (.long v19_193), .second, .val (.long v21_194), .second, .val (.double dr_201), .second] [(.double (4625196817309499392 : UInt64)), (.double (FP.l2d v21_194)), (.double dr_201)])
          refine ogo (fun _ z_ => XS.ddivS X199.here hx rfl (hb hby at_380) rfl (dy_nn D16) rfl z_) ?_
          show OWay p e below G T199 (mkF m 381 #[.val (.int p0), .val (.int p1), .val (.int p2), .val (.int p3), .val (.int p4), .val (.int (0 : Int32)), .val (.int (1 : Int32)), .val (.int (0 : Int32)), .val (.ref b5), .val (.ref b60), .val (.ref b115), .val (.ref b141), .val (.ref b141), .val (.int v13_168), .val (.int v14_187), .val (.int v15_189), .val (.int v16_191), .val (.long v17_192), .second, .val (.long v19_193), .second, .val (.long v21_194), .second, .val (.double dr_201), .second] [(.double (FP.ddiv (FP.l2d v21_194) (4625196817309499392 : UInt64))), (.double dr_201)])
          refine ogo (fun _ z_ => XS.dcmpS X199.here hx rfl (hb hby at_381) rfl rfl z_) ?_
          show OWay p e below G T199 (mkF m 382 #[.val (.int p0), .val (.int p1), .val (.int p2), .val (.int p3), .val (.int p4), .val (.int (0 : Int32)), .val (.int (1 : Int32)), .val (.int (0 : Int32)), .val (.ref b5), .val (.ref b60), .val (.ref b115), .val (.ref b141), .val (.ref b141), .val (.int v13_168), .val (.int v14_187), .val (.int v15_189), .val (.int v16_191), .val (.long v17_192), .second, .val (.long v19_193), .second, .val (.long v21_194), .second, .val (.double dr_201), .second] [(.int (cmpValue (FP.dcmp dr_201 (FP.ddiv (FP.l2d v21_194) (4625196817309499392 : UInt64))) .l))])
          refine ogo (fun _ z_ => XS.ifNo X199.here hx rfl (hb hby at_382) rfl ((if0 _ _).trans (teq (own_eq dx_202 (q21 ▸ D16))).2) z_) ?_
          show OWay p e below G T199 (mkF m 385 #[.val (.int p0), .val (.int p1), .val (.int p2), .val (.int p3), .val (.int p4), .val (.int (0 : Int32)), .val (.int (1 : Int32)), .val (.int (0 : Int32)), .val (.ref b5), .val (.ref b60), .val (.ref b115), .val (.ref b141), .val (.ref b141), .val (.int v13_168), .val (.int v14_187), .val (.int v15_189), .val (.int v16_191), .val (.long v17_192), .second, .val (.long v19_193), .second, .val (.long v21_194), .second, .val (.double dr_201), .second] [])
          refine ogo (fun _ z_ => XS.iconst X199.here hx rfl (hb hby at_385) z_) ?_
          show OWay p e below G T199 (mkF m 386 #[.val (.int p0), .val (.int p1), .val (.int p2), .val (.int p3), .val (.int p4), .val (.int (0 : Int32)), .val (.int (1 : Int32)), .val (.int (0 : Int32)), .val (.ref b5), .val (.ref b60), .val (.ref b115), .val (.ref b141), .val (.ref b141), .val (.int v13_168), .val (.int v14_187), .val (.int v15_189), .val (.int v16_191), .val (.long v17_192), .second, .val (.long v19_193), .second, .val (.long v21_194), .second, .val (.double dr_201), .second] [(.int (1 : Int32))])
          refine ogo (fun _ z_ => XS.goto X199.here hx rfl (pc0 := 386) (pc' := 390) rfl (hb hby at_386) (by decide) (by decide) z_) ?_
          show OWay p e below G T199 (mkF m 390 #[.val (.int p0), .val (.int p1), .val (.int p2), .val (.int p3), .val (.int p4), .val (.int (0 : Int32)), .val (.int (1 : Int32)), .val (.int (0 : Int32)), .val (.ref b5), .val (.ref b60), .val (.ref b115), .val (.ref b141), .val (.ref b141), .val (.int v13_168), .val (.int v14_187), .val (.int v15_189), .val (.int v16_191), .val (.long v17_192), .second, .val (.long v19_193), .second, .val (.long v21_194), .second, .val (.double dr_201), .second] [(.int (1 : Int32))])
          subst hG
          refine wRetN X199 hx (t := .boolean) hret hlk (by simp) (hb hby at_390) (by decide) (by decide) eq199 ?_
          exact ⟨rfl, N199⟩
      · show OWay p e below G T153 (mkF m 212 #[.val (.int p0), .val (.int p1), .val (.int p2), .val (.int p3), .val (.int p4), .val (.int (1 : Int32)), .val (.int v6_2), .val (.int (0 : Int32)), .val (.ref b5), .val (.ref b60), .val (.ref b115), .val (.ref b141), .val (.ref b141), .unset, .unset, .unset, .unset, .unset, .unset, .unset, .unset, .unset, .unset, .unset, .unset] [])
        refine ogo (fun _ z_ => XS.iload X153.here hx rfl (hb hby at_212) rfl z_) ?_
        show OWay p e below G T153 (mkF m 214 #[.val (.int p0), .val (.int p1), .val (.int p2), .val (.int p3), .val (.int p4), .val (.int (1 : Int32)), .val (.int v6_2), .val (.int (0 : Int32)), .val (.ref b5), .val (.ref b60), .val (.ref b115), .val (.ref b141), .val (.ref b141), .unset, .unset, .unset, .unset, .unset, .unset, .unset, .unset, .unset, .unset, .unset, .unset] [(.int (1 : Int32))])
        refine ogo (fun _ z_ => XS.ifYes X153.here hx rfl (pc0 := 214) (pc' := 224) rfl (hb hby at_214) rfl ((if0 _ _).trans (feq (by decide)).2) (by decide) (by decide) z_) ?_
        show OWay p e below G T153 (mkF m 224 #[.val (.int p0), .val (.int p1), .val (.int p2), .val (.int p3), .val (.int p4), .val (.int (1 : Int32)), .val (.int v6_2), .val (.int (0 : Int32)), .val (.ref b5), .val (.ref b60), .val (.ref b115), .val (.ref b141), .val (.ref b141), .unset, .unset, .unset, .unset, .unset, .unset, .unset, .unset, .unset, .unset, .unset, .unset] [])
        refine ogo (fun _ z_ => XS.iloadN X153.here hx rfl (hb hby at_224) rfl z_) ?_
        show OWay p e below G T153 (mkF m 225 #[.val (.int p0), .val (.int p1), .val (.int p2), .val (.int p3), .val (.int p4), .val (.int (1 : Int32)), .val (.int v6_2), .val (.int (0 : Int32)), .val (.ref b5), .val (.ref b60), .val (.ref b115), .val (.ref b141), .val (.ref b141), .unset, .unset, .unset, .unset, .unset, .unset, .unset, .unset, .unset, .unset, .unset, .unset] [(.int p1)])
        obtain ⟨_, T203, L203, X203, hQ203, st203⟩ := wStatic X153 hx hZ (y := (⟨"com/example/wakeline/wakeline/similarity/CoordinatesSquaredDistancePinLaw", "lonQ", "(I)I"⟩ : MethodName)) hown (hw _ (List.mem_of_getElem? (i := 29) rfl)) (hw _ (List.mem_of_getElem? (i := 30) rfl)) (hw _ (List.mem_of_getElem? (i := 31) rfl)) (hw _ (List.mem_of_getElem? (i := 32) rfl)) (by decide) (lonQ_b_c l Z az hw [] p1 T153.heap n0 (Nat.le_trans (Nat.le_trans (Nat.le_trans (Nat.le_trans (Nat.le_trans (Nat.le_trans (Nat.le_trans (Nat.le_trans (Nat.le_trans (Nat.le_trans (Nat.le_trans (Nat.le_trans (Nat.le_trans (Nat.le_trans (Nat.le_trans (Nat.le_trans (Nat.le_trans (Nat.le_trans (Nat.le_trans (Nat.le_trans Z0 E5.1) Kq8.1) E13.1) Kq17.1) Kq28.1) E39.1) Kq43.1) Kq54.1) E60.1) Kq63.1) E68.1) Kq72.1) Kq83.1) E94.1) Kq98.1) Kq109.1) E115.1) Kq127.1) E141.1) Kq153.1)) 0 (by decide) (by decide) (g := (mkF m 225 #[.val (.int p0), .val (.int p1), .val (.int p2), .val (.int p3), .val (.int p4), .val (.int (1 : Int32)), .val (.int v6_2), .val (.int (0 : Int32)), .val (.ref b5), .val (.ref b60), .val (.ref b115), .val (.ref b141), .val (.ref b141), .unset, .unset, .unset, .unset, .unset, .unset, .unset, .unset, .unset, .unset, .unset, .unset] [(.int p1)])) rfl (by rw [hml]; rfl) (argsL := [(.int p1)]) (rest := []) (lenOf pd__I_I rfl) rfl (by show 2 * 0 + _ ≤ _; exact Nat.le_of_eq rfl) (hb hby at_225) rfl rfl (by decide) (by decide)
        obtain ⟨rfl, N203q, eq203⟩ := hQ203
        have N203 := Fr.app N153 N203q
        refine ogo st203 ?_
        show OWay p e below G T203 (mkF m 228 #[.val (.int p0), .val (.int p1), .val (.int p2), .val (.int p3), .val (.int p4), .val (.int (1 : Int32)), .val (.int v6_2), .val (.int (0 : Int32)), .val (.ref b5), .val (.ref b60), .val (.ref b115), .val (.ref b141), .val (.ref b141), .unset, .unset, .unset, .unset, .unset, .unset, .unset, .unset, .unset, .unset, .unset, .unset] [(.int (lonQ p1))])
        suffices Jv13_204 : ∀ v13_204 : Int32, v13_204 = (lonQ p1) → OWay p e below G T203 (mkF m 228 #[.val (.int p0), .val (.int p1), .val (.int p2), .val (.int p3), .val (.int p4), .val (.int (1 : Int32)), .val (.int v6_2), .val (.int (0 : Int32)), .val (.ref b5), .val (.ref b60), .val (.ref b115), .val (.ref b141), .val (.ref b141), .unset, .unset, .unset, .unset, .unset, .unset, .unset, .unset, .unset, .unset, .unset, .unset] [(.int v13_204)]) from Jv13_204 _ rfl
        intro v13_204 hv13_204
        refine ogo (fun _ z_ => XS.istore X203.here hx rfl (hb hby at_228) rfl (l' := #[.val (.int p0), .val (.int p1), .val (.int p2), .val (.int p3), .val (.int p4), .val (.int (1 : Int32)), .val (.int v6_2), .val (.int (0 : Int32)), .val (.ref b5), .val (.ref b60), .val (.ref b115), .val (.ref b141), .val (.ref b141), .val (.int v13_204), .unset, .unset, .unset, .unset, .unset, .unset, .unset, .unset, .unset, .unset, .unset]) rfl z_) ?_
        show OWay p e below G T203 (mkF m 230 #[.val (.int p0), .val (.int p1), .val (.int p2), .val (.int p3), .val (.int p4), .val (.int (1 : Int32)), .val (.int v6_2), .val (.int (0 : Int32)), .val (.ref b5), .val (.ref b60), .val (.ref b115), .val (.ref b141), .val (.ref b141), .val (.int v13_204), .unset, .unset, .unset, .unset, .unset, .unset, .unset, .unset, .unset, .unset, .unset] [])
        rcases (own_bit _ _ hv6_2 : v6_2 = (0 : Int32) ∨ v6_2 = (1 : Int32)) with rfl | rfl
        · show OWay p e below G T203 (mkF m 230 #[.val (.int p0), .val (.int p1), .val (.int p2), .val (.int p3), .val (.int p4), .val (.int (1 : Int32)), .val (.int (0 : Int32)), .val (.int (0 : Int32)), .val (.ref b5), .val (.ref b60), .val (.ref b115), .val (.ref b141), .val (.ref b141), .val (.int v13_204), .unset, .unset, .unset, .unset, .unset, .unset, .unset, .unset, .unset, .unset, .unset] [])
          refine ogo (fun _ z_ => XS.iload X203.here hx rfl (hb hby at_230) rfl z_) ?_
          show OWay p e below G T203 (mkF m 232 #[.val (.int p0), .val (.int p1), .val (.int p2), .val (.int p3), .val (.int p4), .val (.int (1 : Int32)), .val (.int (0 : Int32)), .val (.int (0 : Int32)), .val (.ref b5), .val (.ref b60), .val (.ref b115), .val (.ref b141), .val (.ref b141), .val (.int v13_204), .unset, .unset, .unset, .unset, .unset, .unset, .unset, .unset, .unset, .unset, .unset] [(.int (1 : Int32))])
          refine ogo (fun _ z_ => XS.ifYes X203.here hx rfl (pc0 := 232) (pc' := 242) rfl (hb hby at_232) rfl ((if0 _ _).trans (feq (by decide)).2) (by decide) (by decide) z_) ?_
          show OWay p e below G T203 (mkF m 242 #[.val (.int p0), .val (.int p1), .val (.int p2), .val (.int p3), .val (.int p4), .val (.int (1 : Int32)), .val (.int (0 : Int32)), .val (.int (0 : Int32)), .val (.ref b5), .val (.ref b60), .val (.ref b115), .val (.ref b141), .val (.ref b141), .val (.int v13_204), .unset, .unset, .unset, .unset, .unset, .unset, .unset, .unset, .unset, .unset, .unset] [])
          refine ogo (fun _ z_ => XS.iloadN X203.here hx rfl (hb hby at_242) rfl z_) ?_
          show OWay p e below G T203 (mkF m 243 #[.val (.int p0), .val (.int p1), .val (.int p2), .val (.int p3), .val (.int p4), .val (.int (1 : Int32)), .val (.int (0 : Int32)), .val (.int (0 : Int32)), .val (.ref b5), .val (.ref b60), .val (.ref b115), .val (.ref b141), .val (.ref b141), .val (.int v13_204), .unset, .unset, .unset, .unset, .unset, .unset, .unset, .unset, .unset, .unset, .unset] [(.int p1)])
          obtain ⟨_, T205, L205, X205, hQ205, st205⟩ := wStatic X203 hx hZ (y := (⟨"com/example/wakeline/wakeline/similarity/CoordinatesSquaredDistancePinLaw", "latQ", "(I)I"⟩ : MethodName)) hown (hw _ (List.mem_of_getElem? (i := 35) rfl)) (hw _ (List.mem_of_getElem? (i := 36) rfl)) (hw _ (List.mem_of_getElem? (i := 31) rfl)) (hw _ (List.mem_of_getElem? (i := 37) rfl)) (by decide) (latQ_b_c l Z az hw [] p1 T153.heap n0 (Nat.le_trans (Nat.le_trans (Nat.le_trans (Nat.le_trans (Nat.le_trans (Nat.le_trans (Nat.le_trans (Nat.le_trans (Nat.le_trans (Nat.le_trans (Nat.le_trans (Nat.le_trans (Nat.le_trans (Nat.le_trans (Nat.le_trans (Nat.le_trans (Nat.le_trans (Nat.le_trans (Nat.le_trans (Nat.le_trans Z0 E5.1) Kq8.1) E13.1) Kq17.1) Kq28.1) E39.1) Kq43.1) Kq54.1) E60.1) Kq63.1) E68.1) Kq72.1) Kq83.1) E94.1) Kq98.1) Kq109.1) E115.1) Kq127.1) E141.1) Kq153.1)) 0 (by decide) (by decide) (g := (mkF m 243 #[.val (.int p0), .val (.int p1), .val (.int p2), .val (.int p3), .val (.int p4), .val (.int (1 : Int32)), .val (.int (0 : Int32)), .val (.int (0 : Int32)), .val (.ref b5), .val (.ref b60), .val (.ref b115), .val (.ref b141), .val (.ref b141), .val (.int v13_204), .unset, .unset, .unset, .unset, .unset, .unset, .unset, .unset, .unset, .unset, .unset] [(.int p1)])) rfl (by rw [hml]; rfl) (argsL := [(.int p1)]) (rest := []) (lenOf pd__I_I rfl) rfl (by show 2 * 0 + _ ≤ _; exact Nat.le_of_eq rfl) (hb hby at_243) rfl eq203 (by decide) (by decide)
          obtain ⟨rfl, N205q, eq205⟩ := hQ205
          have N205 := Fr.app N203 N205q
          refine ogo st205 ?_
          show OWay p e below G T205 (mkF m 246 #[.val (.int p0), .val (.int p1), .val (.int p2), .val (.int p3), .val (.int p4), .val (.int (1 : Int32)), .val (.int (0 : Int32)), .val (.int (0 : Int32)), .val (.ref b5), .val (.ref b60), .val (.ref b115), .val (.ref b141), .val (.ref b141), .val (.int v13_204), .unset, .unset, .unset, .unset, .unset, .unset, .unset, .unset, .unset, .unset, .unset] [(.int (latQ p1))])
          suffices Jv14_206 : ∀ v14_206 : Int32, v14_206 = (latQ p1) → OWay p e below G T205 (mkF m 246 #[.val (.int p0), .val (.int p1), .val (.int p2), .val (.int p3), .val (.int p4), .val (.int (1 : Int32)), .val (.int (0 : Int32)), .val (.int (0 : Int32)), .val (.ref b5), .val (.ref b60), .val (.ref b115), .val (.ref b141), .val (.ref b141), .val (.int v13_204), .unset, .unset, .unset, .unset, .unset, .unset, .unset, .unset, .unset, .unset, .unset] [(.int v14_206)]) from Jv14_206 _ rfl
          intro v14_206 hv14_206
          refine ogo (fun _ z_ => XS.istore X205.here hx rfl (hb hby at_246) rfl (l' := #[.val (.int p0), .val (.int p1), .val (.int p2), .val (.int p3), .val (.int p4), .val (.int (1 : Int32)), .val (.int (0 : Int32)), .val (.int (0 : Int32)), .val (.ref b5), .val (.ref b60), .val (.ref b115), .val (.ref b141), .val (.ref b141), .val (.int v13_204), .val (.int v14_206), .unset, .unset, .unset, .unset, .unset, .unset, .unset, .unset, .unset, .unset]) rfl z_) ?_
          show OWay p e below G T205 (mkF m 248 #[.val (.int p0), .val (.int p1), .val (.int p2), .val (.int p3), .val (.int p4), .val (.int (1 : Int32)), .val (.int (0 : Int32)), .val (.int (0 : Int32)), .val (.ref b5), .val (.ref b60), .val (.ref b115), .val (.ref b141), .val (.ref b141), .val (.int v13_204), .val (.int v14_206), .unset, .unset, .unset, .unset, .unset, .unset, .unset, .unset, .unset, .unset] [])
          refine ogo (fun _ z_ => XS.iload X205.here hx rfl (hb hby at_248) rfl z_) ?_
          show OWay p e below G T205 (mkF m 250 #[.val (.int p0), .val (.int p1), .val (.int p2), .val (.int p3), .val (.int p4), .val (.int (1 : Int32)), .val (.int (0 : Int32)), .val (.int (0 : Int32)), .val (.ref b5), .val (.ref b60), .val (.ref b115), .val (.ref b141), .val (.ref b141), .val (.int v13_204), .val (.int v14_206), .unset, .unset, .unset, .unset, .unset, .unset, .unset, .unset, .unset, .unset] [(.int (0 : Int32))])
          refine ogo (fun _ z_ => XS.ifYes X205.here hx rfl (pc0 := 250) (pc' := 292) rfl (hb hby at_250) rfl ((if0 _ _).trans (teq rfl).1) (by decide) (by decide) z_) ?_
          show OWay p e below G T205 (mkF m 292 #[.val (.int p0), .val (.int p1), .val (.int p2), .val (.int p3), .val (.int p4), .val (.int (1 : Int32)), .val (.int (0 : Int32)), .val (.int (0 : Int32)), .val (.ref b5), .val (.ref b60), .val (.ref b115), .val (.ref b141), .val (.ref b141), .val (.int v13_204), .val (.int v14_206), .unset, .unset, .unset, .unset, .unset, .unset, .unset, .unset, .unset, .unset] [])
          refine ogo (fun _ z_ => XS.iload X205.here hx rfl (hb hby at_292) rfl z_) ?_
          show OWay p e below G T205 (mkF m 294 #[.val (.int p0), .val (.int p1), .val (.int p2), .val (.int p3), .val (.int p4), .val (.int (1 : Int32)), .val (.int (0 : Int32)), .val (.int (0 : Int32)), .val (.ref b5), .val (.ref b60), .val (.ref b115), .val (.ref b141), .val (.ref b141), .val (.int v13_204), .val (.int v14_206), .unset, .unset, .unset, .unset, .unset, .unset, .unset, .unset, .unset, .unset] [(.int (0 : Int32))])
          refine ogo (fun _ z_ => XS.ifNo X205.here hx rfl (hb hby at_294) rfl ((if0 _ _).trans (teq rfl).2) z_) ?_
          show OWay p e below G T205 (mkF m 297 #[.val (.int p0), .val (.int p1), .val (.int p2), .val (.int p3), .val (.int p4), .val (.int (1 : Int32)), .val (.int (0 : Int32)), .val (.int (0 : Int32)), .val (.ref b5), .val (.ref b60), .val (.ref b115), .val (.ref b141), .val (.ref b141), .val (.int v13_204), .val (.int v14_206), .unset, .unset, .unset, .unset, .unset, .unset, .unset, .unset, .unset, .unset] [])
          refine ogo (fun _ z_ => XS.iloadN X205.here hx rfl (hb hby at_297) rfl z_) ?_
          show OWay p e below G T205 (mkF m 298 #[.val (.int p0), .val (.int p1), .val (.int p2), .val (.int p3), .val (.int p4), .val (.int (1 : Int32)), .val (.int (0 : Int32)), .val (.int (0 : Int32)), .val (.ref b5), .val (.ref b60), .val (.ref b115), .val (.ref b141), .val (.ref b141), .val (.int v13_204), .val (.int v14_206), .unset, .unset, .unset, .unset, .unset, .unset, .unset, .unset, .unset, .unset] [(.int p2)])
          obtain ⟨_, T207, L207, X207, hQ207, st207⟩ := wStatic X205 hx hZ (y := (⟨"com/example/wakeline/wakeline/similarity/CoordinatesSquaredDistancePinLaw", "lonQ", "(I)I"⟩ : MethodName)) hown (hw _ (List.mem_of_getElem? (i := 29) rfl)) (hw _ (List.mem_of_getElem? (i := 30) rfl)) (hw _ (List.mem_of_getElem? (i := 31) rfl)) (hw _ (List.mem_of_getElem? (i := 32) rfl)) (by decide) (lonQ_b_c l Z az hw [] p2 T153.heap n0 (Nat.le_trans (Nat.le_trans (Nat.le_trans (Nat.le_trans (Nat.le_trans (Nat.le_trans (Nat.le_trans (Nat.le_trans (Nat.le_trans (Nat.le_trans (Nat.le_trans (Nat.le_trans (Nat.le_trans (Nat.le_trans (Nat.le_trans (Nat.le_trans (Nat.le_trans (Nat.le_trans (Nat.le_trans (Nat.le_trans Z0 E5.1) Kq8.1) E13.1) Kq17.1) Kq28.1) E39.1) Kq43.1) Kq54.1) E60.1) Kq63.1) E68.1) Kq72.1) Kq83.1) E94.1) Kq98.1) Kq109.1) E115.1) Kq127.1) E141.1) Kq153.1)) 0 (by decide) (by decide) (g := (mkF m 298 #[.val (.int p0), .val (.int p1), .val (.int p2), .val (.int p3), .val (.int p4), .val (.int (1 : Int32)), .val (.int (0 : Int32)), .val (.int (0 : Int32)), .val (.ref b5), .val (.ref b60), .val (.ref b115), .val (.ref b141), .val (.ref b141), .val (.int v13_204), .val (.int v14_206), .unset, .unset, .unset, .unset, .unset, .unset, .unset, .unset, .unset, .unset] [(.int p2)])) rfl (by rw [hml]; rfl) (argsL := [(.int p2)]) (rest := []) (lenOf pd__I_I rfl) rfl (by show 2 * 0 + _ ≤ _; exact Nat.le_of_eq rfl) (hb hby at_298) rfl eq205 (by decide) (by decide)
          obtain ⟨rfl, N207q, eq207⟩ := hQ207
          have N207 := Fr.app N205 N207q
          refine ogo st207 ?_
          show OWay p e below G T207 (mkF m 301 #[.val (.int p0), .val (.int p1), .val (.int p2), .val (.int p3), .val (.int p4), .val (.int (1 : Int32)), .val (.int (0 : Int32)), .val (.int (0 : Int32)), .val (.ref b5), .val (.ref b60), .val (.ref b115), .val (.ref b141), .val (.ref b141), .val (.int v13_204), .val (.int v14_206), .unset, .unset, .unset, .unset, .unset, .unset, .unset, .unset, .unset, .unset] [(.int (lonQ p2))])
          refine ogo (fun _ z_ => XS.goto X207.here hx rfl (pc0 := 301) (pc' := 308) rfl (hb hby at_301) (by decide) (by decide) z_) ?_
          show OWay p e below G T207 (mkF m 308 #[.val (.int p0), .val (.int p1), .val (.int p2), .val (.int p3), .val (.int p4), .val (.int (1 : Int32)), .val (.int (0 : Int32)), .val (.int (0 : Int32)), .val (.ref b5), .val (.ref b60), .val (.ref b115), .val (.ref b141), .val (.ref b141), .val (.int v13_204), .val (.int v14_206), .unset, .unset, .unset, .unset, .unset, .unset, .unset, .unset, .unset, .unset] [(.int (lonQ p2))])
          suffices Jv15_208 : ∀ v15_208 : Int32, v15_208 = (lonQ p2) → OWay p e below G T207 (mkF m 308 #[.val (.int p0), .val (.int p1), .val (.int p2), .val (.int p3), .val (.int p4), .val (.int (1 : Int32)), .val (.int (0 : Int32)), .val (.int (0 : Int32)), .val (.ref b5), .val (.ref b60), .val (.ref b115), .val (.ref b141), .val (.ref b141), .val (.int v13_204), .val (.int v14_206), .unset, .unset, .unset, .unset, .unset, .unset, .unset, .unset, .unset, .unset] [(.int v15_208)]) from Jv15_208 _ rfl
          intro v15_208 hv15_208
          refine ogo (fun _ z_ => XS.istore X207.here hx rfl (hb hby at_308) rfl (l' := #[.val (.int p0), .val (.int p1), .val (.int p2), .val (.int p3), .val (.int p4), .val (.int (1 : Int32)), .val (.int (0 : Int32)), .val (.int (0 : Int32)), .val (.ref b5), .val (.ref b60), .val (.ref b115), .val (.ref b141), .val (.ref b141), .val (.int v13_204), .val (.int v14_206), .val (.int v15_208), .unset, .unset, .unset, .unset, .unset, .unset, .unset, .unset, .unset]) rfl z_) ?_
          show OWay p e below G T207 (mkF m 310 #[.val (.int p0), .val (.int p1), .val (.int p2), .val (.int p3), .val (.int p4), .val (.int (1 : Int32)), .val (.int (0 : Int32)), .val (.int (0 : Int32)), .val (.ref b5), .val (.ref b60), .val (.ref b115), .val (.ref b141), .val (.ref b141), .val (.int v13_204), .val (.int v14_206), .val (.int v15_208), .unset, .unset, .unset, .unset, .unset, .unset, .unset, .unset, .unset] [])
          refine ogo (fun _ z_ => XS.iload X207.here hx rfl (hb hby at_310) rfl z_) ?_
          show OWay p e below G T207 (mkF m 312 #[.val (.int p0), .val (.int p1), .val (.int p2), .val (.int p3), .val (.int p4), .val (.int (1 : Int32)), .val (.int (0 : Int32)), .val (.int (0 : Int32)), .val (.ref b5), .val (.ref b60), .val (.ref b115), .val (.ref b141), .val (.ref b141), .val (.int v13_204), .val (.int v14_206), .val (.int v15_208), .unset, .unset, .unset, .unset, .unset, .unset, .unset, .unset, .unset] [(.int (0 : Int32))])
          refine ogo (fun _ z_ => XS.ifNo X207.here hx rfl (hb hby at_312) rfl ((if0 _ _).trans (teq rfl).2) z_) ?_
          show OWay p e below G T207 (mkF m 315 #[.val (.int p0), .val (.int p1), .val (.int p2), .val (.int p3), .val (.int p4), .val (.int (1 : Int32)), .val (.int (0 : Int32)), .val (.int (0 : Int32)), .val (.ref b5), .val (.ref b60), .val (.ref b115), .val (.ref b141), .val (.ref b141), .val (.int v13_204), .val (.int v14_206), .val (.int v15_208), .unset, .unset, .unset, .unset, .unset, .unset, .unset, .unset, .unset] [])
          refine ogo (fun _ z_ => XS.iloadN X207.here hx rfl (hb hby at_315) rfl z_) ?_
          show OWay p e below G T207 (mkF m 316 #[.val (.int p0), .val (.int p1), .val (.int p2), .val (.int p3), .val (.int p4), .val (.int (1 : Int32)), .val (.int (0 : Int32)), .val (.int (0 : Int32)), .val (.ref b5), .val (.ref b60), .val (.ref b115), .val (.ref b141), .val (.ref b141), .val (.int v13_204), .val (.int v14_206), .val (.int v15_208), .unset, .unset, .unset, .unset, .unset, .unset, .unset, .unset, .unset] [(.int p2)])
          obtain ⟨_, T209, L209, X209, hQ209, st209⟩ := wStatic X207 hx hZ (y := (⟨"com/example/wakeline/wakeline/similarity/CoordinatesSquaredDistancePinLaw", "latQ", "(I)I"⟩ : MethodName)) hown (hw _ (List.mem_of_getElem? (i := 35) rfl)) (hw _ (List.mem_of_getElem? (i := 36) rfl)) (hw _ (List.mem_of_getElem? (i := 31) rfl)) (hw _ (List.mem_of_getElem? (i := 37) rfl)) (by decide) (latQ_b_c l Z az hw [] p2 T153.heap n0 (Nat.le_trans (Nat.le_trans (Nat.le_trans (Nat.le_trans (Nat.le_trans (Nat.le_trans (Nat.le_trans (Nat.le_trans (Nat.le_trans (Nat.le_trans (Nat.le_trans (Nat.le_trans (Nat.le_trans (Nat.le_trans (Nat.le_trans (Nat.le_trans (Nat.le_trans (Nat.le_trans (Nat.le_trans (Nat.le_trans Z0 E5.1) Kq8.1) E13.1) Kq17.1) Kq28.1) E39.1) Kq43.1) Kq54.1) E60.1) Kq63.1) E68.1) Kq72.1) Kq83.1) E94.1) Kq98.1) Kq109.1) E115.1) Kq127.1) E141.1) Kq153.1)) 0 (by decide) (by decide) (g := (mkF m 316 #[.val (.int p0), .val (.int p1), .val (.int p2), .val (.int p3), .val (.int p4), .val (.int (1 : Int32)), .val (.int (0 : Int32)), .val (.int (0 : Int32)), .val (.ref b5), .val (.ref b60), .val (.ref b115), .val (.ref b141), .val (.ref b141), .val (.int v13_204), .val (.int v14_206), .val (.int v15_208), .unset, .unset, .unset, .unset, .unset, .unset, .unset, .unset, .unset] [(.int p2)])) rfl (by rw [hml]; rfl) (argsL := [(.int p2)]) (rest := []) (lenOf pd__I_I rfl) rfl (by show 2 * 0 + _ ≤ _; exact Nat.le_of_eq rfl) (hb hby at_316) rfl eq207 (by decide) (by decide)
          obtain ⟨rfl, N209q, eq209⟩ := hQ209
          have N209 := Fr.app N207 N209q
          refine ogo st209 ?_
          show OWay p e below G T209 (mkF m 319 #[.val (.int p0), .val (.int p1), .val (.int p2), .val (.int p3), .val (.int p4), .val (.int (1 : Int32)), .val (.int (0 : Int32)), .val (.int (0 : Int32)), .val (.ref b5), .val (.ref b60), .val (.ref b115), .val (.ref b141), .val (.ref b141), .val (.int v13_204), .val (.int v14_206), .val (.int v15_208), .unset, .unset, .unset, .unset, .unset, .unset, .unset, .unset, .unset] [(.int (latQ p2))])
          refine ogo (fun _ z_ => XS.goto X209.here hx rfl (pc0 := 319) (pc' := 326) rfl (hb hby at_319) (by decide) (by decide) z_) ?_
          show OWay p e below G T209 (mkF m 326 #[.val (.int p0), .val (.int p1), .val (.int p2), .val (.int p3), .val (.int p4), .val (.int (1 : Int32)), .val (.int (0 : Int32)), .val (.int (0 : Int32)), .val (.ref b5), .val (.ref b60), .val (.ref b115), .val (.ref b141), .val (.ref b141), .val (.int v13_204), .val (.int v14_206), .val (.int v15_208), .unset, .unset, .unset, .unset, .unset, .unset, .unset, .unset, .unset] [(.int (latQ p2))])
          suffices Jv16_210 : ∀ v16_210 : Int32, v16_210 = (latQ p2) → OWay p e below G T209 (mkF m 326 #[.val (.int p0), .val (.int p1), .val (.int p2), .val (.int p3), .val (.int p4), .val (.int (1 : Int32)), .val (.int (0 : Int32)), .val (.int (0 : Int32)), .val (.ref b5), .val (.ref b60), .val (.ref b115), .val (.ref b141), .val (.ref b141), .val (.int v13_204), .val (.int v14_206), .val (.int v15_208), .unset, .unset, .unset, .unset, .unset, .unset, .unset, .unset, .unset] [(.int v16_210)]) from Jv16_210 _ rfl
          intro v16_210 hv16_210
          refine ogo (fun _ z_ => XS.istore X209.here hx rfl (hb hby at_326) rfl (l' := #[.val (.int p0), .val (.int p1), .val (.int p2), .val (.int p3), .val (.int p4), .val (.int (1 : Int32)), .val (.int (0 : Int32)), .val (.int (0 : Int32)), .val (.ref b5), .val (.ref b60), .val (.ref b115), .val (.ref b141), .val (.ref b141), .val (.int v13_204), .val (.int v14_206), .val (.int v15_208), .val (.int v16_210), .unset, .unset, .unset, .unset, .unset, .unset, .unset, .unset]) rfl z_) ?_
          show OWay p e below G T209 (mkF m 328 #[.val (.int p0), .val (.int p1), .val (.int p2), .val (.int p3), .val (.int p4), .val (.int (1 : Int32)), .val (.int (0 : Int32)), .val (.int (0 : Int32)), .val (.ref b5), .val (.ref b60), .val (.ref b115), .val (.ref b141), .val (.ref b141), .val (.int v13_204), .val (.int v14_206), .val (.int v15_208), .val (.int v16_210), .unset, .unset, .unset, .unset, .unset, .unset, .unset, .unset] [])
          refine ogo (fun _ z_ => XS.iload X209.here hx rfl (hb hby at_328) rfl z_) ?_
          show OWay p e below G T209 (mkF m 330 #[.val (.int p0), .val (.int p1), .val (.int p2), .val (.int p3), .val (.int p4), .val (.int (1 : Int32)), .val (.int (0 : Int32)), .val (.int (0 : Int32)), .val (.ref b5), .val (.ref b60), .val (.ref b115), .val (.ref b141), .val (.ref b141), .val (.int v13_204), .val (.int v14_206), .val (.int v15_208), .val (.int v16_210), .unset, .unset, .unset, .unset, .unset, .unset, .unset, .unset] [(.int v13_204)])
          refine ogo (fun _ z_ => XS.i2l X209.here hx rfl (hb hby at_330) rfl z_) ?_
          show OWay p e below G T209 (mkF m 331 #[.val (.int p0), .val (.int p1), .val (.int p2), .val (.int p3), .val (.int p4), .val (.int (1 : Int32)), .val (.int (0 : Int32)), .val (.int (0 : Int32)), .val (.ref b5), .val (.ref b60), .val (.ref b115), .val (.ref b141), .val (.ref b141), .val (.int v13_204), .val (.int v14_206), .val (.int v15_208), .val (.int v16_210), .unset, .unset, .unset, .unset, .unset, .unset, .unset, .unset] [(.long (v13_204.toInt64))])
          refine ogo (fun _ z_ => XS.iload X209.here hx rfl (hb hby at_331) rfl z_) ?_
          show OWay p e below G T209 (mkF m 333 #[.val (.int p0), .val (.int p1), .val (.int p2), .val (.int p3), .val (.int p4), .val (.int (1 : Int32)), .val (.int (0 : Int32)), .val (.int (0 : Int32)), .val (.ref b5), .val (.ref b60), .val (.ref b115), .val (.ref b141), .val (.ref b141), .val (.int v13_204), .val (.int v14_206), .val (.int v15_208), .val (.int v16_210), .unset, .unset, .unset, .unset, .unset, .unset, .unset, .unset] [(.int v15_208), (.long (v13_204.toInt64))])
          refine ogo (fun _ z_ => XS.i2l X209.here hx rfl (hb hby at_333) rfl z_) ?_
          show OWay p e below G T209 (mkF m 334 #[.val (.int p0), .val (.int p1), .val (.int p2), .val (.int p3), .val (.int p4), .val (.int (1 : Int32)), .val (.int (0 : Int32)), .val (.int (0 : Int32)), .val (.ref b5), .val (.ref b60), .val (.ref b115), .val (.ref b141), .val (.ref b141), .val (.int v13_204), .val (.int v14_206), .val (.int v15_208), .val (.int v16_210), .unset, .unset, .unset, .unset, .unset, .unset, .unset, .unset] [(.long (v15_208.toInt64)), (.long (v13_204.toInt64))])
          refine ogo (fun _ z_ => XS.lsub X209.here hx rfl (hb hby at_334) rfl z_) ?_
          show OWay p e below G T209 (mkF m 335 #[.val (.int p0), .val (.int p1), .val (.int p2), .val (.int p3), .val (.int p4), .val (.int (1 : Int32)), .val (.int (0 : Int32)), .val (.int (0 : Int32)), .val (.ref b5), .val (.ref b60), .val (.ref b115), .val (.ref b141), .val (.ref b141), .val (.int v13_204), .val (.int v14_206), .val (.int v15_208), .val (.int v16_210), .unset, .unset, .unset, .unset, .unset, .unset, .unset, .unset] [(.long ((v13_204.toInt64) - (v15_208.toInt64)))])
          suffices Jv17_211 : ∀ v17_211 : Int64, v17_211 = ((v13_204.toInt64) - (v15_208.toInt64)) → OWay p e below G T209 (mkF m 335 #[.val (.int p0), .val (.int p1), .val (.int p2), .val (.int p3), .val (.int p4), .val (.int (1 : Int32)), .val (.int (0 : Int32)), .val (.int (0 : Int32)), .val (.ref b5), .val (.ref b60), .val (.ref b115), .val (.ref b141), .val (.ref b141), .val (.int v13_204), .val (.int v14_206), .val (.int v15_208), .val (.int v16_210), .unset, .unset, .unset, .unset, .unset, .unset, .unset, .unset] [(.long v17_211)]) from Jv17_211 _ rfl
          intro v17_211 hv17_211
          refine ogo (fun _ z_ => XS.lstore X209.here hx rfl (hb hby at_335) rfl (l' := #[.val (.int p0), .val (.int p1), .val (.int p2), .val (.int p3), .val (.int p4), .val (.int (1 : Int32)), .val (.int (0 : Int32)), .val (.int (0 : Int32)), .val (.ref b5), .val (.ref b60), .val (.ref b115), .val (.ref b141), .val (.ref b141), .val (.int v13_204), .val (.int v14_206), .val (.int v15_208), .val (.int v16_210), .val (.long v17_211), .second, .unset, .unset, .unset, .unset, .unset, .unset]) rfl z_) ?_
          show OWay p e below G T209 (mkF m 337 #[.val (.int p0), .val (.int p1), .val (.int p2), .val (.int p3), .val (.int p4), .val (.int (1 : Int32)), .val (.int (0 : Int32)), .val (.int (0 : Int32)), .val (.ref b5), .val (.ref b60), .val (.ref b115), .val (.ref b141), .val (.ref b141), .val (.int v13_204), .val (.int v14_206), .val (.int v15_208), .val (.int v16_210), .val (.long v17_211), .second, .unset, .unset, .unset, .unset, .unset, .unset] [])
          refine ogo (fun _ z_ => XS.iload X209.here hx rfl (hb hby at_337) rfl z_) ?_
          show OWay p e below G T209 (mkF m 339 #[.val (.int p0), .val (.int p1), .val (.int p2), .val (.int p3), .val (.int p4), .val (.int (1 : Int32)), .val (.int (0 : Int32)), .val (.int (0 : Int32)), .val (.ref b5), .val (.ref b60), .val (.ref b115), .val (.ref b141), .val (.ref b141), .val (.int v13_204), .val (.int v14_206), .val (.int v15_208), .val (.int v16_210), .val (.long v17_211), .second, .unset, .unset, .unset, .unset, .unset, .unset] [(.int v14_206)])
          refine ogo (fun _ z_ => XS.i2l X209.here hx rfl (hb hby at_339) rfl z_) ?_
          show OWay p e below G T209 (mkF m 340 #[.val (.int p0), .val (.int p1), .val (.int p2), .val (.int p3), .val (.int p4), .val (.int (1 : Int32)), .val (.int (0 : Int32)), .val (.int (0 : Int32)), .val (.ref b5), .val (.ref b60), .val (.ref b115), .val (.ref b141), .val (.ref b141), .val (.int v13_204), .val (.int v14_206), .val (.int v15_208), .val (.int v16_210), .val (.long v17_211), .second, .unset, .unset, .unset, .unset, .unset, .unset] [(.long (v14_206.toInt64))])
          refine ogo (fun _ z_ => XS.iload X209.here hx rfl (hb hby at_340) rfl z_) ?_
          show OWay p e below G T209 (mkF m 342 #[.val (.int p0), .val (.int p1), .val (.int p2), .val (.int p3), .val (.int p4), .val (.int (1 : Int32)), .val (.int (0 : Int32)), .val (.int (0 : Int32)), .val (.ref b5), .val (.ref b60), .val (.ref b115), .val (.ref b141), .val (.ref b141), .val (.int v13_204), .val (.int v14_206), .val (.int v15_208), .val (.int v16_210), .val (.long v17_211), .second, .unset, .unset, .unset, .unset, .unset, .unset] [(.int v16_210), (.long (v14_206.toInt64))])
          refine ogo (fun _ z_ => XS.i2l X209.here hx rfl (hb hby at_342) rfl z_) ?_
          show OWay p e below G T209 (mkF m 343 #[.val (.int p0), .val (.int p1), .val (.int p2), .val (.int p3), .val (.int p4), .val (.int (1 : Int32)), .val (.int (0 : Int32)), .val (.int (0 : Int32)), .val (.ref b5), .val (.ref b60), .val (.ref b115), .val (.ref b141), .val (.ref b141), .val (.int v13_204), .val (.int v14_206), .val (.int v15_208), .val (.int v16_210), .val (.long v17_211), .second, .unset, .unset, .unset, .unset, .unset, .unset] [(.long (v16_210.toInt64)), (.long (v14_206.toInt64))])
          refine ogo (fun _ z_ => XS.lsub X209.here hx rfl (hb hby at_343) rfl z_) ?_
          show OWay p e below G T209 (mkF m 344 #[.val (.int p0), .val (.int p1), .val (.int p2), .val (.int p3), .val (.int p4), .val (.int (1 : Int32)), .val (.int (0 : Int32)), .val (.int (0 : Int32)), .val (.ref b5), .val (.ref b60), .val (.ref b115), .val (.ref b141), .val (.ref b141), .val (.int v13_204), .val (.int v14_206), .val (.int v15_208), .val (.int v16_210), .val (.long v17_211), .second, .unset, .unset, .unset, .unset, .unset, .unset] [(.long ((v14_206.toInt64) - (v16_210.toInt64)))])
          suffices Jv19_212 : ∀ v19_212 : Int64, v19_212 = ((v14_206.toInt64) - (v16_210.toInt64)) → OWay p e below G T209 (mkF m 344 #[.val (.int p0), .val (.int p1), .val (.int p2), .val (.int p3), .val (.int p4), .val (.int (1 : Int32)), .val (.int (0 : Int32)), .val (.int (0 : Int32)), .val (.ref b5), .val (.ref b60), .val (.ref b115), .val (.ref b141), .val (.ref b141), .val (.int v13_204), .val (.int v14_206), .val (.int v15_208), .val (.int v16_210), .val (.long v17_211), .second, .unset, .unset, .unset, .unset, .unset, .unset] [(.long v19_212)]) from Jv19_212 _ rfl
          intro v19_212 hv19_212
          refine ogo (fun _ z_ => XS.lstore X209.here hx rfl (hb hby at_344) rfl (l' := #[.val (.int p0), .val (.int p1), .val (.int p2), .val (.int p3), .val (.int p4), .val (.int (1 : Int32)), .val (.int (0 : Int32)), .val (.int (0 : Int32)), .val (.ref b5), .val (.ref b60), .val (.ref b115), .val (.ref b141), .val (.ref b141), .val (.int v13_204), .val (.int v14_206), .val (.int v15_208), .val (.int v16_210), .val (.long v17_211), .second, .val (.long v19_212), .second, .unset, .unset, .unset, .unset]) rfl z_) ?_
          show OWay p e below G T209 (mkF m 346 #[.val (.int p0), .val (.int p1), .val (.int p2), .val (.int p3), .val (.int p4), .val (.int (1 : Int32)), .val (.int (0 : Int32)), .val (.int (0 : Int32)), .val (.ref b5), .val (.ref b60), .val (.ref b115), .val (.ref b141), .val (.ref b141), .val (.int v13_204), .val (.int v14_206), .val (.int v15_208), .val (.int v16_210), .val (.long v17_211), .second, .val (.long v19_212), .second, .unset, .unset, .unset, .unset] [])
          refine ogo (fun _ z_ => XS.lload X209.here hx rfl (hb hby at_346) rfl z_) ?_
          show OWay p e below G T209 (mkF m 348 #[.val (.int p0), .val (.int p1), .val (.int p2), .val (.int p3), .val (.int p4), .val (.int (1 : Int32)), .val (.int (0 : Int32)), .val (.int (0 : Int32)), .val (.ref b5), .val (.ref b60), .val (.ref b115), .val (.ref b141), .val (.ref b141), .val (.int v13_204), .val (.int v14_206), .val (.int v15_208), .val (.int v16_210), .val (.long v17_211), .second, .val (.long v19_212), .second, .unset, .unset, .unset, .unset] [(.long v17_211)])
          refine ogo (fun _ z_ => XS.lload X209.here hx rfl (hb hby at_348) rfl z_) ?_
          show OWay p e below G T209 (mkF m 350 #[.val (.int p0), .val (.int p1), .val (.int p2), .val (.int p3), .val (.int p4), .val (.int (1 : Int32)), .val (.int (0 : Int32)), .val (.int (0 : Int32)), .val (.ref b5), .val (.ref b60), .val (.ref b115), .val (.ref b141), .val (.ref b141), .val (.int v13_204), .val (.int v14_206), .val (.int v15_208), .val (.int v16_210), .val (.long v17_211), .second, .val (.long v19_212), .second, .unset, .unset, .unset, .unset] [(.long v17_211), (.long v17_211)])
          refine ogo (fun _ z_ => XS.lmul X209.here hx rfl (hb hby at_350) rfl z_) ?_
          show OWay p e below G T209 (mkF m 351 #[.val (.int p0), .val (.int p1), .val (.int p2), .val (.int p3), .val (.int p4), .val (.int (1 : Int32)), .val (.int (0 : Int32)), .val (.int (0 : Int32)), .val (.ref b5), .val (.ref b60), .val (.ref b115), .val (.ref b141), .val (.ref b141), .val (.int v13_204), .val (.int v14_206), .val (.int v15_208), .val (.int v16_210), .val (.long v17_211), .second, .val (.long v19_212), .second, .unset, .unset, .unset, .unset] [(.long (v17_211 * v17_211))])
          refine ogo (fun _ z_ => XS.lload X209.here hx rfl (hb hby at_351) rfl z_) ?_
          show OWay p e below G T209 (mkF m 353 #[.val (.int p0), .val (.int p1), .val (.int p2), .val (.int p3), .val (.int p4), .val (.int (1 : Int32)), .val (.int (0 : Int32)), .val (.int (0 : Int32)), .val (.ref b5), .val (.ref b60), .val (.ref b115), .val (.ref b141), .val (.ref b141), .val (.int v13_204), .val (.int v14_206), .val (.int v15_208), .val (.int v16_210), .val (.long v17_211), .second, .val (.long v19_212), .second, .unset, .unset, .unset, .unset] [(.long v19_212), (.long (v17_211 * v17_211))])
          refine ogo (fun _ z_ => XS.lload X209.here hx rfl (hb hby at_353) rfl z_) ?_
          show OWay p e below G T209 (mkF m 355 #[.val (.int p0), .val (.int p1), .val (.int p2), .val (.int p3), .val (.int p4), .val (.int (1 : Int32)), .val (.int (0 : Int32)), .val (.int (0 : Int32)), .val (.ref b5), .val (.ref b60), .val (.ref b115), .val (.ref b141), .val (.ref b141), .val (.int v13_204), .val (.int v14_206), .val (.int v15_208), .val (.int v16_210), .val (.long v17_211), .second, .val (.long v19_212), .second, .unset, .unset, .unset, .unset] [(.long v19_212), (.long v19_212), (.long (v17_211 * v17_211))])
          refine ogo (fun _ z_ => XS.lmul X209.here hx rfl (hb hby at_355) rfl z_) ?_
          show OWay p e below G T209 (mkF m 356 #[.val (.int p0), .val (.int p1), .val (.int p2), .val (.int p3), .val (.int p4), .val (.int (1 : Int32)), .val (.int (0 : Int32)), .val (.int (0 : Int32)), .val (.ref b5), .val (.ref b60), .val (.ref b115), .val (.ref b141), .val (.ref b141), .val (.int v13_204), .val (.int v14_206), .val (.int v15_208), .val (.int v16_210), .val (.long v17_211), .second, .val (.long v19_212), .second, .unset, .unset, .unset, .unset] [(.long (v19_212 * v19_212)), (.long (v17_211 * v17_211))])
          refine ogo (fun _ z_ => XS.ladd X209.here hx rfl (hb hby at_356) rfl z_) ?_
          show OWay p e below G T209 (mkF m 357 #[.val (.int p0), .val (.int p1), .val (.int p2), .val (.int p3), .val (.int p4), .val (.int (1 : Int32)), .val (.int (0 : Int32)), .val (.int (0 : Int32)), .val (.ref b5), .val (.ref b60), .val (.ref b115), .val (.ref b141), .val (.ref b141), .val (.int v13_204), .val (.int v14_206), .val (.int v15_208), .val (.int v16_210), .val (.long v17_211), .second, .val (.long v19_212), .second, .unset, .unset, .unset, .unset] [(.long ((v17_211 * v17_211) + (v19_212 * v19_212)))])
          suffices Jv21_213 : ∀ v21_213 : Int64, v21_213 = ((v17_211 * v17_211) + (v19_212 * v19_212)) → OWay p e below G T209 (mkF m 357 #[.val (.int p0), .val (.int p1), .val (.int p2), .val (.int p3), .val (.int p4), .val (.int (1 : Int32)), .val (.int (0 : Int32)), .val (.int (0 : Int32)), .val (.ref b5), .val (.ref b60), .val (.ref b115), .val (.ref b141), .val (.ref b141), .val (.int v13_204), .val (.int v14_206), .val (.int v15_208), .val (.int v16_210), .val (.long v17_211), .second, .val (.long v19_212), .second, .unset, .unset, .unset, .unset] [(.long v21_213)]) from Jv21_213 _ rfl
          intro v21_213 hv21_213
          refine ogo (fun _ z_ => XS.lstore X209.here hx rfl (hb hby at_357) rfl (l' := #[.val (.int p0), .val (.int p1), .val (.int p2), .val (.int p3), .val (.int p4), .val (.int (1 : Int32)), .val (.int (0 : Int32)), .val (.int (0 : Int32)), .val (.ref b5), .val (.ref b60), .val (.ref b115), .val (.ref b141), .val (.ref b141), .val (.int v13_204), .val (.int v14_206), .val (.int v15_208), .val (.int v16_210), .val (.long v17_211), .second, .val (.long v19_212), .second, .val (.long v21_213), .second, .unset, .unset]) rfl z_) ?_
          show OWay p e below G T209 (mkF m 359 #[.val (.int p0), .val (.int p1), .val (.int p2), .val (.int p3), .val (.int p4), .val (.int (1 : Int32)), .val (.int (0 : Int32)), .val (.int (0 : Int32)), .val (.ref b5), .val (.ref b60), .val (.ref b115), .val (.ref b141), .val (.ref b141), .val (.int v13_204), .val (.int v14_206), .val (.int v15_208), .val (.int v16_210), .val (.long v17_211), .second, .val (.long v19_212), .second, .val (.long v21_213), .second, .unset, .unset] [])
          refine ogo (fun _ z_ => XS.aload X209.here hx rfl (hb hby at_359) rfl rfl z_) ?_
          show OWay p e below G T209 (mkF m 361 #[.val (.int p0), .val (.int p1), .val (.int p2), .val (.int p3), .val (.int p4), .val (.int (1 : Int32)), .val (.int (0 : Int32)), .val (.int (0 : Int32)), .val (.ref b5), .val (.ref b60), .val (.ref b115), .val (.ref b141), .val (.ref b141), .val (.int v13_204), .val (.int v14_206), .val (.int v15_208), .val (.int v16_210), .val (.long v17_211), .second, .val (.long v19_212), .second, .val (.long v21_213), .second, .unset, .unset] [(.ref b115)])
          refine ogo (fun _ z_ => XS.iload X209.here hx rfl (hb hby at_361) rfl z_) ?_
          show OWay p e below G T209 (mkF m 363 #[.val (.int p0), .val (.int p1), .val (.int p2), .val (.int p3), .val (.int p4), .val (.int (1 : Int32)), .val (.int (0 : Int32)), .val (.int (0 : Int32)), .val (.ref b5), .val (.ref b60), .val (.ref b115), .val (.ref b141), .val (.ref b141), .val (.int v13_204), .val (.int v14_206), .val (.int v15_208), .val (.int v16_210), .val (.long v17_211), .second, .val (.long v19_212), .second, .val (.long v21_213), .second, .unset, .unset] [(.int (1 : Int32)), (.ref b115)])
          refine ogo (fun _ z_ => XS.aload X209.here hx rfl (hb hby at_363) rfl rfl z_) ?_
          show OWay p e below G T209 (mkF m 365 #[.val (.int p0), .val (.int p1), .val (.int p2), .val (.int p3), .val (.int p4), .val (.int (1 : Int32)), .val (.int (0 : Int32)), .val (.int (0 : Int32)), .val (.ref b5), .val (.ref b60), .val (.ref b115), .val (.ref b141), .val (.ref b141), .val (.int v13_204), .val (.int v14_206), .val (.int v15_208), .val (.int v16_210), .val (.long v17_211), .second, .val (.long v19_212), .second, .val (.long v21_213), .second, .unset, .unset] [(.ref b141), (.int (1 : Int32)), (.ref b115)])
          refine ogo (fun _ z_ => XS.iload X209.here hx rfl (hb hby at_365) rfl z_) ?_
          show OWay p e below G T209 (mkF m 367 #[.val (.int p0), .val (.int p1), .val (.int p2), .val (.int p3), .val (.int p4), .val (.int (1 : Int32)), .val (.int (0 : Int32)), .val (.int (0 : Int32)), .val (.ref b5), .val (.ref b60), .val (.ref b115), .val (.ref b141), .val (.ref b141), .val (.int v13_204), .val (.int v14_206), .val (.int v15_208), .val (.int v16_210), .val (.long v17_211), .second, .val (.long v19_212), .second, .val (.long v21_213), .second, .unset, .unset] [(.int (0 : Int32)), (.ref b141), (.int (1 : Int32)), (.ref b115)])
          have F214 : Fld Z T153.heap b115 "com/example/wakeline/wakeline/similarity/Coordinates" "longitudes" "[D" (.ref lo_128) := ((P138.ext E141).keep Kq153 (ninS (Nat.ne_of_lt (Nat.lt_of_lt_of_le P138.lt (Nat.le_of_eq g141.symm))) nin0))
          have F215 : Fld Z T153.heap b115 "com/example/wakeline/wakeline/similarity/Coordinates" "latitudes" "[D" (.ref la_129) := ((P139.ext E141).keep Kq153 (ninS (Nat.ne_of_lt (Nat.lt_of_lt_of_le P139.lt (Nat.le_of_eq g141.symm))) nin0))
          have F216 : Arv Z T153.heap lo_128 kl_130 .double (2 : Int32) [(.double (FP.ddiv (FP.i2d (lonQ p0)) (4616189618054758400 : UInt64))), (.double (FP.ddiv (FP.i2d (lonQ p1)) (4616189618054758400 : UInt64)))] (.double (0 : UInt64)) := ((P136.ext E141).keep Kq153 (ninS (Nat.ne_of_lt (Nat.lt_of_lt_of_le P136.lt (Nat.le_of_eq g141.symm))) nin0))
          have F217 : Arv Z T153.heap la_129 ka_131 .double (2 : Int32) [(.double (FP.ddiv (FP.i2d (latQ p0)) (4616189618054758400 : UInt64))), (.double (FP.ddiv (FP.i2d (latQ p1)) (4616189618054758400 : UInt64)))] (.double (0 : UInt64)) := ((P137.ext E141).keep Kq153 (ninS (Nat.ne_of_lt (Nat.lt_of_lt_of_le P137.lt (Nat.le_of_eq g141.symm))) nin0))
          have F219 : Exa Z T153.heap b115 "com/example/wakeline/wakeline/similarity/Coordinates" := (((A115.keep Kq127).ext E141).keep Kq153)
          obtain ⟨_, T218, L218, X218, hQ218, st218⟩ := wVirtual X209 hx hZ (y := (⟨"com/example/wakeline/wakeline/similarity/Coordinates", "squaredDistance", "(ILcom/example/wakeline/wakeline/similarity/Coordinates;I)D"⟩ : MethodName)) (z := (⟨"com/example/wakeline/wakeline/similarity/Coordinates", "squaredDistance", "(ILcom/example/wakeline/wakeline/similarity/Coordinates;I)D"⟩ : MethodName)) hown (hw _ (List.mem_of_getElem? (i := 142) rfl)) (hw _ (List.mem_of_getElem? (i := 143) rfl)) (notFace_of_selects (args := #[]) (mvT hZ (hw _ (List.mem_of_getElem? (i := 145) rfl)))) (hw _ (List.mem_of_getElem? (i := 145) rfl)) (hw _ (List.mem_of_getElem? (i := 144) rfl)) (hw _ (List.mem_of_getElem? (i := 90) rfl)) (hw _ (List.mem_of_getElem? (i := 146) rfl)) (by decide) (sd10_c l Z az hw [] b115 b141 lo_128 la_129 kl_130 ka_131 lo_154 la_155 kl_156 ka_157 (FP.ddiv (FP.i2d (lonQ p0)) (4616189618054758400 : UInt64)) (FP.ddiv (FP.i2d (lonQ p1)) (4616189618054758400 : UInt64)) (FP.ddiv (FP.i2d (latQ p0)) (4616189618054758400 : UInt64)) (FP.ddiv (FP.i2d (latQ p1)) (4616189618054758400 : UInt64)) (FP.ddiv (FP.i2d (lonQ p2)) (4616189618054758400 : UInt64)) (FP.ddiv (FP.i2d (lonQ p3)) (4616189618054758400 : UInt64)) (FP.ddiv (FP.i2d (latQ p2)) (4616189618054758400 : UInt64)) (FP.ddiv (FP.i2d (latQ p3)) (4616189618054758400 : UInt64)) (lonQ p1).toInt (lonQ p2).toInt (latQ p1).toInt (latQ p2).toInt T153.heap n0 (Nat.le_trans (Nat.le_trans (Nat.le_trans (Nat.le_trans (Nat.le_trans (Nat.le_trans (Nat.le_trans (Nat.le_trans (Nat.le_trans (Nat.le_trans (Nat.le_trans (Nat.le_trans (Nat.le_trans (Nat.le_trans (Nat.le_trans (Nat.le_trans (Nat.le_trans (Nat.le_trans (Nat.le_trans (Nat.le_trans Z0 E5.1) Kq8.1) E13.1) Kq17.1) Kq28.1) E39.1) Kq43.1) Kq54.1) E60.1) Kq63.1) E68.1) Kq72.1) Kq83.1) E94.1) Kq98.1) Kq109.1) E115.1) Kq127.1) E141.1) Kq153.1) F214 F215 F216 F217 P164 P165 P162 P163 (own_q4 (lonQ p1)) (own_q4 (lonQ p2)) (own_q4 (latQ p1)) (own_q4 (latQ p2)) (own_lon p1) (own_lon p2) (own_lat7 p1) (own_lat7 p2)) 0 (by decide) (by decide) F219 (g := (mkF m 367 #[.val (.int p0), .val (.int p1), .val (.int p2), .val (.int p3), .val (.int p4), .val (.int (1 : Int32)), .val (.int (0 : Int32)), .val (.int (0 : Int32)), .val (.ref b5), .val (.ref b60), .val (.ref b115), .val (.ref b141), .val (.ref b141), .val (.int v13_204), .val (.int v14_206), .val (.int v15_208), .val (.int v16_210), .val (.long v17_211), .second, .val (.long v19_212), .second, .val (.long v21_213), .second, .unset, .unset] [(.int (0 : Int32)), (.ref b141), (.int (1 : Int32)), (.ref b115)])) rfl (by rw [hml]; rfl) (argsL := [(.int (1 : Int32)), (.ref b141), (.int (0 : Int32))]) (rest := []) (lenOf pd__ILcom_example_wakeline_wakeline_similarity_Coordinates_I_D rfl) rfl (by show 2 * 0 + _ ≤ _; exact Nat.le_of_eq rfl) (hb hby at_367) rfl eq209 (by decide) (by decide)
          obtain ⟨dr_220, rfl, N218q, eq218, dx_221⟩ := hQ218
          have N218 := Fr.app N209 N218q
          refine ogoS st218 ?_
          show OWay p e below G T218 (mkF m 370 #[.val (.int p0), .val (.int p1), .val (.int p2), .val (.int p3), .val (.int p4), .val (.int (1 : Int32)), .val (.int (0 : Int32)), .val (.int (0 : Int32)), .val (.ref b5), .val (.ref b60), .val (.ref b115), .val (.ref b141), .val (.ref b141), .val (.int v13_204), .val (.int v14_206), .val (.int v15_208), .val (.int v16_210), .val (.long v17_211), .second, .val (.long v19_212), .second, .val (.long v21_213), .second, .unset, .unset] [(.double dr_220)])
          refine ogo (fun _ z_ => XS.dstore X218.here hx rfl (hb hby at_370) rfl (l' := #[.val (.int p0), .val (.int p1), .val (.int p2), .val (.int p3), .val (.int p4), .val (.int (1 : Int32)), .val (.int (0 : Int32)), .val (.int (0 : Int32)), .val (.ref b5), .val (.ref b60), .val (.ref b115), .val (.ref b141), .val (.ref b141), .val (.int v13_204), .val (.int v14_206), .val (.int v15_208), .val (.int v16_210), .val (.long v17_211), .second, .val (.long v19_212), .second, .val (.long v21_213), .second, .val (.double dr_220), .second]) rfl z_) ?_
          show OWay p e below G T218 (mkF m 372 #[.val (.int p0), .val (.int p1), .val (.int p2), .val (.int p3), .val (.int p4), .val (.int (1 : Int32)), .val (.int (0 : Int32)), .val (.int (0 : Int32)), .val (.ref b5), .val (.ref b60), .val (.ref b115), .val (.ref b141), .val (.ref b141), .val (.int v13_204), .val (.int v14_206), .val (.int v15_208), .val (.int v16_210), .val (.long v17_211), .second, .val (.long v19_212), .second, .val (.long v21_213), .second, .val (.double dr_220), .second] [])
          refine ogo (fun _ z_ => XS.dload X218.here hx rfl (hb hby at_372) rfl z_) ?_
          show OWay p e below G T218 (mkF m 374 #[.val (.int p0), .val (.int p1), .val (.int p2), .val (.int p3), .val (.int p4), .val (.int (1 : Int32)), .val (.int (0 : Int32)), .val (.int (0 : Int32)), .val (.ref b5), .val (.ref b60), .val (.ref b115), .val (.ref b141), .val (.ref b141), .val (.int v13_204), .val (.int v14_206), .val (.int v15_208), .val (.int v16_210), .val (.long v17_211), .second, .val (.long v19_212), .second, .val (.long v21_213), .second, .val (.double dr_220), .second] [(.double dr_220)])
          have q17 := own_dl v13_204 v15_208 (lonQ p1).toInt (lonQ p2).toInt v17_211 (by rw [hv13_204]) (by rw [hv15_208]) (own_lon p1) (own_lon p2) hv17_211
          have q19 := own_dl v14_206 v16_210 (latQ p1).toInt (latQ p2).toInt v19_212 (by rw [hv14_206]) (by rw [hv16_210]) (own_lat7 p1) (own_lat7 p2) hv19_212
          have r1 := own_lon p1
          have r2 := own_lon p2
          have r3 := own_lat7 p1
          have r4 := own_lat7 p2
          have s1 := own_sq ((lonQ p1).toInt - (lonQ p2).toInt) (by omega) (by omega)
          have s2 := own_sq ((latQ p1).toInt - (latQ p2).toInt) (by omega) (by omega)
          have q21 := own_rf v17_211 v19_212 v21_213 _ _ q17 q19 s1 s2 hv21_213
          have D16 := own_q16 v21_213 (by rw [q21]; omega)
          refine ogo (fun _ z_ => XS.lload X218.here hx rfl (hb hby at_374) rfl z_) ?_
          show OWay p e below G T218 (mkF m 376 #[.val (.int p0), .val (.int p1), .val (.int p2), .val (.int p3), .val (.int p4), .val (.int (1 : Int32)), .val (.int (0 : Int32)), .val (.int (0 : Int32)), .val (.ref b5), .val (.ref b60), .val (.ref b115), .val (.ref b141), .val (.ref b141), .val (.int v13_204), .val (.int v14_206), .val (.int v15_208), .val (.int v16_210), .val (.long v17_211), .second, .val (.long v19_212), .second, .val (.long v21_213), .second, .val (.double dr_220), .second] [(.long v21_213), (.double dr_220)])
          refine ogo (fun _ z_ => XS.l2dS X218.here hx rfl (hb hby at_376) rfl rfl z_) ?_
          show OWay p e below G T218 (mkF m 377 #[.val (.int p0), .val (.int p1), .val (.int p2), .val (.int p3), .val (.int p4), .val (.int (1 : Int32)), .val (.int (0 : Int32)), .val (.int (0 : Int32)), .val (.ref b5), .val (.ref b60), .val (.ref b115), .val (.ref b141), .val (.ref b141), .val (.int v13_204), .val (.int v14_206), .val (.int v15_208), .val (.int v16_210), .val (.long v17_211), .second, .val (.long v19_212), .second, .val (.long v21_213), .second, .val (.double dr_220), .second] [(.double (FP.l2d v21_213)), (.double dr_220)])
          refine ogo (fun _ z_ => X218.ldc2DoubleC hx hown (mvT hZ (hw _ (List.mem_of_getElem? (i := 147) rfl))) (g := (mkF m 377 #[.val (.int p0), .val (.int p1), .val (.int p2), .val (.int p3), .val (.int p4), .val (.int (1 : Int32)), .val (.int (0 : Int32)), .val (.int (0 : Int32)), .val (.ref b5), .val (.ref b60), .val (.ref b115), .val (.ref b141), .val (.ref b141), .val (.int v13_204), .val (.int v14_206), .val (.int v15_208), .val (.int v16_210), .val (.long v17_211), .second, .val (.long v19_212), .second, .val (.long v21_213), .second, .val (.double dr_220), .second] [(.double (FP.l2d v21_213)), (.double dr_220)])) rfl (hb hby at_377) _ z_) ?_
          show OWay p e below G T218 (mkF m 380 #[.val (.int p0), .val (.int p1), .val (.int p2), .val (.int p3), .val (.int p4), .val (.int (1 : Int32)), .val (.int (0 : Int32)), .val (.int (0 : Int32)), .val (.ref b5), .val (.ref b60), .val (.ref b115), .val (.ref b141), .val (.ref b141), .val (.int v13_204), .val (.int v14_206), .val (.int v15_208), .val (.int v16_210), .val (.long v17_211), .second, .val (.long v19_212), .second, .val (.long v21_213), .second, .val (.double dr_220), .second] [(.double (4625196817309499392 : UInt64)), (.double (FP.l2d v21_213)), (.double dr_220)])
          refine ogo (fun _ z_ => XS.ddivS X218.here hx rfl (hb hby at_380) rfl (dy_nn D16) rfl z_) ?_
          show OWay p e below G T218 (mkF m 381 #[.val (.int p0), .val (.int p1), .val (.int p2), .val (.int p3), .val (.int p4), .val (.int (1 : Int32)), .val (.int (0 : Int32)), .val (.int (0 : Int32)), .val (.ref b5), .val (.ref b60), .val (.ref b115), .val (.ref b141), .val (.ref b141), .val (.int v13_204), .val (.int v14_206), .val (.int v15_208), .val (.int v16_210), .val (.long v17_211), .second, .val (.long v19_212), .second, .val (.long v21_213), .second, .val (.double dr_220), .second] [(.double (FP.ddiv (FP.l2d v21_213) (4625196817309499392 : UInt64))), (.double dr_220)])
          refine ogo (fun _ z_ => XS.dcmpS X218.here hx rfl (hb hby at_381) rfl rfl z_) ?_
          show OWay p e below G T218 (mkF m 382 #[.val (.int p0), .val (.int p1), .val (.int p2), .val (.int p3), .val (.int p4), .val (.int (1 : Int32)), .val (.int (0 : Int32)), .val (.int (0 : Int32)), .val (.ref b5), .val (.ref b60), .val (.ref b115), .val (.ref b141), .val (.ref b141), .val (.int v13_204), .val (.int v14_206), .val (.int v15_208), .val (.int v16_210), .val (.long v17_211), .second, .val (.long v19_212), .second, .val (.long v21_213), .second, .val (.double dr_220), .second] [(.int (cmpValue (FP.dcmp dr_220 (FP.ddiv (FP.l2d v21_213) (4625196817309499392 : UInt64))) .l))])
          refine ogo (fun _ z_ => XS.ifNo X218.here hx rfl (hb hby at_382) rfl ((if0 _ _).trans (teq (own_eq dx_221 (q21 ▸ D16))).2) z_) ?_
          show OWay p e below G T218 (mkF m 385 #[.val (.int p0), .val (.int p1), .val (.int p2), .val (.int p3), .val (.int p4), .val (.int (1 : Int32)), .val (.int (0 : Int32)), .val (.int (0 : Int32)), .val (.ref b5), .val (.ref b60), .val (.ref b115), .val (.ref b141), .val (.ref b141), .val (.int v13_204), .val (.int v14_206), .val (.int v15_208), .val (.int v16_210), .val (.long v17_211), .second, .val (.long v19_212), .second, .val (.long v21_213), .second, .val (.double dr_220), .second] [])
          refine ogo (fun _ z_ => XS.iconst X218.here hx rfl (hb hby at_385) z_) ?_
          show OWay p e below G T218 (mkF m 386 #[.val (.int p0), .val (.int p1), .val (.int p2), .val (.int p3), .val (.int p4), .val (.int (1 : Int32)), .val (.int (0 : Int32)), .val (.int (0 : Int32)), .val (.ref b5), .val (.ref b60), .val (.ref b115), .val (.ref b141), .val (.ref b141), .val (.int v13_204), .val (.int v14_206), .val (.int v15_208), .val (.int v16_210), .val (.long v17_211), .second, .val (.long v19_212), .second, .val (.long v21_213), .second, .val (.double dr_220), .second] [(.int (1 : Int32))])
          refine ogo (fun _ z_ => XS.goto X218.here hx rfl (pc0 := 386) (pc' := 390) rfl (hb hby at_386) (by decide) (by decide) z_) ?_
          show OWay p e below G T218 (mkF m 390 #[.val (.int p0), .val (.int p1), .val (.int p2), .val (.int p3), .val (.int p4), .val (.int (1 : Int32)), .val (.int (0 : Int32)), .val (.int (0 : Int32)), .val (.ref b5), .val (.ref b60), .val (.ref b115), .val (.ref b141), .val (.ref b141), .val (.int v13_204), .val (.int v14_206), .val (.int v15_208), .val (.int v16_210), .val (.long v17_211), .second, .val (.long v19_212), .second, .val (.long v21_213), .second, .val (.double dr_220), .second] [(.int (1 : Int32))])
          subst hG
          refine wRetN X218 hx (t := .boolean) hret hlk (by simp) (hb hby at_390) (by decide) (by decide) eq218 ?_
          exact ⟨rfl, N218⟩
        · show OWay p e below G T203 (mkF m 230 #[.val (.int p0), .val (.int p1), .val (.int p2), .val (.int p3), .val (.int p4), .val (.int (1 : Int32)), .val (.int (1 : Int32)), .val (.int (0 : Int32)), .val (.ref b5), .val (.ref b60), .val (.ref b115), .val (.ref b141), .val (.ref b141), .val (.int v13_204), .unset, .unset, .unset, .unset, .unset, .unset, .unset, .unset, .unset, .unset, .unset] [])
          refine ogo (fun _ z_ => XS.iload X203.here hx rfl (hb hby at_230) rfl z_) ?_
          show OWay p e below G T203 (mkF m 232 #[.val (.int p0), .val (.int p1), .val (.int p2), .val (.int p3), .val (.int p4), .val (.int (1 : Int32)), .val (.int (1 : Int32)), .val (.int (0 : Int32)), .val (.ref b5), .val (.ref b60), .val (.ref b115), .val (.ref b141), .val (.ref b141), .val (.int v13_204), .unset, .unset, .unset, .unset, .unset, .unset, .unset, .unset, .unset, .unset, .unset] [(.int (1 : Int32))])
          refine ogo (fun _ z_ => XS.ifYes X203.here hx rfl (pc0 := 232) (pc' := 242) rfl (hb hby at_232) rfl ((if0 _ _).trans (feq (by decide)).2) (by decide) (by decide) z_) ?_
          show OWay p e below G T203 (mkF m 242 #[.val (.int p0), .val (.int p1), .val (.int p2), .val (.int p3), .val (.int p4), .val (.int (1 : Int32)), .val (.int (1 : Int32)), .val (.int (0 : Int32)), .val (.ref b5), .val (.ref b60), .val (.ref b115), .val (.ref b141), .val (.ref b141), .val (.int v13_204), .unset, .unset, .unset, .unset, .unset, .unset, .unset, .unset, .unset, .unset, .unset] [])
          refine ogo (fun _ z_ => XS.iloadN X203.here hx rfl (hb hby at_242) rfl z_) ?_
          show OWay p e below G T203 (mkF m 243 #[.val (.int p0), .val (.int p1), .val (.int p2), .val (.int p3), .val (.int p4), .val (.int (1 : Int32)), .val (.int (1 : Int32)), .val (.int (0 : Int32)), .val (.ref b5), .val (.ref b60), .val (.ref b115), .val (.ref b141), .val (.ref b141), .val (.int v13_204), .unset, .unset, .unset, .unset, .unset, .unset, .unset, .unset, .unset, .unset, .unset] [(.int p1)])
          obtain ⟨_, T222, L222, X222, hQ222, st222⟩ := wStatic X203 hx hZ (y := (⟨"com/example/wakeline/wakeline/similarity/CoordinatesSquaredDistancePinLaw", "latQ", "(I)I"⟩ : MethodName)) hown (hw _ (List.mem_of_getElem? (i := 35) rfl)) (hw _ (List.mem_of_getElem? (i := 36) rfl)) (hw _ (List.mem_of_getElem? (i := 31) rfl)) (hw _ (List.mem_of_getElem? (i := 37) rfl)) (by decide) (latQ_b_c l Z az hw [] p1 T153.heap n0 (Nat.le_trans (Nat.le_trans (Nat.le_trans (Nat.le_trans (Nat.le_trans (Nat.le_trans (Nat.le_trans (Nat.le_trans (Nat.le_trans (Nat.le_trans (Nat.le_trans (Nat.le_trans (Nat.le_trans (Nat.le_trans (Nat.le_trans (Nat.le_trans (Nat.le_trans (Nat.le_trans (Nat.le_trans (Nat.le_trans Z0 E5.1) Kq8.1) E13.1) Kq17.1) Kq28.1) E39.1) Kq43.1) Kq54.1) E60.1) Kq63.1) E68.1) Kq72.1) Kq83.1) E94.1) Kq98.1) Kq109.1) E115.1) Kq127.1) E141.1) Kq153.1)) 0 (by decide) (by decide) (g := (mkF m 243 #[.val (.int p0), .val (.int p1), .val (.int p2), .val (.int p3), .val (.int p4), .val (.int (1 : Int32)), .val (.int (1 : Int32)), .val (.int (0 : Int32)), .val (.ref b5), .val (.ref b60), .val (.ref b115), .val (.ref b141), .val (.ref b141), .val (.int v13_204), .unset, .unset, .unset, .unset, .unset, .unset, .unset, .unset, .unset, .unset, .unset] [(.int p1)])) rfl (by rw [hml]; rfl) (argsL := [(.int p1)]) (rest := []) (lenOf pd__I_I rfl) rfl (by show 2 * 0 + _ ≤ _; exact Nat.le_of_eq rfl) (hb hby at_243) rfl eq203 (by decide) (by decide)
          obtain ⟨rfl, N222q, eq222⟩ := hQ222
          have N222 := Fr.app N203 N222q
          refine ogo st222 ?_
          show OWay p e below G T222 (mkF m 246 #[.val (.int p0), .val (.int p1), .val (.int p2), .val (.int p3), .val (.int p4), .val (.int (1 : Int32)), .val (.int (1 : Int32)), .val (.int (0 : Int32)), .val (.ref b5), .val (.ref b60), .val (.ref b115), .val (.ref b141), .val (.ref b141), .val (.int v13_204), .unset, .unset, .unset, .unset, .unset, .unset, .unset, .unset, .unset, .unset, .unset] [(.int (latQ p1))])
          suffices Jv14_223 : ∀ v14_223 : Int32, v14_223 = (latQ p1) → OWay p e below G T222 (mkF m 246 #[.val (.int p0), .val (.int p1), .val (.int p2), .val (.int p3), .val (.int p4), .val (.int (1 : Int32)), .val (.int (1 : Int32)), .val (.int (0 : Int32)), .val (.ref b5), .val (.ref b60), .val (.ref b115), .val (.ref b141), .val (.ref b141), .val (.int v13_204), .unset, .unset, .unset, .unset, .unset, .unset, .unset, .unset, .unset, .unset, .unset] [(.int v14_223)]) from Jv14_223 _ rfl
          intro v14_223 hv14_223
          refine ogo (fun _ z_ => XS.istore X222.here hx rfl (hb hby at_246) rfl (l' := #[.val (.int p0), .val (.int p1), .val (.int p2), .val (.int p3), .val (.int p4), .val (.int (1 : Int32)), .val (.int (1 : Int32)), .val (.int (0 : Int32)), .val (.ref b5), .val (.ref b60), .val (.ref b115), .val (.ref b141), .val (.ref b141), .val (.int v13_204), .val (.int v14_223), .unset, .unset, .unset, .unset, .unset, .unset, .unset, .unset, .unset, .unset]) rfl z_) ?_
          show OWay p e below G T222 (mkF m 248 #[.val (.int p0), .val (.int p1), .val (.int p2), .val (.int p3), .val (.int p4), .val (.int (1 : Int32)), .val (.int (1 : Int32)), .val (.int (0 : Int32)), .val (.ref b5), .val (.ref b60), .val (.ref b115), .val (.ref b141), .val (.ref b141), .val (.int v13_204), .val (.int v14_223), .unset, .unset, .unset, .unset, .unset, .unset, .unset, .unset, .unset, .unset] [])
          refine ogo (fun _ z_ => XS.iload X222.here hx rfl (hb hby at_248) rfl z_) ?_
          show OWay p e below G T222 (mkF m 250 #[.val (.int p0), .val (.int p1), .val (.int p2), .val (.int p3), .val (.int p4), .val (.int (1 : Int32)), .val (.int (1 : Int32)), .val (.int (0 : Int32)), .val (.ref b5), .val (.ref b60), .val (.ref b115), .val (.ref b141), .val (.ref b141), .val (.int v13_204), .val (.int v14_223), .unset, .unset, .unset, .unset, .unset, .unset, .unset, .unset, .unset, .unset] [(.int (0 : Int32))])
          refine ogo (fun _ z_ => XS.ifYes X222.here hx rfl (pc0 := 250) (pc' := 292) rfl (hb hby at_250) rfl ((if0 _ _).trans (teq rfl).1) (by decide) (by decide) z_) ?_
          show OWay p e below G T222 (mkF m 292 #[.val (.int p0), .val (.int p1), .val (.int p2), .val (.int p3), .val (.int p4), .val (.int (1 : Int32)), .val (.int (1 : Int32)), .val (.int (0 : Int32)), .val (.ref b5), .val (.ref b60), .val (.ref b115), .val (.ref b141), .val (.ref b141), .val (.int v13_204), .val (.int v14_223), .unset, .unset, .unset, .unset, .unset, .unset, .unset, .unset, .unset, .unset] [])
          refine ogo (fun _ z_ => XS.iload X222.here hx rfl (hb hby at_292) rfl z_) ?_
          show OWay p e below G T222 (mkF m 294 #[.val (.int p0), .val (.int p1), .val (.int p2), .val (.int p3), .val (.int p4), .val (.int (1 : Int32)), .val (.int (1 : Int32)), .val (.int (0 : Int32)), .val (.ref b5), .val (.ref b60), .val (.ref b115), .val (.ref b141), .val (.ref b141), .val (.int v13_204), .val (.int v14_223), .unset, .unset, .unset, .unset, .unset, .unset, .unset, .unset, .unset, .unset] [(.int (1 : Int32))])
          refine ogo (fun _ z_ => XS.ifYes X222.here hx rfl (pc0 := 294) (pc' := 304) rfl (hb hby at_294) rfl ((if0 _ _).trans (feq (by decide)).2) (by decide) (by decide) z_) ?_
          show OWay p e below G T222 (mkF m 304 #[.val (.int p0), .val (.int p1), .val (.int p2), .val (.int p3), .val (.int p4), .val (.int (1 : Int32)), .val (.int (1 : Int32)), .val (.int (0 : Int32)), .val (.ref b5), .val (.ref b60), .val (.ref b115), .val (.ref b141), .val (.ref b141), .val (.int v13_204), .val (.int v14_223), .unset, .unset, .unset, .unset, .unset, .unset, .unset, .unset, .unset, .unset] [])
          refine ogo (fun _ z_ => XS.iloadN X222.here hx rfl (hb hby at_304) rfl z_) ?_
          show OWay p e below G T222 (mkF m 305 #[.val (.int p0), .val (.int p1), .val (.int p2), .val (.int p3), .val (.int p4), .val (.int (1 : Int32)), .val (.int (1 : Int32)), .val (.int (0 : Int32)), .val (.ref b5), .val (.ref b60), .val (.ref b115), .val (.ref b141), .val (.ref b141), .val (.int v13_204), .val (.int v14_223), .unset, .unset, .unset, .unset, .unset, .unset, .unset, .unset, .unset, .unset] [(.int p3)])
          obtain ⟨_, T224, L224, X224, hQ224, st224⟩ := wStatic X222 hx hZ (y := (⟨"com/example/wakeline/wakeline/similarity/CoordinatesSquaredDistancePinLaw", "lonQ", "(I)I"⟩ : MethodName)) hown (hw _ (List.mem_of_getElem? (i := 29) rfl)) (hw _ (List.mem_of_getElem? (i := 30) rfl)) (hw _ (List.mem_of_getElem? (i := 31) rfl)) (hw _ (List.mem_of_getElem? (i := 32) rfl)) (by decide) (lonQ_b_c l Z az hw [] p3 T153.heap n0 (Nat.le_trans (Nat.le_trans (Nat.le_trans (Nat.le_trans (Nat.le_trans (Nat.le_trans (Nat.le_trans (Nat.le_trans (Nat.le_trans (Nat.le_trans (Nat.le_trans (Nat.le_trans (Nat.le_trans (Nat.le_trans (Nat.le_trans (Nat.le_trans (Nat.le_trans (Nat.le_trans (Nat.le_trans (Nat.le_trans Z0 E5.1) Kq8.1) E13.1) Kq17.1) Kq28.1) E39.1) Kq43.1) Kq54.1) E60.1) Kq63.1) E68.1) Kq72.1) Kq83.1) E94.1) Kq98.1) Kq109.1) E115.1) Kq127.1) E141.1) Kq153.1)) 0 (by decide) (by decide) (g := (mkF m 305 #[.val (.int p0), .val (.int p1), .val (.int p2), .val (.int p3), .val (.int p4), .val (.int (1 : Int32)), .val (.int (1 : Int32)), .val (.int (0 : Int32)), .val (.ref b5), .val (.ref b60), .val (.ref b115), .val (.ref b141), .val (.ref b141), .val (.int v13_204), .val (.int v14_223), .unset, .unset, .unset, .unset, .unset, .unset, .unset, .unset, .unset, .unset] [(.int p3)])) rfl (by rw [hml]; rfl) (argsL := [(.int p3)]) (rest := []) (lenOf pd__I_I rfl) rfl (by show 2 * 0 + _ ≤ _; exact Nat.le_of_eq rfl) (hb hby at_305) rfl eq222 (by decide) (by decide)
          obtain ⟨rfl, N224q, eq224⟩ := hQ224
          have N224 := Fr.app N222 N224q
          refine ogo st224 ?_
          show OWay p e below G T224 (mkF m 308 #[.val (.int p0), .val (.int p1), .val (.int p2), .val (.int p3), .val (.int p4), .val (.int (1 : Int32)), .val (.int (1 : Int32)), .val (.int (0 : Int32)), .val (.ref b5), .val (.ref b60), .val (.ref b115), .val (.ref b141), .val (.ref b141), .val (.int v13_204), .val (.int v14_223), .unset, .unset, .unset, .unset, .unset, .unset, .unset, .unset, .unset, .unset] [(.int (lonQ p3))])
          suffices Jv15_225 : ∀ v15_225 : Int32, v15_225 = (lonQ p3) → OWay p e below G T224 (mkF m 308 #[.val (.int p0), .val (.int p1), .val (.int p2), .val (.int p3), .val (.int p4), .val (.int (1 : Int32)), .val (.int (1 : Int32)), .val (.int (0 : Int32)), .val (.ref b5), .val (.ref b60), .val (.ref b115), .val (.ref b141), .val (.ref b141), .val (.int v13_204), .val (.int v14_223), .unset, .unset, .unset, .unset, .unset, .unset, .unset, .unset, .unset, .unset] [(.int v15_225)]) from Jv15_225 _ rfl
          intro v15_225 hv15_225
          refine ogo (fun _ z_ => XS.istore X224.here hx rfl (hb hby at_308) rfl (l' := #[.val (.int p0), .val (.int p1), .val (.int p2), .val (.int p3), .val (.int p4), .val (.int (1 : Int32)), .val (.int (1 : Int32)), .val (.int (0 : Int32)), .val (.ref b5), .val (.ref b60), .val (.ref b115), .val (.ref b141), .val (.ref b141), .val (.int v13_204), .val (.int v14_223), .val (.int v15_225), .unset, .unset, .unset, .unset, .unset, .unset, .unset, .unset, .unset]) rfl z_) ?_
          show OWay p e below G T224 (mkF m 310 #[.val (.int p0), .val (.int p1), .val (.int p2), .val (.int p3), .val (.int p4), .val (.int (1 : Int32)), .val (.int (1 : Int32)), .val (.int (0 : Int32)), .val (.ref b5), .val (.ref b60), .val (.ref b115), .val (.ref b141), .val (.ref b141), .val (.int v13_204), .val (.int v14_223), .val (.int v15_225), .unset, .unset, .unset, .unset, .unset, .unset, .unset, .unset, .unset] [])
          refine ogo (fun _ z_ => XS.iload X224.here hx rfl (hb hby at_310) rfl z_) ?_
          show OWay p e below G T224 (mkF m 312 #[.val (.int p0), .val (.int p1), .val (.int p2), .val (.int p3), .val (.int p4), .val (.int (1 : Int32)), .val (.int (1 : Int32)), .val (.int (0 : Int32)), .val (.ref b5), .val (.ref b60), .val (.ref b115), .val (.ref b141), .val (.ref b141), .val (.int v13_204), .val (.int v14_223), .val (.int v15_225), .unset, .unset, .unset, .unset, .unset, .unset, .unset, .unset, .unset] [(.int (1 : Int32))])
          refine ogo (fun _ z_ => XS.ifYes X224.here hx rfl (pc0 := 312) (pc' := 322) rfl (hb hby at_312) rfl ((if0 _ _).trans (feq (by decide)).2) (by decide) (by decide) z_) ?_
          show OWay p e below G T224 (mkF m 322 #[.val (.int p0), .val (.int p1), .val (.int p2), .val (.int p3), .val (.int p4), .val (.int (1 : Int32)), .val (.int (1 : Int32)), .val (.int (0 : Int32)), .val (.ref b5), .val (.ref b60), .val (.ref b115), .val (.ref b141), .val (.ref b141), .val (.int v13_204), .val (.int v14_223), .val (.int v15_225), .unset, .unset, .unset, .unset, .unset, .unset, .unset, .unset, .unset] [])
          refine ogo (fun _ z_ => XS.iloadN X224.here hx rfl (hb hby at_322) rfl z_) ?_
          show OWay p e below G T224 (mkF m 323 #[.val (.int p0), .val (.int p1), .val (.int p2), .val (.int p3), .val (.int p4), .val (.int (1 : Int32)), .val (.int (1 : Int32)), .val (.int (0 : Int32)), .val (.ref b5), .val (.ref b60), .val (.ref b115), .val (.ref b141), .val (.ref b141), .val (.int v13_204), .val (.int v14_223), .val (.int v15_225), .unset, .unset, .unset, .unset, .unset, .unset, .unset, .unset, .unset] [(.int p3)])
          obtain ⟨_, T226, L226, X226, hQ226, st226⟩ := wStatic X224 hx hZ (y := (⟨"com/example/wakeline/wakeline/similarity/CoordinatesSquaredDistancePinLaw", "latQ", "(I)I"⟩ : MethodName)) hown (hw _ (List.mem_of_getElem? (i := 35) rfl)) (hw _ (List.mem_of_getElem? (i := 36) rfl)) (hw _ (List.mem_of_getElem? (i := 31) rfl)) (hw _ (List.mem_of_getElem? (i := 37) rfl)) (by decide) (latQ_b_c l Z az hw [] p3 T153.heap n0 (Nat.le_trans (Nat.le_trans (Nat.le_trans (Nat.le_trans (Nat.le_trans (Nat.le_trans (Nat.le_trans (Nat.le_trans (Nat.le_trans (Nat.le_trans (Nat.le_trans (Nat.le_trans (Nat.le_trans (Nat.le_trans (Nat.le_trans (Nat.le_trans (Nat.le_trans (Nat.le_trans (Nat.le_trans (Nat.le_trans Z0 E5.1) Kq8.1) E13.1) Kq17.1) Kq28.1) E39.1) Kq43.1) Kq54.1) E60.1) Kq63.1) E68.1) Kq72.1) Kq83.1) E94.1) Kq98.1) Kq109.1) E115.1) Kq127.1) E141.1) Kq153.1)) 0 (by decide) (by decide) (g := (mkF m 323 #[.val (.int p0), .val (.int p1), .val (.int p2), .val (.int p3), .val (.int p4), .val (.int (1 : Int32)), .val (.int (1 : Int32)), .val (.int (0 : Int32)), .val (.ref b5), .val (.ref b60), .val (.ref b115), .val (.ref b141), .val (.ref b141), .val (.int v13_204), .val (.int v14_223), .val (.int v15_225), .unset, .unset, .unset, .unset, .unset, .unset, .unset, .unset, .unset] [(.int p3)])) rfl (by rw [hml]; rfl) (argsL := [(.int p3)]) (rest := []) (lenOf pd__I_I rfl) rfl (by show 2 * 0 + _ ≤ _; exact Nat.le_of_eq rfl) (hb hby at_323) rfl eq224 (by decide) (by decide)
          obtain ⟨rfl, N226q, eq226⟩ := hQ226
          have N226 := Fr.app N224 N226q
          refine ogo st226 ?_
          show OWay p e below G T226 (mkF m 326 #[.val (.int p0), .val (.int p1), .val (.int p2), .val (.int p3), .val (.int p4), .val (.int (1 : Int32)), .val (.int (1 : Int32)), .val (.int (0 : Int32)), .val (.ref b5), .val (.ref b60), .val (.ref b115), .val (.ref b141), .val (.ref b141), .val (.int v13_204), .val (.int v14_223), .val (.int v15_225), .unset, .unset, .unset, .unset, .unset, .unset, .unset, .unset, .unset] [(.int (latQ p3))])
          suffices Jv16_227 : ∀ v16_227 : Int32, v16_227 = (latQ p3) → OWay p e below G T226 (mkF m 326 #[.val (.int p0), .val (.int p1), .val (.int p2), .val (.int p3), .val (.int p4), .val (.int (1 : Int32)), .val (.int (1 : Int32)), .val (.int (0 : Int32)), .val (.ref b5), .val (.ref b60), .val (.ref b115), .val (.ref b141), .val (.ref b141), .val (.int v13_204), .val (.int v14_223), .val (.int v15_225), .unset, .unset, .unset, .unset, .unset, .unset, .unset, .unset, .unset] [(.int v16_227)]) from Jv16_227 _ rfl
          intro v16_227 hv16_227
          refine ogo (fun _ z_ => XS.istore X226.here hx rfl (hb hby at_326) rfl (l' := #[.val (.int p0), .val (.int p1), .val (.int p2), .val (.int p3), .val (.int p4), .val (.int (1 : Int32)), .val (.int (1 : Int32)), .val (.int (0 : Int32)), .val (.ref b5), .val (.ref b60), .val (.ref b115), .val (.ref b141), .val (.ref b141), .val (.int v13_204), .val (.int v14_223), .val (.int v15_225), .val (.int v16_227), .unset, .unset, .unset, .unset, .unset, .unset, .unset, .unset]) rfl z_) ?_
          show OWay p e below G T226 (mkF m 328 #[.val (.int p0), .val (.int p1), .val (.int p2), .val (.int p3), .val (.int p4), .val (.int (1 : Int32)), .val (.int (1 : Int32)), .val (.int (0 : Int32)), .val (.ref b5), .val (.ref b60), .val (.ref b115), .val (.ref b141), .val (.ref b141), .val (.int v13_204), .val (.int v14_223), .val (.int v15_225), .val (.int v16_227), .unset, .unset, .unset, .unset, .unset, .unset, .unset, .unset] [])
          refine ogo (fun _ z_ => XS.iload X226.here hx rfl (hb hby at_328) rfl z_) ?_
          show OWay p e below G T226 (mkF m 330 #[.val (.int p0), .val (.int p1), .val (.int p2), .val (.int p3), .val (.int p4), .val (.int (1 : Int32)), .val (.int (1 : Int32)), .val (.int (0 : Int32)), .val (.ref b5), .val (.ref b60), .val (.ref b115), .val (.ref b141), .val (.ref b141), .val (.int v13_204), .val (.int v14_223), .val (.int v15_225), .val (.int v16_227), .unset, .unset, .unset, .unset, .unset, .unset, .unset, .unset] [(.int v13_204)])
          refine ogo (fun _ z_ => XS.i2l X226.here hx rfl (hb hby at_330) rfl z_) ?_
          show OWay p e below G T226 (mkF m 331 #[.val (.int p0), .val (.int p1), .val (.int p2), .val (.int p3), .val (.int p4), .val (.int (1 : Int32)), .val (.int (1 : Int32)), .val (.int (0 : Int32)), .val (.ref b5), .val (.ref b60), .val (.ref b115), .val (.ref b141), .val (.ref b141), .val (.int v13_204), .val (.int v14_223), .val (.int v15_225), .val (.int v16_227), .unset, .unset, .unset, .unset, .unset, .unset, .unset, .unset] [(.long (v13_204.toInt64))])
          refine ogo (fun _ z_ => XS.iload X226.here hx rfl (hb hby at_331) rfl z_) ?_
          show OWay p e below G T226 (mkF m 333 #[.val (.int p0), .val (.int p1), .val (.int p2), .val (.int p3), .val (.int p4), .val (.int (1 : Int32)), .val (.int (1 : Int32)), .val (.int (0 : Int32)), .val (.ref b5), .val (.ref b60), .val (.ref b115), .val (.ref b141), .val (.ref b141), .val (.int v13_204), .val (.int v14_223), .val (.int v15_225), .val (.int v16_227), .unset, .unset, .unset, .unset, .unset, .unset, .unset, .unset] [(.int v15_225), (.long (v13_204.toInt64))])
          refine ogo (fun _ z_ => XS.i2l X226.here hx rfl (hb hby at_333) rfl z_) ?_
          show OWay p e below G T226 (mkF m 334 #[.val (.int p0), .val (.int p1), .val (.int p2), .val (.int p3), .val (.int p4), .val (.int (1 : Int32)), .val (.int (1 : Int32)), .val (.int (0 : Int32)), .val (.ref b5), .val (.ref b60), .val (.ref b115), .val (.ref b141), .val (.ref b141), .val (.int v13_204), .val (.int v14_223), .val (.int v15_225), .val (.int v16_227), .unset, .unset, .unset, .unset, .unset, .unset, .unset, .unset] [(.long (v15_225.toInt64)), (.long (v13_204.toInt64))])
          refine ogo (fun _ z_ => XS.lsub X226.here hx rfl (hb hby at_334) rfl z_) ?_
          show OWay p e below G T226 (mkF m 335 #[.val (.int p0), .val (.int p1), .val (.int p2), .val (.int p3), .val (.int p4), .val (.int (1 : Int32)), .val (.int (1 : Int32)), .val (.int (0 : Int32)), .val (.ref b5), .val (.ref b60), .val (.ref b115), .val (.ref b141), .val (.ref b141), .val (.int v13_204), .val (.int v14_223), .val (.int v15_225), .val (.int v16_227), .unset, .unset, .unset, .unset, .unset, .unset, .unset, .unset] [(.long ((v13_204.toInt64) - (v15_225.toInt64)))])
          suffices Jv17_228 : ∀ v17_228 : Int64, v17_228 = ((v13_204.toInt64) - (v15_225.toInt64)) → OWay p e below G T226 (mkF m 335 #[.val (.int p0), .val (.int p1), .val (.int p2), .val (.int p3), .val (.int p4), .val (.int (1 : Int32)), .val (.int (1 : Int32)), .val (.int (0 : Int32)), .val (.ref b5), .val (.ref b60), .val (.ref b115), .val (.ref b141), .val (.ref b141), .val (.int v13_204), .val (.int v14_223), .val (.int v15_225), .val (.int v16_227), .unset, .unset, .unset, .unset, .unset, .unset, .unset, .unset] [(.long v17_228)]) from Jv17_228 _ rfl
          intro v17_228 hv17_228
          refine ogo (fun _ z_ => XS.lstore X226.here hx rfl (hb hby at_335) rfl (l' := #[.val (.int p0), .val (.int p1), .val (.int p2), .val (.int p3), .val (.int p4), .val (.int (1 : Int32)), .val (.int (1 : Int32)), .val (.int (0 : Int32)), .val (.ref b5), .val (.ref b60), .val (.ref b115), .val (.ref b141), .val (.ref b141), .val (.int v13_204), .val (.int v14_223), .val (.int v15_225), .val (.int v16_227), .val (.long v17_228), .second, .unset, .unset, .unset, .unset, .unset, .unset]) rfl z_) ?_
          show OWay p e below G T226 (mkF m 337 #[.val (.int p0), .val (.int p1), .val (.int p2), .val (.int p3), .val (.int p4), .val (.int (1 : Int32)), .val (.int (1 : Int32)), .val (.int (0 : Int32)), .val (.ref b5), .val (.ref b60), .val (.ref b115), .val (.ref b141), .val (.ref b141), .val (.int v13_204), .val (.int v14_223), .val (.int v15_225), .val (.int v16_227), .val (.long v17_228), .second, .unset, .unset, .unset, .unset, .unset, .unset] [])
          refine ogo (fun _ z_ => XS.iload X226.here hx rfl (hb hby at_337) rfl z_) ?_
          show OWay p e below G T226 (mkF m 339 #[.val (.int p0), .val (.int p1), .val (.int p2), .val (.int p3), .val (.int p4), .val (.int (1 : Int32)), .val (.int (1 : Int32)), .val (.int (0 : Int32)), .val (.ref b5), .val (.ref b60), .val (.ref b115), .val (.ref b141), .val (.ref b141), .val (.int v13_204), .val (.int v14_223), .val (.int v15_225), .val (.int v16_227), .val (.long v17_228), .second, .unset, .unset, .unset, .unset, .unset, .unset] [(.int v14_223)])
          refine ogo (fun _ z_ => XS.i2l X226.here hx rfl (hb hby at_339) rfl z_) ?_
          show OWay p e below G T226 (mkF m 340 #[.val (.int p0), .val (.int p1), .val (.int p2), .val (.int p3), .val (.int p4), .val (.int (1 : Int32)), .val (.int (1 : Int32)), .val (.int (0 : Int32)), .val (.ref b5), .val (.ref b60), .val (.ref b115), .val (.ref b141), .val (.ref b141), .val (.int v13_204), .val (.int v14_223), .val (.int v15_225), .val (.int v16_227), .val (.long v17_228), .second, .unset, .unset, .unset, .unset, .unset, .unset] [(.long (v14_223.toInt64))])
          refine ogo (fun _ z_ => XS.iload X226.here hx rfl (hb hby at_340) rfl z_) ?_
          show OWay p e below G T226 (mkF m 342 #[.val (.int p0), .val (.int p1), .val (.int p2), .val (.int p3), .val (.int p4), .val (.int (1 : Int32)), .val (.int (1 : Int32)), .val (.int (0 : Int32)), .val (.ref b5), .val (.ref b60), .val (.ref b115), .val (.ref b141), .val (.ref b141), .val (.int v13_204), .val (.int v14_223), .val (.int v15_225), .val (.int v16_227), .val (.long v17_228), .second, .unset, .unset, .unset, .unset, .unset, .unset] [(.int v16_227), (.long (v14_223.toInt64))])
          refine ogo (fun _ z_ => XS.i2l X226.here hx rfl (hb hby at_342) rfl z_) ?_
          show OWay p e below G T226 (mkF m 343 #[.val (.int p0), .val (.int p1), .val (.int p2), .val (.int p3), .val (.int p4), .val (.int (1 : Int32)), .val (.int (1 : Int32)), .val (.int (0 : Int32)), .val (.ref b5), .val (.ref b60), .val (.ref b115), .val (.ref b141), .val (.ref b141), .val (.int v13_204), .val (.int v14_223), .val (.int v15_225), .val (.int v16_227), .val (.long v17_228), .second, .unset, .unset, .unset, .unset, .unset, .unset] [(.long (v16_227.toInt64)), (.long (v14_223.toInt64))])
          refine ogo (fun _ z_ => XS.lsub X226.here hx rfl (hb hby at_343) rfl z_) ?_
          show OWay p e below G T226 (mkF m 344 #[.val (.int p0), .val (.int p1), .val (.int p2), .val (.int p3), .val (.int p4), .val (.int (1 : Int32)), .val (.int (1 : Int32)), .val (.int (0 : Int32)), .val (.ref b5), .val (.ref b60), .val (.ref b115), .val (.ref b141), .val (.ref b141), .val (.int v13_204), .val (.int v14_223), .val (.int v15_225), .val (.int v16_227), .val (.long v17_228), .second, .unset, .unset, .unset, .unset, .unset, .unset] [(.long ((v14_223.toInt64) - (v16_227.toInt64)))])
          suffices Jv19_229 : ∀ v19_229 : Int64, v19_229 = ((v14_223.toInt64) - (v16_227.toInt64)) → OWay p e below G T226 (mkF m 344 #[.val (.int p0), .val (.int p1), .val (.int p2), .val (.int p3), .val (.int p4), .val (.int (1 : Int32)), .val (.int (1 : Int32)), .val (.int (0 : Int32)), .val (.ref b5), .val (.ref b60), .val (.ref b115), .val (.ref b141), .val (.ref b141), .val (.int v13_204), .val (.int v14_223), .val (.int v15_225), .val (.int v16_227), .val (.long v17_228), .second, .unset, .unset, .unset, .unset, .unset, .unset] [(.long v19_229)]) from Jv19_229 _ rfl
          intro v19_229 hv19_229
          refine ogo (fun _ z_ => XS.lstore X226.here hx rfl (hb hby at_344) rfl (l' := #[.val (.int p0), .val (.int p1), .val (.int p2), .val (.int p3), .val (.int p4), .val (.int (1 : Int32)), .val (.int (1 : Int32)), .val (.int (0 : Int32)), .val (.ref b5), .val (.ref b60), .val (.ref b115), .val (.ref b141), .val (.ref b141), .val (.int v13_204), .val (.int v14_223), .val (.int v15_225), .val (.int v16_227), .val (.long v17_228), .second, .val (.long v19_229), .second, .unset, .unset, .unset, .unset]) rfl z_) ?_
          show OWay p e below G T226 (mkF m 346 #[.val (.int p0), .val (.int p1), .val (.int p2), .val (.int p3), .val (.int p4), .val (.int (1 : Int32)), .val (.int (1 : Int32)), .val (.int (0 : Int32)), .val (.ref b5), .val (.ref b60), .val (.ref b115), .val (.ref b141), .val (.ref b141), .val (.int v13_204), .val (.int v14_223), .val (.int v15_225), .val (.int v16_227), .val (.long v17_228), .second, .val (.long v19_229), .second, .unset, .unset, .unset, .unset] [])
          refine ogo (fun _ z_ => XS.lload X226.here hx rfl (hb hby at_346) rfl z_) ?_
          show OWay p e below G T226 (mkF m 348 #[.val (.int p0), .val (.int p1), .val (.int p2), .val (.int p3), .val (.int p4), .val (.int (1 : Int32)), .val (.int (1 : Int32)), .val (.int (0 : Int32)), .val (.ref b5), .val (.ref b60), .val (.ref b115), .val (.ref b141), .val (.ref b141), .val (.int v13_204), .val (.int v14_223), .val (.int v15_225), .val (.int v16_227), .val (.long v17_228), .second, .val (.long v19_229), .second, .unset, .unset, .unset, .unset] [(.long v17_228)])
          refine ogo (fun _ z_ => XS.lload X226.here hx rfl (hb hby at_348) rfl z_) ?_
          show OWay p e below G T226 (mkF m 350 #[.val (.int p0), .val (.int p1), .val (.int p2), .val (.int p3), .val (.int p4), .val (.int (1 : Int32)), .val (.int (1 : Int32)), .val (.int (0 : Int32)), .val (.ref b5), .val (.ref b60), .val (.ref b115), .val (.ref b141), .val (.ref b141), .val (.int v13_204), .val (.int v14_223), .val (.int v15_225), .val (.int v16_227), .val (.long v17_228), .second, .val (.long v19_229), .second, .unset, .unset, .unset, .unset] [(.long v17_228), (.long v17_228)])
          refine ogo (fun _ z_ => XS.lmul X226.here hx rfl (hb hby at_350) rfl z_) ?_
          show OWay p e below G T226 (mkF m 351 #[.val (.int p0), .val (.int p1), .val (.int p2), .val (.int p3), .val (.int p4), .val (.int (1 : Int32)), .val (.int (1 : Int32)), .val (.int (0 : Int32)), .val (.ref b5), .val (.ref b60), .val (.ref b115), .val (.ref b141), .val (.ref b141), .val (.int v13_204), .val (.int v14_223), .val (.int v15_225), .val (.int v16_227), .val (.long v17_228), .second, .val (.long v19_229), .second, .unset, .unset, .unset, .unset] [(.long (v17_228 * v17_228))])
          refine ogo (fun _ z_ => XS.lload X226.here hx rfl (hb hby at_351) rfl z_) ?_
          show OWay p e below G T226 (mkF m 353 #[.val (.int p0), .val (.int p1), .val (.int p2), .val (.int p3), .val (.int p4), .val (.int (1 : Int32)), .val (.int (1 : Int32)), .val (.int (0 : Int32)), .val (.ref b5), .val (.ref b60), .val (.ref b115), .val (.ref b141), .val (.ref b141), .val (.int v13_204), .val (.int v14_223), .val (.int v15_225), .val (.int v16_227), .val (.long v17_228), .second, .val (.long v19_229), .second, .unset, .unset, .unset, .unset] [(.long v19_229), (.long (v17_228 * v17_228))])
          refine ogo (fun _ z_ => XS.lload X226.here hx rfl (hb hby at_353) rfl z_) ?_
          show OWay p e below G T226 (mkF m 355 #[.val (.int p0), .val (.int p1), .val (.int p2), .val (.int p3), .val (.int p4), .val (.int (1 : Int32)), .val (.int (1 : Int32)), .val (.int (0 : Int32)), .val (.ref b5), .val (.ref b60), .val (.ref b115), .val (.ref b141), .val (.ref b141), .val (.int v13_204), .val (.int v14_223), .val (.int v15_225), .val (.int v16_227), .val (.long v17_228), .second, .val (.long v19_229), .second, .unset, .unset, .unset, .unset] [(.long v19_229), (.long v19_229), (.long (v17_228 * v17_228))])
          refine ogo (fun _ z_ => XS.lmul X226.here hx rfl (hb hby at_355) rfl z_) ?_
          show OWay p e below G T226 (mkF m 356 #[.val (.int p0), .val (.int p1), .val (.int p2), .val (.int p3), .val (.int p4), .val (.int (1 : Int32)), .val (.int (1 : Int32)), .val (.int (0 : Int32)), .val (.ref b5), .val (.ref b60), .val (.ref b115), .val (.ref b141), .val (.ref b141), .val (.int v13_204), .val (.int v14_223), .val (.int v15_225), .val (.int v16_227), .val (.long v17_228), .second, .val (.long v19_229), .second, .unset, .unset, .unset, .unset] [(.long (v19_229 * v19_229)), (.long (v17_228 * v17_228))])
          refine ogo (fun _ z_ => XS.ladd X226.here hx rfl (hb hby at_356) rfl z_) ?_
          show OWay p e below G T226 (mkF m 357 #[.val (.int p0), .val (.int p1), .val (.int p2), .val (.int p3), .val (.int p4), .val (.int (1 : Int32)), .val (.int (1 : Int32)), .val (.int (0 : Int32)), .val (.ref b5), .val (.ref b60), .val (.ref b115), .val (.ref b141), .val (.ref b141), .val (.int v13_204), .val (.int v14_223), .val (.int v15_225), .val (.int v16_227), .val (.long v17_228), .second, .val (.long v19_229), .second, .unset, .unset, .unset, .unset] [(.long ((v17_228 * v17_228) + (v19_229 * v19_229)))])
          suffices Jv21_230 : ∀ v21_230 : Int64, v21_230 = ((v17_228 * v17_228) + (v19_229 * v19_229)) → OWay p e below G T226 (mkF m 357 #[.val (.int p0), .val (.int p1), .val (.int p2), .val (.int p3), .val (.int p4), .val (.int (1 : Int32)), .val (.int (1 : Int32)), .val (.int (0 : Int32)), .val (.ref b5), .val (.ref b60), .val (.ref b115), .val (.ref b141), .val (.ref b141), .val (.int v13_204), .val (.int v14_223), .val (.int v15_225), .val (.int v16_227), .val (.long v17_228), .second, .val (.long v19_229), .second, .unset, .unset, .unset, .unset] [(.long v21_230)]) from Jv21_230 _ rfl
          intro v21_230 hv21_230
          refine ogo (fun _ z_ => XS.lstore X226.here hx rfl (hb hby at_357) rfl (l' := #[.val (.int p0), .val (.int p1), .val (.int p2), .val (.int p3), .val (.int p4), .val (.int (1 : Int32)), .val (.int (1 : Int32)), .val (.int (0 : Int32)), .val (.ref b5), .val (.ref b60), .val (.ref b115), .val (.ref b141), .val (.ref b141), .val (.int v13_204), .val (.int v14_223), .val (.int v15_225), .val (.int v16_227), .val (.long v17_228), .second, .val (.long v19_229), .second, .val (.long v21_230), .second, .unset, .unset]) rfl z_) ?_
          show OWay p e below G T226 (mkF m 359 #[.val (.int p0), .val (.int p1), .val (.int p2), .val (.int p3), .val (.int p4), .val (.int (1 : Int32)), .val (.int (1 : Int32)), .val (.int (0 : Int32)), .val (.ref b5), .val (.ref b60), .val (.ref b115), .val (.ref b141), .val (.ref b141), .val (.int v13_204), .val (.int v14_223), .val (.int v15_225), .val (.int v16_227), .val (.long v17_228), .second, .val (.long v19_229), .second, .val (.long v21_230), .second, .unset, .unset] [])
          refine ogo (fun _ z_ => XS.aload X226.here hx rfl (hb hby at_359) rfl rfl z_) ?_
          show OWay p e below G T226 (mkF m 361 #[.val (.int p0), .val (.int p1), .val (.int p2), .val (.int p3), .val (.int p4), .val (.int (1 : Int32)), .val (.int (1 : Int32)), .val (.int (0 : Int32)), .val (.ref b5), .val (.ref b60), .val (.ref b115), .val (.ref b141), .val (.ref b141), .val (.int v13_204), .val (.int v14_223), .val (.int v15_225), .val (.int v16_227), .val (.long v17_228), .second, .val (.long v19_229), .second, .val (.long v21_230), .second, .unset, .unset] [(.ref b115)])
          refine ogo (fun _ z_ => XS.iload X226.here hx rfl (hb hby at_361) rfl z_) ?_
          show OWay p e below G T226 (mkF m 363 #[.val (.int p0), .val (.int p1), .val (.int p2), .val (.int p3), .val (.int p4), .val (.int (1 : Int32)), .val (.int (1 : Int32)), .val (.int (0 : Int32)), .val (.ref b5), .val (.ref b60), .val (.ref b115), .val (.ref b141), .val (.ref b141), .val (.int v13_204), .val (.int v14_223), .val (.int v15_225), .val (.int v16_227), .val (.long v17_228), .second, .val (.long v19_229), .second, .val (.long v21_230), .second, .unset, .unset] [(.int (1 : Int32)), (.ref b115)])
          refine ogo (fun _ z_ => XS.aload X226.here hx rfl (hb hby at_363) rfl rfl z_) ?_
          show OWay p e below G T226 (mkF m 365 #[.val (.int p0), .val (.int p1), .val (.int p2), .val (.int p3), .val (.int p4), .val (.int (1 : Int32)), .val (.int (1 : Int32)), .val (.int (0 : Int32)), .val (.ref b5), .val (.ref b60), .val (.ref b115), .val (.ref b141), .val (.ref b141), .val (.int v13_204), .val (.int v14_223), .val (.int v15_225), .val (.int v16_227), .val (.long v17_228), .second, .val (.long v19_229), .second, .val (.long v21_230), .second, .unset, .unset] [(.ref b141), (.int (1 : Int32)), (.ref b115)])
          refine ogo (fun _ z_ => XS.iload X226.here hx rfl (hb hby at_365) rfl z_) ?_
          show OWay p e below G T226 (mkF m 367 #[.val (.int p0), .val (.int p1), .val (.int p2), .val (.int p3), .val (.int p4), .val (.int (1 : Int32)), .val (.int (1 : Int32)), .val (.int (0 : Int32)), .val (.ref b5), .val (.ref b60), .val (.ref b115), .val (.ref b141), .val (.ref b141), .val (.int v13_204), .val (.int v14_223), .val (.int v15_225), .val (.int v16_227), .val (.long v17_228), .second, .val (.long v19_229), .second, .val (.long v21_230), .second, .unset, .unset] [(.int (1 : Int32)), (.ref b141), (.int (1 : Int32)), (.ref b115)])
          have F231 : Fld Z T153.heap b115 "com/example/wakeline/wakeline/similarity/Coordinates" "longitudes" "[D" (.ref lo_128) := ((P138.ext E141).keep Kq153 (ninS (Nat.ne_of_lt (Nat.lt_of_lt_of_le P138.lt (Nat.le_of_eq g141.symm))) nin0))
          have F232 : Fld Z T153.heap b115 "com/example/wakeline/wakeline/similarity/Coordinates" "latitudes" "[D" (.ref la_129) := ((P139.ext E141).keep Kq153 (ninS (Nat.ne_of_lt (Nat.lt_of_lt_of_le P139.lt (Nat.le_of_eq g141.symm))) nin0))
          have F233 : Arv Z T153.heap lo_128 kl_130 .double (2 : Int32) [(.double (FP.ddiv (FP.i2d (lonQ p0)) (4616189618054758400 : UInt64))), (.double (FP.ddiv (FP.i2d (lonQ p1)) (4616189618054758400 : UInt64)))] (.double (0 : UInt64)) := ((P136.ext E141).keep Kq153 (ninS (Nat.ne_of_lt (Nat.lt_of_lt_of_le P136.lt (Nat.le_of_eq g141.symm))) nin0))
          have F234 : Arv Z T153.heap la_129 ka_131 .double (2 : Int32) [(.double (FP.ddiv (FP.i2d (latQ p0)) (4616189618054758400 : UInt64))), (.double (FP.ddiv (FP.i2d (latQ p1)) (4616189618054758400 : UInt64)))] (.double (0 : UInt64)) := ((P137.ext E141).keep Kq153 (ninS (Nat.ne_of_lt (Nat.lt_of_lt_of_le P137.lt (Nat.le_of_eq g141.symm))) nin0))
          have F236 : Exa Z T153.heap b115 "com/example/wakeline/wakeline/similarity/Coordinates" := (((A115.keep Kq127).ext E141).keep Kq153)
          obtain ⟨_, T235, L235, X235, hQ235, st235⟩ := wVirtual X226 hx hZ (y := (⟨"com/example/wakeline/wakeline/similarity/Coordinates", "squaredDistance", "(ILcom/example/wakeline/wakeline/similarity/Coordinates;I)D"⟩ : MethodName)) (z := (⟨"com/example/wakeline/wakeline/similarity/Coordinates", "squaredDistance", "(ILcom/example/wakeline/wakeline/similarity/Coordinates;I)D"⟩ : MethodName)) hown (hw _ (List.mem_of_getElem? (i := 142) rfl)) (hw _ (List.mem_of_getElem? (i := 143) rfl)) (notFace_of_selects (args := #[]) (mvT hZ (hw _ (List.mem_of_getElem? (i := 145) rfl)))) (hw _ (List.mem_of_getElem? (i := 145) rfl)) (hw _ (List.mem_of_getElem? (i := 144) rfl)) (hw _ (List.mem_of_getElem? (i := 90) rfl)) (hw _ (List.mem_of_getElem? (i := 146) rfl)) (by decide) (sd11_c l Z az hw [] b115 b141 lo_128 la_129 kl_130 ka_131 lo_154 la_155 kl_156 ka_157 (FP.ddiv (FP.i2d (lonQ p0)) (4616189618054758400 : UInt64)) (FP.ddiv (FP.i2d (lonQ p1)) (4616189618054758400 : UInt64)) (FP.ddiv (FP.i2d (latQ p0)) (4616189618054758400 : UInt64)) (FP.ddiv (FP.i2d (latQ p1)) (4616189618054758400 : UInt64)) (FP.ddiv (FP.i2d (lonQ p2)) (4616189618054758400 : UInt64)) (FP.ddiv (FP.i2d (lonQ p3)) (4616189618054758400 : UInt64)) (FP.ddiv (FP.i2d (latQ p2)) (4616189618054758400 : UInt64)) (FP.ddiv (FP.i2d (latQ p3)) (4616189618054758400 : UInt64)) (lonQ p1).toInt (lonQ p3).toInt (latQ p1).toInt (latQ p3).toInt T153.heap n0 (Nat.le_trans (Nat.le_trans (Nat.le_trans (Nat.le_trans (Nat.le_trans (Nat.le_trans (Nat.le_trans (Nat.le_trans (Nat.le_trans (Nat.le_trans (Nat.le_trans (Nat.le_trans (Nat.le_trans (Nat.le_trans (Nat.le_trans (Nat.le_trans (Nat.le_trans (Nat.le_trans (Nat.le_trans (Nat.le_trans Z0 E5.1) Kq8.1) E13.1) Kq17.1) Kq28.1) E39.1) Kq43.1) Kq54.1) E60.1) Kq63.1) E68.1) Kq72.1) Kq83.1) E94.1) Kq98.1) Kq109.1) E115.1) Kq127.1) E141.1) Kq153.1) F231 F232 F233 F234 P164 P165 P162 P163 (own_q4 (lonQ p1)) (own_q4 (lonQ p3)) (own_q4 (latQ p1)) (own_q4 (latQ p3)) (own_lon p1) (own_lon p3) (own_lat7 p1) (own_lat7 p3)) 0 (by decide) (by decide) F236 (g := (mkF m 367 #[.val (.int p0), .val (.int p1), .val (.int p2), .val (.int p3), .val (.int p4), .val (.int (1 : Int32)), .val (.int (1 : Int32)), .val (.int (0 : Int32)), .val (.ref b5), .val (.ref b60), .val (.ref b115), .val (.ref b141), .val (.ref b141), .val (.int v13_204), .val (.int v14_223), .val (.int v15_225), .val (.int v16_227), .val (.long v17_228), .second, .val (.long v19_229), .second, .val (.long v21_230), .second, .unset, .unset] [(.int (1 : Int32)), (.ref b141), (.int (1 : Int32)), (.ref b115)])) rfl (by rw [hml]; rfl) (argsL := [(.int (1 : Int32)), (.ref b141), (.int (1 : Int32))]) (rest := []) (lenOf pd__ILcom_example_wakeline_wakeline_similarity_Coordinates_I_D rfl) rfl (by show 2 * 0 + _ ≤ _; exact Nat.le_of_eq rfl) (hb hby at_367) rfl eq226 (by decide) (by decide)
          obtain ⟨dr_237, rfl, N235q, eq235, dx_238⟩ := hQ235
          have N235 := Fr.app N226 N235q
          refine ogoS st235 ?_
          show OWay p e below G T235 (mkF m 370 #[.val (.int p0), .val (.int p1), .val (.int p2), .val (.int p3), .val (.int p4), .val (.int (1 : Int32)), .val (.int (1 : Int32)), .val (.int (0 : Int32)), .val (.ref b5), .val (.ref b60), .val (.ref b115), .val (.ref b141), .val (.ref b141), .val (.int v13_204), .val (.int v14_223), .val (.int v15_225), .val (.int v16_227), .val (.long v17_228), .second, .val (.long v19_229), .second, .val (.long v21_230), .second, .unset, .unset] [(.double dr_237)])
          refine ogo (fun _ z_ => XS.dstore X235.here hx rfl (hb hby at_370) rfl (l' := #[.val (.int p0), .val (.int p1), .val (.int p2), .val (.int p3), .val (.int p4), .val (.int (1 : Int32)), .val (.int (1 : Int32)), .val (.int (0 : Int32)), .val (.ref b5), .val (.ref b60), .val (.ref b115), .val (.ref b141), .val (.ref b141), .val (.int v13_204), .val (.int v14_223), .val (.int v15_225), .val (.int v16_227), .val (.long v17_228), .second, .val (.long v19_229), .second, .val (.long v21_230), .second, .val (.double dr_237), .second]) rfl z_) ?_
          show OWay p e below G T235 (mkF m 372 #[.val (.int p0), .val (.int p1), .val (.int p2), .val (.int p3), .val (.int p4), .val (.int (1 : Int32)), .val (.int (1 : Int32)), .val (.int (0 : Int32)), .val (.ref b5), .val (.ref b60), .val (.ref b115), .val (.ref b141), .val (.ref b141), .val (.int v13_204), .val (.int v14_223), .val (.int v15_225), .val (.int v16_227), .val (.long v17_228), .second, .val (.long v19_229), .second, .val (.long v21_230), .second, .val (.double dr_237), .second] [])
          refine ogo (fun _ z_ => XS.dload X235.here hx rfl (hb hby at_372) rfl z_) ?_
          show OWay p e below G T235 (mkF m 374 #[.val (.int p0), .val (.int p1), .val (.int p2), .val (.int p3), .val (.int p4), .val (.int (1 : Int32)), .val (.int (1 : Int32)), .val (.int (0 : Int32)), .val (.ref b5), .val (.ref b60), .val (.ref b115), .val (.ref b141), .val (.ref b141), .val (.int v13_204), .val (.int v14_223), .val (.int v15_225), .val (.int v16_227), .val (.long v17_228), .second, .val (.long v19_229), .second, .val (.long v21_230), .second, .val (.double dr_237), .second] [(.double dr_237)])
          have q17 := own_dl v13_204 v15_225 (lonQ p1).toInt (lonQ p3).toInt v17_228 (by rw [hv13_204]) (by rw [hv15_225]) (own_lon p1) (own_lon p3) hv17_228
          have q19 := own_dl v14_223 v16_227 (latQ p1).toInt (latQ p3).toInt v19_229 (by rw [hv14_223]) (by rw [hv16_227]) (own_lat7 p1) (own_lat7 p3) hv19_229
          have r1 := own_lon p1
          have r2 := own_lon p3
          have r3 := own_lat7 p1
          have r4 := own_lat7 p3
          have s1 := own_sq ((lonQ p1).toInt - (lonQ p3).toInt) (by omega) (by omega)
          have s2 := own_sq ((latQ p1).toInt - (latQ p3).toInt) (by omega) (by omega)
          have q21 := own_rf v17_228 v19_229 v21_230 _ _ q17 q19 s1 s2 hv21_230
          have D16 := own_q16 v21_230 (by rw [q21]; omega)
          refine ogo (fun _ z_ => XS.lload X235.here hx rfl (hb hby at_374) rfl z_) ?_
          show OWay p e below G T235 (mkF m 376 #[.val (.int p0), .val (.int p1), .val (.int p2), .val (.int p3), .val (.int p4), .val (.int (1 : Int32)), .val (.int (1 : Int32)), .val (.int (0 : Int32)), .val (.ref b5), .val (.ref b60), .val (.ref b115), .val (.ref b141), .val (.ref b141), .val (.int v13_204), .val (.int v14_223), .val (.int v15_225), .val (.int v16_227), .val (.long v17_228), .second, .val (.long v19_229), .second, .val (.long v21_230), .second, .val (.double dr_237), .second] [(.long v21_230), (.double dr_237)])
          refine ogo (fun _ z_ => XS.l2dS X235.here hx rfl (hb hby at_376) rfl rfl z_) ?_
          show OWay p e below G T235 (mkF m 377 #[.val (.int p0), .val (.int p1), .val (.int p2), .val (.int p3), .val (.int p4), .val (.int (1 : Int32)), .val (.int (1 : Int32)), .val (.int (0 : Int32)), .val (.ref b5), .val (.ref b60), .val (.ref b115), .val (.ref b141), .val (.ref b141), .val (.int v13_204), .val (.int v14_223), .val (.int v15_225), .val (.int v16_227), .val (.long v17_228), .second, .val (.long v19_229), .second, .val (.long v21_230), .second, .val (.double dr_237), .second] [(.double (FP.l2d v21_230)), (.double dr_237)])
          refine ogo (fun _ z_ => X235.ldc2DoubleC hx hown (mvT hZ (hw _ (List.mem_of_getElem? (i := 147) rfl))) (g := (mkF m 377 #[.val (.int p0), .val (.int p1), .val (.int p2), .val (.int p3), .val (.int p4), .val (.int (1 : Int32)), .val (.int (1 : Int32)), .val (.int (0 : Int32)), .val (.ref b5), .val (.ref b60), .val (.ref b115), .val (.ref b141), .val (.ref b141), .val (.int v13_204), .val (.int v14_223), .val (.int v15_225), .val (.int v16_227), .val (.long v17_228), .second, .val (.long v19_229), .second, .val (.long v21_230), .second, .val (.double dr_237), .second] [(.double (FP.l2d v21_230)), (.double dr_237)])) rfl (hb hby at_377) _ z_) ?_
          show OWay p e below G T235 (mkF m 380 #[.val (.int p0), .val (.int p1), .val (.int p2), .val (.int p3), .val (.int p4), .val (.int (1 : Int32)), .val (.int (1 : Int32)), .val (.int (0 : Int32)), .val (.ref b5), .val (.ref b60), .val (.ref b115), .val (.ref b141), .val (.ref b141), .val (.int v13_204), .val (.int v14_223), .val (.int v15_225), .val (.int v16_227), .val (.long v17_228), .second, .val (.long v19_229), .second, .val (.long v21_230), .second, .val (.double dr_237), .second] [(.double (4625196817309499392 : UInt64)), (.double (FP.l2d v21_230)), (.double dr_237)])
          refine ogo (fun _ z_ => XS.ddivS X235.here hx rfl (hb hby at_380) rfl (dy_nn D16) rfl z_) ?_
          show OWay p e below G T235 (mkF m 381 #[.val (.int p0), .val (.int p1), .val (.int p2), .val (.int p3), .val (.int p4), .val (.int (1 : Int32)), .val (.int (1 : Int32)), .val (.int (0 : Int32)), .val (.ref b5), .val (.ref b60), .val (.ref b115), .val (.ref b141), .val (.ref b141), .val (.int v13_204), .val (.int v14_223), .val (.int v15_225), .val (.int v16_227), .val (.long v17_228), .second, .val (.long v19_229), .second, .val (.long v21_230), .second, .val (.double dr_237), .second] [(.double (FP.ddiv (FP.l2d v21_230) (4625196817309499392 : UInt64))), (.double dr_237)])
          refine ogo (fun _ z_ => XS.dcmpS X235.here hx rfl (hb hby at_381) rfl rfl z_) ?_
          show OWay p e below G T235 (mkF m 382 #[.val (.int p0), .val (.int p1), .val (.int p2), .val (.int p3), .val (.int p4), .val (.int (1 : Int32)), .val (.int (1 : Int32)), .val (.int (0 : Int32)), .val (.ref b5), .val (.ref b60), .val (.ref b115), .val (.ref b141), .val (.ref b141), .val (.int v13_204), .val (.int v14_223), .val (.int v15_225), .val (.int v16_227), .val (.long v17_228), .second, .val (.long v19_229), .second, .val (.long v21_230), .second, .val (.double dr_237), .second] [(.int (cmpValue (FP.dcmp dr_237 (FP.ddiv (FP.l2d v21_230) (4625196817309499392 : UInt64))) .l))])
          refine ogo (fun _ z_ => XS.ifNo X235.here hx rfl (hb hby at_382) rfl ((if0 _ _).trans (teq (own_eq dx_238 (q21 ▸ D16))).2) z_) ?_
          show OWay p e below G T235 (mkF m 385 #[.val (.int p0), .val (.int p1), .val (.int p2), .val (.int p3), .val (.int p4), .val (.int (1 : Int32)), .val (.int (1 : Int32)), .val (.int (0 : Int32)), .val (.ref b5), .val (.ref b60), .val (.ref b115), .val (.ref b141), .val (.ref b141), .val (.int v13_204), .val (.int v14_223), .val (.int v15_225), .val (.int v16_227), .val (.long v17_228), .second, .val (.long v19_229), .second, .val (.long v21_230), .second, .val (.double dr_237), .second] [])
          refine ogo (fun _ z_ => XS.iconst X235.here hx rfl (hb hby at_385) z_) ?_
          show OWay p e below G T235 (mkF m 386 #[.val (.int p0), .val (.int p1), .val (.int p2), .val (.int p3), .val (.int p4), .val (.int (1 : Int32)), .val (.int (1 : Int32)), .val (.int (0 : Int32)), .val (.ref b5), .val (.ref b60), .val (.ref b115), .val (.ref b141), .val (.ref b141), .val (.int v13_204), .val (.int v14_223), .val (.int v15_225), .val (.int v16_227), .val (.long v17_228), .second, .val (.long v19_229), .second, .val (.long v21_230), .second, .val (.double dr_237), .second] [(.int (1 : Int32))])
          refine ogo (fun _ z_ => XS.goto X235.here hx rfl (pc0 := 386) (pc' := 390) rfl (hb hby at_386) (by decide) (by decide) z_) ?_
          show OWay p e below G T235 (mkF m 390 #[.val (.int p0), .val (.int p1), .val (.int p2), .val (.int p3), .val (.int p4), .val (.int (1 : Int32)), .val (.int (1 : Int32)), .val (.int (0 : Int32)), .val (.ref b5), .val (.ref b60), .val (.ref b115), .val (.ref b141), .val (.ref b141), .val (.int v13_204), .val (.int v14_223), .val (.int v15_225), .val (.int v16_227), .val (.long v17_228), .second, .val (.long v19_229), .second, .val (.long v21_230), .second, .val (.double dr_237), .second] [(.int (1 : Int32))])
          subst hG
          refine wRetN X235 hx (t := .boolean) hret hlk (by simp) (hb hby at_390) (by decide) (by decide) eq235 ?_
          exact ⟨rfl, N235⟩
    · show OWay p e below G T153 (mkF m 198 #[.val (.int p0), .val (.int p1), .val (.int p2), .val (.int p3), .val (.int p4), .val (.int v5_1), .val (.int v6_2), .val (.int (1 : Int32)), .val (.ref b5), .val (.ref b60), .val (.ref b115), .val (.ref b141), .unset, .unset, .unset, .unset, .unset, .unset, .unset, .unset, .unset, .unset, .unset, .unset, .unset] [])
      refine ogo (fun _ z_ => XS.iload X153.here hx rfl (hb hby at_198) rfl z_) ?_
      show OWay p e below G T153 (mkF m 200 #[.val (.int p0), .val (.int p1), .val (.int p2), .val (.int p3), .val (.int p4), .val (.int v5_1), .val (.int v6_2), .val (.int (1 : Int32)), .val (.ref b5), .val (.ref b60), .val (.ref b115), .val (.ref b141), .unset, .unset, .unset, .unset, .unset, .unset, .unset, .unset, .unset, .unset, .unset, .unset, .unset] [(.int (1 : Int32))])
      refine ogo (fun _ z_ => XS.ifNo X153.here hx rfl (hb hby at_200) rfl ((if0 _ _).trans (feq (by decide)).1) z_) ?_
      show OWay p e below G T153 (mkF m 203 #[.val (.int p0), .val (.int p1), .val (.int p2), .val (.int p3), .val (.int p4), .val (.int v5_1), .val (.int v6_2), .val (.int (1 : Int32)), .val (.ref b5), .val (.ref b60), .val (.ref b115), .val (.ref b141), .unset, .unset, .unset, .unset, .unset, .unset, .unset, .unset, .unset, .unset, .unset, .unset, .unset] [])
      refine ogo (fun _ z_ => XS.aload X153.here hx rfl (hb hby at_203) rfl rfl z_) ?_
      show OWay p e below G T153 (mkF m 205 #[.val (.int p0), .val (.int p1), .val (.int p2), .val (.int p3), .val (.int p4), .val (.int v5_1), .val (.int v6_2), .val (.int (1 : Int32)), .val (.ref b5), .val (.ref b60), .val (.ref b115), .val (.ref b141), .unset, .unset, .unset, .unset, .unset, .unset, .unset, .unset, .unset, .unset, .unset, .unset, .unset] [(.ref b115)])
      refine ogo (fun _ z_ => XS.goto X153.here hx rfl (pc0 := 205) (pc' := 210) rfl (hb hby at_205) (by decide) (by decide) z_) ?_
      show OWay p e below G T153 (mkF m 210 #[.val (.int p0), .val (.int p1), .val (.int p2), .val (.int p3), .val (.int p4), .val (.int v5_1), .val (.int v6_2), .val (.int (1 : Int32)), .val (.ref b5), .val (.ref b60), .val (.ref b115), .val (.ref b141), .unset, .unset, .unset, .unset, .unset, .unset, .unset, .unset, .unset, .unset, .unset, .unset, .unset] [(.ref b115)])
      refine ogo (fun _ z_ => XS.astore X153.here hx rfl (hb hby at_210) rfl rfl (l' := #[.val (.int p0), .val (.int p1), .val (.int p2), .val (.int p3), .val (.int p4), .val (.int v5_1), .val (.int v6_2), .val (.int (1 : Int32)), .val (.ref b5), .val (.ref b60), .val (.ref b115), .val (.ref b141), .val (.ref b115), .unset, .unset, .unset, .unset, .unset, .unset, .unset, .unset, .unset, .unset, .unset, .unset]) rfl z_) ?_
      show OWay p e below G T153 (mkF m 212 #[.val (.int p0), .val (.int p1), .val (.int p2), .val (.int p3), .val (.int p4), .val (.int v5_1), .val (.int v6_2), .val (.int (1 : Int32)), .val (.ref b5), .val (.ref b60), .val (.ref b115), .val (.ref b141), .val (.ref b115), .unset, .unset, .unset, .unset, .unset, .unset, .unset, .unset, .unset, .unset, .unset, .unset] [])
      rcases (own_bit _ _ hv5_1 : v5_1 = (0 : Int32) ∨ v5_1 = (1 : Int32)) with rfl | rfl
      · show OWay p e below G T153 (mkF m 212 #[.val (.int p0), .val (.int p1), .val (.int p2), .val (.int p3), .val (.int p4), .val (.int (0 : Int32)), .val (.int v6_2), .val (.int (1 : Int32)), .val (.ref b5), .val (.ref b60), .val (.ref b115), .val (.ref b141), .val (.ref b115), .unset, .unset, .unset, .unset, .unset, .unset, .unset, .unset, .unset, .unset, .unset, .unset] [])
        refine ogo (fun _ z_ => XS.iload X153.here hx rfl (hb hby at_212) rfl z_) ?_
        show OWay p e below G T153 (mkF m 214 #[.val (.int p0), .val (.int p1), .val (.int p2), .val (.int p3), .val (.int p4), .val (.int (0 : Int32)), .val (.int v6_2), .val (.int (1 : Int32)), .val (.ref b5), .val (.ref b60), .val (.ref b115), .val (.ref b141), .val (.ref b115), .unset, .unset, .unset, .unset, .unset, .unset, .unset, .unset, .unset, .unset, .unset, .unset] [(.int (0 : Int32))])
        refine ogo (fun _ z_ => XS.ifNo X153.here hx rfl (hb hby at_214) rfl ((if0 _ _).trans (teq rfl).2) z_) ?_
        show OWay p e below G T153 (mkF m 217 #[.val (.int p0), .val (.int p1), .val (.int p2), .val (.int p3), .val (.int p4), .val (.int (0 : Int32)), .val (.int v6_2), .val (.int (1 : Int32)), .val (.ref b5), .val (.ref b60), .val (.ref b115), .val (.ref b141), .val (.ref b115), .unset, .unset, .unset, .unset, .unset, .unset, .unset, .unset, .unset, .unset, .unset, .unset] [])
        refine ogo (fun _ z_ => XS.iloadN X153.here hx rfl (hb hby at_217) rfl z_) ?_
        show OWay p e below G T153 (mkF m 218 #[.val (.int p0), .val (.int p1), .val (.int p2), .val (.int p3), .val (.int p4), .val (.int (0 : Int32)), .val (.int v6_2), .val (.int (1 : Int32)), .val (.ref b5), .val (.ref b60), .val (.ref b115), .val (.ref b141), .val (.ref b115), .unset, .unset, .unset, .unset, .unset, .unset, .unset, .unset, .unset, .unset, .unset, .unset] [(.int p0)])
        obtain ⟨_, T239, L239, X239, hQ239, st239⟩ := wStatic X153 hx hZ (y := (⟨"com/example/wakeline/wakeline/similarity/CoordinatesSquaredDistancePinLaw", "lonQ", "(I)I"⟩ : MethodName)) hown (hw _ (List.mem_of_getElem? (i := 29) rfl)) (hw _ (List.mem_of_getElem? (i := 30) rfl)) (hw _ (List.mem_of_getElem? (i := 31) rfl)) (hw _ (List.mem_of_getElem? (i := 32) rfl)) (by decide) (lonQ_b_c l Z az hw [] p0 T153.heap n0 (Nat.le_trans (Nat.le_trans (Nat.le_trans (Nat.le_trans (Nat.le_trans (Nat.le_trans (Nat.le_trans (Nat.le_trans (Nat.le_trans (Nat.le_trans (Nat.le_trans (Nat.le_trans (Nat.le_trans (Nat.le_trans (Nat.le_trans (Nat.le_trans (Nat.le_trans (Nat.le_trans (Nat.le_trans (Nat.le_trans Z0 E5.1) Kq8.1) E13.1) Kq17.1) Kq28.1) E39.1) Kq43.1) Kq54.1) E60.1) Kq63.1) E68.1) Kq72.1) Kq83.1) E94.1) Kq98.1) Kq109.1) E115.1) Kq127.1) E141.1) Kq153.1)) 0 (by decide) (by decide) (g := (mkF m 218 #[.val (.int p0), .val (.int p1), .val (.int p2), .val (.int p3), .val (.int p4), .val (.int (0 : Int32)), .val (.int v6_2), .val (.int (1 : Int32)), .val (.ref b5), .val (.ref b60), .val (.ref b115), .val (.ref b141), .val (.ref b115), .unset, .unset, .unset, .unset, .unset, .unset, .unset, .unset, .unset, .unset, .unset, .unset] [(.int p0)])) rfl (by rw [hml]; rfl) (argsL := [(.int p0)]) (rest := []) (lenOf pd__I_I rfl) rfl (by show 2 * 0 + _ ≤ _; exact Nat.le_of_eq rfl) (hb hby at_218) rfl rfl (by decide) (by decide)
        obtain ⟨rfl, N239q, eq239⟩ := hQ239
        have N239 := Fr.app N153 N239q
        refine ogo st239 ?_
        show OWay p e below G T239 (mkF m 221 #[.val (.int p0), .val (.int p1), .val (.int p2), .val (.int p3), .val (.int p4), .val (.int (0 : Int32)), .val (.int v6_2), .val (.int (1 : Int32)), .val (.ref b5), .val (.ref b60), .val (.ref b115), .val (.ref b141), .val (.ref b115), .unset, .unset, .unset, .unset, .unset, .unset, .unset, .unset, .unset, .unset, .unset, .unset] [(.int (lonQ p0))])
        refine ogo (fun _ z_ => XS.goto X239.here hx rfl (pc0 := 221) (pc' := 228) rfl (hb hby at_221) (by decide) (by decide) z_) ?_
        show OWay p e below G T239 (mkF m 228 #[.val (.int p0), .val (.int p1), .val (.int p2), .val (.int p3), .val (.int p4), .val (.int (0 : Int32)), .val (.int v6_2), .val (.int (1 : Int32)), .val (.ref b5), .val (.ref b60), .val (.ref b115), .val (.ref b141), .val (.ref b115), .unset, .unset, .unset, .unset, .unset, .unset, .unset, .unset, .unset, .unset, .unset, .unset] [(.int (lonQ p0))])
        suffices Jv13_240 : ∀ v13_240 : Int32, v13_240 = (lonQ p0) → OWay p e below G T239 (mkF m 228 #[.val (.int p0), .val (.int p1), .val (.int p2), .val (.int p3), .val (.int p4), .val (.int (0 : Int32)), .val (.int v6_2), .val (.int (1 : Int32)), .val (.ref b5), .val (.ref b60), .val (.ref b115), .val (.ref b141), .val (.ref b115), .unset, .unset, .unset, .unset, .unset, .unset, .unset, .unset, .unset, .unset, .unset, .unset] [(.int v13_240)]) from Jv13_240 _ rfl
        intro v13_240 hv13_240
        refine ogo (fun _ z_ => XS.istore X239.here hx rfl (hb hby at_228) rfl (l' := #[.val (.int p0), .val (.int p1), .val (.int p2), .val (.int p3), .val (.int p4), .val (.int (0 : Int32)), .val (.int v6_2), .val (.int (1 : Int32)), .val (.ref b5), .val (.ref b60), .val (.ref b115), .val (.ref b141), .val (.ref b115), .val (.int v13_240), .unset, .unset, .unset, .unset, .unset, .unset, .unset, .unset, .unset, .unset, .unset]) rfl z_) ?_
        show OWay p e below G T239 (mkF m 230 #[.val (.int p0), .val (.int p1), .val (.int p2), .val (.int p3), .val (.int p4), .val (.int (0 : Int32)), .val (.int v6_2), .val (.int (1 : Int32)), .val (.ref b5), .val (.ref b60), .val (.ref b115), .val (.ref b141), .val (.ref b115), .val (.int v13_240), .unset, .unset, .unset, .unset, .unset, .unset, .unset, .unset, .unset, .unset, .unset] [])
        rcases (own_bit _ _ hv6_2 : v6_2 = (0 : Int32) ∨ v6_2 = (1 : Int32)) with rfl | rfl
        · show OWay p e below G T239 (mkF m 230 #[.val (.int p0), .val (.int p1), .val (.int p2), .val (.int p3), .val (.int p4), .val (.int (0 : Int32)), .val (.int (0 : Int32)), .val (.int (1 : Int32)), .val (.ref b5), .val (.ref b60), .val (.ref b115), .val (.ref b141), .val (.ref b115), .val (.int v13_240), .unset, .unset, .unset, .unset, .unset, .unset, .unset, .unset, .unset, .unset, .unset] [])
          refine ogo (fun _ z_ => XS.iload X239.here hx rfl (hb hby at_230) rfl z_) ?_
          show OWay p e below G T239 (mkF m 232 #[.val (.int p0), .val (.int p1), .val (.int p2), .val (.int p3), .val (.int p4), .val (.int (0 : Int32)), .val (.int (0 : Int32)), .val (.int (1 : Int32)), .val (.ref b5), .val (.ref b60), .val (.ref b115), .val (.ref b141), .val (.ref b115), .val (.int v13_240), .unset, .unset, .unset, .unset, .unset, .unset, .unset, .unset, .unset, .unset, .unset] [(.int (0 : Int32))])
          refine ogo (fun _ z_ => XS.ifNo X239.here hx rfl (hb hby at_232) rfl ((if0 _ _).trans (teq rfl).2) z_) ?_
          show OWay p e below G T239 (mkF m 235 #[.val (.int p0), .val (.int p1), .val (.int p2), .val (.int p3), .val (.int p4), .val (.int (0 : Int32)), .val (.int (0 : Int32)), .val (.int (1 : Int32)), .val (.ref b5), .val (.ref b60), .val (.ref b115), .val (.ref b141), .val (.ref b115), .val (.int v13_240), .unset, .unset, .unset, .unset, .unset, .unset, .unset, .unset, .unset, .unset, .unset] [])
          refine ogo (fun _ z_ => XS.iloadN X239.here hx rfl (hb hby at_235) rfl z_) ?_
          show OWay p e below G T239 (mkF m 236 #[.val (.int p0), .val (.int p1), .val (.int p2), .val (.int p3), .val (.int p4), .val (.int (0 : Int32)), .val (.int (0 : Int32)), .val (.int (1 : Int32)), .val (.ref b5), .val (.ref b60), .val (.ref b115), .val (.ref b141), .val (.ref b115), .val (.int v13_240), .unset, .unset, .unset, .unset, .unset, .unset, .unset, .unset, .unset, .unset, .unset] [(.int p0)])
          obtain ⟨_, T241, L241, X241, hQ241, st241⟩ := wStatic X239 hx hZ (y := (⟨"com/example/wakeline/wakeline/similarity/CoordinatesSquaredDistancePinLaw", "latQ", "(I)I"⟩ : MethodName)) hown (hw _ (List.mem_of_getElem? (i := 35) rfl)) (hw _ (List.mem_of_getElem? (i := 36) rfl)) (hw _ (List.mem_of_getElem? (i := 31) rfl)) (hw _ (List.mem_of_getElem? (i := 37) rfl)) (by decide) (latQ_b_c l Z az hw [] p0 T153.heap n0 (Nat.le_trans (Nat.le_trans (Nat.le_trans (Nat.le_trans (Nat.le_trans (Nat.le_trans (Nat.le_trans (Nat.le_trans (Nat.le_trans (Nat.le_trans (Nat.le_trans (Nat.le_trans (Nat.le_trans (Nat.le_trans (Nat.le_trans (Nat.le_trans (Nat.le_trans (Nat.le_trans (Nat.le_trans (Nat.le_trans Z0 E5.1) Kq8.1) E13.1) Kq17.1) Kq28.1) E39.1) Kq43.1) Kq54.1) E60.1) Kq63.1) E68.1) Kq72.1) Kq83.1) E94.1) Kq98.1) Kq109.1) E115.1) Kq127.1) E141.1) Kq153.1)) 0 (by decide) (by decide) (g := (mkF m 236 #[.val (.int p0), .val (.int p1), .val (.int p2), .val (.int p3), .val (.int p4), .val (.int (0 : Int32)), .val (.int (0 : Int32)), .val (.int (1 : Int32)), .val (.ref b5), .val (.ref b60), .val (.ref b115), .val (.ref b141), .val (.ref b115), .val (.int v13_240), .unset, .unset, .unset, .unset, .unset, .unset, .unset, .unset, .unset, .unset, .unset] [(.int p0)])) rfl (by rw [hml]; rfl) (argsL := [(.int p0)]) (rest := []) (lenOf pd__I_I rfl) rfl (by show 2 * 0 + _ ≤ _; exact Nat.le_of_eq rfl) (hb hby at_236) rfl eq239 (by decide) (by decide)
          obtain ⟨rfl, N241q, eq241⟩ := hQ241
          have N241 := Fr.app N239 N241q
          refine ogo st241 ?_
          show OWay p e below G T241 (mkF m 239 #[.val (.int p0), .val (.int p1), .val (.int p2), .val (.int p3), .val (.int p4), .val (.int (0 : Int32)), .val (.int (0 : Int32)), .val (.int (1 : Int32)), .val (.ref b5), .val (.ref b60), .val (.ref b115), .val (.ref b141), .val (.ref b115), .val (.int v13_240), .unset, .unset, .unset, .unset, .unset, .unset, .unset, .unset, .unset, .unset, .unset] [(.int (latQ p0))])
          refine ogo (fun _ z_ => XS.goto X241.here hx rfl (pc0 := 239) (pc' := 246) rfl (hb hby at_239) (by decide) (by decide) z_) ?_
          show OWay p e below G T241 (mkF m 246 #[.val (.int p0), .val (.int p1), .val (.int p2), .val (.int p3), .val (.int p4), .val (.int (0 : Int32)), .val (.int (0 : Int32)), .val (.int (1 : Int32)), .val (.ref b5), .val (.ref b60), .val (.ref b115), .val (.ref b141), .val (.ref b115), .val (.int v13_240), .unset, .unset, .unset, .unset, .unset, .unset, .unset, .unset, .unset, .unset, .unset] [(.int (latQ p0))])
          suffices Jv14_242 : ∀ v14_242 : Int32, v14_242 = (latQ p0) → OWay p e below G T241 (mkF m 246 #[.val (.int p0), .val (.int p1), .val (.int p2), .val (.int p3), .val (.int p4), .val (.int (0 : Int32)), .val (.int (0 : Int32)), .val (.int (1 : Int32)), .val (.ref b5), .val (.ref b60), .val (.ref b115), .val (.ref b141), .val (.ref b115), .val (.int v13_240), .unset, .unset, .unset, .unset, .unset, .unset, .unset, .unset, .unset, .unset, .unset] [(.int v14_242)]) from Jv14_242 _ rfl
          intro v14_242 hv14_242
          refine ogo (fun _ z_ => XS.istore X241.here hx rfl (hb hby at_246) rfl (l' := #[.val (.int p0), .val (.int p1), .val (.int p2), .val (.int p3), .val (.int p4), .val (.int (0 : Int32)), .val (.int (0 : Int32)), .val (.int (1 : Int32)), .val (.ref b5), .val (.ref b60), .val (.ref b115), .val (.ref b141), .val (.ref b115), .val (.int v13_240), .val (.int v14_242), .unset, .unset, .unset, .unset, .unset, .unset, .unset, .unset, .unset, .unset]) rfl z_) ?_
          show OWay p e below G T241 (mkF m 248 #[.val (.int p0), .val (.int p1), .val (.int p2), .val (.int p3), .val (.int p4), .val (.int (0 : Int32)), .val (.int (0 : Int32)), .val (.int (1 : Int32)), .val (.ref b5), .val (.ref b60), .val (.ref b115), .val (.ref b141), .val (.ref b115), .val (.int v13_240), .val (.int v14_242), .unset, .unset, .unset, .unset, .unset, .unset, .unset, .unset, .unset, .unset] [])
          refine ogo (fun _ z_ => XS.iload X241.here hx rfl (hb hby at_248) rfl z_) ?_
          show OWay p e below G T241 (mkF m 250 #[.val (.int p0), .val (.int p1), .val (.int p2), .val (.int p3), .val (.int p4), .val (.int (0 : Int32)), .val (.int (0 : Int32)), .val (.int (1 : Int32)), .val (.ref b5), .val (.ref b60), .val (.ref b115), .val (.ref b141), .val (.ref b115), .val (.int v13_240), .val (.int v14_242), .unset, .unset, .unset, .unset, .unset, .unset, .unset, .unset, .unset, .unset] [(.int (1 : Int32))])
          refine ogo (fun _ z_ => XS.ifNo X241.here hx rfl (hb hby at_250) rfl ((if0 _ _).trans (feq (by decide)).1) z_) ?_
          show OWay p e below G T241 (mkF m 253 #[.val (.int p0), .val (.int p1), .val (.int p2), .val (.int p3), .val (.int p4), .val (.int (0 : Int32)), .val (.int (0 : Int32)), .val (.int (1 : Int32)), .val (.ref b5), .val (.ref b60), .val (.ref b115), .val (.ref b141), .val (.ref b115), .val (.int v13_240), .val (.int v14_242), .unset, .unset, .unset, .unset, .unset, .unset, .unset, .unset, .unset, .unset] [])
          refine ogo (fun _ z_ => XS.iload X241.here hx rfl (hb hby at_253) rfl z_) ?_
          show OWay p e below G T241 (mkF m 255 #[.val (.int p0), .val (.int p1), .val (.int p2), .val (.int p3), .val (.int p4), .val (.int (0 : Int32)), .val (.int (0 : Int32)), .val (.int (1 : Int32)), .val (.ref b5), .val (.ref b60), .val (.ref b115), .val (.ref b141), .val (.ref b115), .val (.int v13_240), .val (.int v14_242), .unset, .unset, .unset, .unset, .unset, .unset, .unset, .unset, .unset, .unset] [(.int (0 : Int32))])
          refine ogo (fun _ z_ => XS.ifNo X241.here hx rfl (hb hby at_255) rfl ((if0 _ _).trans (teq rfl).2) z_) ?_
          show OWay p e below G T241 (mkF m 258 #[.val (.int p0), .val (.int p1), .val (.int p2), .val (.int p3), .val (.int p4), .val (.int (0 : Int32)), .val (.int (0 : Int32)), .val (.int (1 : Int32)), .val (.ref b5), .val (.ref b60), .val (.ref b115), .val (.ref b141), .val (.ref b115), .val (.int v13_240), .val (.int v14_242), .unset, .unset, .unset, .unset, .unset, .unset, .unset, .unset, .unset, .unset] [])
          refine ogo (fun _ z_ => XS.iloadN X241.here hx rfl (hb hby at_258) rfl z_) ?_
          show OWay p e below G T241 (mkF m 259 #[.val (.int p0), .val (.int p1), .val (.int p2), .val (.int p3), .val (.int p4), .val (.int (0 : Int32)), .val (.int (0 : Int32)), .val (.int (1 : Int32)), .val (.ref b5), .val (.ref b60), .val (.ref b115), .val (.ref b141), .val (.ref b115), .val (.int v13_240), .val (.int v14_242), .unset, .unset, .unset, .unset, .unset, .unset, .unset, .unset, .unset, .unset] [(.int p0)])
          obtain ⟨_, T243, L243, X243, hQ243, st243⟩ := wStatic X241 hx hZ (y := (⟨"com/example/wakeline/wakeline/similarity/CoordinatesSquaredDistancePinLaw", "lonQ", "(I)I"⟩ : MethodName)) hown (hw _ (List.mem_of_getElem? (i := 29) rfl)) (hw _ (List.mem_of_getElem? (i := 30) rfl)) (hw _ (List.mem_of_getElem? (i := 31) rfl)) (hw _ (List.mem_of_getElem? (i := 32) rfl)) (by decide) (lonQ_b_c l Z az hw [] p0 T153.heap n0 (Nat.le_trans (Nat.le_trans (Nat.le_trans (Nat.le_trans (Nat.le_trans (Nat.le_trans (Nat.le_trans (Nat.le_trans (Nat.le_trans (Nat.le_trans (Nat.le_trans (Nat.le_trans (Nat.le_trans (Nat.le_trans (Nat.le_trans (Nat.le_trans (Nat.le_trans (Nat.le_trans (Nat.le_trans (Nat.le_trans Z0 E5.1) Kq8.1) E13.1) Kq17.1) Kq28.1) E39.1) Kq43.1) Kq54.1) E60.1) Kq63.1) E68.1) Kq72.1) Kq83.1) E94.1) Kq98.1) Kq109.1) E115.1) Kq127.1) E141.1) Kq153.1)) 0 (by decide) (by decide) (g := (mkF m 259 #[.val (.int p0), .val (.int p1), .val (.int p2), .val (.int p3), .val (.int p4), .val (.int (0 : Int32)), .val (.int (0 : Int32)), .val (.int (1 : Int32)), .val (.ref b5), .val (.ref b60), .val (.ref b115), .val (.ref b141), .val (.ref b115), .val (.int v13_240), .val (.int v14_242), .unset, .unset, .unset, .unset, .unset, .unset, .unset, .unset, .unset, .unset] [(.int p0)])) rfl (by rw [hml]; rfl) (argsL := [(.int p0)]) (rest := []) (lenOf pd__I_I rfl) rfl (by show 2 * 0 + _ ≤ _; exact Nat.le_of_eq rfl) (hb hby at_259) rfl eq241 (by decide) (by decide)
          obtain ⟨rfl, N243q, eq243⟩ := hQ243
          have N243 := Fr.app N241 N243q
          refine ogo st243 ?_
          show OWay p e below G T243 (mkF m 262 #[.val (.int p0), .val (.int p1), .val (.int p2), .val (.int p3), .val (.int p4), .val (.int (0 : Int32)), .val (.int (0 : Int32)), .val (.int (1 : Int32)), .val (.ref b5), .val (.ref b60), .val (.ref b115), .val (.ref b141), .val (.ref b115), .val (.int v13_240), .val (.int v14_242), .unset, .unset, .unset, .unset, .unset, .unset, .unset, .unset, .unset, .unset] [(.int (lonQ p0))])
          refine ogo (fun _ z_ => XS.goto X243.here hx rfl (pc0 := 262) (pc' := 269) rfl (hb hby at_262) (by decide) (by decide) z_) ?_
          show OWay p e below G T243 (mkF m 269 #[.val (.int p0), .val (.int p1), .val (.int p2), .val (.int p3), .val (.int p4), .val (.int (0 : Int32)), .val (.int (0 : Int32)), .val (.int (1 : Int32)), .val (.ref b5), .val (.ref b60), .val (.ref b115), .val (.ref b141), .val (.ref b115), .val (.int v13_240), .val (.int v14_242), .unset, .unset, .unset, .unset, .unset, .unset, .unset, .unset, .unset, .unset] [(.int (lonQ p0))])
          suffices Jv15_244 : ∀ v15_244 : Int32, v15_244 = (lonQ p0) → OWay p e below G T243 (mkF m 269 #[.val (.int p0), .val (.int p1), .val (.int p2), .val (.int p3), .val (.int p4), .val (.int (0 : Int32)), .val (.int (0 : Int32)), .val (.int (1 : Int32)), .val (.ref b5), .val (.ref b60), .val (.ref b115), .val (.ref b141), .val (.ref b115), .val (.int v13_240), .val (.int v14_242), .unset, .unset, .unset, .unset, .unset, .unset, .unset, .unset, .unset, .unset] [(.int v15_244)]) from Jv15_244 _ rfl
          intro v15_244 hv15_244
          refine ogo (fun _ z_ => XS.istore X243.here hx rfl (hb hby at_269) rfl (l' := #[.val (.int p0), .val (.int p1), .val (.int p2), .val (.int p3), .val (.int p4), .val (.int (0 : Int32)), .val (.int (0 : Int32)), .val (.int (1 : Int32)), .val (.ref b5), .val (.ref b60), .val (.ref b115), .val (.ref b141), .val (.ref b115), .val (.int v13_240), .val (.int v14_242), .val (.int v15_244), .unset, .unset, .unset, .unset, .unset, .unset, .unset, .unset, .unset]) rfl z_) ?_
          show OWay p e below G T243 (mkF m 271 #[.val (.int p0), .val (.int p1), .val (.int p2), .val (.int p3), .val (.int p4), .val (.int (0 : Int32)), .val (.int (0 : Int32)), .val (.int (1 : Int32)), .val (.ref b5), .val (.ref b60), .val (.ref b115), .val (.ref b141), .val (.ref b115), .val (.int v13_240), .val (.int v14_242), .val (.int v15_244), .unset, .unset, .unset, .unset, .unset, .unset, .unset, .unset, .unset] [])
          refine ogo (fun _ z_ => XS.iload X243.here hx rfl (hb hby at_271) rfl z_) ?_
          show OWay p e below G T243 (mkF m 273 #[.val (.int p0), .val (.int p1), .val (.int p2), .val (.int p3), .val (.int p4), .val (.int (0 : Int32)), .val (.int (0 : Int32)), .val (.int (1 : Int32)), .val (.ref b5), .val (.ref b60), .val (.ref b115), .val (.ref b141), .val (.ref b115), .val (.int v13_240), .val (.int v14_242), .val (.int v15_244), .unset, .unset, .unset, .unset, .unset, .unset, .unset, .unset, .unset] [(.int (0 : Int32))])
          refine ogo (fun _ z_ => XS.ifNo X243.here hx rfl (hb hby at_273) rfl ((if0 _ _).trans (teq rfl).2) z_) ?_
          show OWay p e below G T243 (mkF m 276 #[.val (.int p0), .val (.int p1), .val (.int p2), .val (.int p3), .val (.int p4), .val (.int (0 : Int32)), .val (.int (0 : Int32)), .val (.int (1 : Int32)), .val (.ref b5), .val (.ref b60), .val (.ref b115), .val (.ref b141), .val (.ref b115), .val (.int v13_240), .val (.int v14_242), .val (.int v15_244), .unset, .unset, .unset, .unset, .unset, .unset, .unset, .unset, .unset] [])
          refine ogo (fun _ z_ => XS.iloadN X243.here hx rfl (hb hby at_276) rfl z_) ?_
          show OWay p e below G T243 (mkF m 277 #[.val (.int p0), .val (.int p1), .val (.int p2), .val (.int p3), .val (.int p4), .val (.int (0 : Int32)), .val (.int (0 : Int32)), .val (.int (1 : Int32)), .val (.ref b5), .val (.ref b60), .val (.ref b115), .val (.ref b141), .val (.ref b115), .val (.int v13_240), .val (.int v14_242), .val (.int v15_244), .unset, .unset, .unset, .unset, .unset, .unset, .unset, .unset, .unset] [(.int p0)])
          obtain ⟨_, T245, L245, X245, hQ245, st245⟩ := wStatic X243 hx hZ (y := (⟨"com/example/wakeline/wakeline/similarity/CoordinatesSquaredDistancePinLaw", "latQ", "(I)I"⟩ : MethodName)) hown (hw _ (List.mem_of_getElem? (i := 35) rfl)) (hw _ (List.mem_of_getElem? (i := 36) rfl)) (hw _ (List.mem_of_getElem? (i := 31) rfl)) (hw _ (List.mem_of_getElem? (i := 37) rfl)) (by decide) (latQ_b_c l Z az hw [] p0 T153.heap n0 (Nat.le_trans (Nat.le_trans (Nat.le_trans (Nat.le_trans (Nat.le_trans (Nat.le_trans (Nat.le_trans (Nat.le_trans (Nat.le_trans (Nat.le_trans (Nat.le_trans (Nat.le_trans (Nat.le_trans (Nat.le_trans (Nat.le_trans (Nat.le_trans (Nat.le_trans (Nat.le_trans (Nat.le_trans (Nat.le_trans Z0 E5.1) Kq8.1) E13.1) Kq17.1) Kq28.1) E39.1) Kq43.1) Kq54.1) E60.1) Kq63.1) E68.1) Kq72.1) Kq83.1) E94.1) Kq98.1) Kq109.1) E115.1) Kq127.1) E141.1) Kq153.1)) 0 (by decide) (by decide) (g := (mkF m 277 #[.val (.int p0), .val (.int p1), .val (.int p2), .val (.int p3), .val (.int p4), .val (.int (0 : Int32)), .val (.int (0 : Int32)), .val (.int (1 : Int32)), .val (.ref b5), .val (.ref b60), .val (.ref b115), .val (.ref b141), .val (.ref b115), .val (.int v13_240), .val (.int v14_242), .val (.int v15_244), .unset, .unset, .unset, .unset, .unset, .unset, .unset, .unset, .unset] [(.int p0)])) rfl (by rw [hml]; rfl) (argsL := [(.int p0)]) (rest := []) (lenOf pd__I_I rfl) rfl (by show 2 * 0 + _ ≤ _; exact Nat.le_of_eq rfl) (hb hby at_277) rfl eq243 (by decide) (by decide)
          obtain ⟨rfl, N245q, eq245⟩ := hQ245
          have N245 := Fr.app N243 N245q
          refine ogo st245 ?_
          show OWay p e below G T245 (mkF m 280 #[.val (.int p0), .val (.int p1), .val (.int p2), .val (.int p3), .val (.int p4), .val (.int (0 : Int32)), .val (.int (0 : Int32)), .val (.int (1 : Int32)), .val (.ref b5), .val (.ref b60), .val (.ref b115), .val (.ref b141), .val (.ref b115), .val (.int v13_240), .val (.int v14_242), .val (.int v15_244), .unset, .unset, .unset, .unset, .unset, .unset, .unset, .unset, .unset] [(.int (latQ p0))])
          refine ogo (fun _ z_ => XS.goto X245.here hx rfl (pc0 := 280) (pc' := 287) rfl (hb hby at_280) (by decide) (by decide) z_) ?_
          show OWay p e below G T245 (mkF m 287 #[.val (.int p0), .val (.int p1), .val (.int p2), .val (.int p3), .val (.int p4), .val (.int (0 : Int32)), .val (.int (0 : Int32)), .val (.int (1 : Int32)), .val (.ref b5), .val (.ref b60), .val (.ref b115), .val (.ref b141), .val (.ref b115), .val (.int v13_240), .val (.int v14_242), .val (.int v15_244), .unset, .unset, .unset, .unset, .unset, .unset, .unset, .unset, .unset] [(.int (latQ p0))])
          suffices Jv16_246 : ∀ v16_246 : Int32, v16_246 = (latQ p0) → OWay p e below G T245 (mkF m 287 #[.val (.int p0), .val (.int p1), .val (.int p2), .val (.int p3), .val (.int p4), .val (.int (0 : Int32)), .val (.int (0 : Int32)), .val (.int (1 : Int32)), .val (.ref b5), .val (.ref b60), .val (.ref b115), .val (.ref b141), .val (.ref b115), .val (.int v13_240), .val (.int v14_242), .val (.int v15_244), .unset, .unset, .unset, .unset, .unset, .unset, .unset, .unset, .unset] [(.int v16_246)]) from Jv16_246 _ rfl
          intro v16_246 hv16_246
          refine ogo (fun _ z_ => XS.istore X245.here hx rfl (hb hby at_287) rfl (l' := #[.val (.int p0), .val (.int p1), .val (.int p2), .val (.int p3), .val (.int p4), .val (.int (0 : Int32)), .val (.int (0 : Int32)), .val (.int (1 : Int32)), .val (.ref b5), .val (.ref b60), .val (.ref b115), .val (.ref b141), .val (.ref b115), .val (.int v13_240), .val (.int v14_242), .val (.int v15_244), .val (.int v16_246), .unset, .unset, .unset, .unset, .unset, .unset, .unset, .unset]) rfl z_) ?_
          show OWay p e below G T245 (mkF m 289 #[.val (.int p0), .val (.int p1), .val (.int p2), .val (.int p3), .val (.int p4), .val (.int (0 : Int32)), .val (.int (0 : Int32)), .val (.int (1 : Int32)), .val (.ref b5), .val (.ref b60), .val (.ref b115), .val (.ref b141), .val (.ref b115), .val (.int v13_240), .val (.int v14_242), .val (.int v15_244), .val (.int v16_246), .unset, .unset, .unset, .unset, .unset, .unset, .unset, .unset] [])
          refine ogo (fun _ z_ => XS.goto X245.here hx rfl (pc0 := 289) (pc' := 328) rfl (hb hby at_289) (by decide) (by decide) z_) ?_
          show OWay p e below G T245 (mkF m 328 #[.val (.int p0), .val (.int p1), .val (.int p2), .val (.int p3), .val (.int p4), .val (.int (0 : Int32)), .val (.int (0 : Int32)), .val (.int (1 : Int32)), .val (.ref b5), .val (.ref b60), .val (.ref b115), .val (.ref b141), .val (.ref b115), .val (.int v13_240), .val (.int v14_242), .val (.int v15_244), .val (.int v16_246), .unset, .unset, .unset, .unset, .unset, .unset, .unset, .unset] [])
          refine ogo (fun _ z_ => XS.iload X245.here hx rfl (hb hby at_328) rfl z_) ?_
          show OWay p e below G T245 (mkF m 330 #[.val (.int p0), .val (.int p1), .val (.int p2), .val (.int p3), .val (.int p4), .val (.int (0 : Int32)), .val (.int (0 : Int32)), .val (.int (1 : Int32)), .val (.ref b5), .val (.ref b60), .val (.ref b115), .val (.ref b141), .val (.ref b115), .val (.int v13_240), .val (.int v14_242), .val (.int v15_244), .val (.int v16_246), .unset, .unset, .unset, .unset, .unset, .unset, .unset, .unset] [(.int v13_240)])
          refine ogo (fun _ z_ => XS.i2l X245.here hx rfl (hb hby at_330) rfl z_) ?_
          show OWay p e below G T245 (mkF m 331 #[.val (.int p0), .val (.int p1), .val (.int p2), .val (.int p3), .val (.int p4), .val (.int (0 : Int32)), .val (.int (0 : Int32)), .val (.int (1 : Int32)), .val (.ref b5), .val (.ref b60), .val (.ref b115), .val (.ref b141), .val (.ref b115), .val (.int v13_240), .val (.int v14_242), .val (.int v15_244), .val (.int v16_246), .unset, .unset, .unset, .unset, .unset, .unset, .unset, .unset] [(.long (v13_240.toInt64))])
          refine ogo (fun _ z_ => XS.iload X245.here hx rfl (hb hby at_331) rfl z_) ?_
          show OWay p e below G T245 (mkF m 333 #[.val (.int p0), .val (.int p1), .val (.int p2), .val (.int p3), .val (.int p4), .val (.int (0 : Int32)), .val (.int (0 : Int32)), .val (.int (1 : Int32)), .val (.ref b5), .val (.ref b60), .val (.ref b115), .val (.ref b141), .val (.ref b115), .val (.int v13_240), .val (.int v14_242), .val (.int v15_244), .val (.int v16_246), .unset, .unset, .unset, .unset, .unset, .unset, .unset, .unset] [(.int v15_244), (.long (v13_240.toInt64))])
          refine ogo (fun _ z_ => XS.i2l X245.here hx rfl (hb hby at_333) rfl z_) ?_
          show OWay p e below G T245 (mkF m 334 #[.val (.int p0), .val (.int p1), .val (.int p2), .val (.int p3), .val (.int p4), .val (.int (0 : Int32)), .val (.int (0 : Int32)), .val (.int (1 : Int32)), .val (.ref b5), .val (.ref b60), .val (.ref b115), .val (.ref b141), .val (.ref b115), .val (.int v13_240), .val (.int v14_242), .val (.int v15_244), .val (.int v16_246), .unset, .unset, .unset, .unset, .unset, .unset, .unset, .unset] [(.long (v15_244.toInt64)), (.long (v13_240.toInt64))])
          refine ogo (fun _ z_ => XS.lsub X245.here hx rfl (hb hby at_334) rfl z_) ?_
          show OWay p e below G T245 (mkF m 335 #[.val (.int p0), .val (.int p1), .val (.int p2), .val (.int p3), .val (.int p4), .val (.int (0 : Int32)), .val (.int (0 : Int32)), .val (.int (1 : Int32)), .val (.ref b5), .val (.ref b60), .val (.ref b115), .val (.ref b141), .val (.ref b115), .val (.int v13_240), .val (.int v14_242), .val (.int v15_244), .val (.int v16_246), .unset, .unset, .unset, .unset, .unset, .unset, .unset, .unset] [(.long ((v13_240.toInt64) - (v15_244.toInt64)))])
          suffices Jv17_247 : ∀ v17_247 : Int64, v17_247 = ((v13_240.toInt64) - (v15_244.toInt64)) → OWay p e below G T245 (mkF m 335 #[.val (.int p0), .val (.int p1), .val (.int p2), .val (.int p3), .val (.int p4), .val (.int (0 : Int32)), .val (.int (0 : Int32)), .val (.int (1 : Int32)), .val (.ref b5), .val (.ref b60), .val (.ref b115), .val (.ref b141), .val (.ref b115), .val (.int v13_240), .val (.int v14_242), .val (.int v15_244), .val (.int v16_246), .unset, .unset, .unset, .unset, .unset, .unset, .unset, .unset] [(.long v17_247)]) from Jv17_247 _ rfl
          intro v17_247 hv17_247
          refine ogo (fun _ z_ => XS.lstore X245.here hx rfl (hb hby at_335) rfl (l' := #[.val (.int p0), .val (.int p1), .val (.int p2), .val (.int p3), .val (.int p4), .val (.int (0 : Int32)), .val (.int (0 : Int32)), .val (.int (1 : Int32)), .val (.ref b5), .val (.ref b60), .val (.ref b115), .val (.ref b141), .val (.ref b115), .val (.int v13_240), .val (.int v14_242), .val (.int v15_244), .val (.int v16_246), .val (.long v17_247), .second, .unset, .unset, .unset, .unset, .unset, .unset]) rfl z_) ?_
          show OWay p e below G T245 (mkF m 337 #[.val (.int p0), .val (.int p1), .val (.int p2), .val (.int p3), .val (.int p4), .val (.int (0 : Int32)), .val (.int (0 : Int32)), .val (.int (1 : Int32)), .val (.ref b5), .val (.ref b60), .val (.ref b115), .val (.ref b141), .val (.ref b115), .val (.int v13_240), .val (.int v14_242), .val (.int v15_244), .val (.int v16_246), .val (.long v17_247), .second, .unset, .unset, .unset, .unset, .unset, .unset] [])
          refine ogo (fun _ z_ => XS.iload X245.here hx rfl (hb hby at_337) rfl z_) ?_
          show OWay p e below G T245 (mkF m 339 #[.val (.int p0), .val (.int p1), .val (.int p2), .val (.int p3), .val (.int p4), .val (.int (0 : Int32)), .val (.int (0 : Int32)), .val (.int (1 : Int32)), .val (.ref b5), .val (.ref b60), .val (.ref b115), .val (.ref b141), .val (.ref b115), .val (.int v13_240), .val (.int v14_242), .val (.int v15_244), .val (.int v16_246), .val (.long v17_247), .second, .unset, .unset, .unset, .unset, .unset, .unset] [(.int v14_242)])
          refine ogo (fun _ z_ => XS.i2l X245.here hx rfl (hb hby at_339) rfl z_) ?_
          show OWay p e below G T245 (mkF m 340 #[.val (.int p0), .val (.int p1), .val (.int p2), .val (.int p3), .val (.int p4), .val (.int (0 : Int32)), .val (.int (0 : Int32)), .val (.int (1 : Int32)), .val (.ref b5), .val (.ref b60), .val (.ref b115), .val (.ref b141), .val (.ref b115), .val (.int v13_240), .val (.int v14_242), .val (.int v15_244), .val (.int v16_246), .val (.long v17_247), .second, .unset, .unset, .unset, .unset, .unset, .unset] [(.long (v14_242.toInt64))])
          refine ogo (fun _ z_ => XS.iload X245.here hx rfl (hb hby at_340) rfl z_) ?_
          show OWay p e below G T245 (mkF m 342 #[.val (.int p0), .val (.int p1), .val (.int p2), .val (.int p3), .val (.int p4), .val (.int (0 : Int32)), .val (.int (0 : Int32)), .val (.int (1 : Int32)), .val (.ref b5), .val (.ref b60), .val (.ref b115), .val (.ref b141), .val (.ref b115), .val (.int v13_240), .val (.int v14_242), .val (.int v15_244), .val (.int v16_246), .val (.long v17_247), .second, .unset, .unset, .unset, .unset, .unset, .unset] [(.int v16_246), (.long (v14_242.toInt64))])
          refine ogo (fun _ z_ => XS.i2l X245.here hx rfl (hb hby at_342) rfl z_) ?_
          show OWay p e below G T245 (mkF m 343 #[.val (.int p0), .val (.int p1), .val (.int p2), .val (.int p3), .val (.int p4), .val (.int (0 : Int32)), .val (.int (0 : Int32)), .val (.int (1 : Int32)), .val (.ref b5), .val (.ref b60), .val (.ref b115), .val (.ref b141), .val (.ref b115), .val (.int v13_240), .val (.int v14_242), .val (.int v15_244), .val (.int v16_246), .val (.long v17_247), .second, .unset, .unset, .unset, .unset, .unset, .unset] [(.long (v16_246.toInt64)), (.long (v14_242.toInt64))])
          refine ogo (fun _ z_ => XS.lsub X245.here hx rfl (hb hby at_343) rfl z_) ?_
          show OWay p e below G T245 (mkF m 344 #[.val (.int p0), .val (.int p1), .val (.int p2), .val (.int p3), .val (.int p4), .val (.int (0 : Int32)), .val (.int (0 : Int32)), .val (.int (1 : Int32)), .val (.ref b5), .val (.ref b60), .val (.ref b115), .val (.ref b141), .val (.ref b115), .val (.int v13_240), .val (.int v14_242), .val (.int v15_244), .val (.int v16_246), .val (.long v17_247), .second, .unset, .unset, .unset, .unset, .unset, .unset] [(.long ((v14_242.toInt64) - (v16_246.toInt64)))])
          suffices Jv19_248 : ∀ v19_248 : Int64, v19_248 = ((v14_242.toInt64) - (v16_246.toInt64)) → OWay p e below G T245 (mkF m 344 #[.val (.int p0), .val (.int p1), .val (.int p2), .val (.int p3), .val (.int p4), .val (.int (0 : Int32)), .val (.int (0 : Int32)), .val (.int (1 : Int32)), .val (.ref b5), .val (.ref b60), .val (.ref b115), .val (.ref b141), .val (.ref b115), .val (.int v13_240), .val (.int v14_242), .val (.int v15_244), .val (.int v16_246), .val (.long v17_247), .second, .unset, .unset, .unset, .unset, .unset, .unset] [(.long v19_248)]) from Jv19_248 _ rfl
          intro v19_248 hv19_248
          refine ogo (fun _ z_ => XS.lstore X245.here hx rfl (hb hby at_344) rfl (l' := #[.val (.int p0), .val (.int p1), .val (.int p2), .val (.int p3), .val (.int p4), .val (.int (0 : Int32)), .val (.int (0 : Int32)), .val (.int (1 : Int32)), .val (.ref b5), .val (.ref b60), .val (.ref b115), .val (.ref b141), .val (.ref b115), .val (.int v13_240), .val (.int v14_242), .val (.int v15_244), .val (.int v16_246), .val (.long v17_247), .second, .val (.long v19_248), .second, .unset, .unset, .unset, .unset]) rfl z_) ?_
          show OWay p e below G T245 (mkF m 346 #[.val (.int p0), .val (.int p1), .val (.int p2), .val (.int p3), .val (.int p4), .val (.int (0 : Int32)), .val (.int (0 : Int32)), .val (.int (1 : Int32)), .val (.ref b5), .val (.ref b60), .val (.ref b115), .val (.ref b141), .val (.ref b115), .val (.int v13_240), .val (.int v14_242), .val (.int v15_244), .val (.int v16_246), .val (.long v17_247), .second, .val (.long v19_248), .second, .unset, .unset, .unset, .unset] [])
          refine ogo (fun _ z_ => XS.lload X245.here hx rfl (hb hby at_346) rfl z_) ?_
          show OWay p e below G T245 (mkF m 348 #[.val (.int p0), .val (.int p1), .val (.int p2), .val (.int p3), .val (.int p4), .val (.int (0 : Int32)), .val (.int (0 : Int32)), .val (.int (1 : Int32)), .val (.ref b5), .val (.ref b60), .val (.ref b115), .val (.ref b141), .val (.ref b115), .val (.int v13_240), .val (.int v14_242), .val (.int v15_244), .val (.int v16_246), .val (.long v17_247), .second, .val (.long v19_248), .second, .unset, .unset, .unset, .unset] [(.long v17_247)])
          refine ogo (fun _ z_ => XS.lload X245.here hx rfl (hb hby at_348) rfl z_) ?_
          show OWay p e below G T245 (mkF m 350 #[.val (.int p0), .val (.int p1), .val (.int p2), .val (.int p3), .val (.int p4), .val (.int (0 : Int32)), .val (.int (0 : Int32)), .val (.int (1 : Int32)), .val (.ref b5), .val (.ref b60), .val (.ref b115), .val (.ref b141), .val (.ref b115), .val (.int v13_240), .val (.int v14_242), .val (.int v15_244), .val (.int v16_246), .val (.long v17_247), .second, .val (.long v19_248), .second, .unset, .unset, .unset, .unset] [(.long v17_247), (.long v17_247)])
          refine ogo (fun _ z_ => XS.lmul X245.here hx rfl (hb hby at_350) rfl z_) ?_
          show OWay p e below G T245 (mkF m 351 #[.val (.int p0), .val (.int p1), .val (.int p2), .val (.int p3), .val (.int p4), .val (.int (0 : Int32)), .val (.int (0 : Int32)), .val (.int (1 : Int32)), .val (.ref b5), .val (.ref b60), .val (.ref b115), .val (.ref b141), .val (.ref b115), .val (.int v13_240), .val (.int v14_242), .val (.int v15_244), .val (.int v16_246), .val (.long v17_247), .second, .val (.long v19_248), .second, .unset, .unset, .unset, .unset] [(.long (v17_247 * v17_247))])
          refine ogo (fun _ z_ => XS.lload X245.here hx rfl (hb hby at_351) rfl z_) ?_
          show OWay p e below G T245 (mkF m 353 #[.val (.int p0), .val (.int p1), .val (.int p2), .val (.int p3), .val (.int p4), .val (.int (0 : Int32)), .val (.int (0 : Int32)), .val (.int (1 : Int32)), .val (.ref b5), .val (.ref b60), .val (.ref b115), .val (.ref b141), .val (.ref b115), .val (.int v13_240), .val (.int v14_242), .val (.int v15_244), .val (.int v16_246), .val (.long v17_247), .second, .val (.long v19_248), .second, .unset, .unset, .unset, .unset] [(.long v19_248), (.long (v17_247 * v17_247))])
          refine ogo (fun _ z_ => XS.lload X245.here hx rfl (hb hby at_353) rfl z_) ?_
          show OWay p e below G T245 (mkF m 355 #[.val (.int p0), .val (.int p1), .val (.int p2), .val (.int p3), .val (.int p4), .val (.int (0 : Int32)), .val (.int (0 : Int32)), .val (.int (1 : Int32)), .val (.ref b5), .val (.ref b60), .val (.ref b115), .val (.ref b141), .val (.ref b115), .val (.int v13_240), .val (.int v14_242), .val (.int v15_244), .val (.int v16_246), .val (.long v17_247), .second, .val (.long v19_248), .second, .unset, .unset, .unset, .unset] [(.long v19_248), (.long v19_248), (.long (v17_247 * v17_247))])
          refine ogo (fun _ z_ => XS.lmul X245.here hx rfl (hb hby at_355) rfl z_) ?_
          show OWay p e below G T245 (mkF m 356 #[.val (.int p0), .val (.int p1), .val (.int p2), .val (.int p3), .val (.int p4), .val (.int (0 : Int32)), .val (.int (0 : Int32)), .val (.int (1 : Int32)), .val (.ref b5), .val (.ref b60), .val (.ref b115), .val (.ref b141), .val (.ref b115), .val (.int v13_240), .val (.int v14_242), .val (.int v15_244), .val (.int v16_246), .val (.long v17_247), .second, .val (.long v19_248), .second, .unset, .unset, .unset, .unset] [(.long (v19_248 * v19_248)), (.long (v17_247 * v17_247))])
          refine ogo (fun _ z_ => XS.ladd X245.here hx rfl (hb hby at_356) rfl z_) ?_
          show OWay p e below G T245 (mkF m 357 #[.val (.int p0), .val (.int p1), .val (.int p2), .val (.int p3), .val (.int p4), .val (.int (0 : Int32)), .val (.int (0 : Int32)), .val (.int (1 : Int32)), .val (.ref b5), .val (.ref b60), .val (.ref b115), .val (.ref b141), .val (.ref b115), .val (.int v13_240), .val (.int v14_242), .val (.int v15_244), .val (.int v16_246), .val (.long v17_247), .second, .val (.long v19_248), .second, .unset, .unset, .unset, .unset] [(.long ((v17_247 * v17_247) + (v19_248 * v19_248)))])
          suffices Jv21_249 : ∀ v21_249 : Int64, v21_249 = ((v17_247 * v17_247) + (v19_248 * v19_248)) → OWay p e below G T245 (mkF m 357 #[.val (.int p0), .val (.int p1), .val (.int p2), .val (.int p3), .val (.int p4), .val (.int (0 : Int32)), .val (.int (0 : Int32)), .val (.int (1 : Int32)), .val (.ref b5), .val (.ref b60), .val (.ref b115), .val (.ref b141), .val (.ref b115), .val (.int v13_240), .val (.int v14_242), .val (.int v15_244), .val (.int v16_246), .val (.long v17_247), .second, .val (.long v19_248), .second, .unset, .unset, .unset, .unset] [(.long v21_249)]) from Jv21_249 _ rfl
          intro v21_249 hv21_249
          refine ogo (fun _ z_ => XS.lstore X245.here hx rfl (hb hby at_357) rfl (l' := #[.val (.int p0), .val (.int p1), .val (.int p2), .val (.int p3), .val (.int p4), .val (.int (0 : Int32)), .val (.int (0 : Int32)), .val (.int (1 : Int32)), .val (.ref b5), .val (.ref b60), .val (.ref b115), .val (.ref b141), .val (.ref b115), .val (.int v13_240), .val (.int v14_242), .val (.int v15_244), .val (.int v16_246), .val (.long v17_247), .second, .val (.long v19_248), .second, .val (.long v21_249), .second, .unset, .unset]) rfl z_) ?_
          show OWay p e below G T245 (mkF m 359 #[.val (.int p0), .val (.int p1), .val (.int p2), .val (.int p3), .val (.int p4), .val (.int (0 : Int32)), .val (.int (0 : Int32)), .val (.int (1 : Int32)), .val (.ref b5), .val (.ref b60), .val (.ref b115), .val (.ref b141), .val (.ref b115), .val (.int v13_240), .val (.int v14_242), .val (.int v15_244), .val (.int v16_246), .val (.long v17_247), .second, .val (.long v19_248), .second, .val (.long v21_249), .second, .unset, .unset] [])
          refine ogo (fun _ z_ => XS.aload X245.here hx rfl (hb hby at_359) rfl rfl z_) ?_
          show OWay p e below G T245 (mkF m 361 #[.val (.int p0), .val (.int p1), .val (.int p2), .val (.int p3), .val (.int p4), .val (.int (0 : Int32)), .val (.int (0 : Int32)), .val (.int (1 : Int32)), .val (.ref b5), .val (.ref b60), .val (.ref b115), .val (.ref b141), .val (.ref b115), .val (.int v13_240), .val (.int v14_242), .val (.int v15_244), .val (.int v16_246), .val (.long v17_247), .second, .val (.long v19_248), .second, .val (.long v21_249), .second, .unset, .unset] [(.ref b115)])
          refine ogo (fun _ z_ => XS.iload X245.here hx rfl (hb hby at_361) rfl z_) ?_
          show OWay p e below G T245 (mkF m 363 #[.val (.int p0), .val (.int p1), .val (.int p2), .val (.int p3), .val (.int p4), .val (.int (0 : Int32)), .val (.int (0 : Int32)), .val (.int (1 : Int32)), .val (.ref b5), .val (.ref b60), .val (.ref b115), .val (.ref b141), .val (.ref b115), .val (.int v13_240), .val (.int v14_242), .val (.int v15_244), .val (.int v16_246), .val (.long v17_247), .second, .val (.long v19_248), .second, .val (.long v21_249), .second, .unset, .unset] [(.int (0 : Int32)), (.ref b115)])
          refine ogo (fun _ z_ => XS.aload X245.here hx rfl (hb hby at_363) rfl rfl z_) ?_
          show OWay p e below G T245 (mkF m 365 #[.val (.int p0), .val (.int p1), .val (.int p2), .val (.int p3), .val (.int p4), .val (.int (0 : Int32)), .val (.int (0 : Int32)), .val (.int (1 : Int32)), .val (.ref b5), .val (.ref b60), .val (.ref b115), .val (.ref b141), .val (.ref b115), .val (.int v13_240), .val (.int v14_242), .val (.int v15_244), .val (.int v16_246), .val (.long v17_247), .second, .val (.long v19_248), .second, .val (.long v21_249), .second, .unset, .unset] [(.ref b115), (.int (0 : Int32)), (.ref b115)])
          refine ogo (fun _ z_ => XS.iload X245.here hx rfl (hb hby at_365) rfl z_) ?_
          show OWay p e below G T245 (mkF m 367 #[.val (.int p0), .val (.int p1), .val (.int p2), .val (.int p3), .val (.int p4), .val (.int (0 : Int32)), .val (.int (0 : Int32)), .val (.int (1 : Int32)), .val (.ref b5), .val (.ref b60), .val (.ref b115), .val (.ref b141), .val (.ref b115), .val (.int v13_240), .val (.int v14_242), .val (.int v15_244), .val (.int v16_246), .val (.long v17_247), .second, .val (.long v19_248), .second, .val (.long v21_249), .second, .unset, .unset] [(.int (0 : Int32)), (.ref b115), (.int (0 : Int32)), (.ref b115)])
          have F250 : Fld Z T153.heap b115 "com/example/wakeline/wakeline/similarity/Coordinates" "longitudes" "[D" (.ref lo_128) := ((P138.ext E141).keep Kq153 (ninS (Nat.ne_of_lt (Nat.lt_of_lt_of_le P138.lt (Nat.le_of_eq g141.symm))) nin0))
          have F251 : Fld Z T153.heap b115 "com/example/wakeline/wakeline/similarity/Coordinates" "latitudes" "[D" (.ref la_129) := ((P139.ext E141).keep Kq153 (ninS (Nat.ne_of_lt (Nat.lt_of_lt_of_le P139.lt (Nat.le_of_eq g141.symm))) nin0))
          have F252 : Arv Z T153.heap lo_128 kl_130 .double (2 : Int32) [(.double (FP.ddiv (FP.i2d (lonQ p0)) (4616189618054758400 : UInt64))), (.double (FP.ddiv (FP.i2d (lonQ p1)) (4616189618054758400 : UInt64)))] (.double (0 : UInt64)) := ((P136.ext E141).keep Kq153 (ninS (Nat.ne_of_lt (Nat.lt_of_lt_of_le P136.lt (Nat.le_of_eq g141.symm))) nin0))
          have F253 : Arv Z T153.heap la_129 ka_131 .double (2 : Int32) [(.double (FP.ddiv (FP.i2d (latQ p0)) (4616189618054758400 : UInt64))), (.double (FP.ddiv (FP.i2d (latQ p1)) (4616189618054758400 : UInt64)))] (.double (0 : UInt64)) := ((P137.ext E141).keep Kq153 (ninS (Nat.ne_of_lt (Nat.lt_of_lt_of_le P137.lt (Nat.le_of_eq g141.symm))) nin0))
          have F255 : Exa Z T153.heap b115 "com/example/wakeline/wakeline/similarity/Coordinates" := (((A115.keep Kq127).ext E141).keep Kq153)
          obtain ⟨_, T254, L254, X254, hQ254, st254⟩ := wVirtual X245 hx hZ (y := (⟨"com/example/wakeline/wakeline/similarity/Coordinates", "squaredDistance", "(ILcom/example/wakeline/wakeline/similarity/Coordinates;I)D"⟩ : MethodName)) (z := (⟨"com/example/wakeline/wakeline/similarity/Coordinates", "squaredDistance", "(ILcom/example/wakeline/wakeline/similarity/Coordinates;I)D"⟩ : MethodName)) hown (hw _ (List.mem_of_getElem? (i := 142) rfl)) (hw _ (List.mem_of_getElem? (i := 143) rfl)) (notFace_of_selects (args := #[]) (mvT hZ (hw _ (List.mem_of_getElem? (i := 145) rfl)))) (hw _ (List.mem_of_getElem? (i := 145) rfl)) (hw _ (List.mem_of_getElem? (i := 144) rfl)) (hw _ (List.mem_of_getElem? (i := 90) rfl)) (hw _ (List.mem_of_getElem? (i := 146) rfl)) (by decide) (sd00_c l Z az hw [] b115 b115 lo_128 la_129 kl_130 ka_131 lo_128 la_129 kl_130 ka_131 (FP.ddiv (FP.i2d (lonQ p0)) (4616189618054758400 : UInt64)) (FP.ddiv (FP.i2d (lonQ p1)) (4616189618054758400 : UInt64)) (FP.ddiv (FP.i2d (latQ p0)) (4616189618054758400 : UInt64)) (FP.ddiv (FP.i2d (latQ p1)) (4616189618054758400 : UInt64)) (FP.ddiv (FP.i2d (lonQ p0)) (4616189618054758400 : UInt64)) (FP.ddiv (FP.i2d (lonQ p1)) (4616189618054758400 : UInt64)) (FP.ddiv (FP.i2d (latQ p0)) (4616189618054758400 : UInt64)) (FP.ddiv (FP.i2d (latQ p1)) (4616189618054758400 : UInt64)) (lonQ p0).toInt (lonQ p0).toInt (latQ p0).toInt (latQ p0).toInt T153.heap n0 (Nat.le_trans (Nat.le_trans (Nat.le_trans (Nat.le_trans (Nat.le_trans (Nat.le_trans (Nat.le_trans (Nat.le_trans (Nat.le_trans (Nat.le_trans (Nat.le_trans (Nat.le_trans (Nat.le_trans (Nat.le_trans (Nat.le_trans (Nat.le_trans (Nat.le_trans (Nat.le_trans (Nat.le_trans (Nat.le_trans Z0 E5.1) Kq8.1) E13.1) Kq17.1) Kq28.1) E39.1) Kq43.1) Kq54.1) E60.1) Kq63.1) E68.1) Kq72.1) Kq83.1) E94.1) Kq98.1) Kq109.1) E115.1) Kq127.1) E141.1) Kq153.1) F250 F251 F252 F253 F250 F251 F252 F253 (own_q4 (lonQ p0)) (own_q4 (lonQ p0)) (own_q4 (latQ p0)) (own_q4 (latQ p0)) (own_lon p0) (own_lon p0) (own_lat7 p0) (own_lat7 p0)) 0 (by decide) (by decide) F255 (g := (mkF m 367 #[.val (.int p0), .val (.int p1), .val (.int p2), .val (.int p3), .val (.int p4), .val (.int (0 : Int32)), .val (.int (0 : Int32)), .val (.int (1 : Int32)), .val (.ref b5), .val (.ref b60), .val (.ref b115), .val (.ref b141), .val (.ref b115), .val (.int v13_240), .val (.int v14_242), .val (.int v15_244), .val (.int v16_246), .val (.long v17_247), .second, .val (.long v19_248), .second, .val (.long v21_249), .second, .unset, .unset] [(.int (0 : Int32)), (.ref b115), (.int (0 : Int32)), (.ref b115)])) rfl (by rw [hml]; rfl) (argsL := [(.int (0 : Int32)), (.ref b115), (.int (0 : Int32))]) (rest := []) (lenOf pd__ILcom_example_wakeline_wakeline_similarity_Coordinates_I_D rfl) rfl (by show 2 * 0 + _ ≤ _; exact Nat.le_of_eq rfl) (hb hby at_367) rfl eq245 (by decide) (by decide)
          obtain ⟨dr_256, rfl, N254q, eq254, dx_257⟩ := hQ254
          have N254 := Fr.app N245 N254q
          refine ogoS st254 ?_
          show OWay p e below G T254 (mkF m 370 #[.val (.int p0), .val (.int p1), .val (.int p2), .val (.int p3), .val (.int p4), .val (.int (0 : Int32)), .val (.int (0 : Int32)), .val (.int (1 : Int32)), .val (.ref b5), .val (.ref b60), .val (.ref b115), .val (.ref b141), .val (.ref b115), .val (.int v13_240), .val (.int v14_242), .val (.int v15_244), .val (.int v16_246), .val (.long v17_247), .second, .val (.long v19_248), .second, .val (.long v21_249), .second, .unset, .unset] [(.double dr_256)])
          refine ogo (fun _ z_ => XS.dstore X254.here hx rfl (hb hby at_370) rfl (l' := #[.val (.int p0), .val (.int p1), .val (.int p2), .val (.int p3), .val (.int p4), .val (.int (0 : Int32)), .val (.int (0 : Int32)), .val (.int (1 : Int32)), .val (.ref b5), .val (.ref b60), .val (.ref b115), .val (.ref b141), .val (.ref b115), .val (.int v13_240), .val (.int v14_242), .val (.int v15_244), .val (.int v16_246), .val (.long v17_247), .second, .val (.long v19_248), .second, .val (.long v21_249), .second, .val (.double dr_256), .second]) rfl z_) ?_
          show OWay p e below G T254 (mkF m 372 #[.val (.int p0), .val (.int p1), .val (.int p2), .val (.int p3), .val (.int p4), .val (.int (0 : Int32)), .val (.int (0 : Int32)), .val (.int (1 : Int32)), .val (.ref b5), .val (.ref b60), .val (.ref b115), .val (.ref b141), .val (.ref b115), .val (.int v13_240), .val (.int v14_242), .val (.int v15_244), .val (.int v16_246), .val (.long v17_247), .second, .val (.long v19_248), .second, .val (.long v21_249), .second, .val (.double dr_256), .second] [])
          refine ogo (fun _ z_ => XS.dload X254.here hx rfl (hb hby at_372) rfl z_) ?_
          show OWay p e below G T254 (mkF m 374 #[.val (.int p0), .val (.int p1), .val (.int p2), .val (.int p3), .val (.int p4), .val (.int (0 : Int32)), .val (.int (0 : Int32)), .val (.int (1 : Int32)), .val (.ref b5), .val (.ref b60), .val (.ref b115), .val (.ref b141), .val (.ref b115), .val (.int v13_240), .val (.int v14_242), .val (.int v15_244), .val (.int v16_246), .val (.long v17_247), .second, .val (.long v19_248), .second, .val (.long v21_249), .second, .val (.double dr_256), .second] [(.double dr_256)])
          have q17 := own_dl v13_240 v15_244 (lonQ p0).toInt (lonQ p0).toInt v17_247 (by rw [hv13_240]) (by rw [hv15_244]) (own_lon p0) (own_lon p0) hv17_247
          have q19 := own_dl v14_242 v16_246 (latQ p0).toInt (latQ p0).toInt v19_248 (by rw [hv14_242]) (by rw [hv16_246]) (own_lat7 p0) (own_lat7 p0) hv19_248
          have r1 := own_lon p0
          have r2 := own_lon p0
          have r3 := own_lat7 p0
          have r4 := own_lat7 p0
          have s1 := own_sq ((lonQ p0).toInt - (lonQ p0).toInt) (by omega) (by omega)
          have s2 := own_sq ((latQ p0).toInt - (latQ p0).toInt) (by omega) (by omega)
          have q21 := own_rf v17_247 v19_248 v21_249 _ _ q17 q19 s1 s2 hv21_249
          have D16 := own_q16 v21_249 (by rw [q21]; omega)
          refine ogo (fun _ z_ => XS.lload X254.here hx rfl (hb hby at_374) rfl z_) ?_
          show OWay p e below G T254 (mkF m 376 #[.val (.int p0), .val (.int p1), .val (.int p2), .val (.int p3), .val (.int p4), .val (.int (0 : Int32)), .val (.int (0 : Int32)), .val (.int (1 : Int32)), .val (.ref b5), .val (.ref b60), .val (.ref b115), .val (.ref b141), .val (.ref b115), .val (.int v13_240), .val (.int v14_242), .val (.int v15_244), .val (.int v16_246), .val (.long v17_247), .second, .val (.long v19_248), .second, .val (.long v21_249), .second, .val (.double dr_256), .second] [(.long v21_249), (.double dr_256)])
          refine ogo (fun _ z_ => XS.l2dS X254.here hx rfl (hb hby at_376) rfl rfl z_) ?_
          show OWay p e below G T254 (mkF m 377 #[.val (.int p0), .val (.int p1), .val (.int p2), .val (.int p3), .val (.int p4), .val (.int (0 : Int32)), .val (.int (0 : Int32)), .val (.int (1 : Int32)), .val (.ref b5), .val (.ref b60), .val (.ref b115), .val (.ref b141), .val (.ref b115), .val (.int v13_240), .val (.int v14_242), .val (.int v15_244), .val (.int v16_246), .val (.long v17_247), .second, .val (.long v19_248), .second, .val (.long v21_249), .second, .val (.double dr_256), .second] [(.double (FP.l2d v21_249)), (.double dr_256)])
          refine ogo (fun _ z_ => X254.ldc2DoubleC hx hown (mvT hZ (hw _ (List.mem_of_getElem? (i := 147) rfl))) (g := (mkF m 377 #[.val (.int p0), .val (.int p1), .val (.int p2), .val (.int p3), .val (.int p4), .val (.int (0 : Int32)), .val (.int (0 : Int32)), .val (.int (1 : Int32)), .val (.ref b5), .val (.ref b60), .val (.ref b115), .val (.ref b141), .val (.ref b115), .val (.int v13_240), .val (.int v14_242), .val (.int v15_244), .val (.int v16_246), .val (.long v17_247), .second, .val (.long v19_248), .second, .val (.long v21_249), .second, .val (.double dr_256), .second] [(.double (FP.l2d v21_249)), (.double dr_256)])) rfl (hb hby at_377) _ z_) ?_
          show OWay p e below G T254 (mkF m 380 #[.val (.int p0), .val (.int p1), .val (.int p2), .val (.int p3), .val (.int p4), .val (.int (0 : Int32)), .val (.int (0 : Int32)), .val (.int (1 : Int32)), .val (.ref b5), .val (.ref b60), .val (.ref b115), .val (.ref b141), .val (.ref b115), .val (.int v13_240), .val (.int v14_242), .val (.int v15_244), .val (.int v16_246), .val (.long v17_247), .second, .val (.long v19_248), .second, .val (.long v21_249), .second, .val (.double dr_256), .second] [(.double (4625196817309499392 : UInt64)), (.double (FP.l2d v21_249)), (.double dr_256)])
          refine ogo (fun _ z_ => XS.ddivS X254.here hx rfl (hb hby at_380) rfl (dy_nn D16) rfl z_) ?_
          show OWay p e below G T254 (mkF m 381 #[.val (.int p0), .val (.int p1), .val (.int p2), .val (.int p3), .val (.int p4), .val (.int (0 : Int32)), .val (.int (0 : Int32)), .val (.int (1 : Int32)), .val (.ref b5), .val (.ref b60), .val (.ref b115), .val (.ref b141), .val (.ref b115), .val (.int v13_240), .val (.int v14_242), .val (.int v15_244), .val (.int v16_246), .val (.long v17_247), .second, .val (.long v19_248), .second, .val (.long v21_249), .second, .val (.double dr_256), .second] [(.double (FP.ddiv (FP.l2d v21_249) (4625196817309499392 : UInt64))), (.double dr_256)])
          refine ogo (fun _ z_ => XS.dcmpS X254.here hx rfl (hb hby at_381) rfl rfl z_) ?_
          show OWay p e below G T254 (mkF m 382 #[.val (.int p0), .val (.int p1), .val (.int p2), .val (.int p3), .val (.int p4), .val (.int (0 : Int32)), .val (.int (0 : Int32)), .val (.int (1 : Int32)), .val (.ref b5), .val (.ref b60), .val (.ref b115), .val (.ref b141), .val (.ref b115), .val (.int v13_240), .val (.int v14_242), .val (.int v15_244), .val (.int v16_246), .val (.long v17_247), .second, .val (.long v19_248), .second, .val (.long v21_249), .second, .val (.double dr_256), .second] [(.int (cmpValue (FP.dcmp dr_256 (FP.ddiv (FP.l2d v21_249) (4625196817309499392 : UInt64))) .l))])
          refine ogo (fun _ z_ => XS.ifNo X254.here hx rfl (hb hby at_382) rfl ((if0 _ _).trans (teq (own_eq dx_257 (q21 ▸ D16))).2) z_) ?_
          show OWay p e below G T254 (mkF m 385 #[.val (.int p0), .val (.int p1), .val (.int p2), .val (.int p3), .val (.int p4), .val (.int (0 : Int32)), .val (.int (0 : Int32)), .val (.int (1 : Int32)), .val (.ref b5), .val (.ref b60), .val (.ref b115), .val (.ref b141), .val (.ref b115), .val (.int v13_240), .val (.int v14_242), .val (.int v15_244), .val (.int v16_246), .val (.long v17_247), .second, .val (.long v19_248), .second, .val (.long v21_249), .second, .val (.double dr_256), .second] [])
          refine ogo (fun _ z_ => XS.iconst X254.here hx rfl (hb hby at_385) z_) ?_
          show OWay p e below G T254 (mkF m 386 #[.val (.int p0), .val (.int p1), .val (.int p2), .val (.int p3), .val (.int p4), .val (.int (0 : Int32)), .val (.int (0 : Int32)), .val (.int (1 : Int32)), .val (.ref b5), .val (.ref b60), .val (.ref b115), .val (.ref b141), .val (.ref b115), .val (.int v13_240), .val (.int v14_242), .val (.int v15_244), .val (.int v16_246), .val (.long v17_247), .second, .val (.long v19_248), .second, .val (.long v21_249), .second, .val (.double dr_256), .second] [(.int (1 : Int32))])
          refine ogo (fun _ z_ => XS.goto X254.here hx rfl (pc0 := 386) (pc' := 390) rfl (hb hby at_386) (by decide) (by decide) z_) ?_
          show OWay p e below G T254 (mkF m 390 #[.val (.int p0), .val (.int p1), .val (.int p2), .val (.int p3), .val (.int p4), .val (.int (0 : Int32)), .val (.int (0 : Int32)), .val (.int (1 : Int32)), .val (.ref b5), .val (.ref b60), .val (.ref b115), .val (.ref b141), .val (.ref b115), .val (.int v13_240), .val (.int v14_242), .val (.int v15_244), .val (.int v16_246), .val (.long v17_247), .second, .val (.long v19_248), .second, .val (.long v21_249), .second, .val (.double dr_256), .second] [(.int (1 : Int32))])
          subst hG
          refine wRetN X254 hx (t := .boolean) hret hlk (by simp) (hb hby at_390) (by decide) (by decide) eq254 ?_
          exact ⟨rfl, N254⟩
        · show OWay p e below G T239 (mkF m 230 #[.val (.int p0), .val (.int p1), .val (.int p2), .val (.int p3), .val (.int p4), .val (.int (0 : Int32)), .val (.int (1 : Int32)), .val (.int (1 : Int32)), .val (.ref b5), .val (.ref b60), .val (.ref b115), .val (.ref b141), .val (.ref b115), .val (.int v13_240), .unset, .unset, .unset, .unset, .unset, .unset, .unset, .unset, .unset, .unset, .unset] [])
          refine ogo (fun _ z_ => XS.iload X239.here hx rfl (hb hby at_230) rfl z_) ?_
          show OWay p e below G T239 (mkF m 232 #[.val (.int p0), .val (.int p1), .val (.int p2), .val (.int p3), .val (.int p4), .val (.int (0 : Int32)), .val (.int (1 : Int32)), .val (.int (1 : Int32)), .val (.ref b5), .val (.ref b60), .val (.ref b115), .val (.ref b141), .val (.ref b115), .val (.int v13_240), .unset, .unset, .unset, .unset, .unset, .unset, .unset, .unset, .unset, .unset, .unset] [(.int (0 : Int32))])
          refine ogo (fun _ z_ => XS.ifNo X239.here hx rfl (hb hby at_232) rfl ((if0 _ _).trans (teq rfl).2) z_) ?_
          show OWay p e below G T239 (mkF m 235 #[.val (.int p0), .val (.int p1), .val (.int p2), .val (.int p3), .val (.int p4), .val (.int (0 : Int32)), .val (.int (1 : Int32)), .val (.int (1 : Int32)), .val (.ref b5), .val (.ref b60), .val (.ref b115), .val (.ref b141), .val (.ref b115), .val (.int v13_240), .unset, .unset, .unset, .unset, .unset, .unset, .unset, .unset, .unset, .unset, .unset] [])
          refine ogo (fun _ z_ => XS.iloadN X239.here hx rfl (hb hby at_235) rfl z_) ?_
          show OWay p e below G T239 (mkF m 236 #[.val (.int p0), .val (.int p1), .val (.int p2), .val (.int p3), .val (.int p4), .val (.int (0 : Int32)), .val (.int (1 : Int32)), .val (.int (1 : Int32)), .val (.ref b5), .val (.ref b60), .val (.ref b115), .val (.ref b141), .val (.ref b115), .val (.int v13_240), .unset, .unset, .unset, .unset, .unset, .unset, .unset, .unset, .unset, .unset, .unset] [(.int p0)])
          obtain ⟨_, T258, L258, X258, hQ258, st258⟩ := wStatic X239 hx hZ (y := (⟨"com/example/wakeline/wakeline/similarity/CoordinatesSquaredDistancePinLaw", "latQ", "(I)I"⟩ : MethodName)) hown (hw _ (List.mem_of_getElem? (i := 35) rfl)) (hw _ (List.mem_of_getElem? (i := 36) rfl)) (hw _ (List.mem_of_getElem? (i := 31) rfl)) (hw _ (List.mem_of_getElem? (i := 37) rfl)) (by decide) (latQ_b_c l Z az hw [] p0 T153.heap n0 (Nat.le_trans (Nat.le_trans (Nat.le_trans (Nat.le_trans (Nat.le_trans (Nat.le_trans (Nat.le_trans (Nat.le_trans (Nat.le_trans (Nat.le_trans (Nat.le_trans (Nat.le_trans (Nat.le_trans (Nat.le_trans (Nat.le_trans (Nat.le_trans (Nat.le_trans (Nat.le_trans (Nat.le_trans (Nat.le_trans Z0 E5.1) Kq8.1) E13.1) Kq17.1) Kq28.1) E39.1) Kq43.1) Kq54.1) E60.1) Kq63.1) E68.1) Kq72.1) Kq83.1) E94.1) Kq98.1) Kq109.1) E115.1) Kq127.1) E141.1) Kq153.1)) 0 (by decide) (by decide) (g := (mkF m 236 #[.val (.int p0), .val (.int p1), .val (.int p2), .val (.int p3), .val (.int p4), .val (.int (0 : Int32)), .val (.int (1 : Int32)), .val (.int (1 : Int32)), .val (.ref b5), .val (.ref b60), .val (.ref b115), .val (.ref b141), .val (.ref b115), .val (.int v13_240), .unset, .unset, .unset, .unset, .unset, .unset, .unset, .unset, .unset, .unset, .unset] [(.int p0)])) rfl (by rw [hml]; rfl) (argsL := [(.int p0)]) (rest := []) (lenOf pd__I_I rfl) rfl (by show 2 * 0 + _ ≤ _; exact Nat.le_of_eq rfl) (hb hby at_236) rfl eq239 (by decide) (by decide)
          obtain ⟨rfl, N258q, eq258⟩ := hQ258
          have N258 := Fr.app N239 N258q
          refine ogo st258 ?_
          show OWay p e below G T258 (mkF m 239 #[.val (.int p0), .val (.int p1), .val (.int p2), .val (.int p3), .val (.int p4), .val (.int (0 : Int32)), .val (.int (1 : Int32)), .val (.int (1 : Int32)), .val (.ref b5), .val (.ref b60), .val (.ref b115), .val (.ref b141), .val (.ref b115), .val (.int v13_240), .unset, .unset, .unset, .unset, .unset, .unset, .unset, .unset, .unset, .unset, .unset] [(.int (latQ p0))])
          refine ogo (fun _ z_ => XS.goto X258.here hx rfl (pc0 := 239) (pc' := 246) rfl (hb hby at_239) (by decide) (by decide) z_) ?_
          show OWay p e below G T258 (mkF m 246 #[.val (.int p0), .val (.int p1), .val (.int p2), .val (.int p3), .val (.int p4), .val (.int (0 : Int32)), .val (.int (1 : Int32)), .val (.int (1 : Int32)), .val (.ref b5), .val (.ref b60), .val (.ref b115), .val (.ref b141), .val (.ref b115), .val (.int v13_240), .unset, .unset, .unset, .unset, .unset, .unset, .unset, .unset, .unset, .unset, .unset] [(.int (latQ p0))])
          suffices Jv14_259 : ∀ v14_259 : Int32, v14_259 = (latQ p0) → OWay p e below G T258 (mkF m 246 #[.val (.int p0), .val (.int p1), .val (.int p2), .val (.int p3), .val (.int p4), .val (.int (0 : Int32)), .val (.int (1 : Int32)), .val (.int (1 : Int32)), .val (.ref b5), .val (.ref b60), .val (.ref b115), .val (.ref b141), .val (.ref b115), .val (.int v13_240), .unset, .unset, .unset, .unset, .unset, .unset, .unset, .unset, .unset, .unset, .unset] [(.int v14_259)]) from Jv14_259 _ rfl
          intro v14_259 hv14_259
          refine ogo (fun _ z_ => XS.istore X258.here hx rfl (hb hby at_246) rfl (l' := #[.val (.int p0), .val (.int p1), .val (.int p2), .val (.int p3), .val (.int p4), .val (.int (0 : Int32)), .val (.int (1 : Int32)), .val (.int (1 : Int32)), .val (.ref b5), .val (.ref b60), .val (.ref b115), .val (.ref b141), .val (.ref b115), .val (.int v13_240), .val (.int v14_259), .unset, .unset, .unset, .unset, .unset, .unset, .unset, .unset, .unset, .unset]) rfl z_) ?_
          show OWay p e below G T258 (mkF m 248 #[.val (.int p0), .val (.int p1), .val (.int p2), .val (.int p3), .val (.int p4), .val (.int (0 : Int32)), .val (.int (1 : Int32)), .val (.int (1 : Int32)), .val (.ref b5), .val (.ref b60), .val (.ref b115), .val (.ref b141), .val (.ref b115), .val (.int v13_240), .val (.int v14_259), .unset, .unset, .unset, .unset, .unset, .unset, .unset, .unset, .unset, .unset] [])
          refine ogo (fun _ z_ => XS.iload X258.here hx rfl (hb hby at_248) rfl z_) ?_
          show OWay p e below G T258 (mkF m 250 #[.val (.int p0), .val (.int p1), .val (.int p2), .val (.int p3), .val (.int p4), .val (.int (0 : Int32)), .val (.int (1 : Int32)), .val (.int (1 : Int32)), .val (.ref b5), .val (.ref b60), .val (.ref b115), .val (.ref b141), .val (.ref b115), .val (.int v13_240), .val (.int v14_259), .unset, .unset, .unset, .unset, .unset, .unset, .unset, .unset, .unset, .unset] [(.int (1 : Int32))])
          refine ogo (fun _ z_ => XS.ifNo X258.here hx rfl (hb hby at_250) rfl ((if0 _ _).trans (feq (by decide)).1) z_) ?_
          show OWay p e below G T258 (mkF m 253 #[.val (.int p0), .val (.int p1), .val (.int p2), .val (.int p3), .val (.int p4), .val (.int (0 : Int32)), .val (.int (1 : Int32)), .val (.int (1 : Int32)), .val (.ref b5), .val (.ref b60), .val (.ref b115), .val (.ref b141), .val (.ref b115), .val (.int v13_240), .val (.int v14_259), .unset, .unset, .unset, .unset, .unset, .unset, .unset, .unset, .unset, .unset] [])
          refine ogo (fun _ z_ => XS.iload X258.here hx rfl (hb hby at_253) rfl z_) ?_
          show OWay p e below G T258 (mkF m 255 #[.val (.int p0), .val (.int p1), .val (.int p2), .val (.int p3), .val (.int p4), .val (.int (0 : Int32)), .val (.int (1 : Int32)), .val (.int (1 : Int32)), .val (.ref b5), .val (.ref b60), .val (.ref b115), .val (.ref b141), .val (.ref b115), .val (.int v13_240), .val (.int v14_259), .unset, .unset, .unset, .unset, .unset, .unset, .unset, .unset, .unset, .unset] [(.int (1 : Int32))])
          refine ogo (fun _ z_ => XS.ifYes X258.here hx rfl (pc0 := 255) (pc' := 265) rfl (hb hby at_255) rfl ((if0 _ _).trans (feq (by decide)).2) (by decide) (by decide) z_) ?_
          show OWay p e below G T258 (mkF m 265 #[.val (.int p0), .val (.int p1), .val (.int p2), .val (.int p3), .val (.int p4), .val (.int (0 : Int32)), .val (.int (1 : Int32)), .val (.int (1 : Int32)), .val (.ref b5), .val (.ref b60), .val (.ref b115), .val (.ref b141), .val (.ref b115), .val (.int v13_240), .val (.int v14_259), .unset, .unset, .unset, .unset, .unset, .unset, .unset, .unset, .unset, .unset] [])
          refine ogo (fun _ z_ => XS.iloadN X258.here hx rfl (hb hby at_265) rfl z_) ?_
          show OWay p e below G T258 (mkF m 266 #[.val (.int p0), .val (.int p1), .val (.int p2), .val (.int p3), .val (.int p4), .val (.int (0 : Int32)), .val (.int (1 : Int32)), .val (.int (1 : Int32)), .val (.ref b5), .val (.ref b60), .val (.ref b115), .val (.ref b141), .val (.ref b115), .val (.int v13_240), .val (.int v14_259), .unset, .unset, .unset, .unset, .unset, .unset, .unset, .unset, .unset, .unset] [(.int p1)])
          obtain ⟨_, T260, L260, X260, hQ260, st260⟩ := wStatic X258 hx hZ (y := (⟨"com/example/wakeline/wakeline/similarity/CoordinatesSquaredDistancePinLaw", "lonQ", "(I)I"⟩ : MethodName)) hown (hw _ (List.mem_of_getElem? (i := 29) rfl)) (hw _ (List.mem_of_getElem? (i := 30) rfl)) (hw _ (List.mem_of_getElem? (i := 31) rfl)) (hw _ (List.mem_of_getElem? (i := 32) rfl)) (by decide) (lonQ_b_c l Z az hw [] p1 T153.heap n0 (Nat.le_trans (Nat.le_trans (Nat.le_trans (Nat.le_trans (Nat.le_trans (Nat.le_trans (Nat.le_trans (Nat.le_trans (Nat.le_trans (Nat.le_trans (Nat.le_trans (Nat.le_trans (Nat.le_trans (Nat.le_trans (Nat.le_trans (Nat.le_trans (Nat.le_trans (Nat.le_trans (Nat.le_trans (Nat.le_trans Z0 E5.1) Kq8.1) E13.1) Kq17.1) Kq28.1) E39.1) Kq43.1) Kq54.1) E60.1) Kq63.1) E68.1) Kq72.1) Kq83.1) E94.1) Kq98.1) Kq109.1) E115.1) Kq127.1) E141.1) Kq153.1)) 0 (by decide) (by decide) (g := (mkF m 266 #[.val (.int p0), .val (.int p1), .val (.int p2), .val (.int p3), .val (.int p4), .val (.int (0 : Int32)), .val (.int (1 : Int32)), .val (.int (1 : Int32)), .val (.ref b5), .val (.ref b60), .val (.ref b115), .val (.ref b141), .val (.ref b115), .val (.int v13_240), .val (.int v14_259), .unset, .unset, .unset, .unset, .unset, .unset, .unset, .unset, .unset, .unset] [(.int p1)])) rfl (by rw [hml]; rfl) (argsL := [(.int p1)]) (rest := []) (lenOf pd__I_I rfl) rfl (by show 2 * 0 + _ ≤ _; exact Nat.le_of_eq rfl) (hb hby at_266) rfl eq258 (by decide) (by decide)
          obtain ⟨rfl, N260q, eq260⟩ := hQ260
          have N260 := Fr.app N258 N260q
          refine ogo st260 ?_
          show OWay p e below G T260 (mkF m 269 #[.val (.int p0), .val (.int p1), .val (.int p2), .val (.int p3), .val (.int p4), .val (.int (0 : Int32)), .val (.int (1 : Int32)), .val (.int (1 : Int32)), .val (.ref b5), .val (.ref b60), .val (.ref b115), .val (.ref b141), .val (.ref b115), .val (.int v13_240), .val (.int v14_259), .unset, .unset, .unset, .unset, .unset, .unset, .unset, .unset, .unset, .unset] [(.int (lonQ p1))])
          suffices Jv15_261 : ∀ v15_261 : Int32, v15_261 = (lonQ p1) → OWay p e below G T260 (mkF m 269 #[.val (.int p0), .val (.int p1), .val (.int p2), .val (.int p3), .val (.int p4), .val (.int (0 : Int32)), .val (.int (1 : Int32)), .val (.int (1 : Int32)), .val (.ref b5), .val (.ref b60), .val (.ref b115), .val (.ref b141), .val (.ref b115), .val (.int v13_240), .val (.int v14_259), .unset, .unset, .unset, .unset, .unset, .unset, .unset, .unset, .unset, .unset] [(.int v15_261)]) from Jv15_261 _ rfl
          intro v15_261 hv15_261
          refine ogo (fun _ z_ => XS.istore X260.here hx rfl (hb hby at_269) rfl (l' := #[.val (.int p0), .val (.int p1), .val (.int p2), .val (.int p3), .val (.int p4), .val (.int (0 : Int32)), .val (.int (1 : Int32)), .val (.int (1 : Int32)), .val (.ref b5), .val (.ref b60), .val (.ref b115), .val (.ref b141), .val (.ref b115), .val (.int v13_240), .val (.int v14_259), .val (.int v15_261), .unset, .unset, .unset, .unset, .unset, .unset, .unset, .unset, .unset]) rfl z_) ?_
          show OWay p e below G T260 (mkF m 271 #[.val (.int p0), .val (.int p1), .val (.int p2), .val (.int p3), .val (.int p4), .val (.int (0 : Int32)), .val (.int (1 : Int32)), .val (.int (1 : Int32)), .val (.ref b5), .val (.ref b60), .val (.ref b115), .val (.ref b141), .val (.ref b115), .val (.int v13_240), .val (.int v14_259), .val (.int v15_261), .unset, .unset, .unset, .unset, .unset, .unset, .unset, .unset, .unset] [])
          refine ogo (fun _ z_ => XS.iload X260.here hx rfl (hb hby at_271) rfl z_) ?_
          show OWay p e below G T260 (mkF m 273 #[.val (.int p0), .val (.int p1), .val (.int p2), .val (.int p3), .val (.int p4), .val (.int (0 : Int32)), .val (.int (1 : Int32)), .val (.int (1 : Int32)), .val (.ref b5), .val (.ref b60), .val (.ref b115), .val (.ref b141), .val (.ref b115), .val (.int v13_240), .val (.int v14_259), .val (.int v15_261), .unset, .unset, .unset, .unset, .unset, .unset, .unset, .unset, .unset] [(.int (1 : Int32))])
          refine ogo (fun _ z_ => XS.ifYes X260.here hx rfl (pc0 := 273) (pc' := 283) rfl (hb hby at_273) rfl ((if0 _ _).trans (feq (by decide)).2) (by decide) (by decide) z_) ?_
          show OWay p e below G T260 (mkF m 283 #[.val (.int p0), .val (.int p1), .val (.int p2), .val (.int p3), .val (.int p4), .val (.int (0 : Int32)), .val (.int (1 : Int32)), .val (.int (1 : Int32)), .val (.ref b5), .val (.ref b60), .val (.ref b115), .val (.ref b141), .val (.ref b115), .val (.int v13_240), .val (.int v14_259), .val (.int v15_261), .unset, .unset, .unset, .unset, .unset, .unset, .unset, .unset, .unset] [])
          refine ogo (fun _ z_ => XS.iloadN X260.here hx rfl (hb hby at_283) rfl z_) ?_
          show OWay p e below G T260 (mkF m 284 #[.val (.int p0), .val (.int p1), .val (.int p2), .val (.int p3), .val (.int p4), .val (.int (0 : Int32)), .val (.int (1 : Int32)), .val (.int (1 : Int32)), .val (.ref b5), .val (.ref b60), .val (.ref b115), .val (.ref b141), .val (.ref b115), .val (.int v13_240), .val (.int v14_259), .val (.int v15_261), .unset, .unset, .unset, .unset, .unset, .unset, .unset, .unset, .unset] [(.int p1)])
          obtain ⟨_, T262, L262, X262, hQ262, st262⟩ := wStatic X260 hx hZ (y := (⟨"com/example/wakeline/wakeline/similarity/CoordinatesSquaredDistancePinLaw", "latQ", "(I)I"⟩ : MethodName)) hown (hw _ (List.mem_of_getElem? (i := 35) rfl)) (hw _ (List.mem_of_getElem? (i := 36) rfl)) (hw _ (List.mem_of_getElem? (i := 31) rfl)) (hw _ (List.mem_of_getElem? (i := 37) rfl)) (by decide) (latQ_b_c l Z az hw [] p1 T153.heap n0 (Nat.le_trans (Nat.le_trans (Nat.le_trans (Nat.le_trans (Nat.le_trans (Nat.le_trans (Nat.le_trans (Nat.le_trans (Nat.le_trans (Nat.le_trans (Nat.le_trans (Nat.le_trans (Nat.le_trans (Nat.le_trans (Nat.le_trans (Nat.le_trans (Nat.le_trans (Nat.le_trans (Nat.le_trans (Nat.le_trans Z0 E5.1) Kq8.1) E13.1) Kq17.1) Kq28.1) E39.1) Kq43.1) Kq54.1) E60.1) Kq63.1) E68.1) Kq72.1) Kq83.1) E94.1) Kq98.1) Kq109.1) E115.1) Kq127.1) E141.1) Kq153.1)) 0 (by decide) (by decide) (g := (mkF m 284 #[.val (.int p0), .val (.int p1), .val (.int p2), .val (.int p3), .val (.int p4), .val (.int (0 : Int32)), .val (.int (1 : Int32)), .val (.int (1 : Int32)), .val (.ref b5), .val (.ref b60), .val (.ref b115), .val (.ref b141), .val (.ref b115), .val (.int v13_240), .val (.int v14_259), .val (.int v15_261), .unset, .unset, .unset, .unset, .unset, .unset, .unset, .unset, .unset] [(.int p1)])) rfl (by rw [hml]; rfl) (argsL := [(.int p1)]) (rest := []) (lenOf pd__I_I rfl) rfl (by show 2 * 0 + _ ≤ _; exact Nat.le_of_eq rfl) (hb hby at_284) rfl eq260 (by decide) (by decide)
          obtain ⟨rfl, N262q, eq262⟩ := hQ262
          have N262 := Fr.app N260 N262q
          refine ogo st262 ?_
          show OWay p e below G T262 (mkF m 287 #[.val (.int p0), .val (.int p1), .val (.int p2), .val (.int p3), .val (.int p4), .val (.int (0 : Int32)), .val (.int (1 : Int32)), .val (.int (1 : Int32)), .val (.ref b5), .val (.ref b60), .val (.ref b115), .val (.ref b141), .val (.ref b115), .val (.int v13_240), .val (.int v14_259), .val (.int v15_261), .unset, .unset, .unset, .unset, .unset, .unset, .unset, .unset, .unset] [(.int (latQ p1))])
          suffices Jv16_263 : ∀ v16_263 : Int32, v16_263 = (latQ p1) → OWay p e below G T262 (mkF m 287 #[.val (.int p0), .val (.int p1), .val (.int p2), .val (.int p3), .val (.int p4), .val (.int (0 : Int32)), .val (.int (1 : Int32)), .val (.int (1 : Int32)), .val (.ref b5), .val (.ref b60), .val (.ref b115), .val (.ref b141), .val (.ref b115), .val (.int v13_240), .val (.int v14_259), .val (.int v15_261), .unset, .unset, .unset, .unset, .unset, .unset, .unset, .unset, .unset] [(.int v16_263)]) from Jv16_263 _ rfl
          intro v16_263 hv16_263
          refine ogo (fun _ z_ => XS.istore X262.here hx rfl (hb hby at_287) rfl (l' := #[.val (.int p0), .val (.int p1), .val (.int p2), .val (.int p3), .val (.int p4), .val (.int (0 : Int32)), .val (.int (1 : Int32)), .val (.int (1 : Int32)), .val (.ref b5), .val (.ref b60), .val (.ref b115), .val (.ref b141), .val (.ref b115), .val (.int v13_240), .val (.int v14_259), .val (.int v15_261), .val (.int v16_263), .unset, .unset, .unset, .unset, .unset, .unset, .unset, .unset]) rfl z_) ?_
          show OWay p e below G T262 (mkF m 289 #[.val (.int p0), .val (.int p1), .val (.int p2), .val (.int p3), .val (.int p4), .val (.int (0 : Int32)), .val (.int (1 : Int32)), .val (.int (1 : Int32)), .val (.ref b5), .val (.ref b60), .val (.ref b115), .val (.ref b141), .val (.ref b115), .val (.int v13_240), .val (.int v14_259), .val (.int v15_261), .val (.int v16_263), .unset, .unset, .unset, .unset, .unset, .unset, .unset, .unset] [])
          refine ogo (fun _ z_ => XS.goto X262.here hx rfl (pc0 := 289) (pc' := 328) rfl (hb hby at_289) (by decide) (by decide) z_) ?_
          show OWay p e below G T262 (mkF m 328 #[.val (.int p0), .val (.int p1), .val (.int p2), .val (.int p3), .val (.int p4), .val (.int (0 : Int32)), .val (.int (1 : Int32)), .val (.int (1 : Int32)), .val (.ref b5), .val (.ref b60), .val (.ref b115), .val (.ref b141), .val (.ref b115), .val (.int v13_240), .val (.int v14_259), .val (.int v15_261), .val (.int v16_263), .unset, .unset, .unset, .unset, .unset, .unset, .unset, .unset] [])
          refine ogo (fun _ z_ => XS.iload X262.here hx rfl (hb hby at_328) rfl z_) ?_
          show OWay p e below G T262 (mkF m 330 #[.val (.int p0), .val (.int p1), .val (.int p2), .val (.int p3), .val (.int p4), .val (.int (0 : Int32)), .val (.int (1 : Int32)), .val (.int (1 : Int32)), .val (.ref b5), .val (.ref b60), .val (.ref b115), .val (.ref b141), .val (.ref b115), .val (.int v13_240), .val (.int v14_259), .val (.int v15_261), .val (.int v16_263), .unset, .unset, .unset, .unset, .unset, .unset, .unset, .unset] [(.int v13_240)])
          refine ogo (fun _ z_ => XS.i2l X262.here hx rfl (hb hby at_330) rfl z_) ?_
          show OWay p e below G T262 (mkF m 331 #[.val (.int p0), .val (.int p1), .val (.int p2), .val (.int p3), .val (.int p4), .val (.int (0 : Int32)), .val (.int (1 : Int32)), .val (.int (1 : Int32)), .val (.ref b5), .val (.ref b60), .val (.ref b115), .val (.ref b141), .val (.ref b115), .val (.int v13_240), .val (.int v14_259), .val (.int v15_261), .val (.int v16_263), .unset, .unset, .unset, .unset, .unset, .unset, .unset, .unset] [(.long (v13_240.toInt64))])
          refine ogo (fun _ z_ => XS.iload X262.here hx rfl (hb hby at_331) rfl z_) ?_
          show OWay p e below G T262 (mkF m 333 #[.val (.int p0), .val (.int p1), .val (.int p2), .val (.int p3), .val (.int p4), .val (.int (0 : Int32)), .val (.int (1 : Int32)), .val (.int (1 : Int32)), .val (.ref b5), .val (.ref b60), .val (.ref b115), .val (.ref b141), .val (.ref b115), .val (.int v13_240), .val (.int v14_259), .val (.int v15_261), .val (.int v16_263), .unset, .unset, .unset, .unset, .unset, .unset, .unset, .unset] [(.int v15_261), (.long (v13_240.toInt64))])
          refine ogo (fun _ z_ => XS.i2l X262.here hx rfl (hb hby at_333) rfl z_) ?_
          show OWay p e below G T262 (mkF m 334 #[.val (.int p0), .val (.int p1), .val (.int p2), .val (.int p3), .val (.int p4), .val (.int (0 : Int32)), .val (.int (1 : Int32)), .val (.int (1 : Int32)), .val (.ref b5), .val (.ref b60), .val (.ref b115), .val (.ref b141), .val (.ref b115), .val (.int v13_240), .val (.int v14_259), .val (.int v15_261), .val (.int v16_263), .unset, .unset, .unset, .unset, .unset, .unset, .unset, .unset] [(.long (v15_261.toInt64)), (.long (v13_240.toInt64))])
          refine ogo (fun _ z_ => XS.lsub X262.here hx rfl (hb hby at_334) rfl z_) ?_
          show OWay p e below G T262 (mkF m 335 #[.val (.int p0), .val (.int p1), .val (.int p2), .val (.int p3), .val (.int p4), .val (.int (0 : Int32)), .val (.int (1 : Int32)), .val (.int (1 : Int32)), .val (.ref b5), .val (.ref b60), .val (.ref b115), .val (.ref b141), .val (.ref b115), .val (.int v13_240), .val (.int v14_259), .val (.int v15_261), .val (.int v16_263), .unset, .unset, .unset, .unset, .unset, .unset, .unset, .unset] [(.long ((v13_240.toInt64) - (v15_261.toInt64)))])
          suffices Jv17_264 : ∀ v17_264 : Int64, v17_264 = ((v13_240.toInt64) - (v15_261.toInt64)) → OWay p e below G T262 (mkF m 335 #[.val (.int p0), .val (.int p1), .val (.int p2), .val (.int p3), .val (.int p4), .val (.int (0 : Int32)), .val (.int (1 : Int32)), .val (.int (1 : Int32)), .val (.ref b5), .val (.ref b60), .val (.ref b115), .val (.ref b141), .val (.ref b115), .val (.int v13_240), .val (.int v14_259), .val (.int v15_261), .val (.int v16_263), .unset, .unset, .unset, .unset, .unset, .unset, .unset, .unset] [(.long v17_264)]) from Jv17_264 _ rfl
          intro v17_264 hv17_264
          refine ogo (fun _ z_ => XS.lstore X262.here hx rfl (hb hby at_335) rfl (l' := #[.val (.int p0), .val (.int p1), .val (.int p2), .val (.int p3), .val (.int p4), .val (.int (0 : Int32)), .val (.int (1 : Int32)), .val (.int (1 : Int32)), .val (.ref b5), .val (.ref b60), .val (.ref b115), .val (.ref b141), .val (.ref b115), .val (.int v13_240), .val (.int v14_259), .val (.int v15_261), .val (.int v16_263), .val (.long v17_264), .second, .unset, .unset, .unset, .unset, .unset, .unset]) rfl z_) ?_
          show OWay p e below G T262 (mkF m 337 #[.val (.int p0), .val (.int p1), .val (.int p2), .val (.int p3), .val (.int p4), .val (.int (0 : Int32)), .val (.int (1 : Int32)), .val (.int (1 : Int32)), .val (.ref b5), .val (.ref b60), .val (.ref b115), .val (.ref b141), .val (.ref b115), .val (.int v13_240), .val (.int v14_259), .val (.int v15_261), .val (.int v16_263), .val (.long v17_264), .second, .unset, .unset, .unset, .unset, .unset, .unset] [])
          refine ogo (fun _ z_ => XS.iload X262.here hx rfl (hb hby at_337) rfl z_) ?_
          show OWay p e below G T262 (mkF m 339 #[.val (.int p0), .val (.int p1), .val (.int p2), .val (.int p3), .val (.int p4), .val (.int (0 : Int32)), .val (.int (1 : Int32)), .val (.int (1 : Int32)), .val (.ref b5), .val (.ref b60), .val (.ref b115), .val (.ref b141), .val (.ref b115), .val (.int v13_240), .val (.int v14_259), .val (.int v15_261), .val (.int v16_263), .val (.long v17_264), .second, .unset, .unset, .unset, .unset, .unset, .unset] [(.int v14_259)])
          refine ogo (fun _ z_ => XS.i2l X262.here hx rfl (hb hby at_339) rfl z_) ?_
          show OWay p e below G T262 (mkF m 340 #[.val (.int p0), .val (.int p1), .val (.int p2), .val (.int p3), .val (.int p4), .val (.int (0 : Int32)), .val (.int (1 : Int32)), .val (.int (1 : Int32)), .val (.ref b5), .val (.ref b60), .val (.ref b115), .val (.ref b141), .val (.ref b115), .val (.int v13_240), .val (.int v14_259), .val (.int v15_261), .val (.int v16_263), .val (.long v17_264), .second, .unset, .unset, .unset, .unset, .unset, .unset] [(.long (v14_259.toInt64))])
          refine ogo (fun _ z_ => XS.iload X262.here hx rfl (hb hby at_340) rfl z_) ?_
          show OWay p e below G T262 (mkF m 342 #[.val (.int p0), .val (.int p1), .val (.int p2), .val (.int p3), .val (.int p4), .val (.int (0 : Int32)), .val (.int (1 : Int32)), .val (.int (1 : Int32)), .val (.ref b5), .val (.ref b60), .val (.ref b115), .val (.ref b141), .val (.ref b115), .val (.int v13_240), .val (.int v14_259), .val (.int v15_261), .val (.int v16_263), .val (.long v17_264), .second, .unset, .unset, .unset, .unset, .unset, .unset] [(.int v16_263), (.long (v14_259.toInt64))])
          refine ogo (fun _ z_ => XS.i2l X262.here hx rfl (hb hby at_342) rfl z_) ?_
          show OWay p e below G T262 (mkF m 343 #[.val (.int p0), .val (.int p1), .val (.int p2), .val (.int p3), .val (.int p4), .val (.int (0 : Int32)), .val (.int (1 : Int32)), .val (.int (1 : Int32)), .val (.ref b5), .val (.ref b60), .val (.ref b115), .val (.ref b141), .val (.ref b115), .val (.int v13_240), .val (.int v14_259), .val (.int v15_261), .val (.int v16_263), .val (.long v17_264), .second, .unset, .unset, .unset, .unset, .unset, .unset] [(.long (v16_263.toInt64)), (.long (v14_259.toInt64))])
          refine ogo (fun _ z_ => XS.lsub X262.here hx rfl (hb hby at_343) rfl z_) ?_
          show OWay p e below G T262 (mkF m 344 #[.val (.int p0), .val (.int p1), .val (.int p2), .val (.int p3), .val (.int p4), .val (.int (0 : Int32)), .val (.int (1 : Int32)), .val (.int (1 : Int32)), .val (.ref b5), .val (.ref b60), .val (.ref b115), .val (.ref b141), .val (.ref b115), .val (.int v13_240), .val (.int v14_259), .val (.int v15_261), .val (.int v16_263), .val (.long v17_264), .second, .unset, .unset, .unset, .unset, .unset, .unset] [(.long ((v14_259.toInt64) - (v16_263.toInt64)))])
          suffices Jv19_265 : ∀ v19_265 : Int64, v19_265 = ((v14_259.toInt64) - (v16_263.toInt64)) → OWay p e below G T262 (mkF m 344 #[.val (.int p0), .val (.int p1), .val (.int p2), .val (.int p3), .val (.int p4), .val (.int (0 : Int32)), .val (.int (1 : Int32)), .val (.int (1 : Int32)), .val (.ref b5), .val (.ref b60), .val (.ref b115), .val (.ref b141), .val (.ref b115), .val (.int v13_240), .val (.int v14_259), .val (.int v15_261), .val (.int v16_263), .val (.long v17_264), .second, .unset, .unset, .unset, .unset, .unset, .unset] [(.long v19_265)]) from Jv19_265 _ rfl
          intro v19_265 hv19_265
          refine ogo (fun _ z_ => XS.lstore X262.here hx rfl (hb hby at_344) rfl (l' := #[.val (.int p0), .val (.int p1), .val (.int p2), .val (.int p3), .val (.int p4), .val (.int (0 : Int32)), .val (.int (1 : Int32)), .val (.int (1 : Int32)), .val (.ref b5), .val (.ref b60), .val (.ref b115), .val (.ref b141), .val (.ref b115), .val (.int v13_240), .val (.int v14_259), .val (.int v15_261), .val (.int v16_263), .val (.long v17_264), .second, .val (.long v19_265), .second, .unset, .unset, .unset, .unset]) rfl z_) ?_
          show OWay p e below G T262 (mkF m 346 #[.val (.int p0), .val (.int p1), .val (.int p2), .val (.int p3), .val (.int p4), .val (.int (0 : Int32)), .val (.int (1 : Int32)), .val (.int (1 : Int32)), .val (.ref b5), .val (.ref b60), .val (.ref b115), .val (.ref b141), .val (.ref b115), .val (.int v13_240), .val (.int v14_259), .val (.int v15_261), .val (.int v16_263), .val (.long v17_264), .second, .val (.long v19_265), .second, .unset, .unset, .unset, .unset] [])
          refine ogo (fun _ z_ => XS.lload X262.here hx rfl (hb hby at_346) rfl z_) ?_
          show OWay p e below G T262 (mkF m 348 #[.val (.int p0), .val (.int p1), .val (.int p2), .val (.int p3), .val (.int p4), .val (.int (0 : Int32)), .val (.int (1 : Int32)), .val (.int (1 : Int32)), .val (.ref b5), .val (.ref b60), .val (.ref b115), .val (.ref b141), .val (.ref b115), .val (.int v13_240), .val (.int v14_259), .val (.int v15_261), .val (.int v16_263), .val (.long v17_264), .second, .val (.long v19_265), .second, .unset, .unset, .unset, .unset] [(.long v17_264)])
          refine ogo (fun _ z_ => XS.lload X262.here hx rfl (hb hby at_348) rfl z_) ?_
          show OWay p e below G T262 (mkF m 350 #[.val (.int p0), .val (.int p1), .val (.int p2), .val (.int p3), .val (.int p4), .val (.int (0 : Int32)), .val (.int (1 : Int32)), .val (.int (1 : Int32)), .val (.ref b5), .val (.ref b60), .val (.ref b115), .val (.ref b141), .val (.ref b115), .val (.int v13_240), .val (.int v14_259), .val (.int v15_261), .val (.int v16_263), .val (.long v17_264), .second, .val (.long v19_265), .second, .unset, .unset, .unset, .unset] [(.long v17_264), (.long v17_264)])
          refine ogo (fun _ z_ => XS.lmul X262.here hx rfl (hb hby at_350) rfl z_) ?_
          show OWay p e below G T262 (mkF m 351 #[.val (.int p0), .val (.int p1), .val (.int p2), .val (.int p3), .val (.int p4), .val (.int (0 : Int32)), .val (.int (1 : Int32)), .val (.int (1 : Int32)), .val (.ref b5), .val (.ref b60), .val (.ref b115), .val (.ref b141), .val (.ref b115), .val (.int v13_240), .val (.int v14_259), .val (.int v15_261), .val (.int v16_263), .val (.long v17_264), .second, .val (.long v19_265), .second, .unset, .unset, .unset, .unset] [(.long (v17_264 * v17_264))])
          refine ogo (fun _ z_ => XS.lload X262.here hx rfl (hb hby at_351) rfl z_) ?_
          show OWay p e below G T262 (mkF m 353 #[.val (.int p0), .val (.int p1), .val (.int p2), .val (.int p3), .val (.int p4), .val (.int (0 : Int32)), .val (.int (1 : Int32)), .val (.int (1 : Int32)), .val (.ref b5), .val (.ref b60), .val (.ref b115), .val (.ref b141), .val (.ref b115), .val (.int v13_240), .val (.int v14_259), .val (.int v15_261), .val (.int v16_263), .val (.long v17_264), .second, .val (.long v19_265), .second, .unset, .unset, .unset, .unset] [(.long v19_265), (.long (v17_264 * v17_264))])
          refine ogo (fun _ z_ => XS.lload X262.here hx rfl (hb hby at_353) rfl z_) ?_
          show OWay p e below G T262 (mkF m 355 #[.val (.int p0), .val (.int p1), .val (.int p2), .val (.int p3), .val (.int p4), .val (.int (0 : Int32)), .val (.int (1 : Int32)), .val (.int (1 : Int32)), .val (.ref b5), .val (.ref b60), .val (.ref b115), .val (.ref b141), .val (.ref b115), .val (.int v13_240), .val (.int v14_259), .val (.int v15_261), .val (.int v16_263), .val (.long v17_264), .second, .val (.long v19_265), .second, .unset, .unset, .unset, .unset] [(.long v19_265), (.long v19_265), (.long (v17_264 * v17_264))])
          refine ogo (fun _ z_ => XS.lmul X262.here hx rfl (hb hby at_355) rfl z_) ?_
          show OWay p e below G T262 (mkF m 356 #[.val (.int p0), .val (.int p1), .val (.int p2), .val (.int p3), .val (.int p4), .val (.int (0 : Int32)), .val (.int (1 : Int32)), .val (.int (1 : Int32)), .val (.ref b5), .val (.ref b60), .val (.ref b115), .val (.ref b141), .val (.ref b115), .val (.int v13_240), .val (.int v14_259), .val (.int v15_261), .val (.int v16_263), .val (.long v17_264), .second, .val (.long v19_265), .second, .unset, .unset, .unset, .unset] [(.long (v19_265 * v19_265)), (.long (v17_264 * v17_264))])
          refine ogo (fun _ z_ => XS.ladd X262.here hx rfl (hb hby at_356) rfl z_) ?_
          show OWay p e below G T262 (mkF m 357 #[.val (.int p0), .val (.int p1), .val (.int p2), .val (.int p3), .val (.int p4), .val (.int (0 : Int32)), .val (.int (1 : Int32)), .val (.int (1 : Int32)), .val (.ref b5), .val (.ref b60), .val (.ref b115), .val (.ref b141), .val (.ref b115), .val (.int v13_240), .val (.int v14_259), .val (.int v15_261), .val (.int v16_263), .val (.long v17_264), .second, .val (.long v19_265), .second, .unset, .unset, .unset, .unset] [(.long ((v17_264 * v17_264) + (v19_265 * v19_265)))])
          suffices Jv21_266 : ∀ v21_266 : Int64, v21_266 = ((v17_264 * v17_264) + (v19_265 * v19_265)) → OWay p e below G T262 (mkF m 357 #[.val (.int p0), .val (.int p1), .val (.int p2), .val (.int p3), .val (.int p4), .val (.int (0 : Int32)), .val (.int (1 : Int32)), .val (.int (1 : Int32)), .val (.ref b5), .val (.ref b60), .val (.ref b115), .val (.ref b141), .val (.ref b115), .val (.int v13_240), .val (.int v14_259), .val (.int v15_261), .val (.int v16_263), .val (.long v17_264), .second, .val (.long v19_265), .second, .unset, .unset, .unset, .unset] [(.long v21_266)]) from Jv21_266 _ rfl
          intro v21_266 hv21_266
          refine ogo (fun _ z_ => XS.lstore X262.here hx rfl (hb hby at_357) rfl (l' := #[.val (.int p0), .val (.int p1), .val (.int p2), .val (.int p3), .val (.int p4), .val (.int (0 : Int32)), .val (.int (1 : Int32)), .val (.int (1 : Int32)), .val (.ref b5), .val (.ref b60), .val (.ref b115), .val (.ref b141), .val (.ref b115), .val (.int v13_240), .val (.int v14_259), .val (.int v15_261), .val (.int v16_263), .val (.long v17_264), .second, .val (.long v19_265), .second, .val (.long v21_266), .second, .unset, .unset]) rfl z_) ?_
          show OWay p e below G T262 (mkF m 359 #[.val (.int p0), .val (.int p1), .val (.int p2), .val (.int p3), .val (.int p4), .val (.int (0 : Int32)), .val (.int (1 : Int32)), .val (.int (1 : Int32)), .val (.ref b5), .val (.ref b60), .val (.ref b115), .val (.ref b141), .val (.ref b115), .val (.int v13_240), .val (.int v14_259), .val (.int v15_261), .val (.int v16_263), .val (.long v17_264), .second, .val (.long v19_265), .second, .val (.long v21_266), .second, .unset, .unset] [])
          refine ogo (fun _ z_ => XS.aload X262.here hx rfl (hb hby at_359) rfl rfl z_) ?_
          show OWay p e below G T262 (mkF m 361 #[.val (.int p0), .val (.int p1), .val (.int p2), .val (.int p3), .val (.int p4), .val (.int (0 : Int32)), .val (.int (1 : Int32)), .val (.int (1 : Int32)), .val (.ref b5), .val (.ref b60), .val (.ref b115), .val (.ref b141), .val (.ref b115), .val (.int v13_240), .val (.int v14_259), .val (.int v15_261), .val (.int v16_263), .val (.long v17_264), .second, .val (.long v19_265), .second, .val (.long v21_266), .second, .unset, .unset] [(.ref b115)])
          refine ogo (fun _ z_ => XS.iload X262.here hx rfl (hb hby at_361) rfl z_) ?_
          show OWay p e below G T262 (mkF m 363 #[.val (.int p0), .val (.int p1), .val (.int p2), .val (.int p3), .val (.int p4), .val (.int (0 : Int32)), .val (.int (1 : Int32)), .val (.int (1 : Int32)), .val (.ref b5), .val (.ref b60), .val (.ref b115), .val (.ref b141), .val (.ref b115), .val (.int v13_240), .val (.int v14_259), .val (.int v15_261), .val (.int v16_263), .val (.long v17_264), .second, .val (.long v19_265), .second, .val (.long v21_266), .second, .unset, .unset] [(.int (0 : Int32)), (.ref b115)])
          refine ogo (fun _ z_ => XS.aload X262.here hx rfl (hb hby at_363) rfl rfl z_) ?_
          show OWay p e below G T262 (mkF m 365 #[.val (.int p0), .val (.int p1), .val (.int p2), .val (.int p3), .val (.int p4), .val (.int (0 : Int32)), .val (.int (1 : Int32)), .val (.int (1 : Int32)), .val (.ref b5), .val (.ref b60), .val (.ref b115), .val (.ref b141), .val (.ref b115), .val (.int v13_240), .val (.int v14_259), .val (.int v15_261), .val (.int v16_263), .val (.long v17_264), .second, .val (.long v19_265), .second, .val (.long v21_266), .second, .unset, .unset] [(.ref b115), (.int (0 : Int32)), (.ref b115)])
          refine ogo (fun _ z_ => XS.iload X262.here hx rfl (hb hby at_365) rfl z_) ?_
          show OWay p e below G T262 (mkF m 367 #[.val (.int p0), .val (.int p1), .val (.int p2), .val (.int p3), .val (.int p4), .val (.int (0 : Int32)), .val (.int (1 : Int32)), .val (.int (1 : Int32)), .val (.ref b5), .val (.ref b60), .val (.ref b115), .val (.ref b141), .val (.ref b115), .val (.int v13_240), .val (.int v14_259), .val (.int v15_261), .val (.int v16_263), .val (.long v17_264), .second, .val (.long v19_265), .second, .val (.long v21_266), .second, .unset, .unset] [(.int (1 : Int32)), (.ref b115), (.int (0 : Int32)), (.ref b115)])
          have F267 : Fld Z T153.heap b115 "com/example/wakeline/wakeline/similarity/Coordinates" "longitudes" "[D" (.ref lo_128) := ((P138.ext E141).keep Kq153 (ninS (Nat.ne_of_lt (Nat.lt_of_lt_of_le P138.lt (Nat.le_of_eq g141.symm))) nin0))
          have F268 : Fld Z T153.heap b115 "com/example/wakeline/wakeline/similarity/Coordinates" "latitudes" "[D" (.ref la_129) := ((P139.ext E141).keep Kq153 (ninS (Nat.ne_of_lt (Nat.lt_of_lt_of_le P139.lt (Nat.le_of_eq g141.symm))) nin0))
          have F269 : Arv Z T153.heap lo_128 kl_130 .double (2 : Int32) [(.double (FP.ddiv (FP.i2d (lonQ p0)) (4616189618054758400 : UInt64))), (.double (FP.ddiv (FP.i2d (lonQ p1)) (4616189618054758400 : UInt64)))] (.double (0 : UInt64)) := ((P136.ext E141).keep Kq153 (ninS (Nat.ne_of_lt (Nat.lt_of_lt_of_le P136.lt (Nat.le_of_eq g141.symm))) nin0))
          have F270 : Arv Z T153.heap la_129 ka_131 .double (2 : Int32) [(.double (FP.ddiv (FP.i2d (latQ p0)) (4616189618054758400 : UInt64))), (.double (FP.ddiv (FP.i2d (latQ p1)) (4616189618054758400 : UInt64)))] (.double (0 : UInt64)) := ((P137.ext E141).keep Kq153 (ninS (Nat.ne_of_lt (Nat.lt_of_lt_of_le P137.lt (Nat.le_of_eq g141.symm))) nin0))
          have F272 : Exa Z T153.heap b115 "com/example/wakeline/wakeline/similarity/Coordinates" := (((A115.keep Kq127).ext E141).keep Kq153)
          obtain ⟨_, T271, L271, X271, hQ271, st271⟩ := wVirtual X262 hx hZ (y := (⟨"com/example/wakeline/wakeline/similarity/Coordinates", "squaredDistance", "(ILcom/example/wakeline/wakeline/similarity/Coordinates;I)D"⟩ : MethodName)) (z := (⟨"com/example/wakeline/wakeline/similarity/Coordinates", "squaredDistance", "(ILcom/example/wakeline/wakeline/similarity/Coordinates;I)D"⟩ : MethodName)) hown (hw _ (List.mem_of_getElem? (i := 142) rfl)) (hw _ (List.mem_of_getElem? (i := 143) rfl)) (notFace_of_selects (args := #[]) (mvT hZ (hw _ (List.mem_of_getElem? (i := 145) rfl)))) (hw _ (List.mem_of_getElem? (i := 145) rfl)) (hw _ (List.mem_of_getElem? (i := 144) rfl)) (hw _ (List.mem_of_getElem? (i := 90) rfl)) (hw _ (List.mem_of_getElem? (i := 146) rfl)) (by decide) (sd01_c l Z az hw [] b115 b115 lo_128 la_129 kl_130 ka_131 lo_128 la_129 kl_130 ka_131 (FP.ddiv (FP.i2d (lonQ p0)) (4616189618054758400 : UInt64)) (FP.ddiv (FP.i2d (lonQ p1)) (4616189618054758400 : UInt64)) (FP.ddiv (FP.i2d (latQ p0)) (4616189618054758400 : UInt64)) (FP.ddiv (FP.i2d (latQ p1)) (4616189618054758400 : UInt64)) (FP.ddiv (FP.i2d (lonQ p0)) (4616189618054758400 : UInt64)) (FP.ddiv (FP.i2d (lonQ p1)) (4616189618054758400 : UInt64)) (FP.ddiv (FP.i2d (latQ p0)) (4616189618054758400 : UInt64)) (FP.ddiv (FP.i2d (latQ p1)) (4616189618054758400 : UInt64)) (lonQ p0).toInt (lonQ p1).toInt (latQ p0).toInt (latQ p1).toInt T153.heap n0 (Nat.le_trans (Nat.le_trans (Nat.le_trans (Nat.le_trans (Nat.le_trans (Nat.le_trans (Nat.le_trans (Nat.le_trans (Nat.le_trans (Nat.le_trans (Nat.le_trans (Nat.le_trans (Nat.le_trans (Nat.le_trans (Nat.le_trans (Nat.le_trans (Nat.le_trans (Nat.le_trans (Nat.le_trans (Nat.le_trans Z0 E5.1) Kq8.1) E13.1) Kq17.1) Kq28.1) E39.1) Kq43.1) Kq54.1) E60.1) Kq63.1) E68.1) Kq72.1) Kq83.1) E94.1) Kq98.1) Kq109.1) E115.1) Kq127.1) E141.1) Kq153.1) F267 F268 F269 F270 F267 F268 F269 F270 (own_q4 (lonQ p0)) (own_q4 (lonQ p1)) (own_q4 (latQ p0)) (own_q4 (latQ p1)) (own_lon p0) (own_lon p1) (own_lat7 p0) (own_lat7 p1)) 0 (by decide) (by decide) F272 (g := (mkF m 367 #[.val (.int p0), .val (.int p1), .val (.int p2), .val (.int p3), .val (.int p4), .val (.int (0 : Int32)), .val (.int (1 : Int32)), .val (.int (1 : Int32)), .val (.ref b5), .val (.ref b60), .val (.ref b115), .val (.ref b141), .val (.ref b115), .val (.int v13_240), .val (.int v14_259), .val (.int v15_261), .val (.int v16_263), .val (.long v17_264), .second, .val (.long v19_265), .second, .val (.long v21_266), .second, .unset, .unset] [(.int (1 : Int32)), (.ref b115), (.int (0 : Int32)), (.ref b115)])) rfl (by rw [hml]; rfl) (argsL := [(.int (0 : Int32)), (.ref b115), (.int (1 : Int32))]) (rest := []) (lenOf pd__ILcom_example_wakeline_wakeline_similarity_Coordinates_I_D rfl) rfl (by show 2 * 0 + _ ≤ _; exact Nat.le_of_eq rfl) (hb hby at_367) rfl eq262 (by decide) (by decide)
          obtain ⟨dr_273, rfl, N271q, eq271, dx_274⟩ := hQ271
          have N271 := Fr.app N262 N271q
          refine ogoS st271 ?_
          show OWay p e below G T271 (mkF m 370 #[.val (.int p0), .val (.int p1), .val (.int p2), .val (.int p3), .val (.int p4), .val (.int (0 : Int32)), .val (.int (1 : Int32)), .val (.int (1 : Int32)), .val (.ref b5), .val (.ref b60), .val (.ref b115), .val (.ref b141), .val (.ref b115), .val (.int v13_240), .val (.int v14_259), .val (.int v15_261), .val (.int v16_263), .val (.long v17_264), .second, .val (.long v19_265), .second, .val (.long v21_266), .second, .unset, .unset] [(.double dr_273)])
          refine ogo (fun _ z_ => XS.dstore X271.here hx rfl (hb hby at_370) rfl (l' := #[.val (.int p0), .val (.int p1), .val (.int p2), .val (.int p3), .val (.int p4), .val (.int (0 : Int32)), .val (.int (1 : Int32)), .val (.int (1 : Int32)), .val (.ref b5), .val (.ref b60), .val (.ref b115), .val (.ref b141), .val (.ref b115), .val (.int v13_240), .val (.int v14_259), .val (.int v15_261), .val (.int v16_263), .val (.long v17_264), .second, .val (.long v19_265), .second, .val (.long v21_266), .second, .val (.double dr_273), .second]) rfl z_) ?_
          show OWay p e below G T271 (mkF m 372 #[.val (.int p0), .val (.int p1), .val (.int p2), .val (.int p3), .val (.int p4), .val (.int (0 : Int32)), .val (.int (1 : Int32)), .val (.int (1 : Int32)), .val (.ref b5), .val (.ref b60), .val (.ref b115), .val (.ref b141), .val (.ref b115), .val (.int v13_240), .val (.int v14_259), .val (.int v15_261), .val (.int v16_263), .val (.long v17_264), .second, .val (.long v19_265), .second, .val (.long v21_266), .second, .val (.double dr_273), .second] [])
          refine ogo (fun _ z_ => XS.dload X271.here hx rfl (hb hby at_372) rfl z_) ?_
          show OWay p e below G T271 (mkF m 374 #[.val (.int p0), .val (.int p1), .val (.int p2), .val (.int p3), .val (.int p4), .val (.int (0 : Int32)), .val (.int (1 : Int32)), .val (.int (1 : Int32)), .val (.ref b5), .val (.ref b60), .val (.ref b115), .val (.ref b141), .val (.ref b115), .val (.int v13_240), .val (.int v14_259), .val (.int v15_261), .val (.int v16_263), .val (.long v17_264), .second, .val (.long v19_265), .second, .val (.long v21_266), .second, .val (.double dr_273), .second] [(.double dr_273)])
          have q17 := own_dl v13_240 v15_261 (lonQ p0).toInt (lonQ p1).toInt v17_264 (by rw [hv13_240]) (by rw [hv15_261]) (own_lon p0) (own_lon p1) hv17_264
          have q19 := own_dl v14_259 v16_263 (latQ p0).toInt (latQ p1).toInt v19_265 (by rw [hv14_259]) (by rw [hv16_263]) (own_lat7 p0) (own_lat7 p1) hv19_265
          have r1 := own_lon p0
          have r2 := own_lon p1
          have r3 := own_lat7 p0
          have r4 := own_lat7 p1
          have s1 := own_sq ((lonQ p0).toInt - (lonQ p1).toInt) (by omega) (by omega)
          have s2 := own_sq ((latQ p0).toInt - (latQ p1).toInt) (by omega) (by omega)
          have q21 := own_rf v17_264 v19_265 v21_266 _ _ q17 q19 s1 s2 hv21_266
          have D16 := own_q16 v21_266 (by rw [q21]; omega)
          refine ogo (fun _ z_ => XS.lload X271.here hx rfl (hb hby at_374) rfl z_) ?_
          show OWay p e below G T271 (mkF m 376 #[.val (.int p0), .val (.int p1), .val (.int p2), .val (.int p3), .val (.int p4), .val (.int (0 : Int32)), .val (.int (1 : Int32)), .val (.int (1 : Int32)), .val (.ref b5), .val (.ref b60), .val (.ref b115), .val (.ref b141), .val (.ref b115), .val (.int v13_240), .val (.int v14_259), .val (.int v15_261), .val (.int v16_263), .val (.long v17_264), .second, .val (.long v19_265), .second, .val (.long v21_266), .second, .val (.double dr_273), .second] [(.long v21_266), (.double dr_273)])
          refine ogo (fun _ z_ => XS.l2dS X271.here hx rfl (hb hby at_376) rfl rfl z_) ?_
          show OWay p e below G T271 (mkF m 377 #[.val (.int p0), .val (.int p1), .val (.int p2), .val (.int p3), .val (.int p4), .val (.int (0 : Int32)), .val (.int (1 : Int32)), .val (.int (1 : Int32)), .val (.ref b5), .val (.ref b60), .val (.ref b115), .val (.ref b141), .val (.ref b115), .val (.int v13_240), .val (.int v14_259), .val (.int v15_261), .val (.int v16_263), .val (.long v17_264), .second, .val (.long v19_265), .second, .val (.long v21_266), .second, .val (.double dr_273), .second] [(.double (FP.l2d v21_266)), (.double dr_273)])
          refine ogo (fun _ z_ => X271.ldc2DoubleC hx hown (mvT hZ (hw _ (List.mem_of_getElem? (i := 147) rfl))) (g := (mkF m 377 #[.val (.int p0), .val (.int p1), .val (.int p2), .val (.int p3), .val (.int p4), .val (.int (0 : Int32)), .val (.int (1 : Int32)), .val (.int (1 : Int32)), .val (.ref b5), .val (.ref b60), .val (.ref b115), .val (.ref b141), .val (.ref b115), .val (.int v13_240), .val (.int v14_259), .val (.int v15_261), .val (.int v16_263), .val (.long v17_264), .second, .val (.long v19_265), .second, .val (.long v21_266), .second, .val (.double dr_273), .second] [(.double (FP.l2d v21_266)), (.double dr_273)])) rfl (hb hby at_377) _ z_) ?_
          show OWay p e below G T271 (mkF m 380 #[.val (.int p0), .val (.int p1), .val (.int p2), .val (.int p3), .val (.int p4), .val (.int (0 : Int32)), .val (.int (1 : Int32)), .val (.int (1 : Int32)), .val (.ref b5), .val (.ref b60), .val (.ref b115), .val (.ref b141), .val (.ref b115), .val (.int v13_240), .val (.int v14_259), .val (.int v15_261), .val (.int v16_263), .val (.long v17_264), .second, .val (.long v19_265), .second, .val (.long v21_266), .second, .val (.double dr_273), .second] [(.double (4625196817309499392 : UInt64)), (.double (FP.l2d v21_266)), (.double dr_273)])
          refine ogo (fun _ z_ => XS.ddivS X271.here hx rfl (hb hby at_380) rfl (dy_nn D16) rfl z_) ?_
          show OWay p e below G T271 (mkF m 381 #[.val (.int p0), .val (.int p1), .val (.int p2), .val (.int p3), .val (.int p4), .val (.int (0 : Int32)), .val (.int (1 : Int32)), .val (.int (1 : Int32)), .val (.ref b5), .val (.ref b60), .val (.ref b115), .val (.ref b141), .val (.ref b115), .val (.int v13_240), .val (.int v14_259), .val (.int v15_261), .val (.int v16_263), .val (.long v17_264), .second, .val (.long v19_265), .second, .val (.long v21_266), .second, .val (.double dr_273), .second] [(.double (FP.ddiv (FP.l2d v21_266) (4625196817309499392 : UInt64))), (.double dr_273)])
          refine ogo (fun _ z_ => XS.dcmpS X271.here hx rfl (hb hby at_381) rfl rfl z_) ?_
          show OWay p e below G T271 (mkF m 382 #[.val (.int p0), .val (.int p1), .val (.int p2), .val (.int p3), .val (.int p4), .val (.int (0 : Int32)), .val (.int (1 : Int32)), .val (.int (1 : Int32)), .val (.ref b5), .val (.ref b60), .val (.ref b115), .val (.ref b141), .val (.ref b115), .val (.int v13_240), .val (.int v14_259), .val (.int v15_261), .val (.int v16_263), .val (.long v17_264), .second, .val (.long v19_265), .second, .val (.long v21_266), .second, .val (.double dr_273), .second] [(.int (cmpValue (FP.dcmp dr_273 (FP.ddiv (FP.l2d v21_266) (4625196817309499392 : UInt64))) .l))])
          refine ogo (fun _ z_ => XS.ifNo X271.here hx rfl (hb hby at_382) rfl ((if0 _ _).trans (teq (own_eq dx_274 (q21 ▸ D16))).2) z_) ?_
          show OWay p e below G T271 (mkF m 385 #[.val (.int p0), .val (.int p1), .val (.int p2), .val (.int p3), .val (.int p4), .val (.int (0 : Int32)), .val (.int (1 : Int32)), .val (.int (1 : Int32)), .val (.ref b5), .val (.ref b60), .val (.ref b115), .val (.ref b141), .val (.ref b115), .val (.int v13_240), .val (.int v14_259), .val (.int v15_261), .val (.int v16_263), .val (.long v17_264), .second, .val (.long v19_265), .second, .val (.long v21_266), .second, .val (.double dr_273), .second] [])
          refine ogo (fun _ z_ => XS.iconst X271.here hx rfl (hb hby at_385) z_) ?_
          show OWay p e below G T271 (mkF m 386 #[.val (.int p0), .val (.int p1), .val (.int p2), .val (.int p3), .val (.int p4), .val (.int (0 : Int32)), .val (.int (1 : Int32)), .val (.int (1 : Int32)), .val (.ref b5), .val (.ref b60), .val (.ref b115), .val (.ref b141), .val (.ref b115), .val (.int v13_240), .val (.int v14_259), .val (.int v15_261), .val (.int v16_263), .val (.long v17_264), .second, .val (.long v19_265), .second, .val (.long v21_266), .second, .val (.double dr_273), .second] [(.int (1 : Int32))])
          refine ogo (fun _ z_ => XS.goto X271.here hx rfl (pc0 := 386) (pc' := 390) rfl (hb hby at_386) (by decide) (by decide) z_) ?_
          show OWay p e below G T271 (mkF m 390 #[.val (.int p0), .val (.int p1), .val (.int p2), .val (.int p3), .val (.int p4), .val (.int (0 : Int32)), .val (.int (1 : Int32)), .val (.int (1 : Int32)), .val (.ref b5), .val (.ref b60), .val (.ref b115), .val (.ref b141), .val (.ref b115), .val (.int v13_240), .val (.int v14_259), .val (.int v15_261), .val (.int v16_263), .val (.long v17_264), .second, .val (.long v19_265), .second, .val (.long v21_266), .second, .val (.double dr_273), .second] [(.int (1 : Int32))])
          subst hG
          refine wRetN X271 hx (t := .boolean) hret hlk (by simp) (hb hby at_390) (by decide) (by decide) eq271 ?_
          exact ⟨rfl, N271⟩
      · show OWay p e below G T153 (mkF m 212 #[.val (.int p0), .val (.int p1), .val (.int p2), .val (.int p3), .val (.int p4), .val (.int (1 : Int32)), .val (.int v6_2), .val (.int (1 : Int32)), .val (.ref b5), .val (.ref b60), .val (.ref b115), .val (.ref b141), .val (.ref b115), .unset, .unset, .unset, .unset, .unset, .unset, .unset, .unset, .unset, .unset, .unset, .unset] [])
        refine ogo (fun _ z_ => XS.iload X153.here hx rfl (hb hby at_212) rfl z_) ?_
        show OWay p e below G T153 (mkF m 214 #[.val (.int p0), .val (.int p1), .val (.int p2), .val (.int p3), .val (.int p4), .val (.int (1 : Int32)), .val (.int v6_2), .val (.int (1 : Int32)), .val (.ref b5), .val (.ref b60), .val (.ref b115), .val (.ref b141), .val (.ref b115), .unset, .unset, .unset, .unset, .unset, .unset, .unset, .unset, .unset, .unset, .unset, .unset] [(.int (1 : Int32))])
        refine ogo (fun _ z_ => XS.ifYes X153.here hx rfl (pc0 := 214) (pc' := 224) rfl (hb hby at_214) rfl ((if0 _ _).trans (feq (by decide)).2) (by decide) (by decide) z_) ?_
        show OWay p e below G T153 (mkF m 224 #[.val (.int p0), .val (.int p1), .val (.int p2), .val (.int p3), .val (.int p4), .val (.int (1 : Int32)), .val (.int v6_2), .val (.int (1 : Int32)), .val (.ref b5), .val (.ref b60), .val (.ref b115), .val (.ref b141), .val (.ref b115), .unset, .unset, .unset, .unset, .unset, .unset, .unset, .unset, .unset, .unset, .unset, .unset] [])
        refine ogo (fun _ z_ => XS.iloadN X153.here hx rfl (hb hby at_224) rfl z_) ?_
        show OWay p e below G T153 (mkF m 225 #[.val (.int p0), .val (.int p1), .val (.int p2), .val (.int p3), .val (.int p4), .val (.int (1 : Int32)), .val (.int v6_2), .val (.int (1 : Int32)), .val (.ref b5), .val (.ref b60), .val (.ref b115), .val (.ref b141), .val (.ref b115), .unset, .unset, .unset, .unset, .unset, .unset, .unset, .unset, .unset, .unset, .unset, .unset] [(.int p1)])
        obtain ⟨_, T275, L275, X275, hQ275, st275⟩ := wStatic X153 hx hZ (y := (⟨"com/example/wakeline/wakeline/similarity/CoordinatesSquaredDistancePinLaw", "lonQ", "(I)I"⟩ : MethodName)) hown (hw _ (List.mem_of_getElem? (i := 29) rfl)) (hw _ (List.mem_of_getElem? (i := 30) rfl)) (hw _ (List.mem_of_getElem? (i := 31) rfl)) (hw _ (List.mem_of_getElem? (i := 32) rfl)) (by decide) (lonQ_b_c l Z az hw [] p1 T153.heap n0 (Nat.le_trans (Nat.le_trans (Nat.le_trans (Nat.le_trans (Nat.le_trans (Nat.le_trans (Nat.le_trans (Nat.le_trans (Nat.le_trans (Nat.le_trans (Nat.le_trans (Nat.le_trans (Nat.le_trans (Nat.le_trans (Nat.le_trans (Nat.le_trans (Nat.le_trans (Nat.le_trans (Nat.le_trans (Nat.le_trans Z0 E5.1) Kq8.1) E13.1) Kq17.1) Kq28.1) E39.1) Kq43.1) Kq54.1) E60.1) Kq63.1) E68.1) Kq72.1) Kq83.1) E94.1) Kq98.1) Kq109.1) E115.1) Kq127.1) E141.1) Kq153.1)) 0 (by decide) (by decide) (g := (mkF m 225 #[.val (.int p0), .val (.int p1), .val (.int p2), .val (.int p3), .val (.int p4), .val (.int (1 : Int32)), .val (.int v6_2), .val (.int (1 : Int32)), .val (.ref b5), .val (.ref b60), .val (.ref b115), .val (.ref b141), .val (.ref b115), .unset, .unset, .unset, .unset, .unset, .unset, .unset, .unset, .unset, .unset, .unset, .unset] [(.int p1)])) rfl (by rw [hml]; rfl) (argsL := [(.int p1)]) (rest := []) (lenOf pd__I_I rfl) rfl (by show 2 * 0 + _ ≤ _; exact Nat.le_of_eq rfl) (hb hby at_225) rfl rfl (by decide) (by decide)
        obtain ⟨rfl, N275q, eq275⟩ := hQ275
        have N275 := Fr.app N153 N275q
        refine ogo st275 ?_
        show OWay p e below G T275 (mkF m 228 #[.val (.int p0), .val (.int p1), .val (.int p2), .val (.int p3), .val (.int p4), .val (.int (1 : Int32)), .val (.int v6_2), .val (.int (1 : Int32)), .val (.ref b5), .val (.ref b60), .val (.ref b115), .val (.ref b141), .val (.ref b115), .unset, .unset, .unset, .unset, .unset, .unset, .unset, .unset, .unset, .unset, .unset, .unset] [(.int (lonQ p1))])
        suffices Jv13_276 : ∀ v13_276 : Int32, v13_276 = (lonQ p1) → OWay p e below G T275 (mkF m 228 #[.val (.int p0), .val (.int p1), .val (.int p2), .val (.int p3), .val (.int p4), .val (.int (1 : Int32)), .val (.int v6_2), .val (.int (1 : Int32)), .val (.ref b5), .val (.ref b60), .val (.ref b115), .val (.ref b141), .val (.ref b115), .unset, .unset, .unset, .unset, .unset, .unset, .unset, .unset, .unset, .unset, .unset, .unset] [(.int v13_276)]) from Jv13_276 _ rfl
        intro v13_276 hv13_276
        refine ogo (fun _ z_ => XS.istore X275.here hx rfl (hb hby at_228) rfl (l' := #[.val (.int p0), .val (.int p1), .val (.int p2), .val (.int p3), .val (.int p4), .val (.int (1 : Int32)), .val (.int v6_2), .val (.int (1 : Int32)), .val (.ref b5), .val (.ref b60), .val (.ref b115), .val (.ref b141), .val (.ref b115), .val (.int v13_276), .unset, .unset, .unset, .unset, .unset, .unset, .unset, .unset, .unset, .unset, .unset]) rfl z_) ?_
        show OWay p e below G T275 (mkF m 230 #[.val (.int p0), .val (.int p1), .val (.int p2), .val (.int p3), .val (.int p4), .val (.int (1 : Int32)), .val (.int v6_2), .val (.int (1 : Int32)), .val (.ref b5), .val (.ref b60), .val (.ref b115), .val (.ref b141), .val (.ref b115), .val (.int v13_276), .unset, .unset, .unset, .unset, .unset, .unset, .unset, .unset, .unset, .unset, .unset] [])
        rcases (own_bit _ _ hv6_2 : v6_2 = (0 : Int32) ∨ v6_2 = (1 : Int32)) with rfl | rfl
        · show OWay p e below G T275 (mkF m 230 #[.val (.int p0), .val (.int p1), .val (.int p2), .val (.int p3), .val (.int p4), .val (.int (1 : Int32)), .val (.int (0 : Int32)), .val (.int (1 : Int32)), .val (.ref b5), .val (.ref b60), .val (.ref b115), .val (.ref b141), .val (.ref b115), .val (.int v13_276), .unset, .unset, .unset, .unset, .unset, .unset, .unset, .unset, .unset, .unset, .unset] [])
          refine ogo (fun _ z_ => XS.iload X275.here hx rfl (hb hby at_230) rfl z_) ?_
          show OWay p e below G T275 (mkF m 232 #[.val (.int p0), .val (.int p1), .val (.int p2), .val (.int p3), .val (.int p4), .val (.int (1 : Int32)), .val (.int (0 : Int32)), .val (.int (1 : Int32)), .val (.ref b5), .val (.ref b60), .val (.ref b115), .val (.ref b141), .val (.ref b115), .val (.int v13_276), .unset, .unset, .unset, .unset, .unset, .unset, .unset, .unset, .unset, .unset, .unset] [(.int (1 : Int32))])
          refine ogo (fun _ z_ => XS.ifYes X275.here hx rfl (pc0 := 232) (pc' := 242) rfl (hb hby at_232) rfl ((if0 _ _).trans (feq (by decide)).2) (by decide) (by decide) z_) ?_
          show OWay p e below G T275 (mkF m 242 #[.val (.int p0), .val (.int p1), .val (.int p2), .val (.int p3), .val (.int p4), .val (.int (1 : Int32)), .val (.int (0 : Int32)), .val (.int (1 : Int32)), .val (.ref b5), .val (.ref b60), .val (.ref b115), .val (.ref b141), .val (.ref b115), .val (.int v13_276), .unset, .unset, .unset, .unset, .unset, .unset, .unset, .unset, .unset, .unset, .unset] [])
          refine ogo (fun _ z_ => XS.iloadN X275.here hx rfl (hb hby at_242) rfl z_) ?_
          show OWay p e below G T275 (mkF m 243 #[.val (.int p0), .val (.int p1), .val (.int p2), .val (.int p3), .val (.int p4), .val (.int (1 : Int32)), .val (.int (0 : Int32)), .val (.int (1 : Int32)), .val (.ref b5), .val (.ref b60), .val (.ref b115), .val (.ref b141), .val (.ref b115), .val (.int v13_276), .unset, .unset, .unset, .unset, .unset, .unset, .unset, .unset, .unset, .unset, .unset] [(.int p1)])
          obtain ⟨_, T277, L277, X277, hQ277, st277⟩ := wStatic X275 hx hZ (y := (⟨"com/example/wakeline/wakeline/similarity/CoordinatesSquaredDistancePinLaw", "latQ", "(I)I"⟩ : MethodName)) hown (hw _ (List.mem_of_getElem? (i := 35) rfl)) (hw _ (List.mem_of_getElem? (i := 36) rfl)) (hw _ (List.mem_of_getElem? (i := 31) rfl)) (hw _ (List.mem_of_getElem? (i := 37) rfl)) (by decide) (latQ_b_c l Z az hw [] p1 T153.heap n0 (Nat.le_trans (Nat.le_trans (Nat.le_trans (Nat.le_trans (Nat.le_trans (Nat.le_trans (Nat.le_trans (Nat.le_trans (Nat.le_trans (Nat.le_trans (Nat.le_trans (Nat.le_trans (Nat.le_trans (Nat.le_trans (Nat.le_trans (Nat.le_trans (Nat.le_trans (Nat.le_trans (Nat.le_trans (Nat.le_trans Z0 E5.1) Kq8.1) E13.1) Kq17.1) Kq28.1) E39.1) Kq43.1) Kq54.1) E60.1) Kq63.1) E68.1) Kq72.1) Kq83.1) E94.1) Kq98.1) Kq109.1) E115.1) Kq127.1) E141.1) Kq153.1)) 0 (by decide) (by decide) (g := (mkF m 243 #[.val (.int p0), .val (.int p1), .val (.int p2), .val (.int p3), .val (.int p4), .val (.int (1 : Int32)), .val (.int (0 : Int32)), .val (.int (1 : Int32)), .val (.ref b5), .val (.ref b60), .val (.ref b115), .val (.ref b141), .val (.ref b115), .val (.int v13_276), .unset, .unset, .unset, .unset, .unset, .unset, .unset, .unset, .unset, .unset, .unset] [(.int p1)])) rfl (by rw [hml]; rfl) (argsL := [(.int p1)]) (rest := []) (lenOf pd__I_I rfl) rfl (by show 2 * 0 + _ ≤ _; exact Nat.le_of_eq rfl) (hb hby at_243) rfl eq275 (by decide) (by decide)
          obtain ⟨rfl, N277q, eq277⟩ := hQ277
          have N277 := Fr.app N275 N277q
          refine ogo st277 ?_
          show OWay p e below G T277 (mkF m 246 #[.val (.int p0), .val (.int p1), .val (.int p2), .val (.int p3), .val (.int p4), .val (.int (1 : Int32)), .val (.int (0 : Int32)), .val (.int (1 : Int32)), .val (.ref b5), .val (.ref b60), .val (.ref b115), .val (.ref b141), .val (.ref b115), .val (.int v13_276), .unset, .unset, .unset, .unset, .unset, .unset, .unset, .unset, .unset, .unset, .unset] [(.int (latQ p1))])
          suffices Jv14_278 : ∀ v14_278 : Int32, v14_278 = (latQ p1) → OWay p e below G T277 (mkF m 246 #[.val (.int p0), .val (.int p1), .val (.int p2), .val (.int p3), .val (.int p4), .val (.int (1 : Int32)), .val (.int (0 : Int32)), .val (.int (1 : Int32)), .val (.ref b5), .val (.ref b60), .val (.ref b115), .val (.ref b141), .val (.ref b115), .val (.int v13_276), .unset, .unset, .unset, .unset, .unset, .unset, .unset, .unset, .unset, .unset, .unset] [(.int v14_278)]) from Jv14_278 _ rfl
          intro v14_278 hv14_278
          refine ogo (fun _ z_ => XS.istore X277.here hx rfl (hb hby at_246) rfl (l' := #[.val (.int p0), .val (.int p1), .val (.int p2), .val (.int p3), .val (.int p4), .val (.int (1 : Int32)), .val (.int (0 : Int32)), .val (.int (1 : Int32)), .val (.ref b5), .val (.ref b60), .val (.ref b115), .val (.ref b141), .val (.ref b115), .val (.int v13_276), .val (.int v14_278), .unset, .unset, .unset, .unset, .unset, .unset, .unset, .unset, .unset, .unset]) rfl z_) ?_
          show OWay p e below G T277 (mkF m 248 #[.val (.int p0), .val (.int p1), .val (.int p2), .val (.int p3), .val (.int p4), .val (.int (1 : Int32)), .val (.int (0 : Int32)), .val (.int (1 : Int32)), .val (.ref b5), .val (.ref b60), .val (.ref b115), .val (.ref b141), .val (.ref b115), .val (.int v13_276), .val (.int v14_278), .unset, .unset, .unset, .unset, .unset, .unset, .unset, .unset, .unset, .unset] [])
          refine ogo (fun _ z_ => XS.iload X277.here hx rfl (hb hby at_248) rfl z_) ?_
          show OWay p e below G T277 (mkF m 250 #[.val (.int p0), .val (.int p1), .val (.int p2), .val (.int p3), .val (.int p4), .val (.int (1 : Int32)), .val (.int (0 : Int32)), .val (.int (1 : Int32)), .val (.ref b5), .val (.ref b60), .val (.ref b115), .val (.ref b141), .val (.ref b115), .val (.int v13_276), .val (.int v14_278), .unset, .unset, .unset, .unset, .unset, .unset, .unset, .unset, .unset, .unset] [(.int (1 : Int32))])
          refine ogo (fun _ z_ => XS.ifNo X277.here hx rfl (hb hby at_250) rfl ((if0 _ _).trans (feq (by decide)).1) z_) ?_
          show OWay p e below G T277 (mkF m 253 #[.val (.int p0), .val (.int p1), .val (.int p2), .val (.int p3), .val (.int p4), .val (.int (1 : Int32)), .val (.int (0 : Int32)), .val (.int (1 : Int32)), .val (.ref b5), .val (.ref b60), .val (.ref b115), .val (.ref b141), .val (.ref b115), .val (.int v13_276), .val (.int v14_278), .unset, .unset, .unset, .unset, .unset, .unset, .unset, .unset, .unset, .unset] [])
          refine ogo (fun _ z_ => XS.iload X277.here hx rfl (hb hby at_253) rfl z_) ?_
          show OWay p e below G T277 (mkF m 255 #[.val (.int p0), .val (.int p1), .val (.int p2), .val (.int p3), .val (.int p4), .val (.int (1 : Int32)), .val (.int (0 : Int32)), .val (.int (1 : Int32)), .val (.ref b5), .val (.ref b60), .val (.ref b115), .val (.ref b141), .val (.ref b115), .val (.int v13_276), .val (.int v14_278), .unset, .unset, .unset, .unset, .unset, .unset, .unset, .unset, .unset, .unset] [(.int (0 : Int32))])
          refine ogo (fun _ z_ => XS.ifNo X277.here hx rfl (hb hby at_255) rfl ((if0 _ _).trans (teq rfl).2) z_) ?_
          show OWay p e below G T277 (mkF m 258 #[.val (.int p0), .val (.int p1), .val (.int p2), .val (.int p3), .val (.int p4), .val (.int (1 : Int32)), .val (.int (0 : Int32)), .val (.int (1 : Int32)), .val (.ref b5), .val (.ref b60), .val (.ref b115), .val (.ref b141), .val (.ref b115), .val (.int v13_276), .val (.int v14_278), .unset, .unset, .unset, .unset, .unset, .unset, .unset, .unset, .unset, .unset] [])
          refine ogo (fun _ z_ => XS.iloadN X277.here hx rfl (hb hby at_258) rfl z_) ?_
          show OWay p e below G T277 (mkF m 259 #[.val (.int p0), .val (.int p1), .val (.int p2), .val (.int p3), .val (.int p4), .val (.int (1 : Int32)), .val (.int (0 : Int32)), .val (.int (1 : Int32)), .val (.ref b5), .val (.ref b60), .val (.ref b115), .val (.ref b141), .val (.ref b115), .val (.int v13_276), .val (.int v14_278), .unset, .unset, .unset, .unset, .unset, .unset, .unset, .unset, .unset, .unset] [(.int p0)])
          obtain ⟨_, T279, L279, X279, hQ279, st279⟩ := wStatic X277 hx hZ (y := (⟨"com/example/wakeline/wakeline/similarity/CoordinatesSquaredDistancePinLaw", "lonQ", "(I)I"⟩ : MethodName)) hown (hw _ (List.mem_of_getElem? (i := 29) rfl)) (hw _ (List.mem_of_getElem? (i := 30) rfl)) (hw _ (List.mem_of_getElem? (i := 31) rfl)) (hw _ (List.mem_of_getElem? (i := 32) rfl)) (by decide) (lonQ_b_c l Z az hw [] p0 T153.heap n0 (Nat.le_trans (Nat.le_trans (Nat.le_trans (Nat.le_trans (Nat.le_trans (Nat.le_trans (Nat.le_trans (Nat.le_trans (Nat.le_trans (Nat.le_trans (Nat.le_trans (Nat.le_trans (Nat.le_trans (Nat.le_trans (Nat.le_trans (Nat.le_trans (Nat.le_trans (Nat.le_trans (Nat.le_trans (Nat.le_trans Z0 E5.1) Kq8.1) E13.1) Kq17.1) Kq28.1) E39.1) Kq43.1) Kq54.1) E60.1) Kq63.1) E68.1) Kq72.1) Kq83.1) E94.1) Kq98.1) Kq109.1) E115.1) Kq127.1) E141.1) Kq153.1)) 0 (by decide) (by decide) (g := (mkF m 259 #[.val (.int p0), .val (.int p1), .val (.int p2), .val (.int p3), .val (.int p4), .val (.int (1 : Int32)), .val (.int (0 : Int32)), .val (.int (1 : Int32)), .val (.ref b5), .val (.ref b60), .val (.ref b115), .val (.ref b141), .val (.ref b115), .val (.int v13_276), .val (.int v14_278), .unset, .unset, .unset, .unset, .unset, .unset, .unset, .unset, .unset, .unset] [(.int p0)])) rfl (by rw [hml]; rfl) (argsL := [(.int p0)]) (rest := []) (lenOf pd__I_I rfl) rfl (by show 2 * 0 + _ ≤ _; exact Nat.le_of_eq rfl) (hb hby at_259) rfl eq277 (by decide) (by decide)
          obtain ⟨rfl, N279q, eq279⟩ := hQ279
          have N279 := Fr.app N277 N279q
          refine ogo st279 ?_
          show OWay p e below G T279 (mkF m 262 #[.val (.int p0), .val (.int p1), .val (.int p2), .val (.int p3), .val (.int p4), .val (.int (1 : Int32)), .val (.int (0 : Int32)), .val (.int (1 : Int32)), .val (.ref b5), .val (.ref b60), .val (.ref b115), .val (.ref b141), .val (.ref b115), .val (.int v13_276), .val (.int v14_278), .unset, .unset, .unset, .unset, .unset, .unset, .unset, .unset, .unset, .unset] [(.int (lonQ p0))])
          refine ogo (fun _ z_ => XS.goto X279.here hx rfl (pc0 := 262) (pc' := 269) rfl (hb hby at_262) (by decide) (by decide) z_) ?_
          show OWay p e below G T279 (mkF m 269 #[.val (.int p0), .val (.int p1), .val (.int p2), .val (.int p3), .val (.int p4), .val (.int (1 : Int32)), .val (.int (0 : Int32)), .val (.int (1 : Int32)), .val (.ref b5), .val (.ref b60), .val (.ref b115), .val (.ref b141), .val (.ref b115), .val (.int v13_276), .val (.int v14_278), .unset, .unset, .unset, .unset, .unset, .unset, .unset, .unset, .unset, .unset] [(.int (lonQ p0))])
          suffices Jv15_280 : ∀ v15_280 : Int32, v15_280 = (lonQ p0) → OWay p e below G T279 (mkF m 269 #[.val (.int p0), .val (.int p1), .val (.int p2), .val (.int p3), .val (.int p4), .val (.int (1 : Int32)), .val (.int (0 : Int32)), .val (.int (1 : Int32)), .val (.ref b5), .val (.ref b60), .val (.ref b115), .val (.ref b141), .val (.ref b115), .val (.int v13_276), .val (.int v14_278), .unset, .unset, .unset, .unset, .unset, .unset, .unset, .unset, .unset, .unset] [(.int v15_280)]) from Jv15_280 _ rfl
          intro v15_280 hv15_280
          refine ogo (fun _ z_ => XS.istore X279.here hx rfl (hb hby at_269) rfl (l' := #[.val (.int p0), .val (.int p1), .val (.int p2), .val (.int p3), .val (.int p4), .val (.int (1 : Int32)), .val (.int (0 : Int32)), .val (.int (1 : Int32)), .val (.ref b5), .val (.ref b60), .val (.ref b115), .val (.ref b141), .val (.ref b115), .val (.int v13_276), .val (.int v14_278), .val (.int v15_280), .unset, .unset, .unset, .unset, .unset, .unset, .unset, .unset, .unset]) rfl z_) ?_
          show OWay p e below G T279 (mkF m 271 #[.val (.int p0), .val (.int p1), .val (.int p2), .val (.int p3), .val (.int p4), .val (.int (1 : Int32)), .val (.int (0 : Int32)), .val (.int (1 : Int32)), .val (.ref b5), .val (.ref b60), .val (.ref b115), .val (.ref b141), .val (.ref b115), .val (.int v13_276), .val (.int v14_278), .val (.int v15_280), .unset, .unset, .unset, .unset, .unset, .unset, .unset, .unset, .unset] [])
          refine ogo (fun _ z_ => XS.iload X279.here hx rfl (hb hby at_271) rfl z_) ?_
          show OWay p e below G T279 (mkF m 273 #[.val (.int p0), .val (.int p1), .val (.int p2), .val (.int p3), .val (.int p4), .val (.int (1 : Int32)), .val (.int (0 : Int32)), .val (.int (1 : Int32)), .val (.ref b5), .val (.ref b60), .val (.ref b115), .val (.ref b141), .val (.ref b115), .val (.int v13_276), .val (.int v14_278), .val (.int v15_280), .unset, .unset, .unset, .unset, .unset, .unset, .unset, .unset, .unset] [(.int (0 : Int32))])
          refine ogo (fun _ z_ => XS.ifNo X279.here hx rfl (hb hby at_273) rfl ((if0 _ _).trans (teq rfl).2) z_) ?_
          show OWay p e below G T279 (mkF m 276 #[.val (.int p0), .val (.int p1), .val (.int p2), .val (.int p3), .val (.int p4), .val (.int (1 : Int32)), .val (.int (0 : Int32)), .val (.int (1 : Int32)), .val (.ref b5), .val (.ref b60), .val (.ref b115), .val (.ref b141), .val (.ref b115), .val (.int v13_276), .val (.int v14_278), .val (.int v15_280), .unset, .unset, .unset, .unset, .unset, .unset, .unset, .unset, .unset] [])
          refine ogo (fun _ z_ => XS.iloadN X279.here hx rfl (hb hby at_276) rfl z_) ?_
          show OWay p e below G T279 (mkF m 277 #[.val (.int p0), .val (.int p1), .val (.int p2), .val (.int p3), .val (.int p4), .val (.int (1 : Int32)), .val (.int (0 : Int32)), .val (.int (1 : Int32)), .val (.ref b5), .val (.ref b60), .val (.ref b115), .val (.ref b141), .val (.ref b115), .val (.int v13_276), .val (.int v14_278), .val (.int v15_280), .unset, .unset, .unset, .unset, .unset, .unset, .unset, .unset, .unset] [(.int p0)])
          obtain ⟨_, T281, L281, X281, hQ281, st281⟩ := wStatic X279 hx hZ (y := (⟨"com/example/wakeline/wakeline/similarity/CoordinatesSquaredDistancePinLaw", "latQ", "(I)I"⟩ : MethodName)) hown (hw _ (List.mem_of_getElem? (i := 35) rfl)) (hw _ (List.mem_of_getElem? (i := 36) rfl)) (hw _ (List.mem_of_getElem? (i := 31) rfl)) (hw _ (List.mem_of_getElem? (i := 37) rfl)) (by decide) (latQ_b_c l Z az hw [] p0 T153.heap n0 (Nat.le_trans (Nat.le_trans (Nat.le_trans (Nat.le_trans (Nat.le_trans (Nat.le_trans (Nat.le_trans (Nat.le_trans (Nat.le_trans (Nat.le_trans (Nat.le_trans (Nat.le_trans (Nat.le_trans (Nat.le_trans (Nat.le_trans (Nat.le_trans (Nat.le_trans (Nat.le_trans (Nat.le_trans (Nat.le_trans Z0 E5.1) Kq8.1) E13.1) Kq17.1) Kq28.1) E39.1) Kq43.1) Kq54.1) E60.1) Kq63.1) E68.1) Kq72.1) Kq83.1) E94.1) Kq98.1) Kq109.1) E115.1) Kq127.1) E141.1) Kq153.1)) 0 (by decide) (by decide) (g := (mkF m 277 #[.val (.int p0), .val (.int p1), .val (.int p2), .val (.int p3), .val (.int p4), .val (.int (1 : Int32)), .val (.int (0 : Int32)), .val (.int (1 : Int32)), .val (.ref b5), .val (.ref b60), .val (.ref b115), .val (.ref b141), .val (.ref b115), .val (.int v13_276), .val (.int v14_278), .val (.int v15_280), .unset, .unset, .unset, .unset, .unset, .unset, .unset, .unset, .unset] [(.int p0)])) rfl (by rw [hml]; rfl) (argsL := [(.int p0)]) (rest := []) (lenOf pd__I_I rfl) rfl (by show 2 * 0 + _ ≤ _; exact Nat.le_of_eq rfl) (hb hby at_277) rfl eq279 (by decide) (by decide)
          obtain ⟨rfl, N281q, eq281⟩ := hQ281
          have N281 := Fr.app N279 N281q
          refine ogo st281 ?_
          show OWay p e below G T281 (mkF m 280 #[.val (.int p0), .val (.int p1), .val (.int p2), .val (.int p3), .val (.int p4), .val (.int (1 : Int32)), .val (.int (0 : Int32)), .val (.int (1 : Int32)), .val (.ref b5), .val (.ref b60), .val (.ref b115), .val (.ref b141), .val (.ref b115), .val (.int v13_276), .val (.int v14_278), .val (.int v15_280), .unset, .unset, .unset, .unset, .unset, .unset, .unset, .unset, .unset] [(.int (latQ p0))])
          refine ogo (fun _ z_ => XS.goto X281.here hx rfl (pc0 := 280) (pc' := 287) rfl (hb hby at_280) (by decide) (by decide) z_) ?_
          show OWay p e below G T281 (mkF m 287 #[.val (.int p0), .val (.int p1), .val (.int p2), .val (.int p3), .val (.int p4), .val (.int (1 : Int32)), .val (.int (0 : Int32)), .val (.int (1 : Int32)), .val (.ref b5), .val (.ref b60), .val (.ref b115), .val (.ref b141), .val (.ref b115), .val (.int v13_276), .val (.int v14_278), .val (.int v15_280), .unset, .unset, .unset, .unset, .unset, .unset, .unset, .unset, .unset] [(.int (latQ p0))])
          suffices Jv16_282 : ∀ v16_282 : Int32, v16_282 = (latQ p0) → OWay p e below G T281 (mkF m 287 #[.val (.int p0), .val (.int p1), .val (.int p2), .val (.int p3), .val (.int p4), .val (.int (1 : Int32)), .val (.int (0 : Int32)), .val (.int (1 : Int32)), .val (.ref b5), .val (.ref b60), .val (.ref b115), .val (.ref b141), .val (.ref b115), .val (.int v13_276), .val (.int v14_278), .val (.int v15_280), .unset, .unset, .unset, .unset, .unset, .unset, .unset, .unset, .unset] [(.int v16_282)]) from Jv16_282 _ rfl
          intro v16_282 hv16_282
          refine ogo (fun _ z_ => XS.istore X281.here hx rfl (hb hby at_287) rfl (l' := #[.val (.int p0), .val (.int p1), .val (.int p2), .val (.int p3), .val (.int p4), .val (.int (1 : Int32)), .val (.int (0 : Int32)), .val (.int (1 : Int32)), .val (.ref b5), .val (.ref b60), .val (.ref b115), .val (.ref b141), .val (.ref b115), .val (.int v13_276), .val (.int v14_278), .val (.int v15_280), .val (.int v16_282), .unset, .unset, .unset, .unset, .unset, .unset, .unset, .unset]) rfl z_) ?_
          show OWay p e below G T281 (mkF m 289 #[.val (.int p0), .val (.int p1), .val (.int p2), .val (.int p3), .val (.int p4), .val (.int (1 : Int32)), .val (.int (0 : Int32)), .val (.int (1 : Int32)), .val (.ref b5), .val (.ref b60), .val (.ref b115), .val (.ref b141), .val (.ref b115), .val (.int v13_276), .val (.int v14_278), .val (.int v15_280), .val (.int v16_282), .unset, .unset, .unset, .unset, .unset, .unset, .unset, .unset] [])
          refine ogo (fun _ z_ => XS.goto X281.here hx rfl (pc0 := 289) (pc' := 328) rfl (hb hby at_289) (by decide) (by decide) z_) ?_
          show OWay p e below G T281 (mkF m 328 #[.val (.int p0), .val (.int p1), .val (.int p2), .val (.int p3), .val (.int p4), .val (.int (1 : Int32)), .val (.int (0 : Int32)), .val (.int (1 : Int32)), .val (.ref b5), .val (.ref b60), .val (.ref b115), .val (.ref b141), .val (.ref b115), .val (.int v13_276), .val (.int v14_278), .val (.int v15_280), .val (.int v16_282), .unset, .unset, .unset, .unset, .unset, .unset, .unset, .unset] [])
          refine ogo (fun _ z_ => XS.iload X281.here hx rfl (hb hby at_328) rfl z_) ?_
          show OWay p e below G T281 (mkF m 330 #[.val (.int p0), .val (.int p1), .val (.int p2), .val (.int p3), .val (.int p4), .val (.int (1 : Int32)), .val (.int (0 : Int32)), .val (.int (1 : Int32)), .val (.ref b5), .val (.ref b60), .val (.ref b115), .val (.ref b141), .val (.ref b115), .val (.int v13_276), .val (.int v14_278), .val (.int v15_280), .val (.int v16_282), .unset, .unset, .unset, .unset, .unset, .unset, .unset, .unset] [(.int v13_276)])
          refine ogo (fun _ z_ => XS.i2l X281.here hx rfl (hb hby at_330) rfl z_) ?_
          show OWay p e below G T281 (mkF m 331 #[.val (.int p0), .val (.int p1), .val (.int p2), .val (.int p3), .val (.int p4), .val (.int (1 : Int32)), .val (.int (0 : Int32)), .val (.int (1 : Int32)), .val (.ref b5), .val (.ref b60), .val (.ref b115), .val (.ref b141), .val (.ref b115), .val (.int v13_276), .val (.int v14_278), .val (.int v15_280), .val (.int v16_282), .unset, .unset, .unset, .unset, .unset, .unset, .unset, .unset] [(.long (v13_276.toInt64))])
          refine ogo (fun _ z_ => XS.iload X281.here hx rfl (hb hby at_331) rfl z_) ?_
          show OWay p e below G T281 (mkF m 333 #[.val (.int p0), .val (.int p1), .val (.int p2), .val (.int p3), .val (.int p4), .val (.int (1 : Int32)), .val (.int (0 : Int32)), .val (.int (1 : Int32)), .val (.ref b5), .val (.ref b60), .val (.ref b115), .val (.ref b141), .val (.ref b115), .val (.int v13_276), .val (.int v14_278), .val (.int v15_280), .val (.int v16_282), .unset, .unset, .unset, .unset, .unset, .unset, .unset, .unset] [(.int v15_280), (.long (v13_276.toInt64))])
          refine ogo (fun _ z_ => XS.i2l X281.here hx rfl (hb hby at_333) rfl z_) ?_
          show OWay p e below G T281 (mkF m 334 #[.val (.int p0), .val (.int p1), .val (.int p2), .val (.int p3), .val (.int p4), .val (.int (1 : Int32)), .val (.int (0 : Int32)), .val (.int (1 : Int32)), .val (.ref b5), .val (.ref b60), .val (.ref b115), .val (.ref b141), .val (.ref b115), .val (.int v13_276), .val (.int v14_278), .val (.int v15_280), .val (.int v16_282), .unset, .unset, .unset, .unset, .unset, .unset, .unset, .unset] [(.long (v15_280.toInt64)), (.long (v13_276.toInt64))])
          refine ogo (fun _ z_ => XS.lsub X281.here hx rfl (hb hby at_334) rfl z_) ?_
          show OWay p e below G T281 (mkF m 335 #[.val (.int p0), .val (.int p1), .val (.int p2), .val (.int p3), .val (.int p4), .val (.int (1 : Int32)), .val (.int (0 : Int32)), .val (.int (1 : Int32)), .val (.ref b5), .val (.ref b60), .val (.ref b115), .val (.ref b141), .val (.ref b115), .val (.int v13_276), .val (.int v14_278), .val (.int v15_280), .val (.int v16_282), .unset, .unset, .unset, .unset, .unset, .unset, .unset, .unset] [(.long ((v13_276.toInt64) - (v15_280.toInt64)))])
          suffices Jv17_283 : ∀ v17_283 : Int64, v17_283 = ((v13_276.toInt64) - (v15_280.toInt64)) → OWay p e below G T281 (mkF m 335 #[.val (.int p0), .val (.int p1), .val (.int p2), .val (.int p3), .val (.int p4), .val (.int (1 : Int32)), .val (.int (0 : Int32)), .val (.int (1 : Int32)), .val (.ref b5), .val (.ref b60), .val (.ref b115), .val (.ref b141), .val (.ref b115), .val (.int v13_276), .val (.int v14_278), .val (.int v15_280), .val (.int v16_282), .unset, .unset, .unset, .unset, .unset, .unset, .unset, .unset] [(.long v17_283)]) from Jv17_283 _ rfl
          intro v17_283 hv17_283
          refine ogo (fun _ z_ => XS.lstore X281.here hx rfl (hb hby at_335) rfl (l' := #[.val (.int p0), .val (.int p1), .val (.int p2), .val (.int p3), .val (.int p4), .val (.int (1 : Int32)), .val (.int (0 : Int32)), .val (.int (1 : Int32)), .val (.ref b5), .val (.ref b60), .val (.ref b115), .val (.ref b141), .val (.ref b115), .val (.int v13_276), .val (.int v14_278), .val (.int v15_280), .val (.int v16_282), .val (.long v17_283), .second, .unset, .unset, .unset, .unset, .unset, .unset]) rfl z_) ?_
          show OWay p e below G T281 (mkF m 337 #[.val (.int p0), .val (.int p1), .val (.int p2), .val (.int p3), .val (.int p4), .val (.int (1 : Int32)), .val (.int (0 : Int32)), .val (.int (1 : Int32)), .val (.ref b5), .val (.ref b60), .val (.ref b115), .val (.ref b141), .val (.ref b115), .val (.int v13_276), .val (.int v14_278), .val (.int v15_280), .val (.int v16_282), .val (.long v17_283), .second, .unset, .unset, .unset, .unset, .unset, .unset] [])
          refine ogo (fun _ z_ => XS.iload X281.here hx rfl (hb hby at_337) rfl z_) ?_
          show OWay p e below G T281 (mkF m 339 #[.val (.int p0), .val (.int p1), .val (.int p2), .val (.int p3), .val (.int p4), .val (.int (1 : Int32)), .val (.int (0 : Int32)), .val (.int (1 : Int32)), .val (.ref b5), .val (.ref b60), .val (.ref b115), .val (.ref b141), .val (.ref b115), .val (.int v13_276), .val (.int v14_278), .val (.int v15_280), .val (.int v16_282), .val (.long v17_283), .second, .unset, .unset, .unset, .unset, .unset, .unset] [(.int v14_278)])
          refine ogo (fun _ z_ => XS.i2l X281.here hx rfl (hb hby at_339) rfl z_) ?_
          show OWay p e below G T281 (mkF m 340 #[.val (.int p0), .val (.int p1), .val (.int p2), .val (.int p3), .val (.int p4), .val (.int (1 : Int32)), .val (.int (0 : Int32)), .val (.int (1 : Int32)), .val (.ref b5), .val (.ref b60), .val (.ref b115), .val (.ref b141), .val (.ref b115), .val (.int v13_276), .val (.int v14_278), .val (.int v15_280), .val (.int v16_282), .val (.long v17_283), .second, .unset, .unset, .unset, .unset, .unset, .unset] [(.long (v14_278.toInt64))])
          refine ogo (fun _ z_ => XS.iload X281.here hx rfl (hb hby at_340) rfl z_) ?_
          show OWay p e below G T281 (mkF m 342 #[.val (.int p0), .val (.int p1), .val (.int p2), .val (.int p3), .val (.int p4), .val (.int (1 : Int32)), .val (.int (0 : Int32)), .val (.int (1 : Int32)), .val (.ref b5), .val (.ref b60), .val (.ref b115), .val (.ref b141), .val (.ref b115), .val (.int v13_276), .val (.int v14_278), .val (.int v15_280), .val (.int v16_282), .val (.long v17_283), .second, .unset, .unset, .unset, .unset, .unset, .unset] [(.int v16_282), (.long (v14_278.toInt64))])
          refine ogo (fun _ z_ => XS.i2l X281.here hx rfl (hb hby at_342) rfl z_) ?_
          show OWay p e below G T281 (mkF m 343 #[.val (.int p0), .val (.int p1), .val (.int p2), .val (.int p3), .val (.int p4), .val (.int (1 : Int32)), .val (.int (0 : Int32)), .val (.int (1 : Int32)), .val (.ref b5), .val (.ref b60), .val (.ref b115), .val (.ref b141), .val (.ref b115), .val (.int v13_276), .val (.int v14_278), .val (.int v15_280), .val (.int v16_282), .val (.long v17_283), .second, .unset, .unset, .unset, .unset, .unset, .unset] [(.long (v16_282.toInt64)), (.long (v14_278.toInt64))])
          refine ogo (fun _ z_ => XS.lsub X281.here hx rfl (hb hby at_343) rfl z_) ?_
          show OWay p e below G T281 (mkF m 344 #[.val (.int p0), .val (.int p1), .val (.int p2), .val (.int p3), .val (.int p4), .val (.int (1 : Int32)), .val (.int (0 : Int32)), .val (.int (1 : Int32)), .val (.ref b5), .val (.ref b60), .val (.ref b115), .val (.ref b141), .val (.ref b115), .val (.int v13_276), .val (.int v14_278), .val (.int v15_280), .val (.int v16_282), .val (.long v17_283), .second, .unset, .unset, .unset, .unset, .unset, .unset] [(.long ((v14_278.toInt64) - (v16_282.toInt64)))])
          suffices Jv19_284 : ∀ v19_284 : Int64, v19_284 = ((v14_278.toInt64) - (v16_282.toInt64)) → OWay p e below G T281 (mkF m 344 #[.val (.int p0), .val (.int p1), .val (.int p2), .val (.int p3), .val (.int p4), .val (.int (1 : Int32)), .val (.int (0 : Int32)), .val (.int (1 : Int32)), .val (.ref b5), .val (.ref b60), .val (.ref b115), .val (.ref b141), .val (.ref b115), .val (.int v13_276), .val (.int v14_278), .val (.int v15_280), .val (.int v16_282), .val (.long v17_283), .second, .unset, .unset, .unset, .unset, .unset, .unset] [(.long v19_284)]) from Jv19_284 _ rfl
          intro v19_284 hv19_284
          refine ogo (fun _ z_ => XS.lstore X281.here hx rfl (hb hby at_344) rfl (l' := #[.val (.int p0), .val (.int p1), .val (.int p2), .val (.int p3), .val (.int p4), .val (.int (1 : Int32)), .val (.int (0 : Int32)), .val (.int (1 : Int32)), .val (.ref b5), .val (.ref b60), .val (.ref b115), .val (.ref b141), .val (.ref b115), .val (.int v13_276), .val (.int v14_278), .val (.int v15_280), .val (.int v16_282), .val (.long v17_283), .second, .val (.long v19_284), .second, .unset, .unset, .unset, .unset]) rfl z_) ?_
          show OWay p e below G T281 (mkF m 346 #[.val (.int p0), .val (.int p1), .val (.int p2), .val (.int p3), .val (.int p4), .val (.int (1 : Int32)), .val (.int (0 : Int32)), .val (.int (1 : Int32)), .val (.ref b5), .val (.ref b60), .val (.ref b115), .val (.ref b141), .val (.ref b115), .val (.int v13_276), .val (.int v14_278), .val (.int v15_280), .val (.int v16_282), .val (.long v17_283), .second, .val (.long v19_284), .second, .unset, .unset, .unset, .unset] [])
          refine ogo (fun _ z_ => XS.lload X281.here hx rfl (hb hby at_346) rfl z_) ?_
          show OWay p e below G T281 (mkF m 348 #[.val (.int p0), .val (.int p1), .val (.int p2), .val (.int p3), .val (.int p4), .val (.int (1 : Int32)), .val (.int (0 : Int32)), .val (.int (1 : Int32)), .val (.ref b5), .val (.ref b60), .val (.ref b115), .val (.ref b141), .val (.ref b115), .val (.int v13_276), .val (.int v14_278), .val (.int v15_280), .val (.int v16_282), .val (.long v17_283), .second, .val (.long v19_284), .second, .unset, .unset, .unset, .unset] [(.long v17_283)])
          refine ogo (fun _ z_ => XS.lload X281.here hx rfl (hb hby at_348) rfl z_) ?_
          show OWay p e below G T281 (mkF m 350 #[.val (.int p0), .val (.int p1), .val (.int p2), .val (.int p3), .val (.int p4), .val (.int (1 : Int32)), .val (.int (0 : Int32)), .val (.int (1 : Int32)), .val (.ref b5), .val (.ref b60), .val (.ref b115), .val (.ref b141), .val (.ref b115), .val (.int v13_276), .val (.int v14_278), .val (.int v15_280), .val (.int v16_282), .val (.long v17_283), .second, .val (.long v19_284), .second, .unset, .unset, .unset, .unset] [(.long v17_283), (.long v17_283)])
          refine ogo (fun _ z_ => XS.lmul X281.here hx rfl (hb hby at_350) rfl z_) ?_
          show OWay p e below G T281 (mkF m 351 #[.val (.int p0), .val (.int p1), .val (.int p2), .val (.int p3), .val (.int p4), .val (.int (1 : Int32)), .val (.int (0 : Int32)), .val (.int (1 : Int32)), .val (.ref b5), .val (.ref b60), .val (.ref b115), .val (.ref b141), .val (.ref b115), .val (.int v13_276), .val (.int v14_278), .val (.int v15_280), .val (.int v16_282), .val (.long v17_283), .second, .val (.long v19_284), .second, .unset, .unset, .unset, .unset] [(.long (v17_283 * v17_283))])
          refine ogo (fun _ z_ => XS.lload X281.here hx rfl (hb hby at_351) rfl z_) ?_
          show OWay p e below G T281 (mkF m 353 #[.val (.int p0), .val (.int p1), .val (.int p2), .val (.int p3), .val (.int p4), .val (.int (1 : Int32)), .val (.int (0 : Int32)), .val (.int (1 : Int32)), .val (.ref b5), .val (.ref b60), .val (.ref b115), .val (.ref b141), .val (.ref b115), .val (.int v13_276), .val (.int v14_278), .val (.int v15_280), .val (.int v16_282), .val (.long v17_283), .second, .val (.long v19_284), .second, .unset, .unset, .unset, .unset] [(.long v19_284), (.long (v17_283 * v17_283))])
          refine ogo (fun _ z_ => XS.lload X281.here hx rfl (hb hby at_353) rfl z_) ?_
          show OWay p e below G T281 (mkF m 355 #[.val (.int p0), .val (.int p1), .val (.int p2), .val (.int p3), .val (.int p4), .val (.int (1 : Int32)), .val (.int (0 : Int32)), .val (.int (1 : Int32)), .val (.ref b5), .val (.ref b60), .val (.ref b115), .val (.ref b141), .val (.ref b115), .val (.int v13_276), .val (.int v14_278), .val (.int v15_280), .val (.int v16_282), .val (.long v17_283), .second, .val (.long v19_284), .second, .unset, .unset, .unset, .unset] [(.long v19_284), (.long v19_284), (.long (v17_283 * v17_283))])
          refine ogo (fun _ z_ => XS.lmul X281.here hx rfl (hb hby at_355) rfl z_) ?_
          show OWay p e below G T281 (mkF m 356 #[.val (.int p0), .val (.int p1), .val (.int p2), .val (.int p3), .val (.int p4), .val (.int (1 : Int32)), .val (.int (0 : Int32)), .val (.int (1 : Int32)), .val (.ref b5), .val (.ref b60), .val (.ref b115), .val (.ref b141), .val (.ref b115), .val (.int v13_276), .val (.int v14_278), .val (.int v15_280), .val (.int v16_282), .val (.long v17_283), .second, .val (.long v19_284), .second, .unset, .unset, .unset, .unset] [(.long (v19_284 * v19_284)), (.long (v17_283 * v17_283))])
          refine ogo (fun _ z_ => XS.ladd X281.here hx rfl (hb hby at_356) rfl z_) ?_
          show OWay p e below G T281 (mkF m 357 #[.val (.int p0), .val (.int p1), .val (.int p2), .val (.int p3), .val (.int p4), .val (.int (1 : Int32)), .val (.int (0 : Int32)), .val (.int (1 : Int32)), .val (.ref b5), .val (.ref b60), .val (.ref b115), .val (.ref b141), .val (.ref b115), .val (.int v13_276), .val (.int v14_278), .val (.int v15_280), .val (.int v16_282), .val (.long v17_283), .second, .val (.long v19_284), .second, .unset, .unset, .unset, .unset] [(.long ((v17_283 * v17_283) + (v19_284 * v19_284)))])
          suffices Jv21_285 : ∀ v21_285 : Int64, v21_285 = ((v17_283 * v17_283) + (v19_284 * v19_284)) → OWay p e below G T281 (mkF m 357 #[.val (.int p0), .val (.int p1), .val (.int p2), .val (.int p3), .val (.int p4), .val (.int (1 : Int32)), .val (.int (0 : Int32)), .val (.int (1 : Int32)), .val (.ref b5), .val (.ref b60), .val (.ref b115), .val (.ref b141), .val (.ref b115), .val (.int v13_276), .val (.int v14_278), .val (.int v15_280), .val (.int v16_282), .val (.long v17_283), .second, .val (.long v19_284), .second, .unset, .unset, .unset, .unset] [(.long v21_285)]) from Jv21_285 _ rfl
          intro v21_285 hv21_285
          refine ogo (fun _ z_ => XS.lstore X281.here hx rfl (hb hby at_357) rfl (l' := #[.val (.int p0), .val (.int p1), .val (.int p2), .val (.int p3), .val (.int p4), .val (.int (1 : Int32)), .val (.int (0 : Int32)), .val (.int (1 : Int32)), .val (.ref b5), .val (.ref b60), .val (.ref b115), .val (.ref b141), .val (.ref b115), .val (.int v13_276), .val (.int v14_278), .val (.int v15_280), .val (.int v16_282), .val (.long v17_283), .second, .val (.long v19_284), .second, .val (.long v21_285), .second, .unset, .unset]) rfl z_) ?_
          show OWay p e below G T281 (mkF m 359 #[.val (.int p0), .val (.int p1), .val (.int p2), .val (.int p3), .val (.int p4), .val (.int (1 : Int32)), .val (.int (0 : Int32)), .val (.int (1 : Int32)), .val (.ref b5), .val (.ref b60), .val (.ref b115), .val (.ref b141), .val (.ref b115), .val (.int v13_276), .val (.int v14_278), .val (.int v15_280), .val (.int v16_282), .val (.long v17_283), .second, .val (.long v19_284), .second, .val (.long v21_285), .second, .unset, .unset] [])
          refine ogo (fun _ z_ => XS.aload X281.here hx rfl (hb hby at_359) rfl rfl z_) ?_
          show OWay p e below G T281 (mkF m 361 #[.val (.int p0), .val (.int p1), .val (.int p2), .val (.int p3), .val (.int p4), .val (.int (1 : Int32)), .val (.int (0 : Int32)), .val (.int (1 : Int32)), .val (.ref b5), .val (.ref b60), .val (.ref b115), .val (.ref b141), .val (.ref b115), .val (.int v13_276), .val (.int v14_278), .val (.int v15_280), .val (.int v16_282), .val (.long v17_283), .second, .val (.long v19_284), .second, .val (.long v21_285), .second, .unset, .unset] [(.ref b115)])
          refine ogo (fun _ z_ => XS.iload X281.here hx rfl (hb hby at_361) rfl z_) ?_
          show OWay p e below G T281 (mkF m 363 #[.val (.int p0), .val (.int p1), .val (.int p2), .val (.int p3), .val (.int p4), .val (.int (1 : Int32)), .val (.int (0 : Int32)), .val (.int (1 : Int32)), .val (.ref b5), .val (.ref b60), .val (.ref b115), .val (.ref b141), .val (.ref b115), .val (.int v13_276), .val (.int v14_278), .val (.int v15_280), .val (.int v16_282), .val (.long v17_283), .second, .val (.long v19_284), .second, .val (.long v21_285), .second, .unset, .unset] [(.int (1 : Int32)), (.ref b115)])
          refine ogo (fun _ z_ => XS.aload X281.here hx rfl (hb hby at_363) rfl rfl z_) ?_
          show OWay p e below G T281 (mkF m 365 #[.val (.int p0), .val (.int p1), .val (.int p2), .val (.int p3), .val (.int p4), .val (.int (1 : Int32)), .val (.int (0 : Int32)), .val (.int (1 : Int32)), .val (.ref b5), .val (.ref b60), .val (.ref b115), .val (.ref b141), .val (.ref b115), .val (.int v13_276), .val (.int v14_278), .val (.int v15_280), .val (.int v16_282), .val (.long v17_283), .second, .val (.long v19_284), .second, .val (.long v21_285), .second, .unset, .unset] [(.ref b115), (.int (1 : Int32)), (.ref b115)])
          refine ogo (fun _ z_ => XS.iload X281.here hx rfl (hb hby at_365) rfl z_) ?_
          show OWay p e below G T281 (mkF m 367 #[.val (.int p0), .val (.int p1), .val (.int p2), .val (.int p3), .val (.int p4), .val (.int (1 : Int32)), .val (.int (0 : Int32)), .val (.int (1 : Int32)), .val (.ref b5), .val (.ref b60), .val (.ref b115), .val (.ref b141), .val (.ref b115), .val (.int v13_276), .val (.int v14_278), .val (.int v15_280), .val (.int v16_282), .val (.long v17_283), .second, .val (.long v19_284), .second, .val (.long v21_285), .second, .unset, .unset] [(.int (0 : Int32)), (.ref b115), (.int (1 : Int32)), (.ref b115)])
          have F286 : Fld Z T153.heap b115 "com/example/wakeline/wakeline/similarity/Coordinates" "longitudes" "[D" (.ref lo_128) := ((P138.ext E141).keep Kq153 (ninS (Nat.ne_of_lt (Nat.lt_of_lt_of_le P138.lt (Nat.le_of_eq g141.symm))) nin0))
          have F287 : Fld Z T153.heap b115 "com/example/wakeline/wakeline/similarity/Coordinates" "latitudes" "[D" (.ref la_129) := ((P139.ext E141).keep Kq153 (ninS (Nat.ne_of_lt (Nat.lt_of_lt_of_le P139.lt (Nat.le_of_eq g141.symm))) nin0))
          have F288 : Arv Z T153.heap lo_128 kl_130 .double (2 : Int32) [(.double (FP.ddiv (FP.i2d (lonQ p0)) (4616189618054758400 : UInt64))), (.double (FP.ddiv (FP.i2d (lonQ p1)) (4616189618054758400 : UInt64)))] (.double (0 : UInt64)) := ((P136.ext E141).keep Kq153 (ninS (Nat.ne_of_lt (Nat.lt_of_lt_of_le P136.lt (Nat.le_of_eq g141.symm))) nin0))
          have F289 : Arv Z T153.heap la_129 ka_131 .double (2 : Int32) [(.double (FP.ddiv (FP.i2d (latQ p0)) (4616189618054758400 : UInt64))), (.double (FP.ddiv (FP.i2d (latQ p1)) (4616189618054758400 : UInt64)))] (.double (0 : UInt64)) := ((P137.ext E141).keep Kq153 (ninS (Nat.ne_of_lt (Nat.lt_of_lt_of_le P137.lt (Nat.le_of_eq g141.symm))) nin0))
          have F291 : Exa Z T153.heap b115 "com/example/wakeline/wakeline/similarity/Coordinates" := (((A115.keep Kq127).ext E141).keep Kq153)
          obtain ⟨_, T290, L290, X290, hQ290, st290⟩ := wVirtual X281 hx hZ (y := (⟨"com/example/wakeline/wakeline/similarity/Coordinates", "squaredDistance", "(ILcom/example/wakeline/wakeline/similarity/Coordinates;I)D"⟩ : MethodName)) (z := (⟨"com/example/wakeline/wakeline/similarity/Coordinates", "squaredDistance", "(ILcom/example/wakeline/wakeline/similarity/Coordinates;I)D"⟩ : MethodName)) hown (hw _ (List.mem_of_getElem? (i := 142) rfl)) (hw _ (List.mem_of_getElem? (i := 143) rfl)) (notFace_of_selects (args := #[]) (mvT hZ (hw _ (List.mem_of_getElem? (i := 145) rfl)))) (hw _ (List.mem_of_getElem? (i := 145) rfl)) (hw _ (List.mem_of_getElem? (i := 144) rfl)) (hw _ (List.mem_of_getElem? (i := 90) rfl)) (hw _ (List.mem_of_getElem? (i := 146) rfl)) (by decide) (sd10_c l Z az hw [] b115 b115 lo_128 la_129 kl_130 ka_131 lo_128 la_129 kl_130 ka_131 (FP.ddiv (FP.i2d (lonQ p0)) (4616189618054758400 : UInt64)) (FP.ddiv (FP.i2d (lonQ p1)) (4616189618054758400 : UInt64)) (FP.ddiv (FP.i2d (latQ p0)) (4616189618054758400 : UInt64)) (FP.ddiv (FP.i2d (latQ p1)) (4616189618054758400 : UInt64)) (FP.ddiv (FP.i2d (lonQ p0)) (4616189618054758400 : UInt64)) (FP.ddiv (FP.i2d (lonQ p1)) (4616189618054758400 : UInt64)) (FP.ddiv (FP.i2d (latQ p0)) (4616189618054758400 : UInt64)) (FP.ddiv (FP.i2d (latQ p1)) (4616189618054758400 : UInt64)) (lonQ p1).toInt (lonQ p0).toInt (latQ p1).toInt (latQ p0).toInt T153.heap n0 (Nat.le_trans (Nat.le_trans (Nat.le_trans (Nat.le_trans (Nat.le_trans (Nat.le_trans (Nat.le_trans (Nat.le_trans (Nat.le_trans (Nat.le_trans (Nat.le_trans (Nat.le_trans (Nat.le_trans (Nat.le_trans (Nat.le_trans (Nat.le_trans (Nat.le_trans (Nat.le_trans (Nat.le_trans (Nat.le_trans Z0 E5.1) Kq8.1) E13.1) Kq17.1) Kq28.1) E39.1) Kq43.1) Kq54.1) E60.1) Kq63.1) E68.1) Kq72.1) Kq83.1) E94.1) Kq98.1) Kq109.1) E115.1) Kq127.1) E141.1) Kq153.1) F286 F287 F288 F289 F286 F287 F288 F289 (own_q4 (lonQ p1)) (own_q4 (lonQ p0)) (own_q4 (latQ p1)) (own_q4 (latQ p0)) (own_lon p1) (own_lon p0) (own_lat7 p1) (own_lat7 p0)) 0 (by decide) (by decide) F291 (g := (mkF m 367 #[.val (.int p0), .val (.int p1), .val (.int p2), .val (.int p3), .val (.int p4), .val (.int (1 : Int32)), .val (.int (0 : Int32)), .val (.int (1 : Int32)), .val (.ref b5), .val (.ref b60), .val (.ref b115), .val (.ref b141), .val (.ref b115), .val (.int v13_276), .val (.int v14_278), .val (.int v15_280), .val (.int v16_282), .val (.long v17_283), .second, .val (.long v19_284), .second, .val (.long v21_285), .second, .unset, .unset] [(.int (0 : Int32)), (.ref b115), (.int (1 : Int32)), (.ref b115)])) rfl (by rw [hml]; rfl) (argsL := [(.int (1 : Int32)), (.ref b115), (.int (0 : Int32))]) (rest := []) (lenOf pd__ILcom_example_wakeline_wakeline_similarity_Coordinates_I_D rfl) rfl (by show 2 * 0 + _ ≤ _; exact Nat.le_of_eq rfl) (hb hby at_367) rfl eq281 (by decide) (by decide)
          obtain ⟨dr_292, rfl, N290q, eq290, dx_293⟩ := hQ290
          have N290 := Fr.app N281 N290q
          refine ogoS st290 ?_
          show OWay p e below G T290 (mkF m 370 #[.val (.int p0), .val (.int p1), .val (.int p2), .val (.int p3), .val (.int p4), .val (.int (1 : Int32)), .val (.int (0 : Int32)), .val (.int (1 : Int32)), .val (.ref b5), .val (.ref b60), .val (.ref b115), .val (.ref b141), .val (.ref b115), .val (.int v13_276), .val (.int v14_278), .val (.int v15_280), .val (.int v16_282), .val (.long v17_283), .second, .val (.long v19_284), .second, .val (.long v21_285), .second, .unset, .unset] [(.double dr_292)])
          refine ogo (fun _ z_ => XS.dstore X290.here hx rfl (hb hby at_370) rfl (l' := #[.val (.int p0), .val (.int p1), .val (.int p2), .val (.int p3), .val (.int p4), .val (.int (1 : Int32)), .val (.int (0 : Int32)), .val (.int (1 : Int32)), .val (.ref b5), .val (.ref b60), .val (.ref b115), .val (.ref b141), .val (.ref b115), .val (.int v13_276), .val (.int v14_278), .val (.int v15_280), .val (.int v16_282), .val (.long v17_283), .second, .val (.long v19_284), .second, .val (.long v21_285), .second, .val (.double dr_292), .second]) rfl z_) ?_
          show OWay p e below G T290 (mkF m 372 #[.val (.int p0), .val (.int p1), .val (.int p2), .val (.int p3), .val (.int p4), .val (.int (1 : Int32)), .val (.int (0 : Int32)), .val (.int (1 : Int32)), .val (.ref b5), .val (.ref b60), .val (.ref b115), .val (.ref b141), .val (.ref b115), .val (.int v13_276), .val (.int v14_278), .val (.int v15_280), .val (.int v16_282), .val (.long v17_283), .second, .val (.long v19_284), .second, .val (.long v21_285), .second, .val (.double dr_292), .second] [])
          refine ogo (fun _ z_ => XS.dload X290.here hx rfl (hb hby at_372) rfl z_) ?_
          show OWay p e below G T290 (mkF m 374 #[.val (.int p0), .val (.int p1), .val (.int p2), .val (.int p3), .val (.int p4), .val (.int (1 : Int32)), .val (.int (0 : Int32)), .val (.int (1 : Int32)), .val (.ref b5), .val (.ref b60), .val (.ref b115), .val (.ref b141), .val (.ref b115), .val (.int v13_276), .val (.int v14_278), .val (.int v15_280), .val (.int v16_282), .val (.long v17_283), .second, .val (.long v19_284), .second, .val (.long v21_285), .second, .val (.double dr_292), .second] [(.double dr_292)])
          have q17 := own_dl v13_276 v15_280 (lonQ p1).toInt (lonQ p0).toInt v17_283 (by rw [hv13_276]) (by rw [hv15_280]) (own_lon p1) (own_lon p0) hv17_283
          have q19 := own_dl v14_278 v16_282 (latQ p1).toInt (latQ p0).toInt v19_284 (by rw [hv14_278]) (by rw [hv16_282]) (own_lat7 p1) (own_lat7 p0) hv19_284
          have r1 := own_lon p1
          have r2 := own_lon p0
          have r3 := own_lat7 p1
          have r4 := own_lat7 p0
          have s1 := own_sq ((lonQ p1).toInt - (lonQ p0).toInt) (by omega) (by omega)
          have s2 := own_sq ((latQ p1).toInt - (latQ p0).toInt) (by omega) (by omega)
          have q21 := own_rf v17_283 v19_284 v21_285 _ _ q17 q19 s1 s2 hv21_285
          have D16 := own_q16 v21_285 (by rw [q21]; omega)
          refine ogo (fun _ z_ => XS.lload X290.here hx rfl (hb hby at_374) rfl z_) ?_
          show OWay p e below G T290 (mkF m 376 #[.val (.int p0), .val (.int p1), .val (.int p2), .val (.int p3), .val (.int p4), .val (.int (1 : Int32)), .val (.int (0 : Int32)), .val (.int (1 : Int32)), .val (.ref b5), .val (.ref b60), .val (.ref b115), .val (.ref b141), .val (.ref b115), .val (.int v13_276), .val (.int v14_278), .val (.int v15_280), .val (.int v16_282), .val (.long v17_283), .second, .val (.long v19_284), .second, .val (.long v21_285), .second, .val (.double dr_292), .second] [(.long v21_285), (.double dr_292)])
          refine ogo (fun _ z_ => XS.l2dS X290.here hx rfl (hb hby at_376) rfl rfl z_) ?_
          show OWay p e below G T290 (mkF m 377 #[.val (.int p0), .val (.int p1), .val (.int p2), .val (.int p3), .val (.int p4), .val (.int (1 : Int32)), .val (.int (0 : Int32)), .val (.int (1 : Int32)), .val (.ref b5), .val (.ref b60), .val (.ref b115), .val (.ref b141), .val (.ref b115), .val (.int v13_276), .val (.int v14_278), .val (.int v15_280), .val (.int v16_282), .val (.long v17_283), .second, .val (.long v19_284), .second, .val (.long v21_285), .second, .val (.double dr_292), .second] [(.double (FP.l2d v21_285)), (.double dr_292)])
          refine ogo (fun _ z_ => X290.ldc2DoubleC hx hown (mvT hZ (hw _ (List.mem_of_getElem? (i := 147) rfl))) (g := (mkF m 377 #[.val (.int p0), .val (.int p1), .val (.int p2), .val (.int p3), .val (.int p4), .val (.int (1 : Int32)), .val (.int (0 : Int32)), .val (.int (1 : Int32)), .val (.ref b5), .val (.ref b60), .val (.ref b115), .val (.ref b141), .val (.ref b115), .val (.int v13_276), .val (.int v14_278), .val (.int v15_280), .val (.int v16_282), .val (.long v17_283), .second, .val (.long v19_284), .second, .val (.long v21_285), .second, .val (.double dr_292), .second] [(.double (FP.l2d v21_285)), (.double dr_292)])) rfl (hb hby at_377) _ z_) ?_
          show OWay p e below G T290 (mkF m 380 #[.val (.int p0), .val (.int p1), .val (.int p2), .val (.int p3), .val (.int p4), .val (.int (1 : Int32)), .val (.int (0 : Int32)), .val (.int (1 : Int32)), .val (.ref b5), .val (.ref b60), .val (.ref b115), .val (.ref b141), .val (.ref b115), .val (.int v13_276), .val (.int v14_278), .val (.int v15_280), .val (.int v16_282), .val (.long v17_283), .second, .val (.long v19_284), .second, .val (.long v21_285), .second, .val (.double dr_292), .second] [(.double (4625196817309499392 : UInt64)), (.double (FP.l2d v21_285)), (.double dr_292)])
          refine ogo (fun _ z_ => XS.ddivS X290.here hx rfl (hb hby at_380) rfl (dy_nn D16) rfl z_) ?_
          show OWay p e below G T290 (mkF m 381 #[.val (.int p0), .val (.int p1), .val (.int p2), .val (.int p3), .val (.int p4), .val (.int (1 : Int32)), .val (.int (0 : Int32)), .val (.int (1 : Int32)), .val (.ref b5), .val (.ref b60), .val (.ref b115), .val (.ref b141), .val (.ref b115), .val (.int v13_276), .val (.int v14_278), .val (.int v15_280), .val (.int v16_282), .val (.long v17_283), .second, .val (.long v19_284), .second, .val (.long v21_285), .second, .val (.double dr_292), .second] [(.double (FP.ddiv (FP.l2d v21_285) (4625196817309499392 : UInt64))), (.double dr_292)])
          refine ogo (fun _ z_ => XS.dcmpS X290.here hx rfl (hb hby at_381) rfl rfl z_) ?_
          show OWay p e below G T290 (mkF m 382 #[.val (.int p0), .val (.int p1), .val (.int p2), .val (.int p3), .val (.int p4), .val (.int (1 : Int32)), .val (.int (0 : Int32)), .val (.int (1 : Int32)), .val (.ref b5), .val (.ref b60), .val (.ref b115), .val (.ref b141), .val (.ref b115), .val (.int v13_276), .val (.int v14_278), .val (.int v15_280), .val (.int v16_282), .val (.long v17_283), .second, .val (.long v19_284), .second, .val (.long v21_285), .second, .val (.double dr_292), .second] [(.int (cmpValue (FP.dcmp dr_292 (FP.ddiv (FP.l2d v21_285) (4625196817309499392 : UInt64))) .l))])
          refine ogo (fun _ z_ => XS.ifNo X290.here hx rfl (hb hby at_382) rfl ((if0 _ _).trans (teq (own_eq dx_293 (q21 ▸ D16))).2) z_) ?_
          show OWay p e below G T290 (mkF m 385 #[.val (.int p0), .val (.int p1), .val (.int p2), .val (.int p3), .val (.int p4), .val (.int (1 : Int32)), .val (.int (0 : Int32)), .val (.int (1 : Int32)), .val (.ref b5), .val (.ref b60), .val (.ref b115), .val (.ref b141), .val (.ref b115), .val (.int v13_276), .val (.int v14_278), .val (.int v15_280), .val (.int v16_282), .val (.long v17_283), .second, .val (.long v19_284), .second, .val (.long v21_285), .second, .val (.double dr_292), .second] [])
          refine ogo (fun _ z_ => XS.iconst X290.here hx rfl (hb hby at_385) z_) ?_
          show OWay p e below G T290 (mkF m 386 #[.val (.int p0), .val (.int p1), .val (.int p2), .val (.int p3), .val (.int p4), .val (.int (1 : Int32)), .val (.int (0 : Int32)), .val (.int (1 : Int32)), .val (.ref b5), .val (.ref b60), .val (.ref b115), .val (.ref b141), .val (.ref b115), .val (.int v13_276), .val (.int v14_278), .val (.int v15_280), .val (.int v16_282), .val (.long v17_283), .second, .val (.long v19_284), .second, .val (.long v21_285), .second, .val (.double dr_292), .second] [(.int (1 : Int32))])
          refine ogo (fun _ z_ => XS.goto X290.here hx rfl (pc0 := 386) (pc' := 390) rfl (hb hby at_386) (by decide) (by decide) z_) ?_
          show OWay p e below G T290 (mkF m 390 #[.val (.int p0), .val (.int p1), .val (.int p2), .val (.int p3), .val (.int p4), .val (.int (1 : Int32)), .val (.int (0 : Int32)), .val (.int (1 : Int32)), .val (.ref b5), .val (.ref b60), .val (.ref b115), .val (.ref b141), .val (.ref b115), .val (.int v13_276), .val (.int v14_278), .val (.int v15_280), .val (.int v16_282), .val (.long v17_283), .second, .val (.long v19_284), .second, .val (.long v21_285), .second, .val (.double dr_292), .second] [(.int (1 : Int32))])
          subst hG
          refine wRetN X290 hx (t := .boolean) hret hlk (by simp) (hb hby at_390) (by decide) (by decide) eq290 ?_
          exact ⟨rfl, N290⟩
        · show OWay p e below G T275 (mkF m 230 #[.val (.int p0), .val (.int p1), .val (.int p2), .val (.int p3), .val (.int p4), .val (.int (1 : Int32)), .val (.int (1 : Int32)), .val (.int (1 : Int32)), .val (.ref b5), .val (.ref b60), .val (.ref b115), .val (.ref b141), .val (.ref b115), .val (.int v13_276), .unset, .unset, .unset, .unset, .unset, .unset, .unset, .unset, .unset, .unset, .unset] [])
          refine ogo (fun _ z_ => XS.iload X275.here hx rfl (hb hby at_230) rfl z_) ?_
          show OWay p e below G T275 (mkF m 232 #[.val (.int p0), .val (.int p1), .val (.int p2), .val (.int p3), .val (.int p4), .val (.int (1 : Int32)), .val (.int (1 : Int32)), .val (.int (1 : Int32)), .val (.ref b5), .val (.ref b60), .val (.ref b115), .val (.ref b141), .val (.ref b115), .val (.int v13_276), .unset, .unset, .unset, .unset, .unset, .unset, .unset, .unset, .unset, .unset, .unset] [(.int (1 : Int32))])
          refine ogo (fun _ z_ => XS.ifYes X275.here hx rfl (pc0 := 232) (pc' := 242) rfl (hb hby at_232) rfl ((if0 _ _).trans (feq (by decide)).2) (by decide) (by decide) z_) ?_
          show OWay p e below G T275 (mkF m 242 #[.val (.int p0), .val (.int p1), .val (.int p2), .val (.int p3), .val (.int p4), .val (.int (1 : Int32)), .val (.int (1 : Int32)), .val (.int (1 : Int32)), .val (.ref b5), .val (.ref b60), .val (.ref b115), .val (.ref b141), .val (.ref b115), .val (.int v13_276), .unset, .unset, .unset, .unset, .unset, .unset, .unset, .unset, .unset, .unset, .unset] [])
          refine ogo (fun _ z_ => XS.iloadN X275.here hx rfl (hb hby at_242) rfl z_) ?_
          show OWay p e below G T275 (mkF m 243 #[.val (.int p0), .val (.int p1), .val (.int p2), .val (.int p3), .val (.int p4), .val (.int (1 : Int32)), .val (.int (1 : Int32)), .val (.int (1 : Int32)), .val (.ref b5), .val (.ref b60), .val (.ref b115), .val (.ref b141), .val (.ref b115), .val (.int v13_276), .unset, .unset, .unset, .unset, .unset, .unset, .unset, .unset, .unset, .unset, .unset] [(.int p1)])
          obtain ⟨_, T294, L294, X294, hQ294, st294⟩ := wStatic X275 hx hZ (y := (⟨"com/example/wakeline/wakeline/similarity/CoordinatesSquaredDistancePinLaw", "latQ", "(I)I"⟩ : MethodName)) hown (hw _ (List.mem_of_getElem? (i := 35) rfl)) (hw _ (List.mem_of_getElem? (i := 36) rfl)) (hw _ (List.mem_of_getElem? (i := 31) rfl)) (hw _ (List.mem_of_getElem? (i := 37) rfl)) (by decide) (latQ_b_c l Z az hw [] p1 T153.heap n0 (Nat.le_trans (Nat.le_trans (Nat.le_trans (Nat.le_trans (Nat.le_trans (Nat.le_trans (Nat.le_trans (Nat.le_trans (Nat.le_trans (Nat.le_trans (Nat.le_trans (Nat.le_trans (Nat.le_trans (Nat.le_trans (Nat.le_trans (Nat.le_trans (Nat.le_trans (Nat.le_trans (Nat.le_trans (Nat.le_trans Z0 E5.1) Kq8.1) E13.1) Kq17.1) Kq28.1) E39.1) Kq43.1) Kq54.1) E60.1) Kq63.1) E68.1) Kq72.1) Kq83.1) E94.1) Kq98.1) Kq109.1) E115.1) Kq127.1) E141.1) Kq153.1)) 0 (by decide) (by decide) (g := (mkF m 243 #[.val (.int p0), .val (.int p1), .val (.int p2), .val (.int p3), .val (.int p4), .val (.int (1 : Int32)), .val (.int (1 : Int32)), .val (.int (1 : Int32)), .val (.ref b5), .val (.ref b60), .val (.ref b115), .val (.ref b141), .val (.ref b115), .val (.int v13_276), .unset, .unset, .unset, .unset, .unset, .unset, .unset, .unset, .unset, .unset, .unset] [(.int p1)])) rfl (by rw [hml]; rfl) (argsL := [(.int p1)]) (rest := []) (lenOf pd__I_I rfl) rfl (by show 2 * 0 + _ ≤ _; exact Nat.le_of_eq rfl) (hb hby at_243) rfl eq275 (by decide) (by decide)
          obtain ⟨rfl, N294q, eq294⟩ := hQ294
          have N294 := Fr.app N275 N294q
          refine ogo st294 ?_
          show OWay p e below G T294 (mkF m 246 #[.val (.int p0), .val (.int p1), .val (.int p2), .val (.int p3), .val (.int p4), .val (.int (1 : Int32)), .val (.int (1 : Int32)), .val (.int (1 : Int32)), .val (.ref b5), .val (.ref b60), .val (.ref b115), .val (.ref b141), .val (.ref b115), .val (.int v13_276), .unset, .unset, .unset, .unset, .unset, .unset, .unset, .unset, .unset, .unset, .unset] [(.int (latQ p1))])
          suffices Jv14_295 : ∀ v14_295 : Int32, v14_295 = (latQ p1) → OWay p e below G T294 (mkF m 246 #[.val (.int p0), .val (.int p1), .val (.int p2), .val (.int p3), .val (.int p4), .val (.int (1 : Int32)), .val (.int (1 : Int32)), .val (.int (1 : Int32)), .val (.ref b5), .val (.ref b60), .val (.ref b115), .val (.ref b141), .val (.ref b115), .val (.int v13_276), .unset, .unset, .unset, .unset, .unset, .unset, .unset, .unset, .unset, .unset, .unset] [(.int v14_295)]) from Jv14_295 _ rfl
          intro v14_295 hv14_295
          refine ogo (fun _ z_ => XS.istore X294.here hx rfl (hb hby at_246) rfl (l' := #[.val (.int p0), .val (.int p1), .val (.int p2), .val (.int p3), .val (.int p4), .val (.int (1 : Int32)), .val (.int (1 : Int32)), .val (.int (1 : Int32)), .val (.ref b5), .val (.ref b60), .val (.ref b115), .val (.ref b141), .val (.ref b115), .val (.int v13_276), .val (.int v14_295), .unset, .unset, .unset, .unset, .unset, .unset, .unset, .unset, .unset, .unset]) rfl z_) ?_
          show OWay p e below G T294 (mkF m 248 #[.val (.int p0), .val (.int p1), .val (.int p2), .val (.int p3), .val (.int p4), .val (.int (1 : Int32)), .val (.int (1 : Int32)), .val (.int (1 : Int32)), .val (.ref b5), .val (.ref b60), .val (.ref b115), .val (.ref b141), .val (.ref b115), .val (.int v13_276), .val (.int v14_295), .unset, .unset, .unset, .unset, .unset, .unset, .unset, .unset, .unset, .unset] [])
          refine ogo (fun _ z_ => XS.iload X294.here hx rfl (hb hby at_248) rfl z_) ?_
          show OWay p e below G T294 (mkF m 250 #[.val (.int p0), .val (.int p1), .val (.int p2), .val (.int p3), .val (.int p4), .val (.int (1 : Int32)), .val (.int (1 : Int32)), .val (.int (1 : Int32)), .val (.ref b5), .val (.ref b60), .val (.ref b115), .val (.ref b141), .val (.ref b115), .val (.int v13_276), .val (.int v14_295), .unset, .unset, .unset, .unset, .unset, .unset, .unset, .unset, .unset, .unset] [(.int (1 : Int32))])
          refine ogo (fun _ z_ => XS.ifNo X294.here hx rfl (hb hby at_250) rfl ((if0 _ _).trans (feq (by decide)).1) z_) ?_
          show OWay p e below G T294 (mkF m 253 #[.val (.int p0), .val (.int p1), .val (.int p2), .val (.int p3), .val (.int p4), .val (.int (1 : Int32)), .val (.int (1 : Int32)), .val (.int (1 : Int32)), .val (.ref b5), .val (.ref b60), .val (.ref b115), .val (.ref b141), .val (.ref b115), .val (.int v13_276), .val (.int v14_295), .unset, .unset, .unset, .unset, .unset, .unset, .unset, .unset, .unset, .unset] [])
          refine ogo (fun _ z_ => XS.iload X294.here hx rfl (hb hby at_253) rfl z_) ?_
          show OWay p e below G T294 (mkF m 255 #[.val (.int p0), .val (.int p1), .val (.int p2), .val (.int p3), .val (.int p4), .val (.int (1 : Int32)), .val (.int (1 : Int32)), .val (.int (1 : Int32)), .val (.ref b5), .val (.ref b60), .val (.ref b115), .val (.ref b141), .val (.ref b115), .val (.int v13_276), .val (.int v14_295), .unset, .unset, .unset, .unset, .unset, .unset, .unset, .unset, .unset, .unset] [(.int (1 : Int32))])
          refine ogo (fun _ z_ => XS.ifYes X294.here hx rfl (pc0 := 255) (pc' := 265) rfl (hb hby at_255) rfl ((if0 _ _).trans (feq (by decide)).2) (by decide) (by decide) z_) ?_
          show OWay p e below G T294 (mkF m 265 #[.val (.int p0), .val (.int p1), .val (.int p2), .val (.int p3), .val (.int p4), .val (.int (1 : Int32)), .val (.int (1 : Int32)), .val (.int (1 : Int32)), .val (.ref b5), .val (.ref b60), .val (.ref b115), .val (.ref b141), .val (.ref b115), .val (.int v13_276), .val (.int v14_295), .unset, .unset, .unset, .unset, .unset, .unset, .unset, .unset, .unset, .unset] [])
          refine ogo (fun _ z_ => XS.iloadN X294.here hx rfl (hb hby at_265) rfl z_) ?_
          show OWay p e below G T294 (mkF m 266 #[.val (.int p0), .val (.int p1), .val (.int p2), .val (.int p3), .val (.int p4), .val (.int (1 : Int32)), .val (.int (1 : Int32)), .val (.int (1 : Int32)), .val (.ref b5), .val (.ref b60), .val (.ref b115), .val (.ref b141), .val (.ref b115), .val (.int v13_276), .val (.int v14_295), .unset, .unset, .unset, .unset, .unset, .unset, .unset, .unset, .unset, .unset] [(.int p1)])
          obtain ⟨_, T296, L296, X296, hQ296, st296⟩ := wStatic X294 hx hZ (y := (⟨"com/example/wakeline/wakeline/similarity/CoordinatesSquaredDistancePinLaw", "lonQ", "(I)I"⟩ : MethodName)) hown (hw _ (List.mem_of_getElem? (i := 29) rfl)) (hw _ (List.mem_of_getElem? (i := 30) rfl)) (hw _ (List.mem_of_getElem? (i := 31) rfl)) (hw _ (List.mem_of_getElem? (i := 32) rfl)) (by decide) (lonQ_b_c l Z az hw [] p1 T153.heap n0 (Nat.le_trans (Nat.le_trans (Nat.le_trans (Nat.le_trans (Nat.le_trans (Nat.le_trans (Nat.le_trans (Nat.le_trans (Nat.le_trans (Nat.le_trans (Nat.le_trans (Nat.le_trans (Nat.le_trans (Nat.le_trans (Nat.le_trans (Nat.le_trans (Nat.le_trans (Nat.le_trans (Nat.le_trans (Nat.le_trans Z0 E5.1) Kq8.1) E13.1) Kq17.1) Kq28.1) E39.1) Kq43.1) Kq54.1) E60.1) Kq63.1) E68.1) Kq72.1) Kq83.1) E94.1) Kq98.1) Kq109.1) E115.1) Kq127.1) E141.1) Kq153.1)) 0 (by decide) (by decide) (g := (mkF m 266 #[.val (.int p0), .val (.int p1), .val (.int p2), .val (.int p3), .val (.int p4), .val (.int (1 : Int32)), .val (.int (1 : Int32)), .val (.int (1 : Int32)), .val (.ref b5), .val (.ref b60), .val (.ref b115), .val (.ref b141), .val (.ref b115), .val (.int v13_276), .val (.int v14_295), .unset, .unset, .unset, .unset, .unset, .unset, .unset, .unset, .unset, .unset] [(.int p1)])) rfl (by rw [hml]; rfl) (argsL := [(.int p1)]) (rest := []) (lenOf pd__I_I rfl) rfl (by show 2 * 0 + _ ≤ _; exact Nat.le_of_eq rfl) (hb hby at_266) rfl eq294 (by decide) (by decide)
          obtain ⟨rfl, N296q, eq296⟩ := hQ296
          have N296 := Fr.app N294 N296q
          refine ogo st296 ?_
          show OWay p e below G T296 (mkF m 269 #[.val (.int p0), .val (.int p1), .val (.int p2), .val (.int p3), .val (.int p4), .val (.int (1 : Int32)), .val (.int (1 : Int32)), .val (.int (1 : Int32)), .val (.ref b5), .val (.ref b60), .val (.ref b115), .val (.ref b141), .val (.ref b115), .val (.int v13_276), .val (.int v14_295), .unset, .unset, .unset, .unset, .unset, .unset, .unset, .unset, .unset, .unset] [(.int (lonQ p1))])
          suffices Jv15_297 : ∀ v15_297 : Int32, v15_297 = (lonQ p1) → OWay p e below G T296 (mkF m 269 #[.val (.int p0), .val (.int p1), .val (.int p2), .val (.int p3), .val (.int p4), .val (.int (1 : Int32)), .val (.int (1 : Int32)), .val (.int (1 : Int32)), .val (.ref b5), .val (.ref b60), .val (.ref b115), .val (.ref b141), .val (.ref b115), .val (.int v13_276), .val (.int v14_295), .unset, .unset, .unset, .unset, .unset, .unset, .unset, .unset, .unset, .unset] [(.int v15_297)]) from Jv15_297 _ rfl
          intro v15_297 hv15_297
          refine ogo (fun _ z_ => XS.istore X296.here hx rfl (hb hby at_269) rfl (l' := #[.val (.int p0), .val (.int p1), .val (.int p2), .val (.int p3), .val (.int p4), .val (.int (1 : Int32)), .val (.int (1 : Int32)), .val (.int (1 : Int32)), .val (.ref b5), .val (.ref b60), .val (.ref b115), .val (.ref b141), .val (.ref b115), .val (.int v13_276), .val (.int v14_295), .val (.int v15_297), .unset, .unset, .unset, .unset, .unset, .unset, .unset, .unset, .unset]) rfl z_) ?_
          show OWay p e below G T296 (mkF m 271 #[.val (.int p0), .val (.int p1), .val (.int p2), .val (.int p3), .val (.int p4), .val (.int (1 : Int32)), .val (.int (1 : Int32)), .val (.int (1 : Int32)), .val (.ref b5), .val (.ref b60), .val (.ref b115), .val (.ref b141), .val (.ref b115), .val (.int v13_276), .val (.int v14_295), .val (.int v15_297), .unset, .unset, .unset, .unset, .unset, .unset, .unset, .unset, .unset] [])
          refine ogo (fun _ z_ => XS.iload X296.here hx rfl (hb hby at_271) rfl z_) ?_
          show OWay p e below G T296 (mkF m 273 #[.val (.int p0), .val (.int p1), .val (.int p2), .val (.int p3), .val (.int p4), .val (.int (1 : Int32)), .val (.int (1 : Int32)), .val (.int (1 : Int32)), .val (.ref b5), .val (.ref b60), .val (.ref b115), .val (.ref b141), .val (.ref b115), .val (.int v13_276), .val (.int v14_295), .val (.int v15_297), .unset, .unset, .unset, .unset, .unset, .unset, .unset, .unset, .unset] [(.int (1 : Int32))])
          refine ogo (fun _ z_ => XS.ifYes X296.here hx rfl (pc0 := 273) (pc' := 283) rfl (hb hby at_273) rfl ((if0 _ _).trans (feq (by decide)).2) (by decide) (by decide) z_) ?_
          show OWay p e below G T296 (mkF m 283 #[.val (.int p0), .val (.int p1), .val (.int p2), .val (.int p3), .val (.int p4), .val (.int (1 : Int32)), .val (.int (1 : Int32)), .val (.int (1 : Int32)), .val (.ref b5), .val (.ref b60), .val (.ref b115), .val (.ref b141), .val (.ref b115), .val (.int v13_276), .val (.int v14_295), .val (.int v15_297), .unset, .unset, .unset, .unset, .unset, .unset, .unset, .unset, .unset] [])
          refine ogo (fun _ z_ => XS.iloadN X296.here hx rfl (hb hby at_283) rfl z_) ?_
          show OWay p e below G T296 (mkF m 284 #[.val (.int p0), .val (.int p1), .val (.int p2), .val (.int p3), .val (.int p4), .val (.int (1 : Int32)), .val (.int (1 : Int32)), .val (.int (1 : Int32)), .val (.ref b5), .val (.ref b60), .val (.ref b115), .val (.ref b141), .val (.ref b115), .val (.int v13_276), .val (.int v14_295), .val (.int v15_297), .unset, .unset, .unset, .unset, .unset, .unset, .unset, .unset, .unset] [(.int p1)])
          obtain ⟨_, T298, L298, X298, hQ298, st298⟩ := wStatic X296 hx hZ (y := (⟨"com/example/wakeline/wakeline/similarity/CoordinatesSquaredDistancePinLaw", "latQ", "(I)I"⟩ : MethodName)) hown (hw _ (List.mem_of_getElem? (i := 35) rfl)) (hw _ (List.mem_of_getElem? (i := 36) rfl)) (hw _ (List.mem_of_getElem? (i := 31) rfl)) (hw _ (List.mem_of_getElem? (i := 37) rfl)) (by decide) (latQ_b_c l Z az hw [] p1 T153.heap n0 (Nat.le_trans (Nat.le_trans (Nat.le_trans (Nat.le_trans (Nat.le_trans (Nat.le_trans (Nat.le_trans (Nat.le_trans (Nat.le_trans (Nat.le_trans (Nat.le_trans (Nat.le_trans (Nat.le_trans (Nat.le_trans (Nat.le_trans (Nat.le_trans (Nat.le_trans (Nat.le_trans (Nat.le_trans (Nat.le_trans Z0 E5.1) Kq8.1) E13.1) Kq17.1) Kq28.1) E39.1) Kq43.1) Kq54.1) E60.1) Kq63.1) E68.1) Kq72.1) Kq83.1) E94.1) Kq98.1) Kq109.1) E115.1) Kq127.1) E141.1) Kq153.1)) 0 (by decide) (by decide) (g := (mkF m 284 #[.val (.int p0), .val (.int p1), .val (.int p2), .val (.int p3), .val (.int p4), .val (.int (1 : Int32)), .val (.int (1 : Int32)), .val (.int (1 : Int32)), .val (.ref b5), .val (.ref b60), .val (.ref b115), .val (.ref b141), .val (.ref b115), .val (.int v13_276), .val (.int v14_295), .val (.int v15_297), .unset, .unset, .unset, .unset, .unset, .unset, .unset, .unset, .unset] [(.int p1)])) rfl (by rw [hml]; rfl) (argsL := [(.int p1)]) (rest := []) (lenOf pd__I_I rfl) rfl (by show 2 * 0 + _ ≤ _; exact Nat.le_of_eq rfl) (hb hby at_284) rfl eq296 (by decide) (by decide)
          obtain ⟨rfl, N298q, eq298⟩ := hQ298
          have N298 := Fr.app N296 N298q
          refine ogo st298 ?_
          show OWay p e below G T298 (mkF m 287 #[.val (.int p0), .val (.int p1), .val (.int p2), .val (.int p3), .val (.int p4), .val (.int (1 : Int32)), .val (.int (1 : Int32)), .val (.int (1 : Int32)), .val (.ref b5), .val (.ref b60), .val (.ref b115), .val (.ref b141), .val (.ref b115), .val (.int v13_276), .val (.int v14_295), .val (.int v15_297), .unset, .unset, .unset, .unset, .unset, .unset, .unset, .unset, .unset] [(.int (latQ p1))])
          suffices Jv16_299 : ∀ v16_299 : Int32, v16_299 = (latQ p1) → OWay p e below G T298 (mkF m 287 #[.val (.int p0), .val (.int p1), .val (.int p2), .val (.int p3), .val (.int p4), .val (.int (1 : Int32)), .val (.int (1 : Int32)), .val (.int (1 : Int32)), .val (.ref b5), .val (.ref b60), .val (.ref b115), .val (.ref b141), .val (.ref b115), .val (.int v13_276), .val (.int v14_295), .val (.int v15_297), .unset, .unset, .unset, .unset, .unset, .unset, .unset, .unset, .unset] [(.int v16_299)]) from Jv16_299 _ rfl
          intro v16_299 hv16_299
          refine ogo (fun _ z_ => XS.istore X298.here hx rfl (hb hby at_287) rfl (l' := #[.val (.int p0), .val (.int p1), .val (.int p2), .val (.int p3), .val (.int p4), .val (.int (1 : Int32)), .val (.int (1 : Int32)), .val (.int (1 : Int32)), .val (.ref b5), .val (.ref b60), .val (.ref b115), .val (.ref b141), .val (.ref b115), .val (.int v13_276), .val (.int v14_295), .val (.int v15_297), .val (.int v16_299), .unset, .unset, .unset, .unset, .unset, .unset, .unset, .unset]) rfl z_) ?_
          show OWay p e below G T298 (mkF m 289 #[.val (.int p0), .val (.int p1), .val (.int p2), .val (.int p3), .val (.int p4), .val (.int (1 : Int32)), .val (.int (1 : Int32)), .val (.int (1 : Int32)), .val (.ref b5), .val (.ref b60), .val (.ref b115), .val (.ref b141), .val (.ref b115), .val (.int v13_276), .val (.int v14_295), .val (.int v15_297), .val (.int v16_299), .unset, .unset, .unset, .unset, .unset, .unset, .unset, .unset] [])
          refine ogo (fun _ z_ => XS.goto X298.here hx rfl (pc0 := 289) (pc' := 328) rfl (hb hby at_289) (by decide) (by decide) z_) ?_
          show OWay p e below G T298 (mkF m 328 #[.val (.int p0), .val (.int p1), .val (.int p2), .val (.int p3), .val (.int p4), .val (.int (1 : Int32)), .val (.int (1 : Int32)), .val (.int (1 : Int32)), .val (.ref b5), .val (.ref b60), .val (.ref b115), .val (.ref b141), .val (.ref b115), .val (.int v13_276), .val (.int v14_295), .val (.int v15_297), .val (.int v16_299), .unset, .unset, .unset, .unset, .unset, .unset, .unset, .unset] [])
          refine ogo (fun _ z_ => XS.iload X298.here hx rfl (hb hby at_328) rfl z_) ?_
          show OWay p e below G T298 (mkF m 330 #[.val (.int p0), .val (.int p1), .val (.int p2), .val (.int p3), .val (.int p4), .val (.int (1 : Int32)), .val (.int (1 : Int32)), .val (.int (1 : Int32)), .val (.ref b5), .val (.ref b60), .val (.ref b115), .val (.ref b141), .val (.ref b115), .val (.int v13_276), .val (.int v14_295), .val (.int v15_297), .val (.int v16_299), .unset, .unset, .unset, .unset, .unset, .unset, .unset, .unset] [(.int v13_276)])
          refine ogo (fun _ z_ => XS.i2l X298.here hx rfl (hb hby at_330) rfl z_) ?_
          show OWay p e below G T298 (mkF m 331 #[.val (.int p0), .val (.int p1), .val (.int p2), .val (.int p3), .val (.int p4), .val (.int (1 : Int32)), .val (.int (1 : Int32)), .val (.int (1 : Int32)), .val (.ref b5), .val (.ref b60), .val (.ref b115), .val (.ref b141), .val (.ref b115), .val (.int v13_276), .val (.int v14_295), .val (.int v15_297), .val (.int v16_299), .unset, .unset, .unset, .unset, .unset, .unset, .unset, .unset] [(.long (v13_276.toInt64))])
          refine ogo (fun _ z_ => XS.iload X298.here hx rfl (hb hby at_331) rfl z_) ?_
          show OWay p e below G T298 (mkF m 333 #[.val (.int p0), .val (.int p1), .val (.int p2), .val (.int p3), .val (.int p4), .val (.int (1 : Int32)), .val (.int (1 : Int32)), .val (.int (1 : Int32)), .val (.ref b5), .val (.ref b60), .val (.ref b115), .val (.ref b141), .val (.ref b115), .val (.int v13_276), .val (.int v14_295), .val (.int v15_297), .val (.int v16_299), .unset, .unset, .unset, .unset, .unset, .unset, .unset, .unset] [(.int v15_297), (.long (v13_276.toInt64))])
          refine ogo (fun _ z_ => XS.i2l X298.here hx rfl (hb hby at_333) rfl z_) ?_
          show OWay p e below G T298 (mkF m 334 #[.val (.int p0), .val (.int p1), .val (.int p2), .val (.int p3), .val (.int p4), .val (.int (1 : Int32)), .val (.int (1 : Int32)), .val (.int (1 : Int32)), .val (.ref b5), .val (.ref b60), .val (.ref b115), .val (.ref b141), .val (.ref b115), .val (.int v13_276), .val (.int v14_295), .val (.int v15_297), .val (.int v16_299), .unset, .unset, .unset, .unset, .unset, .unset, .unset, .unset] [(.long (v15_297.toInt64)), (.long (v13_276.toInt64))])
          refine ogo (fun _ z_ => XS.lsub X298.here hx rfl (hb hby at_334) rfl z_) ?_
          show OWay p e below G T298 (mkF m 335 #[.val (.int p0), .val (.int p1), .val (.int p2), .val (.int p3), .val (.int p4), .val (.int (1 : Int32)), .val (.int (1 : Int32)), .val (.int (1 : Int32)), .val (.ref b5), .val (.ref b60), .val (.ref b115), .val (.ref b141), .val (.ref b115), .val (.int v13_276), .val (.int v14_295), .val (.int v15_297), .val (.int v16_299), .unset, .unset, .unset, .unset, .unset, .unset, .unset, .unset] [(.long ((v13_276.toInt64) - (v15_297.toInt64)))])
          suffices Jv17_300 : ∀ v17_300 : Int64, v17_300 = ((v13_276.toInt64) - (v15_297.toInt64)) → OWay p e below G T298 (mkF m 335 #[.val (.int p0), .val (.int p1), .val (.int p2), .val (.int p3), .val (.int p4), .val (.int (1 : Int32)), .val (.int (1 : Int32)), .val (.int (1 : Int32)), .val (.ref b5), .val (.ref b60), .val (.ref b115), .val (.ref b141), .val (.ref b115), .val (.int v13_276), .val (.int v14_295), .val (.int v15_297), .val (.int v16_299), .unset, .unset, .unset, .unset, .unset, .unset, .unset, .unset] [(.long v17_300)]) from Jv17_300 _ rfl
          intro v17_300 hv17_300
          refine ogo (fun _ z_ => XS.lstore X298.here hx rfl (hb hby at_335) rfl (l' := #[.val (.int p0), .val (.int p1), .val (.int p2), .val (.int p3), .val (.int p4), .val (.int (1 : Int32)), .val (.int (1 : Int32)), .val (.int (1 : Int32)), .val (.ref b5), .val (.ref b60), .val (.ref b115), .val (.ref b141), .val (.ref b115), .val (.int v13_276), .val (.int v14_295), .val (.int v15_297), .val (.int v16_299), .val (.long v17_300), .second, .unset, .unset, .unset, .unset, .unset, .unset]) rfl z_) ?_
          show OWay p e below G T298 (mkF m 337 #[.val (.int p0), .val (.int p1), .val (.int p2), .val (.int p3), .val (.int p4), .val (.int (1 : Int32)), .val (.int (1 : Int32)), .val (.int (1 : Int32)), .val (.ref b5), .val (.ref b60), .val (.ref b115), .val (.ref b141), .val (.ref b115), .val (.int v13_276), .val (.int v14_295), .val (.int v15_297), .val (.int v16_299), .val (.long v17_300), .second, .unset, .unset, .unset, .unset, .unset, .unset] [])
          refine ogo (fun _ z_ => XS.iload X298.here hx rfl (hb hby at_337) rfl z_) ?_
          show OWay p e below G T298 (mkF m 339 #[.val (.int p0), .val (.int p1), .val (.int p2), .val (.int p3), .val (.int p4), .val (.int (1 : Int32)), .val (.int (1 : Int32)), .val (.int (1 : Int32)), .val (.ref b5), .val (.ref b60), .val (.ref b115), .val (.ref b141), .val (.ref b115), .val (.int v13_276), .val (.int v14_295), .val (.int v15_297), .val (.int v16_299), .val (.long v17_300), .second, .unset, .unset, .unset, .unset, .unset, .unset] [(.int v14_295)])
          refine ogo (fun _ z_ => XS.i2l X298.here hx rfl (hb hby at_339) rfl z_) ?_
          show OWay p e below G T298 (mkF m 340 #[.val (.int p0), .val (.int p1), .val (.int p2), .val (.int p3), .val (.int p4), .val (.int (1 : Int32)), .val (.int (1 : Int32)), .val (.int (1 : Int32)), .val (.ref b5), .val (.ref b60), .val (.ref b115), .val (.ref b141), .val (.ref b115), .val (.int v13_276), .val (.int v14_295), .val (.int v15_297), .val (.int v16_299), .val (.long v17_300), .second, .unset, .unset, .unset, .unset, .unset, .unset] [(.long (v14_295.toInt64))])
          refine ogo (fun _ z_ => XS.iload X298.here hx rfl (hb hby at_340) rfl z_) ?_
          show OWay p e below G T298 (mkF m 342 #[.val (.int p0), .val (.int p1), .val (.int p2), .val (.int p3), .val (.int p4), .val (.int (1 : Int32)), .val (.int (1 : Int32)), .val (.int (1 : Int32)), .val (.ref b5), .val (.ref b60), .val (.ref b115), .val (.ref b141), .val (.ref b115), .val (.int v13_276), .val (.int v14_295), .val (.int v15_297), .val (.int v16_299), .val (.long v17_300), .second, .unset, .unset, .unset, .unset, .unset, .unset] [(.int v16_299), (.long (v14_295.toInt64))])
          refine ogo (fun _ z_ => XS.i2l X298.here hx rfl (hb hby at_342) rfl z_) ?_
          show OWay p e below G T298 (mkF m 343 #[.val (.int p0), .val (.int p1), .val (.int p2), .val (.int p3), .val (.int p4), .val (.int (1 : Int32)), .val (.int (1 : Int32)), .val (.int (1 : Int32)), .val (.ref b5), .val (.ref b60), .val (.ref b115), .val (.ref b141), .val (.ref b115), .val (.int v13_276), .val (.int v14_295), .val (.int v15_297), .val (.int v16_299), .val (.long v17_300), .second, .unset, .unset, .unset, .unset, .unset, .unset] [(.long (v16_299.toInt64)), (.long (v14_295.toInt64))])
          refine ogo (fun _ z_ => XS.lsub X298.here hx rfl (hb hby at_343) rfl z_) ?_
          show OWay p e below G T298 (mkF m 344 #[.val (.int p0), .val (.int p1), .val (.int p2), .val (.int p3), .val (.int p4), .val (.int (1 : Int32)), .val (.int (1 : Int32)), .val (.int (1 : Int32)), .val (.ref b5), .val (.ref b60), .val (.ref b115), .val (.ref b141), .val (.ref b115), .val (.int v13_276), .val (.int v14_295), .val (.int v15_297), .val (.int v16_299), .val (.long v17_300), .second, .unset, .unset, .unset, .unset, .unset, .unset] [(.long ((v14_295.toInt64) - (v16_299.toInt64)))])
          suffices Jv19_301 : ∀ v19_301 : Int64, v19_301 = ((v14_295.toInt64) - (v16_299.toInt64)) → OWay p e below G T298 (mkF m 344 #[.val (.int p0), .val (.int p1), .val (.int p2), .val (.int p3), .val (.int p4), .val (.int (1 : Int32)), .val (.int (1 : Int32)), .val (.int (1 : Int32)), .val (.ref b5), .val (.ref b60), .val (.ref b115), .val (.ref b141), .val (.ref b115), .val (.int v13_276), .val (.int v14_295), .val (.int v15_297), .val (.int v16_299), .val (.long v17_300), .second, .unset, .unset, .unset, .unset, .unset, .unset] [(.long v19_301)]) from Jv19_301 _ rfl
          intro v19_301 hv19_301
          refine ogo (fun _ z_ => XS.lstore X298.here hx rfl (hb hby at_344) rfl (l' := #[.val (.int p0), .val (.int p1), .val (.int p2), .val (.int p3), .val (.int p4), .val (.int (1 : Int32)), .val (.int (1 : Int32)), .val (.int (1 : Int32)), .val (.ref b5), .val (.ref b60), .val (.ref b115), .val (.ref b141), .val (.ref b115), .val (.int v13_276), .val (.int v14_295), .val (.int v15_297), .val (.int v16_299), .val (.long v17_300), .second, .val (.long v19_301), .second, .unset, .unset, .unset, .unset]) rfl z_) ?_
          show OWay p e below G T298 (mkF m 346 #[.val (.int p0), .val (.int p1), .val (.int p2), .val (.int p3), .val (.int p4), .val (.int (1 : Int32)), .val (.int (1 : Int32)), .val (.int (1 : Int32)), .val (.ref b5), .val (.ref b60), .val (.ref b115), .val (.ref b141), .val (.ref b115), .val (.int v13_276), .val (.int v14_295), .val (.int v15_297), .val (.int v16_299), .val (.long v17_300), .second, .val (.long v19_301), .second, .unset, .unset, .unset, .unset] [])
          refine ogo (fun _ z_ => XS.lload X298.here hx rfl (hb hby at_346) rfl z_) ?_
          show OWay p e below G T298 (mkF m 348 #[.val (.int p0), .val (.int p1), .val (.int p2), .val (.int p3), .val (.int p4), .val (.int (1 : Int32)), .val (.int (1 : Int32)), .val (.int (1 : Int32)), .val (.ref b5), .val (.ref b60), .val (.ref b115), .val (.ref b141), .val (.ref b115), .val (.int v13_276), .val (.int v14_295), .val (.int v15_297), .val (.int v16_299), .val (.long v17_300), .second, .val (.long v19_301), .second, .unset, .unset, .unset, .unset] [(.long v17_300)])
          refine ogo (fun _ z_ => XS.lload X298.here hx rfl (hb hby at_348) rfl z_) ?_
          show OWay p e below G T298 (mkF m 350 #[.val (.int p0), .val (.int p1), .val (.int p2), .val (.int p3), .val (.int p4), .val (.int (1 : Int32)), .val (.int (1 : Int32)), .val (.int (1 : Int32)), .val (.ref b5), .val (.ref b60), .val (.ref b115), .val (.ref b141), .val (.ref b115), .val (.int v13_276), .val (.int v14_295), .val (.int v15_297), .val (.int v16_299), .val (.long v17_300), .second, .val (.long v19_301), .second, .unset, .unset, .unset, .unset] [(.long v17_300), (.long v17_300)])
          refine ogo (fun _ z_ => XS.lmul X298.here hx rfl (hb hby at_350) rfl z_) ?_
          show OWay p e below G T298 (mkF m 351 #[.val (.int p0), .val (.int p1), .val (.int p2), .val (.int p3), .val (.int p4), .val (.int (1 : Int32)), .val (.int (1 : Int32)), .val (.int (1 : Int32)), .val (.ref b5), .val (.ref b60), .val (.ref b115), .val (.ref b141), .val (.ref b115), .val (.int v13_276), .val (.int v14_295), .val (.int v15_297), .val (.int v16_299), .val (.long v17_300), .second, .val (.long v19_301), .second, .unset, .unset, .unset, .unset] [(.long (v17_300 * v17_300))])
          refine ogo (fun _ z_ => XS.lload X298.here hx rfl (hb hby at_351) rfl z_) ?_
          show OWay p e below G T298 (mkF m 353 #[.val (.int p0), .val (.int p1), .val (.int p2), .val (.int p3), .val (.int p4), .val (.int (1 : Int32)), .val (.int (1 : Int32)), .val (.int (1 : Int32)), .val (.ref b5), .val (.ref b60), .val (.ref b115), .val (.ref b141), .val (.ref b115), .val (.int v13_276), .val (.int v14_295), .val (.int v15_297), .val (.int v16_299), .val (.long v17_300), .second, .val (.long v19_301), .second, .unset, .unset, .unset, .unset] [(.long v19_301), (.long (v17_300 * v17_300))])
          refine ogo (fun _ z_ => XS.lload X298.here hx rfl (hb hby at_353) rfl z_) ?_
          show OWay p e below G T298 (mkF m 355 #[.val (.int p0), .val (.int p1), .val (.int p2), .val (.int p3), .val (.int p4), .val (.int (1 : Int32)), .val (.int (1 : Int32)), .val (.int (1 : Int32)), .val (.ref b5), .val (.ref b60), .val (.ref b115), .val (.ref b141), .val (.ref b115), .val (.int v13_276), .val (.int v14_295), .val (.int v15_297), .val (.int v16_299), .val (.long v17_300), .second, .val (.long v19_301), .second, .unset, .unset, .unset, .unset] [(.long v19_301), (.long v19_301), (.long (v17_300 * v17_300))])
          refine ogo (fun _ z_ => XS.lmul X298.here hx rfl (hb hby at_355) rfl z_) ?_
          show OWay p e below G T298 (mkF m 356 #[.val (.int p0), .val (.int p1), .val (.int p2), .val (.int p3), .val (.int p4), .val (.int (1 : Int32)), .val (.int (1 : Int32)), .val (.int (1 : Int32)), .val (.ref b5), .val (.ref b60), .val (.ref b115), .val (.ref b141), .val (.ref b115), .val (.int v13_276), .val (.int v14_295), .val (.int v15_297), .val (.int v16_299), .val (.long v17_300), .second, .val (.long v19_301), .second, .unset, .unset, .unset, .unset] [(.long (v19_301 * v19_301)), (.long (v17_300 * v17_300))])
          refine ogo (fun _ z_ => XS.ladd X298.here hx rfl (hb hby at_356) rfl z_) ?_
          show OWay p e below G T298 (mkF m 357 #[.val (.int p0), .val (.int p1), .val (.int p2), .val (.int p3), .val (.int p4), .val (.int (1 : Int32)), .val (.int (1 : Int32)), .val (.int (1 : Int32)), .val (.ref b5), .val (.ref b60), .val (.ref b115), .val (.ref b141), .val (.ref b115), .val (.int v13_276), .val (.int v14_295), .val (.int v15_297), .val (.int v16_299), .val (.long v17_300), .second, .val (.long v19_301), .second, .unset, .unset, .unset, .unset] [(.long ((v17_300 * v17_300) + (v19_301 * v19_301)))])
          suffices Jv21_302 : ∀ v21_302 : Int64, v21_302 = ((v17_300 * v17_300) + (v19_301 * v19_301)) → OWay p e below G T298 (mkF m 357 #[.val (.int p0), .val (.int p1), .val (.int p2), .val (.int p3), .val (.int p4), .val (.int (1 : Int32)), .val (.int (1 : Int32)), .val (.int (1 : Int32)), .val (.ref b5), .val (.ref b60), .val (.ref b115), .val (.ref b141), .val (.ref b115), .val (.int v13_276), .val (.int v14_295), .val (.int v15_297), .val (.int v16_299), .val (.long v17_300), .second, .val (.long v19_301), .second, .unset, .unset, .unset, .unset] [(.long v21_302)]) from Jv21_302 _ rfl
          intro v21_302 hv21_302
          refine ogo (fun _ z_ => XS.lstore X298.here hx rfl (hb hby at_357) rfl (l' := #[.val (.int p0), .val (.int p1), .val (.int p2), .val (.int p3), .val (.int p4), .val (.int (1 : Int32)), .val (.int (1 : Int32)), .val (.int (1 : Int32)), .val (.ref b5), .val (.ref b60), .val (.ref b115), .val (.ref b141), .val (.ref b115), .val (.int v13_276), .val (.int v14_295), .val (.int v15_297), .val (.int v16_299), .val (.long v17_300), .second, .val (.long v19_301), .second, .val (.long v21_302), .second, .unset, .unset]) rfl z_) ?_
          show OWay p e below G T298 (mkF m 359 #[.val (.int p0), .val (.int p1), .val (.int p2), .val (.int p3), .val (.int p4), .val (.int (1 : Int32)), .val (.int (1 : Int32)), .val (.int (1 : Int32)), .val (.ref b5), .val (.ref b60), .val (.ref b115), .val (.ref b141), .val (.ref b115), .val (.int v13_276), .val (.int v14_295), .val (.int v15_297), .val (.int v16_299), .val (.long v17_300), .second, .val (.long v19_301), .second, .val (.long v21_302), .second, .unset, .unset] [])
          refine ogo (fun _ z_ => XS.aload X298.here hx rfl (hb hby at_359) rfl rfl z_) ?_
          show OWay p e below G T298 (mkF m 361 #[.val (.int p0), .val (.int p1), .val (.int p2), .val (.int p3), .val (.int p4), .val (.int (1 : Int32)), .val (.int (1 : Int32)), .val (.int (1 : Int32)), .val (.ref b5), .val (.ref b60), .val (.ref b115), .val (.ref b141), .val (.ref b115), .val (.int v13_276), .val (.int v14_295), .val (.int v15_297), .val (.int v16_299), .val (.long v17_300), .second, .val (.long v19_301), .second, .val (.long v21_302), .second, .unset, .unset] [(.ref b115)])
          refine ogo (fun _ z_ => XS.iload X298.here hx rfl (hb hby at_361) rfl z_) ?_
          show OWay p e below G T298 (mkF m 363 #[.val (.int p0), .val (.int p1), .val (.int p2), .val (.int p3), .val (.int p4), .val (.int (1 : Int32)), .val (.int (1 : Int32)), .val (.int (1 : Int32)), .val (.ref b5), .val (.ref b60), .val (.ref b115), .val (.ref b141), .val (.ref b115), .val (.int v13_276), .val (.int v14_295), .val (.int v15_297), .val (.int v16_299), .val (.long v17_300), .second, .val (.long v19_301), .second, .val (.long v21_302), .second, .unset, .unset] [(.int (1 : Int32)), (.ref b115)])
          refine ogo (fun _ z_ => XS.aload X298.here hx rfl (hb hby at_363) rfl rfl z_) ?_
          show OWay p e below G T298 (mkF m 365 #[.val (.int p0), .val (.int p1), .val (.int p2), .val (.int p3), .val (.int p4), .val (.int (1 : Int32)), .val (.int (1 : Int32)), .val (.int (1 : Int32)), .val (.ref b5), .val (.ref b60), .val (.ref b115), .val (.ref b141), .val (.ref b115), .val (.int v13_276), .val (.int v14_295), .val (.int v15_297), .val (.int v16_299), .val (.long v17_300), .second, .val (.long v19_301), .second, .val (.long v21_302), .second, .unset, .unset] [(.ref b115), (.int (1 : Int32)), (.ref b115)])
          refine ogo (fun _ z_ => XS.iload X298.here hx rfl (hb hby at_365) rfl z_) ?_
          show OWay p e below G T298 (mkF m 367 #[.val (.int p0), .val (.int p1), .val (.int p2), .val (.int p3), .val (.int p4), .val (.int (1 : Int32)), .val (.int (1 : Int32)), .val (.int (1 : Int32)), .val (.ref b5), .val (.ref b60), .val (.ref b115), .val (.ref b141), .val (.ref b115), .val (.int v13_276), .val (.int v14_295), .val (.int v15_297), .val (.int v16_299), .val (.long v17_300), .second, .val (.long v19_301), .second, .val (.long v21_302), .second, .unset, .unset] [(.int (1 : Int32)), (.ref b115), (.int (1 : Int32)), (.ref b115)])
          have F303 : Fld Z T153.heap b115 "com/example/wakeline/wakeline/similarity/Coordinates" "longitudes" "[D" (.ref lo_128) := ((P138.ext E141).keep Kq153 (ninS (Nat.ne_of_lt (Nat.lt_of_lt_of_le P138.lt (Nat.le_of_eq g141.symm))) nin0))
          have F304 : Fld Z T153.heap b115 "com/example/wakeline/wakeline/similarity/Coordinates" "latitudes" "[D" (.ref la_129) := ((P139.ext E141).keep Kq153 (ninS (Nat.ne_of_lt (Nat.lt_of_lt_of_le P139.lt (Nat.le_of_eq g141.symm))) nin0))
          have F305 : Arv Z T153.heap lo_128 kl_130 .double (2 : Int32) [(.double (FP.ddiv (FP.i2d (lonQ p0)) (4616189618054758400 : UInt64))), (.double (FP.ddiv (FP.i2d (lonQ p1)) (4616189618054758400 : UInt64)))] (.double (0 : UInt64)) := ((P136.ext E141).keep Kq153 (ninS (Nat.ne_of_lt (Nat.lt_of_lt_of_le P136.lt (Nat.le_of_eq g141.symm))) nin0))
          have F306 : Arv Z T153.heap la_129 ka_131 .double (2 : Int32) [(.double (FP.ddiv (FP.i2d (latQ p0)) (4616189618054758400 : UInt64))), (.double (FP.ddiv (FP.i2d (latQ p1)) (4616189618054758400 : UInt64)))] (.double (0 : UInt64)) := ((P137.ext E141).keep Kq153 (ninS (Nat.ne_of_lt (Nat.lt_of_lt_of_le P137.lt (Nat.le_of_eq g141.symm))) nin0))
          have F308 : Exa Z T153.heap b115 "com/example/wakeline/wakeline/similarity/Coordinates" := (((A115.keep Kq127).ext E141).keep Kq153)
          obtain ⟨_, T307, L307, X307, hQ307, st307⟩ := wVirtual X298 hx hZ (y := (⟨"com/example/wakeline/wakeline/similarity/Coordinates", "squaredDistance", "(ILcom/example/wakeline/wakeline/similarity/Coordinates;I)D"⟩ : MethodName)) (z := (⟨"com/example/wakeline/wakeline/similarity/Coordinates", "squaredDistance", "(ILcom/example/wakeline/wakeline/similarity/Coordinates;I)D"⟩ : MethodName)) hown (hw _ (List.mem_of_getElem? (i := 142) rfl)) (hw _ (List.mem_of_getElem? (i := 143) rfl)) (notFace_of_selects (args := #[]) (mvT hZ (hw _ (List.mem_of_getElem? (i := 145) rfl)))) (hw _ (List.mem_of_getElem? (i := 145) rfl)) (hw _ (List.mem_of_getElem? (i := 144) rfl)) (hw _ (List.mem_of_getElem? (i := 90) rfl)) (hw _ (List.mem_of_getElem? (i := 146) rfl)) (by decide) (sd11_c l Z az hw [] b115 b115 lo_128 la_129 kl_130 ka_131 lo_128 la_129 kl_130 ka_131 (FP.ddiv (FP.i2d (lonQ p0)) (4616189618054758400 : UInt64)) (FP.ddiv (FP.i2d (lonQ p1)) (4616189618054758400 : UInt64)) (FP.ddiv (FP.i2d (latQ p0)) (4616189618054758400 : UInt64)) (FP.ddiv (FP.i2d (latQ p1)) (4616189618054758400 : UInt64)) (FP.ddiv (FP.i2d (lonQ p0)) (4616189618054758400 : UInt64)) (FP.ddiv (FP.i2d (lonQ p1)) (4616189618054758400 : UInt64)) (FP.ddiv (FP.i2d (latQ p0)) (4616189618054758400 : UInt64)) (FP.ddiv (FP.i2d (latQ p1)) (4616189618054758400 : UInt64)) (lonQ p1).toInt (lonQ p1).toInt (latQ p1).toInt (latQ p1).toInt T153.heap n0 (Nat.le_trans (Nat.le_trans (Nat.le_trans (Nat.le_trans (Nat.le_trans (Nat.le_trans (Nat.le_trans (Nat.le_trans (Nat.le_trans (Nat.le_trans (Nat.le_trans (Nat.le_trans (Nat.le_trans (Nat.le_trans (Nat.le_trans (Nat.le_trans (Nat.le_trans (Nat.le_trans (Nat.le_trans (Nat.le_trans Z0 E5.1) Kq8.1) E13.1) Kq17.1) Kq28.1) E39.1) Kq43.1) Kq54.1) E60.1) Kq63.1) E68.1) Kq72.1) Kq83.1) E94.1) Kq98.1) Kq109.1) E115.1) Kq127.1) E141.1) Kq153.1) F303 F304 F305 F306 F303 F304 F305 F306 (own_q4 (lonQ p1)) (own_q4 (lonQ p1)) (own_q4 (latQ p1)) (own_q4 (latQ p1)) (own_lon p1) (own_lon p1) (own_lat7 p1) (own_lat7 p1)) 0 (by decide) (by decide) F308 (g := (mkF m 367 #[.val (.int p0), .val (.int p1), .val (.int p2), .val (.int p3), .val (.int p4), .val (.int (1 : Int32)), .val (.int (1 : Int32)), .val (.int (1 : Int32)), .val (.ref b5), .val (.ref b60), .val (.ref b115), .val (.ref b141), .val (.ref b115), .val (.int v13_276), .val (.int v14_295), .val (.int v15_297), .val (.int v16_299), .val (.long v17_300), .second, .val (.long v19_301), .second, .val (.long v21_302), .second, .unset, .unset] [(.int (1 : Int32)), (.ref b115), (.int (1 : Int32)), (.ref b115)])) rfl (by rw [hml]; rfl) (argsL := [(.int (1 : Int32)), (.ref b115), (.int (1 : Int32))]) (rest := []) (lenOf pd__ILcom_example_wakeline_wakeline_similarity_Coordinates_I_D rfl) rfl (by show 2 * 0 + _ ≤ _; exact Nat.le_of_eq rfl) (hb hby at_367) rfl eq298 (by decide) (by decide)
          obtain ⟨dr_309, rfl, N307q, eq307, dx_310⟩ := hQ307
          have N307 := Fr.app N298 N307q
          refine ogoS st307 ?_
          show OWay p e below G T307 (mkF m 370 #[.val (.int p0), .val (.int p1), .val (.int p2), .val (.int p3), .val (.int p4), .val (.int (1 : Int32)), .val (.int (1 : Int32)), .val (.int (1 : Int32)), .val (.ref b5), .val (.ref b60), .val (.ref b115), .val (.ref b141), .val (.ref b115), .val (.int v13_276), .val (.int v14_295), .val (.int v15_297), .val (.int v16_299), .val (.long v17_300), .second, .val (.long v19_301), .second, .val (.long v21_302), .second, .unset, .unset] [(.double dr_309)])
          refine ogo (fun _ z_ => XS.dstore X307.here hx rfl (hb hby at_370) rfl (l' := #[.val (.int p0), .val (.int p1), .val (.int p2), .val (.int p3), .val (.int p4), .val (.int (1 : Int32)), .val (.int (1 : Int32)), .val (.int (1 : Int32)), .val (.ref b5), .val (.ref b60), .val (.ref b115), .val (.ref b141), .val (.ref b115), .val (.int v13_276), .val (.int v14_295), .val (.int v15_297), .val (.int v16_299), .val (.long v17_300), .second, .val (.long v19_301), .second, .val (.long v21_302), .second, .val (.double dr_309), .second]) rfl z_) ?_
          show OWay p e below G T307 (mkF m 372 #[.val (.int p0), .val (.int p1), .val (.int p2), .val (.int p3), .val (.int p4), .val (.int (1 : Int32)), .val (.int (1 : Int32)), .val (.int (1 : Int32)), .val (.ref b5), .val (.ref b60), .val (.ref b115), .val (.ref b141), .val (.ref b115), .val (.int v13_276), .val (.int v14_295), .val (.int v15_297), .val (.int v16_299), .val (.long v17_300), .second, .val (.long v19_301), .second, .val (.long v21_302), .second, .val (.double dr_309), .second] [])
          refine ogo (fun _ z_ => XS.dload X307.here hx rfl (hb hby at_372) rfl z_) ?_
          show OWay p e below G T307 (mkF m 374 #[.val (.int p0), .val (.int p1), .val (.int p2), .val (.int p3), .val (.int p4), .val (.int (1 : Int32)), .val (.int (1 : Int32)), .val (.int (1 : Int32)), .val (.ref b5), .val (.ref b60), .val (.ref b115), .val (.ref b141), .val (.ref b115), .val (.int v13_276), .val (.int v14_295), .val (.int v15_297), .val (.int v16_299), .val (.long v17_300), .second, .val (.long v19_301), .second, .val (.long v21_302), .second, .val (.double dr_309), .second] [(.double dr_309)])
          have q17 := own_dl v13_276 v15_297 (lonQ p1).toInt (lonQ p1).toInt v17_300 (by rw [hv13_276]) (by rw [hv15_297]) (own_lon p1) (own_lon p1) hv17_300
          have q19 := own_dl v14_295 v16_299 (latQ p1).toInt (latQ p1).toInt v19_301 (by rw [hv14_295]) (by rw [hv16_299]) (own_lat7 p1) (own_lat7 p1) hv19_301
          have r1 := own_lon p1
          have r2 := own_lon p1
          have r3 := own_lat7 p1
          have r4 := own_lat7 p1
          have s1 := own_sq ((lonQ p1).toInt - (lonQ p1).toInt) (by omega) (by omega)
          have s2 := own_sq ((latQ p1).toInt - (latQ p1).toInt) (by omega) (by omega)
          have q21 := own_rf v17_300 v19_301 v21_302 _ _ q17 q19 s1 s2 hv21_302
          have D16 := own_q16 v21_302 (by rw [q21]; omega)
          refine ogo (fun _ z_ => XS.lload X307.here hx rfl (hb hby at_374) rfl z_) ?_
          show OWay p e below G T307 (mkF m 376 #[.val (.int p0), .val (.int p1), .val (.int p2), .val (.int p3), .val (.int p4), .val (.int (1 : Int32)), .val (.int (1 : Int32)), .val (.int (1 : Int32)), .val (.ref b5), .val (.ref b60), .val (.ref b115), .val (.ref b141), .val (.ref b115), .val (.int v13_276), .val (.int v14_295), .val (.int v15_297), .val (.int v16_299), .val (.long v17_300), .second, .val (.long v19_301), .second, .val (.long v21_302), .second, .val (.double dr_309), .second] [(.long v21_302), (.double dr_309)])
          refine ogo (fun _ z_ => XS.l2dS X307.here hx rfl (hb hby at_376) rfl rfl z_) ?_
          show OWay p e below G T307 (mkF m 377 #[.val (.int p0), .val (.int p1), .val (.int p2), .val (.int p3), .val (.int p4), .val (.int (1 : Int32)), .val (.int (1 : Int32)), .val (.int (1 : Int32)), .val (.ref b5), .val (.ref b60), .val (.ref b115), .val (.ref b141), .val (.ref b115), .val (.int v13_276), .val (.int v14_295), .val (.int v15_297), .val (.int v16_299), .val (.long v17_300), .second, .val (.long v19_301), .second, .val (.long v21_302), .second, .val (.double dr_309), .second] [(.double (FP.l2d v21_302)), (.double dr_309)])
          refine ogo (fun _ z_ => X307.ldc2DoubleC hx hown (mvT hZ (hw _ (List.mem_of_getElem? (i := 147) rfl))) (g := (mkF m 377 #[.val (.int p0), .val (.int p1), .val (.int p2), .val (.int p3), .val (.int p4), .val (.int (1 : Int32)), .val (.int (1 : Int32)), .val (.int (1 : Int32)), .val (.ref b5), .val (.ref b60), .val (.ref b115), .val (.ref b141), .val (.ref b115), .val (.int v13_276), .val (.int v14_295), .val (.int v15_297), .val (.int v16_299), .val (.long v17_300), .second, .val (.long v19_301), .second, .val (.long v21_302), .second, .val (.double dr_309), .second] [(.double (FP.l2d v21_302)), (.double dr_309)])) rfl (hb hby at_377) _ z_) ?_
          show OWay p e below G T307 (mkF m 380 #[.val (.int p0), .val (.int p1), .val (.int p2), .val (.int p3), .val (.int p4), .val (.int (1 : Int32)), .val (.int (1 : Int32)), .val (.int (1 : Int32)), .val (.ref b5), .val (.ref b60), .val (.ref b115), .val (.ref b141), .val (.ref b115), .val (.int v13_276), .val (.int v14_295), .val (.int v15_297), .val (.int v16_299), .val (.long v17_300), .second, .val (.long v19_301), .second, .val (.long v21_302), .second, .val (.double dr_309), .second] [(.double (4625196817309499392 : UInt64)), (.double (FP.l2d v21_302)), (.double dr_309)])
          refine ogo (fun _ z_ => XS.ddivS X307.here hx rfl (hb hby at_380) rfl (dy_nn D16) rfl z_) ?_
          show OWay p e below G T307 (mkF m 381 #[.val (.int p0), .val (.int p1), .val (.int p2), .val (.int p3), .val (.int p4), .val (.int (1 : Int32)), .val (.int (1 : Int32)), .val (.int (1 : Int32)), .val (.ref b5), .val (.ref b60), .val (.ref b115), .val (.ref b141), .val (.ref b115), .val (.int v13_276), .val (.int v14_295), .val (.int v15_297), .val (.int v16_299), .val (.long v17_300), .second, .val (.long v19_301), .second, .val (.long v21_302), .second, .val (.double dr_309), .second] [(.double (FP.ddiv (FP.l2d v21_302) (4625196817309499392 : UInt64))), (.double dr_309)])
          refine ogo (fun _ z_ => XS.dcmpS X307.here hx rfl (hb hby at_381) rfl rfl z_) ?_
          show OWay p e below G T307 (mkF m 382 #[.val (.int p0), .val (.int p1), .val (.int p2), .val (.int p3), .val (.int p4), .val (.int (1 : Int32)), .val (.int (1 : Int32)), .val (.int (1 : Int32)), .val (.ref b5), .val (.ref b60), .val (.ref b115), .val (.ref b141), .val (.ref b115), .val (.int v13_276), .val (.int v14_295), .val (.int v15_297), .val (.int v16_299), .val (.long v17_300), .second, .val (.long v19_301), .second, .val (.long v21_302), .second, .val (.double dr_309), .second] [(.int (cmpValue (FP.dcmp dr_309 (FP.ddiv (FP.l2d v21_302) (4625196817309499392 : UInt64))) .l))])
          refine ogo (fun _ z_ => XS.ifNo X307.here hx rfl (hb hby at_382) rfl ((if0 _ _).trans (teq (own_eq dx_310 (q21 ▸ D16))).2) z_) ?_
          show OWay p e below G T307 (mkF m 385 #[.val (.int p0), .val (.int p1), .val (.int p2), .val (.int p3), .val (.int p4), .val (.int (1 : Int32)), .val (.int (1 : Int32)), .val (.int (1 : Int32)), .val (.ref b5), .val (.ref b60), .val (.ref b115), .val (.ref b141), .val (.ref b115), .val (.int v13_276), .val (.int v14_295), .val (.int v15_297), .val (.int v16_299), .val (.long v17_300), .second, .val (.long v19_301), .second, .val (.long v21_302), .second, .val (.double dr_309), .second] [])
          refine ogo (fun _ z_ => XS.iconst X307.here hx rfl (hb hby at_385) z_) ?_
          show OWay p e below G T307 (mkF m 386 #[.val (.int p0), .val (.int p1), .val (.int p2), .val (.int p3), .val (.int p4), .val (.int (1 : Int32)), .val (.int (1 : Int32)), .val (.int (1 : Int32)), .val (.ref b5), .val (.ref b60), .val (.ref b115), .val (.ref b141), .val (.ref b115), .val (.int v13_276), .val (.int v14_295), .val (.int v15_297), .val (.int v16_299), .val (.long v17_300), .second, .val (.long v19_301), .second, .val (.long v21_302), .second, .val (.double dr_309), .second] [(.int (1 : Int32))])
          refine ogo (fun _ z_ => XS.goto X307.here hx rfl (pc0 := 386) (pc' := 390) rfl (hb hby at_386) (by decide) (by decide) z_) ?_
          show OWay p e below G T307 (mkF m 390 #[.val (.int p0), .val (.int p1), .val (.int p2), .val (.int p3), .val (.int p4), .val (.int (1 : Int32)), .val (.int (1 : Int32)), .val (.int (1 : Int32)), .val (.ref b5), .val (.ref b60), .val (.ref b115), .val (.ref b141), .val (.ref b115), .val (.int v13_276), .val (.int v14_295), .val (.int v15_297), .val (.int v16_299), .val (.long v17_300), .second, .val (.long v19_301), .second, .val (.long v21_302), .second, .val (.double dr_309), .second] [(.int (1 : Int32))])
          subst hG
          refine wRetN X307 hx (t := .boolean) hret hlk (by simp) (hb hby at_390) (by decide) (by decide) eq307 ?_
          exact ⟨rfl, N307⟩
  by_cases c20 : (((p4.toUInt32 >>> ((2 : Int32) &&& 31).toUInt32).toInt32) &&& (1 : Int32)) = (0 : Int32)
  · refine ogo (fun _ z_ => XS.ifYes X0.here hx rfl (pc0 := 20) (pc' := 27) rfl (hb hby at_20) rfl ((if0 _ _).trans (teq c20).1) (by decide) (by decide) z_) ?_
    show OWay p e below G s₁ (mkF m 27 #[.val (.int p0), .val (.int p1), .val (.int p2), .val (.int p3), .val (.int p4), .val (.int v5_1), .val (.int v6_2), .unset, .unset, .unset, .unset, .unset, .unset, .unset, .unset, .unset, .unset, .unset, .unset, .unset, .unset, .unset, .unset, .unset, .unset] [])
    refine ogo (fun _ z_ => XS.iconst X0.here hx rfl (hb hby at_27) z_) ?_
    show OWay p e below G s₁ (mkF m 28 #[.val (.int p0), .val (.int p1), .val (.int p2), .val (.int p3), .val (.int p4), .val (.int v5_1), .val (.int v6_2), .unset, .unset, .unset, .unset, .unset, .unset, .unset, .unset, .unset, .unset, .unset, .unset, .unset, .unset, .unset, .unset, .unset, .unset] [(.int (0 : Int32))])
    exact J4 _ ((if_pos c20).trans rfl).symm
  · refine ogo (fun _ z_ => XS.ifNo X0.here hx rfl (hb hby at_20) rfl ((if0 _ _).trans (feq c20).1) z_) ?_
    show OWay p e below G s₁ (mkF m 23 #[.val (.int p0), .val (.int p1), .val (.int p2), .val (.int p3), .val (.int p4), .val (.int v5_1), .val (.int v6_2), .unset, .unset, .unset, .unset, .unset, .unset, .unset, .unset, .unset, .unset, .unset, .unset, .unset, .unset, .unset, .unset, .unset, .unset] [])
    refine ogo (fun _ z_ => XS.iconst X0.here hx rfl (hb hby at_23) z_) ?_
    show OWay p e below G s₁ (mkF m 24 #[.val (.int p0), .val (.int p1), .val (.int p2), .val (.int p3), .val (.int p4), .val (.int v5_1), .val (.int v6_2), .unset, .unset, .unset, .unset, .unset, .unset, .unset, .unset, .unset, .unset, .unset, .unset, .unset, .unset, .unset, .unset, .unset, .unset] [(.int (1 : Int32))])
    refine ogo (fun _ z_ => XS.goto X0.here hx rfl (pc0 := 24) (pc' := 28) rfl (hb hby at_24) (by decide) (by decide) z_) ?_
    show OWay p e below G s₁ (mkF m 28 #[.val (.int p0), .val (.int p1), .val (.int p2), .val (.int p3), .val (.int p4), .val (.int v5_1), .val (.int v6_2), .unset, .unset, .unset, .unset, .unset, .unset, .unset, .unset, .unset, .unset, .unset, .unset, .unset, .unset, .unset, .unset, .unset, .unset] [(.int (1 : Int32))])
    exact J4 _ ((if_neg c20).trans rfl).symm
set_option maxRecDepth 65536 in
set_option maxHeartbeats 40000000 in
theorem comes_1 {Post : Tables → Env → Array Value → State → Outcome → State → Prop} (hpost : ∀ tb e args s v u, (limb_1_1.after args s (.returned v) u = true ∧ limb_1_2.after args s (.returned v) u = true ∧ True) → FrameEnd s (.returned v) u (Jvm.fieldLocs frame_1_writes args s ++ Jvm.arrayLocs frame_1_arrays args s ++ Jvm.staticLocs frame_1_statics s) 40 192 → Post tb e args s (.returned v) u) :
    ArmFor flags0 classFile x code maxLocals ret World_1 tables_1 room_1 Calls_1 rest_1 Pre_1 Post := by
  intro l hfl _ _ p e ha hc hk s m args below hf hA hF happ hP
  obtain ⟨hcalls, hrest, hpre⟩ := hP
  obtain ⟨-, -, -, hnamed, -, -, -, hat⟩ := (Spec.applies_iff hf).mp happ
  obtain ⟨hg, hn⟩ := and_e (Cond.before_iff.mp (show (Jvm.Cond.and given_1 narrow_1).before args s = true from hpre))
  obtain ⟨g1, g2⟩ := and_e hg
  obtain ⟨g3, g4⟩ := and_e g2
  obtain ⟨g5, g6⟩ := and_e g4
  obtain ⟨g7, g8⟩ := and_e g6
  obtain ⟨g9, g10⟩ := and_e g8
  obtain ⟨w0, w1, w2, w3, w4, rfl⟩ : ∃ w0 w1 w2 w3 w4 : Value, args = #[w0, w1, w2, w3, w4] := by
    have hs : args.size = 5 := by simpa [Cond.value, given_1] using g1
    obtain ⟨L⟩ := args
    match L, hs with
    | [w0, w1, w2, w3, w4], _ => exact ⟨w0, w1, w2, w3, w4, rfl⟩
  have hw := fun d (hd : d ∈ tables_1) => atoms_spec (ws := Jvm.Cond.code x code maxLocals ret :: tables_1) hat d (List.mem_cons_of_mem _ hd)
  have hfit : Fit s := fun {y c} hc i hi => by
    obtain ⟨ha, rfl⟩ := Array.getElem?_eq_some_iff.mp hc
    have q := List.all_eq_true.mp ((Array.all_eq_true_iff_forall_mem.mp hF) _ (Array.getElem_mem ha)) i (List.mem_range.mpr hi)
    simpa [Array.getElem?_eq_getElem hi] using q
  obtain ⟨hsets, hown0⟩ := atoms_of _ (rest_1_c_eq ▸ (show rest_1_c.before _ s = true from hrest))
  have hr0 := Cond.before_iff.mp hown0
  obtain ⟨i0, ei0⟩ := is_v g3
  obtain rfl : w0 = (.int i0) := Option.some.inj ei0
  obtain ⟨i1, ei1⟩ := is_v g5
  obtain rfl : w1 = (.int i1) := Option.some.inj ei1
  obtain ⟨i2, ei2⟩ := is_v g7
  obtain rfl : w2 = (.int i2) := Option.some.inj ei2
  obtain ⟨i3, ei3⟩ := is_v g9
  obtain rfl : w3 = (.int i3) := Option.some.inj ei3
  obtain ⟨i4, ei4⟩ := is_v g10
  obtain rfl : w4 = (.int i4) := Option.some.inj ei4
  obtain ⟨ev, eE⟩ := arr_v (Cond.before_iff.mp (hsets _ (List.mem_of_getElem? (i := 6) rfl)))
  obtain ⟨clE, hA⟩ := Arr.start eE (Cond.before_iff.mp (hsets _ (List.mem_of_getElem? (i := 6) rfl)))
  have SE := Sta.start eE (Or.inr ⟨(hw _ (List.mem_of_getElem? (i := 2) rfl)), (hsets _ (List.mem_of_getElem? (i := 2) rfl))⟩)
  have hL := own_len (Cond.before_iff.mp (hsets _ (List.mem_of_getElem? (i := 8) rfl))) eE hA (Term.int_eval _) (by decide)
  have AE : Arv s s.heap ev clE.cls (.object "java/lang/Object") (0 : Int32) [] .null := own_arv .null hfit hA hL (by decide) trivial
  obtain ⟨n, o, h1, h2, h3, _, L, rfl, ⟨rfl, N⟩, hq⟩ := law_c l s _ hw tables_1 i0 i1 i2 i3 i4 ev clE.cls s.heap s.heap.size (Nat.le_refl _) SE AE (Old.start s) p e ha hc hk s m _ below hf ((Spec.applies_iff_loose hf).mp happ).1 ⟨rfl, State.Warmed39.refl s, rfl⟩ trivial
  refine ⟨n, _, h1, h2, h3, hpost _ _ _ _ _ _ ⟨Cond.after_iff.mpr rfl, Cond.after_iff.mpr (eq_i res_at (Term.int_eval (1)) rfl), trivial⟩ ⟨hq.1, hq.2.1, (hq.2.2.sift fun y hy => Or.inr (N y hy)).mono (by decide) (by decide)⟩⟩
theorem main_1_1 : Claimed_1_1 := comes_1 fun _ _ _ _ _ _ h hF => ⟨h.1, hF⟩
theorem main_1_2 : Claimed_1_2 := comes_1 fun _ _ _ _ _ _ h hF => ⟨h.2.1, hF⟩
end Jvm.Pilot.@@N@@
namespace Jvm.Pilot.@@N@@
open Jvm Jvm.ClassFile Sem Op Lib Jvm.Free Jvm.Stand Jvm.Pilot.@@N@@.Jvm.D
/-! MADE BY PROGRAM (witnessworld.py) out of the Statement's table words and the real class files: 25 classes; the members and pool entries that the words name. The judged class is class 1, her method 3. -/
namespace start1
open Jvm.ClassFile
def u (s : String) : CpInfo := .utf8 (stringToUtf16 s)
/-- a pool by its gaps: so many unusable entries, then the entry; so many at the end -/
def gap : Nat → List CpInfo → List CpInfo
  | 0, r => r
  | n + 1, r => .unusable :: gap n r
def poolList (es : List (Nat × CpInfo)) (last : Nat) : List CpInfo := es.foldr (fun e r => gap e.1 (e.2 :: r)) (gap last [])
def pool (es : List (Nat × CpInfo)) (last : Nat) : Array CpInfo := ⟨poolList es last⟩
def fileOf (pool : Array CpInfo) (this : Nat) (attrs : Array Attribute := #[]) (ms : Array MethodInfo := #[]) (fl : Nat := 33) (sup : Nat := 0) (ifs : Array Nat := #[]) (fds : Array FieldInfo := #[]) : ClassFile where
  minorVersion := 0
  majorVersion := 65
  constantPool := pool
  accessFlags := fl
  thisClass := this
  superClass := sup
  interfaces := ifs
  fields := fds
  methods := ms
  attributes := attrs
def plain (name : String) (sup : Option ClassId) : Class where
  name := name
  kind := .ordinary
  loader := none
  accessFlags := 33
  super := sup
  interfaces := #[]
  cf := none
  fields := #[]
  methods := #[]
  instanceTypes := #[]
  staticTypes := #[]
  resolved := #[]
  callSites := []
  init := .initialized
  statics := none
  mirror := none

def pool0 : Array CpInfo := pool [(5, u "<init>"), (0, u "()V"), (1, .class_ 10), (1, u "java/lang/Object")] 113

def k0c0 : Code := { maxStack := 0, maxLocals := 1, code := object_method_1_code, exceptionTable := #[], attributes := #[] }
def k0m0 : Method := { name := "<init>", desc := "()V", sig := { parameters := [], returnType := none }, accessFlags := 1, code := some k0c0 }
/-- java/lang/Object -/
def k0 : Class := { plain "java/lang/Object" none with
  accessFlags := 33
  interfaces := #[]
  cf := some (fileOf pool0 8 #[] #[{ accessFlags := 1, nameIndex := 5, descriptorIndex := 6, attributes := #[] }] 33 0 #[] #[])
  fields := #[]
  methods := #[k0m0]
  instanceTypes := #[]
  staticTypes := #[]
  resolved := Array.replicate 124 none
  statics := none }

def pool1 : Array CpInfo := pool [(2, .class_ 4), (0, .nameAndType 5 6), (0, u "java/lang/Object"), (0, u "<init>"), (0, u "()V"), (0, .integer 65535), (0, .class_ 9), (0, u "java/util/ArrayList"), (0, .methodref 8 3), (0, .class_ 12), (0, u "com/example/wakeline/wakeline/trajectory/Point"), (0, .methodref 14 15), (0, .class_ 16), (0, .nameAndType 17 18), (0, u "com/example/wakeline/wakeline/similarity/CoordinatesSquaredDistancePinLaw"), (0, u "lonQ"), (0, u "(I)I"), (0, .double 4616189618054758400), (1, .methodref 14 22), (0, .nameAndType 23 18), (0, u "latQ"), (0, .methodref 11 25), (0, .nameAndType 5 26), (0, u "(DDJ)V"), (0, .methodref 8 28), (0, .nameAndType 29 30), (0, u "add"), (0, u "(Ljava/lang/Object;)Z"), (0, .class_ 32), (0, u "com/example/wakeline/wakeline/similarity/Coordinates"), (0, .methodref 31 34), (0, .nameAndType 5 35), (0, u "(Ljava/util/List;)V"), (0, .methodref 31 37), (0, .nameAndType 38 39), (0, u "squaredDistance"), (0, u "(ILcom/example/wakeline/wakeline/similarity/Coordinates;I)D"), (0, .double 4625196817309499392), (3, u "law"), (0, u "(IIIII)Z")] 3

def k1m0 : Method := { name := "<init>", desc := "()V", sig := { parameters := [], returnType := none }, accessFlags := 2, code := none }
def k1c1 : Code := { maxStack := 2, maxLocals := 1, code := method_2_code, exceptionTable := #[], attributes := #[] }
def k1m1 : Method := { name := "lonQ", desc := "(I)I", sig := { parameters := [.int], returnType := some .int }, accessFlags := 10, code := some k1c1 }
def k1c2 : Code := { maxStack := 2, maxLocals := 1, code := method_3_code, exceptionTable := #[], attributes := #[] }
def k1m2 : Method := { name := "latQ", desc := "(I)I", sig := { parameters := [.int], returnType := some .int }, accessFlags := 10, code := some k1c2 }
def k1c3 : Code := { maxStack := 9, maxLocals := 25, code := code, exceptionTable := #[], attributes := #[] }
def k1m3 : Method := { name := "law", desc := "(IIIII)Z", sig := { parameters := [.int, .int, .int, .int, .int], returnType := some .boolean }, accessFlags := 9, code := some k1c3 }
/-- com/example/wakeline/wakeline/similarity/CoordinatesSquaredDistancePinLaw -/
def k1 : Class := { plain "com/example/wakeline/wakeline/similarity/CoordinatesSquaredDistancePinLaw" (some 0) with
  accessFlags := 49
  interfaces := #[]
  cf := some (fileOf pool1 14 #[] #[{ accessFlags := 2, nameIndex := 5, descriptorIndex := 6, attributes := #[] }, { accessFlags := 10, nameIndex := 17, descriptorIndex := 18, attributes := #[] }, { accessFlags := 10, nameIndex := 23, descriptorIndex := 18, attributes := #[] }, { accessFlags := 9, nameIndex := 44, descriptorIndex := 45, attributes := #[] }] 49 2 #[] #[])
  fields := #[]
  methods := #[k1m0, k1m1, k1m2, k1m3]
  instanceTypes := #[]
  staticTypes := #[]
  resolved := Array.replicate 49 none
  statics := none }

def pool2 : Array CpInfo := pool [(8, .class_ 10), (1, u "java/lang/Iterable"), (24, .class_ 36), (0, u "java/lang/Object")] 25

/-- java/lang/Iterable -/
def k2 : Class := { plain "java/lang/Iterable" (some 0) with
  accessFlags := 1537
  interfaces := #[]
  cf := some (fileOf pool2 8 #[] #[] 1537 35 #[] #[])
  fields := #[]
  methods := #[]
  instanceTypes := #[]
  staticTypes := #[]
  resolved := Array.replicate 62 none
  statics := none }

def pool3 : Array CpInfo := pool [(10, .class_ 12), (1, u "java/util/Collection"), (47, .class_ 61), (0, u "java/lang/Object"), (0, .class_ 63), (0, u "java/lang/Iterable")] 51

/-- java/util/Collection -/
def k3 : Class := { plain "java/util/Collection" (some 0) with
  accessFlags := 1537
  interfaces := #[2]
  cf := some (fileOf pool3 10 #[] #[] 1537 60 #[62] #[])
  fields := #[]
  methods := #[]
  instanceTypes := #[]
  staticTypes := #[]
  resolved := Array.replicate 115 none
  statics := none }

def pool4 : Array CpInfo := pool [(1, .methodref 2 3), (0, .class_ 4), (0, .nameAndType 5 6), (0, u "java/lang/Object"), (0, u "<init>"), (0, u "()V"), (1, .class_ 10), (1, u "java/util/AbstractCollection"), (66, .class_ 78), (0, u "java/util/Collection")] 81

def k4c0 : Code := { maxStack := 1, maxLocals := 1, code := jdk_22_method_1_code, exceptionTable := #[], attributes := #[] }
def k4m0 : Method := { name := "<init>", desc := "()V", sig := { parameters := [], returnType := none }, accessFlags := 4, code := some k4c0 }
/-- java/util/AbstractCollection -/
def k4 : Class := { plain "java/util/AbstractCollection" (some 0) with
  accessFlags := 1057
  interfaces := #[3]
  cf := some (fileOf pool4 8 #[] #[{ accessFlags := 4, nameIndex := 5, descriptorIndex := 6, attributes := #[] }] 1057 2 #[77] #[])
  fields := #[]
  methods := #[k4m0]
  instanceTypes := #[]
  staticTypes := #[]
  resolved := Array.replicate 160 none
  statics := none }

def pool5 : Array CpInfo := pool [(8, .class_ 10), (1, u "java/util/SequencedCollection"), (15, .class_ 27), (0, u "java/lang/Object"), (0, .class_ 29), (0, u "java/util/Collection")] 27

/-- java/util/SequencedCollection -/
def k5 : Class := { plain "java/util/SequencedCollection" (some 0) with
  accessFlags := 1537
  interfaces := #[3]
  cf := some (fileOf pool5 8 #[] #[] 1537 26 #[28] #[])
  fields := #[]
  methods := #[]
  instanceTypes := #[]
  staticTypes := #[]
  resolved := Array.replicate 57 none
  statics := none }

def pool6 : Array CpInfo := pool [(8, .class_ 10), (1, u "java/util/List"), (64, u "get"), (0, u "(I)Ljava/lang/Object;"), (2, u "size"), (0, u "()I"), (22, .class_ 104), (0, u "java/lang/Object"), (15, .class_ 121), (0, u "java/util/SequencedCollection")] 129

def k6m0 : Method := { name := "size", desc := "()I", sig := { parameters := [], returnType := some .int }, accessFlags := 1025, code := none }
def k6m1 : Method := { name := "get", desc := "(I)Ljava/lang/Object;", sig := { parameters := [.int], returnType := some (.object "java/lang/Object") }, accessFlags := 1025, code := none }
/-- java/util/List -/
def k6 : Class := { plain "java/util/List" (some 0) with
  accessFlags := 1537
  interfaces := #[5]
  cf := some (fileOf pool6 8 #[] #[{ accessFlags := 1025, nameIndex := 79, descriptorIndex := 80, attributes := #[] }, { accessFlags := 1025, nameIndex := 75, descriptorIndex := 76, attributes := #[] }] 1537 103 #[120] #[])
  fields := #[]
  methods := #[k6m0, k6m1]
  instanceTypes := #[]
  staticTypes := #[]
  resolved := Array.replicate 251 none
  statics := none }

def pool7 : Array CpInfo := pool [(1, .methodref 2 3), (0, .class_ 4), (0, .nameAndType 5 6), (0, u "java/util/AbstractCollection"), (0, u "<init>"), (0, u "()V"), (0, .fieldref 8 9), (0, .class_ 10), (0, .nameAndType 11 12), (0, u "java/util/AbstractList"), (0, u "modCount"), (0, u "I"), (64, .class_ 78), (0, u "java/util/AbstractList$Itr"), (3, .class_ 83), (0, u "java/util/AbstractList$ListItr"), (9, .class_ 94), (0, u "java/util/AbstractList$RandomAccessSubList"), (3, .class_ 99), (0, u "java/util/AbstractList$SubList"), (33, .class_ 134), (0, u "java/util/List"), (73, .class_ 209), (0, u "java/util/AbstractList$SubList$1"), (0, .class_ 211), (0, u "java/util/AbstractList$RandomAccessSpliterator")] 6

def k7c0 : Code := { maxStack := 2, maxLocals := 1, code := jdk_39_method_1_code, exceptionTable := #[], attributes := #[] }
def k7m0 : Method := { name := "<init>", desc := "()V", sig := { parameters := [], returnType := none }, accessFlags := 4, code := some k7c0 }
/-- java/util/AbstractList -/
def k7 : Class := { plain "java/util/AbstractList" (some 4) with
  accessFlags := 1057
  interfaces := #[6]
  cf := some (fileOf pool7 8 #[.nestMembers #[93, 98, 208, 210, 82, 77]] #[{ accessFlags := 4, nameIndex := 5, descriptorIndex := 6, attributes := #[] }] 1057 2 #[133] #[{ accessFlags := 132, nameIndex := 11, descriptorIndex := 12, attributes := #[] }])
  fields := #[{ name := "modCount", type := .int, accessFlags := 132, slot := 0, constantValue := 0 }]
  methods := #[k7m0]
  instanceTypes := #[.int]
  staticTypes := #[]
  resolved := Array.replicate 218 none
  statics := none }

def pool8 : Array CpInfo := pool [(1, .class_ 2), (0, u "java/util/RandomAccess"), (0, .class_ 4), (0, u "java/lang/Object")] 2

/-- java/util/RandomAccess -/
def k8 : Class := { plain "java/util/RandomAccess" (some 0) with
  accessFlags := 1537
  interfaces := #[]
  cf := some (fileOf pool8 1 #[] #[] 1537 3 #[] #[])
  fields := #[]
  methods := #[]
  instanceTypes := #[]
  staticTypes := #[]
  resolved := Array.replicate 7 none
  statics := none }

def pool9 : Array CpInfo := pool [(1, .class_ 2), (0, u "java/lang/Cloneable"), (0, .class_ 4), (0, u "java/lang/Object")] 2

/-- java/lang/Cloneable -/
def k9 : Class := { plain "java/lang/Cloneable" (some 0) with
  accessFlags := 1537
  interfaces := #[]
  cf := some (fileOf pool9 1 #[] #[] 1537 3 #[] #[])
  fields := #[]
  methods := #[]
  instanceTypes := #[]
  staticTypes := #[]
  resolved := Array.replicate 7 none
  statics := none }

def pool10 : Array CpInfo := pool [(1, .class_ 2), (0, u "java/io/Serializable"), (0, .class_ 4), (0, u "java/lang/Object")] 2

/-- java/io/Serializable -/
def k10 : Class := { plain "java/io/Serializable" (some 0) with
  accessFlags := 1537
  interfaces := #[]
  cf := some (fileOf pool10 1 #[] #[] 1537 3 #[] #[])
  fields := #[]
  methods := #[]
  instanceTypes := #[]
  staticTypes := #[]
  resolved := Array.replicate 7 none
  statics := none }

def pool11 : Array CpInfo := pool [(1, .methodref 2 3), (0, .class_ 4), (0, .nameAndType 5 6), (0, u "java/util/AbstractList"), (0, u "<init>"), (0, u "()V"), (0, .class_ 8), (0, u "java/lang/Object"), (0, .fieldref 10 11), (0, .class_ 12), (0, .nameAndType 13 14), (0, u "java/util/ArrayList"), (0, u "elementData"), (0, u "[Ljava/lang/Object;"), (2, u "EMPTY_ELEMENTDATA"), (21, .fieldref 10 40), (0, .nameAndType 41 14), (0, u "DEFAULTCAPACITY_EMPTY_ELEMENTDATA"), (5, u "()[Ljava/lang/Object;"), (0, .fieldref 10 49), (0, .nameAndType 50 51), (0, u "size"), (0, u "I"), (11, .fieldref 10 64), (0, .nameAndType 65 51), (0, u "modCount"), (3, .methodref 10 70), (0, .nameAndType 71 72), (0, u "grow"), (0, u "(I)[Ljava/lang/Object;"), (6, .methodref 80 81), (0, .class_ 82), (0, .nameAndType 83 84), (0, u "java/lang/Math"), (0, u "max"), (0, u "(II)I"), (11, u "(Ljava/lang/Object;)Z"), (21, .methodref 119 120), (0, .class_ 121), (0, .nameAndType 122 84), (0, u "java/util/Objects"), (0, u "checkIndex"), (0, .methodref 10 124), (0, .nameAndType 13 125), (0, u "(I)Ljava/lang/Object;"), (3, .methodref 10 130), (0, .nameAndType 71 47), (0, .methodref 10 132), (0, .nameAndType 133 134), (0, u "add"), (0, u "(Ljava/lang/Object;[Ljava/lang/Object;I)V"), (13, .class_ 149), (0, u "java/util/List"), (36, u "()I"), (75, .class_ 263), (0, u "java/util/ArrayList$ListItr"), (3, .class_ 268), (0, u "java/util/ArrayList$Itr"), (7, .class_ 277), (0, u "java/util/ArrayList$SubList"), (12, .class_ 291), (0, u "java/util/ArrayList$ArrayListSpliterator"), (37, .class_ 330), (0, u "java/util/RandomAccess"), (0, .class_ 332), (0, u "java/lang/Cloneable"), (0, .class_ 334), (0, u "java/io/Serializable"), (0, u "serialVersionUID"), (0, u "J"), (3, u "DEFAULT_CAPACITY"), (40, u "get"), (118, .class_ 501), (0, u "java/util/ArrayList$SubList$2"), (0, .class_ 503), (0, u "java/util/ArrayList$SubList$1")] 5

def k11c0 : Code := { maxStack := 2, maxLocals := 1, code := jdk_38_method_2_code, exceptionTable := #[], attributes := #[] }
def k11m0 : Method := { name := "<init>", desc := "()V", sig := { parameters := [], returnType := none }, accessFlags := 1, code := some k11c0 }
def k11c1 : Code := { maxStack := 4, maxLocals := 4, code := jdk_38_method_6_code, exceptionTable := #[], attributes := #[] }
def k11m1 : Method := { name := "grow", desc := "(I)[Ljava/lang/Object;", sig := { parameters := [.int], returnType := some (.array (.object "java/lang/Object")) }, accessFlags := 2, code := some k11c1 }
def k11c2 : Code := { maxStack := 3, maxLocals := 1, code := jdk_38_method_7_code, exceptionTable := #[], attributes := #[] }
def k11m2 : Method := { name := "grow", desc := "()[Ljava/lang/Object;", sig := { parameters := [], returnType := some (.array (.object "java/lang/Object")) }, accessFlags := 2, code := some k11c2 }
def k11c3 : Code := { maxStack := 1, maxLocals := 1, code := jdk_38_method_8_code, exceptionTable := #[], attributes := #[] }
def k11m3 : Method := { name := "size", desc := "()I", sig := { parameters := [], returnType := some .int }, accessFlags := 1, code := some k11c3 }
def k11c4 : Code := { maxStack := 2, maxLocals := 2, code := jdk_38_method_18_code, exceptionTable := #[], attributes := #[] }
def k11m4 : Method := { name := "elementData", desc := "(I)Ljava/lang/Object;", sig := { parameters := [.int], returnType := some (.object "java/lang/Object") }, accessFlags := 0, code := some k11c4 }
def k11c5 : Code := { maxStack := 2, maxLocals := 2, code := jdk_38_method_20_code, exceptionTable := #[], attributes := #[] }
def k11m5 : Method := { name := "get", desc := "(I)Ljava/lang/Object;", sig := { parameters := [.int], returnType := some (.object "java/lang/Object") }, accessFlags := 1, code := some k11c5 }
def k11c6 : Code := { maxStack := 3, maxLocals := 4, code := jdk_38_method_24_code, exceptionTable := #[], attributes := #[] }
def k11m6 : Method := { name := "add", desc := "(Ljava/lang/Object;[Ljava/lang/Object;I)V", sig := { parameters := [(.object "java/lang/Object"), (.array (.object "java/lang/Object")), .int], returnType := none }, accessFlags := 2, code := some k11c6 }
def k11c7 : Code := { maxStack := 4, maxLocals := 2, code := jdk_38_method_25_code, exceptionTable := #[], attributes := #[] }
def k11m7 : Method := { name := "add", desc := "(Ljava/lang/Object;)Z", sig := { parameters := [(.object "java/lang/Object")], returnType := some .boolean }, accessFlags := 1, code := some k11c7 }
/-- java/util/ArrayList -/
def k11 : Class := { plain "java/util/ArrayList" (some 7) with
  accessFlags := 33
  interfaces := #[6, 8, 9, 10]
  cf := some (fileOf pool11 10 #[.nestMembers #[290, 276, 500, 502, 262, 267]] #[{ accessFlags := 1, nameIndex := 5, descriptorIndex := 6, attributes := #[] }, { accessFlags := 2, nameIndex := 71, descriptorIndex := 72, attributes := #[] }, { accessFlags := 2, nameIndex := 71, descriptorIndex := 47, attributes := #[] }, { accessFlags := 1, nameIndex := 50, descriptorIndex := 186, attributes := #[] }, { accessFlags := 0, nameIndex := 13, descriptorIndex := 125, attributes := #[] }, { accessFlags := 1, nameIndex := 381, descriptorIndex := 125, attributes := #[] }, { accessFlags := 2, nameIndex := 133, descriptorIndex := 134, attributes := #[] }, { accessFlags := 1, nameIndex := 133, descriptorIndex := 96, attributes := #[] }] 33 2 #[148, 329, 331, 333] #[{ accessFlags := 26, nameIndex := 335, descriptorIndex := 336, attributes := #[] }, { accessFlags := 26, nameIndex := 340, descriptorIndex := 51, attributes := #[] }, { accessFlags := 26, nameIndex := 17, descriptorIndex := 14, attributes := #[] }, { accessFlags := 26, nameIndex := 41, descriptorIndex := 14, attributes := #[] }, { accessFlags := 128, nameIndex := 13, descriptorIndex := 14, attributes := #[] }, { accessFlags := 2, nameIndex := 50, descriptorIndex := 51, attributes := #[] }])
  fields := #[{ name := "serialVersionUID", type := .long, accessFlags := 26, slot := 0, constantValue := 0 }, { name := "DEFAULT_CAPACITY", type := .int, accessFlags := 26, slot := 1, constantValue := 0 }, { name := "EMPTY_ELEMENTDATA", type := (.array (.object "java/lang/Object")), accessFlags := 26, slot := 2, constantValue := 0 }, { name := "DEFAULTCAPACITY_EMPTY_ELEMENTDATA", type := (.array (.object "java/lang/Object")), accessFlags := 26, slot := 3, constantValue := 0 }, { name := "elementData", type := (.array (.object "java/lang/Object")), accessFlags := 128, slot := 1, constantValue := 0 }, { name := "size", type := .int, accessFlags := 2, slot := 2, constantValue := 0 }]
  methods := #[k11m0, k11m1, k11m2, k11m3, k11m4, k11m5, k11m6, k11m7]
  instanceTypes := #[.int, (.array (.object "java/lang/Object")), .int]
  staticTypes := #[.long, .int, (.array (.object "java/lang/Object")), (.array (.object "java/lang/Object"))]
  resolved := Array.replicate 509 none
  statics := some 0 }

def pool12 : Array CpInfo := pool [(1, .methodref 2 3), (0, .class_ 4), (0, .nameAndType 5 6), (0, u "java/lang/Object"), (0, u "<init>"), (0, u "()V"), (0, .class_ 8), (0, u "java/lang/Record")] 13

def k12c0 : Code := { maxStack := 1, maxLocals := 1, code := jdk_30_method_1_code, exceptionTable := #[], attributes := #[] }
def k12m0 : Method := { name := "<init>", desc := "()V", sig := { parameters := [], returnType := none }, accessFlags := 4, code := some k12c0 }
/-- java/lang/Record -/
def k12 : Class := { plain "java/lang/Record" (some 0) with
  accessFlags := 1057
  interfaces := #[]
  cf := some (fileOf pool12 7 #[] #[{ accessFlags := 4, nameIndex := 5, descriptorIndex := 6, attributes := #[] }] 1057 2 #[] #[])
  fields := #[]
  methods := #[k12m0]
  instanceTypes := #[]
  staticTypes := #[]
  resolved := Array.replicate 22 none
  statics := none }

def pool13 : Array CpInfo := pool [(1, .methodref 2 3), (0, .class_ 4), (0, .nameAndType 5 6), (0, u "java/lang/Record"), (0, u "<init>"), (0, u "()V"), (0, .double 13863909240395005952), (1, .double 4640537203540230144), (16, .double 13859405640767635456), (1, .double 4636033603912859648), (2, .fieldref 32 33), (0, .class_ 34), (0, .nameAndType 35 36), (0, u "com/example/wakeline/wakeline/trajectory/Point"), (0, u "longitude"), (0, u "D"), (0, .fieldref 32 38), (0, .nameAndType 39 36), (0, u "latitude"), (0, .fieldref 32 41), (0, .nameAndType 42 43), (0, u "epochMilli"), (0, u "J"), (18, u "(DDJ)V"), (9, u "()D")] 33

def k13c0 : Code := { maxStack := 4, maxLocals := 7, code := prog_65_method_1_code, exceptionTable := #[], attributes := #[] }
def k13m0 : Method := { name := "<init>", desc := "(DDJ)V", sig := { parameters := [.double, .double, .long], returnType := none }, accessFlags := 1, code := some k13c0 }
def k13c1 : Code := { maxStack := 2, maxLocals := 1, code := prog_65_method_6_code, exceptionTable := #[], attributes := #[] }
def k13m1 : Method := { name := "longitude", desc := "()D", sig := { parameters := [], returnType := some .double }, accessFlags := 1, code := some k13c1 }
def k13c2 : Code := { maxStack := 2, maxLocals := 1, code := prog_65_method_7_code, exceptionTable := #[], attributes := #[] }
def k13m2 : Method := { name := "latitude", desc := "()D", sig := { parameters := [], returnType := some .double }, accessFlags := 1, code := some k13c2 }
/-- com/example/wakeline/wakeline/trajectory/Point -/
def k13 : Class := { plain "com/example/wakeline/wakeline/trajectory/Point" (some 12) with
  accessFlags := 49
  interfaces := #[]
  cf := some (fileOf pool13 32 #[] #[{ accessFlags := 1, nameIndex := 5, descriptorIndex := 62, attributes := #[] }, { accessFlags := 1, nameIndex := 35, descriptorIndex := 72, attributes := #[] }, { accessFlags := 1, nameIndex := 39, descriptorIndex := 72, attributes := #[] }] 49 2 #[] #[{ accessFlags := 18, nameIndex := 35, descriptorIndex := 36, attributes := #[] }, { accessFlags := 18, nameIndex := 39, descriptorIndex := 36, attributes := #[] }, { accessFlags := 18, nameIndex := 42, descriptorIndex := 43, attributes := #[] }])
  fields := #[{ name := "longitude", type := .double, accessFlags := 18, slot := 0, constantValue := 0 }, { name := "latitude", type := .double, accessFlags := 18, slot := 1, constantValue := 0 }, { name := "epochMilli", type := .long, accessFlags := 18, slot := 2, constantValue := 0 }]
  methods := #[k13m0, k13m1, k13m2]
  instanceTypes := #[.double, .double, .long]
  staticTypes := #[]
  resolved := Array.replicate 106 none
  statics := none }

def pool14 : Array CpInfo := pool [(1, .class_ 2), (0, u "java/lang/Math"), (1, .class_ 6), (1, u "java/lang/Object"), (0, u "<init>"), (0, u "()V"), (89, .class_ 100), (1, u "java/lang/Math$RandomNumberGeneratorHolder"), (71, u "negativeZeroFloatBits"), (0, u "J"), (2, u "negativeZeroDoubleBits"), (21, u "max"), (46, u "$assertionsDisabled"), (0, u "Z"), (88, u "(II)I"), (2, u "twoToTheDoubleScaleDown"), (0, u "D"), (4, u "twoToTheDoubleScaleUp"), (9, u "E"), (3, u "PI"), (2, u "TAU"), (2, u "DEGREES_TO_RADIANS"), (0, u "RADIANS_TO_DEGREES")] 94

def k14m0 : Method := { name := "<init>", desc := "()V", sig := { parameters := [], returnType := none }, accessFlags := 2, code := none }
def k14c1 : Code := { maxStack := 2, maxLocals := 2, code := jdk_29_method_65_code, exceptionTable := #[], attributes := #[] }
def k14m1 : Method := { name := "max", desc := "(II)I", sig := { parameters := [.int, .int], returnType := some .int }, accessFlags := 9, code := some k14c1 }
/-- java/lang/Math -/
def k14 : Class := { plain "java/lang/Math" (some 0) with
  accessFlags := 49
  interfaces := #[]
  cf := some (fileOf pool14 1 #[.nestMembers #[98]] #[{ accessFlags := 2, nameIndex := 7, descriptorIndex := 8, attributes := #[] }, { accessFlags := 9, nameIndex := 198, descriptorIndex := 335, attributes := #[] }] 49 4 #[] #[{ accessFlags := 25, nameIndex := 354, descriptorIndex := 339, attributes := #[] }, { accessFlags := 25, nameIndex := 358, descriptorIndex := 339, attributes := #[] }, { accessFlags := 25, nameIndex := 361, descriptorIndex := 339, attributes := #[] }, { accessFlags := 26, nameIndex := 364, descriptorIndex := 339, attributes := #[] }, { accessFlags := 26, nameIndex := 365, descriptorIndex := 339, attributes := #[] }, { accessFlags := 26, nameIndex := 172, descriptorIndex := 173, attributes := #[] }, { accessFlags := 26, nameIndex := 176, descriptorIndex := 173, attributes := #[] }, { accessFlags := 8, nameIndex := 344, descriptorIndex := 339, attributes := #[] }, { accessFlags := 8, nameIndex := 338, descriptorIndex := 339, attributes := #[] }, { accessFlags := 4120, nameIndex := 245, descriptorIndex := 246, attributes := #[] }])
  fields := #[{ name := "E", type := .double, accessFlags := 25, slot := 0, constantValue := 0 }, { name := "PI", type := .double, accessFlags := 25, slot := 1, constantValue := 0 }, { name := "TAU", type := .double, accessFlags := 25, slot := 2, constantValue := 0 }, { name := "DEGREES_TO_RADIANS", type := .double, accessFlags := 26, slot := 3, constantValue := 0 }, { name := "RADIANS_TO_DEGREES", type := .double, accessFlags := 26, slot := 4, constantValue := 0 }, { name := "negativeZeroFloatBits", type := .long, accessFlags := 26, slot := 5, constantValue := 0 }, { name := "negativeZeroDoubleBits", type := .long, accessFlags := 26, slot := 6, constantValue := 0 }, { name := "twoToTheDoubleScaleUp", type := .double, accessFlags := 8, slot := 7, constantValue := 0 }, { name := "twoToTheDoubleScaleDown", type := .double, accessFlags := 8, slot := 8, constantValue := 0 }, { name := "$assertionsDisabled", type := .boolean, accessFlags := 4120, slot := 9, constantValue := 0 }]
  methods := #[k14m0, k14m1]
  instanceTypes := #[]
  staticTypes := #[.double, .double, .double, .double, .double, .long, .long, .double, .double, .boolean]
  resolved := Array.replicate 460 none
  statics := none }

def pool15 : Array CpInfo := pool [(1, .methodref 2 3), (0, .class_ 4), (0, .nameAndType 5 6), (0, u "java/lang/Object"), (0, u "<init>"), (0, u "()V"), (0, .interfaceMethodref 8 9), (0, .class_ 10), (0, .nameAndType 11 12), (0, u "java/util/List"), (0, u "size"), (0, u "()I"), (0, .fieldref 14 15), (0, .class_ 16), (0, .nameAndType 17 18), (0, u "com/example/wakeline/wakeline/similarity/Coordinates"), (0, u "longitudes"), (0, u "[D"), (0, .fieldref 14 20), (0, .nameAndType 21 18), (0, u "latitudes"), (0, .interfaceMethodref 8 23), (0, .nameAndType 24 25), (0, u "get"), (0, u "(I)Ljava/lang/Object;"), (0, .class_ 27), (0, u "com/example/wakeline/wakeline/trajectory/Point"), (0, .methodref 26 29), (0, .nameAndType 30 31), (0, u "longitude"), (0, u "()D"), (0, .methodref 26 33), (0, .nameAndType 34 31), (0, u "latitude"), (0, u "(Ljava/util/List;)V"), (6, u "squaredDistance"), (0, u "(ILcom/example/wakeline/wakeline/similarity/Coordinates;I)D")] 2

def k15c0 : Code := { maxStack := 4, maxLocals := 3, code := prog_36_method_1_code, exceptionTable := #[], attributes := #[] }
def k15m0 : Method := { name := "<init>", desc := "(Ljava/util/List;)V", sig := { parameters := [(.object "java/util/List")], returnType := none }, accessFlags := 0, code := some k15c0 }
def k15c1 : Code := { maxStack := 6, maxLocals := 8, code := prog_36_method_5_code, exceptionTable := #[], attributes := #[] }
def k15m1 : Method := { name := "squaredDistance", desc := "(ILcom/example/wakeline/wakeline/similarity/Coordinates;I)D", sig := { parameters := [.int, (.object "com/example/wakeline/wakeline/similarity/Coordinates"), .int], returnType := some .double }, accessFlags := 0, code := some k15c1 }
/-- com/example/wakeline/wakeline/similarity/Coordinates -/
def k15 : Class := { plain "com/example/wakeline/wakeline/similarity/Coordinates" (some 0) with
  accessFlags := 48
  interfaces := #[]
  cf := some (fileOf pool15 14 #[] #[{ accessFlags := 0, nameIndex := 5, descriptorIndex := 35, attributes := #[] }, { accessFlags := 0, nameIndex := 42, descriptorIndex := 43, attributes := #[] }] 48 2 #[] #[{ accessFlags := 18, nameIndex := 17, descriptorIndex := 18, attributes := #[] }, { accessFlags := 18, nameIndex := 21, descriptorIndex := 18, attributes := #[] }])
  fields := #[{ name := "longitudes", type := (.array .double), accessFlags := 18, slot := 0, constantValue := 0 }, { name := "latitudes", type := (.array .double), accessFlags := 18, slot := 1, constantValue := 0 }]
  methods := #[k15m0, k15m1]
  instanceTypes := #[(.array .double), (.array .double)]
  staticTypes := #[]
  resolved := Array.replicate 46 none
  statics := none }

def pool16 : Array CpInfo := pool [(2, .class_ 4), (1, u "java/lang/Object"), (0, u "<init>"), (0, u "()V"), (35, .class_ 44), (1, u "java/util/Objects"), (60, .methodref 106 107), (0, .class_ 108), (0, .nameAndType 109 110), (0, u "jdk/internal/util/Preconditions"), (0, u "checkIndex"), (0, u "(IILjava/util/function/BiFunction;)I"), (60, u "(II)I")] 12

def k16m0 : Method := { name := "<init>", desc := "()V", sig := { parameters := [], returnType := none }, accessFlags := 2, code := none }
def k16c1 : Code := { maxStack := 3, maxLocals := 2, code := jdk_31_method_17_code, exceptionTable := #[], attributes := #[] }
def k16m1 : Method := { name := "checkIndex", desc := "(II)I", sig := { parameters := [.int, .int], returnType := some .int }, accessFlags := 9, code := some k16c1 }
/-- java/util/Objects -/
def k16 : Class := { plain "java/util/Objects" (some 0) with
  accessFlags := 49
  interfaces := #[]
  cf := some (fileOf pool16 42 #[] #[{ accessFlags := 2, nameIndex := 5, descriptorIndex := 6, attributes := #[] }, { accessFlags := 9, nameIndex := 109, descriptorIndex := 171, attributes := #[] }] 49 2 #[] #[])
  fields := #[]
  methods := #[k16m0, k16m1]
  instanceTypes := #[]
  staticTypes := #[]
  resolved := Array.replicate 184 none
  statics := none }

def pool17 : Array CpInfo := pool [(2, .class_ 4), (1, u "java/lang/Object"), (0, u "<init>"), (0, u "()V"), (17, .class_ 26), (1, u "jdk/internal/util/Preconditions"), (6, u "checkIndex"), (21, .class_ 56), (0, u "jdk/internal/util/Preconditions$4"), (57, .class_ 115), (0, u "jdk/internal/util/Preconditions$1"), (7, u "SIOOBE_FORMATTER"), (0, u "Ljava/util/function/BiFunction;"), (0, .class_ 126), (0, u "jdk/internal/util/Preconditions$2"), (3, u "AIOOBE_FORMATTER"), (0, .class_ 132), (0, u "jdk/internal/util/Preconditions$3"), (3, u "IOOBE_FORMATTER"), (41, u "(IILjava/util/function/BiFunction;)I")] 15

def k17m0 : Method := { name := "<init>", desc := "()V", sig := { parameters := [], returnType := none }, accessFlags := 1, code := none }
def k17c1 : Code := { maxStack := 3, maxLocals := 3, code := jdk_41_method_11_code, exceptionTable := #[], attributes := #[] }
def k17m1 : Method := { name := "checkIndex", desc := "(IILjava/util/function/BiFunction;)I", sig := { parameters := [.int, .int, (.object "java/util/function/BiFunction")], returnType := some .int }, accessFlags := 9, code := some k17c1 }
/-- jdk/internal/util/Preconditions -/
def k17 : Class := { plain "jdk/internal/util/Preconditions" (some 0) with
  accessFlags := 33
  interfaces := #[]
  cf := some (fileOf pool17 24 #[.nestMembers #[55, 131, 125, 114]] #[{ accessFlags := 1, nameIndex := 5, descriptorIndex := 6, attributes := #[] }, { accessFlags := 9, nameIndex := 33, descriptorIndex := 178, attributes := #[] }] 33 2 #[] #[{ accessFlags := 25, nameIndex := 123, descriptorIndex := 124, attributes := #[] }, { accessFlags := 25, nameIndex := 130, descriptorIndex := 124, attributes := #[] }, { accessFlags := 25, nameIndex := 136, descriptorIndex := 124, attributes := #[] }])
  fields := #[{ name := "SIOOBE_FORMATTER", type := (.object "java/util/function/BiFunction"), accessFlags := 25, slot := 0, constantValue := 0 }, { name := "AIOOBE_FORMATTER", type := (.object "java/util/function/BiFunction"), accessFlags := 25, slot := 1, constantValue := 0 }, { name := "IOOBE_FORMATTER", type := (.object "java/util/function/BiFunction"), accessFlags := 25, slot := 2, constantValue := 0 }]
  methods := #[k17m0, k17m1]
  instanceTypes := #[]
  staticTypes := #[(.object "java/util/function/BiFunction"), (.object "java/util/function/BiFunction"), (.object "java/util/function/BiFunction")]
  resolved := Array.replicate 194 none
  statics := none }

/-- the primitive byte -/
def k18 : Class := { plain "byte" none with kind := .primitive 'B', accessFlags := 0x411 }
/-- [B -/
def k19 : Class := { plain "[B" (some 0) with kind := .array 18 .byte, interfaces := #[9, 10], accessFlags := 1041 }

/-- the primitive double -/
def k20 : Class := { plain "double" none with kind := .primitive 'D', accessFlags := 0x411 }
/-- [D -/
def k21 : Class := { plain "[D" (some 0) with kind := .array 20 .double, interfaces := #[9, 10], accessFlags := 1041 }

/-- the primitive int -/
def k22 : Class := { plain "int" none with kind := .primitive 'I', accessFlags := 0x411 }
/-- [I -/
def k23 : Class := { plain "[I" (some 0) with kind := .array 22 .int, interfaces := #[9, 10], accessFlags := 1041 }

/-- [Ljava/lang/Object; -/
def k24 : Class := { plain "[Ljava/lang/Object;" (some 0) with kind := .array 0 (.object "java/lang/Object"), interfaces := #[9, 10], accessFlags := 1041 }

def heap : Heap := #[{ cls := 11, slots := #[.long 0, .int 0, .ref 1, .ref 2], vm := .statics 11 },
  { cls := 24, slots := #[], vm := .none },
  { cls := 24, slots := #[], vm := .none }]
def classes : Array Class := #[k0, k1, k2, k3, k4, k5, k6, k7, k8, k9, k10, k11, k12, k13, k14, k15, k16, k17, k18, k19, k20, k21, k22, k23, k24]
def interned : List (Array UInt16 × Addr) := []
def slotsUsed : Nat := 4
def theMethod : MethodId := ⟨1, 3⟩
def args0 : Array Value := #[.int 1, .int 2, .int 3, .int 4, .int 0]
def aboutOver (below : List Frame) : State where
  vm := { classes := classes, interned := interned.toArray }
  heap := heap
  slotsUsed := slotsUsed
  threads := #[{ frames := .invoking theMethod args0 :: below }]
def below0 : List Frame := [.native { method := ⟨0, 0⟩, args := #[] }]
def about1 : State := aboutOver below0
def p0 : Program := .bare "" "" ""
def e0 : Env := launch0.env 0 0 0
theorem w_frames : about1.frames = Frame.invoking theMethod args0 :: below0 := rfl
set_option maxRecDepth 65536 in
theorem w_args : argsFit about1.vm theMethod args0 = true := by decide +kernel
set_option maxRecDepth 65536 in
theorem w_heap : heapFits about1 = true := by decide +kernel
set_option maxRecDepth 65536 in
theorem w_runnable : about1.curStatus? = some .runnable := by decide +kernel
set_option maxRecDepth 65536 in
theorem w_alone : about1.alone = true := by decide +kernel
set_option maxRecDepth 65536 in
theorem w_named : about1.methodNamed? x = some theMethod := by decide +kernel
set_option maxRecDepth 65536 in
theorem w_hears : about1.hears theMethod below0 = true := by decide +kernel
set_option maxRecDepth 65536 in
theorem w_ripe : about1.ripe theMethod args0 below0 = true := by decide +kernel
theorem w_running : about1.status = .running := rfl
set_option maxRecDepth 65536 in
theorem w_room : about1.hasRoom e0.platform room_1 = true :=
  launch0.hasRoom_least _ room_1 (by decide +kernel) (by decide +kernel) (by decide +kernel) (by decide +kernel) (by decide +kernel) (by decide +kernel)
theorem allAtoms_all (ts : List Jvm.Cond) (a : Array Jvm.Value) (st : Jvm.State) : (allAtoms ts).before a st = ts.all (fun c => c.before a st) := by
  induction ts with
  | nil => rfl
  | cons c t ih =>
    show (Jvm.Cond.and c (allAtoms t)).before a st = _
    rw [Jvm.Cond.before_and, ih, List.all_cons]
def words1 : List Jvm.Cond := Jvm.Cond.code x code maxLocals ret :: tables_1
/-- a 'code' word, met by the world's own term for the bytes: nothing is compared byte by byte -/
theorem code_word {y : MethodName} {bytes : ByteArray} {mx : Nat} {rt : Option FieldType} {a : Array Value} {s : State} {m : MethodId} {meth : Method} {c : Code} (h1 : s.methodNamed? y = some m) (h2 : s.vm.method? m = some meth) (h3 : meth.code = some c) (h4 : c.code = bytes)
    (h5 : (c.maxLocals == mx && c.exceptionTable.isEmpty && decide (c.maxStack ≤ mostOperands) && decide (meth.sig.returnType = rt) && !meth.locks && decide (parseMethodDescriptor y.desc = some meth.sig)) = true) : (Jvm.Cond.code y bytes mx rt).before a s = true := by
  simp only [Bool.and_eq_true, beq_iff_eq, Bool.not_eq_true', decide_eq_true_eq] at h5
  obtain ⟨⟨⟨⟨⟨g1, g2⟩, g3⟩, g4⟩, g5⟩, g6⟩ := h5
  simp [Cond.before, Cond.holds, Cond.value, h1, h2, h3, h4, g1, g2, g3, g4, g5, g6]
def isCode : Jvm.Cond → Bool
  | .code _ _ _ _ => true
  | _ => false
theorem all_split {L : List Jvm.Cond} {P : Jvm.Cond → Bool} (h1 : L.all (fun c => isCode c || P c) = true) (h2 : ∀ c ∈ L.filter isCode, P c = true) : L.all P = true := by
  refine List.all_eq_true.mpr fun c hc => ?_
  have h := List.all_eq_true.mp h1 c hc
  rcases Bool.eq_false_or_eq_true (isCode c) with hi | hi
  · exact h2 c (List.mem_filter.mpr ⟨hc, hi⟩)
  · simpa [hi] using h
set_option maxRecDepth 65536 in
theorem w_c0 : (Jvm.Cond.code x code maxLocals ret).before args0 about1 = true := code_word (m := ⟨1, 3⟩) (meth := k1m3) (c := k1c3) (by decide +kernel) rfl rfl rfl (by decide +kernel)
set_option maxRecDepth 65536 in
theorem w_c1 : (Jvm.Cond.code ({ cls := "java/util/ArrayList", name := "<init>", desc := "()V" } : Jvm.MethodName) jdk_38_method_2_code (1 : Nat) (Option.none : Option Jvm.ClassFile.FieldType)).before args0 about1 = true := code_word (m := ⟨11, 0⟩) (meth := k11m0) (c := k11c0) (by decide +kernel) rfl rfl rfl (by decide +kernel)
set_option maxRecDepth 65536 in
theorem w_c2 : (Jvm.Cond.code ({ cls := "java/util/AbstractList", name := "<init>", desc := "()V" } : Jvm.MethodName) jdk_39_method_1_code (1 : Nat) (Option.none : Option Jvm.ClassFile.FieldType)).before args0 about1 = true := code_word (m := ⟨7, 0⟩) (meth := k7m0) (c := k7c0) (by decide +kernel) rfl rfl rfl (by decide +kernel)
set_option maxRecDepth 65536 in
theorem w_c3 : (Jvm.Cond.code ({ cls := "java/util/AbstractCollection", name := "<init>", desc := "()V" } : Jvm.MethodName) jdk_22_method_1_code (1 : Nat) (Option.none : Option Jvm.ClassFile.FieldType)).before args0 about1 = true := code_word (m := ⟨4, 0⟩) (meth := k4m0) (c := k4c0) (by decide +kernel) rfl rfl rfl (by decide +kernel)
set_option maxRecDepth 65536 in
theorem w_c4 : (Jvm.Cond.code ({ cls := "java/lang/Object", name := "<init>", desc := "()V" } : Jvm.MethodName) object_method_1_code (1 : Nat) (Option.none : Option Jvm.ClassFile.FieldType)).before args0 about1 = true := code_word (m := ⟨0, 0⟩) (meth := k0m0) (c := k0c0) (by decide +kernel) rfl rfl rfl (by decide +kernel)
set_option maxRecDepth 65536 in
theorem w_c5 : (Jvm.Cond.code ({ cls := "com/example/wakeline/wakeline/similarity/CoordinatesSquaredDistancePinLaw", name := "lonQ", desc := "(I)I" } : Jvm.MethodName) method_2_code (1 : Nat) (Option.some Jvm.ClassFile.FieldType.int)).before args0 about1 = true := code_word (m := ⟨1, 1⟩) (meth := k1m1) (c := k1c1) (by decide +kernel) rfl rfl rfl (by decide +kernel)
set_option maxRecDepth 65536 in
theorem w_c6 : (Jvm.Cond.code ({ cls := "com/example/wakeline/wakeline/similarity/CoordinatesSquaredDistancePinLaw", name := "latQ", desc := "(I)I" } : Jvm.MethodName) method_3_code (1 : Nat) (Option.some Jvm.ClassFile.FieldType.int)).before args0 about1 = true := code_word (m := ⟨1, 2⟩) (meth := k1m2) (c := k1c2) (by decide +kernel) rfl rfl rfl (by decide +kernel)
set_option maxRecDepth 65536 in
theorem w_c7 : (Jvm.Cond.code ({ cls := "com/example/wakeline/wakeline/trajectory/Point", name := "<init>", desc := "(DDJ)V" } : Jvm.MethodName) prog_65_method_1_code (7 : Nat) (Option.none : Option Jvm.ClassFile.FieldType)).before args0 about1 = true := code_word (m := ⟨13, 0⟩) (meth := k13m0) (c := k13c0) (by decide +kernel) rfl rfl rfl (by decide +kernel)
set_option maxRecDepth 65536 in
theorem w_c8 : (Jvm.Cond.code ({ cls := "java/lang/Record", name := "<init>", desc := "()V" } : Jvm.MethodName) jdk_30_method_1_code (1 : Nat) (Option.none : Option Jvm.ClassFile.FieldType)).before args0 about1 = true := code_word (m := ⟨12, 0⟩) (meth := k12m0) (c := k12c0) (by decide +kernel) rfl rfl rfl (by decide +kernel)
set_option maxRecDepth 65536 in
theorem w_c9 : (Jvm.Cond.code ({ cls := "java/util/ArrayList", name := "add", desc := "(Ljava/lang/Object;)Z" } : Jvm.MethodName) jdk_38_method_25_code (2 : Nat) (Option.some Jvm.ClassFile.FieldType.boolean)).before args0 about1 = true := code_word (m := ⟨11, 7⟩) (meth := k11m7) (c := k11c7) (by decide +kernel) rfl rfl rfl (by decide +kernel)
set_option maxRecDepth 65536 in
theorem w_c10 : (Jvm.Cond.code ({ cls := "java/util/ArrayList", name := "add", desc := "(Ljava/lang/Object;[Ljava/lang/Object;I)V" } : Jvm.MethodName) jdk_38_method_24_code (4 : Nat) (Option.none : Option Jvm.ClassFile.FieldType)).before args0 about1 = true := code_word (m := ⟨11, 6⟩) (meth := k11m6) (c := k11c6) (by decide +kernel) rfl rfl rfl (by decide +kernel)
set_option maxRecDepth 65536 in
theorem w_c11 : (Jvm.Cond.code ({ cls := "java/util/ArrayList", name := "grow", desc := "()[Ljava/lang/Object;" } : Jvm.MethodName) jdk_38_method_7_code (1 : Nat) (Option.some (Jvm.ClassFile.FieldType.array (Jvm.ClassFile.FieldType.object "java/lang/Object")))).before args0 about1 = true := code_word (m := ⟨11, 2⟩) (meth := k11m2) (c := k11c2) (by decide +kernel) rfl rfl rfl (by decide +kernel)
set_option maxRecDepth 65536 in
theorem w_c12 : (Jvm.Cond.code ({ cls := "java/util/ArrayList", name := "grow", desc := "(I)[Ljava/lang/Object;" } : Jvm.MethodName) jdk_38_method_6_code (4 : Nat) (Option.some (Jvm.ClassFile.FieldType.array (Jvm.ClassFile.FieldType.object "java/lang/Object")))).before args0 about1 = true := code_word (m := ⟨11, 1⟩) (meth := k11m1) (c := k11c1) (by decide +kernel) rfl rfl rfl (by decide +kernel)
set_option maxRecDepth 65536 in
theorem w_c13 : (Jvm.Cond.code ({ cls := "java/lang/Math", name := "max", desc := "(II)I" } : Jvm.MethodName) jdk_29_method_65_code (2 : Nat) (Option.some Jvm.ClassFile.FieldType.int)).before args0 about1 = true := code_word (m := ⟨14, 1⟩) (meth := k14m1) (c := k14c1) (by decide +kernel) rfl rfl rfl (by decide +kernel)
set_option maxRecDepth 65536 in
theorem w_c14 : (Jvm.Cond.code ({ cls := "com/example/wakeline/wakeline/similarity/Coordinates", name := "<init>", desc := "(Ljava/util/List;)V" } : Jvm.MethodName) prog_36_method_1_code (3 : Nat) (Option.none : Option Jvm.ClassFile.FieldType)).before args0 about1 = true := code_word (m := ⟨15, 0⟩) (meth := k15m0) (c := k15c0) (by decide +kernel) rfl rfl rfl (by decide +kernel)
set_option maxRecDepth 65536 in
theorem w_c15 : (Jvm.Cond.code ({ cls := "java/util/ArrayList", name := "size", desc := "()I" } : Jvm.MethodName) jdk_38_method_8_code (1 : Nat) (Option.some Jvm.ClassFile.FieldType.int)).before args0 about1 = true := code_word (m := ⟨11, 3⟩) (meth := k11m3) (c := k11c3) (by decide +kernel) rfl rfl rfl (by decide +kernel)
set_option maxRecDepth 65536 in
theorem w_c16 : (Jvm.Cond.code ({ cls := "java/util/ArrayList", name := "get", desc := "(I)Ljava/lang/Object;" } : Jvm.MethodName) jdk_38_method_20_code (2 : Nat) (Option.some (Jvm.ClassFile.FieldType.object "java/lang/Object"))).before args0 about1 = true := code_word (m := ⟨11, 5⟩) (meth := k11m5) (c := k11c5) (by decide +kernel) rfl rfl rfl (by decide +kernel)
set_option maxRecDepth 65536 in
theorem w_c17 : (Jvm.Cond.code ({ cls := "java/util/Objects", name := "checkIndex", desc := "(II)I" } : Jvm.MethodName) jdk_31_method_17_code (2 : Nat) (Option.some Jvm.ClassFile.FieldType.int)).before args0 about1 = true := code_word (m := ⟨16, 1⟩) (meth := k16m1) (c := k16c1) (by decide +kernel) rfl rfl rfl (by decide +kernel)
set_option maxRecDepth 65536 in
theorem w_c18 : (Jvm.Cond.code ({ cls := "jdk/internal/util/Preconditions", name := "checkIndex", desc := "(IILjava/util/function/BiFunction;)I" } : Jvm.MethodName) jdk_41_method_11_code (3 : Nat) (Option.some Jvm.ClassFile.FieldType.int)).before args0 about1 = true := code_word (m := ⟨17, 1⟩) (meth := k17m1) (c := k17c1) (by decide +kernel) rfl rfl rfl (by decide +kernel)
set_option maxRecDepth 65536 in
theorem w_c19 : (Jvm.Cond.code ({ cls := "java/util/ArrayList", name := "elementData", desc := "(I)Ljava/lang/Object;" } : Jvm.MethodName) jdk_38_method_18_code (2 : Nat) (Option.some (Jvm.ClassFile.FieldType.object "java/lang/Object"))).before args0 about1 = true := code_word (m := ⟨11, 4⟩) (meth := k11m4) (c := k11c4) (by decide +kernel) rfl rfl rfl (by decide +kernel)
set_option maxRecDepth 65536 in
theorem w_c20 : (Jvm.Cond.code ({ cls := "com/example/wakeline/wakeline/trajectory/Point", name := "longitude", desc := "()D" } : Jvm.MethodName) prog_65_method_6_code (1 : Nat) (Option.some Jvm.ClassFile.FieldType.double)).before args0 about1 = true := code_word (m := ⟨13, 1⟩) (meth := k13m1) (c := k13c1) (by decide +kernel) rfl rfl rfl (by decide +kernel)
set_option maxRecDepth 65536 in
theorem w_c21 : (Jvm.Cond.code ({ cls := "com/example/wakeline/wakeline/trajectory/Point", name := "latitude", desc := "()D" } : Jvm.MethodName) prog_65_method_7_code (1 : Nat) (Option.some Jvm.ClassFile.FieldType.double)).before args0 about1 = true := code_word (m := ⟨13, 2⟩) (meth := k13m2) (c := k13c2) (by decide +kernel) rfl rfl rfl (by decide +kernel)
set_option maxRecDepth 65536 in
theorem w_c22 : (Jvm.Cond.code ({ cls := "com/example/wakeline/wakeline/similarity/Coordinates", name := "squaredDistance", desc := "(ILcom/example/wakeline/wakeline/similarity/Coordinates;I)D" } : Jvm.MethodName) prog_36_method_5_code (8 : Nat) (Option.some Jvm.ClassFile.FieldType.double)).before args0 about1 = true := code_word (m := ⟨15, 1⟩) (meth := k15m1) (c := k15c1) (by decide +kernel) rfl rfl rfl (by decide +kernel)
def codes1 : List Jvm.Cond := [Jvm.Cond.code x code maxLocals ret, Jvm.Cond.code ({ cls := "java/util/ArrayList", name := "<init>", desc := "()V" } : Jvm.MethodName) jdk_38_method_2_code (1 : Nat) (Option.none : Option Jvm.ClassFile.FieldType), Jvm.Cond.code ({ cls := "java/util/AbstractList", name := "<init>", desc := "()V" } : Jvm.MethodName) jdk_39_method_1_code (1 : Nat) (Option.none : Option Jvm.ClassFile.FieldType), Jvm.Cond.code ({ cls := "java/util/AbstractCollection", name := "<init>", desc := "()V" } : Jvm.MethodName) jdk_22_method_1_code (1 : Nat) (Option.none : Option Jvm.ClassFile.FieldType), Jvm.Cond.code ({ cls := "java/lang/Object", name := "<init>", desc := "()V" } : Jvm.MethodName) object_method_1_code (1 : Nat) (Option.none : Option Jvm.ClassFile.FieldType), Jvm.Cond.code ({ cls := "com/example/wakeline/wakeline/similarity/CoordinatesSquaredDistancePinLaw", name := "lonQ", desc := "(I)I" } : Jvm.MethodName) method_2_code (1 : Nat) (Option.some Jvm.ClassFile.FieldType.int), Jvm.Cond.code ({ cls := "com/example/wakeline/wakeline/similarity/CoordinatesSquaredDistancePinLaw", name := "latQ", desc := "(I)I" } : Jvm.MethodName) method_3_code (1 : Nat) (Option.some Jvm.ClassFile.FieldType.int), Jvm.Cond.code ({ cls := "com/example/wakeline/wakeline/trajectory/Point", name := "<init>", desc := "(DDJ)V" } : Jvm.MethodName) prog_65_method_1_code (7 : Nat) (Option.none : Option Jvm.ClassFile.FieldType), Jvm.Cond.code ({ cls := "java/lang/Record", name := "<init>", desc := "()V" } : Jvm.MethodName) jdk_30_method_1_code (1 : Nat) (Option.none : Option Jvm.ClassFile.FieldType), Jvm.Cond.code ({ cls := "java/util/ArrayList", name := "add", desc := "(Ljava/lang/Object;)Z" } : Jvm.MethodName) jdk_38_method_25_code (2 : Nat) (Option.some Jvm.ClassFile.FieldType.boolean), Jvm.Cond.code ({ cls := "java/util/ArrayList", name := "add", desc := "(Ljava/lang/Object;[Ljava/lang/Object;I)V" } : Jvm.MethodName) jdk_38_method_24_code (4 : Nat) (Option.none : Option Jvm.ClassFile.FieldType), Jvm.Cond.code ({ cls := "java/util/ArrayList", name := "grow", desc := "()[Ljava/lang/Object;" } : Jvm.MethodName) jdk_38_method_7_code (1 : Nat) (Option.some (Jvm.ClassFile.FieldType.array (Jvm.ClassFile.FieldType.object "java/lang/Object"))), Jvm.Cond.code ({ cls := "java/util/ArrayList", name := "grow", desc := "(I)[Ljava/lang/Object;" } : Jvm.MethodName) jdk_38_method_6_code (4 : Nat) (Option.some (Jvm.ClassFile.FieldType.array (Jvm.ClassFile.FieldType.object "java/lang/Object"))), Jvm.Cond.code ({ cls := "java/lang/Math", name := "max", desc := "(II)I" } : Jvm.MethodName) jdk_29_method_65_code (2 : Nat) (Option.some Jvm.ClassFile.FieldType.int), Jvm.Cond.code ({ cls := "com/example/wakeline/wakeline/similarity/Coordinates", name := "<init>", desc := "(Ljava/util/List;)V" } : Jvm.MethodName) prog_36_method_1_code (3 : Nat) (Option.none : Option Jvm.ClassFile.FieldType), Jvm.Cond.code ({ cls := "java/util/ArrayList", name := "size", desc := "()I" } : Jvm.MethodName) jdk_38_method_8_code (1 : Nat) (Option.some Jvm.ClassFile.FieldType.int), Jvm.Cond.code ({ cls := "java/util/ArrayList", name := "get", desc := "(I)Ljava/lang/Object;" } : Jvm.MethodName) jdk_38_method_20_code (2 : Nat) (Option.some (Jvm.ClassFile.FieldType.object "java/lang/Object")), Jvm.Cond.code ({ cls := "java/util/Objects", name := "checkIndex", desc := "(II)I" } : Jvm.MethodName) jdk_31_method_17_code (2 : Nat) (Option.some Jvm.ClassFile.FieldType.int), Jvm.Cond.code ({ cls := "jdk/internal/util/Preconditions", name := "checkIndex", desc := "(IILjava/util/function/BiFunction;)I" } : Jvm.MethodName) jdk_41_method_11_code (3 : Nat) (Option.some Jvm.ClassFile.FieldType.int), Jvm.Cond.code ({ cls := "java/util/ArrayList", name := "elementData", desc := "(I)Ljava/lang/Object;" } : Jvm.MethodName) jdk_38_method_18_code (2 : Nat) (Option.some (Jvm.ClassFile.FieldType.object "java/lang/Object")), Jvm.Cond.code ({ cls := "com/example/wakeline/wakeline/trajectory/Point", name := "longitude", desc := "()D" } : Jvm.MethodName) prog_65_method_6_code (1 : Nat) (Option.some Jvm.ClassFile.FieldType.double), Jvm.Cond.code ({ cls := "com/example/wakeline/wakeline/trajectory/Point", name := "latitude", desc := "()D" } : Jvm.MethodName) prog_65_method_7_code (1 : Nat) (Option.some Jvm.ClassFile.FieldType.double), Jvm.Cond.code ({ cls := "com/example/wakeline/wakeline/similarity/Coordinates", name := "squaredDistance", desc := "(ILcom/example/wakeline/wakeline/similarity/Coordinates;I)D" } : Jvm.MethodName) prog_36_method_5_code (8 : Nat) (Option.some Jvm.ClassFile.FieldType.double)]
set_option maxRecDepth 65536 in
theorem codes_eq : words1.filter isCode = codes1 := rfl
theorem w_codes : ∀ c ∈ words1.filter isCode, c.before args0 about1 = true := by
  rw [codes_eq]
  intro c hc
  simp only [codes1, List.mem_cons, List.not_mem_nil, or_false] at hc
  rcases hc with rfl | rfl | rfl | rfl | rfl | rfl | rfl | rfl | rfl | rfl | rfl | rfl | rfl | rfl | rfl | rfl | rfl | rfl | rfl | rfl | rfl | rfl | rfl
  · exact w_c0
  · exact w_c1
  · exact w_c2
  · exact w_c3
  · exact w_c4
  · exact w_c5
  · exact w_c6
  · exact w_c7
  · exact w_c8
  · exact w_c9
  · exact w_c10
  · exact w_c11
  · exact w_c12
  · exact w_c13
  · exact w_c14
  · exact w_c15
  · exact w_c16
  · exact w_c17
  · exact w_c18
  · exact w_c19
  · exact w_c20
  · exact w_c21
  · exact w_c22
set_option maxRecDepth 65536 in
theorem w_t1 : (words1.take 24).all (fun c => isCode c || c.before args0 about1) = true := by decide +kernel
set_option maxRecDepth 65536 in
theorem w_t2 : ((words1.drop 24).take 24).all (fun c => isCode c || c.before args0 about1) = true := by decide +kernel
set_option maxRecDepth 65536 in
theorem w_t3 : (((words1.drop 24).drop 24).take 24).all (fun c => isCode c || c.before args0 about1) = true := by decide +kernel
set_option maxRecDepth 65536 in
theorem w_t4 : ((((words1.drop 24).drop 24).drop 24).take 24).all (fun c => isCode c || c.before args0 about1) = true := by decide +kernel
set_option maxRecDepth 65536 in
theorem w_t5 : (((((words1.drop 24).drop 24).drop 24).drop 24).take 24).all (fun c => isCode c || c.before args0 about1) = true := by decide +kernel
set_option maxRecDepth 65536 in
theorem w_t6 : ((((((words1.drop 24).drop 24).drop 24).drop 24).drop 24).take 24).all (fun c => isCode c || c.before args0 about1) = true := by decide +kernel
set_option maxRecDepth 65536 in
theorem w_t7 : ((((((words1.drop 24).drop 24).drop 24).drop 24).drop 24).drop 24).all (fun c => isCode c || c.before args0 about1) = true := by decide +kernel
theorem w_tables : (allAtoms (Jvm.Cond.code x code maxLocals ret :: tables_1)).before args0 about1 = true := by
  rw [allAtoms_all]
  show words1.all (fun c => c.before args0 about1) = true
  refine all_split ?_ w_codes
  rw [← List.take_append_drop 24 words1, List.all_append, w_t1, ← List.take_append_drop 24 (words1.drop 24), List.all_append, w_t2, ← List.take_append_drop 24 ((words1.drop 24).drop 24), List.all_append, w_t3, ← List.take_append_drop 24 (((words1.drop 24).drop 24).drop 24), List.all_append, w_t4, ← List.take_append_drop 24 ((((words1.drop 24).drop 24).drop 24).drop 24), List.all_append, w_t5, ← List.take_append_drop 24 (((((words1.drop 24).drop 24).drop 24).drop 24).drop 24), List.all_append, w_t6, w_t7]
  rfl
set_option maxRecDepth 65536 in
theorem w_rest : rest_1_c.before args0 about1 = true := by decide +kernel
set_option maxRecDepth 65536 in
theorem w_case : (Jvm.Cond.and given_1 narrow_1).before args0 about1 = true := by decide +kernel
theorem w_applies : (headSpec (Jvm.Cond.code x code maxLocals ret :: tables_1) room_1).applies x e0.platform about1 = true :=
  (Spec.applies_iff w_frames).mpr ⟨w_running, w_runnable, w_alone, w_named, w_hears, w_ripe, w_room, w_tables⟩
theorem atStart : AtStart classFile x code maxLocals ret World_1 tables_1 room_1 Calls_1 rest_1 Pre_1 launch0 p0 e0 about1 theMethod args0 below0 :=
  ⟨lists_1, trivial, launch0.admits_env _ _ _, launch0.least_env, fairChoices_fair.cas, fairChoices_fair.clock, w_frames, w_args, w_heap, w_applies, trivial, w_rest, w_case⟩
end start1
theorem witness_1 : WitnessClaimed_1 := ⟨start1.p0, start1.e0, start1.about1, start1.theMethod, start1.args0, start1.below0, start1.atStart⟩
end Jvm.Pilot.@@N@@
