import JvmDerived
import JvmDerived.Pilot.@@N@@Statement
import JvmDerived.Pilot.@@N@@Code
set_option linter.unusedVariables false
set_option linter.unusedSimpArgs false
namespace OwnDy
section OwnDy
open Jvm.FP.Core
theorem own_shift {A X : Nat} {e q : Int} {K : Nat} (he : 0 ≤ e + K) (hq : 0 ≤ q + K) (h : A * 2 ^ (e + K).toNat = X * 2 ^ (q + K).toNat) : A * 2 ^ (e - q).toNat = X * 2 ^ (q - e).toNat := by
  by_cases hc : q ≤ e
  · have h1 : (e + K).toNat = (e - q).toNat + (q + K).toNat := by omega
    have h2 : (q - e).toNat = 0 := by omega
    rw [h1, Nat.pow_add, ← Nat.mul_assoc] at h
    rw [h2, Nat.pow_zero, Nat.mul_one]
    exact Nat.eq_of_mul_eq_mul_right (Nat.two_pow_pos _) h
  · have h1 : (q + K).toNat = (q - e).toNat + (e + K).toNat := by omega
    have h2 : (e - q).toNat = 0 := by omega
    rw [h1, Nat.pow_add, ← Nat.mul_assoc] at h
    rw [h2, Nat.pow_zero, Nat.mul_one]
    exact Nat.eq_of_mul_eq_mul_right (Nat.two_pow_pos _) h
theorem own_qmin : b64.qmin = -1074 := by decide
theorem own_qmax : b64.qmax = 971 := by decide
theorem own_tails : b64.tails = 2 ^ 52 := by decide
theorem own_p : b64.p = 53 := by decide
/-- n / 2^k, for n of at most 53 digits, is a double -/
theorem own_rep (n k : Nat) (hn : n < 2 ^ 53) (hk : k ≤ 1000) : ∃ c q, fits b64 (.fin false c q) ∧ -1074 ≤ q ∧ c * 2 ^ (q + (1074 : Nat)).toNat * 2 ^ k = n * 2 ^ 1074 := by
  by_cases h0 : n = 0
  · refine ⟨0, -1074, by rw [← own_qmin]; exact zero_fits good_b64 false, by omega, ?_⟩
    rw [h0, Nat.zero_mul, Nat.zero_mul, Nat.zero_mul]
  · have hL : n.log2 < 53 := (Nat.log2_lt h0).mpr hn
    have hl1 : 2 ^ n.log2 ≤ n := Nat.log2_self_le h0
    have hl2 : n < 2 ^ (n.log2 + 1) := Nat.lt_log2_self
    refine ⟨n * 2 ^ (52 - n.log2), -(k : Int) - ((52 - n.log2 : Nat) : Int), ⟨?_, ?_, ?_, Or.inr ?_⟩, by omega, ?_⟩
    · rw [own_p]
      have e1 : 2 ^ 53 = 2 ^ (n.log2 + 1) * 2 ^ (52 - n.log2) := by rw [← Nat.pow_add]; congr 1; omega
      rw [e1]
      exact Nat.mul_lt_mul_of_pos_right hl2 (Nat.two_pow_pos _)
    · rw [own_qmin]; omega
    · rw [own_qmax]; omega
    · rw [own_tails]
      have e1 : 2 ^ 52 = 2 ^ n.log2 * 2 ^ (52 - n.log2) := by rw [← Nat.pow_add]; congr 1; omega
      rw [e1]
      exact Nat.mul_le_mul_right _ hl1
    · have e1 : (-(k : Int) - ((52 - n.log2 : Nat) : Int) + (1074 : Nat)).toNat = 1074 - k - (52 - n.log2) := by omega
      rw [e1, Nat.mul_assoc, Nat.mul_assoc, ← Nat.pow_add, ← Nat.pow_add]
      congr 2
      omega
theorem own_exact {A B n k K : Nat} {e : Int} (hB : 0 < B) (hn : n < 2 ^ 53) (hk : k ≤ 1000) (hK : 1074 ≤ K) (he : 0 ≤ e + K) (h : A * 2 ^ (e + K).toNat * 2 ^ k = n * B * 2 ^ K) : ∃ c q, roundRatio b64 false A B e = .fin false c q ∧ -1074 ≤ q ∧ c * 2 ^ (q + (1074 : Nat)).toNat * 2 ^ k = n * 2 ^ 1074 := by
  obtain ⟨c, q, h1, h2, h3⟩ := own_rep n k hn hk
  refine ⟨c, q, roundRatio_exact good_b64 hB h1 (own_shift (K := K) he (by omega) ?_), h2, h3⟩
  have e1 : (q + K).toNat = (q + (1074 : Nat)).toNat + (K - 1074) := by omega
  have e2 : 2 ^ K = 2 ^ 1074 * 2 ^ (K - 1074) := by rw [← Nat.pow_add, Nat.add_sub_cancel' hK]
  refine Nat.eq_of_mul_eq_mul_right (Nat.two_pow_pos k) ?_
  rw [h, e1, e2, Nat.pow_add]
  generalize 2 ^ 1074 = P at *
  generalize 2 ^ (q + (1074 : Nat)).toNat = R at *
  generalize 2 ^ (K - 1074) = U at *
  calc n * B * (P * U) = (n * P) * (B * U) := by ac_rfl
    _ = (c * R * 2 ^ k) * (B * U) := by rw [h3]
    _ = c * B * (R * U) * 2 ^ k := by ac_rfl
/-- the double x is n / 2^k -/
def Dy (x : UInt64) (n k : Nat) : Prop := ∃ c q, val64 x = .fin false c q ∧ -1074 ≤ q ∧ c * 2 ^ (q + (1074 : Nat)).toNat * 2 ^ k = n * 2 ^ 1074
theorem Dy.fin {x : UInt64} {n k : Nat} (h : Dy x n k) : DFin x := by
  obtain ⟨c, q, h1, -⟩ := h
  exact ⟨_, _, _, h1⟩
theorem Dy.div {x y : UInt64} {n k m j r t : Nat} (hx : Dy x n k) (hy : Dy y m j) (hm : 0 < m) (hr : r < 2 ^ 53) (ht : t ≤ 1000) (h : n * 2 ^ j * 2 ^ t = r * m * 2 ^ k) : Dy (ddiv x y) r t := by
  obtain ⟨c, q, h1, h2, h3⟩ := hx
  obtain ⟨d, w, g1, g2, g3⟩ := hy
  have hd : 0 < d := by
    rcases Nat.eq_zero_or_pos d with rfl | hd
    · rw [Nat.zero_mul, Nat.zero_mul] at g3
      exact absurd g3.symm (Nat.ne_of_gt (Nat.mul_pos hm (Nat.two_pow_pos _)))
    · exact hd
  have e0 := val64_ddiv x y
  rw [h1, g1] at e0
  have e1 : quotient b64 (.fin false c q) (.fin false d w) = roundRatio b64 false c d (q - w) := by
    show (if d = 0 then _ else _) = _
    rw [if_neg (by omega)]
    rfl
  rw [e1] at e0
  -- w ≤ 971 as it fits
  have hw : w ≤ 971 := by
    have := val64_fits y
    rw [g1] at this
    have := this.2.2.1
    rw [own_qmax] at this
    exact this
  obtain ⟨c', q', k1, k2, k3⟩ := own_exact (A := c) (B := d) (n := r) (k := t) (K := 4000) (e := q - w) hd hr ht (by omega) (by omega) (by
    have i1 : (q - w + (4000 : Nat)).toNat + (w + (1074 : Nat)).toNat = (q + (1074 : Nat)).toNat + 4000 := by omega
    refine Nat.eq_of_mul_eq_mul_right (Nat.mul_pos (Nat.two_pow_pos (w + (1074 : Nat)).toNat) (Nat.mul_pos (Nat.two_pow_pos k) (Nat.two_pow_pos j))) ?_
    have i2 : 2 ^ (q - w + (4000 : Nat)).toNat * 2 ^ (w + (1074 : Nat)).toNat = 2 ^ (q + (1074 : Nat)).toNat * 2 ^ 4000 := by rw [← Nat.pow_add, ← Nat.pow_add, i1]
    generalize 2 ^ (q - w + (4000 : Nat)).toNat = E1 at *
    generalize 2 ^ (w + (1074 : Nat)).toNat = E2 at *
    generalize 2 ^ (q + (1074 : Nat)).toNat = E3 at *
    generalize 2 ^ 4000 = E4 at *
    generalize 2 ^ 1074 = P at *
    calc c * E1 * 2 ^ t * (E2 * (2 ^ k * 2 ^ j)) = c * (E1 * E2) * 2 ^ t * (2 ^ k * 2 ^ j) := by ac_rfl
      _ = (c * E3 * 2 ^ k) * (E4 * 2 ^ t * 2 ^ j) := by rw [i2]; ac_rfl
      _ = (n * 2 ^ j * 2 ^ t) * (P * E4) := by rw [h3]; ac_rfl
      _ = (m * P) * (r * 2 ^ k * E4) := by rw [h]; ac_rfl
      _ = r * d * E4 * (E2 * (2 ^ k * 2 ^ j)) := by rw [← g3]; ac_rfl)
  exact ⟨c', q', e0.trans k1, k2, k3⟩
theorem Dy.mul {x y : UInt64} {n k m j r t : Nat} (hx : Dy x n k) (hy : Dy y m j) (hr : r < 2 ^ 53) (ht : t ≤ 1000) (h : n * m * 2 ^ t = r * (2 ^ k * 2 ^ j)) : Dy (dmul x y) r t := by
  obtain ⟨c, q, h1, h2, h3⟩ := hx
  obtain ⟨d, w, g1, g2, g3⟩ := hy
  have e0 := val64_dmul x y
  rw [h1, g1] at e0
  have e1 : round b64 (exactProduct (.fin false c q) (.fin false d w)) = roundRatio b64 false (c * d) 1 (q + w) := rfl
  rw [e1] at e0
  obtain ⟨c', q', k1, k2, k3⟩ := own_exact (A := c * d) (B := 1) (n := r) (k := t) (K := 2148) (e := q + w) (by decide) hr ht (by omega) (by omega) (by
    have i1 : (q + w + (2148 : Nat)).toNat = (q + (1074 : Nat)).toNat + (w + (1074 : Nat)).toNat := by omega
    have i2 : 2 ^ 2148 = 2 ^ 1074 * 2 ^ 1074 := by rw [← Nat.pow_add]
    rw [i1, Nat.pow_add, i2]
    refine Nat.eq_of_mul_eq_mul_right (Nat.mul_pos (Nat.two_pow_pos k) (Nat.two_pow_pos j)) ?_
    generalize 2 ^ (w + (1074 : Nat)).toNat = E2 at *
    generalize 2 ^ (q + (1074 : Nat)).toNat = E3 at *
    generalize 2 ^ 1074 = P at *
    calc c * d * (E3 * E2) * 2 ^ t * (2 ^ k * 2 ^ j) = (c * E3 * 2 ^ k) * (d * E2 * 2 ^ j) * 2 ^ t := by ac_rfl
      _ = (n * m * 2 ^ t) * (P * P) := by rw [h3, g3]; ac_rfl
      _ = r * 1 * (P * P) * (2 ^ k * 2 ^ j) := by rw [h]; ac_rfl)
  exact ⟨c', q', e0.trans k1, k2, k3⟩
theorem own_iu {c : Nat} {q e : Int} (he : -1074 ≤ e) (h : e ≤ q) : inUnits c q e * 2 ^ (e + (1074 : Nat)).toNat = c * 2 ^ (q + (1074 : Nat)).toNat := by
  unfold inUnits
  have : (q + (1074 : Nat)).toNat = (q - e).toNat + (e + (1074 : Nat)).toNat := by omega
  rw [this, Nat.pow_add]
  ac_rfl
theorem own_natAbs (a b : Nat) : ((a : Int) + (b : Int)).natAbs = a + b := by omega
theorem Dy.add {x y : UInt64} {n k m j r t : Nat} (hx : Dy x n k) (hy : Dy y m j) (hr : r < 2 ^ 53) (ht : t ≤ 1000) (h : (n * 2 ^ j + m * 2 ^ k) * 2 ^ t = r * (2 ^ k * 2 ^ j)) : Dy (dadd x y) r t := by
  obtain ⟨c, q, h1, h2, h3⟩ := hx
  obtain ⟨d, w, g1, g2, g3⟩ := hy
  have e0 := val64_dadd x y
  rw [h1, g1] at e0
  have e1 : round b64 (exactSum (.fin false c q) (.fin false d w)) = roundRatio b64 false (inUnits c q (min q w) + inUnits d w (min q w)) 1 (min q w) := by
    show roundRatio b64 (sumSign false false (sumUnits false c q false d w (min q w))) (sumUnits false c q false d w (min q w)).natAbs 1 (min q w) = _
    have e2 : sumUnits false c q false d w (min q w) = ((inUnits c q (min q w) : Nat) : Int) + ((inUnits d w (min q w) : Nat) : Int) := by simp [sumUnits, signed]
    rw [e2, own_natAbs]
    have e3 : sumSign false false (((inUnits c q (min q w) : Nat) : Int) + ((inUnits d w (min q w) : Nat) : Int)) = false := by
      unfold sumSign
      split
      · rfl
      · simp; omega
    rw [e3]
  rw [e1] at e0
  obtain ⟨c', q', k1, k2, k3⟩ := own_exact (A := inUnits c q (min q w) + inUnits d w (min q w)) (B := 1) (n := r) (k := t) (K := 1074) (e := min q w) (by decide) hr ht (by omega) (by omega) (by
    have i1 := own_iu (c := c) (q := q) (e := min q w) (by omega) (by omega)
    have i2 := own_iu (c := d) (q := w) (e := min q w) (by omega) (by omega)
    rw [Nat.add_mul, i1, i2]
    refine Nat.eq_of_mul_eq_mul_right (Nat.mul_pos (Nat.two_pow_pos k) (Nat.two_pow_pos j)) ?_
    generalize 2 ^ (w + (1074 : Nat)).toNat = E2 at *
    generalize 2 ^ (q + (1074 : Nat)).toNat = E3 at *
    generalize 2 ^ 1074 = P at *
    calc (c * E3 + d * E2) * 2 ^ t * (2 ^ k * 2 ^ j) = ((c * E3 * 2 ^ k) * 2 ^ j + (d * E2 * 2 ^ j) * 2 ^ k) * 2 ^ t := by
          rw [Nat.add_mul, Nat.add_mul, Nat.add_mul]; congr 1 <;> ac_rfl
      _ = (n * 2 ^ j + m * 2 ^ k) * 2 ^ t * P := by rw [h3, g3, Nat.add_mul, Nat.add_mul, Nat.add_mul]; congr 1 <;> ac_rfl
      _ = r * 1 * P * (2 ^ k * 2 ^ j) := by rw [h]; ac_rfl)
  exact ⟨c', q', e0.trans k1, k2, k3⟩
theorem Dy.val {x : UInt64} {n k : Nat} (h : Dy x n k) : ∃ z : Nat, zval b64 (val64 x) = z ∧ z * 2 ^ k = n * 2 ^ 1074 := by
  obtain ⟨c, q, h1, h2, h3⟩ := h
  refine ⟨c * 2 ^ (q + (1074 : Nat)).toNat, ?_, h3⟩
  rw [h1]
  show signed false (inUnits c q b64.qmin) = _
  rw [own_qmin]
  show ((inUnits c q (-1074) : Nat) : Int) = _
  unfold inUnits
  congr 3
theorem Dy.cmp {x y : UInt64} {n k m j : Nat} (hx : Dy x n k) (hy : Dy y m j) : dcmp x y = some (compare ((n * 2 ^ j : Nat) : Int) ((m * 2 ^ k : Nat) : Int)) := by
  have e0 := dcmp_zval ((notNaN_iff x).mp hx.fin.notNaN) ((notNaN_iff y).mp hy.fin.notNaN)
  obtain ⟨a, h1, h2⟩ := hx.val
  obtain ⟨b, g1, g2⟩ := hy.val
  rw [h1, g1] at e0
  refine Eq.trans e0 ?_
  congr 1
  have p1 : 0 < 2 ^ 1074 := Nat.two_pow_pos _
  have pk := Nat.two_pow_pos k
  have pj := Nat.two_pow_pos j
  clear h1 g1 e0
  generalize 2 ^ 1074 = P at *
  have i1 : n * 2 ^ j * P = a * (2 ^ k * 2 ^ j) := by
    calc n * 2 ^ j * P = (n * P) * 2 ^ j := by ac_rfl
      _ = a * (2 ^ k * 2 ^ j) := by rw [← h2]; ac_rfl
  have i2 : m * 2 ^ k * P = b * (2 ^ k * 2 ^ j) := by
    calc m * 2 ^ k * P = (m * P) * 2 ^ k := by ac_rfl
      _ = b * (2 ^ k * 2 ^ j) := by rw [← g2]; ac_rfl
  have pp : 0 < 2 ^ k * 2 ^ j := Nat.mul_pos pk pj
  generalize 2 ^ k * 2 ^ j = U at *
  generalize n * 2 ^ j = N at *
  generalize m * 2 ^ k = M at *
  have key : ∀ {u v s t : Nat}, u * P = s * U → v * P = t * U → (s < t ↔ u < v) := by
    intro u v s t hu hv
    constructor
    · intro hst
      have : s * U < t * U := Nat.mul_lt_mul_of_pos_right hst pp
      rw [← hu, ← hv] at this
      exact Nat.lt_of_mul_lt_mul_right this
    · intro huv
      have : u * P < v * P := Nat.mul_lt_mul_of_pos_right huv p1
      rw [hu, hv] at this
      exact Nat.lt_of_mul_lt_mul_right this
  have k1 := key i1 i2
  have k2 := key i2 i1
  have c1 : ((a : Int) < (b : Int)) ↔ ((N : Int) < (M : Int)) := by omega
  have c2 : ((a : Int) = (b : Int)) ↔ ((N : Int) = (M : Int)) := by omega
  rw [compare_ite, compare_ite]
  simp only [c1, c2]
theorem Dy.of_l2d {a : Int64} {n : Nat} (h : a.toInt = n) (hn : n < 2 ^ 53) : Dy (l2d a) n 0 := by
  have e0 := val64_l2d a
  have e1 : round b64 (ofInt a.toInt) = roundRatio b64 false n 1 0 := by
    rw [h]
    show roundRatio b64 (decide ((n : Int) < 0)) (n : Int).natAbs 1 0 = _
    have : decide ((n : Int) < 0) = false := by simp
    rw [this]
    rfl
  rw [e1] at e0
  obtain ⟨c', q', k1, k2, k3⟩ := own_exact (A := n) (B := 1) (n := n) (k := 0) (K := 1074) (e := 0) (by decide) hn (by omega) (by omega) (by omega) (by
    have : ((0 : Int) + (1074 : Nat)).toNat = 1074 := by omega
    rw [this]
    generalize 2 ^ 1074 = P
    rw [Nat.pow_zero, Nat.mul_one, Nat.mul_one])
  exact ⟨c', q', e0.trans k1, k2, k3⟩
theorem Dy.of_i2d {a : Int32} {n : Nat} (h : a.toInt = n) : Dy (i2d a) n 0 := by
  rw [i2d_l2d]
  refine Dy.of_l2d (a := a.toInt64) (n := n) ?_ ?_
  · rw [Int32.toInt_toInt64]; exact h
  · have := a.toInt_lt; omega
theorem own_nan64 {x : UInt64} (h : DFin x) : (x &&& 0x7fffffffffffffff) ≤ 0x7ff0000000000000 := by
  obtain ⟨s, c, q, h1⟩ := h
  have h2 : ¬ infBits b64 < mag b64 x.toNat := fun hq => by
    have := (decode_nan x.toNat).mpr hq
    rw [show decode b64 x.toNat = val64 x from rfl, h1] at this
    cases this
  rw [UInt64.le_iff_toNat_le, mask_toNat]
  have e1 : infBits b64 = 9218868437227405312 := by decide
  have e2 : mag b64 x.toNat = x.toNat % 2 ^ 63 := rfl
  have e3 : (0x7ff0000000000000 : UInt64).toNat = 9218868437227405312 := rfl
  omega
theorem own_cmp_eq {x y : UInt64} {n k m j : Nat} (hx : Dy x n k) (hy : Dy y m j) (h : n * 2 ^ j = m * 2 ^ k) : dcmp x y = some .eq := by
  rw [hx.cmp hy, h]
  simp [compare_ite]
theorem own_cmp_lt {x y : UInt64} {n k m j : Nat} (hx : Dy x n k) (hy : Dy y m j) (h : n * 2 ^ j < m * 2 ^ k) : dcmp x y = some .lt := by
  rw [hx.cmp hy, compare_ite, if_pos (by omega)]
theorem own_cmp_gt {x y : UInt64} {n k m j : Nat} (hx : Dy x n k) (hy : Dy y m j) (h : m * 2 ^ k < n * 2 ^ j) : dcmp x y = some .gt := by
  rw [hx.cmp hy, compare_ite, if_neg (by omega), if_neg (by omega)]
end OwnDy
section OwnSy
open Jvm.FP.Core
theorem own_nanN {x : UInt64} (h : val64 x ≠ .nan) : (x &&& 0x7fffffffffffffff) ≤ 0x7ff0000000000000 := by
  have h2 : ¬ infBits b64 < mag b64 x.toNat := fun hq => h ((decode_nan x.toNat).mpr hq)
  rw [UInt64.le_iff_toNat_le, mask_toNat]
  have e1 : infBits b64 = 9218868437227405312 := by decide
  have e2 : mag b64 x.toNat = x.toNat % 2 ^ 63 := rfl
  have e3 : (0x7ff0000000000000 : UInt64).toNat = 9218868437227405312 := rfl
  omega
/-- the double x is -+ n -/
def Sy (x : UInt64) (s : Bool) (n : Nat) : Prop := ∃ c q, val64 x = .fin s c q ∧ -1074 ≤ q ∧ c * 2 ^ (q + (1074 : Nat)).toNat = n * 2 ^ 1074
theorem own_exactS {s : Bool} {A B n : Nat} (hB : 0 < B) (hn : n < 2 ^ 53) (h : A = n * B) : ∃ c q, roundRatio b64 s A B 0 = .fin s c q ∧ -1074 ≤ q ∧ c * 2 ^ (q + (1074 : Nat)).toNat = n * 2 ^ 1074 := by
  obtain ⟨c, q, h1, h2, h3⟩ := own_rep n 0 hn (by omega)
  rw [Nat.pow_zero, Nat.mul_one] at h3
  have h1' : fits b64 (.fin s c q) := h1
  refine ⟨c, q, roundRatio_exact good_b64 hB h1' (own_shift (K := 1074) (by omega) (by omega) ?_), h2, h3⟩
  have e1 : ((0 : Int) + (1074 : Nat)).toNat = 1074 := by omega
  rw [e1, h]
  generalize 2 ^ 1074 = P at *
  generalize 2 ^ (q + (1074 : Nat)).toNat = R at *
  calc n * B * P = (n * P) * B := by ac_rfl
    _ = c * B * R := by rw [← h3]; ac_rfl
theorem Sy.of_l2d {a : Int64} (h : a.toInt.natAbs < 2 ^ 53) : Sy (l2d a) (decide (a.toInt < 0)) a.toInt.natAbs := by
  have e0 := val64_l2d a
  have e1 : round b64 (ofInt a.toInt) = roundRatio b64 (decide (a.toInt < 0)) a.toInt.natAbs 1 0 := rfl
  rw [e1] at e0
  obtain ⟨c, q, k1, k2, k3⟩ := own_exactS (s := decide (a.toInt < 0)) (A := a.toInt.natAbs) (B := 1) (by decide) h (Nat.mul_one _).symm
  exact ⟨c, q, e0.trans k1, k2, k3⟩
theorem Sy.pos {x : UInt64} {s : Bool} {n c : Nat} {q : Int} (h1 : c * 2 ^ (q + (1074 : Nat)).toNat = n * 2 ^ 1074) (hn : 0 < n) : 0 < c := by
  rcases Nat.eq_zero_or_pos c with rfl | hc
  · rw [Nat.zero_mul] at h1
    exact absurd h1.symm (Nat.ne_of_gt (Nat.mul_pos hn (Nat.two_pow_pos _)))
  · exact hc
/-- a quotient of whole numbers -/
theorem Sy.quo {x y : UInt64} {s : Bool} {n m : Nat} (hx : Sy x s n) (hy : Sy y false m) (hm : 0 < m) : val64 (ddiv x y) = roundRatio b64 s n m 0 := by
  obtain ⟨c, q, h1, h2, h3⟩ := hx
  obtain ⟨d, w, g1, g2, g3⟩ := hy
  have hd : 0 < d := Sy.pos (x := y) (s := false) g3 hm
  rw [val64_ddiv, h1, g1]
  show (if d = 0 then _ else _) = _
  rw [if_neg (by omega)]
  have hs : (s != false) = s := by cases s <;> rfl
  rw [hs]
  have hw : w ≤ 971 := by
    have := val64_fits y
    rw [g1] at this
    have := this.2.2.1
    rw [own_qmax] at this
    exact this
  have key := own_shift (A := c * m) (X := n * d) (e := q - w) (q := 0) (K := 4000) (by omega) (by omega) (by
    have i1 : (q - w + (4000 : Nat)).toNat + (w + (1074 : Nat)).toNat = (q + (1074 : Nat)).toNat + 4000 := by omega
    refine Nat.eq_of_mul_eq_mul_right (Nat.mul_pos (Nat.two_pow_pos (w + (1074 : Nat)).toNat) (Nat.two_pow_pos 1074)) ?_
    have i2 : 2 ^ (q - w + (4000 : Nat)).toNat * 2 ^ (w + (1074 : Nat)).toNat = 2 ^ (q + (1074 : Nat)).toNat * 2 ^ 4000 := by rw [← Nat.pow_add, ← Nat.pow_add, i1]
    have i3 : ((0 : Int) + (4000 : Nat)).toNat = 4000 := by omega
    rw [i3]
    generalize 2 ^ (q - w + (4000 : Nat)).toNat = E1 at *
    generalize 2 ^ (w + (1074 : Nat)).toNat = E2 at *
    generalize 2 ^ (q + (1074 : Nat)).toNat = E3 at *
    generalize 2 ^ 4000 = E4 at *
    generalize 2 ^ 1074 = P at *
    calc c * m * E1 * (E2 * P) = (m * P) * (c * (E1 * E2)) := by ac_rfl
      _ = (c * E3) * ((m * P) * E4) := by rw [i2]; ac_rfl
      _ = n * d * E4 * (E2 * P) := by rw [h3, ← g3]; ac_rfl)
  exact roundRatio_congr hd hm key
theorem own_zround (s : Bool) (A B : Nat) : zval b64 (roundRatio b64 s A B 0) = signed s (zmag b64 (roundRatio b64 s A B 0)) := by
  unfold zval
  rw [sgn_roundRatio]
theorem own_zfin {c : Nat} {q : Int} (s : Bool) : zmag b64 (.fin s c q) = c * 2 ^ (q + (1074 : Nat)).toNat := by
  show inUnits c q b64.qmin = _
  rw [own_qmin]
  unfold inUnits
  congr 2
/-- between two neighbouring whole numbers, the quotient rounds to neither -/
theorem own_between {s : Bool} {A N M r : Nat} (hA : A = M * N + r) (h1 : 1 ≤ r) (h2 : r < N) (hN : N ≤ 2 ^ 20) (hM : M < 2 ^ 32) : M * 2 ^ 1074 < zmag b64 (roundRatio b64 s A N 0) ∧ zmag b64 (roundRatio b64 s A N 0) < (M + 1) * 2 ^ 1074 := by
  have hN0 : 0 < N := by omega
  have hp : 0 < 2 ^ 1074 := Nat.two_pow_pos _
  constructor
  · obtain ⟨c, q, f1, f2, f3⟩ := own_rep (M * 2 ^ 20 + 1) 20 (by omega) (by omega)
    have k := zmag_roundRatio_ge (s := s) (A := A) (e := 0) (e0 := -1074) (V := .fin false c q) good_b64 hN0 f1 (by rw [own_qmin]; omega) (by omega) (by
      rw [own_qmin, own_zfin]
      have e1 : ((-1074 : Int) - -1074).toNat = 0 := by omega
      have e2 : inUnits A 0 (-1074) = A * 2 ^ 1074 := by unfold inUnits; congr 2
      rw [e1, e2, Nat.pow_zero, Nat.mul_one]
      refine Nat.le_of_mul_le_mul_right ?_ (Nat.two_pow_pos 20)
      generalize 2 ^ (q + (1074 : Nat)).toNat = R at *
      generalize 2 ^ 1074 = P at *
      have e3 : c * R * N * 2 ^ 20 = ((M * 2 ^ 20 + 1) * N) * P := by
        calc c * R * N * 2 ^ 20 = (c * R * 2 ^ 20) * N := by ac_rfl
          _ = ((M * 2 ^ 20 + 1) * N) * P := by rw [f3]; ac_rfl
      have e4 : A * P * 2 ^ 20 = (A * 2 ^ 20) * P := by ac_rfl
      rw [e3, e4]
      refine Nat.mul_le_mul_right _ ?_
      rw [hA]
      have e5 : (M * 2 ^ 20 + 1) * N = M * N * 2 ^ 20 + N := by rw [Nat.add_mul, Nat.one_mul, Nat.mul_right_comm]
      rw [e5]
      generalize M * N = V
      omega)
    rw [own_zfin] at k
    have h3 : M * 2 ^ 1074 < c * 2 ^ (q + (1074 : Nat)).toNat := by
      refine Nat.lt_of_mul_lt_mul_right (a := 2 ^ 20) ?_
      rw [f3]
      generalize 2 ^ 1074 = P at *
      have e6 : M * P * 2 ^ 20 = (M * 2 ^ 20) * P := by ac_rfl
      rw [e6]
      exact Nat.mul_lt_mul_of_pos_right (by omega) hp
    exact Nat.lt_of_lt_of_le h3 k
  · obtain ⟨c, q, f1, f2, f3⟩ := own_rep (M * 2 ^ 20 + (2 ^ 20 - 1)) 20 (by omega) (by omega)
    have k := zmag_roundRatio_le (s := s) (A := A) (e := 0) (e0 := -1074) (V := .fin false c q) good_b64 hN0 f1 (by intro hq; cases hq) (by rw [own_qmin]; omega) (by omega) (by
      rw [own_qmin, own_zfin]
      have e1 : ((-1074 : Int) - -1074).toNat = 0 := by omega
      have e2 : inUnits A 0 (-1074) = A * 2 ^ 1074 := by unfold inUnits; congr 2
      rw [e1, e2, Nat.pow_zero, Nat.mul_one]
      refine Nat.le_of_mul_le_mul_right ?_ (Nat.two_pow_pos 20)
      generalize 2 ^ (q + (1074 : Nat)).toNat = R at *
      generalize 2 ^ 1074 = P at *
      have e3 : c * R * N * 2 ^ 20 = ((M * 2 ^ 20 + (2 ^ 20 - 1)) * N) * P := by
        calc c * R * N * 2 ^ 20 = (c * R * 2 ^ 20) * N := by ac_rfl
          _ = ((M * 2 ^ 20 + (2 ^ 20 - 1)) * N) * P := by rw [f3]; ac_rfl
      have e4 : A * P * 2 ^ 20 = (A * 2 ^ 20) * P := by ac_rfl
      rw [e3, e4]
      refine Nat.mul_le_mul_right _ ?_
      rw [hA]
      have e5 : (M * 2 ^ 20 + (2 ^ 20 - 1)) * N = M * N * 2 ^ 20 + (2 ^ 20 - 1) * N := by rw [Nat.add_mul, Nat.mul_right_comm M]
      rw [e5]
      generalize M * N = V
      omega)
    rw [own_zfin] at k
    have h3 : c * 2 ^ (q + (1074 : Nat)).toNat < (M + 1) * 2 ^ 1074 := by
      refine Nat.lt_of_mul_lt_mul_right (a := 2 ^ 20) ?_
      rw [f3]
      generalize 2 ^ 1074 = P at *
      have e6 : (M + 1) * P * 2 ^ 20 = ((M + 1) * 2 ^ 20) * P := by ac_rfl
      rw [e6]
      exact Nat.mul_lt_mul_of_pos_right (by omega) hp
    exact Nat.lt_of_le_of_lt k h3
theorem own_zl2d {a : Int64} (h : a.toInt.natAbs < 2 ^ 53) : zval b64 (val64 (l2d a)) = a.toInt * ((2 ^ 1074 : Nat) : Int) := by
  have hs : Small53 a := by unfold Small53; omega
  exact DInt_zval (l2d_whole hs)
/-- a whole quotient, by its sign -/
theorem own_zquo {a b : Int64} (ha : a.toInt.natAbs < 2 ^ 53) (hb : 0 < b.toInt) (hb' : b.toInt < 2 ^ 53) : val64 (ddiv (l2d a) (l2d b)) = roundRatio b64 (decide (a.toInt < 0)) a.toInt.natAbs b.toInt.natAbs 0 := by
  have h1 := Sy.of_l2d ha
  have h2 := Sy.of_l2d (a := b) (by omega)
  have hf : decide (b.toInt < 0) = false := by simp; omega
  rw [hf] at h2
  exact h1.quo h2 (by omega)
theorem own_nnq {a b : Int64} (hb : 0 < b.toInt) (hb' : b.toInt < 2 ^ 53) : val64 (ddiv (l2d a) (l2d b)) ≠ .nan := by
  obtain ⟨c, q, h1⟩ := l2d_shape a
  have h2 := Sy.of_l2d (a := b) (by omega)
  obtain ⟨d, w, g1, g2, g3⟩ := h2
  have hd : 0 < d := Sy.pos (x := l2d b) (s := false) g3 (by omega)
  rw [val64_ddiv, h1, g1]
  show (if d = 0 then _ else _) ≠ _
  rw [if_neg (by omega)]
  exact roundRatio_ne_nan _ _ _ _ _
theorem own_q1 (a : Int64) : dcmp (ddiv (l2d a) (l2d 1)) (l2d a) = some .eq := by
  have e1 : val64 (l2d 1) = .fin false (1 * 2 ^ 52) (-((52 : Nat) : Int)) := by decide +kernel
  have e2 : val64 (ddiv (l2d a) (l2d 1)) = val64 (l2d a) := by
    rw [val64_ddiv]
    have := quotient_one good_b64 (val64_fits (l2d a)) 52
    first | exact (by rw [e1]; exact this) | (rw [e1]; simpa using this)
  have hn : val64 (l2d a) ≠ .nan := by
    obtain ⟨c, q, h1⟩ := l2d_shape a
    rw [h1]
    intro hq
    cases hq
  rw [dcmp_zval (by rw [e2]; exact hn) hn, e2, compare_ite, if_neg (by omega), if_pos rfl]
end OwnSy
section OwnRx
open Jvm.FP.Core
theorem PP_pos {PP : Nat} (hPP : PP = 2 ^ 1074) : 0 < PP := by rw [hPP]; exact Nat.two_pow_pos _
/-- the magnitude in units of 2^-1074 -/
theorem own_mag {c : Nat} {q : Int} (s : Bool) : zmag b64 (.fin s c q) = c * 2 ^ (q + (1074 : Nat)).toNat := own_zfin s
theorem own_qlo {x : UInt64} {s : Bool} {c : Nat} {q : Int} (h : val64 x = .fin s c q) : -1074 ≤ q ∧ q ≤ 971 := by
  have := val64_fits x
  rw [h] at this
  have a := this.2.1
  have b := this.2.2.1
  rw [own_qmin] at a
  rw [own_qmax] at b
  exact ⟨a, b⟩
/-- a quotient of two doubles against a double V -/
theorem own_qle {PP : Nat} (hPP : PP = 2 ^ 1074) {x y : UInt64} {c d : Nat} {q w : Int} (hx : val64 x = .fin false c q) (hy : val64 y = .fin false d w) (hd : 0 < d) {V : Datum} (hV : fits b64 V) (hn : V ≠ .nan)
    (h : zmag b64 (val64 x) * PP ≤ zmag b64 V * zmag b64 (val64 y)) : zmag b64 (val64 (ddiv x y)) ≤ zmag b64 V := by
  have e0 := val64_ddiv x y
  rw [hx, hy] at e0
  have e1 : quotient b64 (.fin false c q) (.fin false d w) = roundRatio b64 false c d (q - w) := by
    show (if d = 0 then _ else _) = _
    rw [if_neg (by omega)]
    rfl
  rw [e0, e1]
  have bq := own_qlo hx
  have bw := own_qlo hy
  refine zmag_roundRatio_le good_b64 hd hV hn (e0 := -4000) (by rw [own_qmin]; omega) (by omega) ?_
  rw [hx, hy, own_mag, own_mag] at h
  unfold inUnits
  have i0 : (b64.qmin - -4000).toNat = 2926 := by rw [own_qmin]; omega
  have i1 : (q - w - -4000).toNat + (w + (1074 : Nat)).toNat = (q + (1074 : Nat)).toNat + 4000 := by omega
  rw [i0]
  refine Nat.le_of_mul_le_mul_right ?_ (Nat.two_pow_pos (w + (1074 : Nat)).toNat)
  have i2 : 2 ^ (q - w - -4000).toNat * 2 ^ (w + (1074 : Nat)).toNat = 2 ^ (q + (1074 : Nat)).toNat * 2 ^ 4000 := by rw [← Nat.pow_add, ← Nat.pow_add, i1]
  have i3 : 2 ^ 4000 = PP * 2 ^ 2926 := by rw [hPP, ← Nat.pow_add]
  rw [i3] at i2
  generalize 2 ^ (q - w - -4000).toNat = E1 at *
  generalize 2 ^ (w + (1074 : Nat)).toNat = E2 at *
  generalize 2 ^ (q + (1074 : Nat)).toNat = E3 at *
  generalize 2 ^ 2926 = E4 at *
  clear i3
  calc c * E1 * E2 = c * (E1 * E2) := by ac_rfl
    _ = (c * E3 * PP) * E4 := by rw [i2]; ac_rfl
    _ ≤ (zmag b64 V * (d * E2)) * E4 := Nat.mul_le_mul_right _ h
    _ = zmag b64 V * E4 * d * E2 := by ac_rfl
theorem own_qge {PP : Nat} (hPP : PP = 2 ^ 1074) {x y : UInt64} {c d : Nat} {q w : Int} (hx : val64 x = .fin false c q) (hy : val64 y = .fin false d w) (hd : 0 < d) {V : Datum} (hV : fits b64 V)
    (h : zmag b64 V * zmag b64 (val64 y) ≤ zmag b64 (val64 x) * PP) : zmag b64 V ≤ zmag b64 (val64 (ddiv x y)) := by
  have e0 := val64_ddiv x y
  rw [hx, hy] at e0
  have e1 : quotient b64 (.fin false c q) (.fin false d w) = roundRatio b64 false c d (q - w) := by
    show (if d = 0 then _ else _) = _
    rw [if_neg (by omega)]
    rfl
  rw [e0, e1]
  have bq := own_qlo hx
  have bw := own_qlo hy
  refine zmag_roundRatio_ge good_b64 hd hV (e0 := -4000) (by rw [own_qmin]; omega) (by omega) ?_
  rw [hx, hy, own_mag, own_mag] at h
  unfold inUnits
  have i0 : (b64.qmin - -4000).toNat = 2926 := by rw [own_qmin]; omega
  have i1 : (q - w - -4000).toNat + (w + (1074 : Nat)).toNat = (q + (1074 : Nat)).toNat + 4000 := by omega
  rw [i0]
  refine Nat.le_of_mul_le_mul_right ?_ (Nat.two_pow_pos (w + (1074 : Nat)).toNat)
  have i2 : 2 ^ (q - w - -4000).toNat * 2 ^ (w + (1074 : Nat)).toNat = 2 ^ (q + (1074 : Nat)).toNat * 2 ^ 4000 := by rw [← Nat.pow_add, ← Nat.pow_add, i1]
  have i3 : 2 ^ 4000 = PP * 2 ^ 2926 := by rw [hPP, ← Nat.pow_add]
  rw [i3] at i2
  generalize 2 ^ (q - w - -4000).toNat = E1 at *
  generalize 2 ^ (w + (1074 : Nat)).toNat = E2 at *
  generalize 2 ^ (q + (1074 : Nat)).toNat = E3 at *
  generalize 2 ^ 2926 = E4 at *
  clear i3
  calc zmag b64 V * E4 * d * E2 = (zmag b64 V * (d * E2)) * E4 := by ac_rfl
    _ ≤ (c * E3 * PP) * E4 := Nat.mul_le_mul_right _ h
    _ = c * (E1 * E2) := by rw [i2]; ac_rfl
    _ = c * E1 * E2 := by ac_rfl
/-- a sum of two doubles of no sign -/
theorem own_sumR {x y : UInt64} {c d : Nat} {q w : Int} (hx : val64 x = .fin false c q) (hy : val64 y = .fin false d w) : ∃ A : Nat, val64 (dadd x y) = roundRatio b64 false A 1 (min q w) ∧ -1074 ≤ min q w ∧ A * 2 ^ (min q w + (1074 : Nat)).toNat = zmag b64 (val64 x) + zmag b64 (val64 y) := by
  have bq := own_qlo hx
  have bw := own_qlo hy
  refine ⟨inUnits c q (min q w) + inUnits d w (min q w), ?_, by omega, ?_⟩
  · have e0 := val64_dadd x y
    rw [hx, hy] at e0
    rw [e0]
    show roundRatio b64 (sumSign false false (sumUnits false c q false d w (min q w))) (sumUnits false c q false d w (min q w)).natAbs 1 (min q w) = _
    have e2 : sumUnits false c q false d w (min q w) = ((inUnits c q (min q w) : Nat) : Int) + ((inUnits d w (min q w) : Nat) : Int) := by simp [sumUnits, signed]
    rw [e2, own_natAbs]
    have e3 : sumSign false false (((inUnits c q (min q w) : Nat) : Int) + ((inUnits d w (min q w) : Nat) : Int)) = false := by
      unfold sumSign
      split
      · rfl
      · simp; omega
    rw [e3]
  · rw [hx, hy, own_mag, own_mag, Nat.add_mul, own_iu (by omega) (by omega), own_iu (by omega) (by omega)]
theorem own_sle {A : Nat} {e : Int} {V : Datum} (he : -1074 ≤ e) (hV : fits b64 V) (hn : V ≠ .nan) (h : A * 2 ^ (e + (1074 : Nat)).toNat ≤ zmag b64 V) : zmag b64 (roundRatio b64 false A 1 e) ≤ zmag b64 V := by
  refine zmag_roundRatio_le good_b64 (by decide) hV hn (e0 := -1074) (by rw [own_qmin]; omega) he ?_
  unfold inUnits
  have i0 : (b64.qmin - -1074).toNat = 0 := by rw [own_qmin]; omega
  have i1 : (e - -1074).toNat = (e + (1074 : Nat)).toNat := by omega
  rw [i0, i1, Nat.pow_zero, Nat.mul_one, Nat.mul_one]
  exact h
theorem own_sge {A : Nat} {e : Int} {V : Datum} (he : -1074 ≤ e) (hV : fits b64 V) (h : zmag b64 V ≤ A * 2 ^ (e + (1074 : Nat)).toNat) : zmag b64 V ≤ zmag b64 (roundRatio b64 false A 1 e) := by
  refine zmag_roundRatio_ge good_b64 (by decide) hV (e0 := -1074) (by rw [own_qmin]; omega) he ?_
  unfold inUnits
  have i0 : (b64.qmin - -1074).toNat = 0 := by rw [own_qmin]; omega
  have i1 : (e - -1074).toNat = (e + (1074 : Nat)).toNat := by omega
  rw [i0, i1, Nat.pow_zero, Nat.mul_one, Nat.mul_one]
  exact h
/-- the double n / 2^k as a datum -/
theorem own_repV {PP : Nat} (hPP : PP = 2 ^ 1074) (n k : Nat) (hn : n < 2 ^ 53) (hk : k ≤ 1000) : ∃ V : Datum, fits b64 V ∧ V ≠ .nan ∧ zmag b64 V * 2 ^ k = n * PP := by
  obtain ⟨c, q, h1, h2, h3⟩ := own_rep n k hn hk
  exact ⟨.fin false c q, h1, (by intro hq; cases hq), (by rw [own_mag, hPP]; exact h3)⟩
theorem own_repN {PP : Nat} (hPP : PP = 2 ^ 1074) (n k : Nat) (hn : n < 2 ^ 53) (hk : k ≤ 900) : ∃ V : Datum, fits b64 V ∧ V ≠ .nan ∧ zmag b64 V = n * 2 ^ k * PP := by
  by_cases h0 : n = 0
  · refine ⟨.fin false 0 b64.qmin, zero_fits good_b64 false, (by intro hq; cases hq), ?_⟩
    rw [h0, Nat.zero_mul, Nat.zero_mul]
    show inUnits 0 b64.qmin b64.qmin = 0
    unfold inUnits
    exact Nat.zero_mul _
  · have hL : n.log2 < 53 := (Nat.log2_lt h0).mpr hn
    have hl1 : 2 ^ n.log2 ≤ n := Nat.log2_self_le h0
    have hl2 : n < 2 ^ (n.log2 + 1) := Nat.lt_log2_self
    refine ⟨.fin false (n * 2 ^ (52 - n.log2)) ((k : Int) - ((52 - n.log2 : Nat) : Int)), ⟨?_, ?_, ?_, Or.inr ?_⟩, (by intro hq; cases hq), ?_⟩
    · rw [own_p]
      have e1 : 2 ^ 53 = 2 ^ (n.log2 + 1) * 2 ^ (52 - n.log2) := by rw [← Nat.pow_add]; congr 1; omega
      rw [e1]
      exact Nat.mul_lt_mul_of_pos_right hl2 (Nat.two_pow_pos _)
    · rw [own_qmin]; omega
    · rw [own_qmax]; omega
    · rw [own_tails]
      have e1 : 2 ^ 52 = 2 ^ n.log2 * 2 ^ (52 - n.log2) := by rw [← Nat.pow_add]; congr 1; omega
      rw [e1]
      exact Nat.mul_le_mul_right _ hl1
    · rw [own_mag]
      have e1 : ((k : Int) - ((52 - n.log2 : Nat) : Int) + (1074 : Nat)).toNat = 1074 + k - (52 - n.log2) := by omega
      rw [e1, hPP, Nat.mul_assoc, Nat.mul_assoc, ← Nat.pow_add, ← Nat.pow_add]
      congr 2
      omega
/-- a long of no sign, as a double -/
theorem own_long {PP : Nat} (hPP : PP = 2 ^ 1074) {a : Int64} {n : Nat} (h : a.toInt = n) : ∃ c q, val64 (l2d a) = .fin false c q ∧ (n = 0 → zmag b64 (val64 (l2d a)) = 0) ∧ (0 < n → PP ≤ zmag b64 (val64 (l2d a))) ∧ zmag b64 (val64 (l2d a)) ≤ 2 ^ 63 * PP := by
  obtain ⟨c, q, h1⟩ := l2d_shape a
  have hs : decide (a.toInt < 0) = false := by rw [h]; simp
  rw [hs] at h1
  have e0 := val64_l2d a
  have e1 : round b64 (ofInt a.toInt) = roundRatio b64 false n 1 0 := by
    rw [h]
    show roundRatio b64 (decide ((n : Int) < 0)) (n : Int).natAbs 1 0 = _
    have : decide ((n : Int) < 0) = false := by simp
    rw [this]
    rfl
  rw [e1] at e0
  have e2 : ((0 : Int) + (1074 : Nat)).toNat = 1074 := by omega
  have hlt := a.toInt_lt
  refine ⟨c, q, h1, ?_, ?_, ?_⟩
  · intro h0
    rw [e0, h0]
    show zmag b64 (.fin false 0 b64.qmin) = 0
    show inUnits 0 b64.qmin b64.qmin = 0
    unfold inUnits
    exact Nat.zero_mul _
  · intro h0
    obtain ⟨V, v1, v2, v3⟩ := own_repN hPP 1 0 (by decide) (by decide)
    rw [Nat.pow_zero, Nat.one_mul] at v3
    rw [e0, ← v3]
    refine own_sge (by omega) v1 ?_
    rw [e2, v3, hPP]
    exact Nat.le_mul_of_pos_left _ h0
  · obtain ⟨V, v1, v2, v3⟩ := own_repN hPP 1 63 (by decide) (by decide)
    rw [Nat.one_mul] at v3
    rw [e0, ← v3]
    refine own_sle (by omega) v1 v2 ?_
    rw [e2, v3, hPP]
    refine Nat.mul_le_mul_right _ ?_
    clear v3 e0 e1 e2 hPP
    omega
/-- what is no greater than 2^64 is finite -/
theorem own_fin64 {PP : Nat} (hPP : PP = 2 ^ 1074) {s : Bool} {A B : Nat} {e : Int} (h : zmag b64 (roundRatio b64 s A B e) ≤ 2 ^ 64 * PP) : ∃ c q, roundRatio b64 s A B e = .fin s c q := by
  rcases roundRatio_cases b64 s A B e with ⟨c, q, hR⟩ | hR
  · exact ⟨c, q, hR⟩
  · exfalso
    rw [hR] at h
    have e1 : zmag b64 (.inf s) = 2 ^ 1024 * PP := by
      show b64.tails * 2 ^ (b64.exps - 2) = _
      have e2 : b64.exps - 2 = 2046 := by decide
      rw [own_tails, e2, hPP, ← Nat.pow_add, ← Nat.pow_add]
    rw [e1] at h
    have := Nat.le_of_mul_le_mul_right h (PP_pos hPP)
    exact absurd this (Nat.not_le.mpr (Nat.pow_lt_pow_right (by decide) (by decide)))
def VZ (x : UInt64) (z : Nat) : Prop := val64 x ≠ .nan ∧ zval b64 (val64 x) = z
theorem own_vz {x : UInt64} {c : Nat} {q : Int} (h : val64 x = .fin false c q) : VZ x (zmag b64 (val64 x)) := by
  refine ⟨(by rw [h]; intro hq; cases hq), ?_⟩
  rw [h]
  rfl
theorem VZ.cmp {x y : UInt64} {a b : Nat} (hx : VZ x a) (hy : VZ y b) : dcmp x y = some (compare (a : Int) (b : Int)) := by
  rw [dcmp_zval hx.1 hy.1, hx.2, hy.2]
/-- the share of the down time: any two longs of no sign, not both 0 -/
theorem own_share {PP : Nat} (hPP : PP = 2 ^ 1074) {u d : Int64} {nu nd : Nat} (hu : u.toInt = nu) (hd : d.toInt = nd) (hp : 0 < nu + nd) : val64 (dadd (l2d u) (l2d d)) ≠ .nan ∧ ∃ z : Nat, VZ (ddiv (l2d d) (dadd (l2d u) (l2d d))) z ∧ z ≤ PP ∧ (nd = 0 → z = 0) ∧ (0 < nd → 0 < z) ∧ (nu = 0 → z = PP) := by
  obtain ⟨c, q, a1, a2, a3, a4⟩ := own_long hPP hu
  obtain ⟨k, w, b1, b2, b3, b4⟩ := own_long hPP hd
  obtain ⟨A, s1, s2, s3⟩ := own_sumR a1 b1
  have hD := val64_fits (l2d d)
  -- the sum: at least each, finite
  have g1 : zmag b64 (val64 (l2d d)) ≤ zmag b64 (val64 (dadd (l2d u) (l2d d))) := by
    rw [s1]
    exact own_sge s2 hD (by rw [s3]; omega)
  have g1' : zmag b64 (val64 (l2d u)) ≤ zmag b64 (val64 (dadd (l2d u) (l2d d))) := by
    rw [s1]
    exact own_sge s2 (val64_fits (l2d u)) (by rw [s3]; omega)
  obtain ⟨V, v1, v2, v3⟩ := own_repN hPP 1 64 (by decide) (by decide)
  rw [Nat.one_mul] at v3
  have g2 : zmag b64 (val64 (dadd (l2d u) (l2d d))) ≤ 2 ^ 64 * PP := by
    rw [s1, ← v3]
    refine own_sle s2 v1 v2 ?_
    rw [s3, v3]
    have : 2 ^ 64 * PP = 2 ^ 63 * PP + 2 ^ 63 * PP := by rw [← Nat.add_mul]
    rw [this]
    exact Nat.add_le_add a4 b4
  obtain ⟨cs, qs, f1⟩ := own_fin64 hPP (by rw [← s1]; exact g2)
  have f2 := s1.trans f1
  have hpos : 0 < zmag b64 (val64 (dadd (l2d u) (l2d d))) := by
    rcases Nat.eq_zero_or_pos nd with h0 | h0
    · exact Nat.lt_of_lt_of_le (PP_pos hPP) (Nat.le_trans (a3 (by omega)) g1')
    · exact Nat.lt_of_lt_of_le (PP_pos hPP) (Nat.le_trans (b3 h0) g1)
  have hcs : 0 < cs := by
    rcases Nat.eq_zero_or_pos cs with rfl | hc
    · rw [f2, own_mag, Nat.zero_mul] at hpos
      exact absurd hpos (Nat.lt_irrefl _)
    · exact hc
  -- 1.0
  obtain ⟨V1, w1, w2, w3⟩ := own_repN hPP 1 0 (by decide) (by decide)
  rw [Nat.pow_zero, Nat.one_mul] at w3
  have r1 : zmag b64 (val64 (ddiv (l2d d) (dadd (l2d u) (l2d d)))) ≤ PP := by
    have := own_qle hPP b1 f2 hcs w1 w2 (by rw [w3, Nat.mul_comm]; exact Nat.mul_le_mul_left _ g1)
    rw [w3] at this
    exact this
  have hq : val64 (ddiv (l2d d) (dadd (l2d u) (l2d d))) = roundRatio b64 false k cs (w - qs) := by
    have e0 := val64_ddiv (l2d d) (dadd (l2d u) (l2d d))
    rw [b1, f2] at e0
    rw [e0]
    show (if cs = 0 then _ else _) = _
    rw [if_neg (by omega)]
    rfl
  obtain ⟨cr, qr, f3⟩ := own_fin64 hPP (by rw [← hq]; exact Nat.le_trans r1 (Nat.le_mul_of_pos_left _ (Nat.two_pow_pos _)))
  have f4 := hq.trans f3
  refine ⟨(by rw [f2]; intro h; cases h), _, own_vz f4, r1, ?_, ?_, ?_⟩
  · intro h0
    have := own_qle hPP b1 f2 hcs (V := .fin false 0 b64.qmin) (zero_fits good_b64 false) (by intro h; cases h) (by rw [b2 h0, Nat.zero_mul]; exact Nat.zero_le _)
    have e3 : zmag b64 (.fin false 0 b64.qmin) = 0 := by
      show inUnits 0 b64.qmin b64.qmin = 0
      unfold inUnits
      exact Nat.zero_mul _
    rw [e3] at this
    omega
  · intro h0
    obtain ⟨V2, x1, x2, x3⟩ := own_repV hPP 1 64 (by decide) (by decide)
    rw [Nat.one_mul] at x3
    have := own_qge hPP b1 f2 hcs x1 (by
      refine Nat.le_of_mul_le_mul_right ?_ (Nat.two_pow_pos 64)
      calc zmag b64 V2 * zmag b64 (val64 (dadd (l2d u) (l2d d))) * 2 ^ 64 = (zmag b64 V2 * 2 ^ 64) * zmag b64 (val64 (dadd (l2d u) (l2d d))) := Nat.mul_right_comm _ _ _
        _ ≤ PP * (2 ^ 64 * PP) := by rw [x3]; exact Nat.mul_le_mul_left _ g2
        _ ≤ zmag b64 (val64 (l2d d)) * (2 ^ 64 * PP) := Nat.mul_le_mul_right _ (b3 h0)
        _ = zmag b64 (val64 (l2d d)) * PP * 2 ^ 64 := by rw [Nat.mul_comm (2 ^ 64) PP, Nat.mul_assoc])
    have hV2 : 0 < zmag b64 V2 := by
      rcases Nat.eq_zero_or_pos (zmag b64 V2) with h | h
      · rw [h, Nat.zero_mul] at x3
        have := PP_pos hPP
        omega
      · exact h
    omega
  · intro h0
    have g3 : zmag b64 (val64 (dadd (l2d u) (l2d d))) ≤ zmag b64 (val64 (l2d d)) := by
      rw [s1]
      exact own_sle s2 hD (by rw [b1]; intro h; cases h) (by rw [s3, a2 h0]; omega)
    have := own_qge hPP b1 f2 hcs w1 (by rw [w3, Nat.mul_comm]; exact Nat.mul_le_mul_right _ g3)
    rw [w3] at this
    omega
theorem own_tie {A B A' B' X Y P : Nat} (pp : 0 < P) (hB : 0 < B) (hB' : 0 < B') (hlt : Y < X) (n1 : ¬ (X * B' ≤ A' * P)) (n2 : ¬ (A * P ≤ Y * B))
    (d1 : (((A * P : Nat) : Int) - (X : Int) * (B : Int)).natAbs ≤ (((A * P : Nat) : Int) - (Y : Int) * (B : Int)).natAbs) (d2 : (((A' * P : Nat) : Int) - (Y : Int) * (B' : Int)).natAbs ≤ (((A' * P : Nat) : Int) - (X : Int) * (B' : Int)).natAbs)
    (h : A * B' ≤ A' * B) (hc : A * B' = A' * B → False) : False := by
  have e1 : (X : Int) * (B : Int) = ((X * B : Nat) : Int) := (Int.natCast_mul _ _).symm
  have e2 : (Y : Int) * (B : Int) = ((Y * B : Nat) : Int) := (Int.natCast_mul _ _).symm
  have e3 : (X : Int) * (B' : Int) = ((X * B' : Nat) : Int) := (Int.natCast_mul _ _).symm
  have e4 : (Y : Int) * (B' : Int) = ((Y * B' : Nat) : Int) := (Int.natCast_mul _ _).symm
  rw [e1, e2] at d1
  rw [e3, e4] at d2
  -- A P < X B
  have p1 : A * P * B' ≤ A' * P * B := by
    calc A * P * B' = (A * B') * P := Nat.mul_right_comm _ _ _
      _ ≤ (A' * B) * P := Nat.mul_le_mul_right _ h
      _ = A' * P * B := Nat.mul_right_comm _ _ _
  have p2 : A' * P * B < X * B' * B := Nat.mul_lt_mul_of_pos_right (Nat.lt_of_not_le n1) hB
  have p3 : A * P < X * B := by
    refine Nat.lt_of_mul_lt_mul_right (a := B') ?_
    calc A * P * B' ≤ A' * P * B := p1
      _ < X * B' * B := p2
      _ = X * B * B' := Nat.mul_right_comm _ _ _
  have p4 : Y * B * B' < A * P * B' := Nat.mul_lt_mul_of_pos_right (Nat.lt_of_not_le n2) hB'
  have p5 : Y * B' < A' * P := by
    refine Nat.lt_of_mul_lt_mul_right (a := B) ?_
    calc Y * B' * B = Y * B * B' := Nat.mul_right_comm _ _ _
      _ < A * P * B' := p4
      _ ≤ A' * P * B := p1
  have q1 : X * B + Y * B ≤ 2 * (A * P) := by
    have := Nat.lt_of_not_le n2
    generalize X * B = xb at *
    generalize Y * B = yb at *
    generalize A * P = ap at *
    omega
  have q2 : 2 * (A' * P) ≤ X * B' + Y * B' := by
    have := Nat.lt_of_not_le n1
    generalize X * B' = xb at *
    generalize Y * B' = yb at *
    generalize A' * P = ap at *
    omega
  have q3 : (X + Y) * (B * B') ≤ 2 * (A * P * B') := by
    calc (X + Y) * (B * B') = (X * B + Y * B) * B' := by rw [← Nat.add_mul, Nat.mul_assoc]
      _ ≤ 2 * (A * P) * B' := Nat.mul_le_mul_right _ q1
      _ = 2 * (A * P * B') := Nat.mul_assoc _ _ _
  have q4 : 2 * (A' * P * B) ≤ (X + Y) * (B * B') := by
    calc 2 * (A' * P * B) = 2 * (A' * P) * B := (Nat.mul_assoc _ _ _).symm
      _ ≤ (X * B' + Y * B') * B := Nat.mul_le_mul_right _ q2
      _ = (X + Y) * (B * B') := by rw [← Nat.add_mul, Nat.mul_assoc, Nat.mul_comm B' B]
  have q5 : A' * P * B ≤ A * P * B' := by
    generalize A * P * B' = a1 at *
    generalize A' * P * B = a2 at *
    generalize (X + Y) * (B * B') = a3 at *
    omega
  refine hc (Nat.le_antisymm h (Nat.le_of_mul_le_mul_right ?_ pp))
  calc A' * B * P = A' * P * B := Nat.mul_right_comm _ _ _
    _ ≤ A * P * B' := q5
    _ = A * B' * P := Nat.mul_right_comm _ _ _
/-- rounding keeps the order -/
theorem own_mono {A B A' B' : Nat} (hB : 0 < B) (hB' : 0 < B') (h1 : A ≤ B) (h1' : A' ≤ B') (h : A * B' ≤ A' * B) : zmag b64 (roundRatio b64 false A B 0) ≤ zmag b64 (roundRatio b64 false A' B' 0) := by
  obtain ⟨PP, hPP⟩ : ∃ PP : Nat, PP = 2 ^ 1074 := ⟨_, rfl⟩
  have pp := PP_pos hPP
  obtain ⟨V1, w1, w2, w3⟩ := own_repN hPP 1 0 (by decide) (by decide)
  rw [Nat.pow_zero, Nat.one_mul] at w3
  have iu : ∀ a : Nat, inUnits a 0 (-1074) = a * PP := fun a => by
    unfold inUnits
    rw [hPP]
    congr 2
  have i0 : (b64.qmin - -1074).toNat = 0 := by rw [own_qmin]; omega
  have fin : ∀ {a b : Nat}, 0 < b → a ≤ b → ∃ c q, roundRatio b64 false a b 0 = .fin false c q := by
    intro a b hb hab
    refine own_fin64 hPP ?_
    have := zmag_roundRatio_le (s := false) (A := a) (e := 0) good_b64 hb w1 w2 (e0 := -1074) (by rw [own_qmin]; omega) (by omega) (by
      rw [iu, i0, w3, Nat.pow_zero, Nat.mul_one, Nat.mul_comm]
      exact Nat.mul_le_mul_left _ hab)
    rw [w3] at this
    exact Nat.le_trans this (Nat.le_mul_of_pos_left _ (Nat.two_pow_pos _))
  obtain ⟨c, q, f1⟩ := fin hB h1
  obtain ⟨c', q', f2⟩ := fin hB' h1'
  have t1 := roundRatio_fits good_b64 false A hB 0
  have t2 := roundRatio_fits good_b64 false A' hB' 0
  refine Nat.le_of_not_lt fun hlt => ?_
  -- neither bound may hold
  have n1 : ¬ (zmag b64 (roundRatio b64 false A B 0) * B' ≤ A' * PP) := fun hq => by
    have := zmag_roundRatio_ge (s := false) (A := A') (e := 0) good_b64 hB' t1 (e0 := -1074) (by rw [own_qmin]; omega) (by omega) (by
      rw [iu, i0, Nat.pow_zero, Nat.mul_one]
      exact hq)
    omega
  have n2 : ¬ (A * PP ≤ zmag b64 (roundRatio b64 false A' B' 0) * B) := fun hq => by
    have := zmag_roundRatio_le (s := false) (A := A) (e := 0) good_b64 hB t2 (roundRatio_ne_nan _ _ _ _ _) (e0 := -1074) (by rw [own_qmin]; omega) (by omega) (by
      rw [iu, i0, Nat.pow_zero, Nat.mul_one]
      exact hq)
    omega
  rw [f1] at t1
  rw [f2] at t2
  have d1 := roundRatio_nearest good_b64 hB f1 t2.1 t2.2.1 (e0 := -1074) (by rw [own_qmin]; omega) (by omega)
  have d2 := roundRatio_nearest good_b64 hB' f2 t1.1 t1.2.1 (e0 := -1074) (by rw [own_qmin]; omega) (by omega)
  unfold distance at d1 d2
  have u1 : inUnits c q (-1074) = zmag b64 (roundRatio b64 false A B 0) := by
    rw [f1]
    show _ = inUnits c q b64.qmin
    rw [own_qmin]
  have u2 : inUnits c' q' (-1074) = zmag b64 (roundRatio b64 false A' B' 0) := by
    rw [f2]
    show _ = inUnits c' q' b64.qmin
    rw [own_qmin]
  rw [iu, u1, u2] at d1
  rw [iu, u1, u2] at d2
  have hcong : A * B' = A' * B → False := fun hq => by
    have := roundRatio_congr (f := b64) (s := false) (A := A) (B := B) (A' := A') (B' := B') (e := 0) (e' := 0) hB hB' (by rw [hq])
    rw [this] at hlt
    exact absurd hlt (Nat.lt_irrefl _)
  clear u1 u2 f1 f2 t1 t2 fin iu i0 w3
  generalize zmag b64 (roundRatio b64 false A B 0) = X at *
  generalize zmag b64 (roundRatio b64 false A' B' 0) = Y at *
  exact own_tie pp hB hB' hlt n1 n2 d1 d2 h hcong
end OwnRx
end OwnDy
namespace Jvm.Pilot.@@N@@
open Jvm Jvm.ClassFile Sem Op Lib Jvm.Free Jvm.Stand Jvm.LawKit Jvm.RoadKit Bundle Jvm.Pilot.@@N@@.Jvm.D
/-! own layer: a run that ends well, said backwards -/
section OwnGo
variable {p : Program} {l : Launch} {e : Env} {R : Room} {s : State} {m : MethodId} {args : Array Value} {below : List Frame} {meth : Method} {c : Code} {T T' : State} {locs : List Loc} {cells slots : Nat} {Z : State} {a0 : Array Value} {h : Heap} {Q : Option Value → Heap → List Loc → Prop} {C S maxL0 : Nat} {g g' : JFrame}
def Go (p : Program) (e : Env) (below : List Frame) (s : State) (Q : Option Value → Heap → List Loc → Prop) (C S : Nat) (T : State) (g : JFrame) : Prop :=
  ∃ s₂ o, Steps p.tables e below (T.setTop g) s₂ ∧ s₂.status = .running ∧ Ended s₂ below o ∧ ∃ v L, o = .returned v ∧ Q v s₂.heap L ∧ FrameEnd s o s₂ L C S
def Ct (p : Program) (s : State) (m : MethodId) (meth : Method) (c : Code) (Z : State) (own nm : String) (bytes : ByteArray) (maxL : Nat) (ret : Option FieldType) : Prop :=
  p.tables.exec = Jvm.exec ∧ Z.Warmed39 s.vm ∧ s.vm.findClass own = some m.cls ∧ c.code = bytes ∧ c.maxLocals = maxL ∧ meth.sig.returnType = ret ∧ meth.locks = false ∧ meth.name = nm
theorem go_st (k : ∀ t, Steps p.tables e below (T'.setTop g') t → Steps p.tables e below (T.setTop g) t) (q : Go p e below s Q C S T' g') : Go p e below s Q C S T g := by
  obtain ⟨s2, o, q1, q2⟩ := q
  exact ⟨s2, o, k _ q1, q2⟩
theorem castGo (q : g = g') (k : Go p e below s Q C S T g') : Go p e below s Q C S T g := by rw [q]; exact k
theorem go_tr (k : Steps p.tables e below (T.setTop g) (T'.setTop g')) (q : Go p e below s Q C S T' g') : Go p e below s Q C S T g := by
  obtain ⟨s2, o, q1, q2⟩ := q
  exact ⟨s2, o, k.trans q1, q2⟩
theorem go_end (X : Stand p l e R s m args below meth c T locs cells slots) (hlk : meth.locks = false) {v : Option Value} (hv : meth.sig.returnType = none → v = none)
    (hr : ∀ fs, (∀ (f : JFrame) (acts : List Action), f.method = m → f.locked = none → f.entered = [] → (doReturn e (T.setTop f) acts v).1 = T.setFrames fs) → Steps p.tables e below (T.setTop g) (T.setFrames fs))
    (hC : cells ≤ C) (hS : slots ≤ S) (hQ : Q v T.heap locs) : Go p e below s Q C S T g := by
  obtain ⟨fs, h1, hrun, hended, hW, hsame⟩ := X.leave (v := v) hv hlk
  exact ⟨_, _, hr fs h1, hrun, hended, _, _, rfl, hQ, ⟨_, rfl⟩, hW, hsame.mono hC hS⟩
theorem go_retI (X : Stand p l e R s m args below meth c T locs cells slots) (hx : p.tables.exec = Jvm.exec) (hlk : meth.locks = false) (hret : meth.sig.returnType = some .int) {pc : Nat} {Ls : Array Slot} {z : Int32} {rest : List Value} (hd : decode c.code pc = .ok (.ireturn, 1))
    (hC : cells ≤ C) (hS : slots ≤ S) (hQ : Q (some (.int z)) T.heap locs) : Go p e below s Q C S T (mkF m pc Ls (.int z :: rest)) :=
  go_end X hlk (fun h => by rw [hret] at h; cases h) (fun fs h1 => retOut X hx hret rfl (Or.inl ⟨rfl, Or.inl rfl, _, rfl⟩) hd h1) hC hS hQ
theorem go_retL (X : Stand p l e R s m args below meth c T locs cells slots) (hx : p.tables.exec = Jvm.exec) (hlk : meth.locks = false) (hret : meth.sig.returnType = some .long) {pc : Nat} {Ls : Array Slot} {z : Int64} {rest : List Value} (hd : decode c.code pc = .ok (.lreturn, 1))
    (hC : cells ≤ C) (hS : slots ≤ S) (hQ : Q (some (.long z)) T.heap locs) : Go p e below s Q C S T (mkF m pc Ls (.long z :: rest)) :=
  go_end X hlk (fun h => by rw [hret] at h; cases h) (fun fs h1 => retOut X hx hret rfl (Or.inr (Or.inl ⟨rfl, rfl, _, rfl⟩)) hd h1) hC hS hQ
theorem go_retD (X : Stand p l e R s m args below meth c T locs cells slots) (hx : p.tables.exec = Jvm.exec) (hlk : meth.locks = false) (hret : meth.sig.returnType = some .double) {pc : Nat} {Ls : Array Slot} {z : UInt64} {rest : List Value} (hd : decode c.code pc = .ok (.dreturn, 1))
    (hC : cells ≤ C) (hS : slots ≤ S) (hQ : Q (some (.double z)) T.heap locs) : Go p e below s Q C S T (mkF m pc Ls (.double z :: rest)) :=
  go_end X hlk (fun h => by rw [hret] at h; cases h) (fun fs h1 => retOut X hx hret rfl (Or.inr (Or.inr (Or.inl ⟨rfl, rfl, _, rfl⟩))) hd h1) hC hS hQ
theorem go_retA (X : Stand p l e R s m args below meth c T locs cells slots) (hx : p.tables.exec = Jvm.exec) (hlk : meth.locks = false) {t : FieldType} (hret : meth.sig.returnType = some t) (ht : t.isReference = true) {w : Value} (hw : w.isRef = true) {pc : Nat} {Ls : Array Slot} {rest : List Value} (hd : decode c.code pc = .ok (.areturn, 1))
    (hC : cells ≤ C) (hS : slots ≤ S) (hQ : Q (some w) T.heap locs) : Go p e below s Q C S T (mkF m pc Ls (w :: rest)) :=
  go_end X hlk (fun h => by rw [hret] at h; cases h) (fun fs h1 => retOut X hx hret (by cases t <;> simp_all [FieldType.isReference, narrow] <;> cases w <;> simp_all [Value.isRef, narrow]) (Or.inr (Or.inr (Or.inr (Or.inr ⟨rfl, ht, hw⟩)))) hd h1) hC hS hQ
theorem go_retB (X : Stand p l e R s m args below meth c T locs cells slots) (hx : p.tables.exec = Jvm.exec) (hlk : meth.locks = false) (hret : meth.sig.returnType = some .boolean) {pc : Nat} {Ls : Array Slot} {z w : Int32} {rest : List Value} (hd : decode c.code pc = .ok (.ireturn, 1)) (hw : z &&& 1 = w)
    (hC : cells ≤ C) (hS : slots ≤ S) (hQ : Q (some (.int w)) T.heap locs) : Go p e below s Q C S T (mkF m pc Ls (.int z :: rest)) := by
  subst hw
  exact go_end X hlk (fun h => by rw [hret] at h; cases h) (fun fs h1 => retN X hx (t := .boolean) hret (by simp) hd h1) hC hS hQ
theorem go_ret0 (X : Stand p l e R s m args below meth c T locs cells slots) (hx : p.tables.exec = Jvm.exec) (hlk : meth.locks = false) (hret : meth.sig.returnType = none) {pc : Nat} {Ls : Array Slot} (hd : decode c.code pc = .ok (.return_, 1))
    (hC : cells ≤ C) (hS : slots ≤ S) (hQ : Q none T.heap locs) : Go p e below s Q C S T (mkF m pc Ls []) :=
  go_end X hlk (fun _ => rfl) (fun fs h1 => X.returnOut hx hret hd h1) hC hS hQ
def Met (l : Launch) (y : MethodName) (bytes : ByteArray) (maxL : Nat) (ret : Option FieldType) (ws : List Cond) (rm : Room) (Z : State) (as' : Array Value) (h0 : Heap) (Q : Option Value → Heap → List Loc → Prop) (C S : Nat) : Prop :=
  MetFree l y (head1 (Jvm.Cond.code y bytes maxL ret :: ws) rm) (fun a U => a = as' ∧ Z.Warmed39 U.vm ∧ U.heap = h0) (fun _ _ _ _ _ => True) (fun _ U o U' => ∃ v L, o = .returned v ∧ Q v U'.heap L ∧ FrameEnd U o U' L C S)
def QV (w : Option Value) (h0 : Heap) (n0 : Nat) (v : Option Value) (h : Heap) (L : List Loc) : Prop := v = w ∧ Fr n0 L ∧ h = h0
def QF (w : Option Value) (n0 : Nat) (v : Option Value) (h : Heap) (L : List Loc) : Prop := v = w ∧ Fr n0 L
theorem own_body {y : MethodName} {bytes : ByteArray} {maxL : Nat} {ret : Option FieldType} {rm : Room} {as' : Array Value} {h0 : Heap} {ws : List Cond} (hn : plainFor y = true) {C S : Nat}
    (H : ∀ p e s m below meth c s₁, Ct p s m meth c Z y.cls y.name bytes maxL ret → Stand p l e rm s m as' below meth c s₁ [] 0 0 → s₁.heap = h0 → Go p e below s Q C S s₁ (entryFrame m as' maxL)) :
    Met l y bytes maxL ret ws rm Z as' h0 Q C S := by
  refine MetFree.of_bodySF hn hisR ?_
  intro p e s m args below meth c s₁ Bd hml0 hP hK
  obtain ⟨rfl, hZ, hh⟩ := hP
  have hown : s.vm.findClass y.cls = some m.cls := findClass_of_methodNamed Bd.named
  have hnm := (name_of_methodNamed Bd.named Bd.method).1
  have X0 : Stand p l e rm s m args below meth c s₁ [] 0 0 := Stand.of_body Bd
  have e0 : s₁.heap = h0 := by rw [← hh, Bd.state]; rfl
  exact H p e s m below meth c s₁ ⟨Bd.exec, hZ, hown, Bd.bytes, hml0, Bd.returns, Bd.notSynchronized, hnm⟩ X0 e0
theorem go_callS (X : Stand p l e R s m args below meth c T locs cells slots) (hx : p.tables.exec = Jvm.exec) (hZ : Z.Warmed39 s.vm) (hml : c.maxLocals = maxL0) {own : String} {index : Nat} {y : MethodName} {bytes : ByteArray} {maxL : Nat} {ret : Option FieldType} (hown : s.vm.findClass own = some m.cls)
    (w1 : (Cond.methodLink own index y).before a0 Z = true) (w2 : (Cond.static y).before a0 Z = true) (w3 : (Cond.initialized y.cls).before a0 Z = true) (w4 : (Cond.code y bytes maxL ret).before a0 Z = true) (eT : T.heap = h) {argsL rest : List Value} {rm : Room} {Q' : Option Value → Heap → List Loc → Prop} {W : Nat}
    (hM : Met l y bytes maxL ret [] rm Z argsL.toArray h Q' rm.cells rm.slots)
    (hd : decode c.code g.pc = .ok (.invokestatic index, 3)) (hs : g.stack = argsL.reverse ++ rest) (hg : g.method = m) (hsz : g.locals.size = maxL0) (hlen : ∀ sig, parseMethodDescriptor y.desc = some sig → argsL.length = sig.parameters.length) (hW : 2 * g.monitorRoom + (rest.map fun v => v.category).sum ≤ W)
    (hy : y.cls ≠ "java/lang/invoke/MethodHandle" ∧ y.cls ≠ "java/lang/invoke/VarHandle") (hf : rm.frames + 1 ≤ R.frames) (hl : W + (maxL + 11) + rm.locals ≤ R.locals) (hc : cells + rm.cells ≤ R.cells) (hsl : slots + rm.slots ≤ R.slots)
    (k : ∀ T' v L, Stand p l e R s m args below meth c T' (locs ++ L) (cells + rm.cells) (slots + rm.slots) → Q' v T'.heap L → Go p e below s Q C S T' { g with pc := g.pc + 3, stack := v.toList ++ rest }) : Go p e below s Q C S T g := by
  obtain ⟨v, _, ⟨T1, L1, k1, n1⟩, -, X1, ⟨Lc, hQ, l1, y1, z1⟩, st⟩ := Jvm.LawKit.callS X hx (y := y) hown (mvT hZ w1) (mvT hZ w2) (mvT hZ w3) (mvT hZ w4) hy (backOf (W := W) hM hZ w4 w3 hf hl) (g := g) hg (hsz.trans hml.symm) (argsL := argsL) (rest := rest) hlen hs hW hd (fun _ _ => ⟨rfl, eT, hc, hsl⟩)
  dsimp only [Pt.U, Pt.locs, Pt.cells, Pt.slots] at X1 l1 y1 z1 st hQ
  subst l1 y1 z1
  exact go_st st (k _ _ _ X1 hQ)
theorem go_callV (X : Stand p l e R s m args below meth c T locs cells slots) (hx : p.tables.exec = Jvm.exec) (hZ : Z.Warmed39 s.vm) (hml : c.maxLocals = maxL0) {own K : String} {index : Nat} {y z : MethodName} {bytes : ByteArray} {maxL : Nat} {ret : Option FieldType} (hown : s.vm.findClass own = some m.cls)
    (w1 : (Cond.methodLink own index y).before a0 Z = true) (w2 : (Cond.declares y).before a0 Z = true) (w2' : NotFace s y) (w3 : (Cond.selects K y z).before a0 Z = true) (w3' : (Cond.instanceMethod z).before a0 Z = true) (w4 : (Cond.code z bytes maxL ret).before a0 Z = true) (w5 : (Cond.initialized z.cls).before a0 Z = true) (eT : T.heap = h) {a : Addr} (E : Exa Z h a K) {argsL rest : List Value} {rm : Room} {Q' : Option Value → Heap → List Loc → Prop} {W : Nat}
    (hM : Met l z bytes maxL ret [] rm Z (.ref a :: argsL).toArray h Q' rm.cells rm.slots)
    (hd : decode c.code g.pc = .ok (.invokevirtual index, 3)) (hs : g.stack = argsL.reverse ++ .ref a :: rest) (hg : g.method = m) (hsz : g.locals.size = maxL0) (hlen : ∀ sig, parseMethodDescriptor y.desc = some sig → argsL.length = sig.parameters.length) (hW : 2 * g.monitorRoom + (rest.map fun v => v.category).sum ≤ W)
    (hy : y.cls ≠ "java/lang/invoke/MethodHandle" ∧ y.cls ≠ "java/lang/invoke/VarHandle") (hf : rm.frames + 1 ≤ R.frames) (hl : W + (maxL + 11) + rm.locals ≤ R.locals) (hc : cells + rm.cells ≤ R.cells) (hsl : slots + rm.slots ≤ R.slots)
    (k : ∀ T' v L, Stand p l e R s m args below meth c T' (locs ++ L) (cells + rm.cells) (slots + rm.slots) → Q' v T'.heap L → Go p e below s Q C S T' { g with pc := g.pc + 3, stack := v.toList ++ rest }) : Go p e below s Q C S T g := by
  obtain ⟨cB, kB, q1, q2, q3⟩ := isOf hZ eT E
  obtain ⟨v, _, ⟨T1, L1, k1, n1⟩, -, X1, ⟨Lc, hQ, l1, y1, z1⟩, st⟩ := X.virtualBack hx (y := y) (z := z) hown (mvT hZ w1) (mvT hZ w2) w2' (mvT hZ w3) (mvT hZ w3') hy (backOf (W := W) hM hZ w4 w5 hf hl) q1 q3 (g := g) hg (hsz.trans hml.symm) (Steps.refl _) (argsL := argsL) (rest := rest) hlen hs hW hd (fun _ _ => ⟨rfl, eT, hc, hsl⟩)
  dsimp only [Pt.U, Pt.locs, Pt.cells, Pt.slots] at X1 l1 y1 z1 st hQ
  subst l1 y1 z1
  exact go_tr st (k _ _ _ X1 hQ)
theorem go_callU (X : Stand p l e R s m args below meth c T locs cells slots) (hx : p.tables.exec = Jvm.exec) (hZ : Z.Warmed39 s.vm) (hml : c.maxLocals = maxL0) {own K owner : String} {index : Nat} {y z : MethodName} {bytes : ByteArray} {maxL : Nat} {ret : Option FieldType} (hown : s.vm.findClass own = some m.cls)
    (w1 : (Cond.methodLink own index y).before a0 Z = true) (w2 : (Cond.sameMethod y.cls owner y.name y.desc).before a0 Z = true) (w2' : (Cond.declares ⟨owner, y.name, y.desc⟩).before a0 Z = true) (ho : owner ≠ "java/lang/invoke/MethodHandle" ∧ owner ≠ "java/lang/invoke/VarHandle") (w3 : (Cond.selects K y z).before a0 Z = true) (w3' : (Cond.instanceMethod z).before a0 Z = true) (w4 : (Cond.code z bytes maxL ret).before a0 Z = true) (w5 : (Cond.initialized z.cls).before a0 Z = true) (eT : T.heap = h) {a : Addr} (E : Exa Z h a K) {argsL rest : List Value} {rm : Room} {Q' : Option Value → Heap → List Loc → Prop} {W : Nat}
    (hM : Met l z bytes maxL ret [] rm Z (.ref a :: argsL).toArray h Q' rm.cells rm.slots)
    (hd : decode c.code g.pc = .ok (.invokevirtual index, 3)) (hs : g.stack = argsL.reverse ++ .ref a :: rest) (hg : g.method = m) (hsz : g.locals.size = maxL0) (hlen : ∀ sig, parseMethodDescriptor y.desc = some sig → argsL.length = sig.parameters.length) (hW : 2 * g.monitorRoom + (rest.map fun v => v.category).sum ≤ W)
    (hf : rm.frames + 1 ≤ R.frames) (hl : W + (maxL + 11) + rm.locals ≤ R.locals) (hc : cells + rm.cells ≤ R.cells) (hsl : slots + rm.slots ≤ R.slots)
    (k : ∀ T' v L, Stand p l e R s m args below meth c T' (locs ++ L) (cells + rm.cells) (slots + rm.slots) → Q' v T'.heap L → Go p e below s Q C S T' { g with pc := g.pc + 3, stack := v.toList ++ rest }) : Go p e below s Q C S T g := by
  obtain ⟨cB, kB, q1, q2, q3⟩ := isOf hZ eT E
  obtain ⟨v, _, ⟨T1, L1, k1, n1⟩, -, X1, ⟨Lc, hQ, l1, y1, z1⟩, st⟩ := X.virtualBackUp hx (x := y) (y := z) hown (mvT hZ w1) (mvT hZ w2) (mvT hZ w2') ho (mvT hZ w3) (mvT hZ w3') (backOf (W := W) hM hZ w4 w5 hf hl) q1 q3 (g := g) hg (hsz.trans hml.symm) (Steps.refl _) (argsL := argsL) (rest := rest) hlen hs hW hd (fun _ _ => ⟨rfl, eT, hc, hsl⟩)
  dsimp only [Pt.U, Pt.locs, Pt.cells, Pt.slots] at X1 l1 y1 z1 st hQ
  subst l1 y1 z1
  exact go_tr st (k _ _ _ X1 hQ)
theorem go_callI (X : Stand p l e R s m args below meth c T locs cells slots) (hx : p.tables.exec = Jvm.exec) (hZ : Z.Warmed39 s.vm) (hml : c.maxLocals = maxL0) {own : String} {index : Nat} {y : MethodName} {bytes : ByteArray} {maxL : Nat} (hown : s.vm.findClass own = some m.cls) (hy1 : y.name = "<init>")
    (w1 : (Cond.methodLink own index y).before a0 Z = true) (w2 : (Cond.instanceMethod y).before a0 Z = true) (w4 : (Cond.code y bytes maxL none).before a0 Z = true) (w5 : (Cond.initialized y.cls).before a0 Z = true) (eT : T.heap = h) {a : Addr} {argsL rest : List Value} {rm : Room} {Q' : Option Value → Heap → List Loc → Prop} {W : Nat}
    (hM : Met l y bytes maxL none [] rm Z (.ref a :: argsL).toArray h Q' rm.cells rm.slots)
    (hd : decode c.code g.pc = .ok (.invokespecial index, 3)) (hs : g.stack = argsL.reverse ++ .ref a :: rest) (hg : g.method = m) (hsz : g.locals.size = maxL0) (hlen : ∀ sig, parseMethodDescriptor y.desc = some sig → argsL.length = sig.parameters.length) (hW : 2 * g.monitorRoom + (rest.map fun v => v.category).sum ≤ W)
    (hy : y.cls ≠ "java/lang/invoke/MethodHandle" ∧ y.cls ≠ "java/lang/invoke/VarHandle") (hf : rm.frames + 1 ≤ R.frames) (hl : W + (maxL + 11) + rm.locals ≤ R.locals) (hc : cells + rm.cells ≤ R.cells) (hsl : slots + rm.slots ≤ R.slots)
    (k : ∀ T' v L, Stand p l e R s m args below meth c T' (locs ++ L) (cells + rm.cells) (slots + rm.slots) → Q' v T'.heap L → Go p e below s Q C S T' { g with pc := g.pc + 3, stack := v.toList ++ rest }) : Go p e below s Q C S T g := by
  obtain ⟨v, _, ⟨T1, L1, k1, n1⟩, -, X1, ⟨Lc, hQ, l1, y1, z1⟩, st⟩ := X.specialBack hx (y := y) hy1 hown (mvT hZ w1) (mvT hZ w2) (mvT hZ w4) hy (backOf (W := W) hM hZ w4 w5 hf hl) (g := g) hg (hsz.trans hml.symm) (Steps.refl _) (a := a) (argsL := argsL) (rest := rest) hlen hs hW hd (fun _ _ => ⟨rfl, eT, hc, hsl⟩)
  dsimp only [Pt.U, Pt.locs, Pt.cells, Pt.slots] at X1 l1 y1 z1 st hQ
  subst l1 y1 z1
  exact go_tr st (k _ _ _ X1 hQ)
theorem go_getF (X : Stand p l e R s m args below meth c T locs cells slots) (hx : p.tables.exec = Jvm.exec) (hZ : Z.Warmed39 s.vm) {own R0 O n d host : String} {index : Nat} (hown : s.vm.findClass own = some m.cls) (w : (Cond.fieldLink own index R0 n d).before a0 Z = true ∨ (Cond.fieldLinkNest own index R0 n d host).before a0 Z = true) (via : Via Z R0 O n d)
    (eT : T.heap = h) {a : Addr} {v : Value} (F : Fld Z h a O n d v) {rest : List Value} (hd : decode c.code g.pc = .ok (.getfield index, 3)) (hg : g.method = m) (hs : g.stack = .ref a :: rest)
    (k : ∀ T', Stand p l e R s m args below meth c T' locs cells slots → T'.heap = h → Go p e below s Q C S T' { g with pc := g.pc + 3, stack := v :: rest }) : Go p e below s Q C S T g := by
  obtain ⟨T1, X1, e1, st⟩ := getF X hx hZ hown w via eT F hg hs hd
  exact go_st st (k _ X1 e1)
theorem go_getS (X : Stand p l e R s m args below meth c T locs cells slots) (hx : p.tables.exec = Jvm.exec) (hZ : Z.Warmed39 s.vm) {own R0 O n d host : String} {index : Nat} (hown : s.vm.findClass own = some m.cls) (w : (Cond.fieldLink own index R0 n d).before a0 Z = true ∨ (Cond.fieldLinkNest own index R0 n d host).before a0 Z = true) (via : Via Z R0 O n d)
    (eT : T.heap = h) {v : Value} (F : Sta Z h O n d v) (hd : decode c.code g.pc = .ok (.getstatic index, 3)) (hg : g.method = m)
    (k : ∀ T', Stand p l e R s m args below meth c T' locs cells slots → T'.heap = h → Go p e below s Q C S T' { g with pc := g.pc + 3, stack := v :: g.stack }) : Go p e below s Q C S T g := by
  obtain ⟨T1, X1, e1, st⟩ := getS2 X hx hZ hown w via eT F hg hd
  exact go_st st (k _ X1 e1)
theorem go_putF (X : Stand p l e R s m args below meth c T locs cells slots) (hx : p.tables.exec = Jvm.exec) (hZ : Z.Warmed39 s.vm) {own R0 O n d host K : String} {index kk : Nat} {ty : FieldType} (hown : s.vm.findClass own = some m.cls) (w : (Cond.fieldLink own index R0 n d).before a0 Z = true ∨ (Cond.fieldLinkNest own index R0 n d host).before a0 Z = true) (via : Via Z R0 O n d)
    (eT : T.heap = h) {a : Addr} {v old : Value} (F : Fld Z h a O n d old) (E : Exa Z h a K) (L : (Cond.lays K O n d).before a0 Z = true ∨ ((Cond.laysFinal K O n d).before a0 Z = true ∧ own = O ∧ meth.name = "<init>")) (wi : (Cond.instantiable K kk).before a0 Z = true)
    (hty : parseFieldDescriptor d = some ty) (hn : narrow ty v = v) (hf : fits ty v = true) {rest : List Value} (hd : decode c.code g.pc = .ok (.putfield index, 3)) (hg : g.method = m) (hs : g.stack = v :: .ref a :: rest)
    (k : ∀ T' h', Stand p l e R s m args below meth c T' (locs ++ [⟨a, Jvm.RoadKit.slotOf Z O n d⟩]) cells slots → T'.heap = h' → Wr h h' a (Jvm.RoadKit.slotOf Z O n d) v → Go p e below s Q C S T' { g with pc := g.pc + 3, stack := rest }) : Go p e below s Q C S T g := by
  obtain ⟨T1, h1, X1, e1, W1, st⟩ := putF X hx hZ hown w via eT F E L wi hty hn hf hg hs hd
  exact go_st st (k _ _ X1 e1 W1)
theorem go_newO (X : Stand p l e R s m args below meth c T locs cells slots) (hx : p.tables.exec = Jvm.exec) (hZ : Z.Warmed39 s.vm) {own K : String} {index n : Nat} (hown : s.vm.findClass own = some m.cls) (w : (Cond.classLink own index K).before a0 Z = true) (wi : (Cond.instantiable K n).before a0 Z = true) (wz : (Cond.initialized K).before a0 Z = true) (eT : T.heap = h)
    (hd : decode c.code g.pc = .ok (.new index, 3)) (hg : g.method = m) (hc : cells + 1 ≤ R.cells) (hl : slots + n ≤ R.slots)
    (k : ∀ T' h' a, a = h.size → Stand p l e R s m args below meth c T' locs (cells + 1) (slots + n) → T'.heap = h' → Ext h h' → Exa Z h' a K → (∀ {O nm d : String} {ty : FieldType}, Laid Z a0 K O nm d → parseFieldDescriptor d = some ty → Fld Z h' a O nm d (defaultValue ty)) → Go p e below s Q C S T' { g with pc := g.pc + 3, stack := .ref a :: g.stack }) : Go p e below s Q C S T g := by
  obtain ⟨T1, h1, X1, e1, E1, A1, D1, -, st⟩ := newO X hx hZ hown w wi wz eT hg hd hc hl
  exact go_st st (k _ _ _ rfl X1 e1 E1 A1 D1)
theorem go_initO (X : Stand p l e R s m args below meth c T locs cells slots) (hx : p.tables.exec = Jvm.exec) (hZ : Z.Warmed39 s.vm) (hml : c.maxLocals = maxL0) {own : String} {idx : Nat} (hown : s.vm.findClass own = some m.cls) (w1 : (Cond.methodLink own idx Lib.objectInit).before a0 Z = true) (w2 : (Cond.instanceMethod Lib.objectInit).before a0 Z = true)
    (w3 : (Cond.code Lib.objectInit ⟨#[0xb1]⟩ 1 none).before a0 Z = true) (eT : T.heap = h) {a : Addr} {rest : List Value} (hd : decode c.code g.pc = .ok (.invokespecial idx, 3)) (hg : g.method = m) (hsz : g.locals.size = maxL0) (hs : g.stack = .ref a :: rest)
    (hf : 1 ≤ R.frames) {W : Nat} (hW : 2 * g.monitorRoom + (rest.map fun v => v.category).sum ≤ W) (hl : W + 12 ≤ R.locals)
    (k : ∀ T', Stand p l e R s m args below meth c T' locs cells slots → T'.heap = h → Go p e below s Q C S T' { g with pc := g.pc + 3, stack := rest }) : Go p e below s Q C S T g := by
  obtain ⟨T1, X1, e1, st⟩ := initO X hx hZ hown w1 w2 w3 eT hg (hsz.trans hml.symm) hs hd hf hW hl
  exact go_st st (k _ X1 e1)
theorem own_lrem {tb : Tables} [Ours tb] {target : State} (hh : At T m c below) (hx : tb.exec = Jvm.exec) (hg : g.method = m) {x y : Int64} {rest : List Value} (hd : decode c.code g.pc = .ok (.lrem, 1)) (hs : g.stack = .long y :: .long x :: rest) (hy : y ≠ 0)
    (hr : Steps tb e below (T.setTop { g with pc := g.pc + 1, stack := .long (x % y) :: rest }) target) : Steps tb e below (T.setTop g) target :=
  XT.lrem hh hx hg hd hs hy (by rw [lrem_mod]; exact hr)
/-! arrays, their places by a function -/
def GA (Z : State) (h : Heap) (a : Addr) (ty : FieldType) (n : Nat) (f : Nat → Value) : Prop := ∃ cl : Cell, Arr Z h a cl ty ∧ cl.slots.size = n ∧ n < 2 ^ 31 ∧ ∀ i, i < n → cl.slots[i]? = some (f i)
theorem GA.lt {a : Addr} {ty : FieldType} {n : Nat} {f : Nat → Value} (A : GA Z h a ty n f) : a < h.size := by
  obtain ⟨cl, A1, -⟩ := A
  exact A1.lt
theorem GA.ext {a : Addr} {ty : FieldType} {n : Nat} {f : Nat → Value} {h' : Heap} (A : GA Z h a ty n f) (E : Ext h h') : GA Z h' a ty n f := by
  obtain ⟨cl, A1, r⟩ := A
  exact ⟨cl, A1.ext E, r⟩
theorem GA.other {a b : Addr} {ty : FieldType} {n sl : Nat} {v : Value} {f : Nat → Value} {h' : Heap} (A : GA Z h b ty n f) (W : Wr h h' a sl v) (q : b ≠ a) : GA Z h' b ty n f := by
  obtain ⟨cl, A1, r⟩ := A
  exact ⟨cl, A1.other W q, r⟩
theorem GA.keep {a : Addr} {ty : FieldType} {n : Nat} {f : Nat → Value} {h' : Heap} {ws : List Addr} (A : GA Z h a ty n f) (K : Keep h h' ws) (q : a ∉ ws) : GA Z h' a ty n f := by
  obtain ⟨cl, A1, r⟩ := A
  exact ⟨cl, ⟨K.2.1 _ _ A1.1 q, A1.2⟩, r⟩
theorem GA.congr {a : Addr} {ty : FieldType} {n : Nat} {f f' : Nat → Value} (A : GA Z h a ty n f) (q : ∀ i, i < n → f i = f' i) : GA Z h a ty n f' := by
  obtain ⟨cl, A1, A2, A3, A4⟩ := A
  exact ⟨cl, A1, A2, A3, fun i hi => (A4 i hi).trans (by rw [q i hi])⟩
theorem GA.set {a : Addr} {ty : FieldType} {n j : Nat} {v : Value} {f : Nat → Value} {h' : Heap} (A : GA Z h a ty n f) (W : Wr h h' a j v) : GA Z h' a ty n (fun i => if i = j then v else f i) := by
  obtain ⟨cl, A1, A2, A3, A4⟩ := A
  obtain ⟨c2, w1, w2, w3, w4⟩ := W
  obtain rfl : cl = c2 := Option.some.inj (A1.1.symm.trans w1)
  refine ⟨cl.setSlot j v, A1.same ⟨cl, w1, w2, w3, w4⟩, (sz_set cl j v).trans A2, A3, fun i hi => ?_⟩
  show (cl.slots.setIfInBounds j v)[i]? = _
  rw [Array.getElem?_setIfInBounds]
  by_cases q : i = j
  · subst q
    rw [if_pos rfl, if_pos w3]
    simp only [if_true]
  · rw [if_neg (fun h => q h.symm)]
    simp only [if_neg q]
    exact A4 i hi
theorem GA.len {a : Addr} {ty : FieldType} {n : Nat} {f : Nat → Value} (A : GA Z h a ty n f) : n < 2 ^ 31 := by
  obtain ⟨cl, -, -, A3, -⟩ := A
  exact A3
def OC (Z : State) (h : Heap) (a : Addr) (ty : FieldType) (K : String) : Prop := ∃ cl : Cell, Arr Z h a cl ty ∧ Ovr Z cl.cls K
theorem OC.ext {a : Addr} {ty : FieldType} {K : String} {h' : Heap} (A : OC Z h a ty K) (E : Ext h h') : OC Z h' a ty K := by
  obtain ⟨cl, A1, A2⟩ := A
  exact ⟨cl, A1.ext E, A2⟩
theorem OC.wr {a b : Addr} {ty : FieldType} {K : String} {sl : Nat} {v : Value} {h' : Heap} (A : OC Z h b ty K) (W : Wr h h' a sl v) : OC Z h' b ty K := by
  obtain ⟨cl, A1, A2⟩ := A
  by_cases q : b = a
  · subst q
    exact ⟨_, A1.same W, A2⟩
  · exact ⟨cl, A1.other W q, A2⟩
theorem OC.keep {b : Addr} {ty : FieldType} {K : String} {h' : Heap} {ws : List Addr} (A : OC Z h b ty K) (Kp : Keep h h' ws) : OC Z h' b ty K := by
  obtain ⟨cl, ⟨A1, A3, A4⟩, A2⟩ := A
  obtain ⟨c', q1, q2, q3, q4⟩ := Kp.2.2 _ _ A1
  refine ⟨c', ⟨q1, ?_, by rw [q3]; exact A4⟩, by rw [q2]; exact A2⟩
  unfold State.isArrayOf at A3 ⊢
  rw [q2, q3]
  exact A3
theorem OC.sto {a y : Addr} {ty : FieldType} {K : String} (A : OC Z h a ty K) (I : Ins Z h y K true) : Sto Z h a (.ref y) := by
  obtain ⟨cl, A1, A2⟩ := A
  exact Sto.of A1 A2 I
theorem own_in {j : Int32} {n : Nat} (q : 0 ≤ j.toInt ∧ j.toInt < n) : ¬ (j < 0 ∨ n ≤ j.toNatClampNeg) := by
  have h1 : (j.toNatClampNeg : Int) = j.toInt := by have := q.1; simp only [Int32.toNatClampNeg]; omega
  rw [Int32.lt_iff_toInt_lt]
  have : (0 : Int32).toInt = 0 := rfl
  omega
theorem go_alen (X : Stand p l e R s m args below meth c T locs cells slots) (hx : p.tables.exec = Jvm.exec) (hZ : Z.Warmed39 s.vm) (eT : T.heap = h) {a : Addr} {ty : FieldType} {n : Nat} {f : Nat → Value} (A : GA Z h a ty n f) {rest : List Value}
    (hd : decode c.code g.pc = .ok (.arraylength, 1)) (hg : g.method = m) (hs : g.stack = .ref a :: rest) (w : Int32) (hw : Nat.toInt32 n = w) (k : Go p e below s Q C S T { g with pc := g.pc + 1, stack := .int w :: rest }) : Go p e below s Q C S T g := by
  obtain ⟨cl, A1, rfl, -, -⟩ := A
  subst hw
  exact go_st (fun t => X.arraylength hx (by rw [eT]; exact A1.1) (State.isArrayOf_alike hZ.alike A1.2.1) hg hs hd t) k
theorem go_iald (X : Stand p l e R s m args below meth c T locs cells slots) (hx : p.tables.exec = Jvm.exec) (hZ : Z.Warmed39 s.vm) (eT : T.heap = h) {a : Addr} {n : Nat} {f : Nat → Value} (A : GA Z h a .int n f) {j : Int32} {rest : List Value}
    (hd : decode c.code g.pc = .ok (.iaload, 1)) (hg : g.method = m) (hs : g.stack = .int j :: .ref a :: rest) (q : 0 ≤ j.toInt ∧ j.toInt < n) (w : Value) (hw : f j.toNatClampNeg = w) (k : Go p e below s Q C S T { g with pc := g.pc + 1, stack := w :: rest }) : Go p e below s Q C S T g := by
  obtain ⟨cl, A1, rfl, -, A4⟩ := A
  have q2 := own_in q
  refine go_st (fun t => X.iaload hx (j := j) (v := w) (by rw [eT]; exact A1.1) (State.isArrayOf_alike hZ.alike A1.2.1) A1.2.2 q2 ?_ hg hs hd t) k
  rw [A4 _ (by omega), hw]
theorem go_lald (X : Stand p l e R s m args below meth c T locs cells slots) (hx : p.tables.exec = Jvm.exec) (hZ : Z.Warmed39 s.vm) (eT : T.heap = h) {a : Addr} {n : Nat} {f : Nat → Value} (A : GA Z h a .long n f) {j : Int32} {rest : List Value}
    (hd : decode c.code g.pc = .ok (.laload, 1)) (hg : g.method = m) (hs : g.stack = .int j :: .ref a :: rest) (q : 0 ≤ j.toInt ∧ j.toInt < n) (w : Value) (hw : f j.toNatClampNeg = w) (k : Go p e below s Q C S T { g with pc := g.pc + 1, stack := w :: rest }) : Go p e below s Q C S T g := by
  obtain ⟨cl, A1, rfl, -, A4⟩ := A
  have q2 := own_in q
  refine go_st (fun t => X.laload hx (j := j) (v := w) (by rw [eT]; exact A1.1) (State.isArrayOf_alike hZ.alike A1.2.1) A1.2.2 q2 ?_ hg hs hd t) k
  rw [A4 _ (by omega), hw]
theorem go_bald (X : Stand p l e R s m args below meth c T locs cells slots) (hx : p.tables.exec = Jvm.exec) (hZ : Z.Warmed39 s.vm) (eT : T.heap = h) {a : Addr} {n : Nat} {f : Nat → Value} (A : GA Z h a .byte n f) {j : Int32} {rest : List Value}
    (hd : decode c.code g.pc = .ok (.baload, 1)) (hg : g.method = m) (hs : g.stack = .int j :: .ref a :: rest) (q : 0 ≤ j.toInt ∧ j.toInt < n) (w : Value) (hw : f j.toNatClampNeg = w) (k : Go p e below s Q C S T { g with pc := g.pc + 1, stack := w :: rest }) : Go p e below s Q C S T g := by
  obtain ⟨cl, A1, rfl, -, A4⟩ := A
  have q2 := own_in q
  refine go_st (fun t => X.baloadBytes hx (j := j) (v := w) (by rw [eT]; exact A1.1) (State.isArrayOf_alike hZ.alike A1.2.1) A1.2.2 q2 ?_ hg hs hd t) k
  rw [A4 _ (by omega), hw]
theorem go_cald (X : Stand p l e R s m args below meth c T locs cells slots) (hx : p.tables.exec = Jvm.exec) (hZ : Z.Warmed39 s.vm) (eT : T.heap = h) {a : Addr} {n : Nat} {f : Nat → Value} (A : GA Z h a .char n f) {j : Int32} {rest : List Value}
    (hd : decode c.code g.pc = .ok (.caload, 1)) (hg : g.method = m) (hs : g.stack = .int j :: .ref a :: rest) (q : 0 ≤ j.toInt ∧ j.toInt < n) (w : Value) (hw : f j.toNatClampNeg = w) (k : Go p e below s Q C S T { g with pc := g.pc + 1, stack := w :: rest }) : Go p e below s Q C S T g := by
  obtain ⟨cl, A1, rfl, -, A4⟩ := A
  have q2 := own_in q
  refine go_st (fun t => X.caload hx (j := j) (v := w) (by rw [eT]; exact A1.1) (State.isArrayOf_alike hZ.alike A1.2.1) A1.2.2 q2 ?_ hg hs hd t) k
  rw [A4 _ (by omega), hw]
theorem go_aald (X : Stand p l e R s m args below meth c T locs cells slots) (hx : p.tables.exec = Jvm.exec) (hZ : Z.Warmed39 s.vm) (eT : T.heap = h) {a : Addr} {ty : FieldType} {n : Nat} {f : Nat → Value} (A : GA Z h a ty n f) (hty : ty.isReference = true) {j : Int32} {rest : List Value}
    (hd : decode c.code g.pc = .ok (.aaload, 1)) (hg : g.method = m) (hs : g.stack = .int j :: .ref a :: rest) (q : 0 ≤ j.toInt ∧ j.toInt < n) (w : Value) (hw : f j.toNatClampNeg = w) (k : Go p e below s Q C S T { g with pc := g.pc + 1, stack := w :: rest }) : Go p e below s Q C S T g := by
  obtain ⟨cl, A1, rfl, -, A4⟩ := A
  have q2 := own_in q
  refine go_st (fun t => X.aaload hx (j := j) (v := w) (by rw [eT]; exact A1.1) (State.isArrayOf_alike hZ.alike A1.2.1) hty A1.2.2 q2 ?_ hg hs hd t) k
  rw [A4 _ (by omega), hw]
theorem go_iast (X : Stand p l e R s m args below meth c T locs cells slots) (hx : p.tables.exec = Jvm.exec) (hZ : Z.Warmed39 s.vm) (eT : T.heap = h) {a : Addr} {n : Nat} {f : Nat → Value} (A : GA Z h a .int n f) {j x : Int32} {rest : List Value}
    (hd : decode c.code g.pc = .ok (.iastore, 1)) (hg : g.method = m) (hs : g.stack = .int x :: .int j :: .ref a :: rest) (q : 0 ≤ j.toInt ∧ j.toInt < n)
    (k : ∀ T' h', Stand p l e R s m args below meth c T' (locs ++ [⟨a, j.toNatClampNeg⟩]) cells slots → T'.heap = h' → Wr h h' a j.toNatClampNeg (.int x) → GA Z h' a .int n (fun i => if i = j.toNatClampNeg then .int x else f i) → Go p e below s Q C S T' { g with pc := g.pc + 1, stack := rest }) : Go p e below s Q C S T g := by
  have A' := A
  obtain ⟨cl, A1, rfl, -, A4⟩ := A
  obtain ⟨T1, h1, X1, e1, W1, st⟩ := stI X hx hZ eT A1 (own_in q) hg hs hd
  exact go_st st (k _ _ X1 e1 W1 (A'.set W1))
theorem go_last (X : Stand p l e R s m args below meth c T locs cells slots) (hx : p.tables.exec = Jvm.exec) (hZ : Z.Warmed39 s.vm) (eT : T.heap = h) {a : Addr} {n : Nat} {f : Nat → Value} (A : GA Z h a .long n f) {j : Int32} {x : Int64} {rest : List Value}
    (hd : decode c.code g.pc = .ok (.lastore, 1)) (hg : g.method = m) (hs : g.stack = .long x :: .int j :: .ref a :: rest) (q : 0 ≤ j.toInt ∧ j.toInt < n)
    (k : ∀ T' h', Stand p l e R s m args below meth c T' (locs ++ [⟨a, j.toNatClampNeg⟩]) cells slots → T'.heap = h' → Wr h h' a j.toNatClampNeg (.long x) → GA Z h' a .long n (fun i => if i = j.toNatClampNeg then .long x else f i) → Go p e below s Q C S T' { g with pc := g.pc + 1, stack := rest }) : Go p e below s Q C S T g := by
  have A' := A
  obtain ⟨cl, A1, rfl, -, A4⟩ := A
  obtain ⟨T1, h1, X1, e1, W1, st⟩ := stJ X hx hZ eT A1 (own_in q) hg hs hd
  exact go_st st (k _ _ X1 e1 W1 (A'.set W1))
theorem go_bast (X : Stand p l e R s m args below meth c T locs cells slots) (hx : p.tables.exec = Jvm.exec) (hZ : Z.Warmed39 s.vm) (eT : T.heap = h) {a : Addr} {n : Nat} {f : Nat → Value} (A : GA Z h a .byte n f) {j x : Int32} {rest : List Value}
    (hd : decode c.code g.pc = .ok (.bastore, 1)) (hg : g.method = m) (hs : g.stack = .int x :: .int j :: .ref a :: rest) (q : 0 ≤ j.toInt ∧ j.toInt < n)
    (k : ∀ T' h', Stand p l e R s m args below meth c T' (locs ++ [⟨a, j.toNatClampNeg⟩]) cells slots → T'.heap = h' → Wr h h' a j.toNatClampNeg (.int x.toInt8.toInt32) → GA Z h' a .byte n (fun i => if i = j.toNatClampNeg then .int x.toInt8.toInt32 else f i) → Go p e below s Q C S T' { g with pc := g.pc + 1, stack := rest }) : Go p e below s Q C S T g := by
  have A' := A
  obtain ⟨cl, A1, rfl, -, A4⟩ := A
  obtain ⟨T1, h1, X1, e1, W1, st⟩ := stB X hx hZ eT A1 (own_in q) hg hs hd
  exact go_st st (k _ _ X1 e1 W1 (A'.set W1))
theorem go_cast (X : Stand p l e R s m args below meth c T locs cells slots) (hx : p.tables.exec = Jvm.exec) (hZ : Z.Warmed39 s.vm) (eT : T.heap = h) {a : Addr} {n : Nat} {f : Nat → Value} (A : GA Z h a .char n f) {j x : Int32} {rest : List Value}
    (hd : decode c.code g.pc = .ok (.castore, 1)) (hg : g.method = m) (hs : g.stack = .int x :: .int j :: .ref a :: rest) (q : 0 ≤ j.toInt ∧ j.toInt < n)
    (k : ∀ T' h', Stand p l e R s m args below meth c T' (locs ++ [⟨a, j.toNatClampNeg⟩]) cells slots → T'.heap = h' → Wr h h' a j.toNatClampNeg (.int (nar .char x)) → GA Z h' a .char n (fun i => if i = j.toNatClampNeg then .int (nar .char x) else f i) → Go p e below s Q C S T' { g with pc := g.pc + 1, stack := rest }) : Go p e below s Q C S T g := by
  have A' := A
  obtain ⟨cl, A1, rfl, -, A4⟩ := A
  obtain ⟨T1, h1, X1, e1, W1, st⟩ := stC X hx hZ eT A1 (own_in q) hg hs hd
  exact go_st st (k _ _ X1 e1 W1 (A'.set W1))
theorem go_aast (X : Stand p l e R s m args below meth c T locs cells slots) (hx : p.tables.exec = Jvm.exec) (hZ : Z.Warmed39 s.vm) (eT : T.heap = h) {a : Addr} {ty : FieldType} {n : Nat} {f : Nat → Value} (A : GA Z h a ty n f) (hty : ty.isReference = true) {j : Int32} {v : Value} (F : Sto Z h a v) {rest : List Value}
    (hd : decode c.code g.pc = .ok (.aastore, 1)) (hg : g.method = m) (hs : g.stack = v :: .int j :: .ref a :: rest) (q : 0 ≤ j.toInt ∧ j.toInt < n)
    (k : ∀ T' h', Stand p l e R s m args below meth c T' (locs ++ [⟨a, j.toNatClampNeg⟩]) cells slots → T'.heap = h' → Wr h h' a j.toNatClampNeg v → GA Z h' a ty n (fun i => if i = j.toNatClampNeg then v else f i) → Go p e below s Q C S T' { g with pc := g.pc + 1, stack := rest }) : Go p e below s Q C S T g := by
  have A' := A
  obtain ⟨cl, A1, rfl, -, A4⟩ := A
  obtain ⟨T1, h1, X1, e1, W1, st⟩ := stR X hx hZ eT A1 (own_in q) hty F hg hs hd
  exact go_st st (k _ _ X1 e1 W1 (A'.set W1))
theorem own_clamp {n : Int32} {N : Nat} (q : n.toInt = N) : n.toNatClampNeg = N := by simp only [Int32.toNatClampNeg]; omega
theorem own_nneg {n : Int32} {N : Nat} (q : n.toInt = N) : ¬ n < 0 := by
  rw [Int32.lt_iff_toInt_lt]
  have : (0 : Int32).toInt = 0 := rfl
  omega
theorem go_newP (X : Stand p l e R s m args below meth c T locs cells slots) (hx : p.tables.exec = Jvm.exec) (hZ : Z.Warmed39 s.vm) {aty : ArrayType} (w : (Cond.arrayClass (newarray.typeOf aty)).before a0 Z = true) (eT : T.heap = h) {n : Int32} {rest : List Value} (hd : decode c.code g.pc = .ok (.newarray aty, 2)) (hg : g.method = m) (hs : g.stack = .int n :: rest)
    (N : Nat) (hn : n.toInt = N) (cap : Nat) (hcap : N ≤ cap) (hb : cap * 8 ≤ 536870912) (hc : cells + 1 ≤ R.cells) (hl : slots + cap ≤ R.slots)
    (k : ∀ T' h' a, a = h.size → Stand p l e R s m args below meth c T' locs (cells + 1) (slots + cap) → T'.heap = h' → Ext h h' → GA Z h' a (newarray.typeOf aty) N (fun _ => defaultValue (newarray.typeOf aty)) → Go p e below s Q C S T' { g with pc := g.pc + 2, stack := .ref a :: rest }) : Go p e below s Q C S T g := by
  have hN := own_clamp hn
  have hn0 := own_nneg hn
  obtain ⟨T1, h1, cA, X1, e1, E1, A1, st⟩ := newP X hx hZ w eT hg hd hs hn0 (cap := cap) (by omega) hb hc hl
  refine go_st st (k _ _ _ rfl X1 e1 E1 ⟨_, A1, (sz_new _ _ _).trans hN, ?_, fun i hi => ?_⟩)
  · have := (rng32 n).2
    omega
  · show (Array.replicate n.toNatClampNeg (defaultValue _))[i]? = _
    rw [hN, Array.getElem?_replicate, if_pos hi]
theorem go_newR (X : Stand p l e R s m args below meth c T locs cells slots) (hx : p.tables.exec = Jvm.exec) (hZ : Z.Warmed39 s.vm) {own K : String} {index : Nat} (hown : s.vm.findClass own = some m.cls) (w1 : (Cond.classLink own index K).before a0 Z = true) (w2 : (Cond.arrayOver (.object K)).before a0 Z = true) (eT : T.heap = h) {n : Int32} {rest : List Value} (hd : decode c.code g.pc = .ok (.anewarray index, 3)) (hg : g.method = m) (hs : g.stack = .int n :: rest)
    (N : Nat) (hn : n.toInt = N) (cap : Nat) (hcap : N ≤ cap) (hb : cap * 8 ≤ 536870912) (hc : cells + 1 ≤ R.cells) (hl : slots + cap ≤ R.slots)
    (k : ∀ T' h' a, a = h.size → Stand p l e R s m args below meth c T' locs (cells + 1) (slots + cap) → T'.heap = h' → Ext h h' → GA Z h' a (.object K) N (fun _ => .null) → OC Z h' a (.object K) K → Go p e below s Q C S T' { g with pc := g.pc + 3, stack := .ref a :: rest }) : Go p e below s Q C S T g := by
  have hN := own_clamp hn
  have hn0 := own_nneg hn
  obtain ⟨T1, h1, cA, X1, e1, E1, A1, O1, st⟩ := newR X hx hZ hown w1 w2 eT hg hd hs hn0 (cap := cap) (by omega) hb hc hl
  refine go_st st (k _ _ _ rfl X1 e1 E1 ⟨_, A1, (sz_new _ _ _).trans hN, ?_, fun i hi => ?_⟩ ⟨_, A1, O1⟩)
  · have := (rng32 n).2
    omega
  · show (Array.replicate n.toNatClampNeg (defaultValue _))[i]? = _
    rw [hN, Array.getElem?_replicate, if_pos hi]
    rfl
end OwnGo
open OwnDy
theorem own_on32 {n : Nat} (h : n < 2147483648) : (Int32.ofNat n).toInt = n := Int32.toInt_ofNat_of_lt (by omega)
theorem own_on64 {n : Nat} (h : n < 9223372036854775808) : (Int64.ofNat n).toInt = n := Int64.toInt_ofNat_of_lt (by omega)
theorem own_mk63 (x : Int64) : ∃ n : Nat, n < 9223372036854775808 ∧ (x &&& (9223372036854775807 : Int64)) = Int64.ofNat n := by
  have h1 := c_maskL x 9223372036854775807 63 (by decide) (by decide)
  refine ⟨(x &&& (9223372036854775807 : Int64)).toInt.toNat, by omega, ?_⟩
  apply Int64.toInt_inj.mp
  rw [own_on64 (by omega)]
  omega
theorem own_mk31 (x : Int64) : ∃ n : Nat, n < 2147483648 ∧ (x &&& (2147483647 : Int64)) = Int64.ofNat n := by
  have h1 := c_maskL x 2147483647 31 (by decide) (by decide)
  refine ⟨(x &&& (2147483647 : Int64)).toInt.toNat, by omega, ?_⟩
  apply Int64.toInt_inj.mp
  rw [own_on64 (by omega)]
  omega
theorem own_ne0 {n : Nat} (h : n < 9223372036854775808) (hq : ¬ (Int64.ofNat n = (0 : Int64))) : 0 < n := by
  rcases Nat.eq_zero_or_pos n with h0 | h0
  · exact absurd (by rw [h0]; rfl) hq
  · exact h0
theorem own_eq0 {n : Nat} (h : n < 9223372036854775808) (hq : Int64.ofNat n = (0 : Int64)) : n = 0 := by
  have := congrArg Int64.toInt hq
  rw [own_on64 h] at this
  have e0 : (0 : Int64).toInt = 0 := rfl
  omega
theorem own_eqL {n m : Nat} (h : n < 9223372036854775808) (h' : m < 9223372036854775808) (hq : Int64.ofNat n = Int64.ofNat m) : n = m := by
  have := congrArg Int64.toInt hq
  rw [own_on64 h, own_on64 h'] at this
  omega
theorem own_ltL {n m : Nat} (h : n < 9223372036854775808) (h' : m < 9223372036854775808) : Int64.ofNat n < Int64.ofNat m ↔ n < m := by
  rw [Int64.lt_iff_toInt_lt, own_on64 h, own_on64 h']
  omega
theorem own_ml {n m : Nat} : (Int64.ofNat n * Int64.ofNat m) = Int64.ofNat (n * m) := by rw [← Int64.ofNat_mul]
theorem own_m31 (x : Int32) : ∃ n : Nat, n < 32 ∧ (x &&& (31 : Int32)) = Int32.ofNat n := by
  have h1 := c_mask x 31 5 (by decide) (by decide)
  refine ⟨(x &&& (31 : Int32)).toInt.toNat, by omega, ?_⟩
  apply Int32.toInt_inj.mp
  rw [own_on32 (by omega)]
  omega
theorem own_shL : ∀ n : Nat, n < 32 → ((1 : Int64) <<< ((Int32.ofNat n).toInt64 &&& 63)) = Int64.ofNat (2 ^ n) := by decide +kernel
theorem own_p31 {n : Nat} (h : n < 32) : 2 ^ n ≤ 2147483648 := Nat.pow_le_pow_right (n := 2) (by decide) (show n ≤ 31 by omega)
theorem own_a1 {n : Nat} (h : n ≤ 2147483648) : (Int64.ofNat n + (1 : Int64)).toInt = ((n + 1 : Nat) : Int) := by
  rw [show (1 : Int64) = Int64.ofNat 1 from rfl, ← Int64.ofNat_add]
  exact own_on64 (by omega)
theorem own_nzL {n : Nat} (h : n ≤ 2147483648) : (Int64.ofNat n + (1 : Int64)) ≠ 0 := by
  intro hq
  have := own_a1 h
  rw [hq] at this
  have e0 : (0 : Int64).toInt = 0 := rfl
  omega
theorem own_remL (x : Int64) {n : Nat} (h : n ≤ 2147483648) : ∃ k : Nat, k ≤ n ∧ ((x &&& (2147483647 : Int64)) % (Int64.ofNat n + (1 : Int64))) = Int64.ofNat k := by
  have h1 := c_maskL x 2147483647 31 (by decide) (by decide)
  have h2 : ((x &&& (2147483647 : Int64)) % (Int64.ofNat n + (1 : Int64))).toInt = (x &&& (2147483647 : Int64)).toInt.tmod (Int64.ofNat n + (1 : Int64)).toInt := Int64.toInt_mod ..
  rw [own_a1 h, Int.tmod_eq_emod_of_nonneg (by omega)] at h2
  have h3 := Int.emod_nonneg (x &&& (2147483647 : Int64)).toInt (b := ((n + 1 : Nat) : Int)) (by omega)
  have h4 := Int.emod_lt_of_pos (x &&& (2147483647 : Int64)).toInt (b := ((n + 1 : Nat) : Int)) (by omega)
  refine ⟨((x &&& (2147483647 : Int64)) % (Int64.ofNat n + (1 : Int64))).toInt.toNat, by omega, ?_⟩
  apply Int64.toInt_inj.mp
  rw [own_on64 (by omega)]
  omega
theorem own_subL {n m : Nat} (h : m ≤ n) (hn : n ≤ 2147483648) : (Int64.ofNat n - Int64.ofNat m) = Int64.ofNat (n - m) := by
  have h3 := c_lsub (Int64.ofNat n) (Int64.ofNat m)
  have e1 : (Int64.ofNat n).toInt = n := own_on64 (by omega)
  have e2 : (Int64.ofNat m).toInt = m := own_on64 (by omega)
  have b1 := (Int64.ofNat n - Int64.ofNat m).toInt_lt
  have b2 := (Int64.ofNat n - Int64.ofNat m).le_toInt
  apply Int64.toInt_inj.mp
  rw [own_on64 (by omega)]
  omega
/-! the four comparisons -/
theorem own_cg_le {a b : Nat} (h : a ≤ b) : ¬ ((0 : Int32) < cmpValue (some (compare (a : Int) (b : Int))) .g) := by
  rw [Jvm.FP.Core.compare_ite]
  by_cases h1 : (a : Int) < b
  · rw [if_pos h1]; decide
  · rw [if_neg h1, if_pos (by omega)]; decide
theorem own_cl_eq {a b : Nat} (h : a = b) : cmpValue (some (compare (a : Int) (b : Int))) .l = (0 : Int32) := by
  rw [Jvm.FP.Core.compare_ite, if_neg (by omega), if_pos (by omega)]; decide
theorem own_cl_ne {a b : Nat} (h : a ≠ b) : ¬ (cmpValue (some (compare (a : Int) (b : Int))) .l = (0 : Int32)) := by
  rw [Jvm.FP.Core.compare_ite]
  by_cases h1 : (a : Int) < b
  · rw [if_pos h1]; decide
  · rw [if_neg h1, if_neg (by omega)]; decide
theorem own_cl_ge {a b : Nat} (h : b ≤ a) : ¬ (cmpValue (some (compare (a : Int) (b : Int))) .l < (0 : Int32)) := by
  rw [Jvm.FP.Core.compare_ite, if_neg (by omega)]
  by_cases h1 : (a : Int) = b
  · rw [if_pos h1]; decide
  · rw [if_neg h1]; decide
abbrev shr (u d : Nat) : UInt64 := FP.ddiv (FP.l2d (Int64.ofNat d)) (FP.dadd (FP.l2d (Int64.ofNat u)) (FP.l2d (Int64.ofNat d)))
theorem own_v0 : VZ FP.dconst0 0 := by
  have e : FP.dconst0 = FP.l2d (0 : Int64) := by decide +kernel
  rw [e]
  obtain ⟨c, q, h1, h2, -, -⟩ := own_long (PP := 2 ^ 1074) rfl (a := (0 : Int64)) (n := 0) rfl
  have := own_vz h1
  rw [h2 rfl] at this
  exact this
theorem own_v1 {PP : Nat} (hPP : PP = 2 ^ 1074) : VZ FP.dconst1 PP := by
  have e : FP.dconst1 = FP.l2d (1 : Int64) := by decide +kernel
  rw [e]
  obtain ⟨c, q, h1, -, -, -⟩ := own_long (PP := 2 ^ 1074) rfl (a := (1 : Int64)) (n := 1) rfl
  have h3 := own_vz h1
  have h4 := own_zl2d (a := 1) (by decide)
  refine ⟨h3.1, ?_⟩
  rw [hPP]
  refine Eq.trans h4 ?_
  show (1 : Int) * _ = _
  rw [Int.one_mul]
theorem own_fa {PP : Nat} (hPP : PP = 2 ^ 1074) {u d : Nat} (hu : u < 9223372036854775808) (hd : d < 9223372036854775808) (hp : 0 < u + d) {r : UInt64} (hr : r = shr u d) : ∃ z : Nat, VZ r z ∧ z ≤ PP ∧ (d = 0 → z = 0) ∧ (0 < d → 0 < z) ∧ (u = 0 → z = PP) := by
  rw [hr]
  exact (own_share hPP (own_on64 hu) (own_on64 hd) hp).2
theorem own_nn1 {u d : Nat} (hu : u < 9223372036854775808) (hd : d < 9223372036854775808) (hp : 0 < u + d) : Jvm.Free.Fl.NoNaN64 (FP.dadd (FP.l2d (Int64.ofNat u)) (FP.l2d (Int64.ofNat d))) :=
  own_nanN (own_share (PP := 2 ^ 1074) rfl (own_on64 hu) (own_on64 hd) hp).1
theorem own_nn2 {u d : Nat} (hu : u < 9223372036854775808) (hd : d < 9223372036854775808) (hp : 0 < u + d) : Jvm.Free.Fl.NoNaN64 (FP.ddiv (FP.l2d (Int64.ofNat d)) (FP.dadd (FP.l2d (Int64.ofNat u)) (FP.l2d (Int64.ofNat d)))) := by
  obtain ⟨z, h1, -⟩ := (own_share (PP := 2 ^ 1074) rfl (own_on64 hu) (own_on64 hd) hp).2
  exact own_nanN h1.1
theorem own_small {u d : Nat} (hu : u < 2147483648) (hd : d < 2147483648) (hp : 0 < u + d) : Jvm.FP.Core.val64 (shr u d) = Jvm.FP.Core.roundRatio Jvm.FP.Core.b64 false d (u + d) 0 := by
  have eu : (Int64.ofNat u).toInt = u := own_on64 (by omega)
  have ed : (Int64.ofNat d).toInt = d := own_on64 (by omega)
  have hsum : FP.dadd (FP.l2d (Int64.ofNat u)) (FP.l2d (Int64.ofNat d)) = FP.l2d (Int64.ofNat (u + d)) := by
    rw [Int64.ofNat_add]
    exact Jvm.FP.Core.dadd_l2d (by unfold Jvm.FP.Core.Small53; omega) (by unfold Jvm.FP.Core.Small53; omega)
  have es : (Int64.ofNat (u + d)).toInt = ((u + d : Nat) : Int) := own_on64 (by omega)
  have v := own_zquo (a := Int64.ofNat d) (b := Int64.ofNat (u + d)) (by rw [ed]; omega) (by omega) (by omega)
  rw [ed, es] at v
  have hf : decide ((d : Int) < 0) = false := by simp
  rw [hf] at v
  show Jvm.FP.Core.val64 (FP.ddiv (FP.l2d (Int64.ofNat d)) (FP.dadd (FP.l2d (Int64.ofNat u)) (FP.l2d (Int64.ofNat d)))) = _
  rw [hsum]
  exact v
theorem own_lt1 {PP : Nat} (hPP : PP = 2 ^ 1074) {u d : Nat} (hu : u < 2147483648) (hd : d < 2147483648) (h0 : 0 < u) : Jvm.FP.Core.zmag Jvm.FP.Core.b64 (Jvm.FP.Core.roundRatio Jvm.FP.Core.b64 false d (u + d) 0) < PP := by
  obtain ⟨V, v1, v2, v3⟩ := own_repV hPP (2 ^ 32 - 1) 32 (by decide) (by decide)
  have iu : Jvm.FP.Core.inUnits d 0 (-1074) = d * PP := by
    unfold Jvm.FP.Core.inUnits
    rw [hPP]
    congr 2
  have i0 : (Jvm.FP.Core.b64.qmin - -1074).toNat = 0 := by rw [own_qmin]; omega
  have k := Jvm.FP.Core.zmag_roundRatio_le (s := false) (A := d) (B := u + d) (e := 0) Jvm.FP.Core.good_b64 (by omega) v1 v2 (e0 := -1074) (by rw [own_qmin]; omega) (by omega) (by
    rw [iu, i0, Nat.pow_zero, Nat.mul_one]
    refine Nat.le_of_mul_le_mul_right ?_ (Nat.two_pow_pos 32)
    have e1 : Jvm.FP.Core.zmag Jvm.FP.Core.b64 V * (u + d) * 2 ^ 32 = ((2 ^ 32 - 1) * (u + d)) * PP := by
      rw [Nat.mul_right_comm, v3, Nat.mul_right_comm]
    have e2 : d * PP * 2 ^ 32 = (d * 2 ^ 32) * PP := Nat.mul_right_comm _ _ _
    rw [e1, e2]
    refine Nat.mul_le_mul_right _ ?_
    omega)
  refine Nat.lt_of_le_of_lt k ?_
  refine Nat.lt_of_mul_lt_mul_right (a := 2 ^ 32) ?_
  rw [v3, Nat.mul_comm PP]
  exact Nat.mul_lt_mul_of_pos_right (by decide) (PP_pos hPP)
theorem own_fb {PP : Nat} (hPP : PP = 2 ^ 1074) {a b c e : Nat} (ha : a < 2147483648) (hb : b < 2147483648) (hc : c < 2147483648) (he : e < 2147483648) (h1 : 0 < a + b) (h2 : 0 < c + e) {r1 r2 : UInt64} (e1 : r1 = shr a b) (e2 : r2 = shr c e) :
    ∃ y z : Nat, VZ r1 y ∧ VZ r2 z ∧ y ≤ PP ∧ z ≤ PP ∧ (b = 0 → y = 0) ∧ (0 < b → 0 < y) ∧ (a = 0 → y = PP) ∧ (0 < a → y < PP) ∧ (b * c = e * a → y = z) ∧ (b * c < e * a → y ≤ z) ∧ (e * a < b * c → z ≤ y) := by
  obtain ⟨y, v1, y1, y2, y3, y4⟩ := own_fa hPP (by omega) (by omega) h1 e1
  obtain ⟨z, v2, z1, z2, z3, z4⟩ := own_fa hPP (by omega) (by omega) h2 e2
  have s1 : Jvm.FP.Core.val64 r1 = Jvm.FP.Core.roundRatio Jvm.FP.Core.b64 false b (a + b) 0 := by rw [e1]; exact own_small ha hb h1
  have s2 : Jvm.FP.Core.val64 r2 = Jvm.FP.Core.roundRatio Jvm.FP.Core.b64 false e (c + e) 0 := by rw [e2]; exact own_small hc he h2
  have q1 : y = Jvm.FP.Core.zmag Jvm.FP.Core.b64 (Jvm.FP.Core.roundRatio Jvm.FP.Core.b64 false b (a + b) 0) := by
    have := v1.2
    rw [s1, own_zround] at this
    have h : ((Jvm.FP.Core.zmag Jvm.FP.Core.b64 (Jvm.FP.Core.roundRatio Jvm.FP.Core.b64 false b (a + b) 0) : Nat) : Int) = y := this
    omega
  have q2 : z = Jvm.FP.Core.zmag Jvm.FP.Core.b64 (Jvm.FP.Core.roundRatio Jvm.FP.Core.b64 false e (c + e) 0) := by
    have := v2.2
    rw [s2, own_zround] at this
    have h : ((Jvm.FP.Core.zmag Jvm.FP.Core.b64 (Jvm.FP.Core.roundRatio Jvm.FP.Core.b64 false e (c + e) 0) : Nat) : Int) = z := this
    omega
  have m1 : b * c ≤ e * a → y ≤ z := fun h => by
    rw [q1, q2]
    refine own_mono h1 h2 (by omega) (by omega) ?_
    rw [Nat.mul_add, Nat.mul_add, Nat.mul_comm b e]
    exact Nat.add_le_add_right h _
  have m2 : e * a ≤ b * c → z ≤ y := fun h => by
    rw [q1, q2]
    refine own_mono h2 h1 (by omega) (by omega) ?_
    rw [Nat.mul_add, Nat.mul_add, Nat.mul_comm e b]
    exact Nat.add_le_add_right h _
  refine ⟨y, z, v1, v2, y1, z1, y2, y3, y4, fun h => by rw [q1]; exact own_lt1 hPP ha hb h, fun h => ?_, fun h => m1 (Nat.le_of_lt h), fun h => m2 (Nat.le_of_lt h)⟩
  exact Nat.le_antisymm (m1 (Nat.le_of_eq h)) (m2 (Nat.le_of_eq h.symm))
theorem own_fc {n d : Nat} (hn : n < 32) (hd : d ≤ 2 ^ n) {r : UInt64} (hr : r = shr (2 ^ n - d) d) : Dy r d n := by
  have hb := own_p31 hn
  have d1 : Dy (FP.l2d (Int64.ofNat d)) d 0 := Dy.of_l2d (own_on64 (by omega)) (by omega)
  have d2 : Dy (FP.l2d (Int64.ofNat (2 ^ n - d))) (2 ^ n - d) 0 := Dy.of_l2d (own_on64 (by omega)) (by omega)
  have d3 : Dy (FP.dadd (FP.l2d (Int64.ofNat (2 ^ n - d))) (FP.l2d (Int64.ofNat d))) (2 ^ n) 0 := d2.add d1 (by omega) (by decide) (by omega)
  rw [hr]
  exact d1.div d3 (Nat.two_pow_pos _) (by omega) (by omega) (by rw [Nat.pow_zero, Nat.mul_one, Nat.mul_one])
theorem own_fd {n d : Nat} (hn : n < 32) (hd : d ≤ 2 ^ n) {r : UInt64} (hr : Dy r d n) : Dy (FP.dmul r (FP.l2d (Int64.ofNat (2 ^ n)))) d 0 := by
  have hb := own_p31 hn
  have d2 : Dy (FP.l2d (Int64.ofNat (2 ^ n))) (2 ^ n) 0 := Dy.of_l2d (own_on64 (by omega)) (by omega)
  exact hr.mul d2 (by omega) (by decide) (by rw [Nat.pow_zero, Nat.mul_one, Nat.mul_one])

theorem d3_0 : decode jdk_30_method_1_code 0 = .ok (.aload_n 0, 1) := by decide +kernel
theorem d3_1 : decode jdk_30_method_1_code 1 = .ok (.invokespecial 1, 3) := by decide +kernel
theorem d3_4 : decode jdk_30_method_1_code 4 = .ok (.return_, 1) := by decide +kernel
theorem pn0 : plainFor (⟨"java/lang/Record", "<init>", "()V"⟩ : MethodName) = true := by first | (refine plainFor_of_name ?_; simp [plainName, overriddenIn]; done) | (refine plainFor_of_name ?_; decide +kernel) | decide +kernel
def Q_rec (Z : State) (a : Addr) (h0 : Heap) (n0 : Nat) (v : Option Value) (h : Heap) (L : List Loc) : Prop := v = none ∧ Fr n0 L ∧ Keep h0 h []
theorem ef_rec (m : MethodId) (a : Addr) : entryFrame m #[(.ref a)] 1 = mkF m 0 #[.val (.ref a)] [] := by first | (simp [entryFrame, mkF, argsToLocals, Value.category]; done) | rfl
abbrev rm_rec : Room := ({ frames := 1, cells := 0, slots := 0, locals := 12 } : Room)
set_option maxRecDepth 65536 in
set_option maxHeartbeats 4000000 in
theorem met_rec (l : Launch) (Z : State) (a0 : Array Value) (hw : ∀ d ∈ tables_1, d.before a0 Z = true) (a : Addr) (h0 : Heap) (n0 : Nat) (Z0 : n0 ≤ h0.size)  :
    Met l (⟨"java/lang/Record", "<init>", "()V"⟩ : MethodName) jdk_30_method_1_code 1 none [] rm_rec Z #[(.ref a)] h0 (Q_rec Z a h0 n0) rm_rec.cells rm_rec.slots := by
  refine own_body pn0 ?_
  intro p e s m below meth c s₁ ct X0 e0
  have ct0 := ct
  obtain ⟨hx, hZ, hown, hby, hml, hret, hlk, hnm⟩ := ct
  have N0 := Fr.nil n0
  refine castGo (ef_rec m a) ?_
  show Go p e below s _ _ _ s₁ (mkF m 0 #[.val (.ref a)] [])
  refine go_st (fun _ kq => XS.aloadN X0.here hx rfl (hb hby d3_0) rfl rfl kq) ?_
  show Go p e below s _ _ _ s₁ (mkF m 1 #[.val (.ref a)] [(.ref a)])
  refine go_initO X0 hx hZ hml hown (hw _ (List.mem_of_getElem? (i := 16) rfl)) (hw _ (List.mem_of_getElem? (i := 17) rfl)) (hw _ (List.mem_of_getElem? (i := 18) rfl)) e0 (hb hby d3_1) rfl rfl rfl (by decide) (W := 0) (by show 2 * 0 + _ ≤ _; exact Nat.le_of_eq rfl) (by decide) ?_
  intro T1 X1 e1
  show Go p e below s _ _ _ T1 (mkF m 4 #[.val (.ref a)] [])
  exact go_ret0 X1 hx hlk hret (hb hby d3_4) (by decide) (by decide) (by rw [e1]; exact ⟨rfl, N0, (Keep.refl h0 [])⟩)
theorem d2_0 : decode prog_126_method_1_code 0 = .ok (.aload_n 0, 1) := by decide +kernel
theorem d2_1 : decode prog_126_method_1_code 1 = .ok (.invokespecial 1, 3) := by decide +kernel
theorem d2_4 : decode prog_126_method_1_code 4 = .ok (.aload_n 0, 1) := by decide +kernel
theorem d2_5 : decode prog_126_method_1_code 5 = .ok (.lload_n 1, 1) := by decide +kernel
theorem d2_6 : decode prog_126_method_1_code 6 = .ok (.putfield 7, 3) := by decide +kernel
theorem d2_9 : decode prog_126_method_1_code 9 = .ok (.aload_n 0, 1) := by decide +kernel
theorem d2_10 : decode prog_126_method_1_code 10 = .ok (.lload_n 3, 1) := by decide +kernel
theorem d2_11 : decode prog_126_method_1_code 11 = .ok (.putfield 13, 3) := by decide +kernel
theorem d2_14 : decode prog_126_method_1_code 14 = .ok (.aload_n 0, 1) := by decide +kernel
theorem d2_15 : decode prog_126_method_1_code 15 = .ok (.lload 5, 2) := by decide +kernel
theorem d2_17 : decode prog_126_method_1_code 17 = .ok (.putfield 16, 3) := by decide +kernel
theorem d2_20 : decode prog_126_method_1_code 20 = .ok (.return_, 1) := by decide +kernel
theorem pn1 : plainFor (⟨"com/example/quorumhelm/quorumhelm/Simulation$Churn", "<init>", "(JJJ)V"⟩ : MethodName) = true := by first | (refine plainFor_of_name ?_; simp [plainName, overriddenIn]; done) | (refine plainFor_of_name ?_; decide +kernel) | decide +kernel
def Q_ini (Z : State) (a : Addr) (ju : Int64) (jd : Int64) (h0 : Heap) (n0 : Nat) (v : Option Value) (h : Heap) (L : List Loc) : Prop := v = none ∧ Fr n0 L ∧ Keep h0 h [a] ∧ Exa Z h a "com/example/quorumhelm/quorumhelm/Simulation$Churn" ∧ Fld Z h a "com/example/quorumhelm/quorumhelm/Simulation$Churn" "upNanos" "J" (.long ju) ∧ Fld Z h a "com/example/quorumhelm/quorumhelm/Simulation$Churn" "downNanos" "J" (.long jd)
theorem pd0 : parseMethodDescriptor "()V" = some ⟨[], none⟩ := by decide +kernel
theorem ef_ini (m : MethodId) (a : Addr) (ju : Int64) (jd : Int64) : entryFrame m #[(.ref a), (.long (0 : Int64)), (.long ju), (.long jd)] 7 = mkF m 0 #[.val (.ref a), .val (.long (0 : Int64)), .second, .val (.long ju), .second, .val (.long jd), .second] [] := by first | (simp [entryFrame, mkF, argsToLocals, Value.category]; done) | rfl
abbrev rm_ini : Room := ({ frames := 2, cells := 0, slots := 0, locals := 24 } : Room)
set_option maxRecDepth 65536 in
set_option maxHeartbeats 4000000 in
theorem met_ini (l : Launch) (Z : State) (a0 : Array Value) (hw : ∀ d ∈ tables_1, d.before a0 Z = true) (a : Addr) (ju : Int64) (jd : Int64) (h0 : Heap) (n0 : Nat) (Z0 : n0 ≤ h0.size) (P0 : Exa Z h0 a "com/example/quorumhelm/quorumhelm/Simulation$Churn") (P1 : n0 ≤ a) (P2 : Fld Z h0 a "com/example/quorumhelm/quorumhelm/Simulation$Churn" "lengthNanos" "J" (.long (0 : Int64))) (P3 : Fld Z h0 a "com/example/quorumhelm/quorumhelm/Simulation$Churn" "upNanos" "J" (.long (0 : Int64))) (P4 : Fld Z h0 a "com/example/quorumhelm/quorumhelm/Simulation$Churn" "downNanos" "J" (.long (0 : Int64))) :
    Met l (⟨"com/example/quorumhelm/quorumhelm/Simulation$Churn", "<init>", "(JJJ)V"⟩ : MethodName) prog_126_method_1_code 7 none [] rm_ini Z #[(.ref a), (.long (0 : Int64)), (.long ju), (.long jd)] h0 (Q_ini Z a ju jd h0 n0) rm_ini.cells rm_ini.slots := by
  refine own_body pn1 ?_
  intro p e s m below meth c s₁ ct X0 e0
  have ct0 := ct
  obtain ⟨hx, hZ, hown, hby, hml, hret, hlk, hnm⟩ := ct
  have lt_a : a < h0.size := P0.lt
  have N0 := Fr.nil n0
  refine castGo (ef_ini m a ju jd) ?_
  show Go p e below s _ _ _ s₁ (mkF m 0 #[.val (.ref a), .val (.long (0 : Int64)), .second, .val (.long ju), .second, .val (.long jd), .second] [])
  refine go_st (fun _ kq => XS.aloadN X0.here hx rfl (hb hby d2_0) rfl rfl kq) ?_
  show Go p e below s _ _ _ s₁ (mkF m 1 #[.val (.ref a), .val (.long (0 : Int64)), .second, .val (.long ju), .second, .val (.long jd), .second] [(.ref a)])
  refine go_callI X0 hx hZ hml hown rfl (hw _ (List.mem_of_getElem? (i := 11) rfl)) (hw _ (List.mem_of_getElem? (i := 12) rfl)) (hw _ (List.mem_of_getElem? (i := 15) rfl)) (hw _ (List.mem_of_getElem? (i := 14) rfl)) e0 (argsL := []) (rest := []) (W := 0) (met_rec l Z a0 hw a h0 n0 Z0 ) (hb hby d2_1) rfl rfl rfl (lenOf pd0 rfl) (by show 2 * 0 + _ ≤ _; exact Nat.le_of_eq rfl) (by decide) (by decide) (by decide) (by decide) (by decide) ?_
  intro T2 v2 L2 X2 q2
  obtain ⟨rfl, M2, K2⟩ := q2
  have N2 := Fr.app N0 M2
  show Go p e below s _ _ _ T2 (mkF m 4 #[.val (.ref a), .val (.long (0 : Int64)), .second, .val (.long ju), .second, .val (.long jd), .second] [])
  refine go_st (fun _ kq => XS.aloadN X2.here hx rfl (hb hby d2_4) rfl rfl kq) ?_
  show Go p e below s _ _ _ T2 (mkF m 5 #[.val (.ref a), .val (.long (0 : Int64)), .second, .val (.long ju), .second, .val (.long jd), .second] [(.ref a)])
  refine go_st (fun _ kq => XT.lloadN X2.here hx rfl (hb hby d2_5) rfl kq) ?_
  show Go p e below s _ _ _ T2 (mkF m 6 #[.val (.ref a), .val (.long (0 : Int64)), .second, .val (.long ju), .second, .val (.long jd), .second] [(.long (0 : Int64)), (.ref a)])
  have c3 := Fld.keep P2 K2 nin0
  have c4 := Exa.keep P0 K2
  refine go_putF X2 hx hZ hown (host := "") (Or.inl (hw _ (List.mem_of_getElem? (i := 19) rfl))) Via.refl rfl c3 c4 (Or.inr ⟨(hw _ (List.mem_of_getElem? (i := 20) rfl)), rfl, hnm⟩) (hw _ (List.mem_of_getElem? (i := 6) rfl)) (ty := .long) (by decide) rfl rfl (hb hby d2_6) rfl rfl ?_
  intro T5 h5 X5 e5 W5
  have N5 := Fr.snoc X5 N2 P1
  have F5 : Fld Z h5 a "com/example/quorumhelm/quorumhelm/Simulation$Churn" "lengthNanos" "J" (.long (0 : Int64)) := Fld.same W5 c3
  show Go p e below s _ _ _ T5 (mkF m 9 #[.val (.ref a), .val (.long (0 : Int64)), .second, .val (.long ju), .second, .val (.long jd), .second] [])
  refine go_st (fun _ kq => XS.aloadN X5.here hx rfl (hb hby d2_9) rfl rfl kq) ?_
  show Go p e below s _ _ _ T5 (mkF m 10 #[.val (.ref a), .val (.long (0 : Int64)), .second, .val (.long ju), .second, .val (.long jd), .second] [(.ref a)])
  refine go_st (fun _ kq => XT.lloadN X5.here hx rfl (hb hby d2_10) rfl kq) ?_
  show Go p e below s _ _ _ T5 (mkF m 11 #[.val (.ref a), .val (.long (0 : Int64)), .second, .val (.long ju), .second, .val (.long jd), .second] [(.long ju), (.ref a)])
  have c6 := Fld.keep P3 K2 nin0
  have c7 := Fld.other W5 c6 (Or.inr (slot_ne (a0 := a0) (t := .long) (t' := .long) (Or.inr (hw _ (List.mem_of_getElem? (i := 22) rfl))) (Or.inr (hw _ (List.mem_of_getElem? (i := 20) rfl))) (by decide) (by decide) (by decide)))
  have c8 := Exa.wr W5 c4
  refine go_putF X5 hx hZ hown (host := "") (Or.inl (hw _ (List.mem_of_getElem? (i := 21) rfl))) Via.refl e5 c7 c8 (Or.inr ⟨(hw _ (List.mem_of_getElem? (i := 22) rfl)), rfl, hnm⟩) (hw _ (List.mem_of_getElem? (i := 6) rfl)) (ty := .long) (by decide) rfl rfl (hb hby d2_11) rfl rfl ?_
  intro T9 h9 X9 e9 W9
  have N9 := Fr.snoc X9 N5 P1
  have F9 : Fld Z h9 a "com/example/quorumhelm/quorumhelm/Simulation$Churn" "upNanos" "J" (.long ju) := Fld.same W9 c7
  show Go p e below s _ _ _ T9 (mkF m 14 #[.val (.ref a), .val (.long (0 : Int64)), .second, .val (.long ju), .second, .val (.long jd), .second] [])
  refine go_st (fun _ kq => XS.aloadN X9.here hx rfl (hb hby d2_14) rfl rfl kq) ?_
  show Go p e below s _ _ _ T9 (mkF m 15 #[.val (.ref a), .val (.long (0 : Int64)), .second, .val (.long ju), .second, .val (.long jd), .second] [(.ref a)])
  refine go_st (fun _ kq => XT.lload X9.here hx rfl (hb hby d2_15) rfl kq) ?_
  show Go p e below s _ _ _ T9 (mkF m 17 #[.val (.ref a), .val (.long (0 : Int64)), .second, .val (.long ju), .second, .val (.long jd), .second] [(.long jd), (.ref a)])
  have c10 := Fld.keep P4 K2 nin0
  have c11 := Fld.other W5 c10 (Or.inr (slot_ne (a0 := a0) (t := .long) (t' := .long) (Or.inr (hw _ (List.mem_of_getElem? (i := 24) rfl))) (Or.inr (hw _ (List.mem_of_getElem? (i := 20) rfl))) (by decide) (by decide) (by decide)))
  have c12 := Fld.other W9 c11 (Or.inr (slot_ne (a0 := a0) (t := .long) (t' := .long) (Or.inr (hw _ (List.mem_of_getElem? (i := 24) rfl))) (Or.inr (hw _ (List.mem_of_getElem? (i := 22) rfl))) (by decide) (by decide) (by decide)))
  have c13 := Exa.wr W9 c8
  refine go_putF X9 hx hZ hown (host := "") (Or.inl (hw _ (List.mem_of_getElem? (i := 23) rfl))) Via.refl e9 c12 c13 (Or.inr ⟨(hw _ (List.mem_of_getElem? (i := 24) rfl)), rfl, hnm⟩) (hw _ (List.mem_of_getElem? (i := 6) rfl)) (ty := .long) (by decide) rfl rfl (hb hby d2_17) rfl rfl ?_
  intro T14 h14 X14 e14 W14
  have N14 := Fr.snoc X14 N9 P1
  have F14 : Fld Z h14 a "com/example/quorumhelm/quorumhelm/Simulation$Churn" "downNanos" "J" (.long jd) := Fld.same W14 c12
  show Go p e below s _ _ _ T14 (mkF m 20 #[.val (.ref a), .val (.long (0 : Int64)), .second, .val (.long ju), .second, .val (.long jd), .second] [])
  have c15 := Exa.wr W14 c13
  have c16 := Fld.other W14 F9 (Or.inr (slot_ne (a0 := a0) (t := .long) (t' := .long) (Or.inr (hw _ (List.mem_of_getElem? (i := 22) rfl))) (Or.inr (hw _ (List.mem_of_getElem? (i := 24) rfl))) (by decide) (by decide) (by decide)))
  exact go_ret0 X14 hx hlk hret (hb hby d2_20) (by decide) (by decide) (by rw [e14]; exact ⟨rfl, N14, (Keep.wr (Keep.wr (Keep.wr (Keep.trans (Keep.refl h0 [a]) K2 all0) W5 (Or.inl (by simp))) W9 (Or.inl (by simp))) W14 (Or.inl (by simp))), c15, c16, F14⟩)
theorem d5_0 : decode prog_126_method_2_code 0 = .ok (.aload_n 0, 1) := by decide +kernel
theorem d5_1 : decode prog_126_method_2_code 1 = .ok (.getfield 16, 3) := by decide +kernel
theorem d5_4 : decode prog_126_method_2_code 4 = .ok (.l2d, 1) := by decide +kernel
theorem d5_5 : decode prog_126_method_2_code 5 = .ok (.aload_n 0, 1) := by decide +kernel
theorem d5_6 : decode prog_126_method_2_code 6 = .ok (.getfield 13, 3) := by decide +kernel
theorem d5_9 : decode prog_126_method_2_code 9 = .ok (.l2d, 1) := by decide +kernel
theorem d5_10 : decode prog_126_method_2_code 10 = .ok (.aload_n 0, 1) := by decide +kernel
theorem d5_11 : decode prog_126_method_2_code 11 = .ok (.getfield 16, 3) := by decide +kernel
theorem d5_14 : decode prog_126_method_2_code 14 = .ok (.l2d, 1) := by decide +kernel
theorem d5_15 : decode prog_126_method_2_code 15 = .ok (.dadd, 1) := by decide +kernel
theorem d5_16 : decode prog_126_method_2_code 16 = .ok (.ddiv, 1) := by decide +kernel
theorem d5_17 : decode prog_126_method_2_code 17 = .ok (.dreturn, 1) := by decide +kernel
theorem pn2 : plainFor (⟨"com/example/quorumhelm/quorumhelm/Simulation$Churn", "downShare", "()D"⟩ : MethodName) = true := by first | (refine plainFor_of_name ?_; simp [plainName, overriddenIn]; done) | (refine plainFor_of_name ?_; decide +kernel) | decide +kernel
def fDs (ju : Int64) (jd : Int64) : UInt64 := (FP.ddiv (FP.l2d jd) (FP.dadd (FP.l2d ju) (FP.l2d jd)))
theorem ef_5 (m : MethodId) (a : Addr) (ju : Int64) (jd : Int64) : entryFrame m #[(.ref a)] 1 = mkF m 0 #[.val (.ref a)] [] := by first | (simp [entryFrame, mkF, argsToLocals, Value.category]; done) | rfl
abbrev rm_5 : Room := ({ frames := 0, cells := 0, slots := 0, locals := 0 } : Room)
set_option maxRecDepth 65536 in
set_option maxHeartbeats 4000000 in
theorem met_5 (l : Launch) (Z : State) (a0 : Array Value) (hw : ∀ d ∈ tables_1, d.before a0 Z = true) (a : Addr) (ju : Int64) (jd : Int64) (h0 : Heap) (n0 : Nat) (Z0 : n0 ≤ h0.size) (P0 : Fld Z h0 a "com/example/quorumhelm/quorumhelm/Simulation$Churn" "upNanos" "J" (.long ju)) (P1 : Fld Z h0 a "com/example/quorumhelm/quorumhelm/Simulation$Churn" "downNanos" "J" (.long jd)) (P2 : Jvm.Free.Fl.NoNaN64 (FP.dadd (FP.l2d ju) (FP.l2d jd))) (P3 : Jvm.Free.Fl.NoNaN64 (FP.ddiv (FP.l2d jd) (FP.dadd (FP.l2d ju) (FP.l2d jd)))) :
    Met l (⟨"com/example/quorumhelm/quorumhelm/Simulation$Churn", "downShare", "()D"⟩ : MethodName) prog_126_method_2_code 1 (some FieldType.double) [] rm_5 Z #[(.ref a)] h0 (QV (some (.double (fDs ju jd))) h0 n0) 0 0 := by
  refine own_body pn2 ?_
  intro p e s m below meth c s₁ ct X0 e0
  have ct0 := ct
  obtain ⟨hx, hZ, hown, hby, hml, hret, hlk, hnm⟩ := ct
  have N0 := Fr.nil n0
  refine castGo (ef_5 m a ju jd) ?_
  unfold fDs
  show Go p e below s _ _ _ s₁ (mkF m 0 #[.val (.ref a)] [])
  refine go_st (fun _ kq => XS.aloadN X0.here hx rfl (hb hby d5_0) rfl rfl kq) ?_
  show Go p e below s _ _ _ s₁ (mkF m 1 #[.val (.ref a)] [(.ref a)])
  refine go_getF X0 hx hZ hown (host := "") (Or.inl (hw _ (List.mem_of_getElem? (i := 23) rfl))) Via.refl e0 P1 (hb hby d5_1) rfl rfl ?_
  intro T17 X17 e17
  show Go p e below s _ _ _ T17 (mkF m 4 #[.val (.ref a)] [(.long jd)])
  refine go_st (fun _ kq => XS.l2dS X17.here hx rfl (hb hby d5_4) rfl rfl kq) ?_
  show Go p e below s _ _ _ T17 (mkF m 5 #[.val (.ref a)] [(.double (FP.l2d jd))])
  refine go_st (fun _ kq => XS.aloadN X17.here hx rfl (hb hby d5_5) rfl rfl kq) ?_
  show Go p e below s _ _ _ T17 (mkF m 6 #[.val (.ref a)] [(.ref a), (.double (FP.l2d jd))])
  refine go_getF X17 hx hZ hown (host := "") (Or.inl (hw _ (List.mem_of_getElem? (i := 21) rfl))) Via.refl e17 P0 (hb hby d5_6) rfl rfl ?_
  intro T18 X18 e18
  show Go p e below s _ _ _ T18 (mkF m 9 #[.val (.ref a)] [(.long ju), (.double (FP.l2d jd))])
  refine go_st (fun _ kq => XS.l2dS X18.here hx rfl (hb hby d5_9) rfl rfl kq) ?_
  show Go p e below s _ _ _ T18 (mkF m 10 #[.val (.ref a)] [(.double (FP.l2d ju)), (.double (FP.l2d jd))])
  refine go_st (fun _ kq => XS.aloadN X18.here hx rfl (hb hby d5_10) rfl rfl kq) ?_
  show Go p e below s _ _ _ T18 (mkF m 11 #[.val (.ref a)] [(.ref a), (.double (FP.l2d ju)), (.double (FP.l2d jd))])
  refine go_getF X18 hx hZ hown (host := "") (Or.inl (hw _ (List.mem_of_getElem? (i := 23) rfl))) Via.refl e18 P1 (hb hby d5_11) rfl rfl ?_
  intro T19 X19 e19
  show Go p e below s _ _ _ T19 (mkF m 14 #[.val (.ref a)] [(.long jd), (.double (FP.l2d ju)), (.double (FP.l2d jd))])
  refine go_st (fun _ kq => XS.l2dS X19.here hx rfl (hb hby d5_14) rfl rfl kq) ?_
  show Go p e below s _ _ _ T19 (mkF m 15 #[.val (.ref a)] [(.double (FP.l2d jd)), (.double (FP.l2d ju)), (.double (FP.l2d jd))])
  refine go_st (fun _ kq => XS.daddS X19.here hx rfl (hb hby d5_15) rfl P2 rfl kq) ?_
  show Go p e below s _ _ _ T19 (mkF m 16 #[.val (.ref a)] [(.double (FP.dadd (FP.l2d ju) (FP.l2d jd))), (.double (FP.l2d jd))])
  refine go_st (fun _ kq => XS.ddivS X19.here hx rfl (hb hby d5_16) rfl P3 rfl kq) ?_
  show Go p e below s _ _ _ T19 (mkF m 17 #[.val (.ref a)] [(.double (FP.ddiv (FP.l2d jd) (FP.dadd (FP.l2d ju) (FP.l2d jd))))])
  exact go_retD X19 hx hlk hret (hb hby d5_17) (by decide) (by decide) ⟨rfl, N0, e19⟩
theorem d1_0 : decode method_2_code 0 = .ok (.new 7, 3) := by decide +kernel
theorem d1_3 : decode method_2_code 3 = .ok (.dup, 1) := by decide +kernel
theorem d1_4 : decode method_2_code 4 = .ok (.lconst 0, 1) := by decide +kernel
theorem d1_5 : decode method_2_code 5 = .ok (.lload_n 0, 1) := by decide +kernel
theorem d1_6 : decode method_2_code 6 = .ok (.lload_n 2, 1) := by decide +kernel
theorem d1_7 : decode method_2_code 7 = .ok (.invokespecial 9, 3) := by decide +kernel
theorem d1_10 : decode method_2_code 10 = .ok (.invokevirtual 12, 3) := by decide +kernel
theorem d1_13 : decode method_2_code 13 = .ok (.dreturn, 1) := by decide +kernel
theorem pn3 : plainFor (⟨"com/example/quorumhelm/quorumhelm/SimulationDownSharePinLaw", "share", "(JJ)D"⟩ : MethodName) = true := by first | (refine plainFor_of_name ?_; simp [plainName, overriddenIn]; done) | (refine plainFor_of_name ?_; decide +kernel) | decide +kernel
def Q_shr (Z : State) (nu : Nat) (nd : Nat) (h0 : Heap) (n0 : Nat) (v : Option Value) (h : Heap) (L : List Loc) : Prop := ∃ rq : UInt64, v = some (.double rq) ∧ Fr n0 L ∧ Keep h0 h [] ∧ (rq = shr nu nd)
theorem pd1 : parseMethodDescriptor "(JJJ)V" = some ⟨[.long, .long, .long], none⟩ := by decide +kernel
theorem pd2 : parseMethodDescriptor "()D" = some ⟨[], (some .double)⟩ := by decide +kernel
theorem ef_shr (m : MethodId) (nu : Nat) (nd : Nat) : entryFrame m #[(.long (Int64.ofNat nu)), (.long (Int64.ofNat nd))] 4 = mkF m 0 #[.val (.long (Int64.ofNat nu)), .second, .val (.long (Int64.ofNat nd)), .second] [] := by first | (simp [entryFrame, mkF, argsToLocals, Value.category]; done) | rfl
abbrev rm_shr : Room := ({ frames := 3, cells := 1, slots := 3, locals := 43 } : Room)
set_option maxRecDepth 65536 in
set_option maxHeartbeats 4000000 in
theorem met_shr (l : Launch) (Z : State) (a0 : Array Value) (hw : ∀ d ∈ tables_1, d.before a0 Z = true) (nu : Nat) (nd : Nat) (h0 : Heap) (n0 : Nat) (Z0 : n0 ≤ h0.size) (P0 : nu < 9223372036854775808) (P1 : nd < 9223372036854775808) (P2 : 0 < nu + nd) :
    Met l (⟨"com/example/quorumhelm/quorumhelm/SimulationDownSharePinLaw", "share", "(JJ)D"⟩ : MethodName) method_2_code 4 (some FieldType.double) [] rm_shr Z #[(.long (Int64.ofNat nu)), (.long (Int64.ofNat nd))] h0 (Q_shr Z nu nd h0 n0) rm_shr.cells rm_shr.slots := by
  refine own_body pn3 ?_
  intro p e s m below meth c s₁ ct X0 e0
  have ct0 := ct
  obtain ⟨hx, hZ, hown, hby, hml, hret, hlk, hnm⟩ := ct
  have N0 := Fr.nil n0
  refine castGo (ef_shr m nu nd) ?_
  show Go p e below s _ _ _ s₁ (mkF m 0 #[.val (.long (Int64.ofNat nu)), .second, .val (.long (Int64.ofNat nd)), .second] [])
  refine go_newO X0 hx hZ hown (hw _ (List.mem_of_getElem? (i := 5) rfl)) (hw _ (List.mem_of_getElem? (i := 6) rfl)) (hw _ (List.mem_of_getElem? (i := 7) rfl)) e0 (hb hby d1_0) rfl (by decide) (by decide) ?_
  intro T20 h20 a20 g20 X20 e20 E20 A20 D20
  have nw_a20 : n0 ≤ a20 := Nat.le_trans Z0 (Nat.le_of_eq g20.symm)
  have lt_a20 : a20 < h20.size := A20.lt
  have F21 : Fld Z h20 a20 "com/example/quorumhelm/quorumhelm/Simulation$Churn" "lengthNanos" "J" (.long (0 : Int64)) := D20 (Or.inr (hw _ (List.mem_of_getElem? (i := 20) rfl))) (ty := .long) (by decide)
  have F22 : Fld Z h20 a20 "com/example/quorumhelm/quorumhelm/Simulation$Churn" "upNanos" "J" (.long (0 : Int64)) := D20 (Or.inr (hw _ (List.mem_of_getElem? (i := 22) rfl))) (ty := .long) (by decide)
  have F23 : Fld Z h20 a20 "com/example/quorumhelm/quorumhelm/Simulation$Churn" "downNanos" "J" (.long (0 : Int64)) := D20 (Or.inr (hw _ (List.mem_of_getElem? (i := 24) rfl))) (ty := .long) (by decide)
  show Go p e below s _ _ _ T20 (mkF m 3 #[.val (.long (Int64.ofNat nu)), .second, .val (.long (Int64.ofNat nd)), .second] [(.ref a20)])
  refine go_st (fun _ kq => XS.dup X20.here hx rfl (hb hby d1_3) rfl rfl kq) ?_
  show Go p e below s _ _ _ T20 (mkF m 4 #[.val (.long (Int64.ofNat nu)), .second, .val (.long (Int64.ofNat nd)), .second] [(.ref a20), (.ref a20)])
  refine go_st (fun _ kq => XT.lconstV X20.here hx rfl (0 : Int64) (hb hby d1_4) (by decide) kq) ?_
  show Go p e below s _ _ _ T20 (mkF m 5 #[.val (.long (Int64.ofNat nu)), .second, .val (.long (Int64.ofNat nd)), .second] [(.long (0 : Int64)), (.ref a20), (.ref a20)])
  refine go_st (fun _ kq => XT.lloadN X20.here hx rfl (hb hby d1_5) rfl kq) ?_
  show Go p e below s _ _ _ T20 (mkF m 6 #[.val (.long (Int64.ofNat nu)), .second, .val (.long (Int64.ofNat nd)), .second] [(.long (Int64.ofNat nu)), (.long (0 : Int64)), (.ref a20), (.ref a20)])
  refine go_st (fun _ kq => XT.lloadN X20.here hx rfl (hb hby d1_6) rfl kq) ?_
  show Go p e below s _ _ _ T20 (mkF m 7 #[.val (.long (Int64.ofNat nu)), .second, .val (.long (Int64.ofNat nd)), .second] [(.long (Int64.ofNat nd)), (.long (Int64.ofNat nu)), (.long (0 : Int64)), (.ref a20), (.ref a20)])
  have z25 : n0 ≤ h20.size := Nat.le_trans Z0 E20.1
  refine go_callI X20 hx hZ hml hown rfl (hw _ (List.mem_of_getElem? (i := 8) rfl)) (hw _ (List.mem_of_getElem? (i := 9) rfl)) (hw _ (List.mem_of_getElem? (i := 10) rfl)) (hw _ (List.mem_of_getElem? (i := 7) rfl)) e20 (argsL := [(.long (0 : Int64)), (.long (Int64.ofNat nu)), (.long (Int64.ofNat nd))]) (rest := [(.ref a20)]) (W := 1) (met_ini l Z a0 hw a20 (Int64.ofNat nu) (Int64.ofNat nd) h20 n0 z25 A20 nw_a20 F21 F22 F23) (hb hby d1_7) rfl rfl rfl (lenOf pd1 rfl) (by show 2 * 0 + _ ≤ _; exact Nat.le_of_eq rfl) (by decide) (by decide) (by decide) (by decide) (by decide) ?_
  intro T24 v24 L24 X24 q24
  obtain ⟨rfl, M24, K24, f24_0, f24_1, f24_2⟩ := q24
  have N24 := Fr.app N0 M24
  show Go p e below s _ _ _ T24 (mkF m 10 #[.val (.long (Int64.ofNat nu)), .second, .val (.long (Int64.ofNat nd)), .second] [(.ref a20)])
  have z27 : n0 ≤ T24.heap.size := Nat.le_trans z25 K24.1
  refine go_callV X24 hx hZ hml hown (hw _ (List.mem_of_getElem? (i := 25) rfl)) (hw _ (List.mem_of_getElem? (i := 26) rfl)) (notFace_of_selects (args := #[]) (mvT hZ (hw _ (List.mem_of_getElem? (i := 28) rfl)))) (hw _ (List.mem_of_getElem? (i := 28) rfl)) (hw _ (List.mem_of_getElem? (i := 27) rfl)) (hw _ (List.mem_of_getElem? (i := 29) rfl)) (hw _ (List.mem_of_getElem? (i := 7) rfl)) rfl f24_0 (argsL := []) (rest := []) (W := 0) (met_5 l Z a0 hw a20 (Int64.ofNat nu) (Int64.ofNat nd) T24.heap n0 z27 f24_1 f24_2 (own_nn1 P0 P1 P2) (own_nn2 P0 P1 P2)) (hb hby d1_10) rfl rfl rfl (lenOf pd2 rfl) (by show 2 * 0 + _ ≤ _; exact Nat.le_of_eq rfl) (by decide) (by decide) (by decide) (by decide) (by decide) ?_
  intro T26 v26 L26 X26 q26
  obtain ⟨rfl, M26, e26⟩ := q26
  have N26 := Fr.app N24 M26
  show Go p e below s _ _ _ T26 (mkF m 13 #[.val (.long (Int64.ofNat nu)), .second, .val (.long (Int64.ofNat nd)), .second] [(.double (FP.ddiv (FP.l2d (Int64.ofNat nd)) (FP.dadd (FP.l2d (Int64.ofNat nu)) (FP.l2d (Int64.ofNat nd)))))])
  exact go_retD X26 hx hlk hret (hb hby d1_13) (by decide) (by decide) (by rw [e26]; exact ⟨(FP.ddiv (FP.l2d (Int64.ofNat nd)) (FP.dadd (FP.l2d (Int64.ofNat nu)) (FP.l2d (Int64.ofNat nd)))), rfl, N26, (Keep.trans (Keep.ext (Keep.refl h0 []) E20) K24 (allS (Or.inr (Nat.le_trans (Nat.le_refl _) (Nat.le_of_eq g20.symm))) all0)), rfl⟩)
theorem pn4 : plainFor x = true := by first | (refine plainFor_of_name ?_; simp [plainName, overriddenIn]; done) | (refine plainFor_of_name ?_; decide +kernel) | decide +kernel
theorem pd3 : parseMethodDescriptor "(JJ)D" = some ⟨[.long, .long], (some .double)⟩ := by decide +kernel
theorem ef_law (m : MethodId) (x0 : Int64) (x1 : Int64) (x2 : Int64) (x3 : Int64) (x4 : Int32) (x5 : Int64) : entryFrame m #[(.long x0), (.long x1), (.long x2), (.long x3), (.int x4), (.long x5)] maxLocals = mkF m 0 #[.val (.long x0), .second, .val (.long x1), .second, .val (.long x2), .second, .val (.long x3), .second, .val (.int x4), .val (.long x5), .second, .unset, .unset, .unset, .unset, .unset, .unset, .unset, .unset, .unset, .unset, .unset, .unset, .unset, .unset, .unset, .unset, .unset, .unset, .unset, .unset, .unset, .unset, .unset, .unset, .unset, .unset, .unset, .unset, .unset, .unset, .unset, .unset] [] := by first | (simp [entryFrame, mkF, argsToLocals, Value.category, maxLocals]; done) | rfl
set_option maxRecDepth 65536 in
set_option maxHeartbeats 4000000 in
theorem met_law (l : Launch) (Z : State) (a0 : Array Value) (hw : ∀ d ∈ tables_1, d.before a0 Z = true) (x0 : Int64) (x1 : Int64) (x2 : Int64) (x3 : Int64) (x4 : Int32) (x5 : Int64) (h0 : Heap) (n0 : Nat) (Z0 : n0 ≤ h0.size) :
    Met l x code maxLocals ret tables_1 room_1 Z #[(.long x0), (.long x1), (.long x2), (.long x3), (.int x4), (.long x5)] h0 (QF (some (.int (1 : Int32))) n0) 16 128 := by
  refine own_body pn4 ?_
  intro p e s m below meth c s₁ ct X0 e0
  have ct0 := ct
  obtain ⟨hx, hZ, hown, hby, hml, hret, hlk, hnm⟩ := ct
  have N0 := Fr.nil n0
  refine castGo (ef_law m x0 x1 x2 x3 x4 x5) ?_
  show Go p e below s _ _ _ s₁ (mkF m 0 #[.val (.long x0), .second, .val (.long x1), .second, .val (.long x2), .second, .val (.long x3), .second, .val (.int x4), .val (.long x5), .second, .unset, .unset, .unset, .unset, .unset, .unset, .unset, .unset, .unset, .unset, .unset, .unset, .unset, .unset, .unset, .unset, .unset, .unset, .unset, .unset, .unset, .unset, .unset, .unset, .unset, .unset, .unset, .unset, .unset, .unset, .unset, .unset] [])
  refine go_st (fun _ kq => XT.iconstV X0.here hx rfl (1 : Int32) (hb hby at_0) (by decide) kq) ?_
  show Go p e below s _ _ _ s₁ (mkF m 1 #[.val (.long x0), .second, .val (.long x1), .second, .val (.long x2), .second, .val (.long x3), .second, .val (.int x4), .val (.long x5), .second, .unset, .unset, .unset, .unset, .unset, .unset, .unset, .unset, .unset, .unset, .unset, .unset, .unset, .unset, .unset, .unset, .unset, .unset, .unset, .unset, .unset, .unset, .unset, .unset, .unset, .unset, .unset, .unset, .unset, .unset, .unset, .unset] [(.int (1 : Int32))])
  refine go_st (fun _ kq => XS.istore X0.here hx rfl (hb hby at_1) rfl (l' := #[.val (.long x0), .second, .val (.long x1), .second, .val (.long x2), .second, .val (.long x3), .second, .val (.int x4), .val (.long x5), .second, .val (.int (1 : Int32)), .unset, .unset, .unset, .unset, .unset, .unset, .unset, .unset, .unset, .unset, .unset, .unset, .unset, .unset, .unset, .unset, .unset, .unset, .unset, .unset, .unset, .unset, .unset, .unset, .unset, .unset, .unset, .unset, .unset, .unset, .unset]) rfl kq) ?_
  show Go p e below s _ _ _ s₁ (mkF m 3 #[.val (.long x0), .second, .val (.long x1), .second, .val (.long x2), .second, .val (.long x3), .second, .val (.int x4), .val (.long x5), .second, .val (.int (1 : Int32)), .unset, .unset, .unset, .unset, .unset, .unset, .unset, .unset, .unset, .unset, .unset, .unset, .unset, .unset, .unset, .unset, .unset, .unset, .unset, .unset, .unset, .unset, .unset, .unset, .unset, .unset, .unset, .unset, .unset, .unset, .unset] [])
  refine go_st (fun _ kq => XT.lloadN X0.here hx rfl (hb hby at_3) rfl kq) ?_
  show Go p e below s _ _ _ s₁ (mkF m 4 #[.val (.long x0), .second, .val (.long x1), .second, .val (.long x2), .second, .val (.long x3), .second, .val (.int x4), .val (.long x5), .second, .val (.int (1 : Int32)), .unset, .unset, .unset, .unset, .unset, .unset, .unset, .unset, .unset, .unset, .unset, .unset, .unset, .unset, .unset, .unset, .unset, .unset, .unset, .unset, .unset, .unset, .unset, .unset, .unset, .unset, .unset, .unset, .unset, .unset, .unset] [(.long x0)])
  refine go_st (fun _ kq => Jvm.Stand.ldc2J X0 hx hown (mvT hZ (hw _ (List.mem_of_getElem? (i := 0) rfl))) rfl (hb hby at_4) kq) ?_
  show Go p e below s _ _ _ s₁ (mkF m 7 #[.val (.long x0), .second, .val (.long x1), .second, .val (.long x2), .second, .val (.long x3), .second, .val (.int x4), .val (.long x5), .second, .val (.int (1 : Int32)), .unset, .unset, .unset, .unset, .unset, .unset, .unset, .unset, .unset, .unset, .unset, .unset, .unset, .unset, .unset, .unset, .unset, .unset, .unset, .unset, .unset, .unset, .unset, .unset, .unset, .unset, .unset, .unset, .unset, .unset, .unset] [(.long (9223372036854775807 : Int64)), (.long x0)])
  refine go_st (fun _ kq => XT.land X0.here hx rfl (hb hby at_7) rfl kq) ?_
  show Go p e below s _ _ _ s₁ (mkF m 8 #[.val (.long x0), .second, .val (.long x1), .second, .val (.long x2), .second, .val (.long x3), .second, .val (.int x4), .val (.long x5), .second, .val (.int (1 : Int32)), .unset, .unset, .unset, .unset, .unset, .unset, .unset, .unset, .unset, .unset, .unset, .unset, .unset, .unset, .unset, .unset, .unset, .unset, .unset, .unset, .unset, .unset, .unset, .unset, .unset, .unset, .unset, .unset, .unset, .unset, .unset] [(.long (x0 &&& (9223372036854775807 : Int64)))])
  refine go_st (fun _ kq => XT.lstore X0.here hx rfl (hb hby at_8) rfl (l' := #[.val (.long x0), .second, .val (.long x1), .second, .val (.long x2), .second, .val (.long x3), .second, .val (.int x4), .val (.long x5), .second, .val (.int (1 : Int32)), .val (.long (x0 &&& (9223372036854775807 : Int64))), .second, .unset, .unset, .unset, .unset, .unset, .unset, .unset, .unset, .unset, .unset, .unset, .unset, .unset, .unset, .unset, .unset, .unset, .unset, .unset, .unset, .unset, .unset, .unset, .unset, .unset, .unset, .unset, .unset, .unset]) rfl kq) ?_
  show Go p e below s _ _ _ s₁ (mkF m 10 #[.val (.long x0), .second, .val (.long x1), .second, .val (.long x2), .second, .val (.long x3), .second, .val (.int x4), .val (.long x5), .second, .val (.int (1 : Int32)), .val (.long (x0 &&& (9223372036854775807 : Int64))), .second, .unset, .unset, .unset, .unset, .unset, .unset, .unset, .unset, .unset, .unset, .unset, .unset, .unset, .unset, .unset, .unset, .unset, .unset, .unset, .unset, .unset, .unset, .unset, .unset, .unset, .unset, .unset, .unset, .unset] [])
  refine go_st (fun _ kq => XT.lloadN X0.here hx rfl (hb hby at_10) rfl kq) ?_
  show Go p e below s _ _ _ s₁ (mkF m 11 #[.val (.long x0), .second, .val (.long x1), .second, .val (.long x2), .second, .val (.long x3), .second, .val (.int x4), .val (.long x5), .second, .val (.int (1 : Int32)), .val (.long (x0 &&& (9223372036854775807 : Int64))), .second, .unset, .unset, .unset, .unset, .unset, .unset, .unset, .unset, .unset, .unset, .unset, .unset, .unset, .unset, .unset, .unset, .unset, .unset, .unset, .unset, .unset, .unset, .unset, .unset, .unset, .unset, .unset, .unset, .unset] [(.long x1)])
  refine go_st (fun _ kq => Jvm.Stand.ldc2J X0 hx hown (mvT hZ (hw _ (List.mem_of_getElem? (i := 0) rfl))) rfl (hb hby at_11) kq) ?_
  show Go p e below s _ _ _ s₁ (mkF m 14 #[.val (.long x0), .second, .val (.long x1), .second, .val (.long x2), .second, .val (.long x3), .second, .val (.int x4), .val (.long x5), .second, .val (.int (1 : Int32)), .val (.long (x0 &&& (9223372036854775807 : Int64))), .second, .unset, .unset, .unset, .unset, .unset, .unset, .unset, .unset, .unset, .unset, .unset, .unset, .unset, .unset, .unset, .unset, .unset, .unset, .unset, .unset, .unset, .unset, .unset, .unset, .unset, .unset, .unset, .unset, .unset] [(.long (9223372036854775807 : Int64)), (.long x1)])
  refine go_st (fun _ kq => XT.land X0.here hx rfl (hb hby at_14) rfl kq) ?_
  show Go p e below s _ _ _ s₁ (mkF m 15 #[.val (.long x0), .second, .val (.long x1), .second, .val (.long x2), .second, .val (.long x3), .second, .val (.int x4), .val (.long x5), .second, .val (.int (1 : Int32)), .val (.long (x0 &&& (9223372036854775807 : Int64))), .second, .unset, .unset, .unset, .unset, .unset, .unset, .unset, .unset, .unset, .unset, .unset, .unset, .unset, .unset, .unset, .unset, .unset, .unset, .unset, .unset, .unset, .unset, .unset, .unset, .unset, .unset, .unset, .unset, .unset] [(.long (x1 &&& (9223372036854775807 : Int64)))])
  refine go_st (fun _ kq => XT.lstore X0.here hx rfl (hb hby at_15) rfl (l' := #[.val (.long x0), .second, .val (.long x1), .second, .val (.long x2), .second, .val (.long x3), .second, .val (.int x4), .val (.long x5), .second, .val (.int (1 : Int32)), .val (.long (x0 &&& (9223372036854775807 : Int64))), .second, .val (.long (x1 &&& (9223372036854775807 : Int64))), .second, .unset, .unset, .unset, .unset, .unset, .unset, .unset, .unset, .unset, .unset, .unset, .unset, .unset, .unset, .unset, .unset, .unset, .unset, .unset, .unset, .unset, .unset, .unset, .unset, .unset, .unset, .unset]) rfl kq) ?_
  show Go p e below s _ _ _ s₁ (mkF m 17 #[.val (.long x0), .second, .val (.long x1), .second, .val (.long x2), .second, .val (.long x3), .second, .val (.int x4), .val (.long x5), .second, .val (.int (1 : Int32)), .val (.long (x0 &&& (9223372036854775807 : Int64))), .second, .val (.long (x1 &&& (9223372036854775807 : Int64))), .second, .unset, .unset, .unset, .unset, .unset, .unset, .unset, .unset, .unset, .unset, .unset, .unset, .unset, .unset, .unset, .unset, .unset, .unset, .unset, .unset, .unset, .unset, .unset, .unset, .unset, .unset, .unset] [])
  obtain ⟨PP, hPP⟩ : ∃ P : Nat, P = 2 ^ 1074 := ⟨_, rfl⟩
  obtain ⟨nu, hnu, enu⟩ := own_mk63 x0
  rw [enu]
  obtain ⟨nd0, hnd0, end0⟩ := own_mk63 x1
  rw [end0]
  show Go p e below s _ _ _ s₁ (mkF m 17 #[.val (.long x0), .second, .val (.long x1), .second, .val (.long x2), .second, .val (.long x3), .second, .val (.int x4), .val (.long x5), .second, .val (.int (1 : Int32)), .val (.long (Int64.ofNat nu)), .second, .val (.long (Int64.ofNat nd0)), .second, .unset, .unset, .unset, .unset, .unset, .unset, .unset, .unset, .unset, .unset, .unset, .unset, .unset, .unset, .unset, .unset, .unset, .unset, .unset, .unset, .unset, .unset, .unset, .unset, .unset, .unset, .unset] [])
  have J34 : ∀ (nd : Nat), ∀ (hnd : nd < 9223372036854775808), ∀ (hpd : 0 < nu + nd), Go p e below s (QF (some (.int (1 : Int32))) n0) 16 128 s₁ (mkF m 34 #[.val (.long x0), .second, .val (.long x1), .second, .val (.long x2), .second, .val (.long x3), .second, .val (.int x4), .val (.long x5), .second, .val (.int (1 : Int32)), .val (.long (Int64.ofNat nu)), .second, .val (.long (Int64.ofNat nd)), .second, .unset, .unset, .unset, .unset, .unset, .unset, .unset, .unset, .unset, .unset, .unset, .unset, .unset, .unset, .unset, .unset, .unset, .unset, .unset, .unset, .unset, .unset, .unset, .unset, .unset, .unset, .unset] []) := by
    intro nd hnd hpd
    refine go_st (fun _ kq => XT.lload X0.here hx rfl (hb hby at_34) rfl kq) ?_
    show Go p e below s _ _ _ s₁ (mkF m 36 #[.val (.long x0), .second, .val (.long x1), .second, .val (.long x2), .second, .val (.long x3), .second, .val (.int x4), .val (.long x5), .second, .val (.int (1 : Int32)), .val (.long (Int64.ofNat nu)), .second, .val (.long (Int64.ofNat nd)), .second, .unset, .unset, .unset, .unset, .unset, .unset, .unset, .unset, .unset, .unset, .unset, .unset, .unset, .unset, .unset, .unset, .unset, .unset, .unset, .unset, .unset, .unset, .unset, .unset, .unset, .unset, .unset] [(.long (Int64.ofNat nu))])
    refine go_st (fun _ kq => XT.lload X0.here hx rfl (hb hby at_36) rfl kq) ?_
    show Go p e below s _ _ _ s₁ (mkF m 38 #[.val (.long x0), .second, .val (.long x1), .second, .val (.long x2), .second, .val (.long x3), .second, .val (.int x4), .val (.long x5), .second, .val (.int (1 : Int32)), .val (.long (Int64.ofNat nu)), .second, .val (.long (Int64.ofNat nd)), .second, .unset, .unset, .unset, .unset, .unset, .unset, .unset, .unset, .unset, .unset, .unset, .unset, .unset, .unset, .unset, .unset, .unset, .unset, .unset, .unset, .unset, .unset, .unset, .unset, .unset, .unset, .unset] [(.long (Int64.ofNat nd)), (.long (Int64.ofNat nu))])
    refine go_callS X0 hx hZ hml hown (hw _ (List.mem_of_getElem? (i := 1) rfl)) (hw _ (List.mem_of_getElem? (i := 2) rfl)) (hw _ (List.mem_of_getElem? (i := 3) rfl)) (hw _ (List.mem_of_getElem? (i := 4) rfl)) e0 (argsL := [(.long (Int64.ofNat nu)), (.long (Int64.ofNat nd))]) (rest := []) (W := 0) (met_shr l Z a0 hw nu nd h0 n0 Z0 (by omega) (by omega) (by omega)) (hb hby at_38) rfl rfl rfl (lenOf pd3 rfl) (by show 2 * 0 + _ ≤ _; exact Nat.le_of_eq rfl) (by decide) (by decide) (by decide) (by decide) (by decide) ?_
    intro T28 v28 L28 X28 q28
    obtain ⟨rq_28, rfl, M28, K28, p28_0⟩ := q28
    have N28 := Fr.app N0 M28
    show Go p e below s _ _ _ T28 (mkF m 41 #[.val (.long x0), .second, .val (.long x1), .second, .val (.long x2), .second, .val (.long x3), .second, .val (.int x4), .val (.long x5), .second, .val (.int (1 : Int32)), .val (.long (Int64.ofNat nu)), .second, .val (.long (Int64.ofNat nd)), .second, .unset, .unset, .unset, .unset, .unset, .unset, .unset, .unset, .unset, .unset, .unset, .unset, .unset, .unset, .unset, .unset, .unset, .unset, .unset, .unset, .unset, .unset, .unset, .unset, .unset, .unset, .unset] [(.double rq_28)])
    refine go_st (fun _ kq => XS.dstore X28.here hx rfl (hb hby at_41) rfl (l' := #[.val (.long x0), .second, .val (.long x1), .second, .val (.long x2), .second, .val (.long x3), .second, .val (.int x4), .val (.long x5), .second, .val (.int (1 : Int32)), .val (.long (Int64.ofNat nu)), .second, .val (.long (Int64.ofNat nd)), .second, .val (.double rq_28), .second, .unset, .unset, .unset, .unset, .unset, .unset, .unset, .unset, .unset, .unset, .unset, .unset, .unset, .unset, .unset, .unset, .unset, .unset, .unset, .unset, .unset, .unset, .unset, .unset, .unset]) rfl kq) ?_
    show Go p e below s _ _ _ T28 (mkF m 43 #[.val (.long x0), .second, .val (.long x1), .second, .val (.long x2), .second, .val (.long x3), .second, .val (.int x4), .val (.long x5), .second, .val (.int (1 : Int32)), .val (.long (Int64.ofNat nu)), .second, .val (.long (Int64.ofNat nd)), .second, .val (.double rq_28), .second, .unset, .unset, .unset, .unset, .unset, .unset, .unset, .unset, .unset, .unset, .unset, .unset, .unset, .unset, .unset, .unset, .unset, .unset, .unset, .unset, .unset, .unset, .unset, .unset, .unset] [])
    obtain ⟨z, vz, z1, z2, z3, z4⟩ := own_fa hPP hnu hnd hpd p28_0
    refine go_st (fun _ kq => XS.iload X28.here hx rfl (hb hby at_43) rfl kq) ?_
    show Go p e below s _ _ _ T28 (mkF m 45 #[.val (.long x0), .second, .val (.long x1), .second, .val (.long x2), .second, .val (.long x3), .second, .val (.int x4), .val (.long x5), .second, .val (.int (1 : Int32)), .val (.long (Int64.ofNat nu)), .second, .val (.long (Int64.ofNat nd)), .second, .val (.double rq_28), .second, .unset, .unset, .unset, .unset, .unset, .unset, .unset, .unset, .unset, .unset, .unset, .unset, .unset, .unset, .unset, .unset, .unset, .unset, .unset, .unset, .unset, .unset, .unset, .unset, .unset] [(.int (1 : Int32))])
    refine go_st (fun _ kq => XS.ifNo X28.here hx rfl (hb hby at_45) rfl (XT.i0_eq_f (by decide)) kq) ?_
    show Go p e below s _ _ _ T28 (mkF m 48 #[.val (.long x0), .second, .val (.long x1), .second, .val (.long x2), .second, .val (.long x3), .second, .val (.int x4), .val (.long x5), .second, .val (.int (1 : Int32)), .val (.long (Int64.ofNat nu)), .second, .val (.long (Int64.ofNat nd)), .second, .val (.double rq_28), .second, .unset, .unset, .unset, .unset, .unset, .unset, .unset, .unset, .unset, .unset, .unset, .unset, .unset, .unset, .unset, .unset, .unset, .unset, .unset, .unset, .unset, .unset, .unset, .unset, .unset] [])
    refine go_st (fun _ kq => XS.dconst0 X28.here hx rfl (hb hby at_48) rfl kq) ?_
    show Go p e below s _ _ _ T28 (mkF m 49 #[.val (.long x0), .second, .val (.long x1), .second, .val (.long x2), .second, .val (.long x3), .second, .val (.int x4), .val (.long x5), .second, .val (.int (1 : Int32)), .val (.long (Int64.ofNat nu)), .second, .val (.long (Int64.ofNat nd)), .second, .val (.double rq_28), .second, .unset, .unset, .unset, .unset, .unset, .unset, .unset, .unset, .unset, .unset, .unset, .unset, .unset, .unset, .unset, .unset, .unset, .unset, .unset, .unset, .unset, .unset, .unset, .unset, .unset] [(.double (FP.dconst0))])
    refine go_st (fun _ kq => XS.dload X28.here hx rfl (hb hby at_49) rfl kq) ?_
    show Go p e below s _ _ _ T28 (mkF m 51 #[.val (.long x0), .second, .val (.long x1), .second, .val (.long x2), .second, .val (.long x3), .second, .val (.int x4), .val (.long x5), .second, .val (.int (1 : Int32)), .val (.long (Int64.ofNat nu)), .second, .val (.long (Int64.ofNat nd)), .second, .val (.double rq_28), .second, .unset, .unset, .unset, .unset, .unset, .unset, .unset, .unset, .unset, .unset, .unset, .unset, .unset, .unset, .unset, .unset, .unset, .unset, .unset, .unset, .unset, .unset, .unset, .unset, .unset] [(.double rq_28), (.double (FP.dconst0))])
    refine go_st (fun _ kq => XS.dcmpS X28.here hx rfl (hb hby at_51) rfl rfl kq) ?_
    show Go p e below s _ _ _ T28 (mkF m 52 #[.val (.long x0), .second, .val (.long x1), .second, .val (.long x2), .second, .val (.long x3), .second, .val (.int x4), .val (.long x5), .second, .val (.int (1 : Int32)), .val (.long (Int64.ofNat nu)), .second, .val (.long (Int64.ofNat nd)), .second, .val (.double rq_28), .second, .unset, .unset, .unset, .unset, .unset, .unset, .unset, .unset, .unset, .unset, .unset, .unset, .unset, .unset, .unset, .unset, .unset, .unset, .unset, .unset, .unset, .unset, .unset, .unset, .unset] [(.int (cmpValue (FP.dcmp (FP.dconst0) rq_28) .g))])
    have hb29 : ¬ ((0 : Int32) < (cmpValue (FP.dcmp (FP.dconst0) rq_28) .g)) := by rw [show FP.dcmp (FP.dconst0) rq_28 = _ from VZ.cmp own_v0 vz]; exact own_cg_le (by omega)
    refine go_st (fun _ kq => XS.ifNo X28.here hx rfl (hb hby at_52) rfl (XT.i0_gt_f hb29) kq) ?_
    show Go p e below s _ _ _ T28 (mkF m 55 #[.val (.long x0), .second, .val (.long x1), .second, .val (.long x2), .second, .val (.long x3), .second, .val (.int x4), .val (.long x5), .second, .val (.int (1 : Int32)), .val (.long (Int64.ofNat nu)), .second, .val (.long (Int64.ofNat nd)), .second, .val (.double rq_28), .second, .unset, .unset, .unset, .unset, .unset, .unset, .unset, .unset, .unset, .unset, .unset, .unset, .unset, .unset, .unset, .unset, .unset, .unset, .unset, .unset, .unset, .unset, .unset, .unset, .unset] [])
    refine go_st (fun _ kq => XS.dload X28.here hx rfl (hb hby at_55) rfl kq) ?_
    show Go p e below s _ _ _ T28 (mkF m 57 #[.val (.long x0), .second, .val (.long x1), .second, .val (.long x2), .second, .val (.long x3), .second, .val (.int x4), .val (.long x5), .second, .val (.int (1 : Int32)), .val (.long (Int64.ofNat nu)), .second, .val (.long (Int64.ofNat nd)), .second, .val (.double rq_28), .second, .unset, .unset, .unset, .unset, .unset, .unset, .unset, .unset, .unset, .unset, .unset, .unset, .unset, .unset, .unset, .unset, .unset, .unset, .unset, .unset, .unset, .unset, .unset, .unset, .unset] [(.double rq_28)])
    refine go_st (fun _ kq => XS.dconst1 X28.here hx rfl (hb hby at_57) rfl kq) ?_
    show Go p e below s _ _ _ T28 (mkF m 58 #[.val (.long x0), .second, .val (.long x1), .second, .val (.long x2), .second, .val (.long x3), .second, .val (.int x4), .val (.long x5), .second, .val (.int (1 : Int32)), .val (.long (Int64.ofNat nu)), .second, .val (.long (Int64.ofNat nd)), .second, .val (.double rq_28), .second, .unset, .unset, .unset, .unset, .unset, .unset, .unset, .unset, .unset, .unset, .unset, .unset, .unset, .unset, .unset, .unset, .unset, .unset, .unset, .unset, .unset, .unset, .unset, .unset, .unset] [(.double (FP.dconst1)), (.double rq_28)])
    refine go_st (fun _ kq => XS.dcmpS X28.here hx rfl (hb hby at_58) rfl rfl kq) ?_
    show Go p e below s _ _ _ T28 (mkF m 59 #[.val (.long x0), .second, .val (.long x1), .second, .val (.long x2), .second, .val (.long x3), .second, .val (.int x4), .val (.long x5), .second, .val (.int (1 : Int32)), .val (.long (Int64.ofNat nu)), .second, .val (.long (Int64.ofNat nd)), .second, .val (.double rq_28), .second, .unset, .unset, .unset, .unset, .unset, .unset, .unset, .unset, .unset, .unset, .unset, .unset, .unset, .unset, .unset, .unset, .unset, .unset, .unset, .unset, .unset, .unset, .unset, .unset, .unset] [(.int (cmpValue (FP.dcmp rq_28 (FP.dconst1)) .g))])
    have hb30 : ¬ ((0 : Int32) < (cmpValue (FP.dcmp rq_28 (FP.dconst1)) .g)) := by rw [show FP.dcmp rq_28 (FP.dconst1) = _ from VZ.cmp vz (own_v1 hPP)]; exact own_cg_le (by omega)
    refine go_st (fun _ kq => XS.ifNo X28.here hx rfl (hb hby at_59) rfl (XT.i0_gt_f hb30) kq) ?_
    show Go p e below s _ _ _ T28 (mkF m 62 #[.val (.long x0), .second, .val (.long x1), .second, .val (.long x2), .second, .val (.long x3), .second, .val (.int x4), .val (.long x5), .second, .val (.int (1 : Int32)), .val (.long (Int64.ofNat nu)), .second, .val (.long (Int64.ofNat nd)), .second, .val (.double rq_28), .second, .unset, .unset, .unset, .unset, .unset, .unset, .unset, .unset, .unset, .unset, .unset, .unset, .unset, .unset, .unset, .unset, .unset, .unset, .unset, .unset, .unset, .unset, .unset, .unset, .unset] [])
    refine go_st (fun _ kq => XT.iconstV X28.here hx rfl (1 : Int32) (hb hby at_62) (by decide) kq) ?_
    show Go p e below s _ _ _ T28 (mkF m 63 #[.val (.long x0), .second, .val (.long x1), .second, .val (.long x2), .second, .val (.long x3), .second, .val (.int x4), .val (.long x5), .second, .val (.int (1 : Int32)), .val (.long (Int64.ofNat nu)), .second, .val (.long (Int64.ofNat nd)), .second, .val (.double rq_28), .second, .unset, .unset, .unset, .unset, .unset, .unset, .unset, .unset, .unset, .unset, .unset, .unset, .unset, .unset, .unset, .unset, .unset, .unset, .unset, .unset, .unset, .unset, .unset, .unset, .unset] [(.int (1 : Int32))])
    refine go_st (fun _ kq => XS.goto X28.here hx rfl (pc0 := 63) (pc' := 67) rfl (hb hby at_63) (by decide) (by decide) kq) ?_
    show Go p e below s _ _ _ T28 (mkF m 67 #[.val (.long x0), .second, .val (.long x1), .second, .val (.long x2), .second, .val (.long x3), .second, .val (.int x4), .val (.long x5), .second, .val (.int (1 : Int32)), .val (.long (Int64.ofNat nu)), .second, .val (.long (Int64.ofNat nd)), .second, .val (.double rq_28), .second, .unset, .unset, .unset, .unset, .unset, .unset, .unset, .unset, .unset, .unset, .unset, .unset, .unset, .unset, .unset, .unset, .unset, .unset, .unset, .unset, .unset, .unset, .unset, .unset, .unset] [(.int (1 : Int32))])
    refine go_st (fun _ kq => XS.istore X28.here hx rfl (hb hby at_67) rfl (l' := #[.val (.long x0), .second, .val (.long x1), .second, .val (.long x2), .second, .val (.long x3), .second, .val (.int x4), .val (.long x5), .second, .val (.int (1 : Int32)), .val (.long (Int64.ofNat nu)), .second, .val (.long (Int64.ofNat nd)), .second, .val (.double rq_28), .second, .unset, .unset, .unset, .unset, .unset, .unset, .unset, .unset, .unset, .unset, .unset, .unset, .unset, .unset, .unset, .unset, .unset, .unset, .unset, .unset, .unset, .unset, .unset, .unset, .unset]) rfl kq) ?_
    show Go p e below s _ _ _ T28 (mkF m 69 #[.val (.long x0), .second, .val (.long x1), .second, .val (.long x2), .second, .val (.long x3), .second, .val (.int x4), .val (.long x5), .second, .val (.int (1 : Int32)), .val (.long (Int64.ofNat nu)), .second, .val (.long (Int64.ofNat nd)), .second, .val (.double rq_28), .second, .unset, .unset, .unset, .unset, .unset, .unset, .unset, .unset, .unset, .unset, .unset, .unset, .unset, .unset, .unset, .unset, .unset, .unset, .unset, .unset, .unset, .unset, .unset, .unset, .unset] [])
    refine go_st (fun _ kq => XS.iload X28.here hx rfl (hb hby at_69) rfl kq) ?_
    show Go p e below s _ _ _ T28 (mkF m 71 #[.val (.long x0), .second, .val (.long x1), .second, .val (.long x2), .second, .val (.long x3), .second, .val (.int x4), .val (.long x5), .second, .val (.int (1 : Int32)), .val (.long (Int64.ofNat nu)), .second, .val (.long (Int64.ofNat nd)), .second, .val (.double rq_28), .second, .unset, .unset, .unset, .unset, .unset, .unset, .unset, .unset, .unset, .unset, .unset, .unset, .unset, .unset, .unset, .unset, .unset, .unset, .unset, .unset, .unset, .unset, .unset, .unset, .unset] [(.int (1 : Int32))])
    refine go_st (fun _ kq => XS.ifNo X28.here hx rfl (hb hby at_71) rfl (XT.i0_eq_f (by decide)) kq) ?_
    show Go p e below s _ _ _ T28 (mkF m 74 #[.val (.long x0), .second, .val (.long x1), .second, .val (.long x2), .second, .val (.long x3), .second, .val (.int x4), .val (.long x5), .second, .val (.int (1 : Int32)), .val (.long (Int64.ofNat nu)), .second, .val (.long (Int64.ofNat nd)), .second, .val (.double rq_28), .second, .unset, .unset, .unset, .unset, .unset, .unset, .unset, .unset, .unset, .unset, .unset, .unset, .unset, .unset, .unset, .unset, .unset, .unset, .unset, .unset, .unset, .unset, .unset, .unset, .unset] [])
    have J108 : Go p e below s (QF (some (.int (1 : Int32))) n0) 16 128 T28 (mkF m 108 #[.val (.long x0), .second, .val (.long x1), .second, .val (.long x2), .second, .val (.long x3), .second, .val (.int x4), .val (.long x5), .second, .val (.int (1 : Int32)), .val (.long (Int64.ofNat nu)), .second, .val (.long (Int64.ofNat nd)), .second, .val (.double rq_28), .second, .unset, .unset, .unset, .unset, .unset, .unset, .unset, .unset, .unset, .unset, .unset, .unset, .unset, .unset, .unset, .unset, .unset, .unset, .unset, .unset, .unset, .unset, .unset, .unset, .unset] []) := by
      refine go_st (fun _ kq => XS.iload X28.here hx rfl (hb hby at_108) rfl kq) ?_
      show Go p e below s _ _ _ T28 (mkF m 110 #[.val (.long x0), .second, .val (.long x1), .second, .val (.long x2), .second, .val (.long x3), .second, .val (.int x4), .val (.long x5), .second, .val (.int (1 : Int32)), .val (.long (Int64.ofNat nu)), .second, .val (.long (Int64.ofNat nd)), .second, .val (.double rq_28), .second, .unset, .unset, .unset, .unset, .unset, .unset, .unset, .unset, .unset, .unset, .unset, .unset, .unset, .unset, .unset, .unset, .unset, .unset, .unset, .unset, .unset, .unset, .unset, .unset, .unset] [(.int (1 : Int32))])
      refine go_st (fun _ kq => XS.ifNo X28.here hx rfl (hb hby at_110) rfl (XT.i0_eq_f (by decide)) kq) ?_
      show Go p e below s _ _ _ T28 (mkF m 113 #[.val (.long x0), .second, .val (.long x1), .second, .val (.long x2), .second, .val (.long x3), .second, .val (.int x4), .val (.long x5), .second, .val (.int (1 : Int32)), .val (.long (Int64.ofNat nu)), .second, .val (.long (Int64.ofNat nd)), .second, .val (.double rq_28), .second, .unset, .unset, .unset, .unset, .unset, .unset, .unset, .unset, .unset, .unset, .unset, .unset, .unset, .unset, .unset, .unset, .unset, .unset, .unset, .unset, .unset, .unset, .unset, .unset, .unset] [])
      have J134 : Go p e below s (QF (some (.int (1 : Int32))) n0) 16 128 T28 (mkF m 134 #[.val (.long x0), .second, .val (.long x1), .second, .val (.long x2), .second, .val (.long x3), .second, .val (.int x4), .val (.long x5), .second, .val (.int (1 : Int32)), .val (.long (Int64.ofNat nu)), .second, .val (.long (Int64.ofNat nd)), .second, .val (.double rq_28), .second, .unset, .unset, .unset, .unset, .unset, .unset, .unset, .unset, .unset, .unset, .unset, .unset, .unset, .unset, .unset, .unset, .unset, .unset, .unset, .unset, .unset, .unset, .unset, .unset, .unset] []) := by
        refine go_st (fun _ kq => XT.lloadN X28.here hx rfl (hb hby at_134) rfl kq) ?_
        show Go p e below s _ _ _ T28 (mkF m 135 #[.val (.long x0), .second, .val (.long x1), .second, .val (.long x2), .second, .val (.long x3), .second, .val (.int x4), .val (.long x5), .second, .val (.int (1 : Int32)), .val (.long (Int64.ofNat nu)), .second, .val (.long (Int64.ofNat nd)), .second, .val (.double rq_28), .second, .unset, .unset, .unset, .unset, .unset, .unset, .unset, .unset, .unset, .unset, .unset, .unset, .unset, .unset, .unset, .unset, .unset, .unset, .unset, .unset, .unset, .unset, .unset, .unset, .unset] [(.long x0)])
        refine go_st (fun _ kq => Jvm.Stand.ldc2J X28 hx hown (mvT hZ (hw _ (List.mem_of_getElem? (i := 30) rfl))) rfl (hb hby at_135) kq) ?_
        show Go p e below s _ _ _ T28 (mkF m 138 #[.val (.long x0), .second, .val (.long x1), .second, .val (.long x2), .second, .val (.long x3), .second, .val (.int x4), .val (.long x5), .second, .val (.int (1 : Int32)), .val (.long (Int64.ofNat nu)), .second, .val (.long (Int64.ofNat nd)), .second, .val (.double rq_28), .second, .unset, .unset, .unset, .unset, .unset, .unset, .unset, .unset, .unset, .unset, .unset, .unset, .unset, .unset, .unset, .unset, .unset, .unset, .unset, .unset, .unset, .unset, .unset, .unset, .unset] [(.long (2147483647 : Int64)), (.long x0)])
        refine go_st (fun _ kq => XT.land X28.here hx rfl (hb hby at_138) rfl kq) ?_
        show Go p e below s _ _ _ T28 (mkF m 139 #[.val (.long x0), .second, .val (.long x1), .second, .val (.long x2), .second, .val (.long x3), .second, .val (.int x4), .val (.long x5), .second, .val (.int (1 : Int32)), .val (.long (Int64.ofNat nu)), .second, .val (.long (Int64.ofNat nd)), .second, .val (.double rq_28), .second, .unset, .unset, .unset, .unset, .unset, .unset, .unset, .unset, .unset, .unset, .unset, .unset, .unset, .unset, .unset, .unset, .unset, .unset, .unset, .unset, .unset, .unset, .unset, .unset, .unset] [(.long (x0 &&& (2147483647 : Int64)))])
        refine go_st (fun _ kq => XT.lstore X28.here hx rfl (hb hby at_139) rfl (l' := #[.val (.long x0), .second, .val (.long x1), .second, .val (.long x2), .second, .val (.long x3), .second, .val (.int x4), .val (.long x5), .second, .val (.int (1 : Int32)), .val (.long (Int64.ofNat nu)), .second, .val (.long (Int64.ofNat nd)), .second, .val (.double rq_28), .second, .val (.long (x0 &&& (2147483647 : Int64))), .second, .unset, .unset, .unset, .unset, .unset, .unset, .unset, .unset, .unset, .unset, .unset, .unset, .unset, .unset, .unset, .unset, .unset, .unset, .unset, .unset, .unset, .unset, .unset]) rfl kq) ?_
        show Go p e below s _ _ _ T28 (mkF m 141 #[.val (.long x0), .second, .val (.long x1), .second, .val (.long x2), .second, .val (.long x3), .second, .val (.int x4), .val (.long x5), .second, .val (.int (1 : Int32)), .val (.long (Int64.ofNat nu)), .second, .val (.long (Int64.ofNat nd)), .second, .val (.double rq_28), .second, .val (.long (x0 &&& (2147483647 : Int64))), .second, .unset, .unset, .unset, .unset, .unset, .unset, .unset, .unset, .unset, .unset, .unset, .unset, .unset, .unset, .unset, .unset, .unset, .unset, .unset, .unset, .unset, .unset, .unset] [])
        refine go_st (fun _ kq => XT.lloadN X28.here hx rfl (hb hby at_141) rfl kq) ?_
        show Go p e below s _ _ _ T28 (mkF m 142 #[.val (.long x0), .second, .val (.long x1), .second, .val (.long x2), .second, .val (.long x3), .second, .val (.int x4), .val (.long x5), .second, .val (.int (1 : Int32)), .val (.long (Int64.ofNat nu)), .second, .val (.long (Int64.ofNat nd)), .second, .val (.double rq_28), .second, .val (.long (x0 &&& (2147483647 : Int64))), .second, .unset, .unset, .unset, .unset, .unset, .unset, .unset, .unset, .unset, .unset, .unset, .unset, .unset, .unset, .unset, .unset, .unset, .unset, .unset, .unset, .unset, .unset, .unset] [(.long x1)])
        refine go_st (fun _ kq => Jvm.Stand.ldc2J X28 hx hown (mvT hZ (hw _ (List.mem_of_getElem? (i := 30) rfl))) rfl (hb hby at_142) kq) ?_
        show Go p e below s _ _ _ T28 (mkF m 145 #[.val (.long x0), .second, .val (.long x1), .second, .val (.long x2), .second, .val (.long x3), .second, .val (.int x4), .val (.long x5), .second, .val (.int (1 : Int32)), .val (.long (Int64.ofNat nu)), .second, .val (.long (Int64.ofNat nd)), .second, .val (.double rq_28), .second, .val (.long (x0 &&& (2147483647 : Int64))), .second, .unset, .unset, .unset, .unset, .unset, .unset, .unset, .unset, .unset, .unset, .unset, .unset, .unset, .unset, .unset, .unset, .unset, .unset, .unset, .unset, .unset, .unset, .unset] [(.long (2147483647 : Int64)), (.long x1)])
        refine go_st (fun _ kq => XT.land X28.here hx rfl (hb hby at_145) rfl kq) ?_
        show Go p e below s _ _ _ T28 (mkF m 146 #[.val (.long x0), .second, .val (.long x1), .second, .val (.long x2), .second, .val (.long x3), .second, .val (.int x4), .val (.long x5), .second, .val (.int (1 : Int32)), .val (.long (Int64.ofNat nu)), .second, .val (.long (Int64.ofNat nd)), .second, .val (.double rq_28), .second, .val (.long (x0 &&& (2147483647 : Int64))), .second, .unset, .unset, .unset, .unset, .unset, .unset, .unset, .unset, .unset, .unset, .unset, .unset, .unset, .unset, .unset, .unset, .unset, .unset, .unset, .unset, .unset, .unset, .unset] [(.long (x1 &&& (2147483647 : Int64)))])
        refine go_st (fun _ kq => XT.lstore X28.here hx rfl (hb hby at_146) rfl (l' := #[.val (.long x0), .second, .val (.long x1), .second, .val (.long x2), .second, .val (.long x3), .second, .val (.int x4), .val (.long x5), .second, .val (.int (1 : Int32)), .val (.long (Int64.ofNat nu)), .second, .val (.long (Int64.ofNat nd)), .second, .val (.double rq_28), .second, .val (.long (x0 &&& (2147483647 : Int64))), .second, .val (.long (x1 &&& (2147483647 : Int64))), .second, .unset, .unset, .unset, .unset, .unset, .unset, .unset, .unset, .unset, .unset, .unset, .unset, .unset, .unset, .unset, .unset, .unset, .unset, .unset, .unset, .unset]) rfl kq) ?_
        show Go p e below s _ _ _ T28 (mkF m 148 #[.val (.long x0), .second, .val (.long x1), .second, .val (.long x2), .second, .val (.long x3), .second, .val (.int x4), .val (.long x5), .second, .val (.int (1 : Int32)), .val (.long (Int64.ofNat nu)), .second, .val (.long (Int64.ofNat nd)), .second, .val (.double rq_28), .second, .val (.long (x0 &&& (2147483647 : Int64))), .second, .val (.long (x1 &&& (2147483647 : Int64))), .second, .unset, .unset, .unset, .unset, .unset, .unset, .unset, .unset, .unset, .unset, .unset, .unset, .unset, .unset, .unset, .unset, .unset, .unset, .unset, .unset, .unset] [])
        refine go_st (fun _ kq => XT.lload X28.here hx rfl (hb hby at_148) rfl kq) ?_
        show Go p e below s _ _ _ T28 (mkF m 150 #[.val (.long x0), .second, .val (.long x1), .second, .val (.long x2), .second, .val (.long x3), .second, .val (.int x4), .val (.long x5), .second, .val (.int (1 : Int32)), .val (.long (Int64.ofNat nu)), .second, .val (.long (Int64.ofNat nd)), .second, .val (.double rq_28), .second, .val (.long (x0 &&& (2147483647 : Int64))), .second, .val (.long (x1 &&& (2147483647 : Int64))), .second, .unset, .unset, .unset, .unset, .unset, .unset, .unset, .unset, .unset, .unset, .unset, .unset, .unset, .unset, .unset, .unset, .unset, .unset, .unset, .unset, .unset] [(.long x2)])
        refine go_st (fun _ kq => Jvm.Stand.ldc2J X28 hx hown (mvT hZ (hw _ (List.mem_of_getElem? (i := 30) rfl))) rfl (hb hby at_150) kq) ?_
        show Go p e below s _ _ _ T28 (mkF m 153 #[.val (.long x0), .second, .val (.long x1), .second, .val (.long x2), .second, .val (.long x3), .second, .val (.int x4), .val (.long x5), .second, .val (.int (1 : Int32)), .val (.long (Int64.ofNat nu)), .second, .val (.long (Int64.ofNat nd)), .second, .val (.double rq_28), .second, .val (.long (x0 &&& (2147483647 : Int64))), .second, .val (.long (x1 &&& (2147483647 : Int64))), .second, .unset, .unset, .unset, .unset, .unset, .unset, .unset, .unset, .unset, .unset, .unset, .unset, .unset, .unset, .unset, .unset, .unset, .unset, .unset, .unset, .unset] [(.long (2147483647 : Int64)), (.long x2)])
        refine go_st (fun _ kq => XT.land X28.here hx rfl (hb hby at_153) rfl kq) ?_
        show Go p e below s _ _ _ T28 (mkF m 154 #[.val (.long x0), .second, .val (.long x1), .second, .val (.long x2), .second, .val (.long x3), .second, .val (.int x4), .val (.long x5), .second, .val (.int (1 : Int32)), .val (.long (Int64.ofNat nu)), .second, .val (.long (Int64.ofNat nd)), .second, .val (.double rq_28), .second, .val (.long (x0 &&& (2147483647 : Int64))), .second, .val (.long (x1 &&& (2147483647 : Int64))), .second, .unset, .unset, .unset, .unset, .unset, .unset, .unset, .unset, .unset, .unset, .unset, .unset, .unset, .unset, .unset, .unset, .unset, .unset, .unset, .unset, .unset] [(.long (x2 &&& (2147483647 : Int64)))])
        refine go_st (fun _ kq => XT.lstore X28.here hx rfl (hb hby at_154) rfl (l' := #[.val (.long x0), .second, .val (.long x1), .second, .val (.long x2), .second, .val (.long x3), .second, .val (.int x4), .val (.long x5), .second, .val (.int (1 : Int32)), .val (.long (Int64.ofNat nu)), .second, .val (.long (Int64.ofNat nd)), .second, .val (.double rq_28), .second, .val (.long (x0 &&& (2147483647 : Int64))), .second, .val (.long (x1 &&& (2147483647 : Int64))), .second, .val (.long (x2 &&& (2147483647 : Int64))), .second, .unset, .unset, .unset, .unset, .unset, .unset, .unset, .unset, .unset, .unset, .unset, .unset, .unset, .unset, .unset, .unset, .unset, .unset, .unset]) rfl kq) ?_
        show Go p e below s _ _ _ T28 (mkF m 156 #[.val (.long x0), .second, .val (.long x1), .second, .val (.long x2), .second, .val (.long x3), .second, .val (.int x4), .val (.long x5), .second, .val (.int (1 : Int32)), .val (.long (Int64.ofNat nu)), .second, .val (.long (Int64.ofNat nd)), .second, .val (.double rq_28), .second, .val (.long (x0 &&& (2147483647 : Int64))), .second, .val (.long (x1 &&& (2147483647 : Int64))), .second, .val (.long (x2 &&& (2147483647 : Int64))), .second, .unset, .unset, .unset, .unset, .unset, .unset, .unset, .unset, .unset, .unset, .unset, .unset, .unset, .unset, .unset, .unset, .unset, .unset, .unset] [])
        refine go_st (fun _ kq => XT.lload X28.here hx rfl (hb hby at_156) rfl kq) ?_
        show Go p e below s _ _ _ T28 (mkF m 158 #[.val (.long x0), .second, .val (.long x1), .second, .val (.long x2), .second, .val (.long x3), .second, .val (.int x4), .val (.long x5), .second, .val (.int (1 : Int32)), .val (.long (Int64.ofNat nu)), .second, .val (.long (Int64.ofNat nd)), .second, .val (.double rq_28), .second, .val (.long (x0 &&& (2147483647 : Int64))), .second, .val (.long (x1 &&& (2147483647 : Int64))), .second, .val (.long (x2 &&& (2147483647 : Int64))), .second, .unset, .unset, .unset, .unset, .unset, .unset, .unset, .unset, .unset, .unset, .unset, .unset, .unset, .unset, .unset, .unset, .unset, .unset, .unset] [(.long x3)])
        refine go_st (fun _ kq => Jvm.Stand.ldc2J X28 hx hown (mvT hZ (hw _ (List.mem_of_getElem? (i := 30) rfl))) rfl (hb hby at_158) kq) ?_
        show Go p e below s _ _ _ T28 (mkF m 161 #[.val (.long x0), .second, .val (.long x1), .second, .val (.long x2), .second, .val (.long x3), .second, .val (.int x4), .val (.long x5), .second, .val (.int (1 : Int32)), .val (.long (Int64.ofNat nu)), .second, .val (.long (Int64.ofNat nd)), .second, .val (.double rq_28), .second, .val (.long (x0 &&& (2147483647 : Int64))), .second, .val (.long (x1 &&& (2147483647 : Int64))), .second, .val (.long (x2 &&& (2147483647 : Int64))), .second, .unset, .unset, .unset, .unset, .unset, .unset, .unset, .unset, .unset, .unset, .unset, .unset, .unset, .unset, .unset, .unset, .unset, .unset, .unset] [(.long (2147483647 : Int64)), (.long x3)])
        refine go_st (fun _ kq => XT.land X28.here hx rfl (hb hby at_161) rfl kq) ?_
        show Go p e below s _ _ _ T28 (mkF m 162 #[.val (.long x0), .second, .val (.long x1), .second, .val (.long x2), .second, .val (.long x3), .second, .val (.int x4), .val (.long x5), .second, .val (.int (1 : Int32)), .val (.long (Int64.ofNat nu)), .second, .val (.long (Int64.ofNat nd)), .second, .val (.double rq_28), .second, .val (.long (x0 &&& (2147483647 : Int64))), .second, .val (.long (x1 &&& (2147483647 : Int64))), .second, .val (.long (x2 &&& (2147483647 : Int64))), .second, .unset, .unset, .unset, .unset, .unset, .unset, .unset, .unset, .unset, .unset, .unset, .unset, .unset, .unset, .unset, .unset, .unset, .unset, .unset] [(.long (x3 &&& (2147483647 : Int64)))])
        refine go_st (fun _ kq => XT.lstore X28.here hx rfl (hb hby at_162) rfl (l' := #[.val (.long x0), .second, .val (.long x1), .second, .val (.long x2), .second, .val (.long x3), .second, .val (.int x4), .val (.long x5), .second, .val (.int (1 : Int32)), .val (.long (Int64.ofNat nu)), .second, .val (.long (Int64.ofNat nd)), .second, .val (.double rq_28), .second, .val (.long (x0 &&& (2147483647 : Int64))), .second, .val (.long (x1 &&& (2147483647 : Int64))), .second, .val (.long (x2 &&& (2147483647 : Int64))), .second, .val (.long (x3 &&& (2147483647 : Int64))), .second, .unset, .unset, .unset, .unset, .unset, .unset, .unset, .unset, .unset, .unset, .unset, .unset, .unset, .unset, .unset, .unset, .unset]) rfl kq) ?_
        show Go p e below s _ _ _ T28 (mkF m 164 #[.val (.long x0), .second, .val (.long x1), .second, .val (.long x2), .second, .val (.long x3), .second, .val (.int x4), .val (.long x5), .second, .val (.int (1 : Int32)), .val (.long (Int64.ofNat nu)), .second, .val (.long (Int64.ofNat nd)), .second, .val (.double rq_28), .second, .val (.long (x0 &&& (2147483647 : Int64))), .second, .val (.long (x1 &&& (2147483647 : Int64))), .second, .val (.long (x2 &&& (2147483647 : Int64))), .second, .val (.long (x3 &&& (2147483647 : Int64))), .second, .unset, .unset, .unset, .unset, .unset, .unset, .unset, .unset, .unset, .unset, .unset, .unset, .unset, .unset, .unset, .unset, .unset] [])
        obtain ⟨na, hna, ena⟩ := own_mk31 x0
        rw [ena]
        obtain ⟨nb0, hnb0, enb⟩ := own_mk31 x1
        rw [enb]
        obtain ⟨nc, hnc, enc⟩ := own_mk31 x2
        rw [enc]
        obtain ⟨ne0, hne0, ene⟩ := own_mk31 x3
        rw [ene]
        show Go p e below s _ _ _ T28 (mkF m 164 #[.val (.long x0), .second, .val (.long x1), .second, .val (.long x2), .second, .val (.long x3), .second, .val (.int x4), .val (.long x5), .second, .val (.int (1 : Int32)), .val (.long (Int64.ofNat nu)), .second, .val (.long (Int64.ofNat nd)), .second, .val (.double rq_28), .second, .val (.long (Int64.ofNat na)), .second, .val (.long (Int64.ofNat nb0)), .second, .val (.long (Int64.ofNat nc)), .second, .val (.long (Int64.ofNat ne0)), .second, .unset, .unset, .unset, .unset, .unset, .unset, .unset, .unset, .unset, .unset, .unset, .unset, .unset, .unset, .unset, .unset, .unset] [])
        have J181 : ∀ (nb : Nat), ∀ (hnb : nb < 2147483648), ∀ (hpb : 0 < na + nb), Go p e below s (QF (some (.int (1 : Int32))) n0) 16 128 T28 (mkF m 181 #[.val (.long x0), .second, .val (.long x1), .second, .val (.long x2), .second, .val (.long x3), .second, .val (.int x4), .val (.long x5), .second, .val (.int (1 : Int32)), .val (.long (Int64.ofNat nu)), .second, .val (.long (Int64.ofNat nd)), .second, .val (.double rq_28), .second, .val (.long (Int64.ofNat na)), .second, .val (.long (Int64.ofNat nb)), .second, .val (.long (Int64.ofNat nc)), .second, .val (.long (Int64.ofNat ne0)), .second, .unset, .unset, .unset, .unset, .unset, .unset, .unset, .unset, .unset, .unset, .unset, .unset, .unset, .unset, .unset, .unset, .unset] []) := by
          intro nb hnb hpb
          have J198 : ∀ (ne : Nat), ∀ (hne : ne < 2147483648), ∀ (hpe : 0 < nc + ne), Go p e below s (QF (some (.int (1 : Int32))) n0) 16 128 T28 (mkF m 198 #[.val (.long x0), .second, .val (.long x1), .second, .val (.long x2), .second, .val (.long x3), .second, .val (.int x4), .val (.long x5), .second, .val (.int (1 : Int32)), .val (.long (Int64.ofNat nu)), .second, .val (.long (Int64.ofNat nd)), .second, .val (.double rq_28), .second, .val (.long (Int64.ofNat na)), .second, .val (.long (Int64.ofNat nb)), .second, .val (.long (Int64.ofNat nc)), .second, .val (.long (Int64.ofNat ne)), .second, .unset, .unset, .unset, .unset, .unset, .unset, .unset, .unset, .unset, .unset, .unset, .unset, .unset, .unset, .unset, .unset, .unset] []) := by
            intro ne hne hpe
            refine go_st (fun _ kq => XT.lload X28.here hx rfl (hb hby at_198) rfl kq) ?_
            show Go p e below s _ _ _ T28 (mkF m 200 #[.val (.long x0), .second, .val (.long x1), .second, .val (.long x2), .second, .val (.long x3), .second, .val (.int x4), .val (.long x5), .second, .val (.int (1 : Int32)), .val (.long (Int64.ofNat nu)), .second, .val (.long (Int64.ofNat nd)), .second, .val (.double rq_28), .second, .val (.long (Int64.ofNat na)), .second, .val (.long (Int64.ofNat nb)), .second, .val (.long (Int64.ofNat nc)), .second, .val (.long (Int64.ofNat ne)), .second, .unset, .unset, .unset, .unset, .unset, .unset, .unset, .unset, .unset, .unset, .unset, .unset, .unset, .unset, .unset, .unset, .unset] [(.long (Int64.ofNat na))])
            refine go_st (fun _ kq => XT.lload X28.here hx rfl (hb hby at_200) rfl kq) ?_
            show Go p e below s _ _ _ T28 (mkF m 202 #[.val (.long x0), .second, .val (.long x1), .second, .val (.long x2), .second, .val (.long x3), .second, .val (.int x4), .val (.long x5), .second, .val (.int (1 : Int32)), .val (.long (Int64.ofNat nu)), .second, .val (.long (Int64.ofNat nd)), .second, .val (.double rq_28), .second, .val (.long (Int64.ofNat na)), .second, .val (.long (Int64.ofNat nb)), .second, .val (.long (Int64.ofNat nc)), .second, .val (.long (Int64.ofNat ne)), .second, .unset, .unset, .unset, .unset, .unset, .unset, .unset, .unset, .unset, .unset, .unset, .unset, .unset, .unset, .unset, .unset, .unset] [(.long (Int64.ofNat nb)), (.long (Int64.ofNat na))])
            have z32 : n0 ≤ T28.heap.size := Nat.le_trans Z0 K28.1
            refine go_callS X28 hx hZ hml hown (hw _ (List.mem_of_getElem? (i := 1) rfl)) (hw _ (List.mem_of_getElem? (i := 2) rfl)) (hw _ (List.mem_of_getElem? (i := 3) rfl)) (hw _ (List.mem_of_getElem? (i := 4) rfl)) rfl (argsL := [(.long (Int64.ofNat na)), (.long (Int64.ofNat nb))]) (rest := []) (W := 0) (met_shr l Z a0 hw na nb T28.heap n0 z32 (by omega) (by omega) (by omega)) (hb hby at_202) rfl rfl rfl (lenOf pd3 rfl) (by show 2 * 0 + _ ≤ _; exact Nat.le_of_eq rfl) (by decide) (by decide) (by decide) (by decide) (by decide) ?_
            intro T31 v31 L31 X31 q31
            obtain ⟨rq_31, rfl, M31, K31, p31_0⟩ := q31
            have N31 := Fr.app N28 M31
            show Go p e below s _ _ _ T31 (mkF m 205 #[.val (.long x0), .second, .val (.long x1), .second, .val (.long x2), .second, .val (.long x3), .second, .val (.int x4), .val (.long x5), .second, .val (.int (1 : Int32)), .val (.long (Int64.ofNat nu)), .second, .val (.long (Int64.ofNat nd)), .second, .val (.double rq_28), .second, .val (.long (Int64.ofNat na)), .second, .val (.long (Int64.ofNat nb)), .second, .val (.long (Int64.ofNat nc)), .second, .val (.long (Int64.ofNat ne)), .second, .unset, .unset, .unset, .unset, .unset, .unset, .unset, .unset, .unset, .unset, .unset, .unset, .unset, .unset, .unset, .unset, .unset] [(.double rq_31)])
            refine go_st (fun _ kq => XS.dstore X31.here hx rfl (hb hby at_205) rfl (l' := #[.val (.long x0), .second, .val (.long x1), .second, .val (.long x2), .second, .val (.long x3), .second, .val (.int x4), .val (.long x5), .second, .val (.int (1 : Int32)), .val (.long (Int64.ofNat nu)), .second, .val (.long (Int64.ofNat nd)), .second, .val (.double rq_28), .second, .val (.long (Int64.ofNat na)), .second, .val (.long (Int64.ofNat nb)), .second, .val (.long (Int64.ofNat nc)), .second, .val (.long (Int64.ofNat ne)), .second, .val (.double rq_31), .second, .unset, .unset, .unset, .unset, .unset, .unset, .unset, .unset, .unset, .unset, .unset, .unset, .unset, .unset, .unset]) rfl kq) ?_
            show Go p e below s _ _ _ T31 (mkF m 207 #[.val (.long x0), .second, .val (.long x1), .second, .val (.long x2), .second, .val (.long x3), .second, .val (.int x4), .val (.long x5), .second, .val (.int (1 : Int32)), .val (.long (Int64.ofNat nu)), .second, .val (.long (Int64.ofNat nd)), .second, .val (.double rq_28), .second, .val (.long (Int64.ofNat na)), .second, .val (.long (Int64.ofNat nb)), .second, .val (.long (Int64.ofNat nc)), .second, .val (.long (Int64.ofNat ne)), .second, .val (.double rq_31), .second, .unset, .unset, .unset, .unset, .unset, .unset, .unset, .unset, .unset, .unset, .unset, .unset, .unset, .unset, .unset] [])
            refine go_st (fun _ kq => XT.lload X31.here hx rfl (hb hby at_207) rfl kq) ?_
            show Go p e below s _ _ _ T31 (mkF m 209 #[.val (.long x0), .second, .val (.long x1), .second, .val (.long x2), .second, .val (.long x3), .second, .val (.int x4), .val (.long x5), .second, .val (.int (1 : Int32)), .val (.long (Int64.ofNat nu)), .second, .val (.long (Int64.ofNat nd)), .second, .val (.double rq_28), .second, .val (.long (Int64.ofNat na)), .second, .val (.long (Int64.ofNat nb)), .second, .val (.long (Int64.ofNat nc)), .second, .val (.long (Int64.ofNat ne)), .second, .val (.double rq_31), .second, .unset, .unset, .unset, .unset, .unset, .unset, .unset, .unset, .unset, .unset, .unset, .unset, .unset, .unset, .unset] [(.long (Int64.ofNat nc))])
            refine go_st (fun _ kq => XT.lload X31.here hx rfl (hb hby at_209) rfl kq) ?_
            show Go p e below s _ _ _ T31 (mkF m 211 #[.val (.long x0), .second, .val (.long x1), .second, .val (.long x2), .second, .val (.long x3), .second, .val (.int x4), .val (.long x5), .second, .val (.int (1 : Int32)), .val (.long (Int64.ofNat nu)), .second, .val (.long (Int64.ofNat nd)), .second, .val (.double rq_28), .second, .val (.long (Int64.ofNat na)), .second, .val (.long (Int64.ofNat nb)), .second, .val (.long (Int64.ofNat nc)), .second, .val (.long (Int64.ofNat ne)), .second, .val (.double rq_31), .second, .unset, .unset, .unset, .unset, .unset, .unset, .unset, .unset, .unset, .unset, .unset, .unset, .unset, .unset, .unset] [(.long (Int64.ofNat ne)), (.long (Int64.ofNat nc))])
            have z34 : n0 ≤ T31.heap.size := Nat.le_trans z32 K31.1
            refine go_callS X31 hx hZ hml hown (hw _ (List.mem_of_getElem? (i := 1) rfl)) (hw _ (List.mem_of_getElem? (i := 2) rfl)) (hw _ (List.mem_of_getElem? (i := 3) rfl)) (hw _ (List.mem_of_getElem? (i := 4) rfl)) rfl (argsL := [(.long (Int64.ofNat nc)), (.long (Int64.ofNat ne))]) (rest := []) (W := 0) (met_shr l Z a0 hw nc ne T31.heap n0 z34 (by omega) (by omega) (by omega)) (hb hby at_211) rfl rfl rfl (lenOf pd3 rfl) (by show 2 * 0 + _ ≤ _; exact Nat.le_of_eq rfl) (by decide) (by decide) (by decide) (by decide) (by decide) ?_
            intro T33 v33 L33 X33 q33
            obtain ⟨rq_33, rfl, M33, K33, p33_0⟩ := q33
            have N33 := Fr.app N31 M33
            show Go p e below s _ _ _ T33 (mkF m 214 #[.val (.long x0), .second, .val (.long x1), .second, .val (.long x2), .second, .val (.long x3), .second, .val (.int x4), .val (.long x5), .second, .val (.int (1 : Int32)), .val (.long (Int64.ofNat nu)), .second, .val (.long (Int64.ofNat nd)), .second, .val (.double rq_28), .second, .val (.long (Int64.ofNat na)), .second, .val (.long (Int64.ofNat nb)), .second, .val (.long (Int64.ofNat nc)), .second, .val (.long (Int64.ofNat ne)), .second, .val (.double rq_31), .second, .unset, .unset, .unset, .unset, .unset, .unset, .unset, .unset, .unset, .unset, .unset, .unset, .unset, .unset, .unset] [(.double rq_33)])
            refine go_st (fun _ kq => XS.dstore X33.here hx rfl (hb hby at_214) rfl (l' := #[.val (.long x0), .second, .val (.long x1), .second, .val (.long x2), .second, .val (.long x3), .second, .val (.int x4), .val (.long x5), .second, .val (.int (1 : Int32)), .val (.long (Int64.ofNat nu)), .second, .val (.long (Int64.ofNat nd)), .second, .val (.double rq_28), .second, .val (.long (Int64.ofNat na)), .second, .val (.long (Int64.ofNat nb)), .second, .val (.long (Int64.ofNat nc)), .second, .val (.long (Int64.ofNat ne)), .second, .val (.double rq_31), .second, .val (.double rq_33), .second, .unset, .unset, .unset, .unset, .unset, .unset, .unset, .unset, .unset, .unset, .unset, .unset, .unset]) rfl kq) ?_
            show Go p e below s _ _ _ T33 (mkF m 216 #[.val (.long x0), .second, .val (.long x1), .second, .val (.long x2), .second, .val (.long x3), .second, .val (.int x4), .val (.long x5), .second, .val (.int (1 : Int32)), .val (.long (Int64.ofNat nu)), .second, .val (.long (Int64.ofNat nd)), .second, .val (.double rq_28), .second, .val (.long (Int64.ofNat na)), .second, .val (.long (Int64.ofNat nb)), .second, .val (.long (Int64.ofNat nc)), .second, .val (.long (Int64.ofNat ne)), .second, .val (.double rq_31), .second, .val (.double rq_33), .second, .unset, .unset, .unset, .unset, .unset, .unset, .unset, .unset, .unset, .unset, .unset, .unset, .unset] [])
            obtain ⟨y, z, vy, vz, y1, z1, y2, y3, y4, y5, o1, o2, o3⟩ := own_fb hPP hna hnb hnc hne hpb hpe p31_0 p33_0
            have hbc : nb * nc < 2147483648 * 2147483648 := Nat.lt_of_le_of_lt (Nat.mul_le_mul_left nb (Nat.le_of_lt hnc)) (Nat.mul_lt_mul_of_pos_right hnb (by decide))
            have hea : ne * na < 2147483648 * 2147483648 := Nat.lt_of_le_of_lt (Nat.mul_le_mul_left ne (Nat.le_of_lt hna)) (Nat.mul_lt_mul_of_pos_right hne (by decide))
            refine go_st (fun _ kq => XS.iload X33.here hx rfl (hb hby at_216) rfl kq) ?_
            show Go p e below s _ _ _ T33 (mkF m 218 #[.val (.long x0), .second, .val (.long x1), .second, .val (.long x2), .second, .val (.long x3), .second, .val (.int x4), .val (.long x5), .second, .val (.int (1 : Int32)), .val (.long (Int64.ofNat nu)), .second, .val (.long (Int64.ofNat nd)), .second, .val (.double rq_28), .second, .val (.long (Int64.ofNat na)), .second, .val (.long (Int64.ofNat nb)), .second, .val (.long (Int64.ofNat nc)), .second, .val (.long (Int64.ofNat ne)), .second, .val (.double rq_31), .second, .val (.double rq_33), .second, .unset, .unset, .unset, .unset, .unset, .unset, .unset, .unset, .unset, .unset, .unset, .unset, .unset] [(.int (1 : Int32))])
            refine go_st (fun _ kq => XS.ifNo X33.here hx rfl (hb hby at_218) rfl (XT.i0_eq_f (by decide)) kq) ?_
            show Go p e below s _ _ _ T33 (mkF m 221 #[.val (.long x0), .second, .val (.long x1), .second, .val (.long x2), .second, .val (.long x3), .second, .val (.int x4), .val (.long x5), .second, .val (.int (1 : Int32)), .val (.long (Int64.ofNat nu)), .second, .val (.long (Int64.ofNat nd)), .second, .val (.double rq_28), .second, .val (.long (Int64.ofNat na)), .second, .val (.long (Int64.ofNat nb)), .second, .val (.long (Int64.ofNat nc)), .second, .val (.long (Int64.ofNat ne)), .second, .val (.double rq_31), .second, .val (.double rq_33), .second, .unset, .unset, .unset, .unset, .unset, .unset, .unset, .unset, .unset, .unset, .unset, .unset, .unset] [])
            refine go_st (fun _ kq => XS.dconst0 X33.here hx rfl (hb hby at_221) rfl kq) ?_
            show Go p e below s _ _ _ T33 (mkF m 222 #[.val (.long x0), .second, .val (.long x1), .second, .val (.long x2), .second, .val (.long x3), .second, .val (.int x4), .val (.long x5), .second, .val (.int (1 : Int32)), .val (.long (Int64.ofNat nu)), .second, .val (.long (Int64.ofNat nd)), .second, .val (.double rq_28), .second, .val (.long (Int64.ofNat na)), .second, .val (.long (Int64.ofNat nb)), .second, .val (.long (Int64.ofNat nc)), .second, .val (.long (Int64.ofNat ne)), .second, .val (.double rq_31), .second, .val (.double rq_33), .second, .unset, .unset, .unset, .unset, .unset, .unset, .unset, .unset, .unset, .unset, .unset, .unset, .unset] [(.double (FP.dconst0))])
            refine go_st (fun _ kq => XS.dload X33.here hx rfl (hb hby at_222) rfl kq) ?_
            show Go p e below s _ _ _ T33 (mkF m 224 #[.val (.long x0), .second, .val (.long x1), .second, .val (.long x2), .second, .val (.long x3), .second, .val (.int x4), .val (.long x5), .second, .val (.int (1 : Int32)), .val (.long (Int64.ofNat nu)), .second, .val (.long (Int64.ofNat nd)), .second, .val (.double rq_28), .second, .val (.long (Int64.ofNat na)), .second, .val (.long (Int64.ofNat nb)), .second, .val (.long (Int64.ofNat nc)), .second, .val (.long (Int64.ofNat ne)), .second, .val (.double rq_31), .second, .val (.double rq_33), .second, .unset, .unset, .unset, .unset, .unset, .unset, .unset, .unset, .unset, .unset, .unset, .unset, .unset] [(.double rq_31), (.double (FP.dconst0))])
            refine go_st (fun _ kq => XS.dcmpS X33.here hx rfl (hb hby at_224) rfl rfl kq) ?_
            show Go p e below s _ _ _ T33 (mkF m 225 #[.val (.long x0), .second, .val (.long x1), .second, .val (.long x2), .second, .val (.long x3), .second, .val (.int x4), .val (.long x5), .second, .val (.int (1 : Int32)), .val (.long (Int64.ofNat nu)), .second, .val (.long (Int64.ofNat nd)), .second, .val (.double rq_28), .second, .val (.long (Int64.ofNat na)), .second, .val (.long (Int64.ofNat nb)), .second, .val (.long (Int64.ofNat nc)), .second, .val (.long (Int64.ofNat ne)), .second, .val (.double rq_31), .second, .val (.double rq_33), .second, .unset, .unset, .unset, .unset, .unset, .unset, .unset, .unset, .unset, .unset, .unset, .unset, .unset] [(.int (cmpValue (FP.dcmp (FP.dconst0) rq_31) .g))])
            have hb35 : ¬ ((0 : Int32) < (cmpValue (FP.dcmp (FP.dconst0) rq_31) .g)) := by rw [show FP.dcmp (FP.dconst0) rq_31 = _ from VZ.cmp own_v0 vy]; exact own_cg_le (by omega)
            refine go_st (fun _ kq => XS.ifNo X33.here hx rfl (hb hby at_225) rfl (XT.i0_gt_f hb35) kq) ?_
            show Go p e below s _ _ _ T33 (mkF m 228 #[.val (.long x0), .second, .val (.long x1), .second, .val (.long x2), .second, .val (.long x3), .second, .val (.int x4), .val (.long x5), .second, .val (.int (1 : Int32)), .val (.long (Int64.ofNat nu)), .second, .val (.long (Int64.ofNat nd)), .second, .val (.double rq_28), .second, .val (.long (Int64.ofNat na)), .second, .val (.long (Int64.ofNat nb)), .second, .val (.long (Int64.ofNat nc)), .second, .val (.long (Int64.ofNat ne)), .second, .val (.double rq_31), .second, .val (.double rq_33), .second, .unset, .unset, .unset, .unset, .unset, .unset, .unset, .unset, .unset, .unset, .unset, .unset, .unset] [])
            refine go_st (fun _ kq => XS.dload X33.here hx rfl (hb hby at_228) rfl kq) ?_
            show Go p e below s _ _ _ T33 (mkF m 230 #[.val (.long x0), .second, .val (.long x1), .second, .val (.long x2), .second, .val (.long x3), .second, .val (.int x4), .val (.long x5), .second, .val (.int (1 : Int32)), .val (.long (Int64.ofNat nu)), .second, .val (.long (Int64.ofNat nd)), .second, .val (.double rq_28), .second, .val (.long (Int64.ofNat na)), .second, .val (.long (Int64.ofNat nb)), .second, .val (.long (Int64.ofNat nc)), .second, .val (.long (Int64.ofNat ne)), .second, .val (.double rq_31), .second, .val (.double rq_33), .second, .unset, .unset, .unset, .unset, .unset, .unset, .unset, .unset, .unset, .unset, .unset, .unset, .unset] [(.double rq_31)])
            refine go_st (fun _ kq => XS.dconst1 X33.here hx rfl (hb hby at_230) rfl kq) ?_
            show Go p e below s _ _ _ T33 (mkF m 231 #[.val (.long x0), .second, .val (.long x1), .second, .val (.long x2), .second, .val (.long x3), .second, .val (.int x4), .val (.long x5), .second, .val (.int (1 : Int32)), .val (.long (Int64.ofNat nu)), .second, .val (.long (Int64.ofNat nd)), .second, .val (.double rq_28), .second, .val (.long (Int64.ofNat na)), .second, .val (.long (Int64.ofNat nb)), .second, .val (.long (Int64.ofNat nc)), .second, .val (.long (Int64.ofNat ne)), .second, .val (.double rq_31), .second, .val (.double rq_33), .second, .unset, .unset, .unset, .unset, .unset, .unset, .unset, .unset, .unset, .unset, .unset, .unset, .unset] [(.double (FP.dconst1)), (.double rq_31)])
            refine go_st (fun _ kq => XS.dcmpS X33.here hx rfl (hb hby at_231) rfl rfl kq) ?_
            show Go p e below s _ _ _ T33 (mkF m 232 #[.val (.long x0), .second, .val (.long x1), .second, .val (.long x2), .second, .val (.long x3), .second, .val (.int x4), .val (.long x5), .second, .val (.int (1 : Int32)), .val (.long (Int64.ofNat nu)), .second, .val (.long (Int64.ofNat nd)), .second, .val (.double rq_28), .second, .val (.long (Int64.ofNat na)), .second, .val (.long (Int64.ofNat nb)), .second, .val (.long (Int64.ofNat nc)), .second, .val (.long (Int64.ofNat ne)), .second, .val (.double rq_31), .second, .val (.double rq_33), .second, .unset, .unset, .unset, .unset, .unset, .unset, .unset, .unset, .unset, .unset, .unset, .unset, .unset] [(.int (cmpValue (FP.dcmp rq_31 (FP.dconst1)) .g))])
            have hb36 : ¬ ((0 : Int32) < (cmpValue (FP.dcmp rq_31 (FP.dconst1)) .g)) := by rw [show FP.dcmp rq_31 (FP.dconst1) = _ from VZ.cmp vy (own_v1 hPP)]; exact own_cg_le (by omega)
            refine go_st (fun _ kq => XS.ifNo X33.here hx rfl (hb hby at_232) rfl (XT.i0_gt_f hb36) kq) ?_
            show Go p e below s _ _ _ T33 (mkF m 235 #[.val (.long x0), .second, .val (.long x1), .second, .val (.long x2), .second, .val (.long x3), .second, .val (.int x4), .val (.long x5), .second, .val (.int (1 : Int32)), .val (.long (Int64.ofNat nu)), .second, .val (.long (Int64.ofNat nd)), .second, .val (.double rq_28), .second, .val (.long (Int64.ofNat na)), .second, .val (.long (Int64.ofNat nb)), .second, .val (.long (Int64.ofNat nc)), .second, .val (.long (Int64.ofNat ne)), .second, .val (.double rq_31), .second, .val (.double rq_33), .second, .unset, .unset, .unset, .unset, .unset, .unset, .unset, .unset, .unset, .unset, .unset, .unset, .unset] [])
            refine go_st (fun _ kq => XS.dconst0 X33.here hx rfl (hb hby at_235) rfl kq) ?_
            show Go p e below s _ _ _ T33 (mkF m 236 #[.val (.long x0), .second, .val (.long x1), .second, .val (.long x2), .second, .val (.long x3), .second, .val (.int x4), .val (.long x5), .second, .val (.int (1 : Int32)), .val (.long (Int64.ofNat nu)), .second, .val (.long (Int64.ofNat nd)), .second, .val (.double rq_28), .second, .val (.long (Int64.ofNat na)), .second, .val (.long (Int64.ofNat nb)), .second, .val (.long (Int64.ofNat nc)), .second, .val (.long (Int64.ofNat ne)), .second, .val (.double rq_31), .second, .val (.double rq_33), .second, .unset, .unset, .unset, .unset, .unset, .unset, .unset, .unset, .unset, .unset, .unset, .unset, .unset] [(.double (FP.dconst0))])
            refine go_st (fun _ kq => XS.dload X33.here hx rfl (hb hby at_236) rfl kq) ?_
            show Go p e below s _ _ _ T33 (mkF m 238 #[.val (.long x0), .second, .val (.long x1), .second, .val (.long x2), .second, .val (.long x3), .second, .val (.int x4), .val (.long x5), .second, .val (.int (1 : Int32)), .val (.long (Int64.ofNat nu)), .second, .val (.long (Int64.ofNat nd)), .second, .val (.double rq_28), .second, .val (.long (Int64.ofNat na)), .second, .val (.long (Int64.ofNat nb)), .second, .val (.long (Int64.ofNat nc)), .second, .val (.long (Int64.ofNat ne)), .second, .val (.double rq_31), .second, .val (.double rq_33), .second, .unset, .unset, .unset, .unset, .unset, .unset, .unset, .unset, .unset, .unset, .unset, .unset, .unset] [(.double rq_33), (.double (FP.dconst0))])
            refine go_st (fun _ kq => XS.dcmpS X33.here hx rfl (hb hby at_238) rfl rfl kq) ?_
            show Go p e below s _ _ _ T33 (mkF m 239 #[.val (.long x0), .second, .val (.long x1), .second, .val (.long x2), .second, .val (.long x3), .second, .val (.int x4), .val (.long x5), .second, .val (.int (1 : Int32)), .val (.long (Int64.ofNat nu)), .second, .val (.long (Int64.ofNat nd)), .second, .val (.double rq_28), .second, .val (.long (Int64.ofNat na)), .second, .val (.long (Int64.ofNat nb)), .second, .val (.long (Int64.ofNat nc)), .second, .val (.long (Int64.ofNat ne)), .second, .val (.double rq_31), .second, .val (.double rq_33), .second, .unset, .unset, .unset, .unset, .unset, .unset, .unset, .unset, .unset, .unset, .unset, .unset, .unset] [(.int (cmpValue (FP.dcmp (FP.dconst0) rq_33) .g))])
            have hb37 : ¬ ((0 : Int32) < (cmpValue (FP.dcmp (FP.dconst0) rq_33) .g)) := by rw [show FP.dcmp (FP.dconst0) rq_33 = _ from VZ.cmp own_v0 vz]; exact own_cg_le (by omega)
            refine go_st (fun _ kq => XS.ifNo X33.here hx rfl (hb hby at_239) rfl (XT.i0_gt_f hb37) kq) ?_
            show Go p e below s _ _ _ T33 (mkF m 242 #[.val (.long x0), .second, .val (.long x1), .second, .val (.long x2), .second, .val (.long x3), .second, .val (.int x4), .val (.long x5), .second, .val (.int (1 : Int32)), .val (.long (Int64.ofNat nu)), .second, .val (.long (Int64.ofNat nd)), .second, .val (.double rq_28), .second, .val (.long (Int64.ofNat na)), .second, .val (.long (Int64.ofNat nb)), .second, .val (.long (Int64.ofNat nc)), .second, .val (.long (Int64.ofNat ne)), .second, .val (.double rq_31), .second, .val (.double rq_33), .second, .unset, .unset, .unset, .unset, .unset, .unset, .unset, .unset, .unset, .unset, .unset, .unset, .unset] [])
            refine go_st (fun _ kq => XS.dload X33.here hx rfl (hb hby at_242) rfl kq) ?_
            show Go p e below s _ _ _ T33 (mkF m 244 #[.val (.long x0), .second, .val (.long x1), .second, .val (.long x2), .second, .val (.long x3), .second, .val (.int x4), .val (.long x5), .second, .val (.int (1 : Int32)), .val (.long (Int64.ofNat nu)), .second, .val (.long (Int64.ofNat nd)), .second, .val (.double rq_28), .second, .val (.long (Int64.ofNat na)), .second, .val (.long (Int64.ofNat nb)), .second, .val (.long (Int64.ofNat nc)), .second, .val (.long (Int64.ofNat ne)), .second, .val (.double rq_31), .second, .val (.double rq_33), .second, .unset, .unset, .unset, .unset, .unset, .unset, .unset, .unset, .unset, .unset, .unset, .unset, .unset] [(.double rq_33)])
            refine go_st (fun _ kq => XS.dconst1 X33.here hx rfl (hb hby at_244) rfl kq) ?_
            show Go p e below s _ _ _ T33 (mkF m 245 #[.val (.long x0), .second, .val (.long x1), .second, .val (.long x2), .second, .val (.long x3), .second, .val (.int x4), .val (.long x5), .second, .val (.int (1 : Int32)), .val (.long (Int64.ofNat nu)), .second, .val (.long (Int64.ofNat nd)), .second, .val (.double rq_28), .second, .val (.long (Int64.ofNat na)), .second, .val (.long (Int64.ofNat nb)), .second, .val (.long (Int64.ofNat nc)), .second, .val (.long (Int64.ofNat ne)), .second, .val (.double rq_31), .second, .val (.double rq_33), .second, .unset, .unset, .unset, .unset, .unset, .unset, .unset, .unset, .unset, .unset, .unset, .unset, .unset] [(.double (FP.dconst1)), (.double rq_33)])
            refine go_st (fun _ kq => XS.dcmpS X33.here hx rfl (hb hby at_245) rfl rfl kq) ?_
            show Go p e below s _ _ _ T33 (mkF m 246 #[.val (.long x0), .second, .val (.long x1), .second, .val (.long x2), .second, .val (.long x3), .second, .val (.int x4), .val (.long x5), .second, .val (.int (1 : Int32)), .val (.long (Int64.ofNat nu)), .second, .val (.long (Int64.ofNat nd)), .second, .val (.double rq_28), .second, .val (.long (Int64.ofNat na)), .second, .val (.long (Int64.ofNat nb)), .second, .val (.long (Int64.ofNat nc)), .second, .val (.long (Int64.ofNat ne)), .second, .val (.double rq_31), .second, .val (.double rq_33), .second, .unset, .unset, .unset, .unset, .unset, .unset, .unset, .unset, .unset, .unset, .unset, .unset, .unset] [(.int (cmpValue (FP.dcmp rq_33 (FP.dconst1)) .g))])
            have hb38 : ¬ ((0 : Int32) < (cmpValue (FP.dcmp rq_33 (FP.dconst1)) .g)) := by rw [show FP.dcmp rq_33 (FP.dconst1) = _ from VZ.cmp vz (own_v1 hPP)]; exact own_cg_le (by omega)
            refine go_st (fun _ kq => XS.ifNo X33.here hx rfl (hb hby at_246) rfl (XT.i0_gt_f hb38) kq) ?_
            show Go p e below s _ _ _ T33 (mkF m 249 #[.val (.long x0), .second, .val (.long x1), .second, .val (.long x2), .second, .val (.long x3), .second, .val (.int x4), .val (.long x5), .second, .val (.int (1 : Int32)), .val (.long (Int64.ofNat nu)), .second, .val (.long (Int64.ofNat nd)), .second, .val (.double rq_28), .second, .val (.long (Int64.ofNat na)), .second, .val (.long (Int64.ofNat nb)), .second, .val (.long (Int64.ofNat nc)), .second, .val (.long (Int64.ofNat ne)), .second, .val (.double rq_31), .second, .val (.double rq_33), .second, .unset, .unset, .unset, .unset, .unset, .unset, .unset, .unset, .unset, .unset, .unset, .unset, .unset] [])
            refine go_st (fun _ kq => XT.iconstV X33.here hx rfl (1 : Int32) (hb hby at_249) (by decide) kq) ?_
            show Go p e below s _ _ _ T33 (mkF m 250 #[.val (.long x0), .second, .val (.long x1), .second, .val (.long x2), .second, .val (.long x3), .second, .val (.int x4), .val (.long x5), .second, .val (.int (1 : Int32)), .val (.long (Int64.ofNat nu)), .second, .val (.long (Int64.ofNat nd)), .second, .val (.double rq_28), .second, .val (.long (Int64.ofNat na)), .second, .val (.long (Int64.ofNat nb)), .second, .val (.long (Int64.ofNat nc)), .second, .val (.long (Int64.ofNat ne)), .second, .val (.double rq_31), .second, .val (.double rq_33), .second, .unset, .unset, .unset, .unset, .unset, .unset, .unset, .unset, .unset, .unset, .unset, .unset, .unset] [(.int (1 : Int32))])
            refine go_st (fun _ kq => XS.goto X33.here hx rfl (pc0 := 250) (pc' := 254) rfl (hb hby at_250) (by decide) (by decide) kq) ?_
            show Go p e below s _ _ _ T33 (mkF m 254 #[.val (.long x0), .second, .val (.long x1), .second, .val (.long x2), .second, .val (.long x3), .second, .val (.int x4), .val (.long x5), .second, .val (.int (1 : Int32)), .val (.long (Int64.ofNat nu)), .second, .val (.long (Int64.ofNat nd)), .second, .val (.double rq_28), .second, .val (.long (Int64.ofNat na)), .second, .val (.long (Int64.ofNat nb)), .second, .val (.long (Int64.ofNat nc)), .second, .val (.long (Int64.ofNat ne)), .second, .val (.double rq_31), .second, .val (.double rq_33), .second, .unset, .unset, .unset, .unset, .unset, .unset, .unset, .unset, .unset, .unset, .unset, .unset, .unset] [(.int (1 : Int32))])
            refine go_st (fun _ kq => XS.istore X33.here hx rfl (hb hby at_254) rfl (l' := #[.val (.long x0), .second, .val (.long x1), .second, .val (.long x2), .second, .val (.long x3), .second, .val (.int x4), .val (.long x5), .second, .val (.int (1 : Int32)), .val (.long (Int64.ofNat nu)), .second, .val (.long (Int64.ofNat nd)), .second, .val (.double rq_28), .second, .val (.long (Int64.ofNat na)), .second, .val (.long (Int64.ofNat nb)), .second, .val (.long (Int64.ofNat nc)), .second, .val (.long (Int64.ofNat ne)), .second, .val (.double rq_31), .second, .val (.double rq_33), .second, .unset, .unset, .unset, .unset, .unset, .unset, .unset, .unset, .unset, .unset, .unset, .unset, .unset]) rfl kq) ?_
            show Go p e below s _ _ _ T33 (mkF m 256 #[.val (.long x0), .second, .val (.long x1), .second, .val (.long x2), .second, .val (.long x3), .second, .val (.int x4), .val (.long x5), .second, .val (.int (1 : Int32)), .val (.long (Int64.ofNat nu)), .second, .val (.long (Int64.ofNat nd)), .second, .val (.double rq_28), .second, .val (.long (Int64.ofNat na)), .second, .val (.long (Int64.ofNat nb)), .second, .val (.long (Int64.ofNat nc)), .second, .val (.long (Int64.ofNat ne)), .second, .val (.double rq_31), .second, .val (.double rq_33), .second, .unset, .unset, .unset, .unset, .unset, .unset, .unset, .unset, .unset, .unset, .unset, .unset, .unset] [])
            refine go_st (fun _ kq => XS.iload X33.here hx rfl (hb hby at_256) rfl kq) ?_
            show Go p e below s _ _ _ T33 (mkF m 258 #[.val (.long x0), .second, .val (.long x1), .second, .val (.long x2), .second, .val (.long x3), .second, .val (.int x4), .val (.long x5), .second, .val (.int (1 : Int32)), .val (.long (Int64.ofNat nu)), .second, .val (.long (Int64.ofNat nd)), .second, .val (.double rq_28), .second, .val (.long (Int64.ofNat na)), .second, .val (.long (Int64.ofNat nb)), .second, .val (.long (Int64.ofNat nc)), .second, .val (.long (Int64.ofNat ne)), .second, .val (.double rq_31), .second, .val (.double rq_33), .second, .unset, .unset, .unset, .unset, .unset, .unset, .unset, .unset, .unset, .unset, .unset, .unset, .unset] [(.int (1 : Int32))])
            refine go_st (fun _ kq => XS.ifNo X33.here hx rfl (hb hby at_258) rfl (XT.i0_eq_f (by decide)) kq) ?_
            show Go p e below s _ _ _ T33 (mkF m 261 #[.val (.long x0), .second, .val (.long x1), .second, .val (.long x2), .second, .val (.long x3), .second, .val (.int x4), .val (.long x5), .second, .val (.int (1 : Int32)), .val (.long (Int64.ofNat nu)), .second, .val (.long (Int64.ofNat nd)), .second, .val (.double rq_28), .second, .val (.long (Int64.ofNat na)), .second, .val (.long (Int64.ofNat nb)), .second, .val (.long (Int64.ofNat nc)), .second, .val (.long (Int64.ofNat ne)), .second, .val (.double rq_31), .second, .val (.double rq_33), .second, .unset, .unset, .unset, .unset, .unset, .unset, .unset, .unset, .unset, .unset, .unset, .unset, .unset] [])
            have J295 : Go p e below s (QF (some (.int (1 : Int32))) n0) 16 128 T33 (mkF m 295 #[.val (.long x0), .second, .val (.long x1), .second, .val (.long x2), .second, .val (.long x3), .second, .val (.int x4), .val (.long x5), .second, .val (.int (1 : Int32)), .val (.long (Int64.ofNat nu)), .second, .val (.long (Int64.ofNat nd)), .second, .val (.double rq_28), .second, .val (.long (Int64.ofNat na)), .second, .val (.long (Int64.ofNat nb)), .second, .val (.long (Int64.ofNat nc)), .second, .val (.long (Int64.ofNat ne)), .second, .val (.double rq_31), .second, .val (.double rq_33), .second, .unset, .unset, .unset, .unset, .unset, .unset, .unset, .unset, .unset, .unset, .unset, .unset, .unset] []) := by
              refine go_st (fun _ kq => XS.iload X33.here hx rfl (hb hby at_295) rfl kq) ?_
              show Go p e below s _ _ _ T33 (mkF m 297 #[.val (.long x0), .second, .val (.long x1), .second, .val (.long x2), .second, .val (.long x3), .second, .val (.int x4), .val (.long x5), .second, .val (.int (1 : Int32)), .val (.long (Int64.ofNat nu)), .second, .val (.long (Int64.ofNat nd)), .second, .val (.double rq_28), .second, .val (.long (Int64.ofNat na)), .second, .val (.long (Int64.ofNat nb)), .second, .val (.long (Int64.ofNat nc)), .second, .val (.long (Int64.ofNat ne)), .second, .val (.double rq_31), .second, .val (.double rq_33), .second, .unset, .unset, .unset, .unset, .unset, .unset, .unset, .unset, .unset, .unset, .unset, .unset, .unset] [(.int (1 : Int32))])
              refine go_st (fun _ kq => XS.ifNo X33.here hx rfl (hb hby at_297) rfl (XT.i0_eq_f (by decide)) kq) ?_
              show Go p e below s _ _ _ T33 (mkF m 300 #[.val (.long x0), .second, .val (.long x1), .second, .val (.long x2), .second, .val (.long x3), .second, .val (.int x4), .val (.long x5), .second, .val (.int (1 : Int32)), .val (.long (Int64.ofNat nu)), .second, .val (.long (Int64.ofNat nd)), .second, .val (.double rq_28), .second, .val (.long (Int64.ofNat na)), .second, .val (.long (Int64.ofNat nb)), .second, .val (.long (Int64.ofNat nc)), .second, .val (.long (Int64.ofNat ne)), .second, .val (.double rq_31), .second, .val (.double rq_33), .second, .unset, .unset, .unset, .unset, .unset, .unset, .unset, .unset, .unset, .unset, .unset, .unset, .unset] [])
              have J334 : Go p e below s (QF (some (.int (1 : Int32))) n0) 16 128 T33 (mkF m 334 #[.val (.long x0), .second, .val (.long x1), .second, .val (.long x2), .second, .val (.long x3), .second, .val (.int x4), .val (.long x5), .second, .val (.int (1 : Int32)), .val (.long (Int64.ofNat nu)), .second, .val (.long (Int64.ofNat nd)), .second, .val (.double rq_28), .second, .val (.long (Int64.ofNat na)), .second, .val (.long (Int64.ofNat nb)), .second, .val (.long (Int64.ofNat nc)), .second, .val (.long (Int64.ofNat ne)), .second, .val (.double rq_31), .second, .val (.double rq_33), .second, .unset, .unset, .unset, .unset, .unset, .unset, .unset, .unset, .unset, .unset, .unset, .unset, .unset] []) := by
                refine go_st (fun _ kq => XT.lload X33.here hx rfl (hb hby at_334) rfl kq) ?_
                show Go p e below s _ _ _ T33 (mkF m 336 #[.val (.long x0), .second, .val (.long x1), .second, .val (.long x2), .second, .val (.long x3), .second, .val (.int x4), .val (.long x5), .second, .val (.int (1 : Int32)), .val (.long (Int64.ofNat nu)), .second, .val (.long (Int64.ofNat nd)), .second, .val (.double rq_28), .second, .val (.long (Int64.ofNat na)), .second, .val (.long (Int64.ofNat nb)), .second, .val (.long (Int64.ofNat nc)), .second, .val (.long (Int64.ofNat ne)), .second, .val (.double rq_31), .second, .val (.double rq_33), .second, .unset, .unset, .unset, .unset, .unset, .unset, .unset, .unset, .unset, .unset, .unset, .unset, .unset] [(.long (Int64.ofNat nb))])
                refine go_st (fun _ kq => XT.lload X33.here hx rfl (hb hby at_336) rfl kq) ?_
                show Go p e below s _ _ _ T33 (mkF m 338 #[.val (.long x0), .second, .val (.long x1), .second, .val (.long x2), .second, .val (.long x3), .second, .val (.int x4), .val (.long x5), .second, .val (.int (1 : Int32)), .val (.long (Int64.ofNat nu)), .second, .val (.long (Int64.ofNat nd)), .second, .val (.double rq_28), .second, .val (.long (Int64.ofNat na)), .second, .val (.long (Int64.ofNat nb)), .second, .val (.long (Int64.ofNat nc)), .second, .val (.long (Int64.ofNat ne)), .second, .val (.double rq_31), .second, .val (.double rq_33), .second, .unset, .unset, .unset, .unset, .unset, .unset, .unset, .unset, .unset, .unset, .unset, .unset, .unset] [(.long (Int64.ofNat nc)), (.long (Int64.ofNat nb))])
                refine go_st (fun _ kq => XT.lmul X33.here hx rfl (hb hby at_338) rfl kq) ?_
                show Go p e below s _ _ _ T33 (mkF m 339 #[.val (.long x0), .second, .val (.long x1), .second, .val (.long x2), .second, .val (.long x3), .second, .val (.int x4), .val (.long x5), .second, .val (.int (1 : Int32)), .val (.long (Int64.ofNat nu)), .second, .val (.long (Int64.ofNat nd)), .second, .val (.double rq_28), .second, .val (.long (Int64.ofNat na)), .second, .val (.long (Int64.ofNat nb)), .second, .val (.long (Int64.ofNat nc)), .second, .val (.long (Int64.ofNat ne)), .second, .val (.double rq_31), .second, .val (.double rq_33), .second, .unset, .unset, .unset, .unset, .unset, .unset, .unset, .unset, .unset, .unset, .unset, .unset, .unset] [(.long ((Int64.ofNat nb) * (Int64.ofNat nc)))])
                refine go_st (fun _ kq => XT.lstore X33.here hx rfl (hb hby at_339) rfl (l' := #[.val (.long x0), .second, .val (.long x1), .second, .val (.long x2), .second, .val (.long x3), .second, .val (.int x4), .val (.long x5), .second, .val (.int (1 : Int32)), .val (.long (Int64.ofNat nu)), .second, .val (.long (Int64.ofNat nd)), .second, .val (.double rq_28), .second, .val (.long (Int64.ofNat na)), .second, .val (.long (Int64.ofNat nb)), .second, .val (.long (Int64.ofNat nc)), .second, .val (.long (Int64.ofNat ne)), .second, .val (.double rq_31), .second, .val (.double rq_33), .second, .val (.long ((Int64.ofNat nb) * (Int64.ofNat nc))), .second, .unset, .unset, .unset, .unset, .unset, .unset, .unset, .unset, .unset, .unset, .unset]) rfl kq) ?_
                show Go p e below s _ _ _ T33 (mkF m 341 #[.val (.long x0), .second, .val (.long x1), .second, .val (.long x2), .second, .val (.long x3), .second, .val (.int x4), .val (.long x5), .second, .val (.int (1 : Int32)), .val (.long (Int64.ofNat nu)), .second, .val (.long (Int64.ofNat nd)), .second, .val (.double rq_28), .second, .val (.long (Int64.ofNat na)), .second, .val (.long (Int64.ofNat nb)), .second, .val (.long (Int64.ofNat nc)), .second, .val (.long (Int64.ofNat ne)), .second, .val (.double rq_31), .second, .val (.double rq_33), .second, .val (.long ((Int64.ofNat nb) * (Int64.ofNat nc))), .second, .unset, .unset, .unset, .unset, .unset, .unset, .unset, .unset, .unset, .unset, .unset] [])
                refine go_st (fun _ kq => XT.lload X33.here hx rfl (hb hby at_341) rfl kq) ?_
                show Go p e below s _ _ _ T33 (mkF m 343 #[.val (.long x0), .second, .val (.long x1), .second, .val (.long x2), .second, .val (.long x3), .second, .val (.int x4), .val (.long x5), .second, .val (.int (1 : Int32)), .val (.long (Int64.ofNat nu)), .second, .val (.long (Int64.ofNat nd)), .second, .val (.double rq_28), .second, .val (.long (Int64.ofNat na)), .second, .val (.long (Int64.ofNat nb)), .second, .val (.long (Int64.ofNat nc)), .second, .val (.long (Int64.ofNat ne)), .second, .val (.double rq_31), .second, .val (.double rq_33), .second, .val (.long ((Int64.ofNat nb) * (Int64.ofNat nc))), .second, .unset, .unset, .unset, .unset, .unset, .unset, .unset, .unset, .unset, .unset, .unset] [(.long (Int64.ofNat ne))])
                refine go_st (fun _ kq => XT.lload X33.here hx rfl (hb hby at_343) rfl kq) ?_
                show Go p e below s _ _ _ T33 (mkF m 345 #[.val (.long x0), .second, .val (.long x1), .second, .val (.long x2), .second, .val (.long x3), .second, .val (.int x4), .val (.long x5), .second, .val (.int (1 : Int32)), .val (.long (Int64.ofNat nu)), .second, .val (.long (Int64.ofNat nd)), .second, .val (.double rq_28), .second, .val (.long (Int64.ofNat na)), .second, .val (.long (Int64.ofNat nb)), .second, .val (.long (Int64.ofNat nc)), .second, .val (.long (Int64.ofNat ne)), .second, .val (.double rq_31), .second, .val (.double rq_33), .second, .val (.long ((Int64.ofNat nb) * (Int64.ofNat nc))), .second, .unset, .unset, .unset, .unset, .unset, .unset, .unset, .unset, .unset, .unset, .unset] [(.long (Int64.ofNat na)), (.long (Int64.ofNat ne))])
                refine go_st (fun _ kq => XT.lmul X33.here hx rfl (hb hby at_345) rfl kq) ?_
                show Go p e below s _ _ _ T33 (mkF m 346 #[.val (.long x0), .second, .val (.long x1), .second, .val (.long x2), .second, .val (.long x3), .second, .val (.int x4), .val (.long x5), .second, .val (.int (1 : Int32)), .val (.long (Int64.ofNat nu)), .second, .val (.long (Int64.ofNat nd)), .second, .val (.double rq_28), .second, .val (.long (Int64.ofNat na)), .second, .val (.long (Int64.ofNat nb)), .second, .val (.long (Int64.ofNat nc)), .second, .val (.long (Int64.ofNat ne)), .second, .val (.double rq_31), .second, .val (.double rq_33), .second, .val (.long ((Int64.ofNat nb) * (Int64.ofNat nc))), .second, .unset, .unset, .unset, .unset, .unset, .unset, .unset, .unset, .unset, .unset, .unset] [(.long ((Int64.ofNat ne) * (Int64.ofNat na)))])
                refine go_st (fun _ kq => XT.lstore X33.here hx rfl (hb hby at_346) rfl (l' := #[.val (.long x0), .second, .val (.long x1), .second, .val (.long x2), .second, .val (.long x3), .second, .val (.int x4), .val (.long x5), .second, .val (.int (1 : Int32)), .val (.long (Int64.ofNat nu)), .second, .val (.long (Int64.ofNat nd)), .second, .val (.double rq_28), .second, .val (.long (Int64.ofNat na)), .second, .val (.long (Int64.ofNat nb)), .second, .val (.long (Int64.ofNat nc)), .second, .val (.long (Int64.ofNat ne)), .second, .val (.double rq_31), .second, .val (.double rq_33), .second, .val (.long ((Int64.ofNat nb) * (Int64.ofNat nc))), .second, .val (.long ((Int64.ofNat ne) * (Int64.ofNat na))), .second, .unset, .unset, .unset, .unset, .unset, .unset, .unset, .unset, .unset]) rfl kq) ?_
                show Go p e below s _ _ _ T33 (mkF m 348 #[.val (.long x0), .second, .val (.long x1), .second, .val (.long x2), .second, .val (.long x3), .second, .val (.int x4), .val (.long x5), .second, .val (.int (1 : Int32)), .val (.long (Int64.ofNat nu)), .second, .val (.long (Int64.ofNat nd)), .second, .val (.double rq_28), .second, .val (.long (Int64.ofNat na)), .second, .val (.long (Int64.ofNat nb)), .second, .val (.long (Int64.ofNat nc)), .second, .val (.long (Int64.ofNat ne)), .second, .val (.double rq_31), .second, .val (.double rq_33), .second, .val (.long ((Int64.ofNat nb) * (Int64.ofNat nc))), .second, .val (.long ((Int64.ofNat ne) * (Int64.ofNat na))), .second, .unset, .unset, .unset, .unset, .unset, .unset, .unset, .unset, .unset] [])
                rw [own_ml (n := nb) (m := nc)]
                rw [own_ml (n := ne) (m := na)]
                show Go p e below s _ _ _ T33 (mkF m 348 #[.val (.long x0), .second, .val (.long x1), .second, .val (.long x2), .second, .val (.long x3), .second, .val (.int x4), .val (.long x5), .second, .val (.int (1 : Int32)), .val (.long (Int64.ofNat nu)), .second, .val (.long (Int64.ofNat nd)), .second, .val (.double rq_28), .second, .val (.long (Int64.ofNat na)), .second, .val (.long (Int64.ofNat nb)), .second, .val (.long (Int64.ofNat nc)), .second, .val (.long (Int64.ofNat ne)), .second, .val (.double rq_31), .second, .val (.double rq_33), .second, .val (.long (Int64.ofNat (nb * nc))), .second, .val (.long (Int64.ofNat (ne * na))), .second, .unset, .unset, .unset, .unset, .unset, .unset, .unset, .unset, .unset] [])
                have J430 : Go p e below s (QF (some (.int (1 : Int32))) n0) 16 128 T33 (mkF m 430 #[.val (.long x0), .second, .val (.long x1), .second, .val (.long x2), .second, .val (.long x3), .second, .val (.int x4), .val (.long x5), .second, .val (.int (1 : Int32)), .val (.long (Int64.ofNat nu)), .second, .val (.long (Int64.ofNat nd)), .second, .val (.double rq_28), .second, .val (.long (Int64.ofNat na)), .second, .val (.long (Int64.ofNat nb)), .second, .val (.long (Int64.ofNat nc)), .second, .val (.long (Int64.ofNat ne)), .second, .val (.double rq_31), .second, .val (.double rq_33), .second, .val (.long (Int64.ofNat (nb * nc))), .second, .val (.long (Int64.ofNat (ne * na))), .second, .unset, .unset, .unset, .unset, .unset, .unset, .unset, .unset, .unset] []) := by
                  refine go_st (fun _ kq => XS.iload X33.here hx rfl (hb hby at_430) rfl kq) ?_
                  show Go p e below s _ _ _ T33 (mkF m 432 #[.val (.long x0), .second, .val (.long x1), .second, .val (.long x2), .second, .val (.long x3), .second, .val (.int x4), .val (.long x5), .second, .val (.int (1 : Int32)), .val (.long (Int64.ofNat nu)), .second, .val (.long (Int64.ofNat nd)), .second, .val (.double rq_28), .second, .val (.long (Int64.ofNat na)), .second, .val (.long (Int64.ofNat nb)), .second, .val (.long (Int64.ofNat nc)), .second, .val (.long (Int64.ofNat ne)), .second, .val (.double rq_31), .second, .val (.double rq_33), .second, .val (.long (Int64.ofNat (nb * nc))), .second, .val (.long (Int64.ofNat (ne * na))), .second, .unset, .unset, .unset, .unset, .unset, .unset, .unset, .unset, .unset] [(.int x4)])
                  refine go_st (fun _ kq => XT.bipushV X33.here hx rfl (31 : Int32) (hb hby at_432) (by decide) kq) ?_
                  show Go p e below s _ _ _ T33 (mkF m 434 #[.val (.long x0), .second, .val (.long x1), .second, .val (.long x2), .second, .val (.long x3), .second, .val (.int x4), .val (.long x5), .second, .val (.int (1 : Int32)), .val (.long (Int64.ofNat nu)), .second, .val (.long (Int64.ofNat nd)), .second, .val (.double rq_28), .second, .val (.long (Int64.ofNat na)), .second, .val (.long (Int64.ofNat nb)), .second, .val (.long (Int64.ofNat nc)), .second, .val (.long (Int64.ofNat ne)), .second, .val (.double rq_31), .second, .val (.double rq_33), .second, .val (.long (Int64.ofNat (nb * nc))), .second, .val (.long (Int64.ofNat (ne * na))), .second, .unset, .unset, .unset, .unset, .unset, .unset, .unset, .unset, .unset] [(.int (31 : Int32)), (.int x4)])
                  refine go_st (fun _ kq => XS.iand X33.here hx rfl (hb hby at_434) rfl kq) ?_
                  show Go p e below s _ _ _ T33 (mkF m 435 #[.val (.long x0), .second, .val (.long x1), .second, .val (.long x2), .second, .val (.long x3), .second, .val (.int x4), .val (.long x5), .second, .val (.int (1 : Int32)), .val (.long (Int64.ofNat nu)), .second, .val (.long (Int64.ofNat nd)), .second, .val (.double rq_28), .second, .val (.long (Int64.ofNat na)), .second, .val (.long (Int64.ofNat nb)), .second, .val (.long (Int64.ofNat nc)), .second, .val (.long (Int64.ofNat ne)), .second, .val (.double rq_31), .second, .val (.double rq_33), .second, .val (.long (Int64.ofNat (nb * nc))), .second, .val (.long (Int64.ofNat (ne * na))), .second, .unset, .unset, .unset, .unset, .unset, .unset, .unset, .unset, .unset] [(.int (x4 &&& (31 : Int32)))])
                  refine go_st (fun _ kq => XS.istore X33.here hx rfl (hb hby at_435) rfl (l' := #[.val (.long x0), .second, .val (.long x1), .second, .val (.long x2), .second, .val (.long x3), .second, .val (.int x4), .val (.long x5), .second, .val (.int (1 : Int32)), .val (.long (Int64.ofNat nu)), .second, .val (.long (Int64.ofNat nd)), .second, .val (.double rq_28), .second, .val (.long (Int64.ofNat na)), .second, .val (.long (Int64.ofNat nb)), .second, .val (.long (Int64.ofNat nc)), .second, .val (.long (Int64.ofNat ne)), .second, .val (.double rq_31), .second, .val (.double rq_33), .second, .val (.long (Int64.ofNat (nb * nc))), .second, .val (.long (Int64.ofNat (ne * na))), .second, .val (.int (x4 &&& (31 : Int32))), .unset, .unset, .unset, .unset, .unset, .unset, .unset, .unset]) rfl kq) ?_
                  show Go p e below s _ _ _ T33 (mkF m 437 #[.val (.long x0), .second, .val (.long x1), .second, .val (.long x2), .second, .val (.long x3), .second, .val (.int x4), .val (.long x5), .second, .val (.int (1 : Int32)), .val (.long (Int64.ofNat nu)), .second, .val (.long (Int64.ofNat nd)), .second, .val (.double rq_28), .second, .val (.long (Int64.ofNat na)), .second, .val (.long (Int64.ofNat nb)), .second, .val (.long (Int64.ofNat nc)), .second, .val (.long (Int64.ofNat ne)), .second, .val (.double rq_31), .second, .val (.double rq_33), .second, .val (.long (Int64.ofNat (nb * nc))), .second, .val (.long (Int64.ofNat (ne * na))), .second, .val (.int (x4 &&& (31 : Int32))), .unset, .unset, .unset, .unset, .unset, .unset, .unset, .unset] [])
                  obtain ⟨kk, hkk, ekk⟩ := own_m31 x4
                  rw [ekk]
                  show Go p e below s _ _ _ T33 (mkF m 437 #[.val (.long x0), .second, .val (.long x1), .second, .val (.long x2), .second, .val (.long x3), .second, .val (.int x4), .val (.long x5), .second, .val (.int (1 : Int32)), .val (.long (Int64.ofNat nu)), .second, .val (.long (Int64.ofNat nd)), .second, .val (.double rq_28), .second, .val (.long (Int64.ofNat na)), .second, .val (.long (Int64.ofNat nb)), .second, .val (.long (Int64.ofNat nc)), .second, .val (.long (Int64.ofNat ne)), .second, .val (.double rq_31), .second, .val (.double rq_33), .second, .val (.long (Int64.ofNat (nb * nc))), .second, .val (.long (Int64.ofNat (ne * na))), .second, .val (.int (Int32.ofNat kk)), .unset, .unset, .unset, .unset, .unset, .unset, .unset, .unset] [])
                  refine go_st (fun _ kq => XT.lconstV X33.here hx rfl (1 : Int64) (hb hby at_437) (by decide) kq) ?_
                  show Go p e below s _ _ _ T33 (mkF m 438 #[.val (.long x0), .second, .val (.long x1), .second, .val (.long x2), .second, .val (.long x3), .second, .val (.int x4), .val (.long x5), .second, .val (.int (1 : Int32)), .val (.long (Int64.ofNat nu)), .second, .val (.long (Int64.ofNat nd)), .second, .val (.double rq_28), .second, .val (.long (Int64.ofNat na)), .second, .val (.long (Int64.ofNat nb)), .second, .val (.long (Int64.ofNat nc)), .second, .val (.long (Int64.ofNat ne)), .second, .val (.double rq_31), .second, .val (.double rq_33), .second, .val (.long (Int64.ofNat (nb * nc))), .second, .val (.long (Int64.ofNat (ne * na))), .second, .val (.int (Int32.ofNat kk)), .unset, .unset, .unset, .unset, .unset, .unset, .unset, .unset] [(.long (1 : Int64))])
                  refine go_st (fun _ kq => XS.iload X33.here hx rfl (hb hby at_438) rfl kq) ?_
                  show Go p e below s _ _ _ T33 (mkF m 440 #[.val (.long x0), .second, .val (.long x1), .second, .val (.long x2), .second, .val (.long x3), .second, .val (.int x4), .val (.long x5), .second, .val (.int (1 : Int32)), .val (.long (Int64.ofNat nu)), .second, .val (.long (Int64.ofNat nd)), .second, .val (.double rq_28), .second, .val (.long (Int64.ofNat na)), .second, .val (.long (Int64.ofNat nb)), .second, .val (.long (Int64.ofNat nc)), .second, .val (.long (Int64.ofNat ne)), .second, .val (.double rq_31), .second, .val (.double rq_33), .second, .val (.long (Int64.ofNat (nb * nc))), .second, .val (.long (Int64.ofNat (ne * na))), .second, .val (.int (Int32.ofNat kk)), .unset, .unset, .unset, .unset, .unset, .unset, .unset, .unset] [(.int (Int32.ofNat kk)), (.long (1 : Int64))])
                  refine go_st (fun _ kq => XT.lshl X33.here hx rfl (hb hby at_440) rfl kq) ?_
                  show Go p e below s _ _ _ T33 (mkF m 441 #[.val (.long x0), .second, .val (.long x1), .second, .val (.long x2), .second, .val (.long x3), .second, .val (.int x4), .val (.long x5), .second, .val (.int (1 : Int32)), .val (.long (Int64.ofNat nu)), .second, .val (.long (Int64.ofNat nd)), .second, .val (.double rq_28), .second, .val (.long (Int64.ofNat na)), .second, .val (.long (Int64.ofNat nb)), .second, .val (.long (Int64.ofNat nc)), .second, .val (.long (Int64.ofNat ne)), .second, .val (.double rq_31), .second, .val (.double rq_33), .second, .val (.long (Int64.ofNat (nb * nc))), .second, .val (.long (Int64.ofNat (ne * na))), .second, .val (.int (Int32.ofNat kk)), .unset, .unset, .unset, .unset, .unset, .unset, .unset, .unset] [(.long ((1 : Int64) <<< ((Int32.ofNat kk).toInt64 &&& 63)))])
                  refine go_st (fun _ kq => XT.lstore X33.here hx rfl (hb hby at_441) rfl (l' := #[.val (.long x0), .second, .val (.long x1), .second, .val (.long x2), .second, .val (.long x3), .second, .val (.int x4), .val (.long x5), .second, .val (.int (1 : Int32)), .val (.long (Int64.ofNat nu)), .second, .val (.long (Int64.ofNat nd)), .second, .val (.double rq_28), .second, .val (.long (Int64.ofNat na)), .second, .val (.long (Int64.ofNat nb)), .second, .val (.long (Int64.ofNat nc)), .second, .val (.long (Int64.ofNat ne)), .second, .val (.double rq_31), .second, .val (.double rq_33), .second, .val (.long (Int64.ofNat (nb * nc))), .second, .val (.long (Int64.ofNat (ne * na))), .second, .val (.int (Int32.ofNat kk)), .val (.long ((1 : Int64) <<< ((Int32.ofNat kk).toInt64 &&& 63))), .second, .unset, .unset, .unset, .unset, .unset, .unset]) rfl kq) ?_
                  show Go p e below s _ _ _ T33 (mkF m 443 #[.val (.long x0), .second, .val (.long x1), .second, .val (.long x2), .second, .val (.long x3), .second, .val (.int x4), .val (.long x5), .second, .val (.int (1 : Int32)), .val (.long (Int64.ofNat nu)), .second, .val (.long (Int64.ofNat nd)), .second, .val (.double rq_28), .second, .val (.long (Int64.ofNat na)), .second, .val (.long (Int64.ofNat nb)), .second, .val (.long (Int64.ofNat nc)), .second, .val (.long (Int64.ofNat ne)), .second, .val (.double rq_31), .second, .val (.double rq_33), .second, .val (.long (Int64.ofNat (nb * nc))), .second, .val (.long (Int64.ofNat (ne * na))), .second, .val (.int (Int32.ofNat kk)), .val (.long ((1 : Int64) <<< ((Int32.ofNat kk).toInt64 &&& 63))), .second, .unset, .unset, .unset, .unset, .unset, .unset] [])
                  rw [own_shL kk hkk]
                  have hp2 := own_p31 hkk
                  have hp0 := Nat.two_pow_pos kk
                  show Go p e below s _ _ _ T33 (mkF m 443 #[.val (.long x0), .second, .val (.long x1), .second, .val (.long x2), .second, .val (.long x3), .second, .val (.int x4), .val (.long x5), .second, .val (.int (1 : Int32)), .val (.long (Int64.ofNat nu)), .second, .val (.long (Int64.ofNat nd)), .second, .val (.double rq_28), .second, .val (.long (Int64.ofNat na)), .second, .val (.long (Int64.ofNat nb)), .second, .val (.long (Int64.ofNat nc)), .second, .val (.long (Int64.ofNat ne)), .second, .val (.double rq_31), .second, .val (.double rq_33), .second, .val (.long (Int64.ofNat (nb * nc))), .second, .val (.long (Int64.ofNat (ne * na))), .second, .val (.int (Int32.ofNat kk)), .val (.long (Int64.ofNat (2 ^ kk))), .second, .unset, .unset, .unset, .unset, .unset, .unset] [])
                  refine go_st (fun _ kq => XT.lload X33.here hx rfl (hb hby at_443) rfl kq) ?_
                  show Go p e below s _ _ _ T33 (mkF m 445 #[.val (.long x0), .second, .val (.long x1), .second, .val (.long x2), .second, .val (.long x3), .second, .val (.int x4), .val (.long x5), .second, .val (.int (1 : Int32)), .val (.long (Int64.ofNat nu)), .second, .val (.long (Int64.ofNat nd)), .second, .val (.double rq_28), .second, .val (.long (Int64.ofNat na)), .second, .val (.long (Int64.ofNat nb)), .second, .val (.long (Int64.ofNat nc)), .second, .val (.long (Int64.ofNat ne)), .second, .val (.double rq_31), .second, .val (.double rq_33), .second, .val (.long (Int64.ofNat (nb * nc))), .second, .val (.long (Int64.ofNat (ne * na))), .second, .val (.int (Int32.ofNat kk)), .val (.long (Int64.ofNat (2 ^ kk))), .second, .unset, .unset, .unset, .unset, .unset, .unset] [(.long x5)])
                  refine go_st (fun _ kq => Jvm.Stand.ldc2J X33 hx hown (mvT hZ (hw _ (List.mem_of_getElem? (i := 30) rfl))) rfl (hb hby at_445) kq) ?_
                  show Go p e below s _ _ _ T33 (mkF m 448 #[.val (.long x0), .second, .val (.long x1), .second, .val (.long x2), .second, .val (.long x3), .second, .val (.int x4), .val (.long x5), .second, .val (.int (1 : Int32)), .val (.long (Int64.ofNat nu)), .second, .val (.long (Int64.ofNat nd)), .second, .val (.double rq_28), .second, .val (.long (Int64.ofNat na)), .second, .val (.long (Int64.ofNat nb)), .second, .val (.long (Int64.ofNat nc)), .second, .val (.long (Int64.ofNat ne)), .second, .val (.double rq_31), .second, .val (.double rq_33), .second, .val (.long (Int64.ofNat (nb * nc))), .second, .val (.long (Int64.ofNat (ne * na))), .second, .val (.int (Int32.ofNat kk)), .val (.long (Int64.ofNat (2 ^ kk))), .second, .unset, .unset, .unset, .unset, .unset, .unset] [(.long (2147483647 : Int64)), (.long x5)])
                  refine go_st (fun _ kq => XT.land X33.here hx rfl (hb hby at_448) rfl kq) ?_
                  show Go p e below s _ _ _ T33 (mkF m 449 #[.val (.long x0), .second, .val (.long x1), .second, .val (.long x2), .second, .val (.long x3), .second, .val (.int x4), .val (.long x5), .second, .val (.int (1 : Int32)), .val (.long (Int64.ofNat nu)), .second, .val (.long (Int64.ofNat nd)), .second, .val (.double rq_28), .second, .val (.long (Int64.ofNat na)), .second, .val (.long (Int64.ofNat nb)), .second, .val (.long (Int64.ofNat nc)), .second, .val (.long (Int64.ofNat ne)), .second, .val (.double rq_31), .second, .val (.double rq_33), .second, .val (.long (Int64.ofNat (nb * nc))), .second, .val (.long (Int64.ofNat (ne * na))), .second, .val (.int (Int32.ofNat kk)), .val (.long (Int64.ofNat (2 ^ kk))), .second, .unset, .unset, .unset, .unset, .unset, .unset] [(.long (x5 &&& (2147483647 : Int64)))])
                  refine go_st (fun _ kq => XT.lload X33.here hx rfl (hb hby at_449) rfl kq) ?_
                  show Go p e below s _ _ _ T33 (mkF m 451 #[.val (.long x0), .second, .val (.long x1), .second, .val (.long x2), .second, .val (.long x3), .second, .val (.int x4), .val (.long x5), .second, .val (.int (1 : Int32)), .val (.long (Int64.ofNat nu)), .second, .val (.long (Int64.ofNat nd)), .second, .val (.double rq_28), .second, .val (.long (Int64.ofNat na)), .second, .val (.long (Int64.ofNat nb)), .second, .val (.long (Int64.ofNat nc)), .second, .val (.long (Int64.ofNat ne)), .second, .val (.double rq_31), .second, .val (.double rq_33), .second, .val (.long (Int64.ofNat (nb * nc))), .second, .val (.long (Int64.ofNat (ne * na))), .second, .val (.int (Int32.ofNat kk)), .val (.long (Int64.ofNat (2 ^ kk))), .second, .unset, .unset, .unset, .unset, .unset, .unset] [(.long (Int64.ofNat (2 ^ kk))), (.long (x5 &&& (2147483647 : Int64)))])
                  refine go_st (fun _ kq => XT.lconstV X33.here hx rfl (1 : Int64) (hb hby at_451) (by decide) kq) ?_
                  show Go p e below s _ _ _ T33 (mkF m 452 #[.val (.long x0), .second, .val (.long x1), .second, .val (.long x2), .second, .val (.long x3), .second, .val (.int x4), .val (.long x5), .second, .val (.int (1 : Int32)), .val (.long (Int64.ofNat nu)), .second, .val (.long (Int64.ofNat nd)), .second, .val (.double rq_28), .second, .val (.long (Int64.ofNat na)), .second, .val (.long (Int64.ofNat nb)), .second, .val (.long (Int64.ofNat nc)), .second, .val (.long (Int64.ofNat ne)), .second, .val (.double rq_31), .second, .val (.double rq_33), .second, .val (.long (Int64.ofNat (nb * nc))), .second, .val (.long (Int64.ofNat (ne * na))), .second, .val (.int (Int32.ofNat kk)), .val (.long (Int64.ofNat (2 ^ kk))), .second, .unset, .unset, .unset, .unset, .unset, .unset] [(.long (1 : Int64)), (.long (Int64.ofNat (2 ^ kk))), (.long (x5 &&& (2147483647 : Int64)))])
                  refine go_st (fun _ kq => XT.ladd X33.here hx rfl (hb hby at_452) rfl kq) ?_
                  show Go p e below s _ _ _ T33 (mkF m 453 #[.val (.long x0), .second, .val (.long x1), .second, .val (.long x2), .second, .val (.long x3), .second, .val (.int x4), .val (.long x5), .second, .val (.int (1 : Int32)), .val (.long (Int64.ofNat nu)), .second, .val (.long (Int64.ofNat nd)), .second, .val (.double rq_28), .second, .val (.long (Int64.ofNat na)), .second, .val (.long (Int64.ofNat nb)), .second, .val (.long (Int64.ofNat nc)), .second, .val (.long (Int64.ofNat ne)), .second, .val (.double rq_31), .second, .val (.double rq_33), .second, .val (.long (Int64.ofNat (nb * nc))), .second, .val (.long (Int64.ofNat (ne * na))), .second, .val (.int (Int32.ofNat kk)), .val (.long (Int64.ofNat (2 ^ kk))), .second, .unset, .unset, .unset, .unset, .unset, .unset] [(.long ((Int64.ofNat (2 ^ kk)) + (1 : Int64))), (.long (x5 &&& (2147483647 : Int64)))])
                  refine go_st (fun _ kq => own_lrem X33.here hx rfl (hb hby at_453) rfl (own_nzL (own_p31 hkk)) kq) ?_
                  show Go p e below s _ _ _ T33 (mkF m 454 #[.val (.long x0), .second, .val (.long x1), .second, .val (.long x2), .second, .val (.long x3), .second, .val (.int x4), .val (.long x5), .second, .val (.int (1 : Int32)), .val (.long (Int64.ofNat nu)), .second, .val (.long (Int64.ofNat nd)), .second, .val (.double rq_28), .second, .val (.long (Int64.ofNat na)), .second, .val (.long (Int64.ofNat nb)), .second, .val (.long (Int64.ofNat nc)), .second, .val (.long (Int64.ofNat ne)), .second, .val (.double rq_31), .second, .val (.double rq_33), .second, .val (.long (Int64.ofNat (nb * nc))), .second, .val (.long (Int64.ofNat (ne * na))), .second, .val (.int (Int32.ofNat kk)), .val (.long (Int64.ofNat (2 ^ kk))), .second, .unset, .unset, .unset, .unset, .unset, .unset] [(.long ((x5 &&& (2147483647 : Int64)) % ((Int64.ofNat (2 ^ kk)) + (1 : Int64))))])
                  refine go_st (fun _ kq => XT.lstore X33.here hx rfl (hb hby at_454) rfl (l' := #[.val (.long x0), .second, .val (.long x1), .second, .val (.long x2), .second, .val (.long x3), .second, .val (.int x4), .val (.long x5), .second, .val (.int (1 : Int32)), .val (.long (Int64.ofNat nu)), .second, .val (.long (Int64.ofNat nd)), .second, .val (.double rq_28), .second, .val (.long (Int64.ofNat na)), .second, .val (.long (Int64.ofNat nb)), .second, .val (.long (Int64.ofNat nc)), .second, .val (.long (Int64.ofNat ne)), .second, .val (.double rq_31), .second, .val (.double rq_33), .second, .val (.long (Int64.ofNat (nb * nc))), .second, .val (.long (Int64.ofNat (ne * na))), .second, .val (.int (Int32.ofNat kk)), .val (.long (Int64.ofNat (2 ^ kk))), .second, .val (.long ((x5 &&& (2147483647 : Int64)) % ((Int64.ofNat (2 ^ kk)) + (1 : Int64)))), .second, .unset, .unset, .unset, .unset]) rfl kq) ?_
                  show Go p e below s _ _ _ T33 (mkF m 456 #[.val (.long x0), .second, .val (.long x1), .second, .val (.long x2), .second, .val (.long x3), .second, .val (.int x4), .val (.long x5), .second, .val (.int (1 : Int32)), .val (.long (Int64.ofNat nu)), .second, .val (.long (Int64.ofNat nd)), .second, .val (.double rq_28), .second, .val (.long (Int64.ofNat na)), .second, .val (.long (Int64.ofNat nb)), .second, .val (.long (Int64.ofNat nc)), .second, .val (.long (Int64.ofNat ne)), .second, .val (.double rq_31), .second, .val (.double rq_33), .second, .val (.long (Int64.ofNat (nb * nc))), .second, .val (.long (Int64.ofNat (ne * na))), .second, .val (.int (Int32.ofNat kk)), .val (.long (Int64.ofNat (2 ^ kk))), .second, .val (.long ((x5 &&& (2147483647 : Int64)) % ((Int64.ofNat (2 ^ kk)) + (1 : Int64)))), .second, .unset, .unset, .unset, .unset] [])
                  obtain ⟨dd, hdd, edd⟩ := own_remL x5 (n := 2 ^ kk) hp2
                  rw [edd]
                  show Go p e below s _ _ _ T33 (mkF m 456 #[.val (.long x0), .second, .val (.long x1), .second, .val (.long x2), .second, .val (.long x3), .second, .val (.int x4), .val (.long x5), .second, .val (.int (1 : Int32)), .val (.long (Int64.ofNat nu)), .second, .val (.long (Int64.ofNat nd)), .second, .val (.double rq_28), .second, .val (.long (Int64.ofNat na)), .second, .val (.long (Int64.ofNat nb)), .second, .val (.long (Int64.ofNat nc)), .second, .val (.long (Int64.ofNat ne)), .second, .val (.double rq_31), .second, .val (.double rq_33), .second, .val (.long (Int64.ofNat (nb * nc))), .second, .val (.long (Int64.ofNat (ne * na))), .second, .val (.int (Int32.ofNat kk)), .val (.long (Int64.ofNat (2 ^ kk))), .second, .val (.long (Int64.ofNat dd)), .second, .unset, .unset, .unset, .unset] [])
                  refine go_st (fun _ kq => XT.lload X33.here hx rfl (hb hby at_456) rfl kq) ?_
                  show Go p e below s _ _ _ T33 (mkF m 458 #[.val (.long x0), .second, .val (.long x1), .second, .val (.long x2), .second, .val (.long x3), .second, .val (.int x4), .val (.long x5), .second, .val (.int (1 : Int32)), .val (.long (Int64.ofNat nu)), .second, .val (.long (Int64.ofNat nd)), .second, .val (.double rq_28), .second, .val (.long (Int64.ofNat na)), .second, .val (.long (Int64.ofNat nb)), .second, .val (.long (Int64.ofNat nc)), .second, .val (.long (Int64.ofNat ne)), .second, .val (.double rq_31), .second, .val (.double rq_33), .second, .val (.long (Int64.ofNat (nb * nc))), .second, .val (.long (Int64.ofNat (ne * na))), .second, .val (.int (Int32.ofNat kk)), .val (.long (Int64.ofNat (2 ^ kk))), .second, .val (.long (Int64.ofNat dd)), .second, .unset, .unset, .unset, .unset] [(.long (Int64.ofNat (2 ^ kk)))])
                  refine go_st (fun _ kq => XT.lload X33.here hx rfl (hb hby at_458) rfl kq) ?_
                  show Go p e below s _ _ _ T33 (mkF m 460 #[.val (.long x0), .second, .val (.long x1), .second, .val (.long x2), .second, .val (.long x3), .second, .val (.int x4), .val (.long x5), .second, .val (.int (1 : Int32)), .val (.long (Int64.ofNat nu)), .second, .val (.long (Int64.ofNat nd)), .second, .val (.double rq_28), .second, .val (.long (Int64.ofNat na)), .second, .val (.long (Int64.ofNat nb)), .second, .val (.long (Int64.ofNat nc)), .second, .val (.long (Int64.ofNat ne)), .second, .val (.double rq_31), .second, .val (.double rq_33), .second, .val (.long (Int64.ofNat (nb * nc))), .second, .val (.long (Int64.ofNat (ne * na))), .second, .val (.int (Int32.ofNat kk)), .val (.long (Int64.ofNat (2 ^ kk))), .second, .val (.long (Int64.ofNat dd)), .second, .unset, .unset, .unset, .unset] [(.long (Int64.ofNat dd)), (.long (Int64.ofNat (2 ^ kk)))])
                  refine go_st (fun _ kq => XT.lsub X33.here hx rfl (hb hby at_460) rfl kq) ?_
                  show Go p e below s _ _ _ T33 (mkF m 461 #[.val (.long x0), .second, .val (.long x1), .second, .val (.long x2), .second, .val (.long x3), .second, .val (.int x4), .val (.long x5), .second, .val (.int (1 : Int32)), .val (.long (Int64.ofNat nu)), .second, .val (.long (Int64.ofNat nd)), .second, .val (.double rq_28), .second, .val (.long (Int64.ofNat na)), .second, .val (.long (Int64.ofNat nb)), .second, .val (.long (Int64.ofNat nc)), .second, .val (.long (Int64.ofNat ne)), .second, .val (.double rq_31), .second, .val (.double rq_33), .second, .val (.long (Int64.ofNat (nb * nc))), .second, .val (.long (Int64.ofNat (ne * na))), .second, .val (.int (Int32.ofNat kk)), .val (.long (Int64.ofNat (2 ^ kk))), .second, .val (.long (Int64.ofNat dd)), .second, .unset, .unset, .unset, .unset] [(.long ((Int64.ofNat (2 ^ kk)) - (Int64.ofNat dd)))])
                  refine go_st (fun _ kq => XT.lstore X33.here hx rfl (hb hby at_461) rfl (l' := #[.val (.long x0), .second, .val (.long x1), .second, .val (.long x2), .second, .val (.long x3), .second, .val (.int x4), .val (.long x5), .second, .val (.int (1 : Int32)), .val (.long (Int64.ofNat nu)), .second, .val (.long (Int64.ofNat nd)), .second, .val (.double rq_28), .second, .val (.long (Int64.ofNat na)), .second, .val (.long (Int64.ofNat nb)), .second, .val (.long (Int64.ofNat nc)), .second, .val (.long (Int64.ofNat ne)), .second, .val (.double rq_31), .second, .val (.double rq_33), .second, .val (.long (Int64.ofNat (nb * nc))), .second, .val (.long (Int64.ofNat (ne * na))), .second, .val (.int (Int32.ofNat kk)), .val (.long (Int64.ofNat (2 ^ kk))), .second, .val (.long (Int64.ofNat dd)), .second, .val (.long ((Int64.ofNat (2 ^ kk)) - (Int64.ofNat dd))), .second, .unset, .unset]) rfl kq) ?_
                  show Go p e below s _ _ _ T33 (mkF m 463 #[.val (.long x0), .second, .val (.long x1), .second, .val (.long x2), .second, .val (.long x3), .second, .val (.int x4), .val (.long x5), .second, .val (.int (1 : Int32)), .val (.long (Int64.ofNat nu)), .second, .val (.long (Int64.ofNat nd)), .second, .val (.double rq_28), .second, .val (.long (Int64.ofNat na)), .second, .val (.long (Int64.ofNat nb)), .second, .val (.long (Int64.ofNat nc)), .second, .val (.long (Int64.ofNat ne)), .second, .val (.double rq_31), .second, .val (.double rq_33), .second, .val (.long (Int64.ofNat (nb * nc))), .second, .val (.long (Int64.ofNat (ne * na))), .second, .val (.int (Int32.ofNat kk)), .val (.long (Int64.ofNat (2 ^ kk))), .second, .val (.long (Int64.ofNat dd)), .second, .val (.long ((Int64.ofNat (2 ^ kk)) - (Int64.ofNat dd))), .second, .unset, .unset] [])
                  rw [own_subL (n := 2 ^ kk) (m := dd) hdd hp2]
                  show Go p e below s _ _ _ T33 (mkF m 463 #[.val (.long x0), .second, .val (.long x1), .second, .val (.long x2), .second, .val (.long x3), .second, .val (.int x4), .val (.long x5), .second, .val (.int (1 : Int32)), .val (.long (Int64.ofNat nu)), .second, .val (.long (Int64.ofNat nd)), .second, .val (.double rq_28), .second, .val (.long (Int64.ofNat na)), .second, .val (.long (Int64.ofNat nb)), .second, .val (.long (Int64.ofNat nc)), .second, .val (.long (Int64.ofNat ne)), .second, .val (.double rq_31), .second, .val (.double rq_33), .second, .val (.long (Int64.ofNat (nb * nc))), .second, .val (.long (Int64.ofNat (ne * na))), .second, .val (.int (Int32.ofNat kk)), .val (.long (Int64.ofNat (2 ^ kk))), .second, .val (.long (Int64.ofNat dd)), .second, .val (.long (Int64.ofNat (2 ^ kk - dd))), .second, .unset, .unset] [])
                  refine go_st (fun _ kq => XT.lload X33.here hx rfl (hb hby at_463) rfl kq) ?_
                  show Go p e below s _ _ _ T33 (mkF m 465 #[.val (.long x0), .second, .val (.long x1), .second, .val (.long x2), .second, .val (.long x3), .second, .val (.int x4), .val (.long x5), .second, .val (.int (1 : Int32)), .val (.long (Int64.ofNat nu)), .second, .val (.long (Int64.ofNat nd)), .second, .val (.double rq_28), .second, .val (.long (Int64.ofNat na)), .second, .val (.long (Int64.ofNat nb)), .second, .val (.long (Int64.ofNat nc)), .second, .val (.long (Int64.ofNat ne)), .second, .val (.double rq_31), .second, .val (.double rq_33), .second, .val (.long (Int64.ofNat (nb * nc))), .second, .val (.long (Int64.ofNat (ne * na))), .second, .val (.int (Int32.ofNat kk)), .val (.long (Int64.ofNat (2 ^ kk))), .second, .val (.long (Int64.ofNat dd)), .second, .val (.long (Int64.ofNat (2 ^ kk - dd))), .second, .unset, .unset] [(.long (Int64.ofNat (2 ^ kk - dd)))])
                  refine go_st (fun _ kq => XT.lload X33.here hx rfl (hb hby at_465) rfl kq) ?_
                  show Go p e below s _ _ _ T33 (mkF m 467 #[.val (.long x0), .second, .val (.long x1), .second, .val (.long x2), .second, .val (.long x3), .second, .val (.int x4), .val (.long x5), .second, .val (.int (1 : Int32)), .val (.long (Int64.ofNat nu)), .second, .val (.long (Int64.ofNat nd)), .second, .val (.double rq_28), .second, .val (.long (Int64.ofNat na)), .second, .val (.long (Int64.ofNat nb)), .second, .val (.long (Int64.ofNat nc)), .second, .val (.long (Int64.ofNat ne)), .second, .val (.double rq_31), .second, .val (.double rq_33), .second, .val (.long (Int64.ofNat (nb * nc))), .second, .val (.long (Int64.ofNat (ne * na))), .second, .val (.int (Int32.ofNat kk)), .val (.long (Int64.ofNat (2 ^ kk))), .second, .val (.long (Int64.ofNat dd)), .second, .val (.long (Int64.ofNat (2 ^ kk - dd))), .second, .unset, .unset] [(.long (Int64.ofNat dd)), (.long (Int64.ofNat (2 ^ kk - dd)))])
                  have z40 : n0 ≤ T33.heap.size := Nat.le_trans z34 K33.1
                  refine go_callS X33 hx hZ hml hown (hw _ (List.mem_of_getElem? (i := 1) rfl)) (hw _ (List.mem_of_getElem? (i := 2) rfl)) (hw _ (List.mem_of_getElem? (i := 3) rfl)) (hw _ (List.mem_of_getElem? (i := 4) rfl)) rfl (argsL := [(.long (Int64.ofNat (2 ^ kk - dd))), (.long (Int64.ofNat dd))]) (rest := []) (W := 0) (met_shr l Z a0 hw (2 ^ kk - dd) dd T33.heap n0 z40 (by omega) (by omega) (by omega)) (hb hby at_467) rfl rfl rfl (lenOf pd3 rfl) (by show 2 * 0 + _ ≤ _; exact Nat.le_of_eq rfl) (by decide) (by decide) (by decide) (by decide) (by decide) ?_
                  intro T39 v39 L39 X39 q39
                  obtain ⟨rq_39, rfl, M39, K39, p39_0⟩ := q39
                  have N39 := Fr.app N33 M39
                  show Go p e below s _ _ _ T39 (mkF m 470 #[.val (.long x0), .second, .val (.long x1), .second, .val (.long x2), .second, .val (.long x3), .second, .val (.int x4), .val (.long x5), .second, .val (.int (1 : Int32)), .val (.long (Int64.ofNat nu)), .second, .val (.long (Int64.ofNat nd)), .second, .val (.double rq_28), .second, .val (.long (Int64.ofNat na)), .second, .val (.long (Int64.ofNat nb)), .second, .val (.long (Int64.ofNat nc)), .second, .val (.long (Int64.ofNat ne)), .second, .val (.double rq_31), .second, .val (.double rq_33), .second, .val (.long (Int64.ofNat (nb * nc))), .second, .val (.long (Int64.ofNat (ne * na))), .second, .val (.int (Int32.ofNat kk)), .val (.long (Int64.ofNat (2 ^ kk))), .second, .val (.long (Int64.ofNat dd)), .second, .val (.long (Int64.ofNat (2 ^ kk - dd))), .second, .unset, .unset] [(.double rq_39)])
                  refine go_st (fun _ kq => XS.dstore X39.here hx rfl (hb hby at_470) rfl (l' := #[.val (.long x0), .second, .val (.long x1), .second, .val (.long x2), .second, .val (.long x3), .second, .val (.int x4), .val (.long x5), .second, .val (.int (1 : Int32)), .val (.long (Int64.ofNat nu)), .second, .val (.long (Int64.ofNat nd)), .second, .val (.double rq_28), .second, .val (.long (Int64.ofNat na)), .second, .val (.long (Int64.ofNat nb)), .second, .val (.long (Int64.ofNat nc)), .second, .val (.long (Int64.ofNat ne)), .second, .val (.double rq_31), .second, .val (.double rq_33), .second, .val (.long (Int64.ofNat (nb * nc))), .second, .val (.long (Int64.ofNat (ne * na))), .second, .val (.int (Int32.ofNat kk)), .val (.long (Int64.ofNat (2 ^ kk))), .second, .val (.long (Int64.ofNat dd)), .second, .val (.long (Int64.ofNat (2 ^ kk - dd))), .second, .val (.double rq_39), .second]) rfl kq) ?_
                  show Go p e below s _ _ _ T39 (mkF m 472 #[.val (.long x0), .second, .val (.long x1), .second, .val (.long x2), .second, .val (.long x3), .second, .val (.int x4), .val (.long x5), .second, .val (.int (1 : Int32)), .val (.long (Int64.ofNat nu)), .second, .val (.long (Int64.ofNat nd)), .second, .val (.double rq_28), .second, .val (.long (Int64.ofNat na)), .second, .val (.long (Int64.ofNat nb)), .second, .val (.long (Int64.ofNat nc)), .second, .val (.long (Int64.ofNat ne)), .second, .val (.double rq_31), .second, .val (.double rq_33), .second, .val (.long (Int64.ofNat (nb * nc))), .second, .val (.long (Int64.ofNat (ne * na))), .second, .val (.int (Int32.ofNat kk)), .val (.long (Int64.ofNat (2 ^ kk))), .second, .val (.long (Int64.ofNat dd)), .second, .val (.long (Int64.ofNat (2 ^ kk - dd))), .second, .val (.double rq_39), .second] [])
                  have dyr := own_fc hkk hdd p39_0
                  refine go_st (fun _ kq => XS.iload X39.here hx rfl (hb hby at_472) rfl kq) ?_
                  show Go p e below s _ _ _ T39 (mkF m 474 #[.val (.long x0), .second, .val (.long x1), .second, .val (.long x2), .second, .val (.long x3), .second, .val (.int x4), .val (.long x5), .second, .val (.int (1 : Int32)), .val (.long (Int64.ofNat nu)), .second, .val (.long (Int64.ofNat nd)), .second, .val (.double rq_28), .second, .val (.long (Int64.ofNat na)), .second, .val (.long (Int64.ofNat nb)), .second, .val (.long (Int64.ofNat nc)), .second, .val (.long (Int64.ofNat ne)), .second, .val (.double rq_31), .second, .val (.double rq_33), .second, .val (.long (Int64.ofNat (nb * nc))), .second, .val (.long (Int64.ofNat (ne * na))), .second, .val (.int (Int32.ofNat kk)), .val (.long (Int64.ofNat (2 ^ kk))), .second, .val (.long (Int64.ofNat dd)), .second, .val (.long (Int64.ofNat (2 ^ kk - dd))), .second, .val (.double rq_39), .second] [(.int (1 : Int32))])
                  refine go_st (fun _ kq => XS.ifNo X39.here hx rfl (hb hby at_474) rfl (XT.i0_eq_f (by decide)) kq) ?_
                  show Go p e below s _ _ _ T39 (mkF m 477 #[.val (.long x0), .second, .val (.long x1), .second, .val (.long x2), .second, .val (.long x3), .second, .val (.int x4), .val (.long x5), .second, .val (.int (1 : Int32)), .val (.long (Int64.ofNat nu)), .second, .val (.long (Int64.ofNat nd)), .second, .val (.double rq_28), .second, .val (.long (Int64.ofNat na)), .second, .val (.long (Int64.ofNat nb)), .second, .val (.long (Int64.ofNat nc)), .second, .val (.long (Int64.ofNat ne)), .second, .val (.double rq_31), .second, .val (.double rq_33), .second, .val (.long (Int64.ofNat (nb * nc))), .second, .val (.long (Int64.ofNat (ne * na))), .second, .val (.int (Int32.ofNat kk)), .val (.long (Int64.ofNat (2 ^ kk))), .second, .val (.long (Int64.ofNat dd)), .second, .val (.long (Int64.ofNat (2 ^ kk - dd))), .second, .val (.double rq_39), .second] [])
                  refine go_st (fun _ kq => XS.dload X39.here hx rfl (hb hby at_477) rfl kq) ?_
                  show Go p e below s _ _ _ T39 (mkF m 479 #[.val (.long x0), .second, .val (.long x1), .second, .val (.long x2), .second, .val (.long x3), .second, .val (.int x4), .val (.long x5), .second, .val (.int (1 : Int32)), .val (.long (Int64.ofNat nu)), .second, .val (.long (Int64.ofNat nd)), .second, .val (.double rq_28), .second, .val (.long (Int64.ofNat na)), .second, .val (.long (Int64.ofNat nb)), .second, .val (.long (Int64.ofNat nc)), .second, .val (.long (Int64.ofNat ne)), .second, .val (.double rq_31), .second, .val (.double rq_33), .second, .val (.long (Int64.ofNat (nb * nc))), .second, .val (.long (Int64.ofNat (ne * na))), .second, .val (.int (Int32.ofNat kk)), .val (.long (Int64.ofNat (2 ^ kk))), .second, .val (.long (Int64.ofNat dd)), .second, .val (.long (Int64.ofNat (2 ^ kk - dd))), .second, .val (.double rq_39), .second] [(.double rq_39)])
                  refine go_st (fun _ kq => XT.lload X39.here hx rfl (hb hby at_479) rfl kq) ?_
                  show Go p e below s _ _ _ T39 (mkF m 481 #[.val (.long x0), .second, .val (.long x1), .second, .val (.long x2), .second, .val (.long x3), .second, .val (.int x4), .val (.long x5), .second, .val (.int (1 : Int32)), .val (.long (Int64.ofNat nu)), .second, .val (.long (Int64.ofNat nd)), .second, .val (.double rq_28), .second, .val (.long (Int64.ofNat na)), .second, .val (.long (Int64.ofNat nb)), .second, .val (.long (Int64.ofNat nc)), .second, .val (.long (Int64.ofNat ne)), .second, .val (.double rq_31), .second, .val (.double rq_33), .second, .val (.long (Int64.ofNat (nb * nc))), .second, .val (.long (Int64.ofNat (ne * na))), .second, .val (.int (Int32.ofNat kk)), .val (.long (Int64.ofNat (2 ^ kk))), .second, .val (.long (Int64.ofNat dd)), .second, .val (.long (Int64.ofNat (2 ^ kk - dd))), .second, .val (.double rq_39), .second] [(.long (Int64.ofNat (2 ^ kk))), (.double rq_39)])
                  refine go_st (fun _ kq => XS.l2dS X39.here hx rfl (hb hby at_481) rfl rfl kq) ?_
                  show Go p e below s _ _ _ T39 (mkF m 482 #[.val (.long x0), .second, .val (.long x1), .second, .val (.long x2), .second, .val (.long x3), .second, .val (.int x4), .val (.long x5), .second, .val (.int (1 : Int32)), .val (.long (Int64.ofNat nu)), .second, .val (.long (Int64.ofNat nd)), .second, .val (.double rq_28), .second, .val (.long (Int64.ofNat na)), .second, .val (.long (Int64.ofNat nb)), .second, .val (.long (Int64.ofNat nc)), .second, .val (.long (Int64.ofNat ne)), .second, .val (.double rq_31), .second, .val (.double rq_33), .second, .val (.long (Int64.ofNat (nb * nc))), .second, .val (.long (Int64.ofNat (ne * na))), .second, .val (.int (Int32.ofNat kk)), .val (.long (Int64.ofNat (2 ^ kk))), .second, .val (.long (Int64.ofNat dd)), .second, .val (.long (Int64.ofNat (2 ^ kk - dd))), .second, .val (.double rq_39), .second] [(.double (FP.l2d (Int64.ofNat (2 ^ kk)))), (.double rq_39)])
                  refine go_st (fun _ kq => XS.dmulS X39.here hx rfl (hb hby at_482) rfl (own_nan64 (own_fd hkk hdd dyr).fin) rfl kq) ?_
                  show Go p e below s _ _ _ T39 (mkF m 483 #[.val (.long x0), .second, .val (.long x1), .second, .val (.long x2), .second, .val (.long x3), .second, .val (.int x4), .val (.long x5), .second, .val (.int (1 : Int32)), .val (.long (Int64.ofNat nu)), .second, .val (.long (Int64.ofNat nd)), .second, .val (.double rq_28), .second, .val (.long (Int64.ofNat na)), .second, .val (.long (Int64.ofNat nb)), .second, .val (.long (Int64.ofNat nc)), .second, .val (.long (Int64.ofNat ne)), .second, .val (.double rq_31), .second, .val (.double rq_33), .second, .val (.long (Int64.ofNat (nb * nc))), .second, .val (.long (Int64.ofNat (ne * na))), .second, .val (.int (Int32.ofNat kk)), .val (.long (Int64.ofNat (2 ^ kk))), .second, .val (.long (Int64.ofNat dd)), .second, .val (.long (Int64.ofNat (2 ^ kk - dd))), .second, .val (.double rq_39), .second] [(.double (FP.dmul rq_39 (FP.l2d (Int64.ofNat (2 ^ kk)))))])
                  refine go_st (fun _ kq => XT.lload X39.here hx rfl (hb hby at_483) rfl kq) ?_
                  show Go p e below s _ _ _ T39 (mkF m 485 #[.val (.long x0), .second, .val (.long x1), .second, .val (.long x2), .second, .val (.long x3), .second, .val (.int x4), .val (.long x5), .second, .val (.int (1 : Int32)), .val (.long (Int64.ofNat nu)), .second, .val (.long (Int64.ofNat nd)), .second, .val (.double rq_28), .second, .val (.long (Int64.ofNat na)), .second, .val (.long (Int64.ofNat nb)), .second, .val (.long (Int64.ofNat nc)), .second, .val (.long (Int64.ofNat ne)), .second, .val (.double rq_31), .second, .val (.double rq_33), .second, .val (.long (Int64.ofNat (nb * nc))), .second, .val (.long (Int64.ofNat (ne * na))), .second, .val (.int (Int32.ofNat kk)), .val (.long (Int64.ofNat (2 ^ kk))), .second, .val (.long (Int64.ofNat dd)), .second, .val (.long (Int64.ofNat (2 ^ kk - dd))), .second, .val (.double rq_39), .second] [(.long (Int64.ofNat dd)), (.double (FP.dmul rq_39 (FP.l2d (Int64.ofNat (2 ^ kk)))))])
                  refine go_st (fun _ kq => XS.l2dS X39.here hx rfl (hb hby at_485) rfl rfl kq) ?_
                  show Go p e below s _ _ _ T39 (mkF m 486 #[.val (.long x0), .second, .val (.long x1), .second, .val (.long x2), .second, .val (.long x3), .second, .val (.int x4), .val (.long x5), .second, .val (.int (1 : Int32)), .val (.long (Int64.ofNat nu)), .second, .val (.long (Int64.ofNat nd)), .second, .val (.double rq_28), .second, .val (.long (Int64.ofNat na)), .second, .val (.long (Int64.ofNat nb)), .second, .val (.long (Int64.ofNat nc)), .second, .val (.long (Int64.ofNat ne)), .second, .val (.double rq_31), .second, .val (.double rq_33), .second, .val (.long (Int64.ofNat (nb * nc))), .second, .val (.long (Int64.ofNat (ne * na))), .second, .val (.int (Int32.ofNat kk)), .val (.long (Int64.ofNat (2 ^ kk))), .second, .val (.long (Int64.ofNat dd)), .second, .val (.long (Int64.ofNat (2 ^ kk - dd))), .second, .val (.double rq_39), .second] [(.double (FP.l2d (Int64.ofNat dd))), (.double (FP.dmul rq_39 (FP.l2d (Int64.ofNat (2 ^ kk)))))])
                  refine go_st (fun _ kq => XS.dcmpS X39.here hx rfl (hb hby at_486) rfl rfl kq) ?_
                  show Go p e below s _ _ _ T39 (mkF m 487 #[.val (.long x0), .second, .val (.long x1), .second, .val (.long x2), .second, .val (.long x3), .second, .val (.int x4), .val (.long x5), .second, .val (.int (1 : Int32)), .val (.long (Int64.ofNat nu)), .second, .val (.long (Int64.ofNat nd)), .second, .val (.double rq_28), .second, .val (.long (Int64.ofNat na)), .second, .val (.long (Int64.ofNat nb)), .second, .val (.long (Int64.ofNat nc)), .second, .val (.long (Int64.ofNat ne)), .second, .val (.double rq_31), .second, .val (.double rq_33), .second, .val (.long (Int64.ofNat (nb * nc))), .second, .val (.long (Int64.ofNat (ne * na))), .second, .val (.int (Int32.ofNat kk)), .val (.long (Int64.ofNat (2 ^ kk))), .second, .val (.long (Int64.ofNat dd)), .second, .val (.long (Int64.ofNat (2 ^ kk - dd))), .second, .val (.double rq_39), .second] [(.int (cmpValue (FP.dcmp (FP.dmul rq_39 (FP.l2d (Int64.ofNat (2 ^ kk)))) (FP.l2d (Int64.ofNat dd))) .l))])
                  have hb41 : (cmpValue (FP.dcmp (FP.dmul rq_39 (FP.l2d (Int64.ofNat (2 ^ kk)))) (FP.l2d (Int64.ofNat dd))) .l) = (0 : Int32) := by rw [show FP.dcmp (FP.dmul rq_39 (FP.l2d (Int64.ofNat (2 ^ kk)))) (FP.l2d (Int64.ofNat dd)) = some .eq from own_cmp_eq (own_fd hkk hdd dyr) (Dy.of_l2d (own_on64 (by omega)) (by omega)) rfl]; rfl
                  refine go_st (fun _ kq => XS.ifNo X39.here hx rfl (hb hby at_487) rfl (XT.i0_ne_f hb41) kq) ?_
                  show Go p e below s _ _ _ T39 (mkF m 490 #[.val (.long x0), .second, .val (.long x1), .second, .val (.long x2), .second, .val (.long x3), .second, .val (.int x4), .val (.long x5), .second, .val (.int (1 : Int32)), .val (.long (Int64.ofNat nu)), .second, .val (.long (Int64.ofNat nd)), .second, .val (.double rq_28), .second, .val (.long (Int64.ofNat na)), .second, .val (.long (Int64.ofNat nb)), .second, .val (.long (Int64.ofNat nc)), .second, .val (.long (Int64.ofNat ne)), .second, .val (.double rq_31), .second, .val (.double rq_33), .second, .val (.long (Int64.ofNat (nb * nc))), .second, .val (.long (Int64.ofNat (ne * na))), .second, .val (.int (Int32.ofNat kk)), .val (.long (Int64.ofNat (2 ^ kk))), .second, .val (.long (Int64.ofNat dd)), .second, .val (.long (Int64.ofNat (2 ^ kk - dd))), .second, .val (.double rq_39), .second] [])
                  refine go_st (fun _ kq => XT.iconstV X39.here hx rfl (1 : Int32) (hb hby at_490) (by decide) kq) ?_
                  show Go p e below s _ _ _ T39 (mkF m 491 #[.val (.long x0), .second, .val (.long x1), .second, .val (.long x2), .second, .val (.long x3), .second, .val (.int x4), .val (.long x5), .second, .val (.int (1 : Int32)), .val (.long (Int64.ofNat nu)), .second, .val (.long (Int64.ofNat nd)), .second, .val (.double rq_28), .second, .val (.long (Int64.ofNat na)), .second, .val (.long (Int64.ofNat nb)), .second, .val (.long (Int64.ofNat nc)), .second, .val (.long (Int64.ofNat ne)), .second, .val (.double rq_31), .second, .val (.double rq_33), .second, .val (.long (Int64.ofNat (nb * nc))), .second, .val (.long (Int64.ofNat (ne * na))), .second, .val (.int (Int32.ofNat kk)), .val (.long (Int64.ofNat (2 ^ kk))), .second, .val (.long (Int64.ofNat dd)), .second, .val (.long (Int64.ofNat (2 ^ kk - dd))), .second, .val (.double rq_39), .second] [(.int (1 : Int32))])
                  refine go_st (fun _ kq => XS.goto X39.here hx rfl (pc0 := 491) (pc' := 495) rfl (hb hby at_491) (by decide) (by decide) kq) ?_
                  show Go p e below s _ _ _ T39 (mkF m 495 #[.val (.long x0), .second, .val (.long x1), .second, .val (.long x2), .second, .val (.long x3), .second, .val (.int x4), .val (.long x5), .second, .val (.int (1 : Int32)), .val (.long (Int64.ofNat nu)), .second, .val (.long (Int64.ofNat nd)), .second, .val (.double rq_28), .second, .val (.long (Int64.ofNat na)), .second, .val (.long (Int64.ofNat nb)), .second, .val (.long (Int64.ofNat nc)), .second, .val (.long (Int64.ofNat ne)), .second, .val (.double rq_31), .second, .val (.double rq_33), .second, .val (.long (Int64.ofNat (nb * nc))), .second, .val (.long (Int64.ofNat (ne * na))), .second, .val (.int (Int32.ofNat kk)), .val (.long (Int64.ofNat (2 ^ kk))), .second, .val (.long (Int64.ofNat dd)), .second, .val (.long (Int64.ofNat (2 ^ kk - dd))), .second, .val (.double rq_39), .second] [(.int (1 : Int32))])
                  refine go_st (fun _ kq => XS.istore X39.here hx rfl (hb hby at_495) rfl (l' := #[.val (.long x0), .second, .val (.long x1), .second, .val (.long x2), .second, .val (.long x3), .second, .val (.int x4), .val (.long x5), .second, .val (.int (1 : Int32)), .val (.long (Int64.ofNat nu)), .second, .val (.long (Int64.ofNat nd)), .second, .val (.double rq_28), .second, .val (.long (Int64.ofNat na)), .second, .val (.long (Int64.ofNat nb)), .second, .val (.long (Int64.ofNat nc)), .second, .val (.long (Int64.ofNat ne)), .second, .val (.double rq_31), .second, .val (.double rq_33), .second, .val (.long (Int64.ofNat (nb * nc))), .second, .val (.long (Int64.ofNat (ne * na))), .second, .val (.int (Int32.ofNat kk)), .val (.long (Int64.ofNat (2 ^ kk))), .second, .val (.long (Int64.ofNat dd)), .second, .val (.long (Int64.ofNat (2 ^ kk - dd))), .second, .val (.double rq_39), .second]) rfl kq) ?_
                  show Go p e below s _ _ _ T39 (mkF m 497 #[.val (.long x0), .second, .val (.long x1), .second, .val (.long x2), .second, .val (.long x3), .second, .val (.int x4), .val (.long x5), .second, .val (.int (1 : Int32)), .val (.long (Int64.ofNat nu)), .second, .val (.long (Int64.ofNat nd)), .second, .val (.double rq_28), .second, .val (.long (Int64.ofNat na)), .second, .val (.long (Int64.ofNat nb)), .second, .val (.long (Int64.ofNat nc)), .second, .val (.long (Int64.ofNat ne)), .second, .val (.double rq_31), .second, .val (.double rq_33), .second, .val (.long (Int64.ofNat (nb * nc))), .second, .val (.long (Int64.ofNat (ne * na))), .second, .val (.int (Int32.ofNat kk)), .val (.long (Int64.ofNat (2 ^ kk))), .second, .val (.long (Int64.ofNat dd)), .second, .val (.long (Int64.ofNat (2 ^ kk - dd))), .second, .val (.double rq_39), .second] [])
                  refine go_st (fun _ kq => XS.iload X39.here hx rfl (hb hby at_497) rfl kq) ?_
                  show Go p e below s _ _ _ T39 (mkF m 499 #[.val (.long x0), .second, .val (.long x1), .second, .val (.long x2), .second, .val (.long x3), .second, .val (.int x4), .val (.long x5), .second, .val (.int (1 : Int32)), .val (.long (Int64.ofNat nu)), .second, .val (.long (Int64.ofNat nd)), .second, .val (.double rq_28), .second, .val (.long (Int64.ofNat na)), .second, .val (.long (Int64.ofNat nb)), .second, .val (.long (Int64.ofNat nc)), .second, .val (.long (Int64.ofNat ne)), .second, .val (.double rq_31), .second, .val (.double rq_33), .second, .val (.long (Int64.ofNat (nb * nc))), .second, .val (.long (Int64.ofNat (ne * na))), .second, .val (.int (Int32.ofNat kk)), .val (.long (Int64.ofNat (2 ^ kk))), .second, .val (.long (Int64.ofNat dd)), .second, .val (.long (Int64.ofNat (2 ^ kk - dd))), .second, .val (.double rq_39), .second] [(.int (1 : Int32))])
                  exact go_retB (w := (1 : Int32)) X39 hx hlk hret (hb hby at_499) (by decide) (by decide) (by decide) ⟨rfl, N39⟩
                show Go p e below s _ _ _ T33 (mkF m 348 #[.val (.long x0), .second, .val (.long x1), .second, .val (.long x2), .second, .val (.long x3), .second, .val (.int x4), .val (.long x5), .second, .val (.int (1 : Int32)), .val (.long (Int64.ofNat nu)), .second, .val (.long (Int64.ofNat nd)), .second, .val (.double rq_28), .second, .val (.long (Int64.ofNat na)), .second, .val (.long (Int64.ofNat nb)), .second, .val (.long (Int64.ofNat nc)), .second, .val (.long (Int64.ofNat ne)), .second, .val (.double rq_31), .second, .val (.double rq_33), .second, .val (.long (Int64.ofNat (nb * nc))), .second, .val (.long (Int64.ofNat (ne * na))), .second, .unset, .unset, .unset, .unset, .unset, .unset, .unset, .unset, .unset] [])
                refine go_st (fun _ kq => XT.lload X33.here hx rfl (hb hby at_348) rfl kq) ?_
                show Go p e below s _ _ _ T33 (mkF m 350 #[.val (.long x0), .second, .val (.long x1), .second, .val (.long x2), .second, .val (.long x3), .second, .val (.int x4), .val (.long x5), .second, .val (.int (1 : Int32)), .val (.long (Int64.ofNat nu)), .second, .val (.long (Int64.ofNat nd)), .second, .val (.double rq_28), .second, .val (.long (Int64.ofNat na)), .second, .val (.long (Int64.ofNat nb)), .second, .val (.long (Int64.ofNat nc)), .second, .val (.long (Int64.ofNat ne)), .second, .val (.double rq_31), .second, .val (.double rq_33), .second, .val (.long (Int64.ofNat (nb * nc))), .second, .val (.long (Int64.ofNat (ne * na))), .second, .unset, .unset, .unset, .unset, .unset, .unset, .unset, .unset, .unset] [(.long (Int64.ofNat (nb * nc)))])
                refine go_st (fun _ kq => XT.lload X33.here hx rfl (hb hby at_350) rfl kq) ?_
                show Go p e below s _ _ _ T33 (mkF m 352 #[.val (.long x0), .second, .val (.long x1), .second, .val (.long x2), .second, .val (.long x3), .second, .val (.int x4), .val (.long x5), .second, .val (.int (1 : Int32)), .val (.long (Int64.ofNat nu)), .second, .val (.long (Int64.ofNat nd)), .second, .val (.double rq_28), .second, .val (.long (Int64.ofNat na)), .second, .val (.long (Int64.ofNat nb)), .second, .val (.long (Int64.ofNat nc)), .second, .val (.long (Int64.ofNat ne)), .second, .val (.double rq_31), .second, .val (.double rq_33), .second, .val (.long (Int64.ofNat (nb * nc))), .second, .val (.long (Int64.ofNat (ne * na))), .second, .unset, .unset, .unset, .unset, .unset, .unset, .unset, .unset, .unset] [(.long (Int64.ofNat (ne * na))), (.long (Int64.ofNat (nb * nc)))])
                refine go_st (fun _ kq => XT.lcmp X33.here hx rfl (hb hby at_352) rfl kq) ?_
                show Go p e below s _ _ _ T33 (mkF m 353 #[.val (.long x0), .second, .val (.long x1), .second, .val (.long x2), .second, .val (.long x3), .second, .val (.int x4), .val (.long x5), .second, .val (.int (1 : Int32)), .val (.long (Int64.ofNat nu)), .second, .val (.long (Int64.ofNat nd)), .second, .val (.double rq_28), .second, .val (.long (Int64.ofNat na)), .second, .val (.long (Int64.ofNat nb)), .second, .val (.long (Int64.ofNat nc)), .second, .val (.long (Int64.ofNat ne)), .second, .val (.double rq_31), .second, .val (.double rq_33), .second, .val (.long (Int64.ofNat (nb * nc))), .second, .val (.long (Int64.ofNat (ne * na))), .second, .unset, .unset, .unset, .unset, .unset, .unset, .unset, .unset, .unset] [(.int (XT.cmpL (Int64.ofNat (nb * nc)) (Int64.ofNat (ne * na))))])
                by_cases hc42 : (Int64.ofNat (nb * nc)) = (Int64.ofNat (ne * na))
                · refine go_st (fun _ kq => XS.ifNo X33.here hx rfl (hb hby at_353) rfl (XT.ll_ne_f hc42) kq) ?_
                  show Go p e below s _ _ _ T33 (mkF m 356 #[.val (.long x0), .second, .val (.long x1), .second, .val (.long x2), .second, .val (.long x3), .second, .val (.int x4), .val (.long x5), .second, .val (.int (1 : Int32)), .val (.long (Int64.ofNat nu)), .second, .val (.long (Int64.ofNat nd)), .second, .val (.double rq_28), .second, .val (.long (Int64.ofNat na)), .second, .val (.long (Int64.ofNat nb)), .second, .val (.long (Int64.ofNat nc)), .second, .val (.long (Int64.ofNat ne)), .second, .val (.double rq_31), .second, .val (.double rq_33), .second, .val (.long (Int64.ofNat (nb * nc))), .second, .val (.long (Int64.ofNat (ne * na))), .second, .unset, .unset, .unset, .unset, .unset, .unset, .unset, .unset, .unset] [])
                  refine go_st (fun _ kq => XS.iload X33.here hx rfl (hb hby at_356) rfl kq) ?_
                  show Go p e below s _ _ _ T33 (mkF m 358 #[.val (.long x0), .second, .val (.long x1), .second, .val (.long x2), .second, .val (.long x3), .second, .val (.int x4), .val (.long x5), .second, .val (.int (1 : Int32)), .val (.long (Int64.ofNat nu)), .second, .val (.long (Int64.ofNat nd)), .second, .val (.double rq_28), .second, .val (.long (Int64.ofNat na)), .second, .val (.long (Int64.ofNat nb)), .second, .val (.long (Int64.ofNat nc)), .second, .val (.long (Int64.ofNat ne)), .second, .val (.double rq_31), .second, .val (.double rq_33), .second, .val (.long (Int64.ofNat (nb * nc))), .second, .val (.long (Int64.ofNat (ne * na))), .second, .unset, .unset, .unset, .unset, .unset, .unset, .unset, .unset, .unset] [(.int (1 : Int32))])
                  refine go_st (fun _ kq => XS.ifNo X33.here hx rfl (hb hby at_358) rfl (XT.i0_eq_f (by decide)) kq) ?_
                  show Go p e below s _ _ _ T33 (mkF m 361 #[.val (.long x0), .second, .val (.long x1), .second, .val (.long x2), .second, .val (.long x3), .second, .val (.int x4), .val (.long x5), .second, .val (.int (1 : Int32)), .val (.long (Int64.ofNat nu)), .second, .val (.long (Int64.ofNat nd)), .second, .val (.double rq_28), .second, .val (.long (Int64.ofNat na)), .second, .val (.long (Int64.ofNat nb)), .second, .val (.long (Int64.ofNat nc)), .second, .val (.long (Int64.ofNat ne)), .second, .val (.double rq_31), .second, .val (.double rq_33), .second, .val (.long (Int64.ofNat (nb * nc))), .second, .val (.long (Int64.ofNat (ne * na))), .second, .unset, .unset, .unset, .unset, .unset, .unset, .unset, .unset, .unset] [])
                  refine go_st (fun _ kq => XS.dload X33.here hx rfl (hb hby at_361) rfl kq) ?_
                  show Go p e below s _ _ _ T33 (mkF m 363 #[.val (.long x0), .second, .val (.long x1), .second, .val (.long x2), .second, .val (.long x3), .second, .val (.int x4), .val (.long x5), .second, .val (.int (1 : Int32)), .val (.long (Int64.ofNat nu)), .second, .val (.long (Int64.ofNat nd)), .second, .val (.double rq_28), .second, .val (.long (Int64.ofNat na)), .second, .val (.long (Int64.ofNat nb)), .second, .val (.long (Int64.ofNat nc)), .second, .val (.long (Int64.ofNat ne)), .second, .val (.double rq_31), .second, .val (.double rq_33), .second, .val (.long (Int64.ofNat (nb * nc))), .second, .val (.long (Int64.ofNat (ne * na))), .second, .unset, .unset, .unset, .unset, .unset, .unset, .unset, .unset, .unset] [(.double rq_31)])
                  refine go_st (fun _ kq => XS.dload X33.here hx rfl (hb hby at_363) rfl kq) ?_
                  show Go p e below s _ _ _ T33 (mkF m 365 #[.val (.long x0), .second, .val (.long x1), .second, .val (.long x2), .second, .val (.long x3), .second, .val (.int x4), .val (.long x5), .second, .val (.int (1 : Int32)), .val (.long (Int64.ofNat nu)), .second, .val (.long (Int64.ofNat nd)), .second, .val (.double rq_28), .second, .val (.long (Int64.ofNat na)), .second, .val (.long (Int64.ofNat nb)), .second, .val (.long (Int64.ofNat nc)), .second, .val (.long (Int64.ofNat ne)), .second, .val (.double rq_31), .second, .val (.double rq_33), .second, .val (.long (Int64.ofNat (nb * nc))), .second, .val (.long (Int64.ofNat (ne * na))), .second, .unset, .unset, .unset, .unset, .unset, .unset, .unset, .unset, .unset] [(.double rq_33), (.double rq_31)])
                  refine go_st (fun _ kq => XS.dcmpS X33.here hx rfl (hb hby at_365) rfl rfl kq) ?_
                  show Go p e below s _ _ _ T33 (mkF m 366 #[.val (.long x0), .second, .val (.long x1), .second, .val (.long x2), .second, .val (.long x3), .second, .val (.int x4), .val (.long x5), .second, .val (.int (1 : Int32)), .val (.long (Int64.ofNat nu)), .second, .val (.long (Int64.ofNat nd)), .second, .val (.double rq_28), .second, .val (.long (Int64.ofNat na)), .second, .val (.long (Int64.ofNat nb)), .second, .val (.long (Int64.ofNat nc)), .second, .val (.long (Int64.ofNat ne)), .second, .val (.double rq_31), .second, .val (.double rq_33), .second, .val (.long (Int64.ofNat (nb * nc))), .second, .val (.long (Int64.ofNat (ne * na))), .second, .unset, .unset, .unset, .unset, .unset, .unset, .unset, .unset, .unset] [(.int (cmpValue (FP.dcmp rq_31 rq_33) .l))])
                  have hb43 : (cmpValue (FP.dcmp rq_31 rq_33) .l) = (0 : Int32) := by rw [show FP.dcmp rq_31 rq_33 = _ from VZ.cmp vy vz]; exact own_cl_eq (by exact o1 (own_eqL (by omega) (by omega) hc42))
                  refine go_st (fun _ kq => XS.ifNo X33.here hx rfl (hb hby at_366) rfl (XT.i0_ne_f hb43) kq) ?_
                  show Go p e below s _ _ _ T33 (mkF m 369 #[.val (.long x0), .second, .val (.long x1), .second, .val (.long x2), .second, .val (.long x3), .second, .val (.int x4), .val (.long x5), .second, .val (.int (1 : Int32)), .val (.long (Int64.ofNat nu)), .second, .val (.long (Int64.ofNat nd)), .second, .val (.double rq_28), .second, .val (.long (Int64.ofNat na)), .second, .val (.long (Int64.ofNat nb)), .second, .val (.long (Int64.ofNat nc)), .second, .val (.long (Int64.ofNat ne)), .second, .val (.double rq_31), .second, .val (.double rq_33), .second, .val (.long (Int64.ofNat (nb * nc))), .second, .val (.long (Int64.ofNat (ne * na))), .second, .unset, .unset, .unset, .unset, .unset, .unset, .unset, .unset, .unset] [])
                  refine go_st (fun _ kq => XT.iconstV X33.here hx rfl (1 : Int32) (hb hby at_369) (by decide) kq) ?_
                  show Go p e below s _ _ _ T33 (mkF m 370 #[.val (.long x0), .second, .val (.long x1), .second, .val (.long x2), .second, .val (.long x3), .second, .val (.int x4), .val (.long x5), .second, .val (.int (1 : Int32)), .val (.long (Int64.ofNat nu)), .second, .val (.long (Int64.ofNat nd)), .second, .val (.double rq_28), .second, .val (.long (Int64.ofNat na)), .second, .val (.long (Int64.ofNat nb)), .second, .val (.long (Int64.ofNat nc)), .second, .val (.long (Int64.ofNat ne)), .second, .val (.double rq_31), .second, .val (.double rq_33), .second, .val (.long (Int64.ofNat (nb * nc))), .second, .val (.long (Int64.ofNat (ne * na))), .second, .unset, .unset, .unset, .unset, .unset, .unset, .unset, .unset, .unset] [(.int (1 : Int32))])
                  refine go_st (fun _ kq => XS.goto X33.here hx rfl (pc0 := 370) (pc' := 374) rfl (hb hby at_370) (by decide) (by decide) kq) ?_
                  show Go p e below s _ _ _ T33 (mkF m 374 #[.val (.long x0), .second, .val (.long x1), .second, .val (.long x2), .second, .val (.long x3), .second, .val (.int x4), .val (.long x5), .second, .val (.int (1 : Int32)), .val (.long (Int64.ofNat nu)), .second, .val (.long (Int64.ofNat nd)), .second, .val (.double rq_28), .second, .val (.long (Int64.ofNat na)), .second, .val (.long (Int64.ofNat nb)), .second, .val (.long (Int64.ofNat nc)), .second, .val (.long (Int64.ofNat ne)), .second, .val (.double rq_31), .second, .val (.double rq_33), .second, .val (.long (Int64.ofNat (nb * nc))), .second, .val (.long (Int64.ofNat (ne * na))), .second, .unset, .unset, .unset, .unset, .unset, .unset, .unset, .unset, .unset] [(.int (1 : Int32))])
                  refine go_st (fun _ kq => XS.istore X33.here hx rfl (hb hby at_374) rfl (l' := #[.val (.long x0), .second, .val (.long x1), .second, .val (.long x2), .second, .val (.long x3), .second, .val (.int x4), .val (.long x5), .second, .val (.int (1 : Int32)), .val (.long (Int64.ofNat nu)), .second, .val (.long (Int64.ofNat nd)), .second, .val (.double rq_28), .second, .val (.long (Int64.ofNat na)), .second, .val (.long (Int64.ofNat nb)), .second, .val (.long (Int64.ofNat nc)), .second, .val (.long (Int64.ofNat ne)), .second, .val (.double rq_31), .second, .val (.double rq_33), .second, .val (.long (Int64.ofNat (nb * nc))), .second, .val (.long (Int64.ofNat (ne * na))), .second, .unset, .unset, .unset, .unset, .unset, .unset, .unset, .unset, .unset]) rfl kq) ?_
                  show Go p e below s _ _ _ T33 (mkF m 376 #[.val (.long x0), .second, .val (.long x1), .second, .val (.long x2), .second, .val (.long x3), .second, .val (.int x4), .val (.long x5), .second, .val (.int (1 : Int32)), .val (.long (Int64.ofNat nu)), .second, .val (.long (Int64.ofNat nd)), .second, .val (.double rq_28), .second, .val (.long (Int64.ofNat na)), .second, .val (.long (Int64.ofNat nb)), .second, .val (.long (Int64.ofNat nc)), .second, .val (.long (Int64.ofNat ne)), .second, .val (.double rq_31), .second, .val (.double rq_33), .second, .val (.long (Int64.ofNat (nb * nc))), .second, .val (.long (Int64.ofNat (ne * na))), .second, .unset, .unset, .unset, .unset, .unset, .unset, .unset, .unset, .unset] [])
                  refine go_st (fun _ kq => XS.goto X33.here hx rfl (pc0 := 376) (pc' := 430) rfl (hb hby at_376) (by decide) (by decide) kq) ?_
                  show Go p e below s _ _ _ T33 (mkF m 430 #[.val (.long x0), .second, .val (.long x1), .second, .val (.long x2), .second, .val (.long x3), .second, .val (.int x4), .val (.long x5), .second, .val (.int (1 : Int32)), .val (.long (Int64.ofNat nu)), .second, .val (.long (Int64.ofNat nd)), .second, .val (.double rq_28), .second, .val (.long (Int64.ofNat na)), .second, .val (.long (Int64.ofNat nb)), .second, .val (.long (Int64.ofNat nc)), .second, .val (.long (Int64.ofNat ne)), .second, .val (.double rq_31), .second, .val (.double rq_33), .second, .val (.long (Int64.ofNat (nb * nc))), .second, .val (.long (Int64.ofNat (ne * na))), .second, .unset, .unset, .unset, .unset, .unset, .unset, .unset, .unset, .unset] [])
                  exact J430
                · refine go_st (fun _ kq => XS.ifYes X33.here hx rfl (pc0 := 353) (pc' := 379) rfl (hb hby at_353) rfl (XT.ll_ne_t hc42) (by decide) (by decide) kq) ?_
                  show Go p e below s _ _ _ T33 (mkF m 379 #[.val (.long x0), .second, .val (.long x1), .second, .val (.long x2), .second, .val (.long x3), .second, .val (.int x4), .val (.long x5), .second, .val (.int (1 : Int32)), .val (.long (Int64.ofNat nu)), .second, .val (.long (Int64.ofNat nd)), .second, .val (.double rq_28), .second, .val (.long (Int64.ofNat na)), .second, .val (.long (Int64.ofNat nb)), .second, .val (.long (Int64.ofNat nc)), .second, .val (.long (Int64.ofNat ne)), .second, .val (.double rq_31), .second, .val (.double rq_33), .second, .val (.long (Int64.ofNat (nb * nc))), .second, .val (.long (Int64.ofNat (ne * na))), .second, .unset, .unset, .unset, .unset, .unset, .unset, .unset, .unset, .unset] [])
                  refine go_st (fun _ kq => XT.lload X33.here hx rfl (hb hby at_379) rfl kq) ?_
                  show Go p e below s _ _ _ T33 (mkF m 381 #[.val (.long x0), .second, .val (.long x1), .second, .val (.long x2), .second, .val (.long x3), .second, .val (.int x4), .val (.long x5), .second, .val (.int (1 : Int32)), .val (.long (Int64.ofNat nu)), .second, .val (.long (Int64.ofNat nd)), .second, .val (.double rq_28), .second, .val (.long (Int64.ofNat na)), .second, .val (.long (Int64.ofNat nb)), .second, .val (.long (Int64.ofNat nc)), .second, .val (.long (Int64.ofNat ne)), .second, .val (.double rq_31), .second, .val (.double rq_33), .second, .val (.long (Int64.ofNat (nb * nc))), .second, .val (.long (Int64.ofNat (ne * na))), .second, .unset, .unset, .unset, .unset, .unset, .unset, .unset, .unset, .unset] [(.long (Int64.ofNat (nb * nc)))])
                  refine go_st (fun _ kq => XT.lload X33.here hx rfl (hb hby at_381) rfl kq) ?_
                  show Go p e below s _ _ _ T33 (mkF m 383 #[.val (.long x0), .second, .val (.long x1), .second, .val (.long x2), .second, .val (.long x3), .second, .val (.int x4), .val (.long x5), .second, .val (.int (1 : Int32)), .val (.long (Int64.ofNat nu)), .second, .val (.long (Int64.ofNat nd)), .second, .val (.double rq_28), .second, .val (.long (Int64.ofNat na)), .second, .val (.long (Int64.ofNat nb)), .second, .val (.long (Int64.ofNat nc)), .second, .val (.long (Int64.ofNat ne)), .second, .val (.double rq_31), .second, .val (.double rq_33), .second, .val (.long (Int64.ofNat (nb * nc))), .second, .val (.long (Int64.ofNat (ne * na))), .second, .unset, .unset, .unset, .unset, .unset, .unset, .unset, .unset, .unset] [(.long (Int64.ofNat (ne * na))), (.long (Int64.ofNat (nb * nc)))])
                  refine go_st (fun _ kq => XT.lcmp X33.here hx rfl (hb hby at_383) rfl kq) ?_
                  show Go p e below s _ _ _ T33 (mkF m 384 #[.val (.long x0), .second, .val (.long x1), .second, .val (.long x2), .second, .val (.long x3), .second, .val (.int x4), .val (.long x5), .second, .val (.int (1 : Int32)), .val (.long (Int64.ofNat nu)), .second, .val (.long (Int64.ofNat nd)), .second, .val (.double rq_28), .second, .val (.long (Int64.ofNat na)), .second, .val (.long (Int64.ofNat nb)), .second, .val (.long (Int64.ofNat nc)), .second, .val (.long (Int64.ofNat ne)), .second, .val (.double rq_31), .second, .val (.double rq_33), .second, .val (.long (Int64.ofNat (nb * nc))), .second, .val (.long (Int64.ofNat (ne * na))), .second, .unset, .unset, .unset, .unset, .unset, .unset, .unset, .unset, .unset] [(.int (XT.cmpL (Int64.ofNat (nb * nc)) (Int64.ofNat (ne * na))))])
                  by_cases hc44 : (Int64.ofNat (nb * nc)) < (Int64.ofNat (ne * na))
                  · refine go_st (fun _ kq => XS.ifNo X33.here hx rfl (hb hby at_384) rfl (XT.ll_ge_f hc44) kq) ?_
                    show Go p e below s _ _ _ T33 (mkF m 387 #[.val (.long x0), .second, .val (.long x1), .second, .val (.long x2), .second, .val (.long x3), .second, .val (.int x4), .val (.long x5), .second, .val (.int (1 : Int32)), .val (.long (Int64.ofNat nu)), .second, .val (.long (Int64.ofNat nd)), .second, .val (.double rq_28), .second, .val (.long (Int64.ofNat na)), .second, .val (.long (Int64.ofNat nb)), .second, .val (.long (Int64.ofNat nc)), .second, .val (.long (Int64.ofNat ne)), .second, .val (.double rq_31), .second, .val (.double rq_33), .second, .val (.long (Int64.ofNat (nb * nc))), .second, .val (.long (Int64.ofNat (ne * na))), .second, .unset, .unset, .unset, .unset, .unset, .unset, .unset, .unset, .unset] [])
                    refine go_st (fun _ kq => XS.iload X33.here hx rfl (hb hby at_387) rfl kq) ?_
                    show Go p e below s _ _ _ T33 (mkF m 389 #[.val (.long x0), .second, .val (.long x1), .second, .val (.long x2), .second, .val (.long x3), .second, .val (.int x4), .val (.long x5), .second, .val (.int (1 : Int32)), .val (.long (Int64.ofNat nu)), .second, .val (.long (Int64.ofNat nd)), .second, .val (.double rq_28), .second, .val (.long (Int64.ofNat na)), .second, .val (.long (Int64.ofNat nb)), .second, .val (.long (Int64.ofNat nc)), .second, .val (.long (Int64.ofNat ne)), .second, .val (.double rq_31), .second, .val (.double rq_33), .second, .val (.long (Int64.ofNat (nb * nc))), .second, .val (.long (Int64.ofNat (ne * na))), .second, .unset, .unset, .unset, .unset, .unset, .unset, .unset, .unset, .unset] [(.int (1 : Int32))])
                    refine go_st (fun _ kq => XS.ifNo X33.here hx rfl (hb hby at_389) rfl (XT.i0_eq_f (by decide)) kq) ?_
                    show Go p e below s _ _ _ T33 (mkF m 392 #[.val (.long x0), .second, .val (.long x1), .second, .val (.long x2), .second, .val (.long x3), .second, .val (.int x4), .val (.long x5), .second, .val (.int (1 : Int32)), .val (.long (Int64.ofNat nu)), .second, .val (.long (Int64.ofNat nd)), .second, .val (.double rq_28), .second, .val (.long (Int64.ofNat na)), .second, .val (.long (Int64.ofNat nb)), .second, .val (.long (Int64.ofNat nc)), .second, .val (.long (Int64.ofNat ne)), .second, .val (.double rq_31), .second, .val (.double rq_33), .second, .val (.long (Int64.ofNat (nb * nc))), .second, .val (.long (Int64.ofNat (ne * na))), .second, .unset, .unset, .unset, .unset, .unset, .unset, .unset, .unset, .unset] [])
                    refine go_st (fun _ kq => XS.dload X33.here hx rfl (hb hby at_392) rfl kq) ?_
                    show Go p e below s _ _ _ T33 (mkF m 394 #[.val (.long x0), .second, .val (.long x1), .second, .val (.long x2), .second, .val (.long x3), .second, .val (.int x4), .val (.long x5), .second, .val (.int (1 : Int32)), .val (.long (Int64.ofNat nu)), .second, .val (.long (Int64.ofNat nd)), .second, .val (.double rq_28), .second, .val (.long (Int64.ofNat na)), .second, .val (.long (Int64.ofNat nb)), .second, .val (.long (Int64.ofNat nc)), .second, .val (.long (Int64.ofNat ne)), .second, .val (.double rq_31), .second, .val (.double rq_33), .second, .val (.long (Int64.ofNat (nb * nc))), .second, .val (.long (Int64.ofNat (ne * na))), .second, .unset, .unset, .unset, .unset, .unset, .unset, .unset, .unset, .unset] [(.double rq_31)])
                    refine go_st (fun _ kq => XS.dload X33.here hx rfl (hb hby at_394) rfl kq) ?_
                    show Go p e below s _ _ _ T33 (mkF m 396 #[.val (.long x0), .second, .val (.long x1), .second, .val (.long x2), .second, .val (.long x3), .second, .val (.int x4), .val (.long x5), .second, .val (.int (1 : Int32)), .val (.long (Int64.ofNat nu)), .second, .val (.long (Int64.ofNat nd)), .second, .val (.double rq_28), .second, .val (.long (Int64.ofNat na)), .second, .val (.long (Int64.ofNat nb)), .second, .val (.long (Int64.ofNat nc)), .second, .val (.long (Int64.ofNat ne)), .second, .val (.double rq_31), .second, .val (.double rq_33), .second, .val (.long (Int64.ofNat (nb * nc))), .second, .val (.long (Int64.ofNat (ne * na))), .second, .unset, .unset, .unset, .unset, .unset, .unset, .unset, .unset, .unset] [(.double rq_33), (.double rq_31)])
                    refine go_st (fun _ kq => XS.dcmpS X33.here hx rfl (hb hby at_396) rfl rfl kq) ?_
                    show Go p e below s _ _ _ T33 (mkF m 397 #[.val (.long x0), .second, .val (.long x1), .second, .val (.long x2), .second, .val (.long x3), .second, .val (.int x4), .val (.long x5), .second, .val (.int (1 : Int32)), .val (.long (Int64.ofNat nu)), .second, .val (.long (Int64.ofNat nd)), .second, .val (.double rq_28), .second, .val (.long (Int64.ofNat na)), .second, .val (.long (Int64.ofNat nb)), .second, .val (.long (Int64.ofNat nc)), .second, .val (.long (Int64.ofNat ne)), .second, .val (.double rq_31), .second, .val (.double rq_33), .second, .val (.long (Int64.ofNat (nb * nc))), .second, .val (.long (Int64.ofNat (ne * na))), .second, .unset, .unset, .unset, .unset, .unset, .unset, .unset, .unset, .unset] [(.int (cmpValue (FP.dcmp rq_31 rq_33) .g))])
                    have hb45 : ¬ ((0 : Int32) < (cmpValue (FP.dcmp rq_31 rq_33) .g)) := by rw [show FP.dcmp rq_31 rq_33 = _ from VZ.cmp vy vz]; exact own_cg_le (by exact o2 ((own_ltL (by omega) (by omega)).mp hc44))
                    refine go_st (fun _ kq => XS.ifNo X33.here hx rfl (hb hby at_397) rfl (XT.i0_gt_f hb45) kq) ?_
                    show Go p e below s _ _ _ T33 (mkF m 400 #[.val (.long x0), .second, .val (.long x1), .second, .val (.long x2), .second, .val (.long x3), .second, .val (.int x4), .val (.long x5), .second, .val (.int (1 : Int32)), .val (.long (Int64.ofNat nu)), .second, .val (.long (Int64.ofNat nd)), .second, .val (.double rq_28), .second, .val (.long (Int64.ofNat na)), .second, .val (.long (Int64.ofNat nb)), .second, .val (.long (Int64.ofNat nc)), .second, .val (.long (Int64.ofNat ne)), .second, .val (.double rq_31), .second, .val (.double rq_33), .second, .val (.long (Int64.ofNat (nb * nc))), .second, .val (.long (Int64.ofNat (ne * na))), .second, .unset, .unset, .unset, .unset, .unset, .unset, .unset, .unset, .unset] [])
                    refine go_st (fun _ kq => XT.iconstV X33.here hx rfl (1 : Int32) (hb hby at_400) (by decide) kq) ?_
                    show Go p e below s _ _ _ T33 (mkF m 401 #[.val (.long x0), .second, .val (.long x1), .second, .val (.long x2), .second, .val (.long x3), .second, .val (.int x4), .val (.long x5), .second, .val (.int (1 : Int32)), .val (.long (Int64.ofNat nu)), .second, .val (.long (Int64.ofNat nd)), .second, .val (.double rq_28), .second, .val (.long (Int64.ofNat na)), .second, .val (.long (Int64.ofNat nb)), .second, .val (.long (Int64.ofNat nc)), .second, .val (.long (Int64.ofNat ne)), .second, .val (.double rq_31), .second, .val (.double rq_33), .second, .val (.long (Int64.ofNat (nb * nc))), .second, .val (.long (Int64.ofNat (ne * na))), .second, .unset, .unset, .unset, .unset, .unset, .unset, .unset, .unset, .unset] [(.int (1 : Int32))])
                    refine go_st (fun _ kq => XS.goto X33.here hx rfl (pc0 := 401) (pc' := 405) rfl (hb hby at_401) (by decide) (by decide) kq) ?_
                    show Go p e below s _ _ _ T33 (mkF m 405 #[.val (.long x0), .second, .val (.long x1), .second, .val (.long x2), .second, .val (.long x3), .second, .val (.int x4), .val (.long x5), .second, .val (.int (1 : Int32)), .val (.long (Int64.ofNat nu)), .second, .val (.long (Int64.ofNat nd)), .second, .val (.double rq_28), .second, .val (.long (Int64.ofNat na)), .second, .val (.long (Int64.ofNat nb)), .second, .val (.long (Int64.ofNat nc)), .second, .val (.long (Int64.ofNat ne)), .second, .val (.double rq_31), .second, .val (.double rq_33), .second, .val (.long (Int64.ofNat (nb * nc))), .second, .val (.long (Int64.ofNat (ne * na))), .second, .unset, .unset, .unset, .unset, .unset, .unset, .unset, .unset, .unset] [(.int (1 : Int32))])
                    refine go_st (fun _ kq => XS.istore X33.here hx rfl (hb hby at_405) rfl (l' := #[.val (.long x0), .second, .val (.long x1), .second, .val (.long x2), .second, .val (.long x3), .second, .val (.int x4), .val (.long x5), .second, .val (.int (1 : Int32)), .val (.long (Int64.ofNat nu)), .second, .val (.long (Int64.ofNat nd)), .second, .val (.double rq_28), .second, .val (.long (Int64.ofNat na)), .second, .val (.long (Int64.ofNat nb)), .second, .val (.long (Int64.ofNat nc)), .second, .val (.long (Int64.ofNat ne)), .second, .val (.double rq_31), .second, .val (.double rq_33), .second, .val (.long (Int64.ofNat (nb * nc))), .second, .val (.long (Int64.ofNat (ne * na))), .second, .unset, .unset, .unset, .unset, .unset, .unset, .unset, .unset, .unset]) rfl kq) ?_
                    show Go p e below s _ _ _ T33 (mkF m 407 #[.val (.long x0), .second, .val (.long x1), .second, .val (.long x2), .second, .val (.long x3), .second, .val (.int x4), .val (.long x5), .second, .val (.int (1 : Int32)), .val (.long (Int64.ofNat nu)), .second, .val (.long (Int64.ofNat nd)), .second, .val (.double rq_28), .second, .val (.long (Int64.ofNat na)), .second, .val (.long (Int64.ofNat nb)), .second, .val (.long (Int64.ofNat nc)), .second, .val (.long (Int64.ofNat ne)), .second, .val (.double rq_31), .second, .val (.double rq_33), .second, .val (.long (Int64.ofNat (nb * nc))), .second, .val (.long (Int64.ofNat (ne * na))), .second, .unset, .unset, .unset, .unset, .unset, .unset, .unset, .unset, .unset] [])
                    refine go_st (fun _ kq => XS.goto X33.here hx rfl (pc0 := 407) (pc' := 430) rfl (hb hby at_407) (by decide) (by decide) kq) ?_
                    show Go p e below s _ _ _ T33 (mkF m 430 #[.val (.long x0), .second, .val (.long x1), .second, .val (.long x2), .second, .val (.long x3), .second, .val (.int x4), .val (.long x5), .second, .val (.int (1 : Int32)), .val (.long (Int64.ofNat nu)), .second, .val (.long (Int64.ofNat nd)), .second, .val (.double rq_28), .second, .val (.long (Int64.ofNat na)), .second, .val (.long (Int64.ofNat nb)), .second, .val (.long (Int64.ofNat nc)), .second, .val (.long (Int64.ofNat ne)), .second, .val (.double rq_31), .second, .val (.double rq_33), .second, .val (.long (Int64.ofNat (nb * nc))), .second, .val (.long (Int64.ofNat (ne * na))), .second, .unset, .unset, .unset, .unset, .unset, .unset, .unset, .unset, .unset] [])
                    exact J430
                  · refine go_st (fun _ kq => XS.ifYes X33.here hx rfl (pc0 := 384) (pc' := 410) rfl (hb hby at_384) rfl (XT.ll_ge_t hc44) (by decide) (by decide) kq) ?_
                    show Go p e below s _ _ _ T33 (mkF m 410 #[.val (.long x0), .second, .val (.long x1), .second, .val (.long x2), .second, .val (.long x3), .second, .val (.int x4), .val (.long x5), .second, .val (.int (1 : Int32)), .val (.long (Int64.ofNat nu)), .second, .val (.long (Int64.ofNat nd)), .second, .val (.double rq_28), .second, .val (.long (Int64.ofNat na)), .second, .val (.long (Int64.ofNat nb)), .second, .val (.long (Int64.ofNat nc)), .second, .val (.long (Int64.ofNat ne)), .second, .val (.double rq_31), .second, .val (.double rq_33), .second, .val (.long (Int64.ofNat (nb * nc))), .second, .val (.long (Int64.ofNat (ne * na))), .second, .unset, .unset, .unset, .unset, .unset, .unset, .unset, .unset, .unset] [])
                    refine go_st (fun _ kq => XS.iload X33.here hx rfl (hb hby at_410) rfl kq) ?_
                    show Go p e below s _ _ _ T33 (mkF m 412 #[.val (.long x0), .second, .val (.long x1), .second, .val (.long x2), .second, .val (.long x3), .second, .val (.int x4), .val (.long x5), .second, .val (.int (1 : Int32)), .val (.long (Int64.ofNat nu)), .second, .val (.long (Int64.ofNat nd)), .second, .val (.double rq_28), .second, .val (.long (Int64.ofNat na)), .second, .val (.long (Int64.ofNat nb)), .second, .val (.long (Int64.ofNat nc)), .second, .val (.long (Int64.ofNat ne)), .second, .val (.double rq_31), .second, .val (.double rq_33), .second, .val (.long (Int64.ofNat (nb * nc))), .second, .val (.long (Int64.ofNat (ne * na))), .second, .unset, .unset, .unset, .unset, .unset, .unset, .unset, .unset, .unset] [(.int (1 : Int32))])
                    refine go_st (fun _ kq => XS.ifNo X33.here hx rfl (hb hby at_412) rfl (XT.i0_eq_f (by decide)) kq) ?_
                    show Go p e below s _ _ _ T33 (mkF m 415 #[.val (.long x0), .second, .val (.long x1), .second, .val (.long x2), .second, .val (.long x3), .second, .val (.int x4), .val (.long x5), .second, .val (.int (1 : Int32)), .val (.long (Int64.ofNat nu)), .second, .val (.long (Int64.ofNat nd)), .second, .val (.double rq_28), .second, .val (.long (Int64.ofNat na)), .second, .val (.long (Int64.ofNat nb)), .second, .val (.long (Int64.ofNat nc)), .second, .val (.long (Int64.ofNat ne)), .second, .val (.double rq_31), .second, .val (.double rq_33), .second, .val (.long (Int64.ofNat (nb * nc))), .second, .val (.long (Int64.ofNat (ne * na))), .second, .unset, .unset, .unset, .unset, .unset, .unset, .unset, .unset, .unset] [])
                    refine go_st (fun _ kq => XS.dload X33.here hx rfl (hb hby at_415) rfl kq) ?_
                    show Go p e below s _ _ _ T33 (mkF m 417 #[.val (.long x0), .second, .val (.long x1), .second, .val (.long x2), .second, .val (.long x3), .second, .val (.int x4), .val (.long x5), .second, .val (.int (1 : Int32)), .val (.long (Int64.ofNat nu)), .second, .val (.long (Int64.ofNat nd)), .second, .val (.double rq_28), .second, .val (.long (Int64.ofNat na)), .second, .val (.long (Int64.ofNat nb)), .second, .val (.long (Int64.ofNat nc)), .second, .val (.long (Int64.ofNat ne)), .second, .val (.double rq_31), .second, .val (.double rq_33), .second, .val (.long (Int64.ofNat (nb * nc))), .second, .val (.long (Int64.ofNat (ne * na))), .second, .unset, .unset, .unset, .unset, .unset, .unset, .unset, .unset, .unset] [(.double rq_31)])
                    refine go_st (fun _ kq => XS.dload X33.here hx rfl (hb hby at_417) rfl kq) ?_
                    show Go p e below s _ _ _ T33 (mkF m 419 #[.val (.long x0), .second, .val (.long x1), .second, .val (.long x2), .second, .val (.long x3), .second, .val (.int x4), .val (.long x5), .second, .val (.int (1 : Int32)), .val (.long (Int64.ofNat nu)), .second, .val (.long (Int64.ofNat nd)), .second, .val (.double rq_28), .second, .val (.long (Int64.ofNat na)), .second, .val (.long (Int64.ofNat nb)), .second, .val (.long (Int64.ofNat nc)), .second, .val (.long (Int64.ofNat ne)), .second, .val (.double rq_31), .second, .val (.double rq_33), .second, .val (.long (Int64.ofNat (nb * nc))), .second, .val (.long (Int64.ofNat (ne * na))), .second, .unset, .unset, .unset, .unset, .unset, .unset, .unset, .unset, .unset] [(.double rq_33), (.double rq_31)])
                    refine go_st (fun _ kq => XS.dcmpS X33.here hx rfl (hb hby at_419) rfl rfl kq) ?_
                    show Go p e below s _ _ _ T33 (mkF m 420 #[.val (.long x0), .second, .val (.long x1), .second, .val (.long x2), .second, .val (.long x3), .second, .val (.int x4), .val (.long x5), .second, .val (.int (1 : Int32)), .val (.long (Int64.ofNat nu)), .second, .val (.long (Int64.ofNat nd)), .second, .val (.double rq_28), .second, .val (.long (Int64.ofNat na)), .second, .val (.long (Int64.ofNat nb)), .second, .val (.long (Int64.ofNat nc)), .second, .val (.long (Int64.ofNat ne)), .second, .val (.double rq_31), .second, .val (.double rq_33), .second, .val (.long (Int64.ofNat (nb * nc))), .second, .val (.long (Int64.ofNat (ne * na))), .second, .unset, .unset, .unset, .unset, .unset, .unset, .unset, .unset, .unset] [(.int (cmpValue (FP.dcmp rq_31 rq_33) .l))])
                    have hb46 : ¬ ((cmpValue (FP.dcmp rq_31 rq_33) .l) < (0 : Int32)) := by rw [show FP.dcmp rq_31 rq_33 = _ from VZ.cmp vy vz]; exact own_cl_ge (by exact o3 (by have h1 := fun h => hc44 ((own_ltL (n := nb * nc) (m := ne * na) (by omega) (by omega)).mpr h); have h2 := fun h => hc42 (congrArg Int64.ofNat (h : nb * nc = ne * na)); exact Nat.lt_of_le_of_ne (Nat.le_of_not_lt h1) (fun h => h2 h.symm)))
                    refine go_st (fun _ kq => XS.ifNo X33.here hx rfl (hb hby at_420) rfl (XT.i0_lt_f hb46) kq) ?_
                    show Go p e below s _ _ _ T33 (mkF m 423 #[.val (.long x0), .second, .val (.long x1), .second, .val (.long x2), .second, .val (.long x3), .second, .val (.int x4), .val (.long x5), .second, .val (.int (1 : Int32)), .val (.long (Int64.ofNat nu)), .second, .val (.long (Int64.ofNat nd)), .second, .val (.double rq_28), .second, .val (.long (Int64.ofNat na)), .second, .val (.long (Int64.ofNat nb)), .second, .val (.long (Int64.ofNat nc)), .second, .val (.long (Int64.ofNat ne)), .second, .val (.double rq_31), .second, .val (.double rq_33), .second, .val (.long (Int64.ofNat (nb * nc))), .second, .val (.long (Int64.ofNat (ne * na))), .second, .unset, .unset, .unset, .unset, .unset, .unset, .unset, .unset, .unset] [])
                    refine go_st (fun _ kq => XT.iconstV X33.here hx rfl (1 : Int32) (hb hby at_423) (by decide) kq) ?_
                    show Go p e below s _ _ _ T33 (mkF m 424 #[.val (.long x0), .second, .val (.long x1), .second, .val (.long x2), .second, .val (.long x3), .second, .val (.int x4), .val (.long x5), .second, .val (.int (1 : Int32)), .val (.long (Int64.ofNat nu)), .second, .val (.long (Int64.ofNat nd)), .second, .val (.double rq_28), .second, .val (.long (Int64.ofNat na)), .second, .val (.long (Int64.ofNat nb)), .second, .val (.long (Int64.ofNat nc)), .second, .val (.long (Int64.ofNat ne)), .second, .val (.double rq_31), .second, .val (.double rq_33), .second, .val (.long (Int64.ofNat (nb * nc))), .second, .val (.long (Int64.ofNat (ne * na))), .second, .unset, .unset, .unset, .unset, .unset, .unset, .unset, .unset, .unset] [(.int (1 : Int32))])
                    refine go_st (fun _ kq => XS.goto X33.here hx rfl (pc0 := 424) (pc' := 428) rfl (hb hby at_424) (by decide) (by decide) kq) ?_
                    show Go p e below s _ _ _ T33 (mkF m 428 #[.val (.long x0), .second, .val (.long x1), .second, .val (.long x2), .second, .val (.long x3), .second, .val (.int x4), .val (.long x5), .second, .val (.int (1 : Int32)), .val (.long (Int64.ofNat nu)), .second, .val (.long (Int64.ofNat nd)), .second, .val (.double rq_28), .second, .val (.long (Int64.ofNat na)), .second, .val (.long (Int64.ofNat nb)), .second, .val (.long (Int64.ofNat nc)), .second, .val (.long (Int64.ofNat ne)), .second, .val (.double rq_31), .second, .val (.double rq_33), .second, .val (.long (Int64.ofNat (nb * nc))), .second, .val (.long (Int64.ofNat (ne * na))), .second, .unset, .unset, .unset, .unset, .unset, .unset, .unset, .unset, .unset] [(.int (1 : Int32))])
                    refine go_st (fun _ kq => XS.istore X33.here hx rfl (hb hby at_428) rfl (l' := #[.val (.long x0), .second, .val (.long x1), .second, .val (.long x2), .second, .val (.long x3), .second, .val (.int x4), .val (.long x5), .second, .val (.int (1 : Int32)), .val (.long (Int64.ofNat nu)), .second, .val (.long (Int64.ofNat nd)), .second, .val (.double rq_28), .second, .val (.long (Int64.ofNat na)), .second, .val (.long (Int64.ofNat nb)), .second, .val (.long (Int64.ofNat nc)), .second, .val (.long (Int64.ofNat ne)), .second, .val (.double rq_31), .second, .val (.double rq_33), .second, .val (.long (Int64.ofNat (nb * nc))), .second, .val (.long (Int64.ofNat (ne * na))), .second, .unset, .unset, .unset, .unset, .unset, .unset, .unset, .unset, .unset]) rfl kq) ?_
                    show Go p e below s _ _ _ T33 (mkF m 430 #[.val (.long x0), .second, .val (.long x1), .second, .val (.long x2), .second, .val (.long x3), .second, .val (.int x4), .val (.long x5), .second, .val (.int (1 : Int32)), .val (.long (Int64.ofNat nu)), .second, .val (.long (Int64.ofNat nd)), .second, .val (.double rq_28), .second, .val (.long (Int64.ofNat na)), .second, .val (.long (Int64.ofNat nb)), .second, .val (.long (Int64.ofNat nc)), .second, .val (.long (Int64.ofNat ne)), .second, .val (.double rq_31), .second, .val (.double rq_33), .second, .val (.long (Int64.ofNat (nb * nc))), .second, .val (.long (Int64.ofNat (ne * na))), .second, .unset, .unset, .unset, .unset, .unset, .unset, .unset, .unset, .unset] [])
                    exact J430
              show Go p e below s _ _ _ T33 (mkF m 300 #[.val (.long x0), .second, .val (.long x1), .second, .val (.long x2), .second, .val (.long x3), .second, .val (.int x4), .val (.long x5), .second, .val (.int (1 : Int32)), .val (.long (Int64.ofNat nu)), .second, .val (.long (Int64.ofNat nd)), .second, .val (.double rq_28), .second, .val (.long (Int64.ofNat na)), .second, .val (.long (Int64.ofNat nb)), .second, .val (.long (Int64.ofNat nc)), .second, .val (.long (Int64.ofNat ne)), .second, .val (.double rq_31), .second, .val (.double rq_33), .second, .unset, .unset, .unset, .unset, .unset, .unset, .unset, .unset, .unset, .unset, .unset, .unset, .unset] [])
              refine go_st (fun _ kq => XT.lload X33.here hx rfl (hb hby at_300) rfl kq) ?_
              show Go p e below s _ _ _ T33 (mkF m 302 #[.val (.long x0), .second, .val (.long x1), .second, .val (.long x2), .second, .val (.long x3), .second, .val (.int x4), .val (.long x5), .second, .val (.int (1 : Int32)), .val (.long (Int64.ofNat nu)), .second, .val (.long (Int64.ofNat nd)), .second, .val (.double rq_28), .second, .val (.long (Int64.ofNat na)), .second, .val (.long (Int64.ofNat nb)), .second, .val (.long (Int64.ofNat nc)), .second, .val (.long (Int64.ofNat ne)), .second, .val (.double rq_31), .second, .val (.double rq_33), .second, .unset, .unset, .unset, .unset, .unset, .unset, .unset, .unset, .unset, .unset, .unset, .unset, .unset] [(.long (Int64.ofNat nb))])
              refine go_st (fun _ kq => XT.lconstV X33.here hx rfl (0 : Int64) (hb hby at_302) (by decide) kq) ?_
              show Go p e below s _ _ _ T33 (mkF m 303 #[.val (.long x0), .second, .val (.long x1), .second, .val (.long x2), .second, .val (.long x3), .second, .val (.int x4), .val (.long x5), .second, .val (.int (1 : Int32)), .val (.long (Int64.ofNat nu)), .second, .val (.long (Int64.ofNat nd)), .second, .val (.double rq_28), .second, .val (.long (Int64.ofNat na)), .second, .val (.long (Int64.ofNat nb)), .second, .val (.long (Int64.ofNat nc)), .second, .val (.long (Int64.ofNat ne)), .second, .val (.double rq_31), .second, .val (.double rq_33), .second, .unset, .unset, .unset, .unset, .unset, .unset, .unset, .unset, .unset, .unset, .unset, .unset, .unset] [(.long (0 : Int64)), (.long (Int64.ofNat nb))])
              refine go_st (fun _ kq => XT.lcmp X33.here hx rfl (hb hby at_303) rfl kq) ?_
              show Go p e below s _ _ _ T33 (mkF m 304 #[.val (.long x0), .second, .val (.long x1), .second, .val (.long x2), .second, .val (.long x3), .second, .val (.int x4), .val (.long x5), .second, .val (.int (1 : Int32)), .val (.long (Int64.ofNat nu)), .second, .val (.long (Int64.ofNat nd)), .second, .val (.double rq_28), .second, .val (.long (Int64.ofNat na)), .second, .val (.long (Int64.ofNat nb)), .second, .val (.long (Int64.ofNat nc)), .second, .val (.long (Int64.ofNat ne)), .second, .val (.double rq_31), .second, .val (.double rq_33), .second, .unset, .unset, .unset, .unset, .unset, .unset, .unset, .unset, .unset, .unset, .unset, .unset, .unset] [(.int (XT.cmpL (Int64.ofNat nb) (0 : Int64)))])
              by_cases hc47 : (Int64.ofNat nb) = (0 : Int64)
              · refine go_st (fun _ kq => XS.ifNo X33.here hx rfl (hb hby at_304) rfl (XT.ll_ne_f hc47) kq) ?_
                show Go p e below s _ _ _ T33 (mkF m 307 #[.val (.long x0), .second, .val (.long x1), .second, .val (.long x2), .second, .val (.long x3), .second, .val (.int x4), .val (.long x5), .second, .val (.int (1 : Int32)), .val (.long (Int64.ofNat nu)), .second, .val (.long (Int64.ofNat nd)), .second, .val (.double rq_28), .second, .val (.long (Int64.ofNat na)), .second, .val (.long (Int64.ofNat nb)), .second, .val (.long (Int64.ofNat nc)), .second, .val (.long (Int64.ofNat ne)), .second, .val (.double rq_31), .second, .val (.double rq_33), .second, .unset, .unset, .unset, .unset, .unset, .unset, .unset, .unset, .unset, .unset, .unset, .unset, .unset] [])
                refine go_st (fun _ kq => XT.iconstV X33.here hx rfl (1 : Int32) (hb hby at_307) (by decide) kq) ?_
                show Go p e below s _ _ _ T33 (mkF m 308 #[.val (.long x0), .second, .val (.long x1), .second, .val (.long x2), .second, .val (.long x3), .second, .val (.int x4), .val (.long x5), .second, .val (.int (1 : Int32)), .val (.long (Int64.ofNat nu)), .second, .val (.long (Int64.ofNat nd)), .second, .val (.double rq_28), .second, .val (.long (Int64.ofNat na)), .second, .val (.long (Int64.ofNat nb)), .second, .val (.long (Int64.ofNat nc)), .second, .val (.long (Int64.ofNat ne)), .second, .val (.double rq_31), .second, .val (.double rq_33), .second, .unset, .unset, .unset, .unset, .unset, .unset, .unset, .unset, .unset, .unset, .unset, .unset, .unset] [(.int (1 : Int32))])
                refine go_st (fun _ kq => XS.goto X33.here hx rfl (pc0 := 308) (pc' := 312) rfl (hb hby at_308) (by decide) (by decide) kq) ?_
                show Go p e below s _ _ _ T33 (mkF m 312 #[.val (.long x0), .second, .val (.long x1), .second, .val (.long x2), .second, .val (.long x3), .second, .val (.int x4), .val (.long x5), .second, .val (.int (1 : Int32)), .val (.long (Int64.ofNat nu)), .second, .val (.long (Int64.ofNat nd)), .second, .val (.double rq_28), .second, .val (.long (Int64.ofNat na)), .second, .val (.long (Int64.ofNat nb)), .second, .val (.long (Int64.ofNat nc)), .second, .val (.long (Int64.ofNat ne)), .second, .val (.double rq_31), .second, .val (.double rq_33), .second, .unset, .unset, .unset, .unset, .unset, .unset, .unset, .unset, .unset, .unset, .unset, .unset, .unset] [(.int (1 : Int32))])
                refine go_st (fun _ kq => XS.dload X33.here hx rfl (hb hby at_312) rfl kq) ?_
                show Go p e below s _ _ _ T33 (mkF m 314 #[.val (.long x0), .second, .val (.long x1), .second, .val (.long x2), .second, .val (.long x3), .second, .val (.int x4), .val (.long x5), .second, .val (.int (1 : Int32)), .val (.long (Int64.ofNat nu)), .second, .val (.long (Int64.ofNat nd)), .second, .val (.double rq_28), .second, .val (.long (Int64.ofNat na)), .second, .val (.long (Int64.ofNat nb)), .second, .val (.long (Int64.ofNat nc)), .second, .val (.long (Int64.ofNat ne)), .second, .val (.double rq_31), .second, .val (.double rq_33), .second, .unset, .unset, .unset, .unset, .unset, .unset, .unset, .unset, .unset, .unset, .unset, .unset, .unset] [(.double rq_31), (.int (1 : Int32))])
                refine go_st (fun _ kq => XS.dconst0 X33.here hx rfl (hb hby at_314) rfl kq) ?_
                show Go p e below s _ _ _ T33 (mkF m 315 #[.val (.long x0), .second, .val (.long x1), .second, .val (.long x2), .second, .val (.long x3), .second, .val (.int x4), .val (.long x5), .second, .val (.int (1 : Int32)), .val (.long (Int64.ofNat nu)), .second, .val (.long (Int64.ofNat nd)), .second, .val (.double rq_28), .second, .val (.long (Int64.ofNat na)), .second, .val (.long (Int64.ofNat nb)), .second, .val (.long (Int64.ofNat nc)), .second, .val (.long (Int64.ofNat ne)), .second, .val (.double rq_31), .second, .val (.double rq_33), .second, .unset, .unset, .unset, .unset, .unset, .unset, .unset, .unset, .unset, .unset, .unset, .unset, .unset] [(.double (FP.dconst0)), (.double rq_31), (.int (1 : Int32))])
                refine go_st (fun _ kq => XS.dcmpS X33.here hx rfl (hb hby at_315) rfl rfl kq) ?_
                show Go p e below s _ _ _ T33 (mkF m 316 #[.val (.long x0), .second, .val (.long x1), .second, .val (.long x2), .second, .val (.long x3), .second, .val (.int x4), .val (.long x5), .second, .val (.int (1 : Int32)), .val (.long (Int64.ofNat nu)), .second, .val (.long (Int64.ofNat nd)), .second, .val (.double rq_28), .second, .val (.long (Int64.ofNat na)), .second, .val (.long (Int64.ofNat nb)), .second, .val (.long (Int64.ofNat nc)), .second, .val (.long (Int64.ofNat ne)), .second, .val (.double rq_31), .second, .val (.double rq_33), .second, .unset, .unset, .unset, .unset, .unset, .unset, .unset, .unset, .unset, .unset, .unset, .unset, .unset] [(.int (cmpValue (FP.dcmp rq_31 (FP.dconst0)) .l)), (.int (1 : Int32))])
                have hb48 : (cmpValue (FP.dcmp rq_31 (FP.dconst0)) .l) = (0 : Int32) := by rw [show FP.dcmp rq_31 (FP.dconst0) = _ from VZ.cmp vy own_v0]; exact own_cl_eq (by have := own_eq0 (by omega) hc47; omega)
                refine go_st (fun _ kq => XS.ifNo X33.here hx rfl (hb hby at_316) rfl (XT.i0_ne_f hb48) kq) ?_
                show Go p e below s _ _ _ T33 (mkF m 319 #[.val (.long x0), .second, .val (.long x1), .second, .val (.long x2), .second, .val (.long x3), .second, .val (.int x4), .val (.long x5), .second, .val (.int (1 : Int32)), .val (.long (Int64.ofNat nu)), .second, .val (.long (Int64.ofNat nd)), .second, .val (.double rq_28), .second, .val (.long (Int64.ofNat na)), .second, .val (.long (Int64.ofNat nb)), .second, .val (.long (Int64.ofNat nc)), .second, .val (.long (Int64.ofNat ne)), .second, .val (.double rq_31), .second, .val (.double rq_33), .second, .unset, .unset, .unset, .unset, .unset, .unset, .unset, .unset, .unset, .unset, .unset, .unset, .unset] [(.int (1 : Int32))])
                refine go_st (fun _ kq => XT.iconstV X33.here hx rfl (1 : Int32) (hb hby at_319) (by decide) kq) ?_
                show Go p e below s _ _ _ T33 (mkF m 320 #[.val (.long x0), .second, .val (.long x1), .second, .val (.long x2), .second, .val (.long x3), .second, .val (.int x4), .val (.long x5), .second, .val (.int (1 : Int32)), .val (.long (Int64.ofNat nu)), .second, .val (.long (Int64.ofNat nd)), .second, .val (.double rq_28), .second, .val (.long (Int64.ofNat na)), .second, .val (.long (Int64.ofNat nb)), .second, .val (.long (Int64.ofNat nc)), .second, .val (.long (Int64.ofNat ne)), .second, .val (.double rq_31), .second, .val (.double rq_33), .second, .unset, .unset, .unset, .unset, .unset, .unset, .unset, .unset, .unset, .unset, .unset, .unset, .unset] [(.int (1 : Int32)), (.int (1 : Int32))])
                refine go_st (fun _ kq => XS.goto X33.here hx rfl (pc0 := 320) (pc' := 324) rfl (hb hby at_320) (by decide) (by decide) kq) ?_
                show Go p e below s _ _ _ T33 (mkF m 324 #[.val (.long x0), .second, .val (.long x1), .second, .val (.long x2), .second, .val (.long x3), .second, .val (.int x4), .val (.long x5), .second, .val (.int (1 : Int32)), .val (.long (Int64.ofNat nu)), .second, .val (.long (Int64.ofNat nd)), .second, .val (.double rq_28), .second, .val (.long (Int64.ofNat na)), .second, .val (.long (Int64.ofNat nb)), .second, .val (.long (Int64.ofNat nc)), .second, .val (.long (Int64.ofNat ne)), .second, .val (.double rq_31), .second, .val (.double rq_33), .second, .unset, .unset, .unset, .unset, .unset, .unset, .unset, .unset, .unset, .unset, .unset, .unset, .unset] [(.int (1 : Int32)), (.int (1 : Int32))])
                refine go_st (fun _ kq => XS.icmpNo X33.here hx rfl (hb hby at_324) rfl (XT.ii_ne_f (by decide)) kq) ?_
                show Go p e below s _ _ _ T33 (mkF m 327 #[.val (.long x0), .second, .val (.long x1), .second, .val (.long x2), .second, .val (.long x3), .second, .val (.int x4), .val (.long x5), .second, .val (.int (1 : Int32)), .val (.long (Int64.ofNat nu)), .second, .val (.long (Int64.ofNat nd)), .second, .val (.double rq_28), .second, .val (.long (Int64.ofNat na)), .second, .val (.long (Int64.ofNat nb)), .second, .val (.long (Int64.ofNat nc)), .second, .val (.long (Int64.ofNat ne)), .second, .val (.double rq_31), .second, .val (.double rq_33), .second, .unset, .unset, .unset, .unset, .unset, .unset, .unset, .unset, .unset, .unset, .unset, .unset, .unset] [])
                refine go_st (fun _ kq => XT.iconstV X33.here hx rfl (1 : Int32) (hb hby at_327) (by decide) kq) ?_
                show Go p e below s _ _ _ T33 (mkF m 328 #[.val (.long x0), .second, .val (.long x1), .second, .val (.long x2), .second, .val (.long x3), .second, .val (.int x4), .val (.long x5), .second, .val (.int (1 : Int32)), .val (.long (Int64.ofNat nu)), .second, .val (.long (Int64.ofNat nd)), .second, .val (.double rq_28), .second, .val (.long (Int64.ofNat na)), .second, .val (.long (Int64.ofNat nb)), .second, .val (.long (Int64.ofNat nc)), .second, .val (.long (Int64.ofNat ne)), .second, .val (.double rq_31), .second, .val (.double rq_33), .second, .unset, .unset, .unset, .unset, .unset, .unset, .unset, .unset, .unset, .unset, .unset, .unset, .unset] [(.int (1 : Int32))])
                refine go_st (fun _ kq => XS.goto X33.here hx rfl (pc0 := 328) (pc' := 332) rfl (hb hby at_328) (by decide) (by decide) kq) ?_
                show Go p e below s _ _ _ T33 (mkF m 332 #[.val (.long x0), .second, .val (.long x1), .second, .val (.long x2), .second, .val (.long x3), .second, .val (.int x4), .val (.long x5), .second, .val (.int (1 : Int32)), .val (.long (Int64.ofNat nu)), .second, .val (.long (Int64.ofNat nd)), .second, .val (.double rq_28), .second, .val (.long (Int64.ofNat na)), .second, .val (.long (Int64.ofNat nb)), .second, .val (.long (Int64.ofNat nc)), .second, .val (.long (Int64.ofNat ne)), .second, .val (.double rq_31), .second, .val (.double rq_33), .second, .unset, .unset, .unset, .unset, .unset, .unset, .unset, .unset, .unset, .unset, .unset, .unset, .unset] [(.int (1 : Int32))])
                refine go_st (fun _ kq => XS.istore X33.here hx rfl (hb hby at_332) rfl (l' := #[.val (.long x0), .second, .val (.long x1), .second, .val (.long x2), .second, .val (.long x3), .second, .val (.int x4), .val (.long x5), .second, .val (.int (1 : Int32)), .val (.long (Int64.ofNat nu)), .second, .val (.long (Int64.ofNat nd)), .second, .val (.double rq_28), .second, .val (.long (Int64.ofNat na)), .second, .val (.long (Int64.ofNat nb)), .second, .val (.long (Int64.ofNat nc)), .second, .val (.long (Int64.ofNat ne)), .second, .val (.double rq_31), .second, .val (.double rq_33), .second, .unset, .unset, .unset, .unset, .unset, .unset, .unset, .unset, .unset, .unset, .unset, .unset, .unset]) rfl kq) ?_
                show Go p e below s _ _ _ T33 (mkF m 334 #[.val (.long x0), .second, .val (.long x1), .second, .val (.long x2), .second, .val (.long x3), .second, .val (.int x4), .val (.long x5), .second, .val (.int (1 : Int32)), .val (.long (Int64.ofNat nu)), .second, .val (.long (Int64.ofNat nd)), .second, .val (.double rq_28), .second, .val (.long (Int64.ofNat na)), .second, .val (.long (Int64.ofNat nb)), .second, .val (.long (Int64.ofNat nc)), .second, .val (.long (Int64.ofNat ne)), .second, .val (.double rq_31), .second, .val (.double rq_33), .second, .unset, .unset, .unset, .unset, .unset, .unset, .unset, .unset, .unset, .unset, .unset, .unset, .unset] [])
                exact J334
              · refine go_st (fun _ kq => XS.ifYes X33.here hx rfl (pc0 := 304) (pc' := 311) rfl (hb hby at_304) rfl (XT.ll_ne_t hc47) (by decide) (by decide) kq) ?_
                show Go p e below s _ _ _ T33 (mkF m 311 #[.val (.long x0), .second, .val (.long x1), .second, .val (.long x2), .second, .val (.long x3), .second, .val (.int x4), .val (.long x5), .second, .val (.int (1 : Int32)), .val (.long (Int64.ofNat nu)), .second, .val (.long (Int64.ofNat nd)), .second, .val (.double rq_28), .second, .val (.long (Int64.ofNat na)), .second, .val (.long (Int64.ofNat nb)), .second, .val (.long (Int64.ofNat nc)), .second, .val (.long (Int64.ofNat ne)), .second, .val (.double rq_31), .second, .val (.double rq_33), .second, .unset, .unset, .unset, .unset, .unset, .unset, .unset, .unset, .unset, .unset, .unset, .unset, .unset] [])
                refine go_st (fun _ kq => XT.iconstV X33.here hx rfl (0 : Int32) (hb hby at_311) (by decide) kq) ?_
                show Go p e below s _ _ _ T33 (mkF m 312 #[.val (.long x0), .second, .val (.long x1), .second, .val (.long x2), .second, .val (.long x3), .second, .val (.int x4), .val (.long x5), .second, .val (.int (1 : Int32)), .val (.long (Int64.ofNat nu)), .second, .val (.long (Int64.ofNat nd)), .second, .val (.double rq_28), .second, .val (.long (Int64.ofNat na)), .second, .val (.long (Int64.ofNat nb)), .second, .val (.long (Int64.ofNat nc)), .second, .val (.long (Int64.ofNat ne)), .second, .val (.double rq_31), .second, .val (.double rq_33), .second, .unset, .unset, .unset, .unset, .unset, .unset, .unset, .unset, .unset, .unset, .unset, .unset, .unset] [(.int (0 : Int32))])
                refine go_st (fun _ kq => XS.dload X33.here hx rfl (hb hby at_312) rfl kq) ?_
                show Go p e below s _ _ _ T33 (mkF m 314 #[.val (.long x0), .second, .val (.long x1), .second, .val (.long x2), .second, .val (.long x3), .second, .val (.int x4), .val (.long x5), .second, .val (.int (1 : Int32)), .val (.long (Int64.ofNat nu)), .second, .val (.long (Int64.ofNat nd)), .second, .val (.double rq_28), .second, .val (.long (Int64.ofNat na)), .second, .val (.long (Int64.ofNat nb)), .second, .val (.long (Int64.ofNat nc)), .second, .val (.long (Int64.ofNat ne)), .second, .val (.double rq_31), .second, .val (.double rq_33), .second, .unset, .unset, .unset, .unset, .unset, .unset, .unset, .unset, .unset, .unset, .unset, .unset, .unset] [(.double rq_31), (.int (0 : Int32))])
                refine go_st (fun _ kq => XS.dconst0 X33.here hx rfl (hb hby at_314) rfl kq) ?_
                show Go p e below s _ _ _ T33 (mkF m 315 #[.val (.long x0), .second, .val (.long x1), .second, .val (.long x2), .second, .val (.long x3), .second, .val (.int x4), .val (.long x5), .second, .val (.int (1 : Int32)), .val (.long (Int64.ofNat nu)), .second, .val (.long (Int64.ofNat nd)), .second, .val (.double rq_28), .second, .val (.long (Int64.ofNat na)), .second, .val (.long (Int64.ofNat nb)), .second, .val (.long (Int64.ofNat nc)), .second, .val (.long (Int64.ofNat ne)), .second, .val (.double rq_31), .second, .val (.double rq_33), .second, .unset, .unset, .unset, .unset, .unset, .unset, .unset, .unset, .unset, .unset, .unset, .unset, .unset] [(.double (FP.dconst0)), (.double rq_31), (.int (0 : Int32))])
                refine go_st (fun _ kq => XS.dcmpS X33.here hx rfl (hb hby at_315) rfl rfl kq) ?_
                show Go p e below s _ _ _ T33 (mkF m 316 #[.val (.long x0), .second, .val (.long x1), .second, .val (.long x2), .second, .val (.long x3), .second, .val (.int x4), .val (.long x5), .second, .val (.int (1 : Int32)), .val (.long (Int64.ofNat nu)), .second, .val (.long (Int64.ofNat nd)), .second, .val (.double rq_28), .second, .val (.long (Int64.ofNat na)), .second, .val (.long (Int64.ofNat nb)), .second, .val (.long (Int64.ofNat nc)), .second, .val (.long (Int64.ofNat ne)), .second, .val (.double rq_31), .second, .val (.double rq_33), .second, .unset, .unset, .unset, .unset, .unset, .unset, .unset, .unset, .unset, .unset, .unset, .unset, .unset] [(.int (cmpValue (FP.dcmp rq_31 (FP.dconst0)) .l)), (.int (0 : Int32))])
                have hb49 : ¬ ((cmpValue (FP.dcmp rq_31 (FP.dconst0)) .l) = (0 : Int32)) := by rw [show FP.dcmp rq_31 (FP.dconst0) = _ from VZ.cmp vy own_v0]; exact own_cl_ne (by have := own_ne0 (by omega) hc47; omega)
                refine go_st (fun _ kq => XS.ifYes X33.here hx rfl (pc0 := 316) (pc' := 323) rfl (hb hby at_316) rfl (XT.i0_ne_t hb49) (by decide) (by decide) kq) ?_
                show Go p e below s _ _ _ T33 (mkF m 323 #[.val (.long x0), .second, .val (.long x1), .second, .val (.long x2), .second, .val (.long x3), .second, .val (.int x4), .val (.long x5), .second, .val (.int (1 : Int32)), .val (.long (Int64.ofNat nu)), .second, .val (.long (Int64.ofNat nd)), .second, .val (.double rq_28), .second, .val (.long (Int64.ofNat na)), .second, .val (.long (Int64.ofNat nb)), .second, .val (.long (Int64.ofNat nc)), .second, .val (.long (Int64.ofNat ne)), .second, .val (.double rq_31), .second, .val (.double rq_33), .second, .unset, .unset, .unset, .unset, .unset, .unset, .unset, .unset, .unset, .unset, .unset, .unset, .unset] [(.int (0 : Int32))])
                refine go_st (fun _ kq => XT.iconstV X33.here hx rfl (0 : Int32) (hb hby at_323) (by decide) kq) ?_
                show Go p e below s _ _ _ T33 (mkF m 324 #[.val (.long x0), .second, .val (.long x1), .second, .val (.long x2), .second, .val (.long x3), .second, .val (.int x4), .val (.long x5), .second, .val (.int (1 : Int32)), .val (.long (Int64.ofNat nu)), .second, .val (.long (Int64.ofNat nd)), .second, .val (.double rq_28), .second, .val (.long (Int64.ofNat na)), .second, .val (.long (Int64.ofNat nb)), .second, .val (.long (Int64.ofNat nc)), .second, .val (.long (Int64.ofNat ne)), .second, .val (.double rq_31), .second, .val (.double rq_33), .second, .unset, .unset, .unset, .unset, .unset, .unset, .unset, .unset, .unset, .unset, .unset, .unset, .unset] [(.int (0 : Int32)), (.int (0 : Int32))])
                refine go_st (fun _ kq => XS.icmpNo X33.here hx rfl (hb hby at_324) rfl (XT.ii_ne_f (by decide)) kq) ?_
                show Go p e below s _ _ _ T33 (mkF m 327 #[.val (.long x0), .second, .val (.long x1), .second, .val (.long x2), .second, .val (.long x3), .second, .val (.int x4), .val (.long x5), .second, .val (.int (1 : Int32)), .val (.long (Int64.ofNat nu)), .second, .val (.long (Int64.ofNat nd)), .second, .val (.double rq_28), .second, .val (.long (Int64.ofNat na)), .second, .val (.long (Int64.ofNat nb)), .second, .val (.long (Int64.ofNat nc)), .second, .val (.long (Int64.ofNat ne)), .second, .val (.double rq_31), .second, .val (.double rq_33), .second, .unset, .unset, .unset, .unset, .unset, .unset, .unset, .unset, .unset, .unset, .unset, .unset, .unset] [])
                refine go_st (fun _ kq => XT.iconstV X33.here hx rfl (1 : Int32) (hb hby at_327) (by decide) kq) ?_
                show Go p e below s _ _ _ T33 (mkF m 328 #[.val (.long x0), .second, .val (.long x1), .second, .val (.long x2), .second, .val (.long x3), .second, .val (.int x4), .val (.long x5), .second, .val (.int (1 : Int32)), .val (.long (Int64.ofNat nu)), .second, .val (.long (Int64.ofNat nd)), .second, .val (.double rq_28), .second, .val (.long (Int64.ofNat na)), .second, .val (.long (Int64.ofNat nb)), .second, .val (.long (Int64.ofNat nc)), .second, .val (.long (Int64.ofNat ne)), .second, .val (.double rq_31), .second, .val (.double rq_33), .second, .unset, .unset, .unset, .unset, .unset, .unset, .unset, .unset, .unset, .unset, .unset, .unset, .unset] [(.int (1 : Int32))])
                refine go_st (fun _ kq => XS.goto X33.here hx rfl (pc0 := 328) (pc' := 332) rfl (hb hby at_328) (by decide) (by decide) kq) ?_
                show Go p e below s _ _ _ T33 (mkF m 332 #[.val (.long x0), .second, .val (.long x1), .second, .val (.long x2), .second, .val (.long x3), .second, .val (.int x4), .val (.long x5), .second, .val (.int (1 : Int32)), .val (.long (Int64.ofNat nu)), .second, .val (.long (Int64.ofNat nd)), .second, .val (.double rq_28), .second, .val (.long (Int64.ofNat na)), .second, .val (.long (Int64.ofNat nb)), .second, .val (.long (Int64.ofNat nc)), .second, .val (.long (Int64.ofNat ne)), .second, .val (.double rq_31), .second, .val (.double rq_33), .second, .unset, .unset, .unset, .unset, .unset, .unset, .unset, .unset, .unset, .unset, .unset, .unset, .unset] [(.int (1 : Int32))])
                refine go_st (fun _ kq => XS.istore X33.here hx rfl (hb hby at_332) rfl (l' := #[.val (.long x0), .second, .val (.long x1), .second, .val (.long x2), .second, .val (.long x3), .second, .val (.int x4), .val (.long x5), .second, .val (.int (1 : Int32)), .val (.long (Int64.ofNat nu)), .second, .val (.long (Int64.ofNat nd)), .second, .val (.double rq_28), .second, .val (.long (Int64.ofNat na)), .second, .val (.long (Int64.ofNat nb)), .second, .val (.long (Int64.ofNat nc)), .second, .val (.long (Int64.ofNat ne)), .second, .val (.double rq_31), .second, .val (.double rq_33), .second, .unset, .unset, .unset, .unset, .unset, .unset, .unset, .unset, .unset, .unset, .unset, .unset, .unset]) rfl kq) ?_
                show Go p e below s _ _ _ T33 (mkF m 334 #[.val (.long x0), .second, .val (.long x1), .second, .val (.long x2), .second, .val (.long x3), .second, .val (.int x4), .val (.long x5), .second, .val (.int (1 : Int32)), .val (.long (Int64.ofNat nu)), .second, .val (.long (Int64.ofNat nd)), .second, .val (.double rq_28), .second, .val (.long (Int64.ofNat na)), .second, .val (.long (Int64.ofNat nb)), .second, .val (.long (Int64.ofNat nc)), .second, .val (.long (Int64.ofNat ne)), .second, .val (.double rq_31), .second, .val (.double rq_33), .second, .unset, .unset, .unset, .unset, .unset, .unset, .unset, .unset, .unset, .unset, .unset, .unset, .unset] [])
                exact J334
            show Go p e below s _ _ _ T33 (mkF m 261 #[.val (.long x0), .second, .val (.long x1), .second, .val (.long x2), .second, .val (.long x3), .second, .val (.int x4), .val (.long x5), .second, .val (.int (1 : Int32)), .val (.long (Int64.ofNat nu)), .second, .val (.long (Int64.ofNat nd)), .second, .val (.double rq_28), .second, .val (.long (Int64.ofNat na)), .second, .val (.long (Int64.ofNat nb)), .second, .val (.long (Int64.ofNat nc)), .second, .val (.long (Int64.ofNat ne)), .second, .val (.double rq_31), .second, .val (.double rq_33), .second, .unset, .unset, .unset, .unset, .unset, .unset, .unset, .unset, .unset, .unset, .unset, .unset, .unset] [])
            refine go_st (fun _ kq => XT.lload X33.here hx rfl (hb hby at_261) rfl kq) ?_
            show Go p e below s _ _ _ T33 (mkF m 263 #[.val (.long x0), .second, .val (.long x1), .second, .val (.long x2), .second, .val (.long x3), .second, .val (.int x4), .val (.long x5), .second, .val (.int (1 : Int32)), .val (.long (Int64.ofNat nu)), .second, .val (.long (Int64.ofNat nd)), .second, .val (.double rq_28), .second, .val (.long (Int64.ofNat na)), .second, .val (.long (Int64.ofNat nb)), .second, .val (.long (Int64.ofNat nc)), .second, .val (.long (Int64.ofNat ne)), .second, .val (.double rq_31), .second, .val (.double rq_33), .second, .unset, .unset, .unset, .unset, .unset, .unset, .unset, .unset, .unset, .unset, .unset, .unset, .unset] [(.long (Int64.ofNat na))])
            refine go_st (fun _ kq => XT.lconstV X33.here hx rfl (0 : Int64) (hb hby at_263) (by decide) kq) ?_
            show Go p e below s _ _ _ T33 (mkF m 264 #[.val (.long x0), .second, .val (.long x1), .second, .val (.long x2), .second, .val (.long x3), .second, .val (.int x4), .val (.long x5), .second, .val (.int (1 : Int32)), .val (.long (Int64.ofNat nu)), .second, .val (.long (Int64.ofNat nd)), .second, .val (.double rq_28), .second, .val (.long (Int64.ofNat na)), .second, .val (.long (Int64.ofNat nb)), .second, .val (.long (Int64.ofNat nc)), .second, .val (.long (Int64.ofNat ne)), .second, .val (.double rq_31), .second, .val (.double rq_33), .second, .unset, .unset, .unset, .unset, .unset, .unset, .unset, .unset, .unset, .unset, .unset, .unset, .unset] [(.long (0 : Int64)), (.long (Int64.ofNat na))])
            refine go_st (fun _ kq => XT.lcmp X33.here hx rfl (hb hby at_264) rfl kq) ?_
            show Go p e below s _ _ _ T33 (mkF m 265 #[.val (.long x0), .second, .val (.long x1), .second, .val (.long x2), .second, .val (.long x3), .second, .val (.int x4), .val (.long x5), .second, .val (.int (1 : Int32)), .val (.long (Int64.ofNat nu)), .second, .val (.long (Int64.ofNat nd)), .second, .val (.double rq_28), .second, .val (.long (Int64.ofNat na)), .second, .val (.long (Int64.ofNat nb)), .second, .val (.long (Int64.ofNat nc)), .second, .val (.long (Int64.ofNat ne)), .second, .val (.double rq_31), .second, .val (.double rq_33), .second, .unset, .unset, .unset, .unset, .unset, .unset, .unset, .unset, .unset, .unset, .unset, .unset, .unset] [(.int (XT.cmpL (Int64.ofNat na) (0 : Int64)))])
            by_cases hc50 : (Int64.ofNat na) = (0 : Int64)
            · refine go_st (fun _ kq => XS.ifNo X33.here hx rfl (hb hby at_265) rfl (XT.ll_ne_f hc50) kq) ?_
              show Go p e below s _ _ _ T33 (mkF m 268 #[.val (.long x0), .second, .val (.long x1), .second, .val (.long x2), .second, .val (.long x3), .second, .val (.int x4), .val (.long x5), .second, .val (.int (1 : Int32)), .val (.long (Int64.ofNat nu)), .second, .val (.long (Int64.ofNat nd)), .second, .val (.double rq_28), .second, .val (.long (Int64.ofNat na)), .second, .val (.long (Int64.ofNat nb)), .second, .val (.long (Int64.ofNat nc)), .second, .val (.long (Int64.ofNat ne)), .second, .val (.double rq_31), .second, .val (.double rq_33), .second, .unset, .unset, .unset, .unset, .unset, .unset, .unset, .unset, .unset, .unset, .unset, .unset, .unset] [])
              refine go_st (fun _ kq => XT.iconstV X33.here hx rfl (1 : Int32) (hb hby at_268) (by decide) kq) ?_
              show Go p e below s _ _ _ T33 (mkF m 269 #[.val (.long x0), .second, .val (.long x1), .second, .val (.long x2), .second, .val (.long x3), .second, .val (.int x4), .val (.long x5), .second, .val (.int (1 : Int32)), .val (.long (Int64.ofNat nu)), .second, .val (.long (Int64.ofNat nd)), .second, .val (.double rq_28), .second, .val (.long (Int64.ofNat na)), .second, .val (.long (Int64.ofNat nb)), .second, .val (.long (Int64.ofNat nc)), .second, .val (.long (Int64.ofNat ne)), .second, .val (.double rq_31), .second, .val (.double rq_33), .second, .unset, .unset, .unset, .unset, .unset, .unset, .unset, .unset, .unset, .unset, .unset, .unset, .unset] [(.int (1 : Int32))])
              refine go_st (fun _ kq => XS.goto X33.here hx rfl (pc0 := 269) (pc' := 273) rfl (hb hby at_269) (by decide) (by decide) kq) ?_
              show Go p e below s _ _ _ T33 (mkF m 273 #[.val (.long x0), .second, .val (.long x1), .second, .val (.long x2), .second, .val (.long x3), .second, .val (.int x4), .val (.long x5), .second, .val (.int (1 : Int32)), .val (.long (Int64.ofNat nu)), .second, .val (.long (Int64.ofNat nd)), .second, .val (.double rq_28), .second, .val (.long (Int64.ofNat na)), .second, .val (.long (Int64.ofNat nb)), .second, .val (.long (Int64.ofNat nc)), .second, .val (.long (Int64.ofNat ne)), .second, .val (.double rq_31), .second, .val (.double rq_33), .second, .unset, .unset, .unset, .unset, .unset, .unset, .unset, .unset, .unset, .unset, .unset, .unset, .unset] [(.int (1 : Int32))])
              refine go_st (fun _ kq => XS.dload X33.here hx rfl (hb hby at_273) rfl kq) ?_
              show Go p e below s _ _ _ T33 (mkF m 275 #[.val (.long x0), .second, .val (.long x1), .second, .val (.long x2), .second, .val (.long x3), .second, .val (.int x4), .val (.long x5), .second, .val (.int (1 : Int32)), .val (.long (Int64.ofNat nu)), .second, .val (.long (Int64.ofNat nd)), .second, .val (.double rq_28), .second, .val (.long (Int64.ofNat na)), .second, .val (.long (Int64.ofNat nb)), .second, .val (.long (Int64.ofNat nc)), .second, .val (.long (Int64.ofNat ne)), .second, .val (.double rq_31), .second, .val (.double rq_33), .second, .unset, .unset, .unset, .unset, .unset, .unset, .unset, .unset, .unset, .unset, .unset, .unset, .unset] [(.double rq_31), (.int (1 : Int32))])
              refine go_st (fun _ kq => XS.dconst1 X33.here hx rfl (hb hby at_275) rfl kq) ?_
              show Go p e below s _ _ _ T33 (mkF m 276 #[.val (.long x0), .second, .val (.long x1), .second, .val (.long x2), .second, .val (.long x3), .second, .val (.int x4), .val (.long x5), .second, .val (.int (1 : Int32)), .val (.long (Int64.ofNat nu)), .second, .val (.long (Int64.ofNat nd)), .second, .val (.double rq_28), .second, .val (.long (Int64.ofNat na)), .second, .val (.long (Int64.ofNat nb)), .second, .val (.long (Int64.ofNat nc)), .second, .val (.long (Int64.ofNat ne)), .second, .val (.double rq_31), .second, .val (.double rq_33), .second, .unset, .unset, .unset, .unset, .unset, .unset, .unset, .unset, .unset, .unset, .unset, .unset, .unset] [(.double (FP.dconst1)), (.double rq_31), (.int (1 : Int32))])
              refine go_st (fun _ kq => XS.dcmpS X33.here hx rfl (hb hby at_276) rfl rfl kq) ?_
              show Go p e below s _ _ _ T33 (mkF m 277 #[.val (.long x0), .second, .val (.long x1), .second, .val (.long x2), .second, .val (.long x3), .second, .val (.int x4), .val (.long x5), .second, .val (.int (1 : Int32)), .val (.long (Int64.ofNat nu)), .second, .val (.long (Int64.ofNat nd)), .second, .val (.double rq_28), .second, .val (.long (Int64.ofNat na)), .second, .val (.long (Int64.ofNat nb)), .second, .val (.long (Int64.ofNat nc)), .second, .val (.long (Int64.ofNat ne)), .second, .val (.double rq_31), .second, .val (.double rq_33), .second, .unset, .unset, .unset, .unset, .unset, .unset, .unset, .unset, .unset, .unset, .unset, .unset, .unset] [(.int (cmpValue (FP.dcmp rq_31 (FP.dconst1)) .l)), (.int (1 : Int32))])
              have hb51 : (cmpValue (FP.dcmp rq_31 (FP.dconst1)) .l) = (0 : Int32) := by rw [show FP.dcmp rq_31 (FP.dconst1) = _ from VZ.cmp vy (own_v1 hPP)]; exact own_cl_eq (by have := own_eq0 (by omega) hc50; omega)
              refine go_st (fun _ kq => XS.ifNo X33.here hx rfl (hb hby at_277) rfl (XT.i0_ne_f hb51) kq) ?_
              show Go p e below s _ _ _ T33 (mkF m 280 #[.val (.long x0), .second, .val (.long x1), .second, .val (.long x2), .second, .val (.long x3), .second, .val (.int x4), .val (.long x5), .second, .val (.int (1 : Int32)), .val (.long (Int64.ofNat nu)), .second, .val (.long (Int64.ofNat nd)), .second, .val (.double rq_28), .second, .val (.long (Int64.ofNat na)), .second, .val (.long (Int64.ofNat nb)), .second, .val (.long (Int64.ofNat nc)), .second, .val (.long (Int64.ofNat ne)), .second, .val (.double rq_31), .second, .val (.double rq_33), .second, .unset, .unset, .unset, .unset, .unset, .unset, .unset, .unset, .unset, .unset, .unset, .unset, .unset] [(.int (1 : Int32))])
              refine go_st (fun _ kq => XT.iconstV X33.here hx rfl (1 : Int32) (hb hby at_280) (by decide) kq) ?_
              show Go p e below s _ _ _ T33 (mkF m 281 #[.val (.long x0), .second, .val (.long x1), .second, .val (.long x2), .second, .val (.long x3), .second, .val (.int x4), .val (.long x5), .second, .val (.int (1 : Int32)), .val (.long (Int64.ofNat nu)), .second, .val (.long (Int64.ofNat nd)), .second, .val (.double rq_28), .second, .val (.long (Int64.ofNat na)), .second, .val (.long (Int64.ofNat nb)), .second, .val (.long (Int64.ofNat nc)), .second, .val (.long (Int64.ofNat ne)), .second, .val (.double rq_31), .second, .val (.double rq_33), .second, .unset, .unset, .unset, .unset, .unset, .unset, .unset, .unset, .unset, .unset, .unset, .unset, .unset] [(.int (1 : Int32)), (.int (1 : Int32))])
              refine go_st (fun _ kq => XS.goto X33.here hx rfl (pc0 := 281) (pc' := 285) rfl (hb hby at_281) (by decide) (by decide) kq) ?_
              show Go p e below s _ _ _ T33 (mkF m 285 #[.val (.long x0), .second, .val (.long x1), .second, .val (.long x2), .second, .val (.long x3), .second, .val (.int x4), .val (.long x5), .second, .val (.int (1 : Int32)), .val (.long (Int64.ofNat nu)), .second, .val (.long (Int64.ofNat nd)), .second, .val (.double rq_28), .second, .val (.long (Int64.ofNat na)), .second, .val (.long (Int64.ofNat nb)), .second, .val (.long (Int64.ofNat nc)), .second, .val (.long (Int64.ofNat ne)), .second, .val (.double rq_31), .second, .val (.double rq_33), .second, .unset, .unset, .unset, .unset, .unset, .unset, .unset, .unset, .unset, .unset, .unset, .unset, .unset] [(.int (1 : Int32)), (.int (1 : Int32))])
              refine go_st (fun _ kq => XS.icmpNo X33.here hx rfl (hb hby at_285) rfl (XT.ii_ne_f (by decide)) kq) ?_
              show Go p e below s _ _ _ T33 (mkF m 288 #[.val (.long x0), .second, .val (.long x1), .second, .val (.long x2), .second, .val (.long x3), .second, .val (.int x4), .val (.long x5), .second, .val (.int (1 : Int32)), .val (.long (Int64.ofNat nu)), .second, .val (.long (Int64.ofNat nd)), .second, .val (.double rq_28), .second, .val (.long (Int64.ofNat na)), .second, .val (.long (Int64.ofNat nb)), .second, .val (.long (Int64.ofNat nc)), .second, .val (.long (Int64.ofNat ne)), .second, .val (.double rq_31), .second, .val (.double rq_33), .second, .unset, .unset, .unset, .unset, .unset, .unset, .unset, .unset, .unset, .unset, .unset, .unset, .unset] [])
              refine go_st (fun _ kq => XT.iconstV X33.here hx rfl (1 : Int32) (hb hby at_288) (by decide) kq) ?_
              show Go p e below s _ _ _ T33 (mkF m 289 #[.val (.long x0), .second, .val (.long x1), .second, .val (.long x2), .second, .val (.long x3), .second, .val (.int x4), .val (.long x5), .second, .val (.int (1 : Int32)), .val (.long (Int64.ofNat nu)), .second, .val (.long (Int64.ofNat nd)), .second, .val (.double rq_28), .second, .val (.long (Int64.ofNat na)), .second, .val (.long (Int64.ofNat nb)), .second, .val (.long (Int64.ofNat nc)), .second, .val (.long (Int64.ofNat ne)), .second, .val (.double rq_31), .second, .val (.double rq_33), .second, .unset, .unset, .unset, .unset, .unset, .unset, .unset, .unset, .unset, .unset, .unset, .unset, .unset] [(.int (1 : Int32))])
              refine go_st (fun _ kq => XS.goto X33.here hx rfl (pc0 := 289) (pc' := 293) rfl (hb hby at_289) (by decide) (by decide) kq) ?_
              show Go p e below s _ _ _ T33 (mkF m 293 #[.val (.long x0), .second, .val (.long x1), .second, .val (.long x2), .second, .val (.long x3), .second, .val (.int x4), .val (.long x5), .second, .val (.int (1 : Int32)), .val (.long (Int64.ofNat nu)), .second, .val (.long (Int64.ofNat nd)), .second, .val (.double rq_28), .second, .val (.long (Int64.ofNat na)), .second, .val (.long (Int64.ofNat nb)), .second, .val (.long (Int64.ofNat nc)), .second, .val (.long (Int64.ofNat ne)), .second, .val (.double rq_31), .second, .val (.double rq_33), .second, .unset, .unset, .unset, .unset, .unset, .unset, .unset, .unset, .unset, .unset, .unset, .unset, .unset] [(.int (1 : Int32))])
              refine go_st (fun _ kq => XS.istore X33.here hx rfl (hb hby at_293) rfl (l' := #[.val (.long x0), .second, .val (.long x1), .second, .val (.long x2), .second, .val (.long x3), .second, .val (.int x4), .val (.long x5), .second, .val (.int (1 : Int32)), .val (.long (Int64.ofNat nu)), .second, .val (.long (Int64.ofNat nd)), .second, .val (.double rq_28), .second, .val (.long (Int64.ofNat na)), .second, .val (.long (Int64.ofNat nb)), .second, .val (.long (Int64.ofNat nc)), .second, .val (.long (Int64.ofNat ne)), .second, .val (.double rq_31), .second, .val (.double rq_33), .second, .unset, .unset, .unset, .unset, .unset, .unset, .unset, .unset, .unset, .unset, .unset, .unset, .unset]) rfl kq) ?_
              show Go p e below s _ _ _ T33 (mkF m 295 #[.val (.long x0), .second, .val (.long x1), .second, .val (.long x2), .second, .val (.long x3), .second, .val (.int x4), .val (.long x5), .second, .val (.int (1 : Int32)), .val (.long (Int64.ofNat nu)), .second, .val (.long (Int64.ofNat nd)), .second, .val (.double rq_28), .second, .val (.long (Int64.ofNat na)), .second, .val (.long (Int64.ofNat nb)), .second, .val (.long (Int64.ofNat nc)), .second, .val (.long (Int64.ofNat ne)), .second, .val (.double rq_31), .second, .val (.double rq_33), .second, .unset, .unset, .unset, .unset, .unset, .unset, .unset, .unset, .unset, .unset, .unset, .unset, .unset] [])
              exact J295
            · refine go_st (fun _ kq => XS.ifYes X33.here hx rfl (pc0 := 265) (pc' := 272) rfl (hb hby at_265) rfl (XT.ll_ne_t hc50) (by decide) (by decide) kq) ?_
              show Go p e below s _ _ _ T33 (mkF m 272 #[.val (.long x0), .second, .val (.long x1), .second, .val (.long x2), .second, .val (.long x3), .second, .val (.int x4), .val (.long x5), .second, .val (.int (1 : Int32)), .val (.long (Int64.ofNat nu)), .second, .val (.long (Int64.ofNat nd)), .second, .val (.double rq_28), .second, .val (.long (Int64.ofNat na)), .second, .val (.long (Int64.ofNat nb)), .second, .val (.long (Int64.ofNat nc)), .second, .val (.long (Int64.ofNat ne)), .second, .val (.double rq_31), .second, .val (.double rq_33), .second, .unset, .unset, .unset, .unset, .unset, .unset, .unset, .unset, .unset, .unset, .unset, .unset, .unset] [])
              refine go_st (fun _ kq => XT.iconstV X33.here hx rfl (0 : Int32) (hb hby at_272) (by decide) kq) ?_
              show Go p e below s _ _ _ T33 (mkF m 273 #[.val (.long x0), .second, .val (.long x1), .second, .val (.long x2), .second, .val (.long x3), .second, .val (.int x4), .val (.long x5), .second, .val (.int (1 : Int32)), .val (.long (Int64.ofNat nu)), .second, .val (.long (Int64.ofNat nd)), .second, .val (.double rq_28), .second, .val (.long (Int64.ofNat na)), .second, .val (.long (Int64.ofNat nb)), .second, .val (.long (Int64.ofNat nc)), .second, .val (.long (Int64.ofNat ne)), .second, .val (.double rq_31), .second, .val (.double rq_33), .second, .unset, .unset, .unset, .unset, .unset, .unset, .unset, .unset, .unset, .unset, .unset, .unset, .unset] [(.int (0 : Int32))])
              refine go_st (fun _ kq => XS.dload X33.here hx rfl (hb hby at_273) rfl kq) ?_
              show Go p e below s _ _ _ T33 (mkF m 275 #[.val (.long x0), .second, .val (.long x1), .second, .val (.long x2), .second, .val (.long x3), .second, .val (.int x4), .val (.long x5), .second, .val (.int (1 : Int32)), .val (.long (Int64.ofNat nu)), .second, .val (.long (Int64.ofNat nd)), .second, .val (.double rq_28), .second, .val (.long (Int64.ofNat na)), .second, .val (.long (Int64.ofNat nb)), .second, .val (.long (Int64.ofNat nc)), .second, .val (.long (Int64.ofNat ne)), .second, .val (.double rq_31), .second, .val (.double rq_33), .second, .unset, .unset, .unset, .unset, .unset, .unset, .unset, .unset, .unset, .unset, .unset, .unset, .unset] [(.double rq_31), (.int (0 : Int32))])
              refine go_st (fun _ kq => XS.dconst1 X33.here hx rfl (hb hby at_275) rfl kq) ?_
              show Go p e below s _ _ _ T33 (mkF m 276 #[.val (.long x0), .second, .val (.long x1), .second, .val (.long x2), .second, .val (.long x3), .second, .val (.int x4), .val (.long x5), .second, .val (.int (1 : Int32)), .val (.long (Int64.ofNat nu)), .second, .val (.long (Int64.ofNat nd)), .second, .val (.double rq_28), .second, .val (.long (Int64.ofNat na)), .second, .val (.long (Int64.ofNat nb)), .second, .val (.long (Int64.ofNat nc)), .second, .val (.long (Int64.ofNat ne)), .second, .val (.double rq_31), .second, .val (.double rq_33), .second, .unset, .unset, .unset, .unset, .unset, .unset, .unset, .unset, .unset, .unset, .unset, .unset, .unset] [(.double (FP.dconst1)), (.double rq_31), (.int (0 : Int32))])
              refine go_st (fun _ kq => XS.dcmpS X33.here hx rfl (hb hby at_276) rfl rfl kq) ?_
              show Go p e below s _ _ _ T33 (mkF m 277 #[.val (.long x0), .second, .val (.long x1), .second, .val (.long x2), .second, .val (.long x3), .second, .val (.int x4), .val (.long x5), .second, .val (.int (1 : Int32)), .val (.long (Int64.ofNat nu)), .second, .val (.long (Int64.ofNat nd)), .second, .val (.double rq_28), .second, .val (.long (Int64.ofNat na)), .second, .val (.long (Int64.ofNat nb)), .second, .val (.long (Int64.ofNat nc)), .second, .val (.long (Int64.ofNat ne)), .second, .val (.double rq_31), .second, .val (.double rq_33), .second, .unset, .unset, .unset, .unset, .unset, .unset, .unset, .unset, .unset, .unset, .unset, .unset, .unset] [(.int (cmpValue (FP.dcmp rq_31 (FP.dconst1)) .l)), (.int (0 : Int32))])
              have hb52 : ¬ ((cmpValue (FP.dcmp rq_31 (FP.dconst1)) .l) = (0 : Int32)) := by rw [show FP.dcmp rq_31 (FP.dconst1) = _ from VZ.cmp vy (own_v1 hPP)]; exact own_cl_ne (by have := own_ne0 (by omega) hc50; omega)
              refine go_st (fun _ kq => XS.ifYes X33.here hx rfl (pc0 := 277) (pc' := 284) rfl (hb hby at_277) rfl (XT.i0_ne_t hb52) (by decide) (by decide) kq) ?_
              show Go p e below s _ _ _ T33 (mkF m 284 #[.val (.long x0), .second, .val (.long x1), .second, .val (.long x2), .second, .val (.long x3), .second, .val (.int x4), .val (.long x5), .second, .val (.int (1 : Int32)), .val (.long (Int64.ofNat nu)), .second, .val (.long (Int64.ofNat nd)), .second, .val (.double rq_28), .second, .val (.long (Int64.ofNat na)), .second, .val (.long (Int64.ofNat nb)), .second, .val (.long (Int64.ofNat nc)), .second, .val (.long (Int64.ofNat ne)), .second, .val (.double rq_31), .second, .val (.double rq_33), .second, .unset, .unset, .unset, .unset, .unset, .unset, .unset, .unset, .unset, .unset, .unset, .unset, .unset] [(.int (0 : Int32))])
              refine go_st (fun _ kq => XT.iconstV X33.here hx rfl (0 : Int32) (hb hby at_284) (by decide) kq) ?_
              show Go p e below s _ _ _ T33 (mkF m 285 #[.val (.long x0), .second, .val (.long x1), .second, .val (.long x2), .second, .val (.long x3), .second, .val (.int x4), .val (.long x5), .second, .val (.int (1 : Int32)), .val (.long (Int64.ofNat nu)), .second, .val (.long (Int64.ofNat nd)), .second, .val (.double rq_28), .second, .val (.long (Int64.ofNat na)), .second, .val (.long (Int64.ofNat nb)), .second, .val (.long (Int64.ofNat nc)), .second, .val (.long (Int64.ofNat ne)), .second, .val (.double rq_31), .second, .val (.double rq_33), .second, .unset, .unset, .unset, .unset, .unset, .unset, .unset, .unset, .unset, .unset, .unset, .unset, .unset] [(.int (0 : Int32)), (.int (0 : Int32))])
              refine go_st (fun _ kq => XS.icmpNo X33.here hx rfl (hb hby at_285) rfl (XT.ii_ne_f (by decide)) kq) ?_
              show Go p e below s _ _ _ T33 (mkF m 288 #[.val (.long x0), .second, .val (.long x1), .second, .val (.long x2), .second, .val (.long x3), .second, .val (.int x4), .val (.long x5), .second, .val (.int (1 : Int32)), .val (.long (Int64.ofNat nu)), .second, .val (.long (Int64.ofNat nd)), .second, .val (.double rq_28), .second, .val (.long (Int64.ofNat na)), .second, .val (.long (Int64.ofNat nb)), .second, .val (.long (Int64.ofNat nc)), .second, .val (.long (Int64.ofNat ne)), .second, .val (.double rq_31), .second, .val (.double rq_33), .second, .unset, .unset, .unset, .unset, .unset, .unset, .unset, .unset, .unset, .unset, .unset, .unset, .unset] [])
              refine go_st (fun _ kq => XT.iconstV X33.here hx rfl (1 : Int32) (hb hby at_288) (by decide) kq) ?_
              show Go p e below s _ _ _ T33 (mkF m 289 #[.val (.long x0), .second, .val (.long x1), .second, .val (.long x2), .second, .val (.long x3), .second, .val (.int x4), .val (.long x5), .second, .val (.int (1 : Int32)), .val (.long (Int64.ofNat nu)), .second, .val (.long (Int64.ofNat nd)), .second, .val (.double rq_28), .second, .val (.long (Int64.ofNat na)), .second, .val (.long (Int64.ofNat nb)), .second, .val (.long (Int64.ofNat nc)), .second, .val (.long (Int64.ofNat ne)), .second, .val (.double rq_31), .second, .val (.double rq_33), .second, .unset, .unset, .unset, .unset, .unset, .unset, .unset, .unset, .unset, .unset, .unset, .unset, .unset] [(.int (1 : Int32))])
              refine go_st (fun _ kq => XS.goto X33.here hx rfl (pc0 := 289) (pc' := 293) rfl (hb hby at_289) (by decide) (by decide) kq) ?_
              show Go p e below s _ _ _ T33 (mkF m 293 #[.val (.long x0), .second, .val (.long x1), .second, .val (.long x2), .second, .val (.long x3), .second, .val (.int x4), .val (.long x5), .second, .val (.int (1 : Int32)), .val (.long (Int64.ofNat nu)), .second, .val (.long (Int64.ofNat nd)), .second, .val (.double rq_28), .second, .val (.long (Int64.ofNat na)), .second, .val (.long (Int64.ofNat nb)), .second, .val (.long (Int64.ofNat nc)), .second, .val (.long (Int64.ofNat ne)), .second, .val (.double rq_31), .second, .val (.double rq_33), .second, .unset, .unset, .unset, .unset, .unset, .unset, .unset, .unset, .unset, .unset, .unset, .unset, .unset] [(.int (1 : Int32))])
              refine go_st (fun _ kq => XS.istore X33.here hx rfl (hb hby at_293) rfl (l' := #[.val (.long x0), .second, .val (.long x1), .second, .val (.long x2), .second, .val (.long x3), .second, .val (.int x4), .val (.long x5), .second, .val (.int (1 : Int32)), .val (.long (Int64.ofNat nu)), .second, .val (.long (Int64.ofNat nd)), .second, .val (.double rq_28), .second, .val (.long (Int64.ofNat na)), .second, .val (.long (Int64.ofNat nb)), .second, .val (.long (Int64.ofNat nc)), .second, .val (.long (Int64.ofNat ne)), .second, .val (.double rq_31), .second, .val (.double rq_33), .second, .unset, .unset, .unset, .unset, .unset, .unset, .unset, .unset, .unset, .unset, .unset, .unset, .unset]) rfl kq) ?_
              show Go p e below s _ _ _ T33 (mkF m 295 #[.val (.long x0), .second, .val (.long x1), .second, .val (.long x2), .second, .val (.long x3), .second, .val (.int x4), .val (.long x5), .second, .val (.int (1 : Int32)), .val (.long (Int64.ofNat nu)), .second, .val (.long (Int64.ofNat nd)), .second, .val (.double rq_28), .second, .val (.long (Int64.ofNat na)), .second, .val (.long (Int64.ofNat nb)), .second, .val (.long (Int64.ofNat nc)), .second, .val (.long (Int64.ofNat ne)), .second, .val (.double rq_31), .second, .val (.double rq_33), .second, .unset, .unset, .unset, .unset, .unset, .unset, .unset, .unset, .unset, .unset, .unset, .unset, .unset] [])
              exact J295
          show Go p e below s _ _ _ T28 (mkF m 181 #[.val (.long x0), .second, .val (.long x1), .second, .val (.long x2), .second, .val (.long x3), .second, .val (.int x4), .val (.long x5), .second, .val (.int (1 : Int32)), .val (.long (Int64.ofNat nu)), .second, .val (.long (Int64.ofNat nd)), .second, .val (.double rq_28), .second, .val (.long (Int64.ofNat na)), .second, .val (.long (Int64.ofNat nb)), .second, .val (.long (Int64.ofNat nc)), .second, .val (.long (Int64.ofNat ne0)), .second, .unset, .unset, .unset, .unset, .unset, .unset, .unset, .unset, .unset, .unset, .unset, .unset, .unset, .unset, .unset, .unset, .unset] [])
          refine go_st (fun _ kq => XT.lload X28.here hx rfl (hb hby at_181) rfl kq) ?_
          show Go p e below s _ _ _ T28 (mkF m 183 #[.val (.long x0), .second, .val (.long x1), .second, .val (.long x2), .second, .val (.long x3), .second, .val (.int x4), .val (.long x5), .second, .val (.int (1 : Int32)), .val (.long (Int64.ofNat nu)), .second, .val (.long (Int64.ofNat nd)), .second, .val (.double rq_28), .second, .val (.long (Int64.ofNat na)), .second, .val (.long (Int64.ofNat nb)), .second, .val (.long (Int64.ofNat nc)), .second, .val (.long (Int64.ofNat ne0)), .second, .unset, .unset, .unset, .unset, .unset, .unset, .unset, .unset, .unset, .unset, .unset, .unset, .unset, .unset, .unset, .unset, .unset] [(.long (Int64.ofNat nc))])
          refine go_st (fun _ kq => XT.lconstV X28.here hx rfl (0 : Int64) (hb hby at_183) (by decide) kq) ?_
          show Go p e below s _ _ _ T28 (mkF m 184 #[.val (.long x0), .second, .val (.long x1), .second, .val (.long x2), .second, .val (.long x3), .second, .val (.int x4), .val (.long x5), .second, .val (.int (1 : Int32)), .val (.long (Int64.ofNat nu)), .second, .val (.long (Int64.ofNat nd)), .second, .val (.double rq_28), .second, .val (.long (Int64.ofNat na)), .second, .val (.long (Int64.ofNat nb)), .second, .val (.long (Int64.ofNat nc)), .second, .val (.long (Int64.ofNat ne0)), .second, .unset, .unset, .unset, .unset, .unset, .unset, .unset, .unset, .unset, .unset, .unset, .unset, .unset, .unset, .unset, .unset, .unset] [(.long (0 : Int64)), (.long (Int64.ofNat nc))])
          refine go_st (fun _ kq => XT.lcmp X28.here hx rfl (hb hby at_184) rfl kq) ?_
          show Go p e below s _ _ _ T28 (mkF m 185 #[.val (.long x0), .second, .val (.long x1), .second, .val (.long x2), .second, .val (.long x3), .second, .val (.int x4), .val (.long x5), .second, .val (.int (1 : Int32)), .val (.long (Int64.ofNat nu)), .second, .val (.long (Int64.ofNat nd)), .second, .val (.double rq_28), .second, .val (.long (Int64.ofNat na)), .second, .val (.long (Int64.ofNat nb)), .second, .val (.long (Int64.ofNat nc)), .second, .val (.long (Int64.ofNat ne0)), .second, .unset, .unset, .unset, .unset, .unset, .unset, .unset, .unset, .unset, .unset, .unset, .unset, .unset, .unset, .unset, .unset, .unset] [(.int (XT.cmpL (Int64.ofNat nc) (0 : Int64)))])
          by_cases hc53 : (Int64.ofNat nc) = (0 : Int64)
          · refine go_st (fun _ kq => XS.ifNo X28.here hx rfl (hb hby at_185) rfl (XT.ll_ne_f hc53) kq) ?_
            show Go p e below s _ _ _ T28 (mkF m 188 #[.val (.long x0), .second, .val (.long x1), .second, .val (.long x2), .second, .val (.long x3), .second, .val (.int x4), .val (.long x5), .second, .val (.int (1 : Int32)), .val (.long (Int64.ofNat nu)), .second, .val (.long (Int64.ofNat nd)), .second, .val (.double rq_28), .second, .val (.long (Int64.ofNat na)), .second, .val (.long (Int64.ofNat nb)), .second, .val (.long (Int64.ofNat nc)), .second, .val (.long (Int64.ofNat ne0)), .second, .unset, .unset, .unset, .unset, .unset, .unset, .unset, .unset, .unset, .unset, .unset, .unset, .unset, .unset, .unset, .unset, .unset] [])
            refine go_st (fun _ kq => XT.lload X28.here hx rfl (hb hby at_188) rfl kq) ?_
            show Go p e below s _ _ _ T28 (mkF m 190 #[.val (.long x0), .second, .val (.long x1), .second, .val (.long x2), .second, .val (.long x3), .second, .val (.int x4), .val (.long x5), .second, .val (.int (1 : Int32)), .val (.long (Int64.ofNat nu)), .second, .val (.long (Int64.ofNat nd)), .second, .val (.double rq_28), .second, .val (.long (Int64.ofNat na)), .second, .val (.long (Int64.ofNat nb)), .second, .val (.long (Int64.ofNat nc)), .second, .val (.long (Int64.ofNat ne0)), .second, .unset, .unset, .unset, .unset, .unset, .unset, .unset, .unset, .unset, .unset, .unset, .unset, .unset, .unset, .unset, .unset, .unset] [(.long (Int64.ofNat ne0))])
            refine go_st (fun _ kq => XT.lconstV X28.here hx rfl (0 : Int64) (hb hby at_190) (by decide) kq) ?_
            show Go p e below s _ _ _ T28 (mkF m 191 #[.val (.long x0), .second, .val (.long x1), .second, .val (.long x2), .second, .val (.long x3), .second, .val (.int x4), .val (.long x5), .second, .val (.int (1 : Int32)), .val (.long (Int64.ofNat nu)), .second, .val (.long (Int64.ofNat nd)), .second, .val (.double rq_28), .second, .val (.long (Int64.ofNat na)), .second, .val (.long (Int64.ofNat nb)), .second, .val (.long (Int64.ofNat nc)), .second, .val (.long (Int64.ofNat ne0)), .second, .unset, .unset, .unset, .unset, .unset, .unset, .unset, .unset, .unset, .unset, .unset, .unset, .unset, .unset, .unset, .unset, .unset] [(.long (0 : Int64)), (.long (Int64.ofNat ne0))])
            refine go_st (fun _ kq => XT.lcmp X28.here hx rfl (hb hby at_191) rfl kq) ?_
            show Go p e below s _ _ _ T28 (mkF m 192 #[.val (.long x0), .second, .val (.long x1), .second, .val (.long x2), .second, .val (.long x3), .second, .val (.int x4), .val (.long x5), .second, .val (.int (1 : Int32)), .val (.long (Int64.ofNat nu)), .second, .val (.long (Int64.ofNat nd)), .second, .val (.double rq_28), .second, .val (.long (Int64.ofNat na)), .second, .val (.long (Int64.ofNat nb)), .second, .val (.long (Int64.ofNat nc)), .second, .val (.long (Int64.ofNat ne0)), .second, .unset, .unset, .unset, .unset, .unset, .unset, .unset, .unset, .unset, .unset, .unset, .unset, .unset, .unset, .unset, .unset, .unset] [(.int (XT.cmpL (Int64.ofNat ne0) (0 : Int64)))])
            by_cases hc54 : (Int64.ofNat ne0) = (0 : Int64)
            · refine go_st (fun _ kq => XS.ifNo X28.here hx rfl (hb hby at_192) rfl (XT.ll_ne_f hc54) kq) ?_
              show Go p e below s _ _ _ T28 (mkF m 195 #[.val (.long x0), .second, .val (.long x1), .second, .val (.long x2), .second, .val (.long x3), .second, .val (.int x4), .val (.long x5), .second, .val (.int (1 : Int32)), .val (.long (Int64.ofNat nu)), .second, .val (.long (Int64.ofNat nd)), .second, .val (.double rq_28), .second, .val (.long (Int64.ofNat na)), .second, .val (.long (Int64.ofNat nb)), .second, .val (.long (Int64.ofNat nc)), .second, .val (.long (Int64.ofNat ne0)), .second, .unset, .unset, .unset, .unset, .unset, .unset, .unset, .unset, .unset, .unset, .unset, .unset, .unset, .unset, .unset, .unset, .unset] [])
              refine go_st (fun _ kq => XT.lconstV X28.here hx rfl (1 : Int64) (hb hby at_195) (by decide) kq) ?_
              show Go p e below s _ _ _ T28 (mkF m 196 #[.val (.long x0), .second, .val (.long x1), .second, .val (.long x2), .second, .val (.long x3), .second, .val (.int x4), .val (.long x5), .second, .val (.int (1 : Int32)), .val (.long (Int64.ofNat nu)), .second, .val (.long (Int64.ofNat nd)), .second, .val (.double rq_28), .second, .val (.long (Int64.ofNat na)), .second, .val (.long (Int64.ofNat nb)), .second, .val (.long (Int64.ofNat nc)), .second, .val (.long (Int64.ofNat ne0)), .second, .unset, .unset, .unset, .unset, .unset, .unset, .unset, .unset, .unset, .unset, .unset, .unset, .unset, .unset, .unset, .unset, .unset] [(.long (1 : Int64))])
              refine go_st (fun _ kq => XT.lstore X28.here hx rfl (hb hby at_196) rfl (l' := #[.val (.long x0), .second, .val (.long x1), .second, .val (.long x2), .second, .val (.long x3), .second, .val (.int x4), .val (.long x5), .second, .val (.int (1 : Int32)), .val (.long (Int64.ofNat nu)), .second, .val (.long (Int64.ofNat nd)), .second, .val (.double rq_28), .second, .val (.long (Int64.ofNat na)), .second, .val (.long (Int64.ofNat nb)), .second, .val (.long (Int64.ofNat nc)), .second, .val (.long (1 : Int64)), .second, .unset, .unset, .unset, .unset, .unset, .unset, .unset, .unset, .unset, .unset, .unset, .unset, .unset, .unset, .unset, .unset, .unset]) rfl kq) ?_
              show Go p e below s _ _ _ T28 (mkF m 198 #[.val (.long x0), .second, .val (.long x1), .second, .val (.long x2), .second, .val (.long x3), .second, .val (.int x4), .val (.long x5), .second, .val (.int (1 : Int32)), .val (.long (Int64.ofNat nu)), .second, .val (.long (Int64.ofNat nd)), .second, .val (.double rq_28), .second, .val (.long (Int64.ofNat na)), .second, .val (.long (Int64.ofNat nb)), .second, .val (.long (Int64.ofNat nc)), .second, .val (.long (1 : Int64)), .second, .unset, .unset, .unset, .unset, .unset, .unset, .unset, .unset, .unset, .unset, .unset, .unset, .unset, .unset, .unset, .unset, .unset] [])
              exact J198 1 (by omega) (by omega)
            · refine go_st (fun _ kq => XS.ifYes X28.here hx rfl (pc0 := 192) (pc' := 198) rfl (hb hby at_192) rfl (XT.ll_ne_t hc54) (by decide) (by decide) kq) ?_
              show Go p e below s _ _ _ T28 (mkF m 198 #[.val (.long x0), .second, .val (.long x1), .second, .val (.long x2), .second, .val (.long x3), .second, .val (.int x4), .val (.long x5), .second, .val (.int (1 : Int32)), .val (.long (Int64.ofNat nu)), .second, .val (.long (Int64.ofNat nd)), .second, .val (.double rq_28), .second, .val (.long (Int64.ofNat na)), .second, .val (.long (Int64.ofNat nb)), .second, .val (.long (Int64.ofNat nc)), .second, .val (.long (Int64.ofNat ne0)), .second, .unset, .unset, .unset, .unset, .unset, .unset, .unset, .unset, .unset, .unset, .unset, .unset, .unset, .unset, .unset, .unset, .unset] [])
              have hp55 := own_ne0 (by omega) hc54
              exact J198 ne0 (by omega) (by omega)
          · refine go_st (fun _ kq => XS.ifYes X28.here hx rfl (pc0 := 185) (pc' := 198) rfl (hb hby at_185) rfl (XT.ll_ne_t hc53) (by decide) (by decide) kq) ?_
            show Go p e below s _ _ _ T28 (mkF m 198 #[.val (.long x0), .second, .val (.long x1), .second, .val (.long x2), .second, .val (.long x3), .second, .val (.int x4), .val (.long x5), .second, .val (.int (1 : Int32)), .val (.long (Int64.ofNat nu)), .second, .val (.long (Int64.ofNat nd)), .second, .val (.double rq_28), .second, .val (.long (Int64.ofNat na)), .second, .val (.long (Int64.ofNat nb)), .second, .val (.long (Int64.ofNat nc)), .second, .val (.long (Int64.ofNat ne0)), .second, .unset, .unset, .unset, .unset, .unset, .unset, .unset, .unset, .unset, .unset, .unset, .unset, .unset, .unset, .unset, .unset, .unset] [])
            have hp56 := own_ne0 (by omega) hc53
            exact J198 ne0 (by omega) (by omega)
        show Go p e below s _ _ _ T28 (mkF m 164 #[.val (.long x0), .second, .val (.long x1), .second, .val (.long x2), .second, .val (.long x3), .second, .val (.int x4), .val (.long x5), .second, .val (.int (1 : Int32)), .val (.long (Int64.ofNat nu)), .second, .val (.long (Int64.ofNat nd)), .second, .val (.double rq_28), .second, .val (.long (Int64.ofNat na)), .second, .val (.long (Int64.ofNat nb0)), .second, .val (.long (Int64.ofNat nc)), .second, .val (.long (Int64.ofNat ne0)), .second, .unset, .unset, .unset, .unset, .unset, .unset, .unset, .unset, .unset, .unset, .unset, .unset, .unset, .unset, .unset, .unset, .unset] [])
        refine go_st (fun _ kq => XT.lload X28.here hx rfl (hb hby at_164) rfl kq) ?_
        show Go p e below s _ _ _ T28 (mkF m 166 #[.val (.long x0), .second, .val (.long x1), .second, .val (.long x2), .second, .val (.long x3), .second, .val (.int x4), .val (.long x5), .second, .val (.int (1 : Int32)), .val (.long (Int64.ofNat nu)), .second, .val (.long (Int64.ofNat nd)), .second, .val (.double rq_28), .second, .val (.long (Int64.ofNat na)), .second, .val (.long (Int64.ofNat nb0)), .second, .val (.long (Int64.ofNat nc)), .second, .val (.long (Int64.ofNat ne0)), .second, .unset, .unset, .unset, .unset, .unset, .unset, .unset, .unset, .unset, .unset, .unset, .unset, .unset, .unset, .unset, .unset, .unset] [(.long (Int64.ofNat na))])
        refine go_st (fun _ kq => XT.lconstV X28.here hx rfl (0 : Int64) (hb hby at_166) (by decide) kq) ?_
        show Go p e below s _ _ _ T28 (mkF m 167 #[.val (.long x0), .second, .val (.long x1), .second, .val (.long x2), .second, .val (.long x3), .second, .val (.int x4), .val (.long x5), .second, .val (.int (1 : Int32)), .val (.long (Int64.ofNat nu)), .second, .val (.long (Int64.ofNat nd)), .second, .val (.double rq_28), .second, .val (.long (Int64.ofNat na)), .second, .val (.long (Int64.ofNat nb0)), .second, .val (.long (Int64.ofNat nc)), .second, .val (.long (Int64.ofNat ne0)), .second, .unset, .unset, .unset, .unset, .unset, .unset, .unset, .unset, .unset, .unset, .unset, .unset, .unset, .unset, .unset, .unset, .unset] [(.long (0 : Int64)), (.long (Int64.ofNat na))])
        refine go_st (fun _ kq => XT.lcmp X28.here hx rfl (hb hby at_167) rfl kq) ?_
        show Go p e below s _ _ _ T28 (mkF m 168 #[.val (.long x0), .second, .val (.long x1), .second, .val (.long x2), .second, .val (.long x3), .second, .val (.int x4), .val (.long x5), .second, .val (.int (1 : Int32)), .val (.long (Int64.ofNat nu)), .second, .val (.long (Int64.ofNat nd)), .second, .val (.double rq_28), .second, .val (.long (Int64.ofNat na)), .second, .val (.long (Int64.ofNat nb0)), .second, .val (.long (Int64.ofNat nc)), .second, .val (.long (Int64.ofNat ne0)), .second, .unset, .unset, .unset, .unset, .unset, .unset, .unset, .unset, .unset, .unset, .unset, .unset, .unset, .unset, .unset, .unset, .unset] [(.int (XT.cmpL (Int64.ofNat na) (0 : Int64)))])
        by_cases hc57 : (Int64.ofNat na) = (0 : Int64)
        · refine go_st (fun _ kq => XS.ifNo X28.here hx rfl (hb hby at_168) rfl (XT.ll_ne_f hc57) kq) ?_
          show Go p e below s _ _ _ T28 (mkF m 171 #[.val (.long x0), .second, .val (.long x1), .second, .val (.long x2), .second, .val (.long x3), .second, .val (.int x4), .val (.long x5), .second, .val (.int (1 : Int32)), .val (.long (Int64.ofNat nu)), .second, .val (.long (Int64.ofNat nd)), .second, .val (.double rq_28), .second, .val (.long (Int64.ofNat na)), .second, .val (.long (Int64.ofNat nb0)), .second, .val (.long (Int64.ofNat nc)), .second, .val (.long (Int64.ofNat ne0)), .second, .unset, .unset, .unset, .unset, .unset, .unset, .unset, .unset, .unset, .unset, .unset, .unset, .unset, .unset, .unset, .unset, .unset] [])
          refine go_st (fun _ kq => XT.lload X28.here hx rfl (hb hby at_171) rfl kq) ?_
          show Go p e below s _ _ _ T28 (mkF m 173 #[.val (.long x0), .second, .val (.long x1), .second, .val (.long x2), .second, .val (.long x3), .second, .val (.int x4), .val (.long x5), .second, .val (.int (1 : Int32)), .val (.long (Int64.ofNat nu)), .second, .val (.long (Int64.ofNat nd)), .second, .val (.double rq_28), .second, .val (.long (Int64.ofNat na)), .second, .val (.long (Int64.ofNat nb0)), .second, .val (.long (Int64.ofNat nc)), .second, .val (.long (Int64.ofNat ne0)), .second, .unset, .unset, .unset, .unset, .unset, .unset, .unset, .unset, .unset, .unset, .unset, .unset, .unset, .unset, .unset, .unset, .unset] [(.long (Int64.ofNat nb0))])
          refine go_st (fun _ kq => XT.lconstV X28.here hx rfl (0 : Int64) (hb hby at_173) (by decide) kq) ?_
          show Go p e below s _ _ _ T28 (mkF m 174 #[.val (.long x0), .second, .val (.long x1), .second, .val (.long x2), .second, .val (.long x3), .second, .val (.int x4), .val (.long x5), .second, .val (.int (1 : Int32)), .val (.long (Int64.ofNat nu)), .second, .val (.long (Int64.ofNat nd)), .second, .val (.double rq_28), .second, .val (.long (Int64.ofNat na)), .second, .val (.long (Int64.ofNat nb0)), .second, .val (.long (Int64.ofNat nc)), .second, .val (.long (Int64.ofNat ne0)), .second, .unset, .unset, .unset, .unset, .unset, .unset, .unset, .unset, .unset, .unset, .unset, .unset, .unset, .unset, .unset, .unset, .unset] [(.long (0 : Int64)), (.long (Int64.ofNat nb0))])
          refine go_st (fun _ kq => XT.lcmp X28.here hx rfl (hb hby at_174) rfl kq) ?_
          show Go p e below s _ _ _ T28 (mkF m 175 #[.val (.long x0), .second, .val (.long x1), .second, .val (.long x2), .second, .val (.long x3), .second, .val (.int x4), .val (.long x5), .second, .val (.int (1 : Int32)), .val (.long (Int64.ofNat nu)), .second, .val (.long (Int64.ofNat nd)), .second, .val (.double rq_28), .second, .val (.long (Int64.ofNat na)), .second, .val (.long (Int64.ofNat nb0)), .second, .val (.long (Int64.ofNat nc)), .second, .val (.long (Int64.ofNat ne0)), .second, .unset, .unset, .unset, .unset, .unset, .unset, .unset, .unset, .unset, .unset, .unset, .unset, .unset, .unset, .unset, .unset, .unset] [(.int (XT.cmpL (Int64.ofNat nb0) (0 : Int64)))])
          by_cases hc58 : (Int64.ofNat nb0) = (0 : Int64)
          · refine go_st (fun _ kq => XS.ifNo X28.here hx rfl (hb hby at_175) rfl (XT.ll_ne_f hc58) kq) ?_
            show Go p e below s _ _ _ T28 (mkF m 178 #[.val (.long x0), .second, .val (.long x1), .second, .val (.long x2), .second, .val (.long x3), .second, .val (.int x4), .val (.long x5), .second, .val (.int (1 : Int32)), .val (.long (Int64.ofNat nu)), .second, .val (.long (Int64.ofNat nd)), .second, .val (.double rq_28), .second, .val (.long (Int64.ofNat na)), .second, .val (.long (Int64.ofNat nb0)), .second, .val (.long (Int64.ofNat nc)), .second, .val (.long (Int64.ofNat ne0)), .second, .unset, .unset, .unset, .unset, .unset, .unset, .unset, .unset, .unset, .unset, .unset, .unset, .unset, .unset, .unset, .unset, .unset] [])
            refine go_st (fun _ kq => XT.lconstV X28.here hx rfl (1 : Int64) (hb hby at_178) (by decide) kq) ?_
            show Go p e below s _ _ _ T28 (mkF m 179 #[.val (.long x0), .second, .val (.long x1), .second, .val (.long x2), .second, .val (.long x3), .second, .val (.int x4), .val (.long x5), .second, .val (.int (1 : Int32)), .val (.long (Int64.ofNat nu)), .second, .val (.long (Int64.ofNat nd)), .second, .val (.double rq_28), .second, .val (.long (Int64.ofNat na)), .second, .val (.long (Int64.ofNat nb0)), .second, .val (.long (Int64.ofNat nc)), .second, .val (.long (Int64.ofNat ne0)), .second, .unset, .unset, .unset, .unset, .unset, .unset, .unset, .unset, .unset, .unset, .unset, .unset, .unset, .unset, .unset, .unset, .unset] [(.long (1 : Int64))])
            refine go_st (fun _ kq => XT.lstore X28.here hx rfl (hb hby at_179) rfl (l' := #[.val (.long x0), .second, .val (.long x1), .second, .val (.long x2), .second, .val (.long x3), .second, .val (.int x4), .val (.long x5), .second, .val (.int (1 : Int32)), .val (.long (Int64.ofNat nu)), .second, .val (.long (Int64.ofNat nd)), .second, .val (.double rq_28), .second, .val (.long (Int64.ofNat na)), .second, .val (.long (1 : Int64)), .second, .val (.long (Int64.ofNat nc)), .second, .val (.long (Int64.ofNat ne0)), .second, .unset, .unset, .unset, .unset, .unset, .unset, .unset, .unset, .unset, .unset, .unset, .unset, .unset, .unset, .unset, .unset, .unset]) rfl kq) ?_
            show Go p e below s _ _ _ T28 (mkF m 181 #[.val (.long x0), .second, .val (.long x1), .second, .val (.long x2), .second, .val (.long x3), .second, .val (.int x4), .val (.long x5), .second, .val (.int (1 : Int32)), .val (.long (Int64.ofNat nu)), .second, .val (.long (Int64.ofNat nd)), .second, .val (.double rq_28), .second, .val (.long (Int64.ofNat na)), .second, .val (.long (1 : Int64)), .second, .val (.long (Int64.ofNat nc)), .second, .val (.long (Int64.ofNat ne0)), .second, .unset, .unset, .unset, .unset, .unset, .unset, .unset, .unset, .unset, .unset, .unset, .unset, .unset, .unset, .unset, .unset, .unset] [])
            exact J181 1 (by omega) (by omega)
          · refine go_st (fun _ kq => XS.ifYes X28.here hx rfl (pc0 := 175) (pc' := 181) rfl (hb hby at_175) rfl (XT.ll_ne_t hc58) (by decide) (by decide) kq) ?_
            show Go p e below s _ _ _ T28 (mkF m 181 #[.val (.long x0), .second, .val (.long x1), .second, .val (.long x2), .second, .val (.long x3), .second, .val (.int x4), .val (.long x5), .second, .val (.int (1 : Int32)), .val (.long (Int64.ofNat nu)), .second, .val (.long (Int64.ofNat nd)), .second, .val (.double rq_28), .second, .val (.long (Int64.ofNat na)), .second, .val (.long (Int64.ofNat nb0)), .second, .val (.long (Int64.ofNat nc)), .second, .val (.long (Int64.ofNat ne0)), .second, .unset, .unset, .unset, .unset, .unset, .unset, .unset, .unset, .unset, .unset, .unset, .unset, .unset, .unset, .unset, .unset, .unset] [])
            have hp59 := own_ne0 (by omega) hc58
            exact J181 nb0 (by omega) (by omega)
        · refine go_st (fun _ kq => XS.ifYes X28.here hx rfl (pc0 := 168) (pc' := 181) rfl (hb hby at_168) rfl (XT.ll_ne_t hc57) (by decide) (by decide) kq) ?_
          show Go p e below s _ _ _ T28 (mkF m 181 #[.val (.long x0), .second, .val (.long x1), .second, .val (.long x2), .second, .val (.long x3), .second, .val (.int x4), .val (.long x5), .second, .val (.int (1 : Int32)), .val (.long (Int64.ofNat nu)), .second, .val (.long (Int64.ofNat nd)), .second, .val (.double rq_28), .second, .val (.long (Int64.ofNat na)), .second, .val (.long (Int64.ofNat nb0)), .second, .val (.long (Int64.ofNat nc)), .second, .val (.long (Int64.ofNat ne0)), .second, .unset, .unset, .unset, .unset, .unset, .unset, .unset, .unset, .unset, .unset, .unset, .unset, .unset, .unset, .unset, .unset, .unset] [])
          have hp60 := own_ne0 (by omega) hc57
          exact J181 nb0 (by omega) (by omega)
      show Go p e below s _ _ _ T28 (mkF m 113 #[.val (.long x0), .second, .val (.long x1), .second, .val (.long x2), .second, .val (.long x3), .second, .val (.int x4), .val (.long x5), .second, .val (.int (1 : Int32)), .val (.long (Int64.ofNat nu)), .second, .val (.long (Int64.ofNat nd)), .second, .val (.double rq_28), .second, .unset, .unset, .unset, .unset, .unset, .unset, .unset, .unset, .unset, .unset, .unset, .unset, .unset, .unset, .unset, .unset, .unset, .unset, .unset, .unset, .unset, .unset, .unset, .unset, .unset] [])
      refine go_st (fun _ kq => XT.lload X28.here hx rfl (hb hby at_113) rfl kq) ?_
      show Go p e below s _ _ _ T28 (mkF m 115 #[.val (.long x0), .second, .val (.long x1), .second, .val (.long x2), .second, .val (.long x3), .second, .val (.int x4), .val (.long x5), .second, .val (.int (1 : Int32)), .val (.long (Int64.ofNat nu)), .second, .val (.long (Int64.ofNat nd)), .second, .val (.double rq_28), .second, .unset, .unset, .unset, .unset, .unset, .unset, .unset, .unset, .unset, .unset, .unset, .unset, .unset, .unset, .unset, .unset, .unset, .unset, .unset, .unset, .unset, .unset, .unset, .unset, .unset] [(.long (Int64.ofNat nu))])
      refine go_st (fun _ kq => XT.lconstV X28.here hx rfl (0 : Int64) (hb hby at_115) (by decide) kq) ?_
      show Go p e below s _ _ _ T28 (mkF m 116 #[.val (.long x0), .second, .val (.long x1), .second, .val (.long x2), .second, .val (.long x3), .second, .val (.int x4), .val (.long x5), .second, .val (.int (1 : Int32)), .val (.long (Int64.ofNat nu)), .second, .val (.long (Int64.ofNat nd)), .second, .val (.double rq_28), .second, .unset, .unset, .unset, .unset, .unset, .unset, .unset, .unset, .unset, .unset, .unset, .unset, .unset, .unset, .unset, .unset, .unset, .unset, .unset, .unset, .unset, .unset, .unset, .unset, .unset] [(.long (0 : Int64)), (.long (Int64.ofNat nu))])
      refine go_st (fun _ kq => XT.lcmp X28.here hx rfl (hb hby at_116) rfl kq) ?_
      show Go p e below s _ _ _ T28 (mkF m 117 #[.val (.long x0), .second, .val (.long x1), .second, .val (.long x2), .second, .val (.long x3), .second, .val (.int x4), .val (.long x5), .second, .val (.int (1 : Int32)), .val (.long (Int64.ofNat nu)), .second, .val (.long (Int64.ofNat nd)), .second, .val (.double rq_28), .second, .unset, .unset, .unset, .unset, .unset, .unset, .unset, .unset, .unset, .unset, .unset, .unset, .unset, .unset, .unset, .unset, .unset, .unset, .unset, .unset, .unset, .unset, .unset, .unset, .unset] [(.int (XT.cmpL (Int64.ofNat nu) (0 : Int64)))])
      by_cases hc61 : (Int64.ofNat nu) = (0 : Int64)
      · refine go_st (fun _ kq => XS.ifNo X28.here hx rfl (hb hby at_117) rfl (XT.ll_ne_f hc61) kq) ?_
        show Go p e below s _ _ _ T28 (mkF m 120 #[.val (.long x0), .second, .val (.long x1), .second, .val (.long x2), .second, .val (.long x3), .second, .val (.int x4), .val (.long x5), .second, .val (.int (1 : Int32)), .val (.long (Int64.ofNat nu)), .second, .val (.long (Int64.ofNat nd)), .second, .val (.double rq_28), .second, .unset, .unset, .unset, .unset, .unset, .unset, .unset, .unset, .unset, .unset, .unset, .unset, .unset, .unset, .unset, .unset, .unset, .unset, .unset, .unset, .unset, .unset, .unset, .unset, .unset] [])
        refine go_st (fun _ kq => XS.dload X28.here hx rfl (hb hby at_120) rfl kq) ?_
        show Go p e below s _ _ _ T28 (mkF m 122 #[.val (.long x0), .second, .val (.long x1), .second, .val (.long x2), .second, .val (.long x3), .second, .val (.int x4), .val (.long x5), .second, .val (.int (1 : Int32)), .val (.long (Int64.ofNat nu)), .second, .val (.long (Int64.ofNat nd)), .second, .val (.double rq_28), .second, .unset, .unset, .unset, .unset, .unset, .unset, .unset, .unset, .unset, .unset, .unset, .unset, .unset, .unset, .unset, .unset, .unset, .unset, .unset, .unset, .unset, .unset, .unset, .unset, .unset] [(.double rq_28)])
        refine go_st (fun _ kq => XS.dconst1 X28.here hx rfl (hb hby at_122) rfl kq) ?_
        show Go p e below s _ _ _ T28 (mkF m 123 #[.val (.long x0), .second, .val (.long x1), .second, .val (.long x2), .second, .val (.long x3), .second, .val (.int x4), .val (.long x5), .second, .val (.int (1 : Int32)), .val (.long (Int64.ofNat nu)), .second, .val (.long (Int64.ofNat nd)), .second, .val (.double rq_28), .second, .unset, .unset, .unset, .unset, .unset, .unset, .unset, .unset, .unset, .unset, .unset, .unset, .unset, .unset, .unset, .unset, .unset, .unset, .unset, .unset, .unset, .unset, .unset, .unset, .unset] [(.double (FP.dconst1)), (.double rq_28)])
        refine go_st (fun _ kq => XS.dcmpS X28.here hx rfl (hb hby at_123) rfl rfl kq) ?_
        show Go p e below s _ _ _ T28 (mkF m 124 #[.val (.long x0), .second, .val (.long x1), .second, .val (.long x2), .second, .val (.long x3), .second, .val (.int x4), .val (.long x5), .second, .val (.int (1 : Int32)), .val (.long (Int64.ofNat nu)), .second, .val (.long (Int64.ofNat nd)), .second, .val (.double rq_28), .second, .unset, .unset, .unset, .unset, .unset, .unset, .unset, .unset, .unset, .unset, .unset, .unset, .unset, .unset, .unset, .unset, .unset, .unset, .unset, .unset, .unset, .unset, .unset, .unset, .unset] [(.int (cmpValue (FP.dcmp rq_28 (FP.dconst1)) .l))])
        have hb62 : (cmpValue (FP.dcmp rq_28 (FP.dconst1)) .l) = (0 : Int32) := by rw [show FP.dcmp rq_28 (FP.dconst1) = _ from VZ.cmp vz (own_v1 hPP)]; exact own_cl_eq (by have := own_eq0 hnu hc61; omega)
        refine go_st (fun _ kq => XS.ifNo X28.here hx rfl (hb hby at_124) rfl (XT.i0_ne_f hb62) kq) ?_
        show Go p e below s _ _ _ T28 (mkF m 127 #[.val (.long x0), .second, .val (.long x1), .second, .val (.long x2), .second, .val (.long x3), .second, .val (.int x4), .val (.long x5), .second, .val (.int (1 : Int32)), .val (.long (Int64.ofNat nu)), .second, .val (.long (Int64.ofNat nd)), .second, .val (.double rq_28), .second, .unset, .unset, .unset, .unset, .unset, .unset, .unset, .unset, .unset, .unset, .unset, .unset, .unset, .unset, .unset, .unset, .unset, .unset, .unset, .unset, .unset, .unset, .unset, .unset, .unset] [])
        refine go_st (fun _ kq => XT.iconstV X28.here hx rfl (1 : Int32) (hb hby at_127) (by decide) kq) ?_
        show Go p e below s _ _ _ T28 (mkF m 128 #[.val (.long x0), .second, .val (.long x1), .second, .val (.long x2), .second, .val (.long x3), .second, .val (.int x4), .val (.long x5), .second, .val (.int (1 : Int32)), .val (.long (Int64.ofNat nu)), .second, .val (.long (Int64.ofNat nd)), .second, .val (.double rq_28), .second, .unset, .unset, .unset, .unset, .unset, .unset, .unset, .unset, .unset, .unset, .unset, .unset, .unset, .unset, .unset, .unset, .unset, .unset, .unset, .unset, .unset, .unset, .unset, .unset, .unset] [(.int (1 : Int32))])
        refine go_st (fun _ kq => XS.goto X28.here hx rfl (pc0 := 128) (pc' := 132) rfl (hb hby at_128) (by decide) (by decide) kq) ?_
        show Go p e below s _ _ _ T28 (mkF m 132 #[.val (.long x0), .second, .val (.long x1), .second, .val (.long x2), .second, .val (.long x3), .second, .val (.int x4), .val (.long x5), .second, .val (.int (1 : Int32)), .val (.long (Int64.ofNat nu)), .second, .val (.long (Int64.ofNat nd)), .second, .val (.double rq_28), .second, .unset, .unset, .unset, .unset, .unset, .unset, .unset, .unset, .unset, .unset, .unset, .unset, .unset, .unset, .unset, .unset, .unset, .unset, .unset, .unset, .unset, .unset, .unset, .unset, .unset] [(.int (1 : Int32))])
        refine go_st (fun _ kq => XS.istore X28.here hx rfl (hb hby at_132) rfl (l' := #[.val (.long x0), .second, .val (.long x1), .second, .val (.long x2), .second, .val (.long x3), .second, .val (.int x4), .val (.long x5), .second, .val (.int (1 : Int32)), .val (.long (Int64.ofNat nu)), .second, .val (.long (Int64.ofNat nd)), .second, .val (.double rq_28), .second, .unset, .unset, .unset, .unset, .unset, .unset, .unset, .unset, .unset, .unset, .unset, .unset, .unset, .unset, .unset, .unset, .unset, .unset, .unset, .unset, .unset, .unset, .unset, .unset, .unset]) rfl kq) ?_
        show Go p e below s _ _ _ T28 (mkF m 134 #[.val (.long x0), .second, .val (.long x1), .second, .val (.long x2), .second, .val (.long x3), .second, .val (.int x4), .val (.long x5), .second, .val (.int (1 : Int32)), .val (.long (Int64.ofNat nu)), .second, .val (.long (Int64.ofNat nd)), .second, .val (.double rq_28), .second, .unset, .unset, .unset, .unset, .unset, .unset, .unset, .unset, .unset, .unset, .unset, .unset, .unset, .unset, .unset, .unset, .unset, .unset, .unset, .unset, .unset, .unset, .unset, .unset, .unset] [])
        exact J134
      · refine go_st (fun _ kq => XS.ifYes X28.here hx rfl (pc0 := 117) (pc' := 127) rfl (hb hby at_117) rfl (XT.ll_ne_t hc61) (by decide) (by decide) kq) ?_
        show Go p e below s _ _ _ T28 (mkF m 127 #[.val (.long x0), .second, .val (.long x1), .second, .val (.long x2), .second, .val (.long x3), .second, .val (.int x4), .val (.long x5), .second, .val (.int (1 : Int32)), .val (.long (Int64.ofNat nu)), .second, .val (.long (Int64.ofNat nd)), .second, .val (.double rq_28), .second, .unset, .unset, .unset, .unset, .unset, .unset, .unset, .unset, .unset, .unset, .unset, .unset, .unset, .unset, .unset, .unset, .unset, .unset, .unset, .unset, .unset, .unset, .unset, .unset, .unset] [])
        refine go_st (fun _ kq => XT.iconstV X28.here hx rfl (1 : Int32) (hb hby at_127) (by decide) kq) ?_
        show Go p e below s _ _ _ T28 (mkF m 128 #[.val (.long x0), .second, .val (.long x1), .second, .val (.long x2), .second, .val (.long x3), .second, .val (.int x4), .val (.long x5), .second, .val (.int (1 : Int32)), .val (.long (Int64.ofNat nu)), .second, .val (.long (Int64.ofNat nd)), .second, .val (.double rq_28), .second, .unset, .unset, .unset, .unset, .unset, .unset, .unset, .unset, .unset, .unset, .unset, .unset, .unset, .unset, .unset, .unset, .unset, .unset, .unset, .unset, .unset, .unset, .unset, .unset, .unset] [(.int (1 : Int32))])
        refine go_st (fun _ kq => XS.goto X28.here hx rfl (pc0 := 128) (pc' := 132) rfl (hb hby at_128) (by decide) (by decide) kq) ?_
        show Go p e below s _ _ _ T28 (mkF m 132 #[.val (.long x0), .second, .val (.long x1), .second, .val (.long x2), .second, .val (.long x3), .second, .val (.int x4), .val (.long x5), .second, .val (.int (1 : Int32)), .val (.long (Int64.ofNat nu)), .second, .val (.long (Int64.ofNat nd)), .second, .val (.double rq_28), .second, .unset, .unset, .unset, .unset, .unset, .unset, .unset, .unset, .unset, .unset, .unset, .unset, .unset, .unset, .unset, .unset, .unset, .unset, .unset, .unset, .unset, .unset, .unset, .unset, .unset] [(.int (1 : Int32))])
        refine go_st (fun _ kq => XS.istore X28.here hx rfl (hb hby at_132) rfl (l' := #[.val (.long x0), .second, .val (.long x1), .second, .val (.long x2), .second, .val (.long x3), .second, .val (.int x4), .val (.long x5), .second, .val (.int (1 : Int32)), .val (.long (Int64.ofNat nu)), .second, .val (.long (Int64.ofNat nd)), .second, .val (.double rq_28), .second, .unset, .unset, .unset, .unset, .unset, .unset, .unset, .unset, .unset, .unset, .unset, .unset, .unset, .unset, .unset, .unset, .unset, .unset, .unset, .unset, .unset, .unset, .unset, .unset, .unset]) rfl kq) ?_
        show Go p e below s _ _ _ T28 (mkF m 134 #[.val (.long x0), .second, .val (.long x1), .second, .val (.long x2), .second, .val (.long x3), .second, .val (.int x4), .val (.long x5), .second, .val (.int (1 : Int32)), .val (.long (Int64.ofNat nu)), .second, .val (.long (Int64.ofNat nd)), .second, .val (.double rq_28), .second, .unset, .unset, .unset, .unset, .unset, .unset, .unset, .unset, .unset, .unset, .unset, .unset, .unset, .unset, .unset, .unset, .unset, .unset, .unset, .unset, .unset, .unset, .unset, .unset, .unset] [])
        exact J134
    show Go p e below s _ _ _ T28 (mkF m 74 #[.val (.long x0), .second, .val (.long x1), .second, .val (.long x2), .second, .val (.long x3), .second, .val (.int x4), .val (.long x5), .second, .val (.int (1 : Int32)), .val (.long (Int64.ofNat nu)), .second, .val (.long (Int64.ofNat nd)), .second, .val (.double rq_28), .second, .unset, .unset, .unset, .unset, .unset, .unset, .unset, .unset, .unset, .unset, .unset, .unset, .unset, .unset, .unset, .unset, .unset, .unset, .unset, .unset, .unset, .unset, .unset, .unset, .unset] [])
    refine go_st (fun _ kq => XT.lload X28.here hx rfl (hb hby at_74) rfl kq) ?_
    show Go p e below s _ _ _ T28 (mkF m 76 #[.val (.long x0), .second, .val (.long x1), .second, .val (.long x2), .second, .val (.long x3), .second, .val (.int x4), .val (.long x5), .second, .val (.int (1 : Int32)), .val (.long (Int64.ofNat nu)), .second, .val (.long (Int64.ofNat nd)), .second, .val (.double rq_28), .second, .unset, .unset, .unset, .unset, .unset, .unset, .unset, .unset, .unset, .unset, .unset, .unset, .unset, .unset, .unset, .unset, .unset, .unset, .unset, .unset, .unset, .unset, .unset, .unset, .unset] [(.long (Int64.ofNat nd))])
    refine go_st (fun _ kq => XT.lconstV X28.here hx rfl (0 : Int64) (hb hby at_76) (by decide) kq) ?_
    show Go p e below s _ _ _ T28 (mkF m 77 #[.val (.long x0), .second, .val (.long x1), .second, .val (.long x2), .second, .val (.long x3), .second, .val (.int x4), .val (.long x5), .second, .val (.int (1 : Int32)), .val (.long (Int64.ofNat nu)), .second, .val (.long (Int64.ofNat nd)), .second, .val (.double rq_28), .second, .unset, .unset, .unset, .unset, .unset, .unset, .unset, .unset, .unset, .unset, .unset, .unset, .unset, .unset, .unset, .unset, .unset, .unset, .unset, .unset, .unset, .unset, .unset, .unset, .unset] [(.long (0 : Int64)), (.long (Int64.ofNat nd))])
    refine go_st (fun _ kq => XT.lcmp X28.here hx rfl (hb hby at_77) rfl kq) ?_
    show Go p e below s _ _ _ T28 (mkF m 78 #[.val (.long x0), .second, .val (.long x1), .second, .val (.long x2), .second, .val (.long x3), .second, .val (.int x4), .val (.long x5), .second, .val (.int (1 : Int32)), .val (.long (Int64.ofNat nu)), .second, .val (.long (Int64.ofNat nd)), .second, .val (.double rq_28), .second, .unset, .unset, .unset, .unset, .unset, .unset, .unset, .unset, .unset, .unset, .unset, .unset, .unset, .unset, .unset, .unset, .unset, .unset, .unset, .unset, .unset, .unset, .unset, .unset, .unset] [(.int (XT.cmpL (Int64.ofNat nd) (0 : Int64)))])
    by_cases hc63 : (Int64.ofNat nd) = (0 : Int64)
    · refine go_st (fun _ kq => XS.ifNo X28.here hx rfl (hb hby at_78) rfl (XT.ll_ne_f hc63) kq) ?_
      show Go p e below s _ _ _ T28 (mkF m 81 #[.val (.long x0), .second, .val (.long x1), .second, .val (.long x2), .second, .val (.long x3), .second, .val (.int x4), .val (.long x5), .second, .val (.int (1 : Int32)), .val (.long (Int64.ofNat nu)), .second, .val (.long (Int64.ofNat nd)), .second, .val (.double rq_28), .second, .unset, .unset, .unset, .unset, .unset, .unset, .unset, .unset, .unset, .unset, .unset, .unset, .unset, .unset, .unset, .unset, .unset, .unset, .unset, .unset, .unset, .unset, .unset, .unset, .unset] [])
      refine go_st (fun _ kq => XT.iconstV X28.here hx rfl (1 : Int32) (hb hby at_81) (by decide) kq) ?_
      show Go p e below s _ _ _ T28 (mkF m 82 #[.val (.long x0), .second, .val (.long x1), .second, .val (.long x2), .second, .val (.long x3), .second, .val (.int x4), .val (.long x5), .second, .val (.int (1 : Int32)), .val (.long (Int64.ofNat nu)), .second, .val (.long (Int64.ofNat nd)), .second, .val (.double rq_28), .second, .unset, .unset, .unset, .unset, .unset, .unset, .unset, .unset, .unset, .unset, .unset, .unset, .unset, .unset, .unset, .unset, .unset, .unset, .unset, .unset, .unset, .unset, .unset, .unset, .unset] [(.int (1 : Int32))])
      refine go_st (fun _ kq => XS.goto X28.here hx rfl (pc0 := 82) (pc' := 86) rfl (hb hby at_82) (by decide) (by decide) kq) ?_
      show Go p e below s _ _ _ T28 (mkF m 86 #[.val (.long x0), .second, .val (.long x1), .second, .val (.long x2), .second, .val (.long x3), .second, .val (.int x4), .val (.long x5), .second, .val (.int (1 : Int32)), .val (.long (Int64.ofNat nu)), .second, .val (.long (Int64.ofNat nd)), .second, .val (.double rq_28), .second, .unset, .unset, .unset, .unset, .unset, .unset, .unset, .unset, .unset, .unset, .unset, .unset, .unset, .unset, .unset, .unset, .unset, .unset, .unset, .unset, .unset, .unset, .unset, .unset, .unset] [(.int (1 : Int32))])
      refine go_st (fun _ kq => XS.dload X28.here hx rfl (hb hby at_86) rfl kq) ?_
      show Go p e below s _ _ _ T28 (mkF m 88 #[.val (.long x0), .second, .val (.long x1), .second, .val (.long x2), .second, .val (.long x3), .second, .val (.int x4), .val (.long x5), .second, .val (.int (1 : Int32)), .val (.long (Int64.ofNat nu)), .second, .val (.long (Int64.ofNat nd)), .second, .val (.double rq_28), .second, .unset, .unset, .unset, .unset, .unset, .unset, .unset, .unset, .unset, .unset, .unset, .unset, .unset, .unset, .unset, .unset, .unset, .unset, .unset, .unset, .unset, .unset, .unset, .unset, .unset] [(.double rq_28), (.int (1 : Int32))])
      refine go_st (fun _ kq => XS.dconst0 X28.here hx rfl (hb hby at_88) rfl kq) ?_
      show Go p e below s _ _ _ T28 (mkF m 89 #[.val (.long x0), .second, .val (.long x1), .second, .val (.long x2), .second, .val (.long x3), .second, .val (.int x4), .val (.long x5), .second, .val (.int (1 : Int32)), .val (.long (Int64.ofNat nu)), .second, .val (.long (Int64.ofNat nd)), .second, .val (.double rq_28), .second, .unset, .unset, .unset, .unset, .unset, .unset, .unset, .unset, .unset, .unset, .unset, .unset, .unset, .unset, .unset, .unset, .unset, .unset, .unset, .unset, .unset, .unset, .unset, .unset, .unset] [(.double (FP.dconst0)), (.double rq_28), (.int (1 : Int32))])
      refine go_st (fun _ kq => XS.dcmpS X28.here hx rfl (hb hby at_89) rfl rfl kq) ?_
      show Go p e below s _ _ _ T28 (mkF m 90 #[.val (.long x0), .second, .val (.long x1), .second, .val (.long x2), .second, .val (.long x3), .second, .val (.int x4), .val (.long x5), .second, .val (.int (1 : Int32)), .val (.long (Int64.ofNat nu)), .second, .val (.long (Int64.ofNat nd)), .second, .val (.double rq_28), .second, .unset, .unset, .unset, .unset, .unset, .unset, .unset, .unset, .unset, .unset, .unset, .unset, .unset, .unset, .unset, .unset, .unset, .unset, .unset, .unset, .unset, .unset, .unset, .unset, .unset] [(.int (cmpValue (FP.dcmp rq_28 (FP.dconst0)) .l)), (.int (1 : Int32))])
      have hb64 : (cmpValue (FP.dcmp rq_28 (FP.dconst0)) .l) = (0 : Int32) := by rw [show FP.dcmp rq_28 (FP.dconst0) = _ from VZ.cmp vz own_v0]; exact own_cl_eq (by have := own_eq0 (by omega) hc63; omega)
      refine go_st (fun _ kq => XS.ifNo X28.here hx rfl (hb hby at_90) rfl (XT.i0_ne_f hb64) kq) ?_
      show Go p e below s _ _ _ T28 (mkF m 93 #[.val (.long x0), .second, .val (.long x1), .second, .val (.long x2), .second, .val (.long x3), .second, .val (.int x4), .val (.long x5), .second, .val (.int (1 : Int32)), .val (.long (Int64.ofNat nu)), .second, .val (.long (Int64.ofNat nd)), .second, .val (.double rq_28), .second, .unset, .unset, .unset, .unset, .unset, .unset, .unset, .unset, .unset, .unset, .unset, .unset, .unset, .unset, .unset, .unset, .unset, .unset, .unset, .unset, .unset, .unset, .unset, .unset, .unset] [(.int (1 : Int32))])
      refine go_st (fun _ kq => XT.iconstV X28.here hx rfl (1 : Int32) (hb hby at_93) (by decide) kq) ?_
      show Go p e below s _ _ _ T28 (mkF m 94 #[.val (.long x0), .second, .val (.long x1), .second, .val (.long x2), .second, .val (.long x3), .second, .val (.int x4), .val (.long x5), .second, .val (.int (1 : Int32)), .val (.long (Int64.ofNat nu)), .second, .val (.long (Int64.ofNat nd)), .second, .val (.double rq_28), .second, .unset, .unset, .unset, .unset, .unset, .unset, .unset, .unset, .unset, .unset, .unset, .unset, .unset, .unset, .unset, .unset, .unset, .unset, .unset, .unset, .unset, .unset, .unset, .unset, .unset] [(.int (1 : Int32)), (.int (1 : Int32))])
      refine go_st (fun _ kq => XS.goto X28.here hx rfl (pc0 := 94) (pc' := 98) rfl (hb hby at_94) (by decide) (by decide) kq) ?_
      show Go p e below s _ _ _ T28 (mkF m 98 #[.val (.long x0), .second, .val (.long x1), .second, .val (.long x2), .second, .val (.long x3), .second, .val (.int x4), .val (.long x5), .second, .val (.int (1 : Int32)), .val (.long (Int64.ofNat nu)), .second, .val (.long (Int64.ofNat nd)), .second, .val (.double rq_28), .second, .unset, .unset, .unset, .unset, .unset, .unset, .unset, .unset, .unset, .unset, .unset, .unset, .unset, .unset, .unset, .unset, .unset, .unset, .unset, .unset, .unset, .unset, .unset, .unset, .unset] [(.int (1 : Int32)), (.int (1 : Int32))])
      refine go_st (fun _ kq => XS.icmpNo X28.here hx rfl (hb hby at_98) rfl (XT.ii_ne_f (by decide)) kq) ?_
      show Go p e below s _ _ _ T28 (mkF m 101 #[.val (.long x0), .second, .val (.long x1), .second, .val (.long x2), .second, .val (.long x3), .second, .val (.int x4), .val (.long x5), .second, .val (.int (1 : Int32)), .val (.long (Int64.ofNat nu)), .second, .val (.long (Int64.ofNat nd)), .second, .val (.double rq_28), .second, .unset, .unset, .unset, .unset, .unset, .unset, .unset, .unset, .unset, .unset, .unset, .unset, .unset, .unset, .unset, .unset, .unset, .unset, .unset, .unset, .unset, .unset, .unset, .unset, .unset] [])
      refine go_st (fun _ kq => XT.iconstV X28.here hx rfl (1 : Int32) (hb hby at_101) (by decide) kq) ?_
      show Go p e below s _ _ _ T28 (mkF m 102 #[.val (.long x0), .second, .val (.long x1), .second, .val (.long x2), .second, .val (.long x3), .second, .val (.int x4), .val (.long x5), .second, .val (.int (1 : Int32)), .val (.long (Int64.ofNat nu)), .second, .val (.long (Int64.ofNat nd)), .second, .val (.double rq_28), .second, .unset, .unset, .unset, .unset, .unset, .unset, .unset, .unset, .unset, .unset, .unset, .unset, .unset, .unset, .unset, .unset, .unset, .unset, .unset, .unset, .unset, .unset, .unset, .unset, .unset] [(.int (1 : Int32))])
      refine go_st (fun _ kq => XS.goto X28.here hx rfl (pc0 := 102) (pc' := 106) rfl (hb hby at_102) (by decide) (by decide) kq) ?_
      show Go p e below s _ _ _ T28 (mkF m 106 #[.val (.long x0), .second, .val (.long x1), .second, .val (.long x2), .second, .val (.long x3), .second, .val (.int x4), .val (.long x5), .second, .val (.int (1 : Int32)), .val (.long (Int64.ofNat nu)), .second, .val (.long (Int64.ofNat nd)), .second, .val (.double rq_28), .second, .unset, .unset, .unset, .unset, .unset, .unset, .unset, .unset, .unset, .unset, .unset, .unset, .unset, .unset, .unset, .unset, .unset, .unset, .unset, .unset, .unset, .unset, .unset, .unset, .unset] [(.int (1 : Int32))])
      refine go_st (fun _ kq => XS.istore X28.here hx rfl (hb hby at_106) rfl (l' := #[.val (.long x0), .second, .val (.long x1), .second, .val (.long x2), .second, .val (.long x3), .second, .val (.int x4), .val (.long x5), .second, .val (.int (1 : Int32)), .val (.long (Int64.ofNat nu)), .second, .val (.long (Int64.ofNat nd)), .second, .val (.double rq_28), .second, .unset, .unset, .unset, .unset, .unset, .unset, .unset, .unset, .unset, .unset, .unset, .unset, .unset, .unset, .unset, .unset, .unset, .unset, .unset, .unset, .unset, .unset, .unset, .unset, .unset]) rfl kq) ?_
      show Go p e below s _ _ _ T28 (mkF m 108 #[.val (.long x0), .second, .val (.long x1), .second, .val (.long x2), .second, .val (.long x3), .second, .val (.int x4), .val (.long x5), .second, .val (.int (1 : Int32)), .val (.long (Int64.ofNat nu)), .second, .val (.long (Int64.ofNat nd)), .second, .val (.double rq_28), .second, .unset, .unset, .unset, .unset, .unset, .unset, .unset, .unset, .unset, .unset, .unset, .unset, .unset, .unset, .unset, .unset, .unset, .unset, .unset, .unset, .unset, .unset, .unset, .unset, .unset] [])
      exact J108
    · refine go_st (fun _ kq => XS.ifYes X28.here hx rfl (pc0 := 78) (pc' := 85) rfl (hb hby at_78) rfl (XT.ll_ne_t hc63) (by decide) (by decide) kq) ?_
      show Go p e below s _ _ _ T28 (mkF m 85 #[.val (.long x0), .second, .val (.long x1), .second, .val (.long x2), .second, .val (.long x3), .second, .val (.int x4), .val (.long x5), .second, .val (.int (1 : Int32)), .val (.long (Int64.ofNat nu)), .second, .val (.long (Int64.ofNat nd)), .second, .val (.double rq_28), .second, .unset, .unset, .unset, .unset, .unset, .unset, .unset, .unset, .unset, .unset, .unset, .unset, .unset, .unset, .unset, .unset, .unset, .unset, .unset, .unset, .unset, .unset, .unset, .unset, .unset] [])
      refine go_st (fun _ kq => XT.iconstV X28.here hx rfl (0 : Int32) (hb hby at_85) (by decide) kq) ?_
      show Go p e below s _ _ _ T28 (mkF m 86 #[.val (.long x0), .second, .val (.long x1), .second, .val (.long x2), .second, .val (.long x3), .second, .val (.int x4), .val (.long x5), .second, .val (.int (1 : Int32)), .val (.long (Int64.ofNat nu)), .second, .val (.long (Int64.ofNat nd)), .second, .val (.double rq_28), .second, .unset, .unset, .unset, .unset, .unset, .unset, .unset, .unset, .unset, .unset, .unset, .unset, .unset, .unset, .unset, .unset, .unset, .unset, .unset, .unset, .unset, .unset, .unset, .unset, .unset] [(.int (0 : Int32))])
      refine go_st (fun _ kq => XS.dload X28.here hx rfl (hb hby at_86) rfl kq) ?_
      show Go p e below s _ _ _ T28 (mkF m 88 #[.val (.long x0), .second, .val (.long x1), .second, .val (.long x2), .second, .val (.long x3), .second, .val (.int x4), .val (.long x5), .second, .val (.int (1 : Int32)), .val (.long (Int64.ofNat nu)), .second, .val (.long (Int64.ofNat nd)), .second, .val (.double rq_28), .second, .unset, .unset, .unset, .unset, .unset, .unset, .unset, .unset, .unset, .unset, .unset, .unset, .unset, .unset, .unset, .unset, .unset, .unset, .unset, .unset, .unset, .unset, .unset, .unset, .unset] [(.double rq_28), (.int (0 : Int32))])
      refine go_st (fun _ kq => XS.dconst0 X28.here hx rfl (hb hby at_88) rfl kq) ?_
      show Go p e below s _ _ _ T28 (mkF m 89 #[.val (.long x0), .second, .val (.long x1), .second, .val (.long x2), .second, .val (.long x3), .second, .val (.int x4), .val (.long x5), .second, .val (.int (1 : Int32)), .val (.long (Int64.ofNat nu)), .second, .val (.long (Int64.ofNat nd)), .second, .val (.double rq_28), .second, .unset, .unset, .unset, .unset, .unset, .unset, .unset, .unset, .unset, .unset, .unset, .unset, .unset, .unset, .unset, .unset, .unset, .unset, .unset, .unset, .unset, .unset, .unset, .unset, .unset] [(.double (FP.dconst0)), (.double rq_28), (.int (0 : Int32))])
      refine go_st (fun _ kq => XS.dcmpS X28.here hx rfl (hb hby at_89) rfl rfl kq) ?_
      show Go p e below s _ _ _ T28 (mkF m 90 #[.val (.long x0), .second, .val (.long x1), .second, .val (.long x2), .second, .val (.long x3), .second, .val (.int x4), .val (.long x5), .second, .val (.int (1 : Int32)), .val (.long (Int64.ofNat nu)), .second, .val (.long (Int64.ofNat nd)), .second, .val (.double rq_28), .second, .unset, .unset, .unset, .unset, .unset, .unset, .unset, .unset, .unset, .unset, .unset, .unset, .unset, .unset, .unset, .unset, .unset, .unset, .unset, .unset, .unset, .unset, .unset, .unset, .unset] [(.int (cmpValue (FP.dcmp rq_28 (FP.dconst0)) .l)), (.int (0 : Int32))])
      have hb65 : ¬ ((cmpValue (FP.dcmp rq_28 (FP.dconst0)) .l) = (0 : Int32)) := by rw [show FP.dcmp rq_28 (FP.dconst0) = _ from VZ.cmp vz own_v0]; exact own_cl_ne (by have := own_ne0 (by omega) hc63; omega)
      refine go_st (fun _ kq => XS.ifYes X28.here hx rfl (pc0 := 90) (pc' := 97) rfl (hb hby at_90) rfl (XT.i0_ne_t hb65) (by decide) (by decide) kq) ?_
      show Go p e below s _ _ _ T28 (mkF m 97 #[.val (.long x0), .second, .val (.long x1), .second, .val (.long x2), .second, .val (.long x3), .second, .val (.int x4), .val (.long x5), .second, .val (.int (1 : Int32)), .val (.long (Int64.ofNat nu)), .second, .val (.long (Int64.ofNat nd)), .second, .val (.double rq_28), .second, .unset, .unset, .unset, .unset, .unset, .unset, .unset, .unset, .unset, .unset, .unset, .unset, .unset, .unset, .unset, .unset, .unset, .unset, .unset, .unset, .unset, .unset, .unset, .unset, .unset] [(.int (0 : Int32))])
      refine go_st (fun _ kq => XT.iconstV X28.here hx rfl (0 : Int32) (hb hby at_97) (by decide) kq) ?_
      show Go p e below s _ _ _ T28 (mkF m 98 #[.val (.long x0), .second, .val (.long x1), .second, .val (.long x2), .second, .val (.long x3), .second, .val (.int x4), .val (.long x5), .second, .val (.int (1 : Int32)), .val (.long (Int64.ofNat nu)), .second, .val (.long (Int64.ofNat nd)), .second, .val (.double rq_28), .second, .unset, .unset, .unset, .unset, .unset, .unset, .unset, .unset, .unset, .unset, .unset, .unset, .unset, .unset, .unset, .unset, .unset, .unset, .unset, .unset, .unset, .unset, .unset, .unset, .unset] [(.int (0 : Int32)), (.int (0 : Int32))])
      refine go_st (fun _ kq => XS.icmpNo X28.here hx rfl (hb hby at_98) rfl (XT.ii_ne_f (by decide)) kq) ?_
      show Go p e below s _ _ _ T28 (mkF m 101 #[.val (.long x0), .second, .val (.long x1), .second, .val (.long x2), .second, .val (.long x3), .second, .val (.int x4), .val (.long x5), .second, .val (.int (1 : Int32)), .val (.long (Int64.ofNat nu)), .second, .val (.long (Int64.ofNat nd)), .second, .val (.double rq_28), .second, .unset, .unset, .unset, .unset, .unset, .unset, .unset, .unset, .unset, .unset, .unset, .unset, .unset, .unset, .unset, .unset, .unset, .unset, .unset, .unset, .unset, .unset, .unset, .unset, .unset] [])
      refine go_st (fun _ kq => XT.iconstV X28.here hx rfl (1 : Int32) (hb hby at_101) (by decide) kq) ?_
      show Go p e below s _ _ _ T28 (mkF m 102 #[.val (.long x0), .second, .val (.long x1), .second, .val (.long x2), .second, .val (.long x3), .second, .val (.int x4), .val (.long x5), .second, .val (.int (1 : Int32)), .val (.long (Int64.ofNat nu)), .second, .val (.long (Int64.ofNat nd)), .second, .val (.double rq_28), .second, .unset, .unset, .unset, .unset, .unset, .unset, .unset, .unset, .unset, .unset, .unset, .unset, .unset, .unset, .unset, .unset, .unset, .unset, .unset, .unset, .unset, .unset, .unset, .unset, .unset] [(.int (1 : Int32))])
      refine go_st (fun _ kq => XS.goto X28.here hx rfl (pc0 := 102) (pc' := 106) rfl (hb hby at_102) (by decide) (by decide) kq) ?_
      show Go p e below s _ _ _ T28 (mkF m 106 #[.val (.long x0), .second, .val (.long x1), .second, .val (.long x2), .second, .val (.long x3), .second, .val (.int x4), .val (.long x5), .second, .val (.int (1 : Int32)), .val (.long (Int64.ofNat nu)), .second, .val (.long (Int64.ofNat nd)), .second, .val (.double rq_28), .second, .unset, .unset, .unset, .unset, .unset, .unset, .unset, .unset, .unset, .unset, .unset, .unset, .unset, .unset, .unset, .unset, .unset, .unset, .unset, .unset, .unset, .unset, .unset, .unset, .unset] [(.int (1 : Int32))])
      refine go_st (fun _ kq => XS.istore X28.here hx rfl (hb hby at_106) rfl (l' := #[.val (.long x0), .second, .val (.long x1), .second, .val (.long x2), .second, .val (.long x3), .second, .val (.int x4), .val (.long x5), .second, .val (.int (1 : Int32)), .val (.long (Int64.ofNat nu)), .second, .val (.long (Int64.ofNat nd)), .second, .val (.double rq_28), .second, .unset, .unset, .unset, .unset, .unset, .unset, .unset, .unset, .unset, .unset, .unset, .unset, .unset, .unset, .unset, .unset, .unset, .unset, .unset, .unset, .unset, .unset, .unset, .unset, .unset]) rfl kq) ?_
      show Go p e below s _ _ _ T28 (mkF m 108 #[.val (.long x0), .second, .val (.long x1), .second, .val (.long x2), .second, .val (.long x3), .second, .val (.int x4), .val (.long x5), .second, .val (.int (1 : Int32)), .val (.long (Int64.ofNat nu)), .second, .val (.long (Int64.ofNat nd)), .second, .val (.double rq_28), .second, .unset, .unset, .unset, .unset, .unset, .unset, .unset, .unset, .unset, .unset, .unset, .unset, .unset, .unset, .unset, .unset, .unset, .unset, .unset, .unset, .unset, .unset, .unset, .unset, .unset] [])
      exact J108
  show Go p e below s _ _ _ s₁ (mkF m 17 #[.val (.long x0), .second, .val (.long x1), .second, .val (.long x2), .second, .val (.long x3), .second, .val (.int x4), .val (.long x5), .second, .val (.int (1 : Int32)), .val (.long (Int64.ofNat nu)), .second, .val (.long (Int64.ofNat nd0)), .second, .unset, .unset, .unset, .unset, .unset, .unset, .unset, .unset, .unset, .unset, .unset, .unset, .unset, .unset, .unset, .unset, .unset, .unset, .unset, .unset, .unset, .unset, .unset, .unset, .unset, .unset, .unset] [])
  refine go_st (fun _ kq => XT.lload X0.here hx rfl (hb hby at_17) rfl kq) ?_
  show Go p e below s _ _ _ s₁ (mkF m 19 #[.val (.long x0), .second, .val (.long x1), .second, .val (.long x2), .second, .val (.long x3), .second, .val (.int x4), .val (.long x5), .second, .val (.int (1 : Int32)), .val (.long (Int64.ofNat nu)), .second, .val (.long (Int64.ofNat nd0)), .second, .unset, .unset, .unset, .unset, .unset, .unset, .unset, .unset, .unset, .unset, .unset, .unset, .unset, .unset, .unset, .unset, .unset, .unset, .unset, .unset, .unset, .unset, .unset, .unset, .unset, .unset, .unset] [(.long (Int64.ofNat nu))])
  refine go_st (fun _ kq => XT.lconstV X0.here hx rfl (0 : Int64) (hb hby at_19) (by decide) kq) ?_
  show Go p e below s _ _ _ s₁ (mkF m 20 #[.val (.long x0), .second, .val (.long x1), .second, .val (.long x2), .second, .val (.long x3), .second, .val (.int x4), .val (.long x5), .second, .val (.int (1 : Int32)), .val (.long (Int64.ofNat nu)), .second, .val (.long (Int64.ofNat nd0)), .second, .unset, .unset, .unset, .unset, .unset, .unset, .unset, .unset, .unset, .unset, .unset, .unset, .unset, .unset, .unset, .unset, .unset, .unset, .unset, .unset, .unset, .unset, .unset, .unset, .unset, .unset, .unset] [(.long (0 : Int64)), (.long (Int64.ofNat nu))])
  refine go_st (fun _ kq => XT.lcmp X0.here hx rfl (hb hby at_20) rfl kq) ?_
  show Go p e below s _ _ _ s₁ (mkF m 21 #[.val (.long x0), .second, .val (.long x1), .second, .val (.long x2), .second, .val (.long x3), .second, .val (.int x4), .val (.long x5), .second, .val (.int (1 : Int32)), .val (.long (Int64.ofNat nu)), .second, .val (.long (Int64.ofNat nd0)), .second, .unset, .unset, .unset, .unset, .unset, .unset, .unset, .unset, .unset, .unset, .unset, .unset, .unset, .unset, .unset, .unset, .unset, .unset, .unset, .unset, .unset, .unset, .unset, .unset, .unset, .unset, .unset] [(.int (XT.cmpL (Int64.ofNat nu) (0 : Int64)))])
  by_cases hc66 : (Int64.ofNat nu) = (0 : Int64)
  · refine go_st (fun _ kq => XS.ifNo X0.here hx rfl (hb hby at_21) rfl (XT.ll_ne_f hc66) kq) ?_
    show Go p e below s _ _ _ s₁ (mkF m 24 #[.val (.long x0), .second, .val (.long x1), .second, .val (.long x2), .second, .val (.long x3), .second, .val (.int x4), .val (.long x5), .second, .val (.int (1 : Int32)), .val (.long (Int64.ofNat nu)), .second, .val (.long (Int64.ofNat nd0)), .second, .unset, .unset, .unset, .unset, .unset, .unset, .unset, .unset, .unset, .unset, .unset, .unset, .unset, .unset, .unset, .unset, .unset, .unset, .unset, .unset, .unset, .unset, .unset, .unset, .unset, .unset, .unset] [])
    refine go_st (fun _ kq => XT.lload X0.here hx rfl (hb hby at_24) rfl kq) ?_
    show Go p e below s _ _ _ s₁ (mkF m 26 #[.val (.long x0), .second, .val (.long x1), .second, .val (.long x2), .second, .val (.long x3), .second, .val (.int x4), .val (.long x5), .second, .val (.int (1 : Int32)), .val (.long (Int64.ofNat nu)), .second, .val (.long (Int64.ofNat nd0)), .second, .unset, .unset, .unset, .unset, .unset, .unset, .unset, .unset, .unset, .unset, .unset, .unset, .unset, .unset, .unset, .unset, .unset, .unset, .unset, .unset, .unset, .unset, .unset, .unset, .unset, .unset, .unset] [(.long (Int64.ofNat nd0))])
    refine go_st (fun _ kq => XT.lconstV X0.here hx rfl (0 : Int64) (hb hby at_26) (by decide) kq) ?_
    show Go p e below s _ _ _ s₁ (mkF m 27 #[.val (.long x0), .second, .val (.long x1), .second, .val (.long x2), .second, .val (.long x3), .second, .val (.int x4), .val (.long x5), .second, .val (.int (1 : Int32)), .val (.long (Int64.ofNat nu)), .second, .val (.long (Int64.ofNat nd0)), .second, .unset, .unset, .unset, .unset, .unset, .unset, .unset, .unset, .unset, .unset, .unset, .unset, .unset, .unset, .unset, .unset, .unset, .unset, .unset, .unset, .unset, .unset, .unset, .unset, .unset, .unset, .unset] [(.long (0 : Int64)), (.long (Int64.ofNat nd0))])
    refine go_st (fun _ kq => XT.lcmp X0.here hx rfl (hb hby at_27) rfl kq) ?_
    show Go p e below s _ _ _ s₁ (mkF m 28 #[.val (.long x0), .second, .val (.long x1), .second, .val (.long x2), .second, .val (.long x3), .second, .val (.int x4), .val (.long x5), .second, .val (.int (1 : Int32)), .val (.long (Int64.ofNat nu)), .second, .val (.long (Int64.ofNat nd0)), .second, .unset, .unset, .unset, .unset, .unset, .unset, .unset, .unset, .unset, .unset, .unset, .unset, .unset, .unset, .unset, .unset, .unset, .unset, .unset, .unset, .unset, .unset, .unset, .unset, .unset, .unset, .unset] [(.int (XT.cmpL (Int64.ofNat nd0) (0 : Int64)))])
    by_cases hc67 : (Int64.ofNat nd0) = (0 : Int64)
    · refine go_st (fun _ kq => XS.ifNo X0.here hx rfl (hb hby at_28) rfl (XT.ll_ne_f hc67) kq) ?_
      show Go p e below s _ _ _ s₁ (mkF m 31 #[.val (.long x0), .second, .val (.long x1), .second, .val (.long x2), .second, .val (.long x3), .second, .val (.int x4), .val (.long x5), .second, .val (.int (1 : Int32)), .val (.long (Int64.ofNat nu)), .second, .val (.long (Int64.ofNat nd0)), .second, .unset, .unset, .unset, .unset, .unset, .unset, .unset, .unset, .unset, .unset, .unset, .unset, .unset, .unset, .unset, .unset, .unset, .unset, .unset, .unset, .unset, .unset, .unset, .unset, .unset, .unset, .unset] [])
      refine go_st (fun _ kq => XT.lconstV X0.here hx rfl (1 : Int64) (hb hby at_31) (by decide) kq) ?_
      show Go p e below s _ _ _ s₁ (mkF m 32 #[.val (.long x0), .second, .val (.long x1), .second, .val (.long x2), .second, .val (.long x3), .second, .val (.int x4), .val (.long x5), .second, .val (.int (1 : Int32)), .val (.long (Int64.ofNat nu)), .second, .val (.long (Int64.ofNat nd0)), .second, .unset, .unset, .unset, .unset, .unset, .unset, .unset, .unset, .unset, .unset, .unset, .unset, .unset, .unset, .unset, .unset, .unset, .unset, .unset, .unset, .unset, .unset, .unset, .unset, .unset, .unset, .unset] [(.long (1 : Int64))])
      refine go_st (fun _ kq => XT.lstore X0.here hx rfl (hb hby at_32) rfl (l' := #[.val (.long x0), .second, .val (.long x1), .second, .val (.long x2), .second, .val (.long x3), .second, .val (.int x4), .val (.long x5), .second, .val (.int (1 : Int32)), .val (.long (Int64.ofNat nu)), .second, .val (.long (1 : Int64)), .second, .unset, .unset, .unset, .unset, .unset, .unset, .unset, .unset, .unset, .unset, .unset, .unset, .unset, .unset, .unset, .unset, .unset, .unset, .unset, .unset, .unset, .unset, .unset, .unset, .unset, .unset, .unset]) rfl kq) ?_
      show Go p e below s _ _ _ s₁ (mkF m 34 #[.val (.long x0), .second, .val (.long x1), .second, .val (.long x2), .second, .val (.long x3), .second, .val (.int x4), .val (.long x5), .second, .val (.int (1 : Int32)), .val (.long (Int64.ofNat nu)), .second, .val (.long (1 : Int64)), .second, .unset, .unset, .unset, .unset, .unset, .unset, .unset, .unset, .unset, .unset, .unset, .unset, .unset, .unset, .unset, .unset, .unset, .unset, .unset, .unset, .unset, .unset, .unset, .unset, .unset, .unset, .unset] [])
      exact J34 1 (by omega) (by omega)
    · refine go_st (fun _ kq => XS.ifYes X0.here hx rfl (pc0 := 28) (pc' := 34) rfl (hb hby at_28) rfl (XT.ll_ne_t hc67) (by decide) (by decide) kq) ?_
      show Go p e below s _ _ _ s₁ (mkF m 34 #[.val (.long x0), .second, .val (.long x1), .second, .val (.long x2), .second, .val (.long x3), .second, .val (.int x4), .val (.long x5), .second, .val (.int (1 : Int32)), .val (.long (Int64.ofNat nu)), .second, .val (.long (Int64.ofNat nd0)), .second, .unset, .unset, .unset, .unset, .unset, .unset, .unset, .unset, .unset, .unset, .unset, .unset, .unset, .unset, .unset, .unset, .unset, .unset, .unset, .unset, .unset, .unset, .unset, .unset, .unset, .unset, .unset] [])
      have hp68 := own_ne0 (by omega) hc67
      exact J34 nd0 (by omega) (by omega)
  · refine go_st (fun _ kq => XS.ifYes X0.here hx rfl (pc0 := 21) (pc' := 34) rfl (hb hby at_21) rfl (XT.ll_ne_t hc66) (by decide) (by decide) kq) ?_
    show Go p e below s _ _ _ s₁ (mkF m 34 #[.val (.long x0), .second, .val (.long x1), .second, .val (.long x2), .second, .val (.long x3), .second, .val (.int x4), .val (.long x5), .second, .val (.int (1 : Int32)), .val (.long (Int64.ofNat nu)), .second, .val (.long (Int64.ofNat nd0)), .second, .unset, .unset, .unset, .unset, .unset, .unset, .unset, .unset, .unset, .unset, .unset, .unset, .unset, .unset, .unset, .unset, .unset, .unset, .unset, .unset, .unset, .unset, .unset, .unset, .unset, .unset, .unset] [])
    have hp69 := own_ne0 (by omega) hc66
    exact J34 nd0 (by omega) (by omega)
set_option maxRecDepth 65536 in
set_option maxHeartbeats 4000000 in
theorem comes_1 {Post : Tables → Env → Array Value → State → Outcome → State → Prop} (hpost : ∀ tb e args s v u, (limb_1_1.after args s (.returned v) u = true ∧ limb_1_2.after args s (.returned v) u = true ∧ True) → FrameEnd s (.returned v) u (Jvm.fieldLocs frame_1_writes args s ++ Jvm.arrayLocs frame_1_arrays args s ++ Jvm.staticLocs frame_1_statics s) 16 128 → Post tb e args s (.returned v) u) :
    ArmFor flags0 classFile x code maxLocals ret World_1 tables_1 room_1 Calls_1 rest_1 Pre_1 Post := by
  intro l hfl _ _ p e ha hc hk s m args below hf hA hF happ hP
  obtain ⟨hcalls, hrest, hpre⟩ := hP
  obtain ⟨-, -, -, hnamed, -, -, -, hat⟩ := (Spec.applies_iff hf).mp happ
  obtain ⟨hg, hn⟩ := and_e (Cond.before_iff.mp (show (Jvm.Cond.and given_1 narrow_1).before args s = true from hpre))
  obtain ⟨k1, r1⟩ := and_e hg
  obtain ⟨g0, r2⟩ := and_e r1
  obtain ⟨g1, r3⟩ := and_e r2
  obtain ⟨g2, r4⟩ := and_e r3
  obtain ⟨g3, r5⟩ := and_e r4
  obtain ⟨g4, r6⟩ := and_e r5
  have g5 := r6
  obtain ⟨w0, w1, w2, w3, w4, w5, rfl⟩ : ∃ w0 w1 w2 w3 w4 w5 : Value, args = #[w0, w1, w2, w3, w4, w5] := by
    have hs : args.size = 6 := by simpa [Cond.value, given_1] using k1
    obtain ⟨L⟩ := args
    match L, hs with
    | [w0, w1, w2, w3, w4, w5], _ => exact ⟨w0, w1, w2, w3, w4, w5, rfl⟩
  have hw := fun d (hd : d ∈ tables_1) => atoms_spec (ws := Jvm.Cond.code x code maxLocals ret :: tables_1) hat d (List.mem_cons_of_mem _ hd)
  have hfit : Fit s := fun {y c} hc i hi => by
    obtain ⟨ha, rfl⟩ := Array.getElem?_eq_some_iff.mp hc
    have q := List.all_eq_true.mp ((Array.all_eq_true_iff_forall_mem.mp hF) _ (Array.getElem_mem ha)) i (List.mem_range.mpr hi)
    simpa [Array.getElem?_eq_getElem hi] using q
  obtain ⟨i0, f0⟩ := isL_v g0
  obtain rfl : w0 = (.long i0) := Option.some.inj f0
  obtain ⟨i1, f1⟩ := isL_v g1
  obtain rfl : w1 = (.long i1) := Option.some.inj f1
  obtain ⟨i2, f2⟩ := isL_v g2
  obtain rfl : w2 = (.long i2) := Option.some.inj f2
  obtain ⟨i3, f3⟩ := isL_v g3
  obtain rfl : w3 = (.long i3) := Option.some.inj f3
  obtain ⟨i4, f4⟩ := is_v g4
  obtain rfl : w4 = (.int i4) := Option.some.inj f4
  obtain ⟨i5, f5⟩ := isL_v g5
  obtain rfl : w5 = (.long i5) := Option.some.inj f5
  have hm := met_law l s _ hw i0 i1 i2 i3 i4 i5 s.heap s.heap.size (Nat.le_refl _)
  obtain ⟨n, o, h1, h2, h3, _, L, rfl, ⟨rfl, N⟩, hq⟩ := hm p e ha hc hk s m _ below hf ((Spec.applies_iff_loose hf).mp happ).1 ⟨rfl, State.Warmed39.refl s, rfl⟩ trivial
  refine ⟨n, _, h1, h2, h3, hpost _ _ _ _ _ _ ⟨Cond.after_iff.mpr rfl, Cond.after_iff.mpr (eq_i res_at (Term.int_eval (1)) rfl), trivial⟩ ⟨hq.1, hq.2.1, (hq.2.2.sift fun y hy => Or.inr (N y hy)).mono (by decide) (by decide)⟩⟩
theorem main_1_1 : Claimed_1_1 := comes_1 fun _ _ _ _ _ _ h hF => ⟨h.1, hF⟩
theorem main_1_2 : Claimed_1_2 := comes_1 fun _ _ _ _ _ _ h hF => ⟨h.2.1, hF⟩
end Jvm.Pilot.@@N@@
namespace Jvm.Pilot.@@N@@
open Jvm Jvm.ClassFile Sem Op Lib Jvm.Free Jvm.Stand Jvm.Pilot.@@N@@.Jvm.D
/-! MADE BY PROGRAM (witnessworld.py) out of the Statement's table words and the real class files: 10 classes; the members and pool entries that the words name. The judged class is class 1, her method 2. -/
namespace start1
open Jvm.ClassFile
def u (s : String) : CpInfo := .utf8 (stringToUtf16 s)
/-- a pool by its gaps: so many unusable entries, then the entry; so many at the end -/
def gap : Nat → List CpInfo → List CpInfo
  | 0, r => r
  | n + 1, r => .unusable :: gap n r
def poolList (es : List (Nat × CpInfo)) (last : Nat) : List CpInfo := es.foldr (fun e r => gap e.1 (e.2 :: r)) (gap last [])
def pool (es : List (Nat × CpInfo)) (last : Nat) : Array CpInfo := ⟨poolList es last⟩
def fileOf (pool : Array CpInfo) (this : Nat) (attrs : Array Attribute := #[]) (ms : Array MethodInfo := #[]) (fl : Nat := 33) (sup : Nat := 0) (ifs : Array Nat := #[]) (fds : Array FieldInfo := #[]) : ClassFile where
  minorVersion := 0
  majorVersion := 65
  constantPool := pool
  accessFlags := fl
  thisClass := this
  superClass := sup
  interfaces := ifs
  fields := fds
  methods := ms
  attributes := attrs
def plain (name : String) (sup : Option ClassId) : Class where
  name := name
  kind := .ordinary
  loader := none
  accessFlags := 33
  super := sup
  interfaces := #[]
  cf := none
  fields := #[]
  methods := #[]
  instanceTypes := #[]
  staticTypes := #[]
  resolved := #[]
  callSites := []
  init := .initialized
  statics := none
  mirror := none

def pool0 : Array CpInfo := pool [(5, u "<init>"), (0, u "()V"), (1, .class_ 10), (1, u "java/lang/Object")] 113

def k0c0 : Code := { maxStack := 0, maxLocals := 1, code := object_method_1_code, exceptionTable := #[], attributes := #[] }
def k0m0 : Method := { name := "<init>", desc := "()V", sig := { parameters := [], returnType := none }, accessFlags := 1, code := some k0c0 }
/-- java/lang/Object -/
def k0 : Class := { plain "java/lang/Object" none with
  accessFlags := 33
  interfaces := #[]
  cf := some (fileOf pool0 8 #[] #[{ accessFlags := 1, nameIndex := 5, descriptorIndex := 6, attributes := #[] }] 33 0 #[] #[])
  fields := #[]
  methods := #[k0m0]
  instanceTypes := #[]
  staticTypes := #[]
  resolved := Array.replicate 124 none
  statics := none }

def pool1 : Array CpInfo := pool [(2, .class_ 4), (1, u "java/lang/Object"), (0, u "<init>"), (0, u "()V"), (0, .class_ 8), (0, u "com/example/quorumhelm/quorumhelm/Simulation$Churn"), (0, .methodref 7 10), (0, .nameAndType 5 11), (0, u "(JJJ)V"), (0, .methodref 7 13), (0, .nameAndType 14 15), (0, u "downShare"), (0, u "()D"), (2, .long 9223372036854775807), (1, .methodref 21 22), (0, .class_ 23), (0, .nameAndType 24 25), (0, u "com/example/quorumhelm/quorumhelm/SimulationDownSharePinLaw"), (0, u "share"), (0, u "(JJ)D"), (0, .long 2147483647), (3, u "law"), (0, u "(JJJJIJ)Z")] 7

def k1m0 : Method := { name := "<init>", desc := "()V", sig := { parameters := [], returnType := none }, accessFlags := 2, code := none }
def k1c1 : Code := { maxStack := 8, maxLocals := 4, code := method_2_code, exceptionTable := #[], attributes := #[] }
def k1m1 : Method := { name := "share", desc := "(JJ)D", sig := { parameters := [.long, .long], returnType := some .double }, accessFlags := 10, code := some k1c1 }
def k1c2 : Code := { maxStack := 6, maxLocals := 43, code := code, exceptionTable := #[], attributes := #[] }
def k1m2 : Method := { name := "law", desc := "(JJJJIJ)Z", sig := { parameters := [.long, .long, .long, .long, .int, .long], returnType := some .boolean }, accessFlags := 9, code := some k1c2 }
/-- com/example/quorumhelm/quorumhelm/SimulationDownSharePinLaw -/
def k1 : Class := { plain "com/example/quorumhelm/quorumhelm/SimulationDownSharePinLaw" (some 0) with
  accessFlags := 49
  interfaces := #[]
  cf := some (fileOf pool1 21 #[] #[{ accessFlags := 2, nameIndex := 5, descriptorIndex := 6, attributes := #[] }, { accessFlags := 10, nameIndex := 24, descriptorIndex := 25, attributes := #[] }, { accessFlags := 9, nameIndex := 30, descriptorIndex := 31, attributes := #[] }] 49 2 #[] #[])
  fields := #[]
  methods := #[k1m0, k1m1, k1m2]
  instanceTypes := #[]
  staticTypes := #[]
  resolved := Array.replicate 39 none
  statics := none }

def pool2 : Array CpInfo := pool [(1, .methodref 2 3), (0, .class_ 4), (0, .nameAndType 5 6), (0, u "java/lang/Object"), (0, u "<init>"), (0, u "()V"), (0, .class_ 8), (0, u "java/lang/Record")] 13

def k2c0 : Code := { maxStack := 1, maxLocals := 1, code := jdk_30_method_1_code, exceptionTable := #[], attributes := #[] }
def k2m0 : Method := { name := "<init>", desc := "()V", sig := { parameters := [], returnType := none }, accessFlags := 4, code := some k2c0 }
/-- java/lang/Record -/
def k2 : Class := { plain "java/lang/Record" (some 0) with
  accessFlags := 1057
  interfaces := #[]
  cf := some (fileOf pool2 7 #[] #[{ accessFlags := 4, nameIndex := 5, descriptorIndex := 6, attributes := #[] }] 1057 2 #[] #[])
  fields := #[]
  methods := #[k2m0]
  instanceTypes := #[]
  staticTypes := #[]
  resolved := Array.replicate 22 none
  statics := none }

def pool3 : Array CpInfo := pool [(1, .methodref 2 3), (0, .class_ 4), (0, .nameAndType 5 6), (0, u "java/lang/Record"), (0, u "<init>"), (0, u "()V"), (0, .fieldref 8 9), (0, .class_ 10), (0, .nameAndType 11 12), (0, u "com/example/quorumhelm/quorumhelm/Simulation$Churn"), (0, u "lengthNanos"), (0, u "J"), (0, .fieldref 8 14), (0, .nameAndType 15 12), (0, u "upNanos"), (0, .fieldref 8 17), (0, .nameAndType 18 12), (0, u "downNanos"), (12, u "(JJJ)V"), (3, u "downShare"), (0, u "()D"), (7, .class_ 45), (0, u "com/example/quorumhelm/quorumhelm/Simulation")] 21

def k3c0 : Code := { maxStack := 3, maxLocals := 7, code := prog_126_method_1_code, exceptionTable := #[], attributes := #[] }
def k3m0 : Method := { name := "<init>", desc := "(JJJ)V", sig := { parameters := [.long, .long, .long], returnType := none }, accessFlags := 0, code := some k3c0 }
def k3c1 : Code := { maxStack := 6, maxLocals := 1, code := prog_126_method_2_code, exceptionTable := #[], attributes := #[] }
def k3m1 : Method := { name := "downShare", desc := "()D", sig := { parameters := [], returnType := some .double }, accessFlags := 0, code := some k3c1 }
/-- com/example/quorumhelm/quorumhelm/Simulation$Churn -/
def k3 : Class := { plain "com/example/quorumhelm/quorumhelm/Simulation$Churn" (some 2) with
  accessFlags := 48
  interfaces := #[]
  cf := some (fileOf pool3 8 #[.nestHost 44] #[{ accessFlags := 0, nameIndex := 5, descriptorIndex := 31, attributes := #[] }, { accessFlags := 0, nameIndex := 35, descriptorIndex := 36, attributes := #[] }] 48 2 #[] #[{ accessFlags := 18, nameIndex := 11, descriptorIndex := 12, attributes := #[] }, { accessFlags := 18, nameIndex := 15, descriptorIndex := 12, attributes := #[] }, { accessFlags := 18, nameIndex := 18, descriptorIndex := 12, attributes := #[] }])
  fields := #[{ name := "lengthNanos", type := .long, accessFlags := 18, slot := 0, constantValue := 0 }, { name := "upNanos", type := .long, accessFlags := 18, slot := 1, constantValue := 0 }, { name := "downNanos", type := .long, accessFlags := 18, slot := 2, constantValue := 0 }]
  methods := #[k3m0, k3m1]
  instanceTypes := #[.long, .long, .long]
  staticTypes := #[]
  resolved := Array.replicate 67 none
  statics := none }

def pool4 : Array CpInfo := pool [(1, u "java/lang/Cloneable"), (0, .class_ 1), (0, u "java/lang/Object"), (0, .class_ 3)] 3

/-- java/lang/Cloneable -/
def k4 : Class := { plain "java/lang/Cloneable" (some 0) with
  accessFlags := 1537
  interfaces := #[]
  cf := some (fileOf pool4 2 #[] #[] 1537 4 #[] #[])
  fields := #[]
  methods := #[]
  instanceTypes := #[]
  staticTypes := #[]
  resolved := Array.replicate 8 none
  statics := none }

def pool5 : Array CpInfo := pool [(1, u "java/io/Serializable"), (0, .class_ 1), (0, u "java/lang/Object"), (0, .class_ 3)] 3

/-- java/io/Serializable -/
def k5 : Class := { plain "java/io/Serializable" (some 0) with
  accessFlags := 1537
  interfaces := #[]
  cf := some (fileOf pool5 2 #[] #[] 1537 4 #[] #[])
  fields := #[]
  methods := #[]
  instanceTypes := #[]
  staticTypes := #[]
  resolved := Array.replicate 8 none
  statics := none }

/-- the primitive byte -/
def k6 : Class := { plain "byte" none with kind := .primitive 'B', accessFlags := 0x411 }
/-- [B -/
def k7 : Class := { plain "[B" (some 0) with kind := .array 6 .byte, interfaces := #[4, 5], accessFlags := 1041 }

/-- the primitive int -/
def k8 : Class := { plain "int" none with kind := .primitive 'I', accessFlags := 0x411 }
/-- [I -/
def k9 : Class := { plain "[I" (some 0) with kind := .array 8 .int, interfaces := #[4, 5], accessFlags := 1041 }

def heap : Heap := #[]
def classes : Array Class := #[k0, k1, k2, k3, k4, k5, k6, k7, k8, k9]
def interned : List (Array UInt16 × Addr) := []
def slotsUsed : Nat := 0
def theMethod : MethodId := ⟨1, 2⟩
def args0 : Array Value := #[.long 5, .long 6, .long 7, .long 8, .int 9, .long 3]
def aboutOver (below : List Frame) : State where
  vm := { classes := classes, interned := interned.toArray }
  heap := heap
  slotsUsed := slotsUsed
  threads := #[{ frames := .invoking theMethod args0 :: below }]
def below0 : List Frame := [.native { method := ⟨0, 0⟩, args := #[] }]
def about1 : State := aboutOver below0
def p0 : Program := .bare "" "" ""
def e0 : Env := launch0.env 0 0 0
theorem w_frames : about1.frames = Frame.invoking theMethod args0 :: below0 := rfl
set_option maxRecDepth 65536 in
theorem w_args : argsFit about1.vm theMethod args0 = true := by decide +kernel
set_option maxRecDepth 65536 in
theorem w_heap : heapFits about1 = true := by decide +kernel
set_option maxRecDepth 65536 in
theorem w_runnable : about1.curStatus? = some .runnable := by decide +kernel
set_option maxRecDepth 65536 in
theorem w_alone : about1.alone = true := by decide +kernel
set_option maxRecDepth 65536 in
theorem w_named : about1.methodNamed? x = some theMethod := by decide +kernel
set_option maxRecDepth 65536 in
theorem w_hears : about1.hears theMethod below0 = true := by decide +kernel
set_option maxRecDepth 65536 in
theorem w_ripe : about1.ripe theMethod args0 below0 = true := by decide +kernel
theorem w_running : about1.status = .running := rfl
set_option maxRecDepth 65536 in
theorem w_room : about1.hasRoom e0.platform room_1 = true :=
  launch0.hasRoom_least _ room_1 (by decide +kernel) (by decide +kernel) (by decide +kernel) (by decide +kernel) (by decide +kernel) (by decide +kernel)
theorem allAtoms_all (ts : List Jvm.Cond) (a : Array Jvm.Value) (st : Jvm.State) : (allAtoms ts).before a st = ts.all (fun c => c.before a st) := by
  induction ts with
  | nil => rfl
  | cons c t ih =>
    show (Jvm.Cond.and c (allAtoms t)).before a st = _
    rw [Jvm.Cond.before_and, ih, List.all_cons]
def words1 : List Jvm.Cond := Jvm.Cond.code x code maxLocals ret :: tables_1
/-- a 'code' word, met by the world's own term for the bytes: nothing is compared byte by byte -/
theorem code_word {y : MethodName} {bytes : ByteArray} {mx : Nat} {rt : Option FieldType} {a : Array Value} {s : State} {m : MethodId} {meth : Method} {c : Code} (h1 : s.methodNamed? y = some m) (h2 : s.vm.method? m = some meth) (h3 : meth.code = some c) (h4 : c.code = bytes)
    (h5 : (c.maxLocals == mx && c.exceptionTable.isEmpty && decide (c.maxStack ≤ mostOperands) && decide (meth.sig.returnType = rt) && !meth.locks && decide (parseMethodDescriptor y.desc = some meth.sig)) = true) : (Jvm.Cond.code y bytes mx rt).before a s = true := by
  simp only [Bool.and_eq_true, beq_iff_eq, Bool.not_eq_true', decide_eq_true_eq] at h5
  obtain ⟨⟨⟨⟨⟨g1, g2⟩, g3⟩, g4⟩, g5⟩, g6⟩ := h5
  simp [Cond.before, Cond.holds, Cond.value, h1, h2, h3, h4, g1, g2, g3, g4, g5, g6]
def isCode : Jvm.Cond → Bool
  | .code _ _ _ _ => true
  | _ => false
theorem all_split {L : List Jvm.Cond} {P : Jvm.Cond → Bool} (h1 : L.all (fun c => isCode c || P c) = true) (h2 : ∀ c ∈ L.filter isCode, P c = true) : L.all P = true := by
  refine List.all_eq_true.mpr fun c hc => ?_
  have h := List.all_eq_true.mp h1 c hc
  rcases Bool.eq_false_or_eq_true (isCode c) with hi | hi
  · exact h2 c (List.mem_filter.mpr ⟨hc, hi⟩)
  · simpa [hi] using h
set_option maxRecDepth 65536 in
theorem w_c0 : (Jvm.Cond.code x code maxLocals ret).before args0 about1 = true := code_word (m := ⟨1, 2⟩) (meth := k1m2) (c := k1c2) (by decide +kernel) rfl rfl rfl (by decide +kernel)
set_option maxRecDepth 65536 in
theorem w_c1 : (Jvm.Cond.code ({ cls := "com/example/quorumhelm/quorumhelm/SimulationDownSharePinLaw", name := "share", desc := "(JJ)D" } : Jvm.MethodName) method_2_code (4 : Nat) (Option.some Jvm.ClassFile.FieldType.double)).before args0 about1 = true := code_word (m := ⟨1, 1⟩) (meth := k1m1) (c := k1c1) (by decide +kernel) rfl rfl rfl (by decide +kernel)
set_option maxRecDepth 65536 in
theorem w_c2 : (Jvm.Cond.code ({ cls := "com/example/quorumhelm/quorumhelm/Simulation$Churn", name := "<init>", desc := "(JJJ)V" } : Jvm.MethodName) prog_126_method_1_code (7 : Nat) (Option.none : Option Jvm.ClassFile.FieldType)).before args0 about1 = true := code_word (m := ⟨3, 0⟩) (meth := k3m0) (c := k3c0) (by decide +kernel) rfl rfl rfl (by decide +kernel)
set_option maxRecDepth 65536 in
theorem w_c3 : (Jvm.Cond.code ({ cls := "java/lang/Record", name := "<init>", desc := "()V" } : Jvm.MethodName) jdk_30_method_1_code (1 : Nat) (Option.none : Option Jvm.ClassFile.FieldType)).before args0 about1 = true := code_word (m := ⟨2, 0⟩) (meth := k2m0) (c := k2c0) (by decide +kernel) rfl rfl rfl (by decide +kernel)
set_option maxRecDepth 65536 in
theorem w_c4 : (Jvm.Cond.code ({ cls := "java/lang/Object", name := "<init>", desc := "()V" } : Jvm.MethodName) object_method_1_code (1 : Nat) (Option.none : Option Jvm.ClassFile.FieldType)).before args0 about1 = true := code_word (m := ⟨0, 0⟩) (meth := k0m0) (c := k0c0) (by decide +kernel) rfl rfl rfl (by decide +kernel)
set_option maxRecDepth 65536 in
theorem w_c5 : (Jvm.Cond.code ({ cls := "com/example/quorumhelm/quorumhelm/Simulation$Churn", name := "downShare", desc := "()D" } : Jvm.MethodName) prog_126_method_2_code (1 : Nat) (Option.some Jvm.ClassFile.FieldType.double)).before args0 about1 = true := code_word (m := ⟨3, 1⟩) (meth := k3m1) (c := k3c1) (by decide +kernel) rfl rfl rfl (by decide +kernel)
def codes1 : List Jvm.Cond := [Jvm.Cond.code x code maxLocals ret, Jvm.Cond.code ({ cls := "com/example/quorumhelm/quorumhelm/SimulationDownSharePinLaw", name := "share", desc := "(JJ)D" } : Jvm.MethodName) method_2_code (4 : Nat) (Option.some Jvm.ClassFile.FieldType.double), Jvm.Cond.code ({ cls := "com/example/quorumhelm/quorumhelm/Simulation$Churn", name := "<init>", desc := "(JJJ)V" } : Jvm.MethodName) prog_126_method_1_code (7 : Nat) (Option.none : Option Jvm.ClassFile.FieldType), Jvm.Cond.code ({ cls := "java/lang/Record", name := "<init>", desc := "()V" } : Jvm.MethodName) jdk_30_method_1_code (1 : Nat) (Option.none : Option Jvm.ClassFile.FieldType), Jvm.Cond.code ({ cls := "java/lang/Object", name := "<init>", desc := "()V" } : Jvm.MethodName) object_method_1_code (1 : Nat) (Option.none : Option Jvm.ClassFile.FieldType), Jvm.Cond.code ({ cls := "com/example/quorumhelm/quorumhelm/Simulation$Churn", name := "downShare", desc := "()D" } : Jvm.MethodName) prog_126_method_2_code (1 : Nat) (Option.some Jvm.ClassFile.FieldType.double)]
set_option maxRecDepth 65536 in
theorem codes_eq : words1.filter isCode = codes1 := rfl
theorem w_codes : ∀ c ∈ words1.filter isCode, c.before args0 about1 = true := by
  rw [codes_eq]
  intro c hc
  simp only [codes1, List.mem_cons, List.not_mem_nil, or_false] at hc
  rcases hc with rfl | rfl | rfl | rfl | rfl | rfl
  · exact w_c0
  · exact w_c1
  · exact w_c2
  · exact w_c3
  · exact w_c4
  · exact w_c5
set_option maxRecDepth 65536 in
theorem w_t1 : (words1.take 24).all (fun c => isCode c || c.before args0 about1) = true := by decide +kernel
set_option maxRecDepth 65536 in
theorem w_t2 : (words1.drop 24).all (fun c => isCode c || c.before args0 about1) = true := by decide +kernel
theorem w_tables : (allAtoms (Jvm.Cond.code x code maxLocals ret :: tables_1)).before args0 about1 = true := by
  rw [allAtoms_all]
  show words1.all (fun c => c.before args0 about1) = true
  refine all_split ?_ w_codes
  rw [← List.take_append_drop 24 words1, List.all_append, w_t1, w_t2]
  rfl
set_option maxRecDepth 65536 in
theorem w_case : (Jvm.Cond.and given_1 narrow_1).before args0 about1 = true := by decide +kernel
theorem w_applies : (headSpec (Jvm.Cond.code x code maxLocals ret :: tables_1) room_1).applies x e0.platform about1 = true :=
  (Spec.applies_iff w_frames).mpr ⟨w_running, w_runnable, w_alone, w_named, w_hears, w_ripe, w_room, w_tables⟩
theorem atStart : AtStart classFile x code maxLocals ret World_1 tables_1 room_1 Calls_1 rest_1 Pre_1 launch0 p0 e0 about1 theMethod args0 below0 :=
  ⟨lists_1, trivial, launch0.admits_env _ _ _, launch0.least_env, fairChoices_fair.cas, fairChoices_fair.clock, w_frames, w_args, w_heap, w_applies, trivial, trivial, w_case⟩
end start1
theorem witness_1 : WitnessClaimed_1 := ⟨start1.p0, start1.e0, start1.about1, start1.theMethod, start1.args0, start1.below0, start1.atStart⟩
end Jvm.Pilot.@@N@@
