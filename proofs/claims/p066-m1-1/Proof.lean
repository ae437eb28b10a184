import JvmDerived
import JvmDerived.Pilot.@@N@@Statement
import JvmDerived.Pilot.@@N@@Code
set_option linter.unusedVariables false
set_option linter.unusedSimpArgs false
namespace OwnDy
section OwnDy
open Jvm.FP.Core
theorem own_shift {A X : Nat} {e q : Int} {K : Nat} (he : 0 ≤ e + K) (hq : 0 ≤ q + K) (h : A * 2 ^ (e + K).toNat = X * 2 ^ (q + K).toNat) : A * 2 ^ (e - q).toNat = X * 2 ^ (q - e).toNat := by
  by_cases hc : q ≤ e
  · have h1 : (e + K).toNat = (e - q).toNat + (q + K).toNat := by omega
    have h2 : (q - e).toNat = 0 := by omega
    rw [h1, Nat.pow_add, ← Nat.mul_assoc] at h
    rw [h2, Nat.pow_zero, Nat.mul_one]
    exact Nat.eq_of_mul_eq_mul_right (Nat.two_pow_pos _) h
  · have h1 : (q + K).toNat = (q - e).toNat + (e + K).toNat := by omega
    have h2 : (e - q).toNat = 0 := by omega
    rw [h1, Nat.pow_add, ← Nat.mul_assoc] at h
    rw [h2, Nat.pow_zero, Nat.mul_one]
    exact Nat.eq_of_mul_eq_mul_right (Nat.two_pow_pos _) h
theorem own_qmin : b64.qmin = -1074 := by decide
theorem own_qmax : b64.qmax = 971 := by decide
theorem own_tails : b64.tails = 2 ^ 52 := by decide
theorem own_p : b64.p = 53 := by decide
/-- n / 2^k, for n of at most 53 digits, is a double -/
theorem own_rep (n k : Nat) (hn : n < 2 ^ 53) (hk : k ≤ 1000) : ∃ c q, fits b64 (.fin false c q) ∧ -1074 ≤ q ∧ c * 2 ^ (q + (1074 : Nat)).toNat * 2 ^ k = n * 2 ^ 1074 := by
  by_cases h0 : n = 0
  · refine ⟨0, -1074, by rw [← own_qmin]; exact zero_fits good_b64 false, by omega, ?_⟩
    rw [h0, Nat.zero_mul, Nat.zero_mul, Nat.zero_mul]
  · have hL : n.log2 < 53 := (Nat.log2_lt h0).mpr hn
    have hl1 : 2 ^ n.log2 ≤ n := Nat.log2_self_le h0
    have hl2 : n < 2 ^ (n.log2 + 1) := Nat.lt_log2_self
    refine ⟨n * 2 ^ (52 - n.log2), -(k : Int) - ((52 - n.log2 : Nat) : Int), ⟨?_, ?_, ?_, Or.inr ?_⟩, by omega, ?_⟩
    · rw [own_p]
      have e1 : 2 ^ 53 = 2 ^ (n.log2 + 1) * 2 ^ (52 - n.log2) := by rw [← Nat.pow_add]; congr 1; omega
      rw [e1]
      exact Nat.mul_lt_mul_of_pos_right hl2 (Nat.two_pow_pos _)
    · rw [own_qmin]; omega
    · rw [own_qmax]; omega
    · rw [own_tails]
      have e1 : 2 ^ 52 = 2 ^ n.log2 * 2 ^ (52 - n.log2) := by rw [← Nat.pow_add]; congr 1; omega
      rw [e1]
      exact Nat.mul_le_mul_right _ hl1
    · have e1 : (-(k : Int) - ((52 - n.log2 : Nat) : Int) + (1074 : Nat)).toNat = 1074 - k - (52 - n.log2) := by omega
      rw [e1, Nat.mul_assoc, Nat.mul_assoc, ← Nat.pow_add, ← Nat.pow_add]
      congr 2
      omega
theorem own_exact {A B n k K : Nat} {e : Int} (hB : 0 < B) (hn : n < 2 ^ 53) (hk : k ≤ 1000) (hK : 1074 ≤ K) (he : 0 ≤ e + K) (h : A * 2 ^ (e + K).toNat * 2 ^ k = n * B * 2 ^ K) : ∃ c q, roundRatio b64 false A B e = .fin false c q ∧ -1074 ≤ q ∧ c * 2 ^ (q + (1074 : Nat)).toNat * 2 ^ k = n * 2 ^ 1074 := by
  obtain ⟨c, q, h1, h2, h3⟩ := own_rep n k hn hk
  refine ⟨c, q, roundRatio_exact good_b64 hB h1 (own_shift (K := K) he (by omega) ?_), h2, h3⟩
  have e1 : (q + K).toNat = (q + (1074 : Nat)).toNat + (K - 1074) := by omega
  have e2 : 2 ^ K = 2 ^ 1074 * 2 ^ (K - 1074) := by rw [← Nat.pow_add, Nat.add_sub_cancel' hK]
  refine Nat.eq_of_mul_eq_mul_right (Nat.two_pow_pos k) ?_
  rw [h, e1, e2, Nat.pow_add]
  generalize 2 ^ 1074 = P at *
  generalize 2 ^ (q + (1074 : Nat)).toNat = R at *
  generalize 2 ^ (K - 1074) = U at *
  calc n * B * (P * U) = (n * P) * (B * U) := by ac_rfl
    _ = (c * R * 2 ^ k) * (B * U) := by rw [h3]
    _ = c * B * (R * U) * 2 ^ k := by ac_rfl
/-- the double x is n / 2^k -/
def Dy (x : UInt64) (n k : Nat) : Prop := ∃ c q, val64 x = .fin false c q ∧ -1074 ≤ q ∧ c * 2 ^ (q + (1074 : Nat)).toNat * 2 ^ k = n * 2 ^ 1074
theorem Dy.fin {x : UInt64} {n k : Nat} (h : Dy x n k) : DFin x := by
  obtain ⟨c, q, h1, -⟩ := h
  exact ⟨_, _, _, h1⟩
theorem Dy.div {x y : UInt64} {n k m j r t : Nat} (hx : Dy x n k) (hy : Dy y m j) (hm : 0 < m) (hr : r < 2 ^ 53) (ht : t ≤ 1000) (h : n * 2 ^ j * 2 ^ t = r * m * 2 ^ k) : Dy (ddiv x y) r t := by
  obtain ⟨c, q, h1, h2, h3⟩ := hx
  obtain ⟨d, w, g1, g2, g3⟩ := hy
  have hd : 0 < d := by
    rcases Nat.eq_zero_or_pos d with rfl | hd
    · rw [Nat.zero_mul, Nat.zero_mul] at g3
      exact absurd g3.symm (Nat.ne_of_gt (Nat.mul_pos hm (Nat.two_pow_pos _)))
    · exact hd
  have e0 := val64_ddiv x y
  rw [h1, g1] at e0
  have e1 : quotient b64 (.fin false c q) (.fin false d w) = roundRatio b64 false c d (q - w) := by
    show (if d = 0 then _ else _) = _
    rw [if_neg (by omega)]
    rfl
  rw [e1] at e0
  -- w ≤ 971 as it fits
  have hw : w ≤ 971 := by
    have := val64_fits y
    rw [g1] at this
    have := this.2.2.1
    rw [own_qmax] at this
    exact this
  obtain ⟨c', q', k1, k2, k3⟩ := own_exact (A := c) (B := d) (n := r) (k := t) (K := 4000) (e := q - w) hd hr ht (by omega) (by omega) (by
    have i1 : (q - w + (4000 : Nat)).toNat + (w + (1074 : Nat)).toNat = (q + (1074 : Nat)).toNat + 4000 := by omega
    refine Nat.eq_of_mul_eq_mul_right (Nat.mul_pos (Nat.two_pow_pos (w + (1074 : Nat)).toNat) (Nat.mul_pos (Nat.two_pow_pos k) (Nat.two_pow_pos j))) ?_
    have i2 : 2 ^ (q - w + (4000 : Nat)).toNat * 2 ^ (w + (1074 : Nat)).toNat = 2 ^ (q + (1074 : Nat)).toNat * 2 ^ 4000 := by rw [← Nat.pow_add, ← Nat.pow_add, i1]
    generalize 2 ^ (q - w + (4000 : Nat)).toNat = E1 at *
    generalize 2 ^ (w + (1074 : Nat)).toNat = E2 at *
    generalize 2 ^ (q + (1074 : Nat)).toNat = E3 at *
    generalize 2 ^ 4000 = E4 at *
    generalize 2 ^ 1074 = P at *
    calc c * E1 * 2 ^ t * (E2 * (2 ^ k * 2 ^ j)) = c * (E1 * E2) * 2 ^ t * (2 ^ k * 2 ^ j) := by ac_rfl
      _ = (c * E3 * 2 ^ k) * (E4 * 2 ^ t * 2 ^ j) := by rw [i2]; ac_rfl
      _ = (n * 2 ^ j * 2 ^ t) * (P * E4) := by rw [h3]; ac_rfl
      _ = (m * P) * (r * 2 ^ k * E4) := by rw [h]; ac_rfl
      _ = r * d * E4 * (E2 * (2 ^ k * 2 ^ j)) := by rw [← g3]; ac_rfl)
  exact ⟨c', q', e0.trans k1, k2, k3⟩
theorem Dy.mul {x y : UInt64} {n k m j r t : Nat} (hx : Dy x n k) (hy : Dy y m j) (hr : r < 2 ^ 53) (ht : t ≤ 1000) (h : n * m * 2 ^ t = r * (2 ^ k * 2 ^ j)) : Dy (dmul x y) r t := by
  obtain ⟨c, q, h1, h2, h3⟩ := hx
  obtain ⟨d, w, g1, g2, g3⟩ := hy
  have e0 := val64_dmul x y
  rw [h1, g1] at e0
  have e1 : round b64 (exactProduct (.fin false c q) (.fin false d w)) = roundRatio b64 false (c * d) 1 (q + w) := rfl
  rw [e1] at e0
  obtain ⟨c', q', k1, k2, k3⟩ := own_exact (A := c * d) (B := 1) (n := r) (k := t) (K := 2148) (e := q + w) (by decide) hr ht (by omega) (by omega) (by
    have i1 : (q + w + (2148 : Nat)).toNat = (q + (1074 : Nat)).toNat + (w + (1074 : Nat)).toNat := by omega
    have i2 : 2 ^ 2148 = 2 ^ 1074 * 2 ^ 1074 := by rw [← Nat.pow_add]
    rw [i1, Nat.pow_add, i2]
    refine Nat.eq_of_mul_eq_mul_right (Nat.mul_pos (Nat.two_pow_pos k) (Nat.two_pow_pos j)) ?_
    generalize 2 ^ (w + (1074 : Nat)).toNat = E2 at *
    generalize 2 ^ (q + (1074 : Nat)).toNat = E3 at *
    generalize 2 ^ 1074 = P at *
    calc c * d * (E3 * E2) * 2 ^ t * (2 ^ k * 2 ^ j) = (c * E3 * 2 ^ k) * (d * E2 * 2 ^ j) * 2 ^ t := by ac_rfl
      _ = (n * m * 2 ^ t) * (P * P) := by rw [h3, g3]; ac_rfl
      _ = r * 1 * (P * P) * (2 ^ k * 2 ^ j) := by rw [h]; ac_rfl)
  exact ⟨c', q', e0.trans k1, k2, k3⟩
theorem own_iu {c : Nat} {q e : Int} (he : -1074 ≤ e) (h : e ≤ q) : inUnits c q e * 2 ^ (e + (1074 : Nat)).toNat = c * 2 ^ (q + (1074 : Nat)).toNat := by
  unfold inUnits
  have : (q + (1074 : Nat)).toNat = (q - e).toNat + (e + (1074 : Nat)).toNat := by omega
  rw [this, Nat.pow_add]
  ac_rfl
theorem own_natAbs (a b : Nat) : ((a : Int) + (b : Int)).natAbs = a + b := by omega
theorem Dy.add {x y : UInt64} {n k m j r t : Nat} (hx : Dy x n k) (hy : Dy y m j) (hr : r < 2 ^ 53) (ht : t ≤ 1000) (h : (n * 2 ^ j + m * 2 ^ k) * 2 ^ t = r * (2 ^ k * 2 ^ j)) : Dy (dadd x y) r t := by
  obtain ⟨c, q, h1, h2, h3⟩ := hx
  obtain ⟨d, w, g1, g2, g3⟩ := hy
  have e0 := val64_dadd x y
  rw [h1, g1] at e0
  have e1 : round b64 (exactSum (.fin false c q) (.fin false d w)) = roundRatio b64 false (inUnits c q (min q w) + inUnits d w (min q w)) 1 (min q w) := by
    show roundRatio b64 (sumSign false false (sumUnits false c q false d w (min q w))) (sumUnits false c q false d w (min q w)).natAbs 1 (min q w) = _
    have e2 : sumUnits false c q false d w (min q w) = ((inUnits c q (min q w) : Nat) : Int) + ((inUnits d w (min q w) : Nat) : Int) := by simp [sumUnits, signed]
    rw [e2, own_natAbs]
    have e3 : sumSign false false (((inUnits c q (min q w) : Nat) : Int) + ((inUnits d w (min q w) : Nat) : Int)) = false := by
      unfold sumSign
      split
      · rfl
      · simp; omega
    rw [e3]
  rw [e1] at e0
  obtain ⟨c', q', k1, k2, k3⟩ := own_exact (A := inUnits c q (min q w) + inUnits d w (min q w)) (B := 1) (n := r) (k := t) (K := 1074) (e := min q w) (by decide) hr ht (by omega) (by omega) (by
    have i1 := own_iu (c := c) (q := q) (e := min q w) (by omega) (by omega)
    have i2 := own_iu (c := d) (q := w) (e := min q w) (by omega) (by omega)
    rw [Nat.add_mul, i1, i2]
    refine Nat.eq_of_mul_eq_mul_right (Nat.mul_pos (Nat.two_pow_pos k) (Nat.two_pow_pos j)) ?_
    generalize 2 ^ (w + (1074 : Nat)).toNat = E2 at *
    generalize 2 ^ (q + (1074 : Nat)).toNat = E3 at *
    generalize 2 ^ 1074 = P at *
    calc (c * E3 + d * E2) * 2 ^ t * (2 ^ k * 2 ^ j) = ((c * E3 * 2 ^ k) * 2 ^ j + (d * E2 * 2 ^ j) * 2 ^ k) * 2 ^ t := by
          rw [Nat.add_mul, Nat.add_mul, Nat.add_mul]; congr 1 <;> ac_rfl
      _ = (n * 2 ^ j + m * 2 ^ k) * 2 ^ t * P := by rw [h3, g3, Nat.add_mul, Nat.add_mul, Nat.add_mul]; congr 1 <;> ac_rfl
      _ = r * 1 * P * (2 ^ k * 2 ^ j) := by rw [h]; ac_rfl)
  exact ⟨c', q', e0.trans k1, k2, k3⟩
theorem Dy.val {x : UInt64} {n k : Nat} (h : Dy x n k) : ∃ z : Nat, zval b64 (val64 x) = z ∧ z * 2 ^ k = n * 2 ^ 1074 := by
  obtain ⟨c, q, h1, h2, h3⟩ := h
  refine ⟨c * 2 ^ (q + (1074 : Nat)).toNat, ?_, h3⟩
  rw [h1]
  show signed false (inUnits c q b64.qmin) = _
  rw [own_qmin]
  show ((inUnits c q (-1074) : Nat) : Int) = _
  unfold inUnits
  congr 3
theorem Dy.cmp {x y : UInt64} {n k m j : Nat} (hx : Dy x n k) (hy : Dy y m j) : dcmp x y = some (compare ((n * 2 ^ j : Nat) : Int) ((m * 2 ^ k : Nat) : Int)) := by
  have e0 := dcmp_zval ((notNaN_iff x).mp hx.fin.notNaN) ((notNaN_iff y).mp hy.fin.notNaN)
  obtain ⟨a, h1, h2⟩ := hx.val
  obtain ⟨b, g1, g2⟩ := hy.val
  rw [h1, g1] at e0
  refine Eq.trans e0 ?_
  congr 1
  have p1 : 0 < 2 ^ 1074 := Nat.two_pow_pos _
  have pk := Nat.two_pow_pos k
  have pj := Nat.two_pow_pos j
  clear h1 g1 e0
  generalize 2 ^ 1074 = P at *
  have i1 : n * 2 ^ j * P = a * (2 ^ k * 2 ^ j) := by
    calc n * 2 ^ j * P = (n * P) * 2 ^ j := by ac_rfl
      _ = a * (2 ^ k * 2 ^ j) := by rw [← h2]; ac_rfl
  have i2 : m * 2 ^ k * P = b * (2 ^ k * 2 ^ j) := by
    calc m * 2 ^ k * P = (m * P) * 2 ^ k := by ac_rfl
      _ = b * (2 ^ k * 2 ^ j) := by rw [← g2]; ac_rfl
  have pp : 0 < 2 ^ k * 2 ^ j := Nat.mul_pos pk pj
  generalize 2 ^ k * 2 ^ j = U at *
  generalize n * 2 ^ j = N at *
  generalize m * 2 ^ k = M at *
  have key : ∀ {u v s t : Nat}, u * P = s * U → v * P = t * U → (s < t ↔ u < v) := by
    intro u v s t hu hv
    constructor
    · intro hst
      have : s * U < t * U := Nat.mul_lt_mul_of_pos_right hst pp
      rw [← hu, ← hv] at this
      exact Nat.lt_of_mul_lt_mul_right this
    · intro huv
      have : u * P < v * P := Nat.mul_lt_mul_of_pos_right huv p1
      rw [hu, hv] at this
      exact Nat.lt_of_mul_lt_mul_right this
  have k1 := key i1 i2
  have k2 := key i2 i1
  have c1 : ((a : Int) < (b : Int)) ↔ ((N : Int) < (M : Int)) := by omega
  have c2 : ((a : Int) = (b : Int)) ↔ ((N : Int) = (M : Int)) := by omega
  rw [compare_ite, compare_ite]
  simp only [c1, c2]
theorem Dy.of_l2d {a : Int64} {n : Nat} (h : a.toInt = n) (hn : n < 2 ^ 53) : Dy (l2d a) n 0 := by
  have e0 := val64_l2d a
  have e1 : round b64 (ofInt a.toInt) = roundRatio b64 false n 1 0 := by
    rw [h]
    show roundRatio b64 (decide ((n : Int) < 0)) (n : Int).natAbs 1 0 = _
    have : decide ((n : Int) < 0) = false := by simp
    rw [this]
    rfl
  rw [e1] at e0
  obtain ⟨c', q', k1, k2, k3⟩ := own_exact (A := n) (B := 1) (n := n) (k := 0) (K := 1074) (e := 0) (by decide) hn (by omega) (by omega) (by omega) (by
    have : ((0 : Int) + (1074 : Nat)).toNat = 1074 := by omega
    rw [this]
    generalize 2 ^ 1074 = P
    rw [Nat.pow_zero, Nat.mul_one, Nat.mul_one])
  exact ⟨c', q', e0.trans k1, k2, k3⟩
theorem Dy.of_i2d {a : Int32} {n : Nat} (h : a.toInt = n) : Dy (i2d a) n 0 := by
  rw [i2d_l2d]
  refine Dy.of_l2d (a := a.toInt64) (n := n) ?_ ?_
  · rw [Int32.toInt_toInt64]; exact h
  · have := a.toInt_lt; omega
theorem own_nan64 {x : UInt64} (h : DFin x) : (x &&& 0x7fffffffffffffff) ≤ 0x7ff0000000000000 := by
  obtain ⟨s, c, q, h1⟩ := h
  have h2 : ¬ infBits b64 < mag b64 x.toNat := fun hq => by
    have := (decode_nan x.toNat).mpr hq
    rw [show decode b64 x.toNat = val64 x from rfl, h1] at this
    cases this
  rw [UInt64.le_iff_toNat_le, mask_toNat]
  have e1 : infBits b64 = 9218868437227405312 := by decide
  have e2 : mag b64 x.toNat = x.toNat % 2 ^ 63 := rfl
  have e3 : (0x7ff0000000000000 : UInt64).toNat = 9218868437227405312 := rfl
  omega
theorem own_cmp_eq {x y : UInt64} {n k m j : Nat} (hx : Dy x n k) (hy : Dy y m j) (h : n * 2 ^ j = m * 2 ^ k) : dcmp x y = some .eq := by
  rw [hx.cmp hy, h]
  simp [compare_ite]
theorem own_cmp_lt {x y : UInt64} {n k m j : Nat} (hx : Dy x n k) (hy : Dy y m j) (h : n * 2 ^ j < m * 2 ^ k) : dcmp x y = some .lt := by
  rw [hx.cmp hy, compare_ite, if_pos (by omega)]
theorem own_cmp_gt {x y : UInt64} {n k m j : Nat} (hx : Dy x n k) (hy : Dy y m j) (h : m * 2 ^ k < n * 2 ^ j) : dcmp x y = some .gt := by
  rw [hx.cmp hy, compare_ite, if_neg (by omega), if_neg (by omega)]
end OwnDy
section OwnSy
open Jvm.FP.Core
theorem own_nanN {x : UInt64} (h : val64 x ≠ .nan) : (x &&& 0x7fffffffffffffff) ≤ 0x7ff0000000000000 := by
  have h2 : ¬ infBits b64 < mag b64 x.toNat := fun hq => h ((decode_nan x.toNat).mpr hq)
  rw [UInt64.le_iff_toNat_le, mask_toNat]
  have e1 : infBits b64 = 9218868437227405312 := by decide
  have e2 : mag b64 x.toNat = x.toNat % 2 ^ 63 := rfl
  have e3 : (0x7ff0000000000000 : UInt64).toNat = 9218868437227405312 := rfl
  omega
/-- the double x is -+ n -/
def Sy (x : UInt64) (s : Bool) (n : Nat) : Prop := ∃ c q, val64 x = .fin s c q ∧ -1074 ≤ q ∧ c * 2 ^ (q + (1074 : Nat)).toNat = n * 2 ^ 1074
theorem own_exactS {s : Bool} {A B n : Nat} (hB : 0 < B) (hn : n < 2 ^ 53) (h : A = n * B) : ∃ c q, roundRatio b64 s A B 0 = .fin s c q ∧ -1074 ≤ q ∧ c * 2 ^ (q + (1074 : Nat)).toNat = n * 2 ^ 1074 := by
  obtain ⟨c, q, h1, h2, h3⟩ := own_rep n 0 hn (by omega)
  rw [Nat.pow_zero, Nat.mul_one] at h3
  have h1' : fits b64 (.fin s c q) := h1
  refine ⟨c, q, roundRatio_exact good_b64 hB h1' (own_shift (K := 1074) (by omega) (by omega) ?_), h2, h3⟩
  have e1 : ((0 : Int) + (1074 : Nat)).toNat = 1074 := by omega
  rw [e1, h]
  generalize 2 ^ 1074 = P at *
  generalize 2 ^ (q + (1074 : Nat)).toNat = R at *
  calc n * B * P = (n * P) * B := by ac_rfl
    _ = c * B * R := by rw [← h3]; ac_rfl
theorem Sy.of_l2d {a : Int64} (h : a.toInt.natAbs < 2 ^ 53) : Sy (l2d a) (decide (a.toInt < 0)) a.toInt.natAbs := by
  have e0 := val64_l2d a
  have e1 : round b64 (ofInt a.toInt) = roundRatio b64 (decide (a.toInt < 0)) a.toInt.natAbs 1 0 := rfl
  rw [e1] at e0
  obtain ⟨c, q, k1, k2, k3⟩ := own_exactS (s := decide (a.toInt < 0)) (A := a.toInt.natAbs) (B := 1) (by decide) h (Nat.mul_one _).symm
  exact ⟨c, q, e0.trans k1, k2, k3⟩
theorem Sy.pos {x : UInt64} {s : Bool} {n c : Nat} {q : Int} (h1 : c * 2 ^ (q + (1074 : Nat)).toNat = n * 2 ^ 1074) (hn : 0 < n) : 0 < c := by
  rcases Nat.eq_zero_or_pos c with rfl | hc
  · rw [Nat.zero_mul] at h1
    exact absurd h1.symm (Nat.ne_of_gt (Nat.mul_pos hn (Nat.two_pow_pos _)))
  · exact hc
/-- a quotient of whole numbers -/
theorem Sy.quo {x y : UInt64} {s : Bool} {n m : Nat} (hx : Sy x s n) (hy : Sy y false m) (hm : 0 < m) : val64 (ddiv x y) = roundRatio b64 s n m 0 := by
  obtain ⟨c, q, h1, h2, h3⟩ := hx
  obtain ⟨d, w, g1, g2, g3⟩ := hy
  have hd : 0 < d := Sy.pos (x := y) (s := false) g3 hm
  rw [val64_ddiv, h1, g1]
  show (if d = 0 then _ else _) = _
  rw [if_neg (by omega)]
  have hs : (s != false) = s := by cases s <;> rfl
  rw [hs]
  have hw : w ≤ 971 := by
    have := val64_fits y
    rw [g1] at this
    have := this.2.2.1
    rw [own_qmax] at this
    exact this
  have key := own_shift (A := c * m) (X := n * d) (e := q - w) (q := 0) (K := 4000) (by omega) (by omega) (by
    have i1 : (q - w + (4000 : Nat)).toNat + (w + (1074 : Nat)).toNat = (q + (1074 : Nat)).toNat + 4000 := by omega
    refine Nat.eq_of_mul_eq_mul_right (Nat.mul_pos (Nat.two_pow_pos (w + (1074 : Nat)).toNat) (Nat.two_pow_pos 1074)) ?_
    have i2 : 2 ^ (q - w + (4000 : Nat)).toNat * 2 ^ (w + (1074 : Nat)).toNat = 2 ^ (q + (1074 : Nat)).toNat * 2 ^ 4000 := by rw [← Nat.pow_add, ← Nat.pow_add, i1]
    have i3 : ((0 : Int) + (4000 : Nat)).toNat = 4000 := by omega
    rw [i3]
    generalize 2 ^ (q - w + (4000 : Nat)).toNat = E1 at *
    generalize 2 ^ (w + (1074 : Nat)).toNat = E2 at *
    generalize 2 ^ (q + (1074 : Nat)).toNat = E3 at *
    generalize 2 ^ 4000 = E4 at *
    generalize 2 ^ 1074 = P at *
    calc c * m * E1 * (E2 * P) = (m * P) * (c * (E1 * E2)) := by ac_rfl
      _ = (c * E3) * ((m * P) * E4) := by rw [i2]; ac_rfl
      _ = n * d * E4 * (E2 * P) := by rw [h3, ← g3]; ac_rfl)
  exact roundRatio_congr hd hm key
theorem own_zround (s : Bool) (A B : Nat) : zval b64 (roundRatio b64 s A B 0) = signed s (zmag b64 (roundRatio b64 s A B 0)) := by
  unfold zval
  rw [sgn_roundRatio]
theorem own_zfin {c : Nat} {q : Int} (s : Bool) : zmag b64 (.fin s c q) = c * 2 ^ (q + (1074 : Nat)).toNat := by
  show inUnits c q b64.qmin = _
  rw [own_qmin]
  unfold inUnits
  congr 2
/-- between two neighbouring whole numbers, the quotient rounds to neither -/
theorem own_between {s : Bool} {A N M r : Nat} (hA : A = M * N + r) (h1 : 1 ≤ r) (h2 : r < N) (hN : N ≤ 2 ^ 20) (hM : M < 2 ^ 32) : M * 2 ^ 1074 < zmag b64 (roundRatio b64 s A N 0) ∧ zmag b64 (roundRatio b64 s A N 0) < (M + 1) * 2 ^ 1074 := by
  have hN0 : 0 < N := by omega
  have hp : 0 < 2 ^ 1074 := Nat.two_pow_pos _
  constructor
  · obtain ⟨c, q, f1, f2, f3⟩ := own_rep (M * 2 ^ 20 + 1) 20 (by omega) (by omega)
    have k := zmag_roundRatio_ge (s := s) (A := A) (e := 0) (e0 := -1074) (V := .fin false c q) good_b64 hN0 f1 (by rw [own_qmin]; omega) (by omega) (by
      rw [own_qmin, own_zfin]
      have e1 : ((-1074 : Int) - -1074).toNat = 0 := by omega
      have e2 : inUnits A 0 (-1074) = A * 2 ^ 1074 := by unfold inUnits; congr 2
      rw [e1, e2, Nat.pow_zero, Nat.mul_one]
      refine Nat.le_of_mul_le_mul_right ?_ (Nat.two_pow_pos 20)
      generalize 2 ^ (q + (1074 : Nat)).toNat = R at *
      generalize 2 ^ 1074 = P at *
      have e3 : c * R * N * 2 ^ 20 = ((M * 2 ^ 20 + 1) * N) * P := by
        calc c * R * N * 2 ^ 20 = (c * R * 2 ^ 20) * N := by ac_rfl
          _ = ((M * 2 ^ 20 + 1) * N) * P := by rw [f3]; ac_rfl
      have e4 : A * P * 2 ^ 20 = (A * 2 ^ 20) * P := by ac_rfl
      rw [e3, e4]
      refine Nat.mul_le_mul_right _ ?_
      rw [hA]
      have e5 : (M * 2 ^ 20 + 1) * N = M * N * 2 ^ 20 + N := by rw [Nat.add_mul, Nat.one_mul, Nat.mul_right_comm]
      rw [e5]
      generalize M * N = V
      omega)
    rw [own_zfin] at k
    have h3 : M * 2 ^ 1074 < c * 2 ^ (q + (1074 : Nat)).toNat := by
      refine Nat.lt_of_mul_lt_mul_right (a := 2 ^ 20) ?_
      rw [f3]
      generalize 2 ^ 1074 = P at *
      have e6 : M * P * 2 ^ 20 = (M * 2 ^ 20) * P := by ac_rfl
      rw [e6]
      exact Nat.mul_lt_mul_of_pos_right (by omega) hp
    exact Nat.lt_of_lt_of_le h3 k
  · obtain ⟨c, q, f1, f2, f3⟩ := own_rep (M * 2 ^ 20 + (2 ^ 20 - 1)) 20 (by omega) (by omega)
    have k := zmag_roundRatio_le (s := s) (A := A) (e := 0) (e0 := -1074) (V := .fin false c q) good_b64 hN0 f1 (by intro hq; cases hq) (by rw [own_qmin]; omega) (by omega) (by
      rw [own_qmin, own_zfin]
      have e1 : ((-1074 : Int) - -1074).toNat = 0 := by omega
      have e2 : inUnits A 0 (-1074) = A * 2 ^ 1074 := by unfold inUnits; congr 2
      rw [e1, e2, Nat.pow_zero, Nat.mul_one]
      refine Nat.le_of_mul_le_mul_right ?_ (Nat.two_pow_pos 20)
      generalize 2 ^ (q + (1074 : Nat)).toNat = R at *
      generalize 2 ^ 1074 = P at *
      have e3 : c * R * N * 2 ^ 20 = ((M * 2 ^ 20 + (2 ^ 20 - 1)) * N) * P := by
        calc c * R * N * 2 ^ 20 = (c * R * 2 ^ 20) * N := by ac_rfl
          _ = ((M * 2 ^ 20 + (2 ^ 20 - 1)) * N) * P := by rw [f3]; ac_rfl
      have e4 : A * P * 2 ^ 20 = (A * 2 ^ 20) * P := by ac_rfl
      rw [e3, e4]
      refine Nat.mul_le_mul_right _ ?_
      rw [hA]
      have e5 : (M * 2 ^ 20 + (2 ^ 20 - 1)) * N = M * N * 2 ^ 20 + (2 ^ 20 - 1) * N := by rw [Nat.add_mul, Nat.mul_right_comm M]
      rw [e5]
      generalize M * N = V
      omega)
    rw [own_zfin] at k
    have h3 : c * 2 ^ (q + (1074 : Nat)).toNat < (M + 1) * 2 ^ 1074 := by
      refine Nat.lt_of_mul_lt_mul_right (a := 2 ^ 20) ?_
      rw [f3]
      generalize 2 ^ 1074 = P at *
      have e6 : (M + 1) * P * 2 ^ 20 = ((M + 1) * 2 ^ 20) * P := by ac_rfl
      rw [e6]
      exact Nat.mul_lt_mul_of_pos_right (by omega) hp
    exact Nat.lt_of_le_of_lt k h3
theorem own_zl2d {a : Int64} (h : a.toInt.natAbs < 2 ^ 53) : zval b64 (val64 (l2d a)) = a.toInt * ((2 ^ 1074 : Nat) : Int) := by
  have hs : Small53 a := by unfold Small53; omega
  exact DInt_zval (l2d_whole hs)
/-- a whole quotient, by its sign -/
theorem own_zquo {a b : Int64} (ha : a.toInt.natAbs < 2 ^ 53) (hb : 0 < b.toInt) (hb' : b.toInt < 2 ^ 53) : val64 (ddiv (l2d a) (l2d b)) = roundRatio b64 (decide (a.toInt < 0)) a.toInt.natAbs b.toInt.natAbs 0 := by
  have h1 := Sy.of_l2d ha
  have h2 := Sy.of_l2d (a := b) (by omega)
  have hf : decide (b.toInt < 0) = false := by simp; omega
  rw [hf] at h2
  exact h1.quo h2 (by omega)
theorem own_nnq {a b : Int64} (hb : 0 < b.toInt) (hb' : b.toInt < 2 ^ 53) : val64 (ddiv (l2d a) (l2d b)) ≠ .nan := by
  obtain ⟨c, q, h1⟩ := l2d_shape a
  have h2 := Sy.of_l2d (a := b) (by omega)
  obtain ⟨d, w, g1, g2, g3⟩ := h2
  have hd : 0 < d := Sy.pos (x := l2d b) (s := false) g3 (by omega)
  rw [val64_ddiv, h1, g1]
  show (if d = 0 then _ else _) ≠ _
  rw [if_neg (by omega)]
  exact roundRatio_ne_nan _ _ _ _ _
theorem own_q1 (a : Int64) : dcmp (ddiv (l2d a) (l2d 1)) (l2d a) = some .eq := by
  have e1 : val64 (l2d 1) = .fin false (1 * 2 ^ 52) (-((52 : Nat) : Int)) := by decide +kernel
  have e2 : val64 (ddiv (l2d a) (l2d 1)) = val64 (l2d a) := by
    rw [val64_ddiv]
    have := quotient_one good_b64 (val64_fits (l2d a)) 52
    first | exact (by rw [e1]; exact this) | (rw [e1]; simpa using this)
  have hn : val64 (l2d a) ≠ .nan := by
    obtain ⟨c, q, h1⟩ := l2d_shape a
    rw [h1]
    intro hq
    cases hq
  rw [dcmp_zval (by rw [e2]; exact hn) hn, e2, compare_ite, if_neg (by omega), if_pos rfl]
end OwnSy
end OwnDy
namespace Jvm.Pilot.@@N@@
open Jvm Jvm.ClassFile Sem Op Lib Jvm.Free Jvm.Stand Jvm.LawKit Jvm.RoadKit Bundle Jvm.Pilot.@@N@@.Jvm.D
/-! own layer: a run that ends well, said backwards -/
section OwnGo
variable {p : Program} {l : Launch} {e : Env} {R : Room} {s : State} {m : MethodId} {args : Array Value} {below : List Frame} {meth : Method} {c : Code} {T T' : State} {locs : List Loc} {cells slots : Nat} {Z : State} {a0 : Array Value} {h : Heap} {Q : Option Value → Heap → List Loc → Prop} {C S maxL0 : Nat} {g g' : JFrame}
def Go (p : Program) (e : Env) (below : List Frame) (s : State) (Q : Option Value → Heap → List Loc → Prop) (C S : Nat) (T : State) (g : JFrame) : Prop :=
  ∃ s₂ o, Steps p.tables e below (T.setTop g) s₂ ∧ s₂.status = .running ∧ Ended s₂ below o ∧ ∃ v L, o = .returned v ∧ Q v s₂.heap L ∧ FrameEnd s o s₂ L C S
def Ct (p : Program) (s : State) (m : MethodId) (meth : Method) (c : Code) (Z : State) (own nm : String) (bytes : ByteArray) (maxL : Nat) (ret : Option FieldType) : Prop :=
  p.tables.exec = Jvm.exec ∧ Z.Warmed39 s.vm ∧ s.vm.findClass own = some m.cls ∧ c.code = bytes ∧ c.maxLocals = maxL ∧ meth.sig.returnType = ret ∧ meth.locks = false ∧ meth.name = nm
theorem go_st (k : ∀ t, Steps p.tables e below (T'.setTop g') t → Steps p.tables e below (T.setTop g) t) (q : Go p e below s Q C S T' g') : Go p e below s Q C S T g := by
  obtain ⟨s2, o, q1, q2⟩ := q
  exact ⟨s2, o, k _ q1, q2⟩
theorem castGo (q : g = g') (k : Go p e below s Q C S T g') : Go p e below s Q C S T g := by rw [q]; exact k
theorem go_tr (k : Steps p.tables e below (T.setTop g) (T'.setTop g')) (q : Go p e below s Q C S T' g') : Go p e below s Q C S T g := by
  obtain ⟨s2, o, q1, q2⟩ := q
  exact ⟨s2, o, k.trans q1, q2⟩
theorem go_end (X : Stand p l e R s m args below meth c T locs cells slots) (hlk : meth.locks = false) {v : Option Value} (hv : meth.sig.returnType = none → v = none)
    (hr : ∀ fs, (∀ (f : JFrame) (acts : List Action), f.method = m → f.locked = none → f.entered = [] → (doReturn e (T.setTop f) acts v).1 = T.setFrames fs) → Steps p.tables e below (T.setTop g) (T.setFrames fs))
    (hC : cells ≤ C) (hS : slots ≤ S) (hQ : Q v T.heap locs) : Go p e below s Q C S T g := by
  obtain ⟨fs, h1, hrun, hended, hW, hsame⟩ := X.leave (v := v) hv hlk
  exact ⟨_, _, hr fs h1, hrun, hended, _, _, rfl, hQ, ⟨_, rfl⟩, hW, hsame.mono hC hS⟩
theorem go_retI (X : Stand p l e R s m args below meth c T locs cells slots) (hx : p.tables.exec = Jvm.exec) (hlk : meth.locks = false) (hret : meth.sig.returnType = some .int) {pc : Nat} {Ls : Array Slot} {z : Int32} {rest : List Value} (hd : decode c.code pc = .ok (.ireturn, 1))
    (hC : cells ≤ C) (hS : slots ≤ S) (hQ : Q (some (.int z)) T.heap locs) : Go p e below s Q C S T (mkF m pc Ls (.int z :: rest)) :=
  go_end X hlk (fun h => by rw [hret] at h; cases h) (fun fs h1 => retOut X hx hret rfl (Or.inl ⟨rfl, Or.inl rfl, _, rfl⟩) hd h1) hC hS hQ
theorem go_retL (X : Stand p l e R s m args below meth c T locs cells slots) (hx : p.tables.exec = Jvm.exec) (hlk : meth.locks = false) (hret : meth.sig.returnType = some .long) {pc : Nat} {Ls : Array Slot} {z : Int64} {rest : List Value} (hd : decode c.code pc = .ok (.lreturn, 1))
    (hC : cells ≤ C) (hS : slots ≤ S) (hQ : Q (some (.long z)) T.heap locs) : Go p e below s Q C S T (mkF m pc Ls (.long z :: rest)) :=
  go_end X hlk (fun h => by rw [hret] at h; cases h) (fun fs h1 => retOut X hx hret rfl (Or.inr (Or.inl ⟨rfl, rfl, _, rfl⟩)) hd h1) hC hS hQ
theorem go_retD (X : Stand p l e R s m args below meth c T locs cells slots) (hx : p.tables.exec = Jvm.exec) (hlk : meth.locks = false) (hret : meth.sig.returnType = some .double) {pc : Nat} {Ls : Array Slot} {z : UInt64} {rest : List Value} (hd : decode c.code pc = .ok (.dreturn, 1))
    (hC : cells ≤ C) (hS : slots ≤ S) (hQ : Q (some (.double z)) T.heap locs) : Go p e below s Q C S T (mkF m pc Ls (.double z :: rest)) :=
  go_end X hlk (fun h => by rw [hret] at h; cases h) (fun fs h1 => retOut X hx hret rfl (Or.inr (Or.inr (Or.inl ⟨rfl, rfl, _, rfl⟩))) hd h1) hC hS hQ
theorem go_retA (X : Stand p l e R s m args below meth c T locs cells slots) (hx : p.tables.exec = Jvm.exec) (hlk : meth.locks = false) {t : FieldType} (hret : meth.sig.returnType = some t) (ht : t.isReference = true) {w : Value} (hw : w.isRef = true) {pc : Nat} {Ls : Array Slot} {rest : List Value} (hd : decode c.code pc = .ok (.areturn, 1))
    (hC : cells ≤ C) (hS : slots ≤ S) (hQ : Q (some w) T.heap locs) : Go p e below s Q C S T (mkF m pc Ls (w :: rest)) :=
  go_end X hlk (fun h => by rw [hret] at h; cases h) (fun fs h1 => retOut X hx hret (by cases t <;> simp_all [FieldType.isReference, narrow] <;> cases w <;> simp_all [Value.isRef, narrow]) (Or.inr (Or.inr (Or.inr (Or.inr ⟨rfl, ht, hw⟩)))) hd h1) hC hS hQ
theorem go_retB (X : Stand p l e R s m args below meth c T locs cells slots) (hx : p.tables.exec = Jvm.exec) (hlk : meth.locks = false) (hret : meth.sig.returnType = some .boolean) {pc : Nat} {Ls : Array Slot} {z w : Int32} {rest : List Value} (hd : decode c.code pc = .ok (.ireturn, 1)) (hw : z &&& 1 = w)
    (hC : cells ≤ C) (hS : slots ≤ S) (hQ : Q (some (.int w)) T.heap locs) : Go p e below s Q C S T (mkF m pc Ls (.int z :: rest)) := by
  subst hw
  exact go_end X hlk (fun h => by rw [hret] at h; cases h) (fun fs h1 => retN X hx (t := .boolean) hret (by simp) hd h1) hC hS hQ
theorem go_ret0 (X : Stand p l e R s m args below meth c T locs cells slots) (hx : p.tables.exec = Jvm.exec) (hlk : meth.locks = false) (hret : meth.sig.returnType = none) {pc : Nat} {Ls : Array Slot} (hd : decode c.code pc = .ok (.return_, 1))
    (hC : cells ≤ C) (hS : slots ≤ S) (hQ : Q none T.heap locs) : Go p e below s Q C S T (mkF m pc Ls []) :=
  go_end X hlk (fun _ => rfl) (fun fs h1 => X.returnOut hx hret hd h1) hC hS hQ
def Met (l : Launch) (y : MethodName) (bytes : ByteArray) (maxL : Nat) (ret : Option FieldType) (ws : List Cond) (rm : Room) (Z : State) (as' : Array Value) (h0 : Heap) (Q : Option Value → Heap → List Loc → Prop) (C S : Nat) : Prop :=
  MetFree l y (head1 (Jvm.Cond.code y bytes maxL ret :: ws) rm) (fun a U => a = as' ∧ Z.Warmed39 U.vm ∧ U.heap = h0) (fun _ _ _ _ _ => True) (fun _ U o U' => ∃ v L, o = .returned v ∧ Q v U'.heap L ∧ FrameEnd U o U' L C S)
def QV (w : Option Value) (h0 : Heap) (n0 : Nat) (v : Option Value) (h : Heap) (L : List Loc) : Prop := v = w ∧ Fr n0 L ∧ h = h0
def QF (w : Option Value) (n0 : Nat) (v : Option Value) (h : Heap) (L : List Loc) : Prop := v = w ∧ Fr n0 L
theorem own_body {y : MethodName} {bytes : ByteArray} {maxL : Nat} {ret : Option FieldType} {rm : Room} {as' : Array Value} {h0 : Heap} {ws : List Cond} (hn : plainFor y = true) {C S : Nat}
    (H : ∀ p e s m below meth c s₁, Ct p s m meth c Z y.cls y.name bytes maxL ret → Stand p l e rm s m as' below meth c s₁ [] 0 0 → s₁.heap = h0 → Go p e below s Q C S s₁ (entryFrame m as' maxL)) :
    Met l y bytes maxL ret ws rm Z as' h0 Q C S := by
  refine MetFree.of_bodySF hn hisR ?_
  intro p e s m args below meth c s₁ Bd hml0 hP hK
  obtain ⟨rfl, hZ, hh⟩ := hP
  have hown : s.vm.findClass y.cls = some m.cls := findClass_of_methodNamed Bd.named
  have hnm := (name_of_methodNamed Bd.named Bd.method).1
  have X0 : Stand p l e rm s m args below meth c s₁ [] 0 0 := Stand.of_body Bd
  have e0 : s₁.heap = h0 := by rw [← hh, Bd.state]; rfl
  exact H p e s m below meth c s₁ ⟨Bd.exec, hZ, hown, Bd.bytes, hml0, Bd.returns, Bd.notSynchronized, hnm⟩ X0 e0
theorem go_callS (X : Stand p l e R s m args below meth c T locs cells slots) (hx : p.tables.exec = Jvm.exec) (hZ : Z.Warmed39 s.vm) (hml : c.maxLocals = maxL0) {own : String} {index : Nat} {y : MethodName} {bytes : ByteArray} {maxL : Nat} {ret : Option FieldType} (hown : s.vm.findClass own = some m.cls)
    (w1 : (Cond.methodLink own index y).before a0 Z = true) (w2 : (Cond.static y).before a0 Z = true) (w3 : (Cond.initialized y.cls).before a0 Z = true) (w4 : (Cond.code y bytes maxL ret).before a0 Z = true) (eT : T.heap = h) {argsL rest : List Value} {rm : Room} {Q' : Option Value → Heap → List Loc → Prop} {W : Nat}
    (hM : Met l y bytes maxL ret [] rm Z argsL.toArray h Q' rm.cells rm.slots)
    (hd : decode c.code g.pc = .ok (.invokestatic index, 3)) (hs : g.stack = argsL.reverse ++ rest) (hg : g.method = m) (hsz : g.locals.size = maxL0) (hlen : ∀ sig, parseMethodDescriptor y.desc = some sig → argsL.length = sig.parameters.length) (hW : 2 * g.monitorRoom + (rest.map fun v => v.category).sum ≤ W)
    (hy : y.cls ≠ "java/lang/invoke/MethodHandle" ∧ y.cls ≠ "java/lang/invoke/VarHandle") (hf : rm.frames + 1 ≤ R.frames) (hl : W + (maxL + 11) + rm.locals ≤ R.locals) (hc : cells + rm.cells ≤ R.cells) (hsl : slots + rm.slots ≤ R.slots)
    (k : ∀ T' v L, Stand p l e R s m args below meth c T' (locs ++ L) (cells + rm.cells) (slots + rm.slots) → Q' v T'.heap L → Go p e below s Q C S T' { g with pc := g.pc + 3, stack := v.toList ++ rest }) : Go p e below s Q C S T g := by
  obtain ⟨v, _, ⟨T1, L1, k1, n1⟩, -, X1, ⟨Lc, hQ, l1, y1, z1⟩, st⟩ := Jvm.LawKit.callS X hx (y := y) hown (mvT hZ w1) (mvT hZ w2) (mvT hZ w3) (mvT hZ w4) hy (backOf (W := W) hM hZ w4 w3 hf hl) (g := g) hg (hsz.trans hml.symm) (argsL := argsL) (rest := rest) hlen hs hW hd (fun _ _ => ⟨rfl, eT, hc, hsl⟩)
  dsimp only [Pt.U, Pt.locs, Pt.cells, Pt.slots] at X1 l1 y1 z1 st hQ
  subst l1 y1 z1
  exact go_st st (k _ _ _ X1 hQ)
theorem go_callV (X : Stand p l e R s m args below meth c T locs cells slots) (hx : p.tables.exec = Jvm.exec) (hZ : Z.Warmed39 s.vm) (hml : c.maxLocals = maxL0) {own K : String} {index : Nat} {y z : MethodName} {bytes : ByteArray} {maxL : Nat} {ret : Option FieldType} (hown : s.vm.findClass own = some m.cls)
    (w1 : (Cond.methodLink own index y).before a0 Z = true) (w2 : (Cond.declares y).before a0 Z = true) (w2' : NotFace s y) (w3 : (Cond.selects K y z).before a0 Z = true) (w3' : (Cond.instanceMethod z).before a0 Z = true) (w4 : (Cond.code z bytes maxL ret).before a0 Z = true) (w5 : (Cond.initialized z.cls).before a0 Z = true) (eT : T.heap = h) {a : Addr} (E : Exa Z h a K) {argsL rest : List Value} {rm : Room} {Q' : Option Value → Heap → List Loc → Prop} {W : Nat}
    (hM : Met l z bytes maxL ret [] rm Z (.ref a :: argsL).toArray h Q' rm.cells rm.slots)
    (hd : decode c.code g.pc = .ok (.invokevirtual index, 3)) (hs : g.stack = argsL.reverse ++ .ref a :: rest) (hg : g.method = m) (hsz : g.locals.size = maxL0) (hlen : ∀ sig, parseMethodDescriptor y.desc = some sig → argsL.length = sig.parameters.length) (hW : 2 * g.monitorRoom + (rest.map fun v => v.category).sum ≤ W)
    (hy : y.cls ≠ "java/lang/invoke/MethodHandle" ∧ y.cls ≠ "java/lang/invoke/VarHandle") (hf : rm.frames + 1 ≤ R.frames) (hl : W + (maxL + 11) + rm.locals ≤ R.locals) (hc : cells + rm.cells ≤ R.cells) (hsl : slots + rm.slots ≤ R.slots)
    (k : ∀ T' v L, Stand p l e R s m args below meth c T' (locs ++ L) (cells + rm.cells) (slots + rm.slots) → Q' v T'.heap L → Go p e below s Q C S T' { g with pc := g.pc + 3, stack := v.toList ++ rest }) : Go p e below s Q C S T g := by
  obtain ⟨cB, kB, q1, q2, q3⟩ := isOf hZ eT E
  obtain ⟨v, _, ⟨T1, L1, k1, n1⟩, -, X1, ⟨Lc, hQ, l1, y1, z1⟩, st⟩ := X.virtualBack hx (y := y) (z := z) hown (mvT hZ w1) (mvT hZ w2) w2' (mvT hZ w3) (mvT hZ w3') hy (backOf (W := W) hM hZ w4 w5 hf hl) q1 q3 (g := g) hg (hsz.trans hml.symm) (Steps.refl _) (argsL := argsL) (rest := rest) hlen hs hW hd (fun _ _ => ⟨rfl, eT, hc, hsl⟩)
  dsimp only [Pt.U, Pt.locs, Pt.cells, Pt.slots] at X1 l1 y1 z1 st hQ
  subst l1 y1 z1
  exact go_tr st (k _ _ _ X1 hQ)
theorem go_callU (X : Stand p l e R s m args below meth c T locs cells slots) (hx : p.tables.exec = Jvm.exec) (hZ : Z.Warmed39 s.vm) (hml : c.maxLocals = maxL0) {own K owner : String} {index : Nat} {y z : MethodName} {bytes : ByteArray} {maxL : Nat} {ret : Option FieldType} (hown : s.vm.findClass own = some m.cls)
    (w1 : (Cond.methodLink own index y).before a0 Z = true) (w2 : (Cond.sameMethod y.cls owner y.name y.desc).before a0 Z = true) (w2' : (Cond.declares ⟨owner, y.name, y.desc⟩).before a0 Z = true) (ho : owner ≠ "java/lang/invoke/MethodHandle" ∧ owner ≠ "java/lang/invoke/VarHandle") (w3 : (Cond.selects K y z).before a0 Z = true) (w3' : (Cond.instanceMethod z).before a0 Z = true) (w4 : (Cond.code z bytes maxL ret).before a0 Z = true) (w5 : (Cond.initialized z.cls).before a0 Z = true) (eT : T.heap = h) {a : Addr} (E : Exa Z h a K) {argsL rest : List Value} {rm : Room} {Q' : Option Value → Heap → List Loc → Prop} {W : Nat}
    (hM : Met l z bytes maxL ret [] rm Z (.ref a :: argsL).toArray h Q' rm.cells rm.slots)
    (hd : decode c.code g.pc = .ok (.invokevirtual index, 3)) (hs : g.stack = argsL.reverse ++ .ref a :: rest) (hg : g.method = m) (hsz : g.locals.size = maxL0) (hlen : ∀ sig, parseMethodDescriptor y.desc = some sig → argsL.length = sig.parameters.length) (hW : 2 * g.monitorRoom + (rest.map fun v => v.category).sum ≤ W)
    (hf : rm.frames + 1 ≤ R.frames) (hl : W + (maxL + 11) + rm.locals ≤ R.locals) (hc : cells + rm.cells ≤ R.cells) (hsl : slots + rm.slots ≤ R.slots)
    (k : ∀ T' v L, Stand p l e R s m args below meth c T' (locs ++ L) (cells + rm.cells) (slots + rm.slots) → Q' v T'.heap L → Go p e below s Q C S T' { g with pc := g.pc + 3, stack := v.toList ++ rest }) : Go p e below s Q C S T g := by
  obtain ⟨cB, kB, q1, q2, q3⟩ := isOf hZ eT E
  obtain ⟨v, _, ⟨T1, L1, k1, n1⟩, -, X1, ⟨Lc, hQ, l1, y1, z1⟩, st⟩ := X.virtualBackUp hx (x := y) (y := z) hown (mvT hZ w1) (mvT hZ w2) (mvT hZ w2') ho (mvT hZ w3) (mvT hZ w3') (backOf (W := W) hM hZ w4 w5 hf hl) q1 q3 (g := g) hg (hsz.trans hml.symm) (Steps.refl _) (argsL := argsL) (rest := rest) hlen hs hW hd (fun _ _ => ⟨rfl, eT, hc, hsl⟩)
  dsimp only [Pt.U, Pt.locs, Pt.cells, Pt.slots] at X1 l1 y1 z1 st hQ
  subst l1 y1 z1
  exact go_tr st (k _ _ _ X1 hQ)
theorem go_callI (X : Stand p l e R s m args below meth c T locs cells slots) (hx : p.tables.exec = Jvm.exec) (hZ : Z.Warmed39 s.vm) (hml : c.maxLocals = maxL0) {own : String} {index : Nat} {y : MethodName} {bytes : ByteArray} {maxL : Nat} (hown : s.vm.findClass own = some m.cls) (hy1 : y.name = "<init>")
    (w1 : (Cond.methodLink own index y).before a0 Z = true) (w2 : (Cond.instanceMethod y).before a0 Z = true) (w4 : (Cond.code y bytes maxL none).before a0 Z = true) (w5 : (Cond.initialized y.cls).before a0 Z = true) (eT : T.heap = h) {a : Addr} {argsL rest : List Value} {rm : Room} {Q' : Option Value → Heap → List Loc → Prop} {W : Nat}
    (hM : Met l y bytes maxL none [] rm Z (.ref a :: argsL).toArray h Q' rm.cells rm.slots)
    (hd : decode c.code g.pc = .ok (.invokespecial index, 3)) (hs : g.stack = argsL.reverse ++ .ref a :: rest) (hg : g.method = m) (hsz : g.locals.size = maxL0) (hlen : ∀ sig, parseMethodDescriptor y.desc = some sig → argsL.length = sig.parameters.length) (hW : 2 * g.monitorRoom + (rest.map fun v => v.category).sum ≤ W)
    (hy : y.cls ≠ "java/lang/invoke/MethodHandle" ∧ y.cls ≠ "java/lang/invoke/VarHandle") (hf : rm.frames + 1 ≤ R.frames) (hl : W + (maxL + 11) + rm.locals ≤ R.locals) (hc : cells + rm.cells ≤ R.cells) (hsl : slots + rm.slots ≤ R.slots)
    (k : ∀ T' v L, Stand p l e R s m args below meth c T' (locs ++ L) (cells + rm.cells) (slots + rm.slots) → Q' v T'.heap L → Go p e below s Q C S T' { g with pc := g.pc + 3, stack := v.toList ++ rest }) : Go p e below s Q C S T g := by
  obtain ⟨v, _, ⟨T1, L1, k1, n1⟩, -, X1, ⟨Lc, hQ, l1, y1, z1⟩, st⟩ := X.specialBack hx (y := y) hy1 hown (mvT hZ w1) (mvT hZ w2) (mvT hZ w4) hy (backOf (W := W) hM hZ w4 w5 hf hl) (g := g) hg (hsz.trans hml.symm) (Steps.refl _) (a := a) (argsL := argsL) (rest := rest) hlen hs hW hd (fun _ _ => ⟨rfl, eT, hc, hsl⟩)
  dsimp only [Pt.U, Pt.locs, Pt.cells, Pt.slots] at X1 l1 y1 z1 st hQ
  subst l1 y1 z1
  exact go_tr st (k _ _ _ X1 hQ)
theorem go_getF (X : Stand p l e R s m args below meth c T locs cells slots) (hx : p.tables.exec = Jvm.exec) (hZ : Z.Warmed39 s.vm) {own R0 O n d host : String} {index : Nat} (hown : s.vm.findClass own = some m.cls) (w : (Cond.fieldLink own index R0 n d).before a0 Z = true ∨ (Cond.fieldLinkNest own index R0 n d host).before a0 Z = true) (via : Via Z R0 O n d)
    (eT : T.heap = h) {a : Addr} {v : Value} (F : Fld Z h a O n d v) {rest : List Value} (hd : decode c.code g.pc = .ok (.getfield index, 3)) (hg : g.method = m) (hs : g.stack = .ref a :: rest)
    (k : ∀ T', Stand p l e R s m args below meth c T' locs cells slots → T'.heap = h → Go p e below s Q C S T' { g with pc := g.pc + 3, stack := v :: rest }) : Go p e below s Q C S T g := by
  obtain ⟨T1, X1, e1, st⟩ := getF X hx hZ hown w via eT F hg hs hd
  exact go_st st (k _ X1 e1)
theorem go_getS (X : Stand p l e R s m args below meth c T locs cells slots) (hx : p.tables.exec = Jvm.exec) (hZ : Z.Warmed39 s.vm) {own R0 O n d host : String} {index : Nat} (hown : s.vm.findClass own = some m.cls) (w : (Cond.fieldLink own index R0 n d).before a0 Z = true ∨ (Cond.fieldLinkNest own index R0 n d host).before a0 Z = true) (via : Via Z R0 O n d)
    (eT : T.heap = h) {v : Value} (F : Sta Z h O n d v) (hd : decode c.code g.pc = .ok (.getstatic index, 3)) (hg : g.method = m)
    (k : ∀ T', Stand p l e R s m args below meth c T' locs cells slots → T'.heap = h → Go p e below s Q C S T' { g with pc := g.pc + 3, stack := v :: g.stack }) : Go p e below s Q C S T g := by
  obtain ⟨T1, X1, e1, st⟩ := getS2 X hx hZ hown w via eT F hg hd
  exact go_st st (k _ X1 e1)
theorem go_putF (X : Stand p l e R s m args below meth c T locs cells slots) (hx : p.tables.exec = Jvm.exec) (hZ : Z.Warmed39 s.vm) {own R0 O n d host K : String} {index kk : Nat} {ty : FieldType} (hown : s.vm.findClass own = some m.cls) (w : (Cond.fieldLink own index R0 n d).before a0 Z = true ∨ (Cond.fieldLinkNest own index R0 n d host).before a0 Z = true) (via : Via Z R0 O n d)
    (eT : T.heap = h) {a : Addr} {v old : Value} (F : Fld Z h a O n d old) (E : Exa Z h a K) (L : (Cond.lays K O n d).before a0 Z = true ∨ ((Cond.laysFinal K O n d).before a0 Z = true ∧ own = O ∧ meth.name = "<init>")) (wi : (Cond.instantiable K kk).before a0 Z = true)
    (hty : parseFieldDescriptor d = some ty) (hn : narrow ty v = v) (hf : fits ty v = true) {rest : List Value} (hd : decode c.code g.pc = .ok (.putfield index, 3)) (hg : g.method = m) (hs : g.stack = v :: .ref a :: rest)
    (k : ∀ T' h', Stand p l e R s m args below meth c T' (locs ++ [⟨a, Jvm.RoadKit.slotOf Z O n d⟩]) cells slots → T'.heap = h' → Wr h h' a (Jvm.RoadKit.slotOf Z O n d) v → Go p e below s Q C S T' { g with pc := g.pc + 3, stack := rest }) : Go p e below s Q C S T g := by
  obtain ⟨T1, h1, X1, e1, W1, st⟩ := putF X hx hZ hown w via eT F E L wi hty hn hf hg hs hd
  exact go_st st (k _ _ X1 e1 W1)
theorem go_newO (X : Stand p l e R s m args below meth c T locs cells slots) (hx : p.tables.exec = Jvm.exec) (hZ : Z.Warmed39 s.vm) {own K : String} {index n : Nat} (hown : s.vm.findClass own = some m.cls) (w : (Cond.classLink own index K).before a0 Z = true) (wi : (Cond.instantiable K n).before a0 Z = true) (wz : (Cond.initialized K).before a0 Z = true) (eT : T.heap = h)
    (hd : decode c.code g.pc = .ok (.new index, 3)) (hg : g.method = m) (hc : cells + 1 ≤ R.cells) (hl : slots + n ≤ R.slots)
    (k : ∀ T' h' a, a = h.size → Stand p l e R s m args below meth c T' locs (cells + 1) (slots + n) → T'.heap = h' → Ext h h' → Exa Z h' a K → (∀ {O nm d : String} {ty : FieldType}, Laid Z a0 K O nm d → parseFieldDescriptor d = some ty → Fld Z h' a O nm d (defaultValue ty)) → Go p e below s Q C S T' { g with pc := g.pc + 3, stack := .ref a :: g.stack }) : Go p e below s Q C S T g := by
  obtain ⟨T1, h1, X1, e1, E1, A1, D1, -, st⟩ := newO X hx hZ hown w wi wz eT hg hd hc hl
  exact go_st st (k _ _ _ rfl X1 e1 E1 A1 D1)
theorem go_initO (X : Stand p l e R s m args below meth c T locs cells slots) (hx : p.tables.exec = Jvm.exec) (hZ : Z.Warmed39 s.vm) (hml : c.maxLocals = maxL0) {own : String} {idx : Nat} (hown : s.vm.findClass own = some m.cls) (w1 : (Cond.methodLink own idx Lib.objectInit).before a0 Z = true) (w2 : (Cond.instanceMethod Lib.objectInit).before a0 Z = true)
    (w3 : (Cond.code Lib.objectInit ⟨#[0xb1]⟩ 1 none).before a0 Z = true) (eT : T.heap = h) {a : Addr} {rest : List Value} (hd : decode c.code g.pc = .ok (.invokespecial idx, 3)) (hg : g.method = m) (hsz : g.locals.size = maxL0) (hs : g.stack = .ref a :: rest)
    (hf : 1 ≤ R.frames) {W : Nat} (hW : 2 * g.monitorRoom + (rest.map fun v => v.category).sum ≤ W) (hl : W + 12 ≤ R.locals)
    (k : ∀ T', Stand p l e R s m args below meth c T' locs cells slots → T'.heap = h → Go p e below s Q C S T' { g with pc := g.pc + 3, stack := rest }) : Go p e below s Q C S T g := by
  obtain ⟨T1, X1, e1, st⟩ := initO X hx hZ hown w1 w2 w3 eT hg (hsz.trans hml.symm) hs hd hf hW hl
  exact go_st st (k _ X1 e1)
theorem own_lrem {tb : Tables} [Ours tb] {target : State} (hh : At T m c below) (hx : tb.exec = Jvm.exec) (hg : g.method = m) {x y : Int64} {rest : List Value} (hd : decode c.code g.pc = .ok (.lrem, 1)) (hs : g.stack = .long y :: .long x :: rest) (hy : y ≠ 0)
    (hr : Steps tb e below (T.setTop { g with pc := g.pc + 1, stack := .long (x % y) :: rest }) target) : Steps tb e below (T.setTop g) target :=
  XT.lrem hh hx hg hd hs hy (by rw [lrem_mod]; exact hr)
/-! arrays, their places by a function -/
def GA (Z : State) (h : Heap) (a : Addr) (ty : FieldType) (n : Nat) (f : Nat → Value) : Prop := ∃ cl : Cell, Arr Z h a cl ty ∧ cl.slots.size = n ∧ n < 2 ^ 31 ∧ ∀ i, i < n → cl.slots[i]? = some (f i)
theorem GA.lt {a : Addr} {ty : FieldType} {n : Nat} {f : Nat → Value} (A : GA Z h a ty n f) : a < h.size := by
  obtain ⟨cl, A1, -⟩ := A
  exact A1.lt
theorem GA.ext {a : Addr} {ty : FieldType} {n : Nat} {f : Nat → Value} {h' : Heap} (A : GA Z h a ty n f) (E : Ext h h') : GA Z h' a ty n f := by
  obtain ⟨cl, A1, r⟩ := A
  exact ⟨cl, A1.ext E, r⟩
theorem GA.other {a b : Addr} {ty : FieldType} {n sl : Nat} {v : Value} {f : Nat → Value} {h' : Heap} (A : GA Z h b ty n f) (W : Wr h h' a sl v) (q : b ≠ a) : GA Z h' b ty n f := by
  obtain ⟨cl, A1, r⟩ := A
  exact ⟨cl, A1.other W q, r⟩
theorem GA.keep {a : Addr} {ty : FieldType} {n : Nat} {f : Nat → Value} {h' : Heap} {ws : List Addr} (A : GA Z h a ty n f) (K : Keep h h' ws) (q : a ∉ ws) : GA Z h' a ty n f := by
  obtain ⟨cl, A1, r⟩ := A
  exact ⟨cl, ⟨K.2.1 _ _ A1.1 q, A1.2⟩, r⟩
theorem GA.congr {a : Addr} {ty : FieldType} {n : Nat} {f f' : Nat → Value} (A : GA Z h a ty n f) (q : ∀ i, i < n → f i = f' i) : GA Z h a ty n f' := by
  obtain ⟨cl, A1, A2, A3, A4⟩ := A
  exact ⟨cl, A1, A2, A3, fun i hi => (A4 i hi).trans (by rw [q i hi])⟩
theorem GA.set {a : Addr} {ty : FieldType} {n j : Nat} {v : Value} {f : Nat → Value} {h' : Heap} (A : GA Z h a ty n f) (W : Wr h h' a j v) : GA Z h' a ty n (fun i => if i = j then v else f i) := by
  obtain ⟨cl, A1, A2, A3, A4⟩ := A
  obtain ⟨c2, w1, w2, w3, w4⟩ := W
  obtain rfl : cl = c2 := Option.some.inj (A1.1.symm.trans w1)
  refine ⟨cl.setSlot j v, A1.same ⟨cl, w1, w2, w3, w4⟩, (sz_set cl j v).trans A2, A3, fun i hi => ?_⟩
  show (cl.slots.setIfInBounds j v)[i]? = _
  rw [Array.getElem?_setIfInBounds]
  by_cases q : i = j
  · subst q
    rw [if_pos rfl, if_pos w3]
    simp only [if_true]
  · rw [if_neg (fun h => q h.symm)]
    simp only [if_neg q]
    exact A4 i hi
theorem GA.len {a : Addr} {ty : FieldType} {n : Nat} {f : Nat → Value} (A : GA Z h a ty n f) : n < 2 ^ 31 := by
  obtain ⟨cl, -, -, A3, -⟩ := A
  exact A3
def OC (Z : State) (h : Heap) (a : Addr) (ty : FieldType) (K : String) : Prop := ∃ cl : Cell, Arr Z h a cl ty ∧ Ovr Z cl.cls K
theorem OC.ext {a : Addr} {ty : FieldType} {K : String} {h' : Heap} (A : OC Z h a ty K) (E : Ext h h') : OC Z h' a ty K := by
  obtain ⟨cl, A1, A2⟩ := A
  exact ⟨cl, A1.ext E, A2⟩
theorem OC.wr {a b : Addr} {ty : FieldType} {K : String} {sl : Nat} {v : Value} {h' : Heap} (A : OC Z h b ty K) (W : Wr h h' a sl v) : OC Z h' b ty K := by
  obtain ⟨cl, A1, A2⟩ := A
  by_cases q : b = a
  · subst q
    exact ⟨_, A1.same W, A2⟩
  · exact ⟨cl, A1.other W q, A2⟩
theorem OC.keep {b : Addr} {ty : FieldType} {K : String} {h' : Heap} {ws : List Addr} (A : OC Z h b ty K) (Kp : Keep h h' ws) : OC Z h' b ty K := by
  obtain ⟨cl, ⟨A1, A3, A4⟩, A2⟩ := A
  obtain ⟨c', q1, q2, q3, q4⟩ := Kp.2.2 _ _ A1
  refine ⟨c', ⟨q1, ?_, by rw [q3]; exact A4⟩, by rw [q2]; exact A2⟩
  unfold State.isArrayOf at A3 ⊢
  rw [q2, q3]
  exact A3
theorem OC.sto {a y : Addr} {ty : FieldType} {K : String} (A : OC Z h a ty K) (I : Ins Z h y K true) : Sto Z h a (.ref y) := by
  obtain ⟨cl, A1, A2⟩ := A
  exact Sto.of A1 A2 I
theorem own_in {j : Int32} {n : Nat} (q : 0 ≤ j.toInt ∧ j.toInt < n) : ¬ (j < 0 ∨ n ≤ j.toNatClampNeg) := by
  have h1 : (j.toNatClampNeg : Int) = j.toInt := by have := q.1; simp only [Int32.toNatClampNeg]; omega
  rw [Int32.lt_iff_toInt_lt]
  have : (0 : Int32).toInt = 0 := rfl
  omega
theorem go_alen (X : Stand p l e R s m args below meth c T locs cells slots) (hx : p.tables.exec = Jvm.exec) (hZ : Z.Warmed39 s.vm) (eT : T.heap = h) {a : Addr} {ty : FieldType} {n : Nat} {f : Nat → Value} (A : GA Z h a ty n f) {rest : List Value}
    (hd : decode c.code g.pc = .ok (.arraylength, 1)) (hg : g.method = m) (hs : g.stack = .ref a :: rest) (w : Int32) (hw : Nat.toInt32 n = w) (k : Go p e below s Q C S T { g with pc := g.pc + 1, stack := .int w :: rest }) : Go p e below s Q C S T g := by
  obtain ⟨cl, A1, rfl, -, -⟩ := A
  subst hw
  exact go_st (fun t => X.arraylength hx (by rw [eT]; exact A1.1) (State.isArrayOf_alike hZ.alike A1.2.1) hg hs hd t) k
theorem go_iald (X : Stand p l e R s m args below meth c T locs cells slots) (hx : p.tables.exec = Jvm.exec) (hZ : Z.Warmed39 s.vm) (eT : T.heap = h) {a : Addr} {n : Nat} {f : Nat → Value} (A : GA Z h a .int n f) {j : Int32} {rest : List Value}
    (hd : decode c.code g.pc = .ok (.iaload, 1)) (hg : g.method = m) (hs : g.stack = .int j :: .ref a :: rest) (q : 0 ≤ j.toInt ∧ j.toInt < n) (w : Value) (hw : f j.toNatClampNeg = w) (k : Go p e below s Q C S T { g with pc := g.pc + 1, stack := w :: rest }) : Go p e below s Q C S T g := by
  obtain ⟨cl, A1, rfl, -, A4⟩ := A
  have q2 := own_in q
  refine go_st (fun t => X.iaload hx (j := j) (v := w) (by rw [eT]; exact A1.1) (State.isArrayOf_alike hZ.alike A1.2.1) A1.2.2 q2 ?_ hg hs hd t) k
  rw [A4 _ (by omega), hw]
theorem go_lald (X : Stand p l e R s m args below meth c T locs cells slots) (hx : p.tables.exec = Jvm.exec) (hZ : Z.Warmed39 s.vm) (eT : T.heap = h) {a : Addr} {n : Nat} {f : Nat → Value} (A : GA Z h a .long n f) {j : Int32} {rest : List Value}
    (hd : decode c.code g.pc = .ok (.laload, 1)) (hg : g.method = m) (hs : g.stack = .int j :: .ref a :: rest) (q : 0 ≤ j.toInt ∧ j.toInt < n) (w : Value) (hw : f j.toNatClampNeg = w) (k : Go p e below s Q C S T { g with pc := g.pc + 1, stack := w :: rest }) : Go p e below s Q C S T g := by
  obtain ⟨cl, A1, rfl, -, A4⟩ := A
  have q2 := own_in q
  refine go_st (fun t => X.laload hx (j := j) (v := w) (by rw [eT]; exact A1.1) (State.isArrayOf_alike hZ.alike A1.2.1) A1.2.2 q2 ?_ hg hs hd t) k
  rw [A4 _ (by omega), hw]
theorem go_bald (X : Stand p l e R s m args below meth c T locs cells slots) (hx : p.tables.exec = Jvm.exec) (hZ : Z.Warmed39 s.vm) (eT : T.heap = h) {a : Addr} {n : Nat} {f : Nat → Value} (A : GA Z h a .byte n f) {j : Int32} {rest : List Value}
    (hd : decode c.code g.pc = .ok (.baload, 1)) (hg : g.method = m) (hs : g.stack = .int j :: .ref a :: rest) (q : 0 ≤ j.toInt ∧ j.toInt < n) (w : Value) (hw : f j.toNatClampNeg = w) (k : Go p e below s Q C S T { g with pc := g.pc + 1, stack := w :: rest }) : Go p e below s Q C S T g := by
  obtain ⟨cl, A1, rfl, -, A4⟩ := A
  have q2 := own_in q
  refine go_st (fun t => X.baloadBytes hx (j := j) (v := w) (by rw [eT]; exact A1.1) (State.isArrayOf_alike hZ.alike A1.2.1) A1.2.2 q2 ?_ hg hs hd t) k
  rw [A4 _ (by omega), hw]
theorem go_cald (X : Stand p l e R s m args below meth c T locs cells slots) (hx : p.tables.exec = Jvm.exec) (hZ : Z.Warmed39 s.vm) (eT : T.heap = h) {a : Addr} {n : Nat} {f : Nat → Value} (A : GA Z h a .char n f) {j : Int32} {rest : List Value}
    (hd : decode c.code g.pc = .ok (.caload, 1)) (hg : g.method = m) (hs : g.stack = .int j :: .ref a :: rest) (q : 0 ≤ j.toInt ∧ j.toInt < n) (w : Value) (hw : f j.toNatClampNeg = w) (k : Go p e below s Q C S T { g with pc := g.pc + 1, stack := w :: rest }) : Go p e below s Q C S T g := by
  obtain ⟨cl, A1, rfl, -, A4⟩ := A
  have q2 := own_in q
  refine go_st (fun t => X.caload hx (j := j) (v := w) (by rw [eT]; exact A1.1) (State.isArrayOf_alike hZ.alike A1.2.1) A1.2.2 q2 ?_ hg hs hd t) k
  rw [A4 _ (by omega), hw]
theorem go_aald (X : Stand p l e R s m args below meth c T locs cells slots) (hx : p.tables.exec = Jvm.exec) (hZ : Z.Warmed39 s.vm) (eT : T.heap = h) {a : Addr} {ty : FieldType} {n : Nat} {f : Nat → Value} (A : GA Z h a ty n f) (hty : ty.isReference = true) {j : Int32} {rest : List Value}
    (hd : decode c.code g.pc = .ok (.aaload, 1)) (hg : g.method = m) (hs : g.stack = .int j :: .ref a :: rest) (q : 0 ≤ j.toInt ∧ j.toInt < n) (w : Value) (hw : f j.toNatClampNeg = w) (k : Go p e below s Q C S T { g with pc := g.pc + 1, stack := w :: rest }) : Go p e below s Q C S T g := by
  obtain ⟨cl, A1, rfl, -, A4⟩ := A
  have q2 := own_in q
  refine go_st (fun t => X.aaload hx (j := j) (v := w) (by rw [eT]; exact A1.1) (State.isArrayOf_alike hZ.alike A1.2.1) hty A1.2.2 q2 ?_ hg hs hd t) k
  rw [A4 _ (by omega), hw]
theorem go_iast (X : Stand p l e R s m args below meth c T locs cells slots) (hx : p.tables.exec = Jvm.exec) (hZ : Z.Warmed39 s.vm) (eT : T.heap = h) {a : Addr} {n : Nat} {f : Nat → Value} (A : GA Z h a .int n f) {j x : Int32} {rest : List Value}
    (hd : decode c.code g.pc = .ok (.iastore, 1)) (hg : g.method = m) (hs : g.stack = .int x :: .int j :: .ref a :: rest) (q : 0 ≤ j.toInt ∧ j.toInt < n)
    (k : ∀ T' h', Stand p l e R s m args below meth c T' (locs ++ [⟨a, j.toNatClampNeg⟩]) cells slots → T'.heap = h' → Wr h h' a j.toNatClampNeg (.int x) → GA Z h' a .int n (fun i => if i = j.toNatClampNeg then .int x else f i) → Go p e below s Q C S T' { g with pc := g.pc + 1, stack := rest }) : Go p e below s Q C S T g := by
  have A' := A
  obtain ⟨cl, A1, rfl, -, A4⟩ := A
  obtain ⟨T1, h1, X1, e1, W1, st⟩ := stI X hx hZ eT A1 (own_in q) hg hs hd
  exact go_st st (k _ _ X1 e1 W1 (A'.set W1))
theorem go_last (X : Stand p l e R s m args below meth c T locs cells slots) (hx : p.tables.exec = Jvm.exec) (hZ : Z.Warmed39 s.vm) (eT : T.heap = h) {a : Addr} {n : Nat} {f : Nat → Value} (A : GA Z h a .long n f) {j : Int32} {x : Int64} {rest : List Value}
    (hd : decode c.code g.pc = .ok (.lastore, 1)) (hg : g.method = m) (hs : g.stack = .long x :: .int j :: .ref a :: rest) (q : 0 ≤ j.toInt ∧ j.toInt < n)
    (k : ∀ T' h', Stand p l e R s m args below meth c T' (locs ++ [⟨a, j.toNatClampNeg⟩]) cells slots → T'.heap = h' → Wr h h' a j.toNatClampNeg (.long x) → GA Z h' a .long n (fun i => if i = j.toNatClampNeg then .long x else f i) → Go p e below s Q C S T' { g with pc := g.pc + 1, stack := rest }) : Go p e below s Q C S T g := by
  have A' := A
  obtain ⟨cl, A1, rfl, -, A4⟩ := A
  obtain ⟨T1, h1, X1, e1, W1, st⟩ := stJ X hx hZ eT A1 (own_in q) hg hs hd
  exact go_st st (k _ _ X1 e1 W1 (A'.set W1))
theorem go_bast (X : Stand p l e R s m args below meth c T locs cells slots) (hx : p.tables.exec = Jvm.exec) (hZ : Z.Warmed39 s.vm) (eT : T.heap = h) {a : Addr} {n : Nat} {f : Nat → Value} (A : GA Z h a .byte n f) {j x : Int32} {rest : List Value}
    (hd : decode c.code g.pc = .ok (.bastore, 1)) (hg : g.method = m) (hs : g.stack = .int x :: .int j :: .ref a :: rest) (q : 0 ≤ j.toInt ∧ j.toInt < n)
    (k : ∀ T' h', Stand p l e R s m args below meth c T' (locs ++ [⟨a, j.toNatClampNeg⟩]) cells slots → T'.heap = h' → Wr h h' a j.toNatClampNeg (.int x.toInt8.toInt32) → GA Z h' a .byte n (fun i => if i = j.toNatClampNeg then .int x.toInt8.toInt32 else f i) → Go p e below s Q C S T' { g with pc := g.pc + 1, stack := rest }) : Go p e below s Q C S T g := by
  have A' := A
  obtain ⟨cl, A1, rfl, -, A4⟩ := A
  obtain ⟨T1, h1, X1, e1, W1, st⟩ := stB X hx hZ eT A1 (own_in q) hg hs hd
  exact go_st st (k _ _ X1 e1 W1 (A'.set W1))
theorem go_cast (X : Stand p l e R s m args below meth c T locs cells slots) (hx : p.tables.exec = Jvm.exec) (hZ : Z.Warmed39 s.vm) (eT : T.heap = h) {a : Addr} {n : Nat} {f : Nat → Value} (A : GA Z h a .char n f) {j x : Int32} {rest : List Value}
    (hd : decode c.code g.pc = .ok (.castore, 1)) (hg : g.method = m) (hs : g.stack = .int x :: .int j :: .ref a :: rest) (q : 0 ≤ j.toInt ∧ j.toInt < n)
    (k : ∀ T' h', Stand p l e R s m args below meth c T' (locs ++ [⟨a, j.toNatClampNeg⟩]) cells slots → T'.heap = h' → Wr h h' a j.toNatClampNeg (.int (nar .char x)) → GA Z h' a .char n (fun i => if i = j.toNatClampNeg then .int (nar .char x) else f i) → Go p e below s Q C S T' { g with pc := g.pc + 1, stack := rest }) : Go p e below s Q C S T g := by
  have A' := A
  obtain ⟨cl, A1, rfl, -, A4⟩ := A
  obtain ⟨T1, h1, X1, e1, W1, st⟩ := stC X hx hZ eT A1 (own_in q) hg hs hd
  exact go_st st (k _ _ X1 e1 W1 (A'.set W1))
theorem go_aast (X : Stand p l e R s m args below meth c T locs cells slots) (hx : p.tables.exec = Jvm.exec) (hZ : Z.Warmed39 s.vm) (eT : T.heap = h) {a : Addr} {ty : FieldType} {n : Nat} {f : Nat → Value} (A : GA Z h a ty n f) (hty : ty.isReference = true) {j : Int32} {v : Value} (F : Sto Z h a v) {rest : List Value}
    (hd : decode c.code g.pc = .ok (.aastore, 1)) (hg : g.method = m) (hs : g.stack = v :: .int j :: .ref a :: rest) (q : 0 ≤ j.toInt ∧ j.toInt < n)
    (k : ∀ T' h', Stand p l e R s m args below meth c T' (locs ++ [⟨a, j.toNatClampNeg⟩]) cells slots → T'.heap = h' → Wr h h' a j.toNatClampNeg v → GA Z h' a ty n (fun i => if i = j.toNatClampNeg then v else f i) → Go p e below s Q C S T' { g with pc := g.pc + 1, stack := rest }) : Go p e below s Q C S T g := by
  have A' := A
  obtain ⟨cl, A1, rfl, -, A4⟩ := A
  obtain ⟨T1, h1, X1, e1, W1, st⟩ := stR X hx hZ eT A1 (own_in q) hty F hg hs hd
  exact go_st st (k _ _ X1 e1 W1 (A'.set W1))
theorem own_clamp {n : Int32} {N : Nat} (q : n.toInt = N) : n.toNatClampNeg = N := by simp only [Int32.toNatClampNeg]; omega
theorem own_nneg {n : Int32} {N : Nat} (q : n.toInt = N) : ¬ n < 0 := by
  rw [Int32.lt_iff_toInt_lt]
  have : (0 : Int32).toInt = 0 := rfl
  omega
theorem go_newP (X : Stand p l e R s m args below meth c T locs cells slots) (hx : p.tables.exec = Jvm.exec) (hZ : Z.Warmed39 s.vm) {aty : ArrayType} (w : (Cond.arrayClass (newarray.typeOf aty)).before a0 Z = true) (eT : T.heap = h) {n : Int32} {rest : List Value} (hd : decode c.code g.pc = .ok (.newarray aty, 2)) (hg : g.method = m) (hs : g.stack = .int n :: rest)
    (N : Nat) (hn : n.toInt = N) (cap : Nat) (hcap : N ≤ cap) (hb : cap * 8 ≤ 536870912) (hc : cells + 1 ≤ R.cells) (hl : slots + cap ≤ R.slots)
    (k : ∀ T' h' a, a = h.size → Stand p l e R s m args below meth c T' locs (cells + 1) (slots + cap) → T'.heap = h' → Ext h h' → GA Z h' a (newarray.typeOf aty) N (fun _ => defaultValue (newarray.typeOf aty)) → Go p e below s Q C S T' { g with pc := g.pc + 2, stack := .ref a :: rest }) : Go p e below s Q C S T g := by
  have hN := own_clamp hn
  have hn0 := own_nneg hn
  obtain ⟨T1, h1, cA, X1, e1, E1, A1, st⟩ := newP X hx hZ w eT hg hd hs hn0 (cap := cap) (by omega) hb hc hl
  refine go_st st (k _ _ _ rfl X1 e1 E1 ⟨_, A1, (sz_new _ _ _).trans hN, ?_, fun i hi => ?_⟩)
  · have := (rng32 n).2
    omega
  · show (Array.replicate n.toNatClampNeg (defaultValue _))[i]? = _
    rw [hN, Array.getElem?_replicate, if_pos hi]
theorem go_newR (X : Stand p l e R s m args below meth c T locs cells slots) (hx : p.tables.exec = Jvm.exec) (hZ : Z.Warmed39 s.vm) {own K : String} {index : Nat} (hown : s.vm.findClass own = some m.cls) (w1 : (Cond.classLink own index K).before a0 Z = true) (w2 : (Cond.arrayOver (.object K)).before a0 Z = true) (eT : T.heap = h) {n : Int32} {rest : List Value} (hd : decode c.code g.pc = .ok (.anewarray index, 3)) (hg : g.method = m) (hs : g.stack = .int n :: rest)
    (N : Nat) (hn : n.toInt = N) (cap : Nat) (hcap : N ≤ cap) (hb : cap * 8 ≤ 536870912) (hc : cells + 1 ≤ R.cells) (hl : slots + cap ≤ R.slots)
    (k : ∀ T' h' a, a = h.size → Stand p l e R s m args below meth c T' locs (cells + 1) (slots + cap) → T'.heap = h' → Ext h h' → GA Z h' a (.object K) N (fun _ => .null) → OC Z h' a (.object K) K → Go p e below s Q C S T' { g with pc := g.pc + 3, stack := .ref a :: rest }) : Go p e below s Q C S T g := by
  have hN := own_clamp hn
  have hn0 := own_nneg hn
  obtain ⟨T1, h1, cA, X1, e1, E1, A1, O1, st⟩ := newR X hx hZ hown w1 w2 eT hg hd hs hn0 (cap := cap) (by omega) hb hc hl
  refine go_st st (k _ _ _ rfl X1 e1 E1 ⟨_, A1, (sz_new _ _ _).trans hN, ?_, fun i hi => ?_⟩ ⟨_, A1, O1⟩)
  · have := (rng32 n).2
    omega
  · show (Array.replicate n.toNatClampNeg (defaultValue _))[i]? = _
    rw [hN, Array.getElem?_replicate, if_pos hi]
    rfl
end OwnGo
open OwnDy
theorem own_on32 {n : Nat} (h : n < 2147483648) : (Int32.ofNat n).toInt = n := Int32.toInt_ofNat_of_lt (by omega)
theorem own_on64 {n : Nat} (h : n < 9223372036854775808) : (Int64.ofNat n).toInt = n := Int64.toInt_ofNat_of_lt (by omega)
theorem own_i64 {n : Nat} (h : n < 2147483648) : (Int32.ofNat n).toInt64 = Int64.ofNat n := by
  apply Int64.toInt_inj.mp
  rw [Int32.toInt_toInt64, own_on32 h, own_on64 (by omega)]
theorem own_m16 (x : Int32) : ∃ n : Nat, n < 65536 ∧ (x &&& (65535 : Int32)) = Int32.ofNat n := by
  have h1 := c_mask x 65535 16 (by decide) (by decide)
  refine ⟨(x &&& (65535 : Int32)).toInt.toNat, by omega, ?_⟩
  apply Int32.toInt_inj.mp
  rw [own_on32 (by omega)]
  omega
theorem own_n1 (x : Int32) : ∃ n : Nat, 1 ≤ n ∧ n ≤ 65536 ∧ ((x &&& (65535 : Int32)).toInt64 + (1 : Int64)) = Int64.ofNat n := by
  obtain ⟨n, h1, h2⟩ := own_m16 x
  refine ⟨n + 1, by omega, by omega, ?_⟩
  rw [h2, own_i64 (by omega), show (1 : Int64) = Int64.ofNat 1 from rfl, ← Int64.ofNat_add]
theorem own_n2 (x : Int32) : ∃ n : Nat, 2 ≤ n ∧ n ≤ 65537 ∧ ((x &&& (65535 : Int32)).toInt64 + (2 : Int64)) = Int64.ofNat n := by
  obtain ⟨n, h1, h2⟩ := own_m16 x
  refine ⟨n + 2, by omega, by omega, ?_⟩
  rw [h2, own_i64 (by omega), show (2 : Int64) = Int64.ofNat 2 from rfl, ← Int64.ofNat_add]
theorem own_l2i {n : Nat} (h : 1 ≤ n) (h2 : n ≤ 65537) : ((Int64.ofNat n) - (1 : Int64)).toInt32 = Int32.ofNat (n - 1) := by
  have e1 : (Int64.ofNat n - (1 : Int64)).toInt = (n : Int) - 1 := by
    have := Jvm.FP.Core.int64_sub (a := Int64.ofNat n) (b := 1) (by rw [own_on64 (by omega)]; show -2 ^ 63 ≤ (n : Int) - 1; omega) (by rw [own_on64 (by omega)]; show (n : Int) - 1 < 2 ^ 63; omega)
    rw [this, own_on64 (by omega)]
    rfl
  apply Int32.toInt_inj.mp
  rw [Jvm.FP.Core.int64_toInt32 (by omega) (by omega), own_on32 (by omega)]
  omega
theorem own_rem (x m : Int32) (M : Nat) (hm : m.toInt = M) (h0 : 0 < M) (hM : M < 2147483648) : ∃ n : Nat, n < M ∧ ((x &&& (2147483647 : Int32)) % m) = Int32.ofNat n := by
  have h1 := c_mask x 2147483647 31 (by decide) (by decide)
  have h2 : ((x &&& (2147483647 : Int32)) % m).toInt = (x &&& (2147483647 : Int32)).toInt.tmod m.toInt := Int32.toInt_mod ..
  rw [hm, Int.tmod_eq_emod_of_nonneg (by omega)] at h2
  have h3 := Int.emod_nonneg (x &&& (2147483647 : Int32)).toInt (b := (M : Int)) (by omega)
  have h4 := Int.emod_lt_of_pos (x &&& (2147483647 : Int32)).toInt (b := (M : Int)) (by omega)
  refine ⟨((x &&& (2147483647 : Int32)) % m).toInt.toNat, by omega, ?_⟩
  apply Int32.toInt_inj.mp
  rw [own_on32 (by omega)]
  omega
theorem own_r (x : Int32) {n : Nat} (h : 1 ≤ n) (h2 : n ≤ 65536) : ∃ r : Nat, 1 ≤ r ∧ r ≤ n ∧ ((1 : Int64) + ((x &&& (2147483647 : Int32)) % (Int32.ofNat n)).toInt64) = Int64.ofNat r := by
  obtain ⟨k, h3, h4⟩ := own_rem x (Int32.ofNat n) n (own_on32 (by omega)) (by omega) (by omega)
  refine ⟨1 + k, by omega, by omega, ?_⟩
  rw [h4, own_i64 (by omega), show (1 : Int64) = Int64.ofNat 1 from rfl, ← Int64.ofNat_add]
theorem own_nz0 {n : Nat} (h : 0 < n) (h2 : n < 1073741824) : (Int32.ofNat n) ≠ 0 := by
  intro hq
  have := congrArg Int32.toInt hq
  rw [own_on32 (by omega)] at this
  have e0 : (0 : Int32).toInt = 0 := rfl
  omega
theorem own_nzL {n : Nat} (h : 0 < n) (h2 : n < 1073741824) : ¬ (Int64.ofNat n = (0 : Int64)) := by
  intro hq
  have := congrArg Int64.toInt hq
  rw [own_on64 (by omega)] at this
  have e0 : (0 : Int64).toInt = 0 := rfl
  omega
theorem own_tot (q : Int32) {n r : Nat} (hn : n ≤ 65537) (hr : r ≤ 65537) : (q.toInt64 * Int64.ofNat n + Int64.ofNat r).toInt = q.toInt * n + r ∧ (q.toInt * (n : Int) + r).natAbs < 2 ^ 53 ∧ (q.toInt64 * Int64.ofNat n).toInt = q.toInt * n ∧ (q.toInt * (n : Int)).natAbs < 2 ^ 53 := by
  have hq := rng32 q
  have e1 : q.toInt64.toInt = q.toInt := Int32.toInt_toInt64 q
  have e2 : (Int64.ofNat n).toInt = n := own_on64 (by omega)
  have e3 : (Int64.ofNat r).toInt = r := own_on64 (by omega)
  have b1 : q.toInt * (n : Int) ≤ 2147483648 * 65537 := by
    by_cases h : 0 ≤ q.toInt
    · exact Int.mul_le_mul (by omega) (by omega) (by omega) (by omega)
    · have : q.toInt * (n : Int) ≤ 0 := Int.mul_nonpos_of_nonpos_of_nonneg (by omega) (by omega)
      omega
  have b2 : -(2147483648 * 65537) ≤ q.toInt * (n : Int) := by
    by_cases h : 0 ≤ q.toInt
    · have := Int.mul_nonneg h (show (0 : Int) ≤ n by omega)
      omega
    · have : (-q.toInt) * (n : Int) ≤ 2147483648 * 65537 := Int.mul_le_mul (by omega) (by omega) (by omega) (by omega)
      rw [Int.neg_mul] at this
      omega
  have m1 : (q.toInt64 * Int64.ofNat n).toInt = q.toInt * n := by
    rw [Jvm.FP.Core.int64_mul (by rw [e1, e2]; omega) (by rw [e1, e2]; omega), e1, e2]
  refine ⟨?_, by omega, m1, by omega⟩
  rw [Jvm.FP.Core.int64_add (by rw [m1, e3]; omega) (by rw [m1, e3]; omega), m1, e3]
theorem own_nnm {t o : Int64} {n : Nat} (h : o.toInt = n) (h0 : 0 < n) (h1 : n < 9007199254740992) : Jvm.Free.Fl.NoNaN64 (FP.ddiv (FP.l2d t) (FP.l2d o)) := own_nanN (own_nnq (by omega) (by omega))
theorem own_zi2d (q : Int32) : Jvm.FP.Core.zval Jvm.FP.Core.b64 (Jvm.FP.Core.val64 (FP.i2d q)) = q.toInt * ((2 ^ 1074 : Nat) : Int) := by
  have hq := rng32 q
  have e0 : FP.i2d q = FP.l2d q.toInt64 := Jvm.FP.Core.i2d_l2d q
  rw [e0]
  have e1 : q.toInt64.toInt = q.toInt := Int32.toInt_toInt64 q
  have := own_zl2d (a := q.toInt64) (by rw [e1]; omega)
  rw [e1] at this
  exact this
theorem own_ni2d (q : Int32) : Jvm.FP.Core.val64 (FP.i2d q) ≠ .nan := by
  have e0 : FP.i2d q = FP.l2d q.toInt64 := Jvm.FP.Core.i2d_l2d q
  rw [e0]
  obtain ⟨c, w, h1⟩ := Jvm.FP.Core.l2d_shape q.toInt64
  intro hq
  rw [show Jvm.FP.Core.val64 (FP.l2d q.toInt64) = Jvm.FP.Core.val64 (Jvm.FP.Core.l2d q.toInt64) from rfl, h1] at hq
  cases hq
theorem own_hi (q : Int32) : FP.dadd (FP.i2d q) FP.dconst1 = FP.l2d (q.toInt64 + 1) := by
  have hq := rng32 q
  have e0 : FP.i2d q = FP.l2d q.toInt64 := Jvm.FP.Core.i2d_l2d q
  have e1 : q.toInt64.toInt = q.toInt := Int32.toInt_toInt64 q
  have e2 : FP.dconst1 = FP.l2d (1 : Int64) := by decide +kernel
  rw [e0, e2]
  exact Jvm.FP.Core.dadd_l2d (by unfold Jvm.FP.Core.Small53; rw [e1]; omega) (by unfold Jvm.FP.Core.Small53; decide)
theorem own_nnh (q : Int32) : Jvm.Free.Fl.NoNaN64 (FP.dadd (FP.i2d q) FP.dconst1) := by
  rw [own_hi]
  obtain ⟨c, w, h1⟩ := Jvm.FP.Core.l2d_shape (q.toInt64 + 1)
  refine own_nanN ?_
  intro hq
  rw [show Jvm.FP.Core.val64 (FP.l2d (q.toInt64 + 1)) = Jvm.FP.Core.val64 (Jvm.FP.Core.l2d (q.toInt64 + 1)) from rfl, h1] at hq
  cases hq
theorem own_sg (q : Int) (n P : Nat) (hn : 0 < n) : Jvm.FP.Core.signed (decide (q * (n : Int) < 0)) (q.natAbs * P) = q * (P : Int) := by
  by_cases hs : q < 0
  · have : q * (n : Int) < 0 := Int.mul_neg_of_neg_of_pos hs (by omega)
    rw [decide_eq_true this]
    show -((q.natAbs * P : Nat) : Int) = _
    rw [Int.natCast_mul, ← Int.neg_mul]
    congr 1
    omega
  · have : ¬ q * (n : Int) < 0 := by have := Int.mul_nonneg (show 0 ≤ q by omega) (show (0 : Int) ≤ n by omega); omega
    rw [decide_eq_false this]
    show ((q.natAbs * P : Nat) : Int) = _
    rw [Int.natCast_mul]
    congr 1
    omega
theorem own_sgz {q : Int} {n c : Nat} {w : Int} (k3 : c * 2 ^ (w + (1074 : Nat)).toNat = q.natAbs * 2 ^ 1074) (hn : 0 < n) : Jvm.FP.Core.zval Jvm.FP.Core.b64 (.fin (decide (q * (n : Int) < 0)) c w) = q * ((2 ^ 1074 : Nat) : Int) := by
  have e : Jvm.FP.Core.zval Jvm.FP.Core.b64 (.fin (decide (q * (n : Int) < 0)) c w) = Jvm.FP.Core.signed (decide (q * (n : Int) < 0)) (Jvm.FP.Core.zmag Jvm.FP.Core.b64 (.fin (decide (q * (n : Int) < 0)) c w)) := rfl
  rw [e, own_zfin, k3]
  exact own_sg q n _ hn
theorem own_m2 (q : Int32) {n : Nat} (h1 : 1 ≤ n) (h2 : n ≤ 65536) : FP.dcmp (FP.ddiv (FP.l2d (q.toInt64 * Int64.ofNat n)) (FP.l2d (Int64.ofNat n))) (FP.i2d q) = some .eq := by
  obtain ⟨-, -, t1, t2⟩ := own_tot q (n := n) (r := 0) (by omega) (by omega)
  have e2 : (Int64.ofNat n).toInt = n := own_on64 (by omega)
  have hq := rng32 q
  have v := own_zquo (a := q.toInt64 * Int64.ofNat n) (b := Int64.ofNat n) (by rw [t1]; exact t2) (by omega) (by omega)
  rw [t1, e2] at v
  have hab : (q.toInt * (n : Int)).natAbs = q.toInt.natAbs * n := by rw [Int.natAbs_mul]; rfl
  obtain ⟨c, w, k1, k2, k3⟩ := own_exactS (s := decide (q.toInt * (n : Int) < 0)) (A := (q.toInt * (n : Int)).natAbs) (B := (n : Int).natAbs) (n := q.toInt.natAbs) (by omega) (by omega) (by rw [hab]; rfl)
  rw [k1] at v
  have hn : Jvm.FP.Core.val64 (FP.ddiv (FP.l2d (q.toInt64 * Int64.ofNat n)) (FP.l2d (Int64.ofNat n))) ≠ .nan := by
    intro hq2
    rw [show Jvm.FP.Core.val64 (FP.ddiv (FP.l2d (q.toInt64 * Int64.ofNat n)) (FP.l2d (Int64.ofNat n))) = _ from v] at hq2
    cases hq2
  have z : Jvm.FP.Core.zval Jvm.FP.Core.b64 (Jvm.FP.Core.val64 (FP.ddiv (FP.l2d (q.toInt64 * Int64.ofNat n)) (FP.l2d (Int64.ofNat n)))) = q.toInt * ((2 ^ 1074 : Nat) : Int) := by
    rw [show Jvm.FP.Core.val64 (FP.ddiv (FP.l2d (q.toInt64 * Int64.ofNat n)) (FP.l2d (Int64.ofNat n))) = _ from v]
    exact own_sgz k3 (by omega)
  have d := Jvm.FP.Core.dcmp_zval hn (own_ni2d q)
  rw [z, own_zi2d, Jvm.FP.Core.compare_ite, if_neg (Int.lt_irrefl _), if_pos rfl] at d
  exact d
theorem own_m3 (q : Int32) {n r : Nat} (h1 : 2 ≤ n) (h2 : n ≤ 65537) (h3 : 1 ≤ r) (h4 : r ≤ n - 1) : FP.dcmp (FP.ddiv (FP.l2d (q.toInt64 * Int64.ofNat n + Int64.ofNat r)) (FP.l2d (Int64.ofNat n))) (FP.i2d q) = some .gt ∧ FP.dcmp (FP.ddiv (FP.l2d (q.toInt64 * Int64.ofNat n + Int64.ofNat r)) (FP.l2d (Int64.ofNat n))) (FP.dadd (FP.i2d q) FP.dconst1) = some .lt := by
  obtain ⟨t1, t2, -, -⟩ := own_tot q (n := n) (r := r) (by omega) (by omega)
  have e2 : (Int64.ofNat n).toInt = n := own_on64 (by omega)
  have hq := rng32 q
  have v := own_zquo (a := q.toInt64 * Int64.ofNat n + Int64.ofNat r) (b := Int64.ofNat n) (by rw [t1]; exact t2) (by omega) (by omega)
  rw [t1, e2, show ((n : Int)).natAbs = n from rfl] at v
  have hn := own_nnq (a := q.toInt64 * Int64.ofNat n + Int64.ofNat r) (b := Int64.ofNat n) (by omega) (by omega)
  have hx : (q.toInt64 + 1).toInt = q.toInt + 1 := by
    have e1 : q.toInt64.toInt = q.toInt := Int32.toInt_toInt64 q
    rw [Jvm.FP.Core.int64_add (by rw [e1]; show -2 ^ 63 ≤ q.toInt + 1; omega) (by rw [e1]; show q.toInt + 1 < 2 ^ 63; omega), e1]
    rfl
  have zh : Jvm.FP.Core.zval Jvm.FP.Core.b64 (Jvm.FP.Core.val64 (FP.l2d (q.toInt64 + 1))) = (q.toInt + 1) * ((2 ^ 1074 : Nat) : Int) := by
    have := own_zl2d (a := q.toInt64 + 1) (by rw [hx]; omega)
    rw [hx] at this
    exact this
  have nh : Jvm.FP.Core.val64 (FP.l2d (q.toInt64 + 1)) ≠ .nan := by
    obtain ⟨c, w, k⟩ := Jvm.FP.Core.l2d_shape (q.toInt64 + 1)
    intro hq
    rw [show Jvm.FP.Core.val64 (FP.l2d (q.toInt64 + 1)) = Jvm.FP.Core.val64 (Jvm.FP.Core.l2d (q.toInt64 + 1)) from rfl, k] at hq
    cases hq
  have zm : q.toInt * ((2 ^ 1074 : Nat) : Int) < Jvm.FP.Core.zval Jvm.FP.Core.b64 (Jvm.FP.Core.val64 (FP.ddiv (FP.l2d (q.toInt64 * Int64.ofNat n + Int64.ofNat r)) (FP.l2d (Int64.ofNat n)))) ∧ Jvm.FP.Core.zval Jvm.FP.Core.b64 (Jvm.FP.Core.val64 (FP.ddiv (FP.l2d (q.toInt64 * Int64.ofNat n + Int64.ofNat r)) (FP.l2d (Int64.ofNat n)))) < (q.toInt + 1) * ((2 ^ 1074 : Nat) : Int) := by
    rw [show Jvm.FP.Core.val64 (FP.ddiv (FP.l2d (q.toInt64 * Int64.ofNat n + Int64.ofNat r)) (FP.l2d (Int64.ofNat n))) = _ from v, own_zround]
    by_cases hs : q.toInt < 0
    · obtain ⟨M, hM⟩ : ∃ M : Nat, q.toInt = -((M : Int) + 1) := ⟨(-q.toInt - 1).toNat, by omega⟩
      have e3 : q.toInt * (n : Int) + r = -((M * n + (n - r) : Nat) : Int) := by
        rw [hM, Int.neg_mul, Int.add_mul, Int.one_mul, Int.natCast_add, Int.natCast_mul]
        omega
      have b := own_between (s := decide (q.toInt * (n : Int) + r < 0)) (A := (q.toInt * (n : Int) + r).natAbs) (N := n) (M := M) (r := n - r) (by rw [e3, Int.natAbs_neg]; rfl) (by omega) (by omega) (by omega) (by omega)
      have hneg : q.toInt * (n : Int) + r < 0 := by rw [e3]; omega
      rw [decide_eq_true hneg] at b ⊢
      show _ < -((Jvm.FP.Core.zmag _ _ : Nat) : Int) ∧ -((Jvm.FP.Core.zmag _ _ : Nat) : Int) < _
      revert b
      generalize Jvm.FP.Core.zmag Jvm.FP.Core.b64 (Jvm.FP.Core.roundRatio Jvm.FP.Core.b64 true (q.toInt * (n : Int) + r).natAbs n 0) = zz
      rw [hM]
      generalize 2 ^ 1074 = P
      have c1 : (-((M : Int) + 1)) * (P : Int) = -(((M + 1) * P : Nat) : Int) := by rw [Int.neg_mul, Int.natCast_mul]; rfl
      have c2 : (-((M : Int) + 1) + 1) * (P : Int) = -((M * P : Nat) : Int) := by rw [show -((M : Int) + 1) + 1 = -(M : Int) by omega, Int.neg_mul, Int.natCast_mul]
      rw [c1, c2]
      generalize (M + 1) * P = u
      generalize M * P = v'
      intro b
      omega
    · obtain ⟨M, hM⟩ : ∃ M : Nat, q.toInt = (M : Int) := ⟨q.toInt.toNat, by omega⟩
      have e3 : q.toInt * (n : Int) + r = ((M * n + r : Nat) : Int) := by rw [hM, Int.natCast_add, Int.natCast_mul]
      have b := own_between (s := decide (q.toInt * (n : Int) + r < 0)) (A := (q.toInt * (n : Int) + r).natAbs) (N := n) (M := M) (r := r) (by rw [e3]; rfl) (by omega) (by omega) (by omega) (by omega)
      have hneg : ¬ (q.toInt * (n : Int) + r < 0) := by rw [e3]; omega
      rw [decide_eq_false hneg] at b ⊢
      show _ < ((Jvm.FP.Core.zmag _ _ : Nat) : Int) ∧ ((Jvm.FP.Core.zmag _ _ : Nat) : Int) < _
      revert b
      generalize Jvm.FP.Core.zmag Jvm.FP.Core.b64 (Jvm.FP.Core.roundRatio Jvm.FP.Core.b64 false (q.toInt * (n : Int) + r).natAbs n 0) = zz
      rw [hM]
      generalize 2 ^ 1074 = P
      have c1 : (M : Int) * (P : Int) = ((M * P : Nat) : Int) := (Int.natCast_mul _ _).symm
      have c2 : ((M : Int) + 1) * (P : Int) = (((M + 1) * P : Nat) : Int) := by rw [Int.natCast_mul]; rfl
      rw [c1, c2]
      generalize (M + 1) * P = u
      generalize M * P = v'
      intro b
      omega
  constructor
  · have d := Jvm.FP.Core.dcmp_zval hn (own_ni2d q)
    rw [own_zi2d, Jvm.FP.Core.compare_ite, if_neg (by have := zm.1; exact Int.not_lt.mpr (Int.le_of_lt this)), if_neg (fun hq => by have := zm.1; exact absurd (show _ = _ from hq) (Int.ne_of_gt this))] at d
    exact d
  · rw [own_hi]
    have d := Jvm.FP.Core.dcmp_zval hn nh
    rw [zh, Jvm.FP.Core.compare_ite, if_pos zm.2] at d
    exact d

theorem d1_0 : decode prog_7_method_1_code 0 = .ok (.aload_n 0, 1) := by decide +kernel
theorem d1_1 : decode prog_7_method_1_code 1 = .ok (.invokespecial 1, 3) := by decide +kernel
theorem d1_4 : decode prog_7_method_1_code 4 = .ok (.aload_n 0, 1) := by decide +kernel
theorem d1_5 : decode prog_7_method_1_code 5 = .ok (.lload_n 1, 1) := by decide +kernel
theorem d1_6 : decode prog_7_method_1_code 6 = .ok (.putfield 7, 3) := by decide +kernel
theorem d1_9 : decode prog_7_method_1_code 9 = .ok (.aload_n 0, 1) := by decide +kernel
theorem d1_10 : decode prog_7_method_1_code 10 = .ok (.lload_n 3, 1) := by decide +kernel
theorem d1_11 : decode prog_7_method_1_code 11 = .ok (.putfield 13, 3) := by decide +kernel
theorem d1_14 : decode prog_7_method_1_code 14 = .ok (.aload_n 0, 1) := by decide +kernel
theorem d1_15 : decode prog_7_method_1_code 15 = .ok (.lload 5, 2) := by decide +kernel
theorem d1_17 : decode prog_7_method_1_code 17 = .ok (.putfield 16, 3) := by decide +kernel
theorem d1_20 : decode prog_7_method_1_code 20 = .ok (.aload_n 0, 1) := by decide +kernel
theorem d1_21 : decode prog_7_method_1_code 21 = .ok (.lload 7, 2) := by decide +kernel
theorem d1_23 : decode prog_7_method_1_code 23 = .ok (.putfield 19, 3) := by decide +kernel
theorem d1_26 : decode prog_7_method_1_code 26 = .ok (.return_, 1) := by decide +kernel
theorem pn0 : plainFor (⟨"com/example/tourney/tourney/StepStats$Figures", "<init>", "(JJJJ)V"⟩ : MethodName) = true := by first | (refine plainFor_of_name ?_; simp [plainName, overriddenIn]; done) | (refine plainFor_of_name ?_; decide +kernel) | decide +kernel
def Q_ini (Z : State) (a : Addr) (ja : Int64) (jb : Int64) (jc : Int64) (jd : Int64) (h0 : Heap) (n0 : Nat) (v : Option Value) (h : Heap) (L : List Loc) : Prop := v = none ∧ Fr n0 L ∧ Keep h0 h [a] ∧ Exa Z h a "com/example/tourney/tourney/StepStats$Figures" ∧ Fld Z h a "com/example/tourney/tourney/StepStats$Figures" "operations" "J" (.long ja) ∧ Fld Z h a "com/example/tourney/tourney/StepStats$Figures" "totalSteps" "J" (.long jb)
theorem ef_ini (m : MethodId) (a : Addr) (ja : Int64) (jb : Int64) (jc : Int64) (jd : Int64) : entryFrame m #[(.ref a), (.long ja), (.long jb), (.long jc), (.long jd)] 9 = mkF m 0 #[.val (.ref a), .val (.long ja), .second, .val (.long jb), .second, .val (.long jc), .second, .val (.long jd), .second] [] := by first | (simp [entryFrame, mkF, argsToLocals, Value.category]; done) | rfl
abbrev rm_ini : Room := ({ frames := 1, cells := 0, slots := 0, locals := 12 } : Room)
set_option maxRecDepth 65536 in
set_option maxHeartbeats 4000000 in
theorem met_ini (l : Launch) (Z : State) (a0 : Array Value) (hw : ∀ d ∈ tables_1, d.before a0 Z = true) (a : Addr) (ja : Int64) (jb : Int64) (jc : Int64) (jd : Int64) (h0 : Heap) (n0 : Nat) (Z0 : n0 ≤ h0.size) (P0 : Exa Z h0 a "com/example/tourney/tourney/StepStats$Figures") (P1 : n0 ≤ a) (P2 : Fld Z h0 a "com/example/tourney/tourney/StepStats$Figures" "operations" "J" (.long (0 : Int64))) (P3 : Fld Z h0 a "com/example/tourney/tourney/StepStats$Figures" "totalSteps" "J" (.long (0 : Int64))) (P4 : Fld Z h0 a "com/example/tourney/tourney/StepStats$Figures" "largestSteps" "J" (.long (0 : Int64))) (P5 : Fld Z h0 a "com/example/tourney/tourney/StepStats$Figures" "largestCompareAndSwaps" "J" (.long (0 : Int64))) :
    Met l (⟨"com/example/tourney/tourney/StepStats$Figures", "<init>", "(JJJJ)V"⟩ : MethodName) prog_7_method_1_code 9 none [] rm_ini Z #[(.ref a), (.long ja), (.long jb), (.long jc), (.long jd)] h0 (Q_ini Z a ja jb jc jd h0 n0) rm_ini.cells rm_ini.slots := by
  refine own_body pn0 ?_
  intro p e s m below meth c s₁ ct X0 e0
  have ct0 := ct
  obtain ⟨hx, hZ, hown, hby, hml, hret, hlk, hnm⟩ := ct
  have lt_a : a < h0.size := P0.lt
  have N0 := Fr.nil n0
  refine castGo (ef_ini m a ja jb jc jd) ?_
  show Go p e below s _ _ _ s₁ (mkF m 0 #[.val (.ref a), .val (.long ja), .second, .val (.long jb), .second, .val (.long jc), .second, .val (.long jd), .second] [])
  refine go_st (fun _ kq => XS.aloadN X0.here hx rfl (hb hby d1_0) rfl rfl kq) ?_
  show Go p e below s _ _ _ s₁ (mkF m 1 #[.val (.ref a), .val (.long ja), .second, .val (.long jb), .second, .val (.long jc), .second, .val (.long jd), .second] [(.ref a)])
  refine go_initO X0 hx hZ hml hown (hw _ (List.mem_of_getElem? (i := 9) rfl)) (hw _ (List.mem_of_getElem? (i := 10) rfl)) (hw _ (List.mem_of_getElem? (i := 11) rfl)) e0 (hb hby d1_1) rfl rfl rfl (by decide) (W := 0) (by show 2 * 0 + _ ≤ _; exact Nat.le_of_eq rfl) (by decide) ?_
  intro T1 X1 e1
  show Go p e below s _ _ _ T1 (mkF m 4 #[.val (.ref a), .val (.long ja), .second, .val (.long jb), .second, .val (.long jc), .second, .val (.long jd), .second] [])
  refine go_st (fun _ kq => XS.aloadN X1.here hx rfl (hb hby d1_4) rfl rfl kq) ?_
  show Go p e below s _ _ _ T1 (mkF m 5 #[.val (.ref a), .val (.long ja), .second, .val (.long jb), .second, .val (.long jc), .second, .val (.long jd), .second] [(.ref a)])
  refine go_st (fun _ kq => XT.lloadN X1.here hx rfl (hb hby d1_5) rfl kq) ?_
  show Go p e below s _ _ _ T1 (mkF m 6 #[.val (.ref a), .val (.long ja), .second, .val (.long jb), .second, .val (.long jc), .second, .val (.long jd), .second] [(.long ja), (.ref a)])
  refine go_putF X1 hx hZ hown (host := "") (Or.inl (hw _ (List.mem_of_getElem? (i := 12) rfl))) Via.refl e1 P2 P0 (Or.inr ⟨(hw _ (List.mem_of_getElem? (i := 13) rfl)), rfl, hnm⟩) (hw _ (List.mem_of_getElem? (i := 4) rfl)) (ty := .long) (by decide) rfl rfl (hb hby d1_6) rfl rfl ?_
  intro T2 h2 X2 e2 W2
  have N2 := Fr.snoc X2 N0 P1
  have F2 : Fld Z h2 a "com/example/tourney/tourney/StepStats$Figures" "operations" "J" (.long ja) := Fld.same W2 P2
  show Go p e below s _ _ _ T2 (mkF m 9 #[.val (.ref a), .val (.long ja), .second, .val (.long jb), .second, .val (.long jc), .second, .val (.long jd), .second] [])
  refine go_st (fun _ kq => XS.aloadN X2.here hx rfl (hb hby d1_9) rfl rfl kq) ?_
  show Go p e below s _ _ _ T2 (mkF m 10 #[.val (.ref a), .val (.long ja), .second, .val (.long jb), .second, .val (.long jc), .second, .val (.long jd), .second] [(.ref a)])
  refine go_st (fun _ kq => XT.lloadN X2.here hx rfl (hb hby d1_10) rfl kq) ?_
  show Go p e below s _ _ _ T2 (mkF m 11 #[.val (.ref a), .val (.long ja), .second, .val (.long jb), .second, .val (.long jc), .second, .val (.long jd), .second] [(.long jb), (.ref a)])
  have c3 := Fld.other W2 P3 (Or.inr (slot_ne (a0 := a0) (t := .long) (t' := .long) (Or.inr (hw _ (List.mem_of_getElem? (i := 15) rfl))) (Or.inr (hw _ (List.mem_of_getElem? (i := 13) rfl))) (by decide) (by decide) (by decide)))
  have c4 := Exa.wr W2 P0
  refine go_putF X2 hx hZ hown (host := "") (Or.inl (hw _ (List.mem_of_getElem? (i := 14) rfl))) Via.refl e2 c3 c4 (Or.inr ⟨(hw _ (List.mem_of_getElem? (i := 15) rfl)), rfl, hnm⟩) (hw _ (List.mem_of_getElem? (i := 4) rfl)) (ty := .long) (by decide) rfl rfl (hb hby d1_11) rfl rfl ?_
  intro T5 h5 X5 e5 W5
  have N5 := Fr.snoc X5 N2 P1
  have F5 : Fld Z h5 a "com/example/tourney/tourney/StepStats$Figures" "totalSteps" "J" (.long jb) := Fld.same W5 c3
  show Go p e below s _ _ _ T5 (mkF m 14 #[.val (.ref a), .val (.long ja), .second, .val (.long jb), .second, .val (.long jc), .second, .val (.long jd), .second] [])
  refine go_st (fun _ kq => XS.aloadN X5.here hx rfl (hb hby d1_14) rfl rfl kq) ?_
  show Go p e below s _ _ _ T5 (mkF m 15 #[.val (.ref a), .val (.long ja), .second, .val (.long jb), .second, .val (.long jc), .second, .val (.long jd), .second] [(.ref a)])
  refine go_st (fun _ kq => XT.lload X5.here hx rfl (hb hby d1_15) rfl kq) ?_
  show Go p e below s _ _ _ T5 (mkF m 17 #[.val (.ref a), .val (.long ja), .second, .val (.long jb), .second, .val (.long jc), .second, .val (.long jd), .second] [(.long jc), (.ref a)])
  have c6 := Fld.other W2 P4 (Or.inr (slot_ne (a0 := a0) (t := .long) (t' := .long) (Or.inr (hw _ (List.mem_of_getElem? (i := 17) rfl))) (Or.inr (hw _ (List.mem_of_getElem? (i := 13) rfl))) (by decide) (by decide) (by decide)))
  have c7 := Fld.other W5 c6 (Or.inr (slot_ne (a0 := a0) (t := .long) (t' := .long) (Or.inr (hw _ (List.mem_of_getElem? (i := 17) rfl))) (Or.inr (hw _ (List.mem_of_getElem? (i := 15) rfl))) (by decide) (by decide) (by decide)))
  have c8 := Exa.wr W5 c4
  refine go_putF X5 hx hZ hown (host := "") (Or.inl (hw _ (List.mem_of_getElem? (i := 16) rfl))) Via.refl e5 c7 c8 (Or.inr ⟨(hw _ (List.mem_of_getElem? (i := 17) rfl)), rfl, hnm⟩) (hw _ (List.mem_of_getElem? (i := 4) rfl)) (ty := .long) (by decide) rfl rfl (hb hby d1_17) rfl rfl ?_
  intro T9 h9 X9 e9 W9
  have N9 := Fr.snoc X9 N5 P1
  have F9 : Fld Z h9 a "com/example/tourney/tourney/StepStats$Figures" "largestSteps" "J" (.long jc) := Fld.same W9 c7
  show Go p e below s _ _ _ T9 (mkF m 20 #[.val (.ref a), .val (.long ja), .second, .val (.long jb), .second, .val (.long jc), .second, .val (.long jd), .second] [])
  refine go_st (fun _ kq => XS.aloadN X9.here hx rfl (hb hby d1_20) rfl rfl kq) ?_
  show Go p e below s _ _ _ T9 (mkF m 21 #[.val (.ref a), .val (.long ja), .second, .val (.long jb), .second, .val (.long jc), .second, .val (.long jd), .second] [(.ref a)])
  refine go_st (fun _ kq => XT.lload X9.here hx rfl (hb hby d1_21) rfl kq) ?_
  show Go p e below s _ _ _ T9 (mkF m 23 #[.val (.ref a), .val (.long ja), .second, .val (.long jb), .second, .val (.long jc), .second, .val (.long jd), .second] [(.long jd), (.ref a)])
  have c10 := Fld.other W2 P5 (Or.inr (slot_ne (a0 := a0) (t := .long) (t' := .long) (Or.inr (hw _ (List.mem_of_getElem? (i := 19) rfl))) (Or.inr (hw _ (List.mem_of_getElem? (i := 13) rfl))) (by decide) (by decide) (by decide)))
  have c11 := Fld.other W5 c10 (Or.inr (slot_ne (a0 := a0) (t := .long) (t' := .long) (Or.inr (hw _ (List.mem_of_getElem? (i := 19) rfl))) (Or.inr (hw _ (List.mem_of_getElem? (i := 15) rfl))) (by decide) (by decide) (by decide)))
  have c12 := Fld.other W9 c11 (Or.inr (slot_ne (a0 := a0) (t := .long) (t' := .long) (Or.inr (hw _ (List.mem_of_getElem? (i := 19) rfl))) (Or.inr (hw _ (List.mem_of_getElem? (i := 17) rfl))) (by decide) (by decide) (by decide)))
  have c13 := Exa.wr W9 c8
  refine go_putF X9 hx hZ hown (host := "") (Or.inl (hw _ (List.mem_of_getElem? (i := 18) rfl))) Via.refl e9 c12 c13 (Or.inr ⟨(hw _ (List.mem_of_getElem? (i := 19) rfl)), rfl, hnm⟩) (hw _ (List.mem_of_getElem? (i := 4) rfl)) (ty := .long) (by decide) rfl rfl (hb hby d1_23) rfl rfl ?_
  intro T14 h14 X14 e14 W14
  have N14 := Fr.snoc X14 N9 P1
  have F14 : Fld Z h14 a "com/example/tourney/tourney/StepStats$Figures" "largestCompareAndSwaps" "J" (.long jd) := Fld.same W14 c12
  show Go p e below s _ _ _ T14 (mkF m 26 #[.val (.ref a), .val (.long ja), .second, .val (.long jb), .second, .val (.long jc), .second, .val (.long jd), .second] [])
  have c15 := Exa.wr W14 c13
  have c16 := Fld.other W5 F2 (Or.inr (slot_ne (a0 := a0) (t := .long) (t' := .long) (Or.inr (hw _ (List.mem_of_getElem? (i := 13) rfl))) (Or.inr (hw _ (List.mem_of_getElem? (i := 15) rfl))) (by decide) (by decide) (by decide)))
  have c17 := Fld.other W9 c16 (Or.inr (slot_ne (a0 := a0) (t := .long) (t' := .long) (Or.inr (hw _ (List.mem_of_getElem? (i := 13) rfl))) (Or.inr (hw _ (List.mem_of_getElem? (i := 17) rfl))) (by decide) (by decide) (by decide)))
  have c18 := Fld.other W14 c17 (Or.inr (slot_ne (a0 := a0) (t := .long) (t' := .long) (Or.inr (hw _ (List.mem_of_getElem? (i := 13) rfl))) (Or.inr (hw _ (List.mem_of_getElem? (i := 19) rfl))) (by decide) (by decide) (by decide)))
  have c19 := Fld.other W9 F5 (Or.inr (slot_ne (a0 := a0) (t := .long) (t' := .long) (Or.inr (hw _ (List.mem_of_getElem? (i := 15) rfl))) (Or.inr (hw _ (List.mem_of_getElem? (i := 17) rfl))) (by decide) (by decide) (by decide)))
  have c20 := Fld.other W14 c19 (Or.inr (slot_ne (a0 := a0) (t := .long) (t' := .long) (Or.inr (hw _ (List.mem_of_getElem? (i := 15) rfl))) (Or.inr (hw _ (List.mem_of_getElem? (i := 19) rfl))) (by decide) (by decide) (by decide)))
  exact go_ret0 X14 hx hlk hret (hb hby d1_26) (by decide) (by decide) (by rw [e14]; exact ⟨rfl, N14, (Keep.wr (Keep.wr (Keep.wr (Keep.wr (Keep.refl h0 [a]) W2 (Or.inl (by simp))) W5 (Or.inl (by simp))) W9 (Or.inl (by simp))) W14 (Or.inl (by simp))), c15, c18, c20⟩)
theorem d3_0 : decode prog_7_method_4_code 0 = .ok (.aload_n 0, 1) := by decide +kernel
theorem d3_1 : decode prog_7_method_4_code 1 = .ok (.getfield 7, 3) := by decide +kernel
theorem d3_4 : decode prog_7_method_4_code 4 = .ok (.lconst 0, 1) := by decide +kernel
theorem d3_5 : decode prog_7_method_4_code 5 = .ok (.lcmp, 1) := by decide +kernel
theorem d3_6 : decode prog_7_method_4_code 6 = .ok (.ifCond .ne 7, 3) := by decide +kernel
theorem d3_9 : decode prog_7_method_4_code 9 = .ok (.dconst 0, 1) := by decide +kernel
theorem d3_10 : decode prog_7_method_4_code 10 = .ok (.goto 14, 3) := by decide +kernel
theorem d3_13 : decode prog_7_method_4_code 13 = .ok (.aload_n 0, 1) := by decide +kernel
theorem d3_14 : decode prog_7_method_4_code 14 = .ok (.getfield 13, 3) := by decide +kernel
theorem d3_17 : decode prog_7_method_4_code 17 = .ok (.l2d, 1) := by decide +kernel
theorem d3_18 : decode prog_7_method_4_code 18 = .ok (.aload_n 0, 1) := by decide +kernel
theorem d3_19 : decode prog_7_method_4_code 19 = .ok (.getfield 7, 3) := by decide +kernel
theorem d3_22 : decode prog_7_method_4_code 22 = .ok (.l2d, 1) := by decide +kernel
theorem d3_23 : decode prog_7_method_4_code 23 = .ok (.ddiv, 1) := by decide +kernel
theorem d3_24 : decode prog_7_method_4_code 24 = .ok (.dreturn, 1) := by decide +kernel
theorem pn1 : plainFor (⟨"com/example/tourney/tourney/StepStats$Figures", "meanSteps", "()D"⟩ : MethodName) = true := by first | (refine plainFor_of_name ?_; simp [plainName, overriddenIn]; done) | (refine plainFor_of_name ?_; decide +kernel) | decide +kernel
def fMz  : UInt64 := (FP.dconst0)
theorem ef_mz (m : MethodId) (a : Addr) : entryFrame m #[(.ref a)] 1 = mkF m 0 #[.val (.ref a)] [] := by first | (simp [entryFrame, mkF, argsToLocals, Value.category]; done) | rfl
abbrev rm_mz : Room := ({ frames := 0, cells := 0, slots := 0, locals := 0 } : Room)
set_option maxRecDepth 65536 in
set_option maxHeartbeats 4000000 in
theorem met_mz (l : Launch) (Z : State) (a0 : Array Value) (hw : ∀ d ∈ tables_1, d.before a0 Z = true) (a : Addr) (h0 : Heap) (n0 : Nat) (Z0 : n0 ≤ h0.size) (P0 : Fld Z h0 a "com/example/tourney/tourney/StepStats$Figures" "operations" "J" (.long (0 : Int64))) :
    Met l (⟨"com/example/tourney/tourney/StepStats$Figures", "meanSteps", "()D"⟩ : MethodName) prog_7_method_4_code 1 (some FieldType.double) [] rm_mz Z #[(.ref a)] h0 (QV (some (.double (fMz ))) h0 n0) 0 0 := by
  refine own_body pn1 ?_
  intro p e s m below meth c s₁ ct X0 e0
  have ct0 := ct
  obtain ⟨hx, hZ, hown, hby, hml, hret, hlk, hnm⟩ := ct
  have N0 := Fr.nil n0
  refine castGo (ef_mz m a) ?_
  unfold fMz
  show Go p e below s _ _ _ s₁ (mkF m 0 #[.val (.ref a)] [])
  refine go_st (fun _ kq => XS.aloadN X0.here hx rfl (hb hby d3_0) rfl rfl kq) ?_
  show Go p e below s _ _ _ s₁ (mkF m 1 #[.val (.ref a)] [(.ref a)])
  refine go_getF X0 hx hZ hown (host := "") (Or.inl (hw _ (List.mem_of_getElem? (i := 12) rfl))) Via.refl e0 P0 (hb hby d3_1) rfl rfl ?_
  intro T21 X21 e21
  show Go p e below s _ _ _ T21 (mkF m 4 #[.val (.ref a)] [(.long (0 : Int64))])
  refine go_st (fun _ kq => XT.lconstV X21.here hx rfl (0 : Int64) (hb hby d3_4) (by decide) kq) ?_
  show Go p e below s _ _ _ T21 (mkF m 5 #[.val (.ref a)] [(.long (0 : Int64)), (.long (0 : Int64))])
  refine go_st (fun _ kq => XT.lcmp X21.here hx rfl (hb hby d3_5) rfl kq) ?_
  show Go p e below s _ _ _ T21 (mkF m 6 #[.val (.ref a)] [(.int (XT.cmpL (0 : Int64) (0 : Int64)))])
  refine go_st (fun _ kq => XS.ifNo X21.here hx rfl (hb hby d3_6) rfl (XT.ll_ne_f (by decide)) kq) ?_
  show Go p e below s _ _ _ T21 (mkF m 9 #[.val (.ref a)] [])
  refine go_st (fun _ kq => XS.dconst0 X21.here hx rfl (hb hby d3_9) rfl kq) ?_
  show Go p e below s _ _ _ T21 (mkF m 10 #[.val (.ref a)] [(.double (FP.dconst0))])
  refine go_st (fun _ kq => XS.goto X21.here hx rfl (pc0 := 10) (pc' := 24) rfl (hb hby d3_10) (by decide) (by decide) kq) ?_
  show Go p e below s _ _ _ T21 (mkF m 24 #[.val (.ref a)] [(.double (FP.dconst0))])
  exact go_retD X21 hx hlk hret (hb hby d3_24) (by decide) (by decide) ⟨rfl, N0, e21⟩
def fMn (ja : Int64) (jb : Int64) : UInt64 := (FP.ddiv (FP.l2d jb) (FP.l2d ja))
theorem ef_mn (m : MethodId) (a : Addr) (ja : Int64) (jb : Int64) (no : Nat) : entryFrame m #[(.ref a)] 1 = mkF m 0 #[.val (.ref a)] [] := by first | (simp [entryFrame, mkF, argsToLocals, Value.category]; done) | rfl
abbrev rm_mn : Room := ({ frames := 0, cells := 0, slots := 0, locals := 0 } : Room)
set_option maxRecDepth 65536 in
set_option maxHeartbeats 4000000 in
theorem met_mn (l : Launch) (Z : State) (a0 : Array Value) (hw : ∀ d ∈ tables_1, d.before a0 Z = true) (a : Addr) (ja : Int64) (jb : Int64) (no : Nat) (h0 : Heap) (n0 : Nat) (Z0 : n0 ≤ h0.size) (P0 : Fld Z h0 a "com/example/tourney/tourney/StepStats$Figures" "operations" "J" (.long ja)) (P1 : Fld Z h0 a "com/example/tourney/tourney/StepStats$Figures" "totalSteps" "J" (.long jb)) (P2 : ja.toInt = (no : Int)) (P3 : 0 < no) (P4 : no < 9007199254740992) (P5 : ¬ (ja = (0 : Int64))) :
    Met l (⟨"com/example/tourney/tourney/StepStats$Figures", "meanSteps", "()D"⟩ : MethodName) prog_7_method_4_code 1 (some FieldType.double) [] rm_mn Z #[(.ref a)] h0 (QV (some (.double (fMn ja jb))) h0 n0) 0 0 := by
  refine own_body pn1 ?_
  intro p e s m below meth c s₁ ct X0 e0
  have ct0 := ct
  obtain ⟨hx, hZ, hown, hby, hml, hret, hlk, hnm⟩ := ct
  have N0 := Fr.nil n0
  refine castGo (ef_mn m a ja jb no) ?_
  unfold fMn
  show Go p e below s _ _ _ s₁ (mkF m 0 #[.val (.ref a)] [])
  refine go_st (fun _ kq => XS.aloadN X0.here hx rfl (hb hby d3_0) rfl rfl kq) ?_
  show Go p e below s _ _ _ s₁ (mkF m 1 #[.val (.ref a)] [(.ref a)])
  refine go_getF X0 hx hZ hown (host := "") (Or.inl (hw _ (List.mem_of_getElem? (i := 12) rfl))) Via.refl e0 P0 (hb hby d3_1) rfl rfl ?_
  intro T22 X22 e22
  show Go p e below s _ _ _ T22 (mkF m 4 #[.val (.ref a)] [(.long ja)])
  refine go_st (fun _ kq => XT.lconstV X22.here hx rfl (0 : Int64) (hb hby d3_4) (by decide) kq) ?_
  show Go p e below s _ _ _ T22 (mkF m 5 #[.val (.ref a)] [(.long (0 : Int64)), (.long ja)])
  refine go_st (fun _ kq => XT.lcmp X22.here hx rfl (hb hby d3_5) rfl kq) ?_
  show Go p e below s _ _ _ T22 (mkF m 6 #[.val (.ref a)] [(.int (XT.cmpL ja (0 : Int64)))])
  refine go_st (fun _ kq => XS.ifYes X22.here hx rfl (pc0 := 6) (pc' := 13) rfl (hb hby d3_6) rfl (XT.ll_ne_t P5) (by decide) (by decide) kq) ?_
  show Go p e below s _ _ _ T22 (mkF m 13 #[.val (.ref a)] [])
  refine go_st (fun _ kq => XS.aloadN X22.here hx rfl (hb hby d3_13) rfl rfl kq) ?_
  show Go p e below s _ _ _ T22 (mkF m 14 #[.val (.ref a)] [(.ref a)])
  refine go_getF X22 hx hZ hown (host := "") (Or.inl (hw _ (List.mem_of_getElem? (i := 14) rfl))) Via.refl e22 P1 (hb hby d3_14) rfl rfl ?_
  intro T23 X23 e23
  show Go p e below s _ _ _ T23 (mkF m 17 #[.val (.ref a)] [(.long jb)])
  refine go_st (fun _ kq => XS.l2dS X23.here hx rfl (hb hby d3_17) rfl rfl kq) ?_
  show Go p e below s _ _ _ T23 (mkF m 18 #[.val (.ref a)] [(.double (FP.l2d jb))])
  refine go_st (fun _ kq => XS.aloadN X23.here hx rfl (hb hby d3_18) rfl rfl kq) ?_
  show Go p e below s _ _ _ T23 (mkF m 19 #[.val (.ref a)] [(.ref a), (.double (FP.l2d jb))])
  refine go_getF X23 hx hZ hown (host := "") (Or.inl (hw _ (List.mem_of_getElem? (i := 12) rfl))) Via.refl e23 P0 (hb hby d3_19) rfl rfl ?_
  intro T24 X24 e24
  show Go p e below s _ _ _ T24 (mkF m 22 #[.val (.ref a)] [(.long ja), (.double (FP.l2d jb))])
  refine go_st (fun _ kq => XS.l2dS X24.here hx rfl (hb hby d3_22) rfl rfl kq) ?_
  show Go p e below s _ _ _ T24 (mkF m 23 #[.val (.ref a)] [(.double (FP.l2d ja)), (.double (FP.l2d jb))])
  refine go_st (fun _ kq => XS.ddivS X24.here hx rfl (hb hby d3_23) rfl (own_nnm P2 P3 P4) rfl kq) ?_
  show Go p e below s _ _ _ T24 (mkF m 24 #[.val (.ref a)] [(.double (FP.ddiv (FP.l2d jb) (FP.l2d ja)))])
  exact go_retD X24 hx hlk hret (hb hby d3_24) (by decide) (by decide) ⟨rfl, N0, e24⟩
theorem pn2 : plainFor x = true := by first | (refine plainFor_of_name ?_; simp [plainName, overriddenIn]; done) | (refine plainFor_of_name ?_; decide +kernel) | decide +kernel
theorem pd0 : parseMethodDescriptor "(JJJJ)V" = some ⟨[.long, .long, .long, .long], none⟩ := by decide +kernel
theorem pd1 : parseMethodDescriptor "()D" = some ⟨[], (some .double)⟩ := by decide +kernel
theorem ef_law (m : MethodId) (x0 : Int64) (x1 : Int32) (x2 : Int32) (x3 : Int32) (x4 : Int32) (x5 : Int64) : entryFrame m #[(.long x0), (.int x1), (.int x2), (.int x3), (.int x4), (.long x5)] maxLocals = mkF m 0 #[.val (.long x0), .second, .val (.int x1), .val (.int x2), .val (.int x3), .val (.int x4), .val (.long x5), .second, .unset, .unset, .unset, .unset, .unset, .unset, .unset, .unset, .unset, .unset, .unset, .unset, .unset, .unset] [] := by first | (simp [entryFrame, mkF, argsToLocals, Value.category, maxLocals]; done) | rfl
set_option maxRecDepth 65536 in
set_option maxHeartbeats 4000000 in
theorem met_law (l : Launch) (Z : State) (a0 : Array Value) (hw : ∀ d ∈ tables_1, d.before a0 Z = true) (x0 : Int64) (x1 : Int32) (x2 : Int32) (x3 : Int32) (x4 : Int32) (x5 : Int64) (h0 : Heap) (n0 : Nat) (Z0 : n0 ≤ h0.size) :
    Met l x code maxLocals ret tables_1 room_1 Z #[(.long x0), (.int x1), (.int x2), (.int x3), (.int x4), (.long x5)] h0 (QF (some (.int (1 : Int32))) n0) 16 128 := by
  refine own_body pn2 ?_
  intro p e s m below meth c s₁ ct X0 e0
  have ct0 := ct
  obtain ⟨hx, hZ, hown, hby, hml, hret, hlk, hnm⟩ := ct
  have N0 := Fr.nil n0
  refine castGo (ef_law m x0 x1 x2 x3 x4 x5) ?_
  show Go p e below s _ _ _ s₁ (mkF m 0 #[.val (.long x0), .second, .val (.int x1), .val (.int x2), .val (.int x3), .val (.int x4), .val (.long x5), .second, .unset, .unset, .unset, .unset, .unset, .unset, .unset, .unset, .unset, .unset, .unset, .unset, .unset, .unset] [])
  refine go_st (fun _ kq => XS.iload X0.here hx rfl (hb hby at_0) rfl kq) ?_
  show Go p e below s _ _ _ s₁ (mkF m 2 #[.val (.long x0), .second, .val (.int x1), .val (.int x2), .val (.int x3), .val (.int x4), .val (.long x5), .second, .unset, .unset, .unset, .unset, .unset, .unset, .unset, .unset, .unset, .unset, .unset, .unset, .unset, .unset] [(.int x4)])
  refine go_st (fun _ kq => XT.iconstV X0.here hx rfl (3 : Int32) (hb hby at_2) (by decide) kq) ?_
  show Go p e below s _ _ _ s₁ (mkF m 3 #[.val (.long x0), .second, .val (.int x1), .val (.int x2), .val (.int x3), .val (.int x4), .val (.long x5), .second, .unset, .unset, .unset, .unset, .unset, .unset, .unset, .unset, .unset, .unset, .unset, .unset, .unset, .unset] [(.int (3 : Int32)), (.int x4)])
  refine go_st (fun _ kq => XS.iand X0.here hx rfl (hb hby at_3) rfl kq) ?_
  show Go p e below s _ _ _ s₁ (mkF m 4 #[.val (.long x0), .second, .val (.int x1), .val (.int x2), .val (.int x3), .val (.int x4), .val (.long x5), .second, .unset, .unset, .unset, .unset, .unset, .unset, .unset, .unset, .unset, .unset, .unset, .unset, .unset, .unset] [(.int (x4 &&& (3 : Int32)))])
  refine go_st (fun _ kq => XS.istore X0.here hx rfl (hb hby at_4) rfl (l' := #[.val (.long x0), .second, .val (.int x1), .val (.int x2), .val (.int x3), .val (.int x4), .val (.long x5), .second, .val (.int (x4 &&& (3 : Int32))), .unset, .unset, .unset, .unset, .unset, .unset, .unset, .unset, .unset, .unset, .unset, .unset, .unset]) rfl kq) ?_
  show Go p e below s _ _ _ s₁ (mkF m 6 #[.val (.long x0), .second, .val (.int x1), .val (.int x2), .val (.int x3), .val (.int x4), .val (.long x5), .second, .val (.int (x4 &&& (3 : Int32))), .unset, .unset, .unset, .unset, .unset, .unset, .unset, .unset, .unset, .unset, .unset, .unset, .unset] [])
  refine go_st (fun _ kq => XS.iload X0.here hx rfl (hb hby at_6) rfl kq) ?_
  show Go p e below s _ _ _ s₁ (mkF m 8 #[.val (.long x0), .second, .val (.int x1), .val (.int x2), .val (.int x3), .val (.int x4), .val (.long x5), .second, .val (.int (x4 &&& (3 : Int32))), .unset, .unset, .unset, .unset, .unset, .unset, .unset, .unset, .unset, .unset, .unset, .unset, .unset] [(.int (x4 &&& (3 : Int32)))])
  by_cases hc25 : (x4 &&& (3 : Int32)) = (0 : Int32)
  · refine go_st (fun _ kq => XS.ifNo X0.here hx rfl (hb hby at_8) rfl (XT.i0_ne_f hc25) kq) ?_
    show Go p e below s _ _ _ s₁ (mkF m 11 #[.val (.long x0), .second, .val (.int x1), .val (.int x2), .val (.int x3), .val (.int x4), .val (.long x5), .second, .val (.int (x4 &&& (3 : Int32))), .unset, .unset, .unset, .unset, .unset, .unset, .unset, .unset, .unset, .unset, .unset, .unset, .unset] [])
    refine go_newO X0 hx hZ hown (hw _ (List.mem_of_getElem? (i := 3) rfl)) (hw _ (List.mem_of_getElem? (i := 4) rfl)) (hw _ (List.mem_of_getElem? (i := 5) rfl)) e0 (hb hby at_11) rfl (by decide) (by decide) ?_
    intro T26 h26 a26 g26 X26 e26 E26 A26 D26
    have nw_a26 : n0 ≤ a26 := Nat.le_trans Z0 (Nat.le_of_eq g26.symm)
    have lt_a26 : a26 < h26.size := A26.lt
    have F27 : Fld Z h26 a26 "com/example/tourney/tourney/StepStats$Figures" "operations" "J" (.long (0 : Int64)) := D26 (Or.inr (hw _ (List.mem_of_getElem? (i := 13) rfl))) (ty := .long) (by decide)
    have F28 : Fld Z h26 a26 "com/example/tourney/tourney/StepStats$Figures" "totalSteps" "J" (.long (0 : Int64)) := D26 (Or.inr (hw _ (List.mem_of_getElem? (i := 15) rfl))) (ty := .long) (by decide)
    have F29 : Fld Z h26 a26 "com/example/tourney/tourney/StepStats$Figures" "largestSteps" "J" (.long (0 : Int64)) := D26 (Or.inr (hw _ (List.mem_of_getElem? (i := 17) rfl))) (ty := .long) (by decide)
    have F30 : Fld Z h26 a26 "com/example/tourney/tourney/StepStats$Figures" "largestCompareAndSwaps" "J" (.long (0 : Int64)) := D26 (Or.inr (hw _ (List.mem_of_getElem? (i := 19) rfl))) (ty := .long) (by decide)
    show Go p e below s _ _ _ T26 (mkF m 14 #[.val (.long x0), .second, .val (.int x1), .val (.int x2), .val (.int x3), .val (.int x4), .val (.long x5), .second, .val (.int (x4 &&& (3 : Int32))), .unset, .unset, .unset, .unset, .unset, .unset, .unset, .unset, .unset, .unset, .unset, .unset, .unset] [(.ref a26)])
    refine go_st (fun _ kq => XS.dup X26.here hx rfl (hb hby at_14) rfl rfl kq) ?_
    show Go p e below s _ _ _ T26 (mkF m 15 #[.val (.long x0), .second, .val (.int x1), .val (.int x2), .val (.int x3), .val (.int x4), .val (.long x5), .second, .val (.int (x4 &&& (3 : Int32))), .unset, .unset, .unset, .unset, .unset, .unset, .unset, .unset, .unset, .unset, .unset, .unset, .unset] [(.ref a26), (.ref a26)])
    refine go_st (fun _ kq => XT.lconstV X26.here hx rfl (0 : Int64) (hb hby at_15) (by decide) kq) ?_
    show Go p e below s _ _ _ T26 (mkF m 16 #[.val (.long x0), .second, .val (.int x1), .val (.int x2), .val (.int x3), .val (.int x4), .val (.long x5), .second, .val (.int (x4 &&& (3 : Int32))), .unset, .unset, .unset, .unset, .unset, .unset, .unset, .unset, .unset, .unset, .unset, .unset, .unset] [(.long (0 : Int64)), (.ref a26), (.ref a26)])
    refine go_st (fun _ kq => XT.lloadN X26.here hx rfl (hb hby at_16) rfl kq) ?_
    show Go p e below s _ _ _ T26 (mkF m 17 #[.val (.long x0), .second, .val (.int x1), .val (.int x2), .val (.int x3), .val (.int x4), .val (.long x5), .second, .val (.int (x4 &&& (3 : Int32))), .unset, .unset, .unset, .unset, .unset, .unset, .unset, .unset, .unset, .unset, .unset, .unset, .unset] [(.long x0), (.long (0 : Int64)), (.ref a26), (.ref a26)])
    refine go_st (fun _ kq => XT.lload X26.here hx rfl (hb hby at_17) rfl kq) ?_
    show Go p e below s _ _ _ T26 (mkF m 19 #[.val (.long x0), .second, .val (.int x1), .val (.int x2), .val (.int x3), .val (.int x4), .val (.long x5), .second, .val (.int (x4 &&& (3 : Int32))), .unset, .unset, .unset, .unset, .unset, .unset, .unset, .unset, .unset, .unset, .unset, .unset, .unset] [(.long x5), (.long x0), (.long (0 : Int64)), (.ref a26), (.ref a26)])
    refine go_st (fun _ kq => XT.lloadN X26.here hx rfl (hb hby at_19) rfl kq) ?_
    show Go p e below s _ _ _ T26 (mkF m 20 #[.val (.long x0), .second, .val (.int x1), .val (.int x2), .val (.int x3), .val (.int x4), .val (.long x5), .second, .val (.int (x4 &&& (3 : Int32))), .unset, .unset, .unset, .unset, .unset, .unset, .unset, .unset, .unset, .unset, .unset, .unset, .unset] [(.long x0), (.long x5), (.long x0), (.long (0 : Int64)), (.ref a26), (.ref a26)])
    refine go_st (fun _ kq => XT.lload X26.here hx rfl (hb hby at_20) rfl kq) ?_
    show Go p e below s _ _ _ T26 (mkF m 22 #[.val (.long x0), .second, .val (.int x1), .val (.int x2), .val (.int x3), .val (.int x4), .val (.long x5), .second, .val (.int (x4 &&& (3 : Int32))), .unset, .unset, .unset, .unset, .unset, .unset, .unset, .unset, .unset, .unset, .unset, .unset, .unset] [(.long x5), (.long x0), (.long x5), (.long x0), (.long (0 : Int64)), (.ref a26), (.ref a26)])
    refine go_st (fun _ kq => XT.lxor X26.here hx rfl (hb hby at_22) rfl kq) ?_
    show Go p e below s _ _ _ T26 (mkF m 23 #[.val (.long x0), .second, .val (.int x1), .val (.int x2), .val (.int x3), .val (.int x4), .val (.long x5), .second, .val (.int (x4 &&& (3 : Int32))), .unset, .unset, .unset, .unset, .unset, .unset, .unset, .unset, .unset, .unset, .unset, .unset, .unset] [(.long (x0 ^^^ x5)), (.long x5), (.long x0), (.long (0 : Int64)), (.ref a26), (.ref a26)])
    have z32 : n0 ≤ h26.size := Nat.le_trans Z0 E26.1
    refine go_callI X26 hx hZ hml hown rfl (hw _ (List.mem_of_getElem? (i := 6) rfl)) (hw _ (List.mem_of_getElem? (i := 7) rfl)) (hw _ (List.mem_of_getElem? (i := 8) rfl)) (hw _ (List.mem_of_getElem? (i := 5) rfl)) e26 (argsL := [(.long (0 : Int64)), (.long x0), (.long x5), (.long (x0 ^^^ x5))]) (rest := [(.ref a26)]) (W := 1) (met_ini l Z a0 hw a26 (0 : Int64) x0 x5 (x0 ^^^ x5) h26 n0 z32 A26 nw_a26 F27 F28 F29 F30) (hb hby at_23) rfl rfl rfl (lenOf pd0 rfl) (by show 2 * 0 + _ ≤ _; exact Nat.le_of_eq rfl) (by decide) (by decide) (by decide) (by decide) (by decide) ?_
    intro T31 v31 L31 X31 q31
    obtain ⟨rfl, M31, K31, f31_0, f31_1, f31_2⟩ := q31
    have N31 := Fr.app N0 M31
    show Go p e below s _ _ _ T31 (mkF m 26 #[.val (.long x0), .second, .val (.int x1), .val (.int x2), .val (.int x3), .val (.int x4), .val (.long x5), .second, .val (.int (x4 &&& (3 : Int32))), .unset, .unset, .unset, .unset, .unset, .unset, .unset, .unset, .unset, .unset, .unset, .unset, .unset] [(.ref a26)])
    refine go_st (fun _ kq => XS.astore X31.here hx rfl (hb hby at_26) rfl rfl (l' := #[.val (.long x0), .second, .val (.int x1), .val (.int x2), .val (.int x3), .val (.int x4), .val (.long x5), .second, .val (.int (x4 &&& (3 : Int32))), .val (.ref a26), .unset, .unset, .unset, .unset, .unset, .unset, .unset, .unset, .unset, .unset, .unset, .unset]) rfl kq) ?_
    show Go p e below s _ _ _ T31 (mkF m 28 #[.val (.long x0), .second, .val (.int x1), .val (.int x2), .val (.int x3), .val (.int x4), .val (.long x5), .second, .val (.int (x4 &&& (3 : Int32))), .val (.ref a26), .unset, .unset, .unset, .unset, .unset, .unset, .unset, .unset, .unset, .unset, .unset, .unset] [])
    refine go_st (fun _ kq => XS.aload X31.here hx rfl (hb hby at_28) rfl rfl kq) ?_
    show Go p e below s _ _ _ T31 (mkF m 30 #[.val (.long x0), .second, .val (.int x1), .val (.int x2), .val (.int x3), .val (.int x4), .val (.long x5), .second, .val (.int (x4 &&& (3 : Int32))), .val (.ref a26), .unset, .unset, .unset, .unset, .unset, .unset, .unset, .unset, .unset, .unset, .unset, .unset] [(.ref a26)])
    have z34 : n0 ≤ T31.heap.size := Nat.le_trans z32 K31.1
    refine go_callV X31 hx hZ hml hown (hw _ (List.mem_of_getElem? (i := 20) rfl)) (hw _ (List.mem_of_getElem? (i := 21) rfl)) (notFace_of_selects (args := #[]) (mvT hZ (hw _ (List.mem_of_getElem? (i := 23) rfl)))) (hw _ (List.mem_of_getElem? (i := 23) rfl)) (hw _ (List.mem_of_getElem? (i := 22) rfl)) (hw _ (List.mem_of_getElem? (i := 24) rfl)) (hw _ (List.mem_of_getElem? (i := 5) rfl)) rfl f31_0 (argsL := []) (rest := []) (W := 0) (met_mz l Z a0 hw a26 T31.heap n0 z34 f31_1) (hb hby at_30) rfl rfl rfl (lenOf pd1 rfl) (by show 2 * 0 + _ ≤ _; exact Nat.le_of_eq rfl) (by decide) (by decide) (by decide) (by decide) (by decide) ?_
    intro T33 v33 L33 X33 q33
    obtain ⟨rfl, M33, e33⟩ := q33
    have N33 := Fr.app N31 M33
    show Go p e below s _ _ _ T33 (mkF m 33 #[.val (.long x0), .second, .val (.int x1), .val (.int x2), .val (.int x3), .val (.int x4), .val (.long x5), .second, .val (.int (x4 &&& (3 : Int32))), .val (.ref a26), .unset, .unset, .unset, .unset, .unset, .unset, .unset, .unset, .unset, .unset, .unset, .unset] [(.double (FP.dconst0))])
    refine go_st (fun _ kq => XS.dconst0 X33.here hx rfl (hb hby at_33) rfl kq) ?_
    show Go p e below s _ _ _ T33 (mkF m 34 #[.val (.long x0), .second, .val (.int x1), .val (.int x2), .val (.int x3), .val (.int x4), .val (.long x5), .second, .val (.int (x4 &&& (3 : Int32))), .val (.ref a26), .unset, .unset, .unset, .unset, .unset, .unset, .unset, .unset, .unset, .unset, .unset, .unset] [(.double (FP.dconst0)), (.double (FP.dconst0))])
    refine go_st (fun _ kq => XS.dcmpS X33.here hx rfl (hb hby at_34) rfl rfl kq) ?_
    show Go p e below s _ _ _ T33 (mkF m 35 #[.val (.long x0), .second, .val (.int x1), .val (.int x2), .val (.int x3), .val (.int x4), .val (.long x5), .second, .val (.int (x4 &&& (3 : Int32))), .val (.ref a26), .unset, .unset, .unset, .unset, .unset, .unset, .unset, .unset, .unset, .unset, .unset, .unset] [(.int (cmpValue (FP.dcmp (FP.dconst0) (FP.dconst0)) .l))])
    have hb35 : (cmpValue (FP.dcmp (FP.dconst0) (FP.dconst0)) .l) = (0 : Int32) := by decide +kernel
    refine go_st (fun _ kq => XS.ifNo X33.here hx rfl (hb hby at_35) rfl (XT.i0_ne_f hb35) kq) ?_
    show Go p e below s _ _ _ T33 (mkF m 38 #[.val (.long x0), .second, .val (.int x1), .val (.int x2), .val (.int x3), .val (.int x4), .val (.long x5), .second, .val (.int (x4 &&& (3 : Int32))), .val (.ref a26), .unset, .unset, .unset, .unset, .unset, .unset, .unset, .unset, .unset, .unset, .unset, .unset] [])
    refine go_st (fun _ kq => XT.iconstV X33.here hx rfl (1 : Int32) (hb hby at_38) (by decide) kq) ?_
    show Go p e below s _ _ _ T33 (mkF m 39 #[.val (.long x0), .second, .val (.int x1), .val (.int x2), .val (.int x3), .val (.int x4), .val (.long x5), .second, .val (.int (x4 &&& (3 : Int32))), .val (.ref a26), .unset, .unset, .unset, .unset, .unset, .unset, .unset, .unset, .unset, .unset, .unset, .unset] [(.int (1 : Int32))])
    refine go_st (fun _ kq => XS.goto X33.here hx rfl (pc0 := 39) (pc' := 43) rfl (hb hby at_39) (by decide) (by decide) kq) ?_
    show Go p e below s _ _ _ T33 (mkF m 43 #[.val (.long x0), .second, .val (.int x1), .val (.int x2), .val (.int x3), .val (.int x4), .val (.long x5), .second, .val (.int (x4 &&& (3 : Int32))), .val (.ref a26), .unset, .unset, .unset, .unset, .unset, .unset, .unset, .unset, .unset, .unset, .unset, .unset] [(.int (1 : Int32))])
    exact go_retB (w := (1 : Int32)) X33 hx hlk hret (hb hby at_43) (by decide) (by decide) (by decide) ⟨rfl, N33⟩
  · refine go_st (fun _ kq => XS.ifYes X0.here hx rfl (pc0 := 8) (pc' := 44) rfl (hb hby at_8) rfl (XT.i0_ne_t hc25) (by decide) (by decide) kq) ?_
    show Go p e below s _ _ _ s₁ (mkF m 44 #[.val (.long x0), .second, .val (.int x1), .val (.int x2), .val (.int x3), .val (.int x4), .val (.long x5), .second, .val (.int (x4 &&& (3 : Int32))), .unset, .unset, .unset, .unset, .unset, .unset, .unset, .unset, .unset, .unset, .unset, .unset, .unset] [])
    refine go_st (fun _ kq => XS.iload X0.here hx rfl (hb hby at_44) rfl kq) ?_
    show Go p e below s _ _ _ s₁ (mkF m 46 #[.val (.long x0), .second, .val (.int x1), .val (.int x2), .val (.int x3), .val (.int x4), .val (.long x5), .second, .val (.int (x4 &&& (3 : Int32))), .unset, .unset, .unset, .unset, .unset, .unset, .unset, .unset, .unset, .unset, .unset, .unset, .unset] [(.int (x4 &&& (3 : Int32)))])
    refine go_st (fun _ kq => XT.iconstV X0.here hx rfl (1 : Int32) (hb hby at_46) (by decide) kq) ?_
    show Go p e below s _ _ _ s₁ (mkF m 47 #[.val (.long x0), .second, .val (.int x1), .val (.int x2), .val (.int x3), .val (.int x4), .val (.long x5), .second, .val (.int (x4 &&& (3 : Int32))), .unset, .unset, .unset, .unset, .unset, .unset, .unset, .unset, .unset, .unset, .unset, .unset, .unset] [(.int (1 : Int32)), (.int (x4 &&& (3 : Int32)))])
    by_cases hc36 : (x4 &&& (3 : Int32)) = (1 : Int32)
    · refine go_st (fun _ kq => XS.icmpNo X0.here hx rfl (hb hby at_47) rfl (XT.ii_ne_f hc36) kq) ?_
      show Go p e below s _ _ _ s₁ (mkF m 50 #[.val (.long x0), .second, .val (.int x1), .val (.int x2), .val (.int x3), .val (.int x4), .val (.long x5), .second, .val (.int (x4 &&& (3 : Int32))), .unset, .unset, .unset, .unset, .unset, .unset, .unset, .unset, .unset, .unset, .unset, .unset, .unset] [])
      refine go_newO X0 hx hZ hown (hw _ (List.mem_of_getElem? (i := 3) rfl)) (hw _ (List.mem_of_getElem? (i := 4) rfl)) (hw _ (List.mem_of_getElem? (i := 5) rfl)) e0 (hb hby at_50) rfl (by decide) (by decide) ?_
      intro T37 h37 a37 g37 X37 e37 E37 A37 D37
      have nw_a37 : n0 ≤ a37 := Nat.le_trans Z0 (Nat.le_of_eq g37.symm)
      have lt_a37 : a37 < h37.size := A37.lt
      have F38 : Fld Z h37 a37 "com/example/tourney/tourney/StepStats$Figures" "operations" "J" (.long (0 : Int64)) := D37 (Or.inr (hw _ (List.mem_of_getElem? (i := 13) rfl))) (ty := .long) (by decide)
      have F39 : Fld Z h37 a37 "com/example/tourney/tourney/StepStats$Figures" "totalSteps" "J" (.long (0 : Int64)) := D37 (Or.inr (hw _ (List.mem_of_getElem? (i := 15) rfl))) (ty := .long) (by decide)
      have F40 : Fld Z h37 a37 "com/example/tourney/tourney/StepStats$Figures" "largestSteps" "J" (.long (0 : Int64)) := D37 (Or.inr (hw _ (List.mem_of_getElem? (i := 17) rfl))) (ty := .long) (by decide)
      have F41 : Fld Z h37 a37 "com/example/tourney/tourney/StepStats$Figures" "largestCompareAndSwaps" "J" (.long (0 : Int64)) := D37 (Or.inr (hw _ (List.mem_of_getElem? (i := 19) rfl))) (ty := .long) (by decide)
      show Go p e below s _ _ _ T37 (mkF m 53 #[.val (.long x0), .second, .val (.int x1), .val (.int x2), .val (.int x3), .val (.int x4), .val (.long x5), .second, .val (.int (x4 &&& (3 : Int32))), .unset, .unset, .unset, .unset, .unset, .unset, .unset, .unset, .unset, .unset, .unset, .unset, .unset] [(.ref a37)])
      refine go_st (fun _ kq => XS.dup X37.here hx rfl (hb hby at_53) rfl rfl kq) ?_
      show Go p e below s _ _ _ T37 (mkF m 54 #[.val (.long x0), .second, .val (.int x1), .val (.int x2), .val (.int x3), .val (.int x4), .val (.long x5), .second, .val (.int (x4 &&& (3 : Int32))), .unset, .unset, .unset, .unset, .unset, .unset, .unset, .unset, .unset, .unset, .unset, .unset, .unset] [(.ref a37), (.ref a37)])
      refine go_st (fun _ kq => XT.lconstV X37.here hx rfl (1 : Int64) (hb hby at_54) (by decide) kq) ?_
      show Go p e below s _ _ _ T37 (mkF m 55 #[.val (.long x0), .second, .val (.int x1), .val (.int x2), .val (.int x3), .val (.int x4), .val (.long x5), .second, .val (.int (x4 &&& (3 : Int32))), .unset, .unset, .unset, .unset, .unset, .unset, .unset, .unset, .unset, .unset, .unset, .unset, .unset] [(.long (1 : Int64)), (.ref a37), (.ref a37)])
      refine go_st (fun _ kq => XT.lloadN X37.here hx rfl (hb hby at_55) rfl kq) ?_
      show Go p e below s _ _ _ T37 (mkF m 56 #[.val (.long x0), .second, .val (.int x1), .val (.int x2), .val (.int x3), .val (.int x4), .val (.long x5), .second, .val (.int (x4 &&& (3 : Int32))), .unset, .unset, .unset, .unset, .unset, .unset, .unset, .unset, .unset, .unset, .unset, .unset, .unset] [(.long x0), (.long (1 : Int64)), (.ref a37), (.ref a37)])
      refine go_st (fun _ kq => XT.lload X37.here hx rfl (hb hby at_56) rfl kq) ?_
      show Go p e below s _ _ _ T37 (mkF m 58 #[.val (.long x0), .second, .val (.int x1), .val (.int x2), .val (.int x3), .val (.int x4), .val (.long x5), .second, .val (.int (x4 &&& (3 : Int32))), .unset, .unset, .unset, .unset, .unset, .unset, .unset, .unset, .unset, .unset, .unset, .unset, .unset] [(.long x5), (.long x0), (.long (1 : Int64)), (.ref a37), (.ref a37)])
      refine go_st (fun _ kq => XT.lloadN X37.here hx rfl (hb hby at_58) rfl kq) ?_
      show Go p e below s _ _ _ T37 (mkF m 59 #[.val (.long x0), .second, .val (.int x1), .val (.int x2), .val (.int x3), .val (.int x4), .val (.long x5), .second, .val (.int (x4 &&& (3 : Int32))), .unset, .unset, .unset, .unset, .unset, .unset, .unset, .unset, .unset, .unset, .unset, .unset, .unset] [(.long x0), (.long x5), (.long x0), (.long (1 : Int64)), (.ref a37), (.ref a37)])
      refine go_st (fun _ kq => XT.lload X37.here hx rfl (hb hby at_59) rfl kq) ?_
      show Go p e below s _ _ _ T37 (mkF m 61 #[.val (.long x0), .second, .val (.int x1), .val (.int x2), .val (.int x3), .val (.int x4), .val (.long x5), .second, .val (.int (x4 &&& (3 : Int32))), .unset, .unset, .unset, .unset, .unset, .unset, .unset, .unset, .unset, .unset, .unset, .unset, .unset] [(.long x5), (.long x0), (.long x5), (.long x0), (.long (1 : Int64)), (.ref a37), (.ref a37)])
      refine go_st (fun _ kq => XT.lxor X37.here hx rfl (hb hby at_61) rfl kq) ?_
      show Go p e below s _ _ _ T37 (mkF m 62 #[.val (.long x0), .second, .val (.int x1), .val (.int x2), .val (.int x3), .val (.int x4), .val (.long x5), .second, .val (.int (x4 &&& (3 : Int32))), .unset, .unset, .unset, .unset, .unset, .unset, .unset, .unset, .unset, .unset, .unset, .unset, .unset] [(.long (x0 ^^^ x5)), (.long x5), (.long x0), (.long (1 : Int64)), (.ref a37), (.ref a37)])
      have z43 : n0 ≤ h37.size := Nat.le_trans Z0 E37.1
      refine go_callI X37 hx hZ hml hown rfl (hw _ (List.mem_of_getElem? (i := 6) rfl)) (hw _ (List.mem_of_getElem? (i := 7) rfl)) (hw _ (List.mem_of_getElem? (i := 8) rfl)) (hw _ (List.mem_of_getElem? (i := 5) rfl)) e37 (argsL := [(.long (1 : Int64)), (.long x0), (.long x5), (.long (x0 ^^^ x5))]) (rest := [(.ref a37)]) (W := 1) (met_ini l Z a0 hw a37 (1 : Int64) x0 x5 (x0 ^^^ x5) h37 n0 z43 A37 nw_a37 F38 F39 F40 F41) (hb hby at_62) rfl rfl rfl (lenOf pd0 rfl) (by show 2 * 0 + _ ≤ _; exact Nat.le_of_eq rfl) (by decide) (by decide) (by decide) (by decide) (by decide) ?_
      intro T42 v42 L42 X42 q42
      obtain ⟨rfl, M42, K42, f42_0, f42_1, f42_2⟩ := q42
      have N42 := Fr.app N0 M42
      show Go p e below s _ _ _ T42 (mkF m 65 #[.val (.long x0), .second, .val (.int x1), .val (.int x2), .val (.int x3), .val (.int x4), .val (.long x5), .second, .val (.int (x4 &&& (3 : Int32))), .unset, .unset, .unset, .unset, .unset, .unset, .unset, .unset, .unset, .unset, .unset, .unset, .unset] [(.ref a37)])
      refine go_st (fun _ kq => XS.astore X42.here hx rfl (hb hby at_65) rfl rfl (l' := #[.val (.long x0), .second, .val (.int x1), .val (.int x2), .val (.int x3), .val (.int x4), .val (.long x5), .second, .val (.int (x4 &&& (3 : Int32))), .val (.ref a37), .unset, .unset, .unset, .unset, .unset, .unset, .unset, .unset, .unset, .unset, .unset, .unset]) rfl kq) ?_
      show Go p e below s _ _ _ T42 (mkF m 67 #[.val (.long x0), .second, .val (.int x1), .val (.int x2), .val (.int x3), .val (.int x4), .val (.long x5), .second, .val (.int (x4 &&& (3 : Int32))), .val (.ref a37), .unset, .unset, .unset, .unset, .unset, .unset, .unset, .unset, .unset, .unset, .unset, .unset] [])
      refine go_st (fun _ kq => XS.aload X42.here hx rfl (hb hby at_67) rfl rfl kq) ?_
      show Go p e below s _ _ _ T42 (mkF m 69 #[.val (.long x0), .second, .val (.int x1), .val (.int x2), .val (.int x3), .val (.int x4), .val (.long x5), .second, .val (.int (x4 &&& (3 : Int32))), .val (.ref a37), .unset, .unset, .unset, .unset, .unset, .unset, .unset, .unset, .unset, .unset, .unset, .unset] [(.ref a37)])
      have z45 : n0 ≤ T42.heap.size := Nat.le_trans z43 K42.1
      refine go_callV X42 hx hZ hml hown (hw _ (List.mem_of_getElem? (i := 20) rfl)) (hw _ (List.mem_of_getElem? (i := 21) rfl)) (notFace_of_selects (args := #[]) (mvT hZ (hw _ (List.mem_of_getElem? (i := 23) rfl)))) (hw _ (List.mem_of_getElem? (i := 23) rfl)) (hw _ (List.mem_of_getElem? (i := 22) rfl)) (hw _ (List.mem_of_getElem? (i := 24) rfl)) (hw _ (List.mem_of_getElem? (i := 5) rfl)) rfl f42_0 (argsL := []) (rest := []) (W := 0) (met_mn l Z a0 hw a37 (1 : Int64) x0 1 T42.heap n0 z45 f42_1 f42_2 (by decide) (by omega) (by omega) (by decide)) (hb hby at_69) rfl rfl rfl (lenOf pd1 rfl) (by show 2 * 0 + _ ≤ _; exact Nat.le_of_eq rfl) (by decide) (by decide) (by decide) (by decide) (by decide) ?_
      intro T44 v44 L44 X44 q44
      obtain ⟨rfl, M44, e44⟩ := q44
      have N44 := Fr.app N42 M44
      show Go p e below s _ _ _ T44 (mkF m 72 #[.val (.long x0), .second, .val (.int x1), .val (.int x2), .val (.int x3), .val (.int x4), .val (.long x5), .second, .val (.int (x4 &&& (3 : Int32))), .val (.ref a37), .unset, .unset, .unset, .unset, .unset, .unset, .unset, .unset, .unset, .unset, .unset, .unset] [(.double (FP.ddiv (FP.l2d x0) (FP.l2d (1 : Int64))))])
      refine go_st (fun _ kq => XT.lloadN X44.here hx rfl (hb hby at_72) rfl kq) ?_
      show Go p e below s _ _ _ T44 (mkF m 73 #[.val (.long x0), .second, .val (.int x1), .val (.int x2), .val (.int x3), .val (.int x4), .val (.long x5), .second, .val (.int (x4 &&& (3 : Int32))), .val (.ref a37), .unset, .unset, .unset, .unset, .unset, .unset, .unset, .unset, .unset, .unset, .unset, .unset] [(.long x0), (.double (FP.ddiv (FP.l2d x0) (FP.l2d (1 : Int64))))])
      refine go_st (fun _ kq => XS.l2dS X44.here hx rfl (hb hby at_73) rfl rfl kq) ?_
      show Go p e below s _ _ _ T44 (mkF m 74 #[.val (.long x0), .second, .val (.int x1), .val (.int x2), .val (.int x3), .val (.int x4), .val (.long x5), .second, .val (.int (x4 &&& (3 : Int32))), .val (.ref a37), .unset, .unset, .unset, .unset, .unset, .unset, .unset, .unset, .unset, .unset, .unset, .unset] [(.double (FP.l2d x0)), (.double (FP.ddiv (FP.l2d x0) (FP.l2d (1 : Int64))))])
      refine go_st (fun _ kq => XS.dcmpS X44.here hx rfl (hb hby at_74) rfl rfl kq) ?_
      show Go p e below s _ _ _ T44 (mkF m 75 #[.val (.long x0), .second, .val (.int x1), .val (.int x2), .val (.int x3), .val (.int x4), .val (.long x5), .second, .val (.int (x4 &&& (3 : Int32))), .val (.ref a37), .unset, .unset, .unset, .unset, .unset, .unset, .unset, .unset, .unset, .unset, .unset, .unset] [(.int (cmpValue (FP.dcmp (FP.ddiv (FP.l2d x0) (FP.l2d (1 : Int64))) (FP.l2d x0)) .l))])
      have hb46 : (cmpValue (FP.dcmp (FP.ddiv (FP.l2d x0) (FP.l2d (1 : Int64))) (FP.l2d x0)) .l) = (0 : Int32) := by rw [show FP.dcmp (FP.ddiv (FP.l2d x0) (FP.l2d (1 : Int64))) (FP.l2d x0) = some .eq from own_q1 x0]; rfl
      refine go_st (fun _ kq => XS.ifNo X44.here hx rfl (hb hby at_75) rfl (XT.i0_ne_f hb46) kq) ?_
      show Go p e below s _ _ _ T44 (mkF m 78 #[.val (.long x0), .second, .val (.int x1), .val (.int x2), .val (.int x3), .val (.int x4), .val (.long x5), .second, .val (.int (x4 &&& (3 : Int32))), .val (.ref a37), .unset, .unset, .unset, .unset, .unset, .unset, .unset, .unset, .unset, .unset, .unset, .unset] [])
      refine go_st (fun _ kq => XT.iconstV X44.here hx rfl (1 : Int32) (hb hby at_78) (by decide) kq) ?_
      show Go p e below s _ _ _ T44 (mkF m 79 #[.val (.long x0), .second, .val (.int x1), .val (.int x2), .val (.int x3), .val (.int x4), .val (.long x5), .second, .val (.int (x4 &&& (3 : Int32))), .val (.ref a37), .unset, .unset, .unset, .unset, .unset, .unset, .unset, .unset, .unset, .unset, .unset, .unset] [(.int (1 : Int32))])
      refine go_st (fun _ kq => XS.goto X44.here hx rfl (pc0 := 79) (pc' := 83) rfl (hb hby at_79) (by decide) (by decide) kq) ?_
      show Go p e below s _ _ _ T44 (mkF m 83 #[.val (.long x0), .second, .val (.int x1), .val (.int x2), .val (.int x3), .val (.int x4), .val (.long x5), .second, .val (.int (x4 &&& (3 : Int32))), .val (.ref a37), .unset, .unset, .unset, .unset, .unset, .unset, .unset, .unset, .unset, .unset, .unset, .unset] [(.int (1 : Int32))])
      exact go_retB (w := (1 : Int32)) X44 hx hlk hret (hb hby at_83) (by decide) (by decide) (by decide) ⟨rfl, N44⟩
    · refine go_st (fun _ kq => XS.icmpYes X0.here hx rfl (pc0 := 47) (pc' := 84) rfl (hb hby at_47) rfl (XT.ii_ne_t hc36) (by decide) (by decide) kq) ?_
      show Go p e below s _ _ _ s₁ (mkF m 84 #[.val (.long x0), .second, .val (.int x1), .val (.int x2), .val (.int x3), .val (.int x4), .val (.long x5), .second, .val (.int (x4 &&& (3 : Int32))), .unset, .unset, .unset, .unset, .unset, .unset, .unset, .unset, .unset, .unset, .unset, .unset, .unset] [])
      refine go_st (fun _ kq => XS.iload X0.here hx rfl (hb hby at_84) rfl kq) ?_
      show Go p e below s _ _ _ s₁ (mkF m 86 #[.val (.long x0), .second, .val (.int x1), .val (.int x2), .val (.int x3), .val (.int x4), .val (.long x5), .second, .val (.int (x4 &&& (3 : Int32))), .unset, .unset, .unset, .unset, .unset, .unset, .unset, .unset, .unset, .unset, .unset, .unset, .unset] [(.int (x4 &&& (3 : Int32)))])
      refine go_st (fun _ kq => XT.iconstV X0.here hx rfl (2 : Int32) (hb hby at_86) (by decide) kq) ?_
      show Go p e below s _ _ _ s₁ (mkF m 87 #[.val (.long x0), .second, .val (.int x1), .val (.int x2), .val (.int x3), .val (.int x4), .val (.long x5), .second, .val (.int (x4 &&& (3 : Int32))), .unset, .unset, .unset, .unset, .unset, .unset, .unset, .unset, .unset, .unset, .unset, .unset, .unset] [(.int (2 : Int32)), (.int (x4 &&& (3 : Int32)))])
      by_cases hc47 : (x4 &&& (3 : Int32)) = (2 : Int32)
      · refine go_st (fun _ kq => XS.icmpNo X0.here hx rfl (hb hby at_87) rfl (XT.ii_ne_f hc47) kq) ?_
        show Go p e below s _ _ _ s₁ (mkF m 90 #[.val (.long x0), .second, .val (.int x1), .val (.int x2), .val (.int x3), .val (.int x4), .val (.long x5), .second, .val (.int (x4 &&& (3 : Int32))), .unset, .unset, .unset, .unset, .unset, .unset, .unset, .unset, .unset, .unset, .unset, .unset, .unset] [])
        refine go_st (fun _ kq => XS.iloadN X0.here hx rfl (hb hby at_90) rfl kq) ?_
        show Go p e below s _ _ _ s₁ (mkF m 91 #[.val (.long x0), .second, .val (.int x1), .val (.int x2), .val (.int x3), .val (.int x4), .val (.long x5), .second, .val (.int (x4 &&& (3 : Int32))), .unset, .unset, .unset, .unset, .unset, .unset, .unset, .unset, .unset, .unset, .unset, .unset, .unset] [(.int x2)])
        refine go_st (fun _ kq => Jvm.Stand.ldcI X0 hx hown (mvT hZ (hw _ (List.mem_of_getElem? (i := 0) rfl))) rfl (hb hby at_91) kq) ?_
        show Go p e below s _ _ _ s₁ (mkF m 93 #[.val (.long x0), .second, .val (.int x1), .val (.int x2), .val (.int x3), .val (.int x4), .val (.long x5), .second, .val (.int (x4 &&& (3 : Int32))), .unset, .unset, .unset, .unset, .unset, .unset, .unset, .unset, .unset, .unset, .unset, .unset, .unset] [(.int (65535 : Int32)), (.int x2)])
        refine go_st (fun _ kq => XS.iand X0.here hx rfl (hb hby at_93) rfl kq) ?_
        show Go p e below s _ _ _ s₁ (mkF m 94 #[.val (.long x0), .second, .val (.int x1), .val (.int x2), .val (.int x3), .val (.int x4), .val (.long x5), .second, .val (.int (x4 &&& (3 : Int32))), .unset, .unset, .unset, .unset, .unset, .unset, .unset, .unset, .unset, .unset, .unset, .unset, .unset] [(.int (x2 &&& (65535 : Int32)))])
        refine go_st (fun _ kq => XT.i2l X0.here hx rfl (hb hby at_94) rfl kq) ?_
        show Go p e below s _ _ _ s₁ (mkF m 95 #[.val (.long x0), .second, .val (.int x1), .val (.int x2), .val (.int x3), .val (.int x4), .val (.long x5), .second, .val (.int (x4 &&& (3 : Int32))), .unset, .unset, .unset, .unset, .unset, .unset, .unset, .unset, .unset, .unset, .unset, .unset, .unset] [(.long (x2 &&& (65535 : Int32)).toInt64)])
        refine go_st (fun _ kq => XT.lconstV X0.here hx rfl (1 : Int64) (hb hby at_95) (by decide) kq) ?_
        show Go p e below s _ _ _ s₁ (mkF m 96 #[.val (.long x0), .second, .val (.int x1), .val (.int x2), .val (.int x3), .val (.int x4), .val (.long x5), .second, .val (.int (x4 &&& (3 : Int32))), .unset, .unset, .unset, .unset, .unset, .unset, .unset, .unset, .unset, .unset, .unset, .unset, .unset] [(.long (1 : Int64)), (.long (x2 &&& (65535 : Int32)).toInt64)])
        refine go_st (fun _ kq => XT.ladd X0.here hx rfl (hb hby at_96) rfl kq) ?_
        show Go p e below s _ _ _ s₁ (mkF m 97 #[.val (.long x0), .second, .val (.int x1), .val (.int x2), .val (.int x3), .val (.int x4), .val (.long x5), .second, .val (.int (x4 &&& (3 : Int32))), .unset, .unset, .unset, .unset, .unset, .unset, .unset, .unset, .unset, .unset, .unset, .unset, .unset] [(.long ((x2 &&& (65535 : Int32)).toInt64 + (1 : Int64)))])
        refine go_st (fun _ kq => XT.lstore X0.here hx rfl (hb hby at_97) rfl (l' := #[.val (.long x0), .second, .val (.int x1), .val (.int x2), .val (.int x3), .val (.int x4), .val (.long x5), .second, .val (.int (x4 &&& (3 : Int32))), .val (.long ((x2 &&& (65535 : Int32)).toInt64 + (1 : Int64))), .second, .unset, .unset, .unset, .unset, .unset, .unset, .unset, .unset, .unset, .unset, .unset]) rfl kq) ?_
        show Go p e below s _ _ _ s₁ (mkF m 99 #[.val (.long x0), .second, .val (.int x1), .val (.int x2), .val (.int x3), .val (.int x4), .val (.long x5), .second, .val (.int (x4 &&& (3 : Int32))), .val (.long ((x2 &&& (65535 : Int32)).toInt64 + (1 : Int64))), .second, .unset, .unset, .unset, .unset, .unset, .unset, .unset, .unset, .unset, .unset, .unset] [])
        obtain ⟨nn, hn1, hn2, en⟩ := own_n1 x2
        rw [en]
        show Go p e below s _ _ _ s₁ (mkF m 99 #[.val (.long x0), .second, .val (.int x1), .val (.int x2), .val (.int x3), .val (.int x4), .val (.long x5), .second, .val (.int (x4 &&& (3 : Int32))), .val (.long (Int64.ofNat nn)), .second, .unset, .unset, .unset, .unset, .unset, .unset, .unset, .unset, .unset, .unset, .unset] [])
        refine go_st (fun _ kq => XS.iloadN X0.here hx rfl (hb hby at_99) rfl kq) ?_
        show Go p e below s _ _ _ s₁ (mkF m 100 #[.val (.long x0), .second, .val (.int x1), .val (.int x2), .val (.int x3), .val (.int x4), .val (.long x5), .second, .val (.int (x4 &&& (3 : Int32))), .val (.long (Int64.ofNat nn)), .second, .unset, .unset, .unset, .unset, .unset, .unset, .unset, .unset, .unset, .unset, .unset] [(.int x1)])
        refine go_st (fun _ kq => XT.i2l X0.here hx rfl (hb hby at_100) rfl kq) ?_
        show Go p e below s _ _ _ s₁ (mkF m 101 #[.val (.long x0), .second, .val (.int x1), .val (.int x2), .val (.int x3), .val (.int x4), .val (.long x5), .second, .val (.int (x4 &&& (3 : Int32))), .val (.long (Int64.ofNat nn)), .second, .unset, .unset, .unset, .unset, .unset, .unset, .unset, .unset, .unset, .unset, .unset] [(.long x1.toInt64)])
        refine go_st (fun _ kq => XT.lload X0.here hx rfl (hb hby at_101) rfl kq) ?_
        show Go p e below s _ _ _ s₁ (mkF m 103 #[.val (.long x0), .second, .val (.int x1), .val (.int x2), .val (.int x3), .val (.int x4), .val (.long x5), .second, .val (.int (x4 &&& (3 : Int32))), .val (.long (Int64.ofNat nn)), .second, .unset, .unset, .unset, .unset, .unset, .unset, .unset, .unset, .unset, .unset, .unset] [(.long (Int64.ofNat nn)), (.long x1.toInt64)])
        refine go_st (fun _ kq => XT.lmul X0.here hx rfl (hb hby at_103) rfl kq) ?_
        show Go p e below s _ _ _ s₁ (mkF m 104 #[.val (.long x0), .second, .val (.int x1), .val (.int x2), .val (.int x3), .val (.int x4), .val (.long x5), .second, .val (.int (x4 &&& (3 : Int32))), .val (.long (Int64.ofNat nn)), .second, .unset, .unset, .unset, .unset, .unset, .unset, .unset, .unset, .unset, .unset, .unset] [(.long (x1.toInt64 * (Int64.ofNat nn)))])
        refine go_st (fun _ kq => XT.lstore X0.here hx rfl (hb hby at_104) rfl (l' := #[.val (.long x0), .second, .val (.int x1), .val (.int x2), .val (.int x3), .val (.int x4), .val (.long x5), .second, .val (.int (x4 &&& (3 : Int32))), .val (.long (Int64.ofNat nn)), .second, .val (.long (x1.toInt64 * (Int64.ofNat nn))), .second, .unset, .unset, .unset, .unset, .unset, .unset, .unset, .unset, .unset]) rfl kq) ?_
        show Go p e below s _ _ _ s₁ (mkF m 106 #[.val (.long x0), .second, .val (.int x1), .val (.int x2), .val (.int x3), .val (.int x4), .val (.long x5), .second, .val (.int (x4 &&& (3 : Int32))), .val (.long (Int64.ofNat nn)), .second, .val (.long (x1.toInt64 * (Int64.ofNat nn))), .second, .unset, .unset, .unset, .unset, .unset, .unset, .unset, .unset, .unset] [])
        refine go_newO X0 hx hZ hown (hw _ (List.mem_of_getElem? (i := 3) rfl)) (hw _ (List.mem_of_getElem? (i := 4) rfl)) (hw _ (List.mem_of_getElem? (i := 5) rfl)) e0 (hb hby at_106) rfl (by decide) (by decide) ?_
        intro T48 h48 a48 g48 X48 e48 E48 A48 D48
        have nw_a48 : n0 ≤ a48 := Nat.le_trans Z0 (Nat.le_of_eq g48.symm)
        have lt_a48 : a48 < h48.size := A48.lt
        have F49 : Fld Z h48 a48 "com/example/tourney/tourney/StepStats$Figures" "operations" "J" (.long (0 : Int64)) := D48 (Or.inr (hw _ (List.mem_of_getElem? (i := 13) rfl))) (ty := .long) (by decide)
        have F50 : Fld Z h48 a48 "com/example/tourney/tourney/StepStats$Figures" "totalSteps" "J" (.long (0 : Int64)) := D48 (Or.inr (hw _ (List.mem_of_getElem? (i := 15) rfl))) (ty := .long) (by decide)
        have F51 : Fld Z h48 a48 "com/example/tourney/tourney/StepStats$Figures" "largestSteps" "J" (.long (0 : Int64)) := D48 (Or.inr (hw _ (List.mem_of_getElem? (i := 17) rfl))) (ty := .long) (by decide)
        have F52 : Fld Z h48 a48 "com/example/tourney/tourney/StepStats$Figures" "largestCompareAndSwaps" "J" (.long (0 : Int64)) := D48 (Or.inr (hw _ (List.mem_of_getElem? (i := 19) rfl))) (ty := .long) (by decide)
        show Go p e below s _ _ _ T48 (mkF m 109 #[.val (.long x0), .second, .val (.int x1), .val (.int x2), .val (.int x3), .val (.int x4), .val (.long x5), .second, .val (.int (x4 &&& (3 : Int32))), .val (.long (Int64.ofNat nn)), .second, .val (.long (x1.toInt64 * (Int64.ofNat nn))), .second, .unset, .unset, .unset, .unset, .unset, .unset, .unset, .unset, .unset] [(.ref a48)])
        refine go_st (fun _ kq => XS.dup X48.here hx rfl (hb hby at_109) rfl rfl kq) ?_
        show Go p e below s _ _ _ T48 (mkF m 110 #[.val (.long x0), .second, .val (.int x1), .val (.int x2), .val (.int x3), .val (.int x4), .val (.long x5), .second, .val (.int (x4 &&& (3 : Int32))), .val (.long (Int64.ofNat nn)), .second, .val (.long (x1.toInt64 * (Int64.ofNat nn))), .second, .unset, .unset, .unset, .unset, .unset, .unset, .unset, .unset, .unset] [(.ref a48), (.ref a48)])
        refine go_st (fun _ kq => XT.lload X48.here hx rfl (hb hby at_110) rfl kq) ?_
        show Go p e below s _ _ _ T48 (mkF m 112 #[.val (.long x0), .second, .val (.int x1), .val (.int x2), .val (.int x3), .val (.int x4), .val (.long x5), .second, .val (.int (x4 &&& (3 : Int32))), .val (.long (Int64.ofNat nn)), .second, .val (.long (x1.toInt64 * (Int64.ofNat nn))), .second, .unset, .unset, .unset, .unset, .unset, .unset, .unset, .unset, .unset] [(.long (Int64.ofNat nn)), (.ref a48), (.ref a48)])
        refine go_st (fun _ kq => XT.lload X48.here hx rfl (hb hby at_112) rfl kq) ?_
        show Go p e below s _ _ _ T48 (mkF m 114 #[.val (.long x0), .second, .val (.int x1), .val (.int x2), .val (.int x3), .val (.int x4), .val (.long x5), .second, .val (.int (x4 &&& (3 : Int32))), .val (.long (Int64.ofNat nn)), .second, .val (.long (x1.toInt64 * (Int64.ofNat nn))), .second, .unset, .unset, .unset, .unset, .unset, .unset, .unset, .unset, .unset] [(.long (x1.toInt64 * (Int64.ofNat nn))), (.long (Int64.ofNat nn)), (.ref a48), (.ref a48)])
        refine go_st (fun _ kq => XT.lload X48.here hx rfl (hb hby at_114) rfl kq) ?_
        show Go p e below s _ _ _ T48 (mkF m 116 #[.val (.long x0), .second, .val (.int x1), .val (.int x2), .val (.int x3), .val (.int x4), .val (.long x5), .second, .val (.int (x4 &&& (3 : Int32))), .val (.long (Int64.ofNat nn)), .second, .val (.long (x1.toInt64 * (Int64.ofNat nn))), .second, .unset, .unset, .unset, .unset, .unset, .unset, .unset, .unset, .unset] [(.long x5), (.long (x1.toInt64 * (Int64.ofNat nn))), (.long (Int64.ofNat nn)), (.ref a48), (.ref a48)])
        refine go_st (fun _ kq => XT.lloadN X48.here hx rfl (hb hby at_116) rfl kq) ?_
        show Go p e below s _ _ _ T48 (mkF m 117 #[.val (.long x0), .second, .val (.int x1), .val (.int x2), .val (.int x3), .val (.int x4), .val (.long x5), .second, .val (.int (x4 &&& (3 : Int32))), .val (.long (Int64.ofNat nn)), .second, .val (.long (x1.toInt64 * (Int64.ofNat nn))), .second, .unset, .unset, .unset, .unset, .unset, .unset, .unset, .unset, .unset] [(.long x0), (.long x5), (.long (x1.toInt64 * (Int64.ofNat nn))), (.long (Int64.ofNat nn)), (.ref a48), (.ref a48)])
        have z54 : n0 ≤ h48.size := Nat.le_trans Z0 E48.1
        refine go_callI X48 hx hZ hml hown rfl (hw _ (List.mem_of_getElem? (i := 6) rfl)) (hw _ (List.mem_of_getElem? (i := 7) rfl)) (hw _ (List.mem_of_getElem? (i := 8) rfl)) (hw _ (List.mem_of_getElem? (i := 5) rfl)) e48 (argsL := [(.long (Int64.ofNat nn)), (.long (x1.toInt64 * (Int64.ofNat nn))), (.long x5), (.long x0)]) (rest := [(.ref a48)]) (W := 1) (met_ini l Z a0 hw a48 (Int64.ofNat nn) (x1.toInt64 * (Int64.ofNat nn)) x5 x0 h48 n0 z54 A48 nw_a48 F49 F50 F51 F52) (hb hby at_117) rfl rfl rfl (lenOf pd0 rfl) (by show 2 * 0 + _ ≤ _; exact Nat.le_of_eq rfl) (by decide) (by decide) (by decide) (by decide) (by decide) ?_
        intro T53 v53 L53 X53 q53
        obtain ⟨rfl, M53, K53, f53_0, f53_1, f53_2⟩ := q53
        have N53 := Fr.app N0 M53
        show Go p e below s _ _ _ T53 (mkF m 120 #[.val (.long x0), .second, .val (.int x1), .val (.int x2), .val (.int x3), .val (.int x4), .val (.long x5), .second, .val (.int (x4 &&& (3 : Int32))), .val (.long (Int64.ofNat nn)), .second, .val (.long (x1.toInt64 * (Int64.ofNat nn))), .second, .unset, .unset, .unset, .unset, .unset, .unset, .unset, .unset, .unset] [(.ref a48)])
        refine go_st (fun _ kq => XS.astore X53.here hx rfl (hb hby at_120) rfl rfl (l' := #[.val (.long x0), .second, .val (.int x1), .val (.int x2), .val (.int x3), .val (.int x4), .val (.long x5), .second, .val (.int (x4 &&& (3 : Int32))), .val (.long (Int64.ofNat nn)), .second, .val (.long (x1.toInt64 * (Int64.ofNat nn))), .second, .val (.ref a48), .unset, .unset, .unset, .unset, .unset, .unset, .unset, .unset]) rfl kq) ?_
        show Go p e below s _ _ _ T53 (mkF m 122 #[.val (.long x0), .second, .val (.int x1), .val (.int x2), .val (.int x3), .val (.int x4), .val (.long x5), .second, .val (.int (x4 &&& (3 : Int32))), .val (.long (Int64.ofNat nn)), .second, .val (.long (x1.toInt64 * (Int64.ofNat nn))), .second, .val (.ref a48), .unset, .unset, .unset, .unset, .unset, .unset, .unset, .unset] [])
        refine go_st (fun _ kq => XS.aload X53.here hx rfl (hb hby at_122) rfl rfl kq) ?_
        show Go p e below s _ _ _ T53 (mkF m 124 #[.val (.long x0), .second, .val (.int x1), .val (.int x2), .val (.int x3), .val (.int x4), .val (.long x5), .second, .val (.int (x4 &&& (3 : Int32))), .val (.long (Int64.ofNat nn)), .second, .val (.long (x1.toInt64 * (Int64.ofNat nn))), .second, .val (.ref a48), .unset, .unset, .unset, .unset, .unset, .unset, .unset, .unset] [(.ref a48)])
        have z56 : n0 ≤ T53.heap.size := Nat.le_trans z54 K53.1
        refine go_callV X53 hx hZ hml hown (hw _ (List.mem_of_getElem? (i := 20) rfl)) (hw _ (List.mem_of_getElem? (i := 21) rfl)) (notFace_of_selects (args := #[]) (mvT hZ (hw _ (List.mem_of_getElem? (i := 23) rfl)))) (hw _ (List.mem_of_getElem? (i := 23) rfl)) (hw _ (List.mem_of_getElem? (i := 22) rfl)) (hw _ (List.mem_of_getElem? (i := 24) rfl)) (hw _ (List.mem_of_getElem? (i := 5) rfl)) rfl f53_0 (argsL := []) (rest := []) (W := 0) (met_mn l Z a0 hw a48 (Int64.ofNat nn) (x1.toInt64 * (Int64.ofNat nn)) nn T53.heap n0 z56 f53_1 f53_2 (own_on64 (by omega)) (by omega) (by omega) (own_nzL (by omega) (by omega))) (hb hby at_124) rfl rfl rfl (lenOf pd1 rfl) (by show 2 * 0 + _ ≤ _; exact Nat.le_of_eq rfl) (by decide) (by decide) (by decide) (by decide) (by decide) ?_
        intro T55 v55 L55 X55 q55
        obtain ⟨rfl, M55, e55⟩ := q55
        have N55 := Fr.app N53 M55
        show Go p e below s _ _ _ T55 (mkF m 127 #[.val (.long x0), .second, .val (.int x1), .val (.int x2), .val (.int x3), .val (.int x4), .val (.long x5), .second, .val (.int (x4 &&& (3 : Int32))), .val (.long (Int64.ofNat nn)), .second, .val (.long (x1.toInt64 * (Int64.ofNat nn))), .second, .val (.ref a48), .unset, .unset, .unset, .unset, .unset, .unset, .unset, .unset] [(.double (FP.ddiv (FP.l2d (x1.toInt64 * (Int64.ofNat nn))) (FP.l2d (Int64.ofNat nn))))])
        refine go_st (fun _ kq => XS.iloadN X55.here hx rfl (hb hby at_127) rfl kq) ?_
        show Go p e below s _ _ _ T55 (mkF m 128 #[.val (.long x0), .second, .val (.int x1), .val (.int x2), .val (.int x3), .val (.int x4), .val (.long x5), .second, .val (.int (x4 &&& (3 : Int32))), .val (.long (Int64.ofNat nn)), .second, .val (.long (x1.toInt64 * (Int64.ofNat nn))), .second, .val (.ref a48), .unset, .unset, .unset, .unset, .unset, .unset, .unset, .unset] [(.int x1), (.double (FP.ddiv (FP.l2d (x1.toInt64 * (Int64.ofNat nn))) (FP.l2d (Int64.ofNat nn))))])
        refine go_st (fun _ kq => XS.i2dS X55.here hx rfl (hb hby at_128) rfl rfl kq) ?_
        show Go p e below s _ _ _ T55 (mkF m 129 #[.val (.long x0), .second, .val (.int x1), .val (.int x2), .val (.int x3), .val (.int x4), .val (.long x5), .second, .val (.int (x4 &&& (3 : Int32))), .val (.long (Int64.ofNat nn)), .second, .val (.long (x1.toInt64 * (Int64.ofNat nn))), .second, .val (.ref a48), .unset, .unset, .unset, .unset, .unset, .unset, .unset, .unset] [(.double (FP.i2d x1)), (.double (FP.ddiv (FP.l2d (x1.toInt64 * (Int64.ofNat nn))) (FP.l2d (Int64.ofNat nn))))])
        refine go_st (fun _ kq => XS.dcmpS X55.here hx rfl (hb hby at_129) rfl rfl kq) ?_
        show Go p e below s _ _ _ T55 (mkF m 130 #[.val (.long x0), .second, .val (.int x1), .val (.int x2), .val (.int x3), .val (.int x4), .val (.long x5), .second, .val (.int (x4 &&& (3 : Int32))), .val (.long (Int64.ofNat nn)), .second, .val (.long (x1.toInt64 * (Int64.ofNat nn))), .second, .val (.ref a48), .unset, .unset, .unset, .unset, .unset, .unset, .unset, .unset] [(.int (cmpValue (FP.dcmp (FP.ddiv (FP.l2d (x1.toInt64 * (Int64.ofNat nn))) (FP.l2d (Int64.ofNat nn))) (FP.i2d x1)) .l))])
        have hb57 : (cmpValue (FP.dcmp (FP.ddiv (FP.l2d (x1.toInt64 * (Int64.ofNat nn))) (FP.l2d (Int64.ofNat nn))) (FP.i2d x1)) .l) = (0 : Int32) := by rw [own_m2 x1 hn1 hn2]; rfl
        refine go_st (fun _ kq => XS.ifNo X55.here hx rfl (hb hby at_130) rfl (XT.i0_ne_f hb57) kq) ?_
        show Go p e below s _ _ _ T55 (mkF m 133 #[.val (.long x0), .second, .val (.int x1), .val (.int x2), .val (.int x3), .val (.int x4), .val (.long x5), .second, .val (.int (x4 &&& (3 : Int32))), .val (.long (Int64.ofNat nn)), .second, .val (.long (x1.toInt64 * (Int64.ofNat nn))), .second, .val (.ref a48), .unset, .unset, .unset, .unset, .unset, .unset, .unset, .unset] [])
        refine go_st (fun _ kq => XT.iconstV X55.here hx rfl (1 : Int32) (hb hby at_133) (by decide) kq) ?_
        show Go p e below s _ _ _ T55 (mkF m 134 #[.val (.long x0), .second, .val (.int x1), .val (.int x2), .val (.int x3), .val (.int x4), .val (.long x5), .second, .val (.int (x4 &&& (3 : Int32))), .val (.long (Int64.ofNat nn)), .second, .val (.long (x1.toInt64 * (Int64.ofNat nn))), .second, .val (.ref a48), .unset, .unset, .unset, .unset, .unset, .unset, .unset, .unset] [(.int (1 : Int32))])
        refine go_st (fun _ kq => XS.goto X55.here hx rfl (pc0 := 134) (pc' := 138) rfl (hb hby at_134) (by decide) (by decide) kq) ?_
        show Go p e below s _ _ _ T55 (mkF m 138 #[.val (.long x0), .second, .val (.int x1), .val (.int x2), .val (.int x3), .val (.int x4), .val (.long x5), .second, .val (.int (x4 &&& (3 : Int32))), .val (.long (Int64.ofNat nn)), .second, .val (.long (x1.toInt64 * (Int64.ofNat nn))), .second, .val (.ref a48), .unset, .unset, .unset, .unset, .unset, .unset, .unset, .unset] [(.int (1 : Int32))])
        exact go_retB (w := (1 : Int32)) X55 hx hlk hret (hb hby at_138) (by decide) (by decide) (by decide) ⟨rfl, N55⟩
      · refine go_st (fun _ kq => XS.icmpYes X0.here hx rfl (pc0 := 87) (pc' := 139) rfl (hb hby at_87) rfl (XT.ii_ne_t hc47) (by decide) (by decide) kq) ?_
        show Go p e below s _ _ _ s₁ (mkF m 139 #[.val (.long x0), .second, .val (.int x1), .val (.int x2), .val (.int x3), .val (.int x4), .val (.long x5), .second, .val (.int (x4 &&& (3 : Int32))), .unset, .unset, .unset, .unset, .unset, .unset, .unset, .unset, .unset, .unset, .unset, .unset, .unset] [])
        refine go_st (fun _ kq => XS.iloadN X0.here hx rfl (hb hby at_139) rfl kq) ?_
        show Go p e below s _ _ _ s₁ (mkF m 140 #[.val (.long x0), .second, .val (.int x1), .val (.int x2), .val (.int x3), .val (.int x4), .val (.long x5), .second, .val (.int (x4 &&& (3 : Int32))), .unset, .unset, .unset, .unset, .unset, .unset, .unset, .unset, .unset, .unset, .unset, .unset, .unset] [(.int x2)])
        refine go_st (fun _ kq => Jvm.Stand.ldcI X0 hx hown (mvT hZ (hw _ (List.mem_of_getElem? (i := 0) rfl))) rfl (hb hby at_140) kq) ?_
        show Go p e below s _ _ _ s₁ (mkF m 142 #[.val (.long x0), .second, .val (.int x1), .val (.int x2), .val (.int x3), .val (.int x4), .val (.long x5), .second, .val (.int (x4 &&& (3 : Int32))), .unset, .unset, .unset, .unset, .unset, .unset, .unset, .unset, .unset, .unset, .unset, .unset, .unset] [(.int (65535 : Int32)), (.int x2)])
        refine go_st (fun _ kq => XS.iand X0.here hx rfl (hb hby at_142) rfl kq) ?_
        show Go p e below s _ _ _ s₁ (mkF m 143 #[.val (.long x0), .second, .val (.int x1), .val (.int x2), .val (.int x3), .val (.int x4), .val (.long x5), .second, .val (.int (x4 &&& (3 : Int32))), .unset, .unset, .unset, .unset, .unset, .unset, .unset, .unset, .unset, .unset, .unset, .unset, .unset] [(.int (x2 &&& (65535 : Int32)))])
        refine go_st (fun _ kq => XT.i2l X0.here hx rfl (hb hby at_143) rfl kq) ?_
        show Go p e below s _ _ _ s₁ (mkF m 144 #[.val (.long x0), .second, .val (.int x1), .val (.int x2), .val (.int x3), .val (.int x4), .val (.long x5), .second, .val (.int (x4 &&& (3 : Int32))), .unset, .unset, .unset, .unset, .unset, .unset, .unset, .unset, .unset, .unset, .unset, .unset, .unset] [(.long (x2 &&& (65535 : Int32)).toInt64)])
        refine go_st (fun _ kq => Jvm.Stand.ldc2J X0 hx hown (mvT hZ (hw _ (List.mem_of_getElem? (i := 1) rfl))) rfl (hb hby at_144) kq) ?_
        show Go p e below s _ _ _ s₁ (mkF m 147 #[.val (.long x0), .second, .val (.int x1), .val (.int x2), .val (.int x3), .val (.int x4), .val (.long x5), .second, .val (.int (x4 &&& (3 : Int32))), .unset, .unset, .unset, .unset, .unset, .unset, .unset, .unset, .unset, .unset, .unset, .unset, .unset] [(.long (2 : Int64)), (.long (x2 &&& (65535 : Int32)).toInt64)])
        refine go_st (fun _ kq => XT.ladd X0.here hx rfl (hb hby at_147) rfl kq) ?_
        show Go p e below s _ _ _ s₁ (mkF m 148 #[.val (.long x0), .second, .val (.int x1), .val (.int x2), .val (.int x3), .val (.int x4), .val (.long x5), .second, .val (.int (x4 &&& (3 : Int32))), .unset, .unset, .unset, .unset, .unset, .unset, .unset, .unset, .unset, .unset, .unset, .unset, .unset] [(.long ((x2 &&& (65535 : Int32)).toInt64 + (2 : Int64)))])
        refine go_st (fun _ kq => XT.lstore X0.here hx rfl (hb hby at_148) rfl (l' := #[.val (.long x0), .second, .val (.int x1), .val (.int x2), .val (.int x3), .val (.int x4), .val (.long x5), .second, .val (.int (x4 &&& (3 : Int32))), .val (.long ((x2 &&& (65535 : Int32)).toInt64 + (2 : Int64))), .second, .unset, .unset, .unset, .unset, .unset, .unset, .unset, .unset, .unset, .unset, .unset]) rfl kq) ?_
        show Go p e below s _ _ _ s₁ (mkF m 150 #[.val (.long x0), .second, .val (.int x1), .val (.int x2), .val (.int x3), .val (.int x4), .val (.long x5), .second, .val (.int (x4 &&& (3 : Int32))), .val (.long ((x2 &&& (65535 : Int32)).toInt64 + (2 : Int64))), .second, .unset, .unset, .unset, .unset, .unset, .unset, .unset, .unset, .unset, .unset, .unset] [])
        obtain ⟨nn, hn1, hn2, en⟩ := own_n2 x2
        rw [en]
        show Go p e below s _ _ _ s₁ (mkF m 150 #[.val (.long x0), .second, .val (.int x1), .val (.int x2), .val (.int x3), .val (.int x4), .val (.long x5), .second, .val (.int (x4 &&& (3 : Int32))), .val (.long (Int64.ofNat nn)), .second, .unset, .unset, .unset, .unset, .unset, .unset, .unset, .unset, .unset, .unset, .unset] [])
        refine go_st (fun _ kq => XT.lconstV X0.here hx rfl (1 : Int64) (hb hby at_150) (by decide) kq) ?_
        show Go p e below s _ _ _ s₁ (mkF m 151 #[.val (.long x0), .second, .val (.int x1), .val (.int x2), .val (.int x3), .val (.int x4), .val (.long x5), .second, .val (.int (x4 &&& (3 : Int32))), .val (.long (Int64.ofNat nn)), .second, .unset, .unset, .unset, .unset, .unset, .unset, .unset, .unset, .unset, .unset, .unset] [(.long (1 : Int64))])
        refine go_st (fun _ kq => XS.iload X0.here hx rfl (hb hby at_151) rfl kq) ?_
        show Go p e below s _ _ _ s₁ (mkF m 153 #[.val (.long x0), .second, .val (.int x1), .val (.int x2), .val (.int x3), .val (.int x4), .val (.long x5), .second, .val (.int (x4 &&& (3 : Int32))), .val (.long (Int64.ofNat nn)), .second, .unset, .unset, .unset, .unset, .unset, .unset, .unset, .unset, .unset, .unset, .unset] [(.int x3), (.long (1 : Int64))])
        refine go_st (fun _ kq => Jvm.Stand.ldcI X0 hx hown (mvT hZ (hw _ (List.mem_of_getElem? (i := 2) rfl))) rfl (hb hby at_153) kq) ?_
        show Go p e below s _ _ _ s₁ (mkF m 155 #[.val (.long x0), .second, .val (.int x1), .val (.int x2), .val (.int x3), .val (.int x4), .val (.long x5), .second, .val (.int (x4 &&& (3 : Int32))), .val (.long (Int64.ofNat nn)), .second, .unset, .unset, .unset, .unset, .unset, .unset, .unset, .unset, .unset, .unset, .unset] [(.int (2147483647 : Int32)), (.int x3), (.long (1 : Int64))])
        refine go_st (fun _ kq => XS.iand X0.here hx rfl (hb hby at_155) rfl kq) ?_
        show Go p e below s _ _ _ s₁ (mkF m 156 #[.val (.long x0), .second, .val (.int x1), .val (.int x2), .val (.int x3), .val (.int x4), .val (.long x5), .second, .val (.int (x4 &&& (3 : Int32))), .val (.long (Int64.ofNat nn)), .second, .unset, .unset, .unset, .unset, .unset, .unset, .unset, .unset, .unset, .unset, .unset] [(.int (x3 &&& (2147483647 : Int32))), (.long (1 : Int64))])
        refine go_st (fun _ kq => XT.lload X0.here hx rfl (hb hby at_156) rfl kq) ?_
        show Go p e below s _ _ _ s₁ (mkF m 158 #[.val (.long x0), .second, .val (.int x1), .val (.int x2), .val (.int x3), .val (.int x4), .val (.long x5), .second, .val (.int (x4 &&& (3 : Int32))), .val (.long (Int64.ofNat nn)), .second, .unset, .unset, .unset, .unset, .unset, .unset, .unset, .unset, .unset, .unset, .unset] [(.long (Int64.ofNat nn)), (.int (x3 &&& (2147483647 : Int32))), (.long (1 : Int64))])
        refine go_st (fun _ kq => XT.lconstV X0.here hx rfl (1 : Int64) (hb hby at_158) (by decide) kq) ?_
        show Go p e below s _ _ _ s₁ (mkF m 159 #[.val (.long x0), .second, .val (.int x1), .val (.int x2), .val (.int x3), .val (.int x4), .val (.long x5), .second, .val (.int (x4 &&& (3 : Int32))), .val (.long (Int64.ofNat nn)), .second, .unset, .unset, .unset, .unset, .unset, .unset, .unset, .unset, .unset, .unset, .unset] [(.long (1 : Int64)), (.long (Int64.ofNat nn)), (.int (x3 &&& (2147483647 : Int32))), (.long (1 : Int64))])
        refine go_st (fun _ kq => XT.lsub X0.here hx rfl (hb hby at_159) rfl kq) ?_
        show Go p e below s _ _ _ s₁ (mkF m 160 #[.val (.long x0), .second, .val (.int x1), .val (.int x2), .val (.int x3), .val (.int x4), .val (.long x5), .second, .val (.int (x4 &&& (3 : Int32))), .val (.long (Int64.ofNat nn)), .second, .unset, .unset, .unset, .unset, .unset, .unset, .unset, .unset, .unset, .unset, .unset] [(.long ((Int64.ofNat nn) - (1 : Int64))), (.int (x3 &&& (2147483647 : Int32))), (.long (1 : Int64))])
        refine go_st (fun _ kq => XT.l2i X0.here hx rfl (hb hby at_160) rfl kq) ?_
        show Go p e below s _ _ _ s₁ (mkF m 161 #[.val (.long x0), .second, .val (.int x1), .val (.int x2), .val (.int x3), .val (.int x4), .val (.long x5), .second, .val (.int (x4 &&& (3 : Int32))), .val (.long (Int64.ofNat nn)), .second, .unset, .unset, .unset, .unset, .unset, .unset, .unset, .unset, .unset, .unset, .unset] [(.int ((Int64.ofNat nn) - (1 : Int64)).toInt32), (.int (x3 &&& (2147483647 : Int32))), (.long (1 : Int64))])
        rw [own_l2i (n := nn) (by omega) (by omega)]
        show Go p e below s _ _ _ s₁ (mkF m 161 #[.val (.long x0), .second, .val (.int x1), .val (.int x2), .val (.int x3), .val (.int x4), .val (.long x5), .second, .val (.int (x4 &&& (3 : Int32))), .val (.long (Int64.ofNat nn)), .second, .unset, .unset, .unset, .unset, .unset, .unset, .unset, .unset, .unset, .unset, .unset] [(.int (Int32.ofNat (nn - 1))), (.int (x3 &&& (2147483647 : Int32))), (.long (1 : Int64))])
        refine go_st (fun _ kq => iremM X0 hx rfl (hb hby at_161) rfl (own_nz0 (by omega) (by omega)) kq) ?_
        show Go p e below s _ _ _ s₁ (mkF m 162 #[.val (.long x0), .second, .val (.int x1), .val (.int x2), .val (.int x3), .val (.int x4), .val (.long x5), .second, .val (.int (x4 &&& (3 : Int32))), .val (.long (Int64.ofNat nn)), .second, .unset, .unset, .unset, .unset, .unset, .unset, .unset, .unset, .unset, .unset, .unset] [(.int ((x3 &&& (2147483647 : Int32)) % (Int32.ofNat (nn - 1)))), (.long (1 : Int64))])
        refine go_st (fun _ kq => XT.i2l X0.here hx rfl (hb hby at_162) rfl kq) ?_
        show Go p e below s _ _ _ s₁ (mkF m 163 #[.val (.long x0), .second, .val (.int x1), .val (.int x2), .val (.int x3), .val (.int x4), .val (.long x5), .second, .val (.int (x4 &&& (3 : Int32))), .val (.long (Int64.ofNat nn)), .second, .unset, .unset, .unset, .unset, .unset, .unset, .unset, .unset, .unset, .unset, .unset] [(.long ((x3 &&& (2147483647 : Int32)) % (Int32.ofNat (nn - 1))).toInt64), (.long (1 : Int64))])
        refine go_st (fun _ kq => XT.ladd X0.here hx rfl (hb hby at_163) rfl kq) ?_
        show Go p e below s _ _ _ s₁ (mkF m 164 #[.val (.long x0), .second, .val (.int x1), .val (.int x2), .val (.int x3), .val (.int x4), .val (.long x5), .second, .val (.int (x4 &&& (3 : Int32))), .val (.long (Int64.ofNat nn)), .second, .unset, .unset, .unset, .unset, .unset, .unset, .unset, .unset, .unset, .unset, .unset] [(.long ((1 : Int64) + ((x3 &&& (2147483647 : Int32)) % (Int32.ofNat (nn - 1))).toInt64))])
        refine go_st (fun _ kq => XT.lstore X0.here hx rfl (hb hby at_164) rfl (l' := #[.val (.long x0), .second, .val (.int x1), .val (.int x2), .val (.int x3), .val (.int x4), .val (.long x5), .second, .val (.int (x4 &&& (3 : Int32))), .val (.long (Int64.ofNat nn)), .second, .val (.long ((1 : Int64) + ((x3 &&& (2147483647 : Int32)) % (Int32.ofNat (nn - 1))).toInt64)), .second, .unset, .unset, .unset, .unset, .unset, .unset, .unset, .unset, .unset]) rfl kq) ?_
        show Go p e below s _ _ _ s₁ (mkF m 166 #[.val (.long x0), .second, .val (.int x1), .val (.int x2), .val (.int x3), .val (.int x4), .val (.long x5), .second, .val (.int (x4 &&& (3 : Int32))), .val (.long (Int64.ofNat nn)), .second, .val (.long ((1 : Int64) + ((x3 &&& (2147483647 : Int32)) % (Int32.ofNat (nn - 1))).toInt64)), .second, .unset, .unset, .unset, .unset, .unset, .unset, .unset, .unset, .unset] [])
        obtain ⟨rr, hr1, hr2, er⟩ := own_r x3 (n := nn - 1) (by omega) (by omega)
        rw [er]
        show Go p e below s _ _ _ s₁ (mkF m 166 #[.val (.long x0), .second, .val (.int x1), .val (.int x2), .val (.int x3), .val (.int x4), .val (.long x5), .second, .val (.int (x4 &&& (3 : Int32))), .val (.long (Int64.ofNat nn)), .second, .val (.long (Int64.ofNat rr)), .second, .unset, .unset, .unset, .unset, .unset, .unset, .unset, .unset, .unset] [])
        refine go_st (fun _ kq => XS.iloadN X0.here hx rfl (hb hby at_166) rfl kq) ?_
        show Go p e below s _ _ _ s₁ (mkF m 167 #[.val (.long x0), .second, .val (.int x1), .val (.int x2), .val (.int x3), .val (.int x4), .val (.long x5), .second, .val (.int (x4 &&& (3 : Int32))), .val (.long (Int64.ofNat nn)), .second, .val (.long (Int64.ofNat rr)), .second, .unset, .unset, .unset, .unset, .unset, .unset, .unset, .unset, .unset] [(.int x1)])
        refine go_st (fun _ kq => XT.i2l X0.here hx rfl (hb hby at_167) rfl kq) ?_
        show Go p e below s _ _ _ s₁ (mkF m 168 #[.val (.long x0), .second, .val (.int x1), .val (.int x2), .val (.int x3), .val (.int x4), .val (.long x5), .second, .val (.int (x4 &&& (3 : Int32))), .val (.long (Int64.ofNat nn)), .second, .val (.long (Int64.ofNat rr)), .second, .unset, .unset, .unset, .unset, .unset, .unset, .unset, .unset, .unset] [(.long x1.toInt64)])
        refine go_st (fun _ kq => XT.lload X0.here hx rfl (hb hby at_168) rfl kq) ?_
        show Go p e below s _ _ _ s₁ (mkF m 170 #[.val (.long x0), .second, .val (.int x1), .val (.int x2), .val (.int x3), .val (.int x4), .val (.long x5), .second, .val (.int (x4 &&& (3 : Int32))), .val (.long (Int64.ofNat nn)), .second, .val (.long (Int64.ofNat rr)), .second, .unset, .unset, .unset, .unset, .unset, .unset, .unset, .unset, .unset] [(.long (Int64.ofNat nn)), (.long x1.toInt64)])
        refine go_st (fun _ kq => XT.lmul X0.here hx rfl (hb hby at_170) rfl kq) ?_
        show Go p e below s _ _ _ s₁ (mkF m 171 #[.val (.long x0), .second, .val (.int x1), .val (.int x2), .val (.int x3), .val (.int x4), .val (.long x5), .second, .val (.int (x4 &&& (3 : Int32))), .val (.long (Int64.ofNat nn)), .second, .val (.long (Int64.ofNat rr)), .second, .unset, .unset, .unset, .unset, .unset, .unset, .unset, .unset, .unset] [(.long (x1.toInt64 * (Int64.ofNat nn)))])
        refine go_st (fun _ kq => XT.lload X0.here hx rfl (hb hby at_171) rfl kq) ?_
        show Go p e below s _ _ _ s₁ (mkF m 173 #[.val (.long x0), .second, .val (.int x1), .val (.int x2), .val (.int x3), .val (.int x4), .val (.long x5), .second, .val (.int (x4 &&& (3 : Int32))), .val (.long (Int64.ofNat nn)), .second, .val (.long (Int64.ofNat rr)), .second, .unset, .unset, .unset, .unset, .unset, .unset, .unset, .unset, .unset] [(.long (Int64.ofNat rr)), (.long (x1.toInt64 * (Int64.ofNat nn)))])
        refine go_st (fun _ kq => XT.ladd X0.here hx rfl (hb hby at_173) rfl kq) ?_
        show Go p e below s _ _ _ s₁ (mkF m 174 #[.val (.long x0), .second, .val (.int x1), .val (.int x2), .val (.int x3), .val (.int x4), .val (.long x5), .second, .val (.int (x4 &&& (3 : Int32))), .val (.long (Int64.ofNat nn)), .second, .val (.long (Int64.ofNat rr)), .second, .unset, .unset, .unset, .unset, .unset, .unset, .unset, .unset, .unset] [(.long ((x1.toInt64 * (Int64.ofNat nn)) + (Int64.ofNat rr)))])
        refine go_st (fun _ kq => XT.lstore X0.here hx rfl (hb hby at_174) rfl (l' := #[.val (.long x0), .second, .val (.int x1), .val (.int x2), .val (.int x3), .val (.int x4), .val (.long x5), .second, .val (.int (x4 &&& (3 : Int32))), .val (.long (Int64.ofNat nn)), .second, .val (.long (Int64.ofNat rr)), .second, .val (.long ((x1.toInt64 * (Int64.ofNat nn)) + (Int64.ofNat rr))), .second, .unset, .unset, .unset, .unset, .unset, .unset, .unset]) rfl kq) ?_
        show Go p e below s _ _ _ s₁ (mkF m 176 #[.val (.long x0), .second, .val (.int x1), .val (.int x2), .val (.int x3), .val (.int x4), .val (.long x5), .second, .val (.int (x4 &&& (3 : Int32))), .val (.long (Int64.ofNat nn)), .second, .val (.long (Int64.ofNat rr)), .second, .val (.long ((x1.toInt64 * (Int64.ofNat nn)) + (Int64.ofNat rr))), .second, .unset, .unset, .unset, .unset, .unset, .unset, .unset] [])
        refine go_newO X0 hx hZ hown (hw _ (List.mem_of_getElem? (i := 3) rfl)) (hw _ (List.mem_of_getElem? (i := 4) rfl)) (hw _ (List.mem_of_getElem? (i := 5) rfl)) e0 (hb hby at_176) rfl (by decide) (by decide) ?_
        intro T58 h58 a58 g58 X58 e58 E58 A58 D58
        have nw_a58 : n0 ≤ a58 := Nat.le_trans Z0 (Nat.le_of_eq g58.symm)
        have lt_a58 : a58 < h58.size := A58.lt
        have F59 : Fld Z h58 a58 "com/example/tourney/tourney/StepStats$Figures" "operations" "J" (.long (0 : Int64)) := D58 (Or.inr (hw _ (List.mem_of_getElem? (i := 13) rfl))) (ty := .long) (by decide)
        have F60 : Fld Z h58 a58 "com/example/tourney/tourney/StepStats$Figures" "totalSteps" "J" (.long (0 : Int64)) := D58 (Or.inr (hw _ (List.mem_of_getElem? (i := 15) rfl))) (ty := .long) (by decide)
        have F61 : Fld Z h58 a58 "com/example/tourney/tourney/StepStats$Figures" "largestSteps" "J" (.long (0 : Int64)) := D58 (Or.inr (hw _ (List.mem_of_getElem? (i := 17) rfl))) (ty := .long) (by decide)
        have F62 : Fld Z h58 a58 "com/example/tourney/tourney/StepStats$Figures" "largestCompareAndSwaps" "J" (.long (0 : Int64)) := D58 (Or.inr (hw _ (List.mem_of_getElem? (i := 19) rfl))) (ty := .long) (by decide)
        show Go p e below s _ _ _ T58 (mkF m 179 #[.val (.long x0), .second, .val (.int x1), .val (.int x2), .val (.int x3), .val (.int x4), .val (.long x5), .second, .val (.int (x4 &&& (3 : Int32))), .val (.long (Int64.ofNat nn)), .second, .val (.long (Int64.ofNat rr)), .second, .val (.long ((x1.toInt64 * (Int64.ofNat nn)) + (Int64.ofNat rr))), .second, .unset, .unset, .unset, .unset, .unset, .unset, .unset] [(.ref a58)])
        refine go_st (fun _ kq => XS.dup X58.here hx rfl (hb hby at_179) rfl rfl kq) ?_
        show Go p e below s _ _ _ T58 (mkF m 180 #[.val (.long x0), .second, .val (.int x1), .val (.int x2), .val (.int x3), .val (.int x4), .val (.long x5), .second, .val (.int (x4 &&& (3 : Int32))), .val (.long (Int64.ofNat nn)), .second, .val (.long (Int64.ofNat rr)), .second, .val (.long ((x1.toInt64 * (Int64.ofNat nn)) + (Int64.ofNat rr))), .second, .unset, .unset, .unset, .unset, .unset, .unset, .unset] [(.ref a58), (.ref a58)])
        refine go_st (fun _ kq => XT.lload X58.here hx rfl (hb hby at_180) rfl kq) ?_
        show Go p e below s _ _ _ T58 (mkF m 182 #[.val (.long x0), .second, .val (.int x1), .val (.int x2), .val (.int x3), .val (.int x4), .val (.long x5), .second, .val (.int (x4 &&& (3 : Int32))), .val (.long (Int64.ofNat nn)), .second, .val (.long (Int64.ofNat rr)), .second, .val (.long ((x1.toInt64 * (Int64.ofNat nn)) + (Int64.ofNat rr))), .second, .unset, .unset, .unset, .unset, .unset, .unset, .unset] [(.long (Int64.ofNat nn)), (.ref a58), (.ref a58)])
        refine go_st (fun _ kq => XT.lload X58.here hx rfl (hb hby at_182) rfl kq) ?_
        show Go p e below s _ _ _ T58 (mkF m 184 #[.val (.long x0), .second, .val (.int x1), .val (.int x2), .val (.int x3), .val (.int x4), .val (.long x5), .second, .val (.int (x4 &&& (3 : Int32))), .val (.long (Int64.ofNat nn)), .second, .val (.long (Int64.ofNat rr)), .second, .val (.long ((x1.toInt64 * (Int64.ofNat nn)) + (Int64.ofNat rr))), .second, .unset, .unset, .unset, .unset, .unset, .unset, .unset] [(.long ((x1.toInt64 * (Int64.ofNat nn)) + (Int64.ofNat rr))), (.long (Int64.ofNat nn)), (.ref a58), (.ref a58)])
        refine go_st (fun _ kq => XT.lload X58.here hx rfl (hb hby at_184) rfl kq) ?_
        show Go p e below s _ _ _ T58 (mkF m 186 #[.val (.long x0), .second, .val (.int x1), .val (.int x2), .val (.int x3), .val (.int x4), .val (.long x5), .second, .val (.int (x4 &&& (3 : Int32))), .val (.long (Int64.ofNat nn)), .second, .val (.long (Int64.ofNat rr)), .second, .val (.long ((x1.toInt64 * (Int64.ofNat nn)) + (Int64.ofNat rr))), .second, .unset, .unset, .unset, .unset, .unset, .unset, .unset] [(.long x5), (.long ((x1.toInt64 * (Int64.ofNat nn)) + (Int64.ofNat rr))), (.long (Int64.ofNat nn)), (.ref a58), (.ref a58)])
        refine go_st (fun _ kq => XT.lloadN X58.here hx rfl (hb hby at_186) rfl kq) ?_
        show Go p e below s _ _ _ T58 (mkF m 187 #[.val (.long x0), .second, .val (.int x1), .val (.int x2), .val (.int x3), .val (.int x4), .val (.long x5), .second, .val (.int (x4 &&& (3 : Int32))), .val (.long (Int64.ofNat nn)), .second, .val (.long (Int64.ofNat rr)), .second, .val (.long ((x1.toInt64 * (Int64.ofNat nn)) + (Int64.ofNat rr))), .second, .unset, .unset, .unset, .unset, .unset, .unset, .unset] [(.long x0), (.long x5), (.long ((x1.toInt64 * (Int64.ofNat nn)) + (Int64.ofNat rr))), (.long (Int64.ofNat nn)), (.ref a58), (.ref a58)])
        have z64 : n0 ≤ h58.size := Nat.le_trans Z0 E58.1
        refine go_callI X58 hx hZ hml hown rfl (hw _ (List.mem_of_getElem? (i := 6) rfl)) (hw _ (List.mem_of_getElem? (i := 7) rfl)) (hw _ (List.mem_of_getElem? (i := 8) rfl)) (hw _ (List.mem_of_getElem? (i := 5) rfl)) e58 (argsL := [(.long (Int64.ofNat nn)), (.long ((x1.toInt64 * (Int64.ofNat nn)) + (Int64.ofNat rr))), (.long x5), (.long x0)]) (rest := [(.ref a58)]) (W := 1) (met_ini l Z a0 hw a58 (Int64.ofNat nn) ((x1.toInt64 * (Int64.ofNat nn)) + (Int64.ofNat rr)) x5 x0 h58 n0 z64 A58 nw_a58 F59 F60 F61 F62) (hb hby at_187) rfl rfl rfl (lenOf pd0 rfl) (by show 2 * 0 + _ ≤ _; exact Nat.le_of_eq rfl) (by decide) (by decide) (by decide) (by decide) (by decide) ?_
        intro T63 v63 L63 X63 q63
        obtain ⟨rfl, M63, K63, f63_0, f63_1, f63_2⟩ := q63
        have N63 := Fr.app N0 M63
        show Go p e below s _ _ _ T63 (mkF m 190 #[.val (.long x0), .second, .val (.int x1), .val (.int x2), .val (.int x3), .val (.int x4), .val (.long x5), .second, .val (.int (x4 &&& (3 : Int32))), .val (.long (Int64.ofNat nn)), .second, .val (.long (Int64.ofNat rr)), .second, .val (.long ((x1.toInt64 * (Int64.ofNat nn)) + (Int64.ofNat rr))), .second, .unset, .unset, .unset, .unset, .unset, .unset, .unset] [(.ref a58)])
        refine go_st (fun _ kq => XS.astore X63.here hx rfl (hb hby at_190) rfl rfl (l' := #[.val (.long x0), .second, .val (.int x1), .val (.int x2), .val (.int x3), .val (.int x4), .val (.long x5), .second, .val (.int (x4 &&& (3 : Int32))), .val (.long (Int64.ofNat nn)), .second, .val (.long (Int64.ofNat rr)), .second, .val (.long ((x1.toInt64 * (Int64.ofNat nn)) + (Int64.ofNat rr))), .second, .val (.ref a58), .unset, .unset, .unset, .unset, .unset, .unset]) rfl kq) ?_
        show Go p e below s _ _ _ T63 (mkF m 192 #[.val (.long x0), .second, .val (.int x1), .val (.int x2), .val (.int x3), .val (.int x4), .val (.long x5), .second, .val (.int (x4 &&& (3 : Int32))), .val (.long (Int64.ofNat nn)), .second, .val (.long (Int64.ofNat rr)), .second, .val (.long ((x1.toInt64 * (Int64.ofNat nn)) + (Int64.ofNat rr))), .second, .val (.ref a58), .unset, .unset, .unset, .unset, .unset, .unset] [])
        refine go_st (fun _ kq => XS.aload X63.here hx rfl (hb hby at_192) rfl rfl kq) ?_
        show Go p e below s _ _ _ T63 (mkF m 194 #[.val (.long x0), .second, .val (.int x1), .val (.int x2), .val (.int x3), .val (.int x4), .val (.long x5), .second, .val (.int (x4 &&& (3 : Int32))), .val (.long (Int64.ofNat nn)), .second, .val (.long (Int64.ofNat rr)), .second, .val (.long ((x1.toInt64 * (Int64.ofNat nn)) + (Int64.ofNat rr))), .second, .val (.ref a58), .unset, .unset, .unset, .unset, .unset, .unset] [(.ref a58)])
        have z66 : n0 ≤ T63.heap.size := Nat.le_trans z64 K63.1
        refine go_callV X63 hx hZ hml hown (hw _ (List.mem_of_getElem? (i := 20) rfl)) (hw _ (List.mem_of_getElem? (i := 21) rfl)) (notFace_of_selects (args := #[]) (mvT hZ (hw _ (List.mem_of_getElem? (i := 23) rfl)))) (hw _ (List.mem_of_getElem? (i := 23) rfl)) (hw _ (List.mem_of_getElem? (i := 22) rfl)) (hw _ (List.mem_of_getElem? (i := 24) rfl)) (hw _ (List.mem_of_getElem? (i := 5) rfl)) rfl f63_0 (argsL := []) (rest := []) (W := 0) (met_mn l Z a0 hw a58 (Int64.ofNat nn) ((x1.toInt64 * (Int64.ofNat nn)) + (Int64.ofNat rr)) nn T63.heap n0 z66 f63_1 f63_2 (own_on64 (by omega)) (by omega) (by omega) (own_nzL (by omega) (by omega))) (hb hby at_194) rfl rfl rfl (lenOf pd1 rfl) (by show 2 * 0 + _ ≤ _; exact Nat.le_of_eq rfl) (by decide) (by decide) (by decide) (by decide) (by decide) ?_
        intro T65 v65 L65 X65 q65
        obtain ⟨rfl, M65, e65⟩ := q65
        have N65 := Fr.app N63 M65
        show Go p e below s _ _ _ T65 (mkF m 197 #[.val (.long x0), .second, .val (.int x1), .val (.int x2), .val (.int x3), .val (.int x4), .val (.long x5), .second, .val (.int (x4 &&& (3 : Int32))), .val (.long (Int64.ofNat nn)), .second, .val (.long (Int64.ofNat rr)), .second, .val (.long ((x1.toInt64 * (Int64.ofNat nn)) + (Int64.ofNat rr))), .second, .val (.ref a58), .unset, .unset, .unset, .unset, .unset, .unset] [(.double (FP.ddiv (FP.l2d ((x1.toInt64 * (Int64.ofNat nn)) + (Int64.ofNat rr))) (FP.l2d (Int64.ofNat nn))))])
        refine go_st (fun _ kq => XS.dstore X65.here hx rfl (hb hby at_197) rfl (l' := #[.val (.long x0), .second, .val (.int x1), .val (.int x2), .val (.int x3), .val (.int x4), .val (.long x5), .second, .val (.int (x4 &&& (3 : Int32))), .val (.long (Int64.ofNat nn)), .second, .val (.long (Int64.ofNat rr)), .second, .val (.long ((x1.toInt64 * (Int64.ofNat nn)) + (Int64.ofNat rr))), .second, .val (.ref a58), .val (.double (FP.ddiv (FP.l2d ((x1.toInt64 * (Int64.ofNat nn)) + (Int64.ofNat rr))) (FP.l2d (Int64.ofNat nn)))), .second, .unset, .unset, .unset, .unset]) rfl kq) ?_
        show Go p e below s _ _ _ T65 (mkF m 199 #[.val (.long x0), .second, .val (.int x1), .val (.int x2), .val (.int x3), .val (.int x4), .val (.long x5), .second, .val (.int (x4 &&& (3 : Int32))), .val (.long (Int64.ofNat nn)), .second, .val (.long (Int64.ofNat rr)), .second, .val (.long ((x1.toInt64 * (Int64.ofNat nn)) + (Int64.ofNat rr))), .second, .val (.ref a58), .val (.double (FP.ddiv (FP.l2d ((x1.toInt64 * (Int64.ofNat nn)) + (Int64.ofNat rr))) (FP.l2d (Int64.ofNat nn)))), .second, .unset, .unset, .unset, .unset] [])
        refine go_st (fun _ kq => XS.iloadN X65.here hx rfl (hb hby at_199) rfl kq) ?_
        show Go p e below s _ _ _ T65 (mkF m 200 #[.val (.long x0), .second, .val (.int x1), .val (.int x2), .val (.int x3), .val (.int x4), .val (.long x5), .second, .val (.int (x4 &&& (3 : Int32))), .val (.long (Int64.ofNat nn)), .second, .val (.long (Int64.ofNat rr)), .second, .val (.long ((x1.toInt64 * (Int64.ofNat nn)) + (Int64.ofNat rr))), .second, .val (.ref a58), .val (.double (FP.ddiv (FP.l2d ((x1.toInt64 * (Int64.ofNat nn)) + (Int64.ofNat rr))) (FP.l2d (Int64.ofNat nn)))), .second, .unset, .unset, .unset, .unset] [(.int x1)])
        refine go_st (fun _ kq => XS.i2dS X65.here hx rfl (hb hby at_200) rfl rfl kq) ?_
        show Go p e below s _ _ _ T65 (mkF m 201 #[.val (.long x0), .second, .val (.int x1), .val (.int x2), .val (.int x3), .val (.int x4), .val (.long x5), .second, .val (.int (x4 &&& (3 : Int32))), .val (.long (Int64.ofNat nn)), .second, .val (.long (Int64.ofNat rr)), .second, .val (.long ((x1.toInt64 * (Int64.ofNat nn)) + (Int64.ofNat rr))), .second, .val (.ref a58), .val (.double (FP.ddiv (FP.l2d ((x1.toInt64 * (Int64.ofNat nn)) + (Int64.ofNat rr))) (FP.l2d (Int64.ofNat nn)))), .second, .unset, .unset, .unset, .unset] [(.double (FP.i2d x1))])
        refine go_st (fun _ kq => XS.dstore X65.here hx rfl (hb hby at_201) rfl (l' := #[.val (.long x0), .second, .val (.int x1), .val (.int x2), .val (.int x3), .val (.int x4), .val (.long x5), .second, .val (.int (x4 &&& (3 : Int32))), .val (.long (Int64.ofNat nn)), .second, .val (.long (Int64.ofNat rr)), .second, .val (.long ((x1.toInt64 * (Int64.ofNat nn)) + (Int64.ofNat rr))), .second, .val (.ref a58), .val (.double (FP.ddiv (FP.l2d ((x1.toInt64 * (Int64.ofNat nn)) + (Int64.ofNat rr))) (FP.l2d (Int64.ofNat nn)))), .second, .val (.double (FP.i2d x1)), .second, .unset, .unset]) rfl kq) ?_
        show Go p e below s _ _ _ T65 (mkF m 203 #[.val (.long x0), .second, .val (.int x1), .val (.int x2), .val (.int x3), .val (.int x4), .val (.long x5), .second, .val (.int (x4 &&& (3 : Int32))), .val (.long (Int64.ofNat nn)), .second, .val (.long (Int64.ofNat rr)), .second, .val (.long ((x1.toInt64 * (Int64.ofNat nn)) + (Int64.ofNat rr))), .second, .val (.ref a58), .val (.double (FP.ddiv (FP.l2d ((x1.toInt64 * (Int64.ofNat nn)) + (Int64.ofNat rr))) (FP.l2d (Int64.ofNat nn)))), .second, .val (.double (FP.i2d x1)), .second, .unset, .unset] [])
        refine go_st (fun _ kq => XS.iloadN X65.here hx rfl (hb hby at_203) rfl kq) ?_
        show Go p e below s _ _ _ T65 (mkF m 204 #[.val (.long x0), .second, .val (.int x1), .val (.int x2), .val (.int x3), .val (.int x4), .val (.long x5), .second, .val (.int (x4 &&& (3 : Int32))), .val (.long (Int64.ofNat nn)), .second, .val (.long (Int64.ofNat rr)), .second, .val (.long ((x1.toInt64 * (Int64.ofNat nn)) + (Int64.ofNat rr))), .second, .val (.ref a58), .val (.double (FP.ddiv (FP.l2d ((x1.toInt64 * (Int64.ofNat nn)) + (Int64.ofNat rr))) (FP.l2d (Int64.ofNat nn)))), .second, .val (.double (FP.i2d x1)), .second, .unset, .unset] [(.int x1)])
        refine go_st (fun _ kq => XS.i2dS X65.here hx rfl (hb hby at_204) rfl rfl kq) ?_
        show Go p e below s _ _ _ T65 (mkF m 205 #[.val (.long x0), .second, .val (.int x1), .val (.int x2), .val (.int x3), .val (.int x4), .val (.long x5), .second, .val (.int (x4 &&& (3 : Int32))), .val (.long (Int64.ofNat nn)), .second, .val (.long (Int64.ofNat rr)), .second, .val (.long ((x1.toInt64 * (Int64.ofNat nn)) + (Int64.ofNat rr))), .second, .val (.ref a58), .val (.double (FP.ddiv (FP.l2d ((x1.toInt64 * (Int64.ofNat nn)) + (Int64.ofNat rr))) (FP.l2d (Int64.ofNat nn)))), .second, .val (.double (FP.i2d x1)), .second, .unset, .unset] [(.double (FP.i2d x1))])
        refine go_st (fun _ kq => XS.dconst1 X65.here hx rfl (hb hby at_205) rfl kq) ?_
        show Go p e below s _ _ _ T65 (mkF m 206 #[.val (.long x0), .second, .val (.int x1), .val (.int x2), .val (.int x3), .val (.int x4), .val (.long x5), .second, .val (.int (x4 &&& (3 : Int32))), .val (.long (Int64.ofNat nn)), .second, .val (.long (Int64.ofNat rr)), .second, .val (.long ((x1.toInt64 * (Int64.ofNat nn)) + (Int64.ofNat rr))), .second, .val (.ref a58), .val (.double (FP.ddiv (FP.l2d ((x1.toInt64 * (Int64.ofNat nn)) + (Int64.ofNat rr))) (FP.l2d (Int64.ofNat nn)))), .second, .val (.double (FP.i2d x1)), .second, .unset, .unset] [(.double (FP.dconst1)), (.double (FP.i2d x1))])
        refine go_st (fun _ kq => XS.daddS X65.here hx rfl (hb hby at_206) rfl (own_nnh _) rfl kq) ?_
        show Go p e below s _ _ _ T65 (mkF m 207 #[.val (.long x0), .second, .val (.int x1), .val (.int x2), .val (.int x3), .val (.int x4), .val (.long x5), .second, .val (.int (x4 &&& (3 : Int32))), .val (.long (Int64.ofNat nn)), .second, .val (.long (Int64.ofNat rr)), .second, .val (.long ((x1.toInt64 * (Int64.ofNat nn)) + (Int64.ofNat rr))), .second, .val (.ref a58), .val (.double (FP.ddiv (FP.l2d ((x1.toInt64 * (Int64.ofNat nn)) + (Int64.ofNat rr))) (FP.l2d (Int64.ofNat nn)))), .second, .val (.double (FP.i2d x1)), .second, .unset, .unset] [(.double (FP.dadd (FP.i2d x1) (FP.dconst1)))])
        refine go_st (fun _ kq => XS.dstore X65.here hx rfl (hb hby at_207) rfl (l' := #[.val (.long x0), .second, .val (.int x1), .val (.int x2), .val (.int x3), .val (.int x4), .val (.long x5), .second, .val (.int (x4 &&& (3 : Int32))), .val (.long (Int64.ofNat nn)), .second, .val (.long (Int64.ofNat rr)), .second, .val (.long ((x1.toInt64 * (Int64.ofNat nn)) + (Int64.ofNat rr))), .second, .val (.ref a58), .val (.double (FP.ddiv (FP.l2d ((x1.toInt64 * (Int64.ofNat nn)) + (Int64.ofNat rr))) (FP.l2d (Int64.ofNat nn)))), .second, .val (.double (FP.i2d x1)), .second, .val (.double (FP.dadd (FP.i2d x1) (FP.dconst1))), .second]) rfl kq) ?_
        show Go p e below s _ _ _ T65 (mkF m 209 #[.val (.long x0), .second, .val (.int x1), .val (.int x2), .val (.int x3), .val (.int x4), .val (.long x5), .second, .val (.int (x4 &&& (3 : Int32))), .val (.long (Int64.ofNat nn)), .second, .val (.long (Int64.ofNat rr)), .second, .val (.long ((x1.toInt64 * (Int64.ofNat nn)) + (Int64.ofNat rr))), .second, .val (.ref a58), .val (.double (FP.ddiv (FP.l2d ((x1.toInt64 * (Int64.ofNat nn)) + (Int64.ofNat rr))) (FP.l2d (Int64.ofNat nn)))), .second, .val (.double (FP.i2d x1)), .second, .val (.double (FP.dadd (FP.i2d x1) (FP.dconst1))), .second] [])
        refine go_st (fun _ kq => XS.dload X65.here hx rfl (hb hby at_209) rfl kq) ?_
        show Go p e below s _ _ _ T65 (mkF m 211 #[.val (.long x0), .second, .val (.int x1), .val (.int x2), .val (.int x3), .val (.int x4), .val (.long x5), .second, .val (.int (x4 &&& (3 : Int32))), .val (.long (Int64.ofNat nn)), .second, .val (.long (Int64.ofNat rr)), .second, .val (.long ((x1.toInt64 * (Int64.ofNat nn)) + (Int64.ofNat rr))), .second, .val (.ref a58), .val (.double (FP.ddiv (FP.l2d ((x1.toInt64 * (Int64.ofNat nn)) + (Int64.ofNat rr))) (FP.l2d (Int64.ofNat nn)))), .second, .val (.double (FP.i2d x1)), .second, .val (.double (FP.dadd (FP.i2d x1) (FP.dconst1))), .second] [(.double (FP.ddiv (FP.l2d ((x1.toInt64 * (Int64.ofNat nn)) + (Int64.ofNat rr))) (FP.l2d (Int64.ofNat nn))))])
        refine go_st (fun _ kq => XS.dload X65.here hx rfl (hb hby at_211) rfl kq) ?_
        show Go p e below s _ _ _ T65 (mkF m 213 #[.val (.long x0), .second, .val (.int x1), .val (.int x2), .val (.int x3), .val (.int x4), .val (.long x5), .second, .val (.int (x4 &&& (3 : Int32))), .val (.long (Int64.ofNat nn)), .second, .val (.long (Int64.ofNat rr)), .second, .val (.long ((x1.toInt64 * (Int64.ofNat nn)) + (Int64.ofNat rr))), .second, .val (.ref a58), .val (.double (FP.ddiv (FP.l2d ((x1.toInt64 * (Int64.ofNat nn)) + (Int64.ofNat rr))) (FP.l2d (Int64.ofNat nn)))), .second, .val (.double (FP.i2d x1)), .second, .val (.double (FP.dadd (FP.i2d x1) (FP.dconst1))), .second] [(.double (FP.i2d x1)), (.double (FP.ddiv (FP.l2d ((x1.toInt64 * (Int64.ofNat nn)) + (Int64.ofNat rr))) (FP.l2d (Int64.ofNat nn))))])
        refine go_st (fun _ kq => XS.dcmpS X65.here hx rfl (hb hby at_213) rfl rfl kq) ?_
        show Go p e below s _ _ _ T65 (mkF m 214 #[.val (.long x0), .second, .val (.int x1), .val (.int x2), .val (.int x3), .val (.int x4), .val (.long x5), .second, .val (.int (x4 &&& (3 : Int32))), .val (.long (Int64.ofNat nn)), .second, .val (.long (Int64.ofNat rr)), .second, .val (.long ((x1.toInt64 * (Int64.ofNat nn)) + (Int64.ofNat rr))), .second, .val (.ref a58), .val (.double (FP.ddiv (FP.l2d ((x1.toInt64 * (Int64.ofNat nn)) + (Int64.ofNat rr))) (FP.l2d (Int64.ofNat nn)))), .second, .val (.double (FP.i2d x1)), .second, .val (.double (FP.dadd (FP.i2d x1) (FP.dconst1))), .second] [(.int (cmpValue (FP.dcmp (FP.ddiv (FP.l2d ((x1.toInt64 * (Int64.ofNat nn)) + (Int64.ofNat rr))) (FP.l2d (Int64.ofNat nn))) (FP.i2d x1)) .l))])
        have hb67 : (0 : Int32) < (cmpValue (FP.dcmp (FP.ddiv (FP.l2d ((x1.toInt64 * (Int64.ofNat nn)) + (Int64.ofNat rr))) (FP.l2d (Int64.ofNat nn))) (FP.i2d x1)) .l) := by rw [(own_m3 x1 hn1 hn2 hr1 hr2).1]; decide
        refine go_st (fun _ kq => XS.ifNo X65.here hx rfl (hb hby at_214) rfl (XT.i0_le_f hb67) kq) ?_
        show Go p e below s _ _ _ T65 (mkF m 217 #[.val (.long x0), .second, .val (.int x1), .val (.int x2), .val (.int x3), .val (.int x4), .val (.long x5), .second, .val (.int (x4 &&& (3 : Int32))), .val (.long (Int64.ofNat nn)), .second, .val (.long (Int64.ofNat rr)), .second, .val (.long ((x1.toInt64 * (Int64.ofNat nn)) + (Int64.ofNat rr))), .second, .val (.ref a58), .val (.double (FP.ddiv (FP.l2d ((x1.toInt64 * (Int64.ofNat nn)) + (Int64.ofNat rr))) (FP.l2d (Int64.ofNat nn)))), .second, .val (.double (FP.i2d x1)), .second, .val (.double (FP.dadd (FP.i2d x1) (FP.dconst1))), .second] [])
        refine go_st (fun _ kq => XS.dload X65.here hx rfl (hb hby at_217) rfl kq) ?_
        show Go p e below s _ _ _ T65 (mkF m 219 #[.val (.long x0), .second, .val (.int x1), .val (.int x2), .val (.int x3), .val (.int x4), .val (.long x5), .second, .val (.int (x4 &&& (3 : Int32))), .val (.long (Int64.ofNat nn)), .second, .val (.long (Int64.ofNat rr)), .second, .val (.long ((x1.toInt64 * (Int64.ofNat nn)) + (Int64.ofNat rr))), .second, .val (.ref a58), .val (.double (FP.ddiv (FP.l2d ((x1.toInt64 * (Int64.ofNat nn)) + (Int64.ofNat rr))) (FP.l2d (Int64.ofNat nn)))), .second, .val (.double (FP.i2d x1)), .second, .val (.double (FP.dadd (FP.i2d x1) (FP.dconst1))), .second] [(.double (FP.ddiv (FP.l2d ((x1.toInt64 * (Int64.ofNat nn)) + (Int64.ofNat rr))) (FP.l2d (Int64.ofNat nn))))])
        refine go_st (fun _ kq => XS.dload X65.here hx rfl (hb hby at_219) rfl kq) ?_
        show Go p e below s _ _ _ T65 (mkF m 221 #[.val (.long x0), .second, .val (.int x1), .val (.int x2), .val (.int x3), .val (.int x4), .val (.long x5), .second, .val (.int (x4 &&& (3 : Int32))), .val (.long (Int64.ofNat nn)), .second, .val (.long (Int64.ofNat rr)), .second, .val (.long ((x1.toInt64 * (Int64.ofNat nn)) + (Int64.ofNat rr))), .second, .val (.ref a58), .val (.double (FP.ddiv (FP.l2d ((x1.toInt64 * (Int64.ofNat nn)) + (Int64.ofNat rr))) (FP.l2d (Int64.ofNat nn)))), .second, .val (.double (FP.i2d x1)), .second, .val (.double (FP.dadd (FP.i2d x1) (FP.dconst1))), .second] [(.double (FP.dadd (FP.i2d x1) (FP.dconst1))), (.double (FP.ddiv (FP.l2d ((x1.toInt64 * (Int64.ofNat nn)) + (Int64.ofNat rr))) (FP.l2d (Int64.ofNat nn))))])
        refine go_st (fun _ kq => XS.dcmpS X65.here hx rfl (hb hby at_221) rfl rfl kq) ?_
        show Go p e below s _ _ _ T65 (mkF m 222 #[.val (.long x0), .second, .val (.int x1), .val (.int x2), .val (.int x3), .val (.int x4), .val (.long x5), .second, .val (.int (x4 &&& (3 : Int32))), .val (.long (Int64.ofNat nn)), .second, .val (.long (Int64.ofNat rr)), .second, .val (.long ((x1.toInt64 * (Int64.ofNat nn)) + (Int64.ofNat rr))), .second, .val (.ref a58), .val (.double (FP.ddiv (FP.l2d ((x1.toInt64 * (Int64.ofNat nn)) + (Int64.ofNat rr))) (FP.l2d (Int64.ofNat nn)))), .second, .val (.double (FP.i2d x1)), .second, .val (.double (FP.dadd (FP.i2d x1) (FP.dconst1))), .second] [(.int (cmpValue (FP.dcmp (FP.ddiv (FP.l2d ((x1.toInt64 * (Int64.ofNat nn)) + (Int64.ofNat rr))) (FP.l2d (Int64.ofNat nn))) (FP.dadd (FP.i2d x1) (FP.dconst1))) .g))])
        have hb68 : (cmpValue (FP.dcmp (FP.ddiv (FP.l2d ((x1.toInt64 * (Int64.ofNat nn)) + (Int64.ofNat rr))) (FP.l2d (Int64.ofNat nn))) (FP.dadd (FP.i2d x1) (FP.dconst1))) .g) < (0 : Int32) := by rw [(own_m3 x1 hn1 hn2 hr1 hr2).2]; decide
        refine go_st (fun _ kq => XS.ifNo X65.here hx rfl (hb hby at_222) rfl (XT.i0_ge_f hb68) kq) ?_
        show Go p e below s _ _ _ T65 (mkF m 225 #[.val (.long x0), .second, .val (.int x1), .val (.int x2), .val (.int x3), .val (.int x4), .val (.long x5), .second, .val (.int (x4 &&& (3 : Int32))), .val (.long (Int64.ofNat nn)), .second, .val (.long (Int64.ofNat rr)), .second, .val (.long ((x1.toInt64 * (Int64.ofNat nn)) + (Int64.ofNat rr))), .second, .val (.ref a58), .val (.double (FP.ddiv (FP.l2d ((x1.toInt64 * (Int64.ofNat nn)) + (Int64.ofNat rr))) (FP.l2d (Int64.ofNat nn)))), .second, .val (.double (FP.i2d x1)), .second, .val (.double (FP.dadd (FP.i2d x1) (FP.dconst1))), .second] [])
        refine go_st (fun _ kq => XT.iconstV X65.here hx rfl (1 : Int32) (hb hby at_225) (by decide) kq) ?_
        show Go p e below s _ _ _ T65 (mkF m 226 #[.val (.long x0), .second, .val (.int x1), .val (.int x2), .val (.int x3), .val (.int x4), .val (.long x5), .second, .val (.int (x4 &&& (3 : Int32))), .val (.long (Int64.ofNat nn)), .second, .val (.long (Int64.ofNat rr)), .second, .val (.long ((x1.toInt64 * (Int64.ofNat nn)) + (Int64.ofNat rr))), .second, .val (.ref a58), .val (.double (FP.ddiv (FP.l2d ((x1.toInt64 * (Int64.ofNat nn)) + (Int64.ofNat rr))) (FP.l2d (Int64.ofNat nn)))), .second, .val (.double (FP.i2d x1)), .second, .val (.double (FP.dadd (FP.i2d x1) (FP.dconst1))), .second] [(.int (1 : Int32))])
        refine go_st (fun _ kq => XS.goto X65.here hx rfl (pc0 := 226) (pc' := 230) rfl (hb hby at_226) (by decide) (by decide) kq) ?_
        show Go p e below s _ _ _ T65 (mkF m 230 #[.val (.long x0), .second, .val (.int x1), .val (.int x2), .val (.int x3), .val (.int x4), .val (.long x5), .second, .val (.int (x4 &&& (3 : Int32))), .val (.long (Int64.ofNat nn)), .second, .val (.long (Int64.ofNat rr)), .second, .val (.long ((x1.toInt64 * (Int64.ofNat nn)) + (Int64.ofNat rr))), .second, .val (.ref a58), .val (.double (FP.ddiv (FP.l2d ((x1.toInt64 * (Int64.ofNat nn)) + (Int64.ofNat rr))) (FP.l2d (Int64.ofNat nn)))), .second, .val (.double (FP.i2d x1)), .second, .val (.double (FP.dadd (FP.i2d x1) (FP.dconst1))), .second] [(.int (1 : Int32))])
        exact go_retB (w := (1 : Int32)) X65 hx hlk hret (hb hby at_230) (by decide) (by decide) (by decide) ⟨rfl, N65⟩
set_option maxRecDepth 65536 in
set_option maxHeartbeats 4000000 in
theorem comes_1 {Post : Tables → Env → Array Value → State → Outcome → State → Prop} (hpost : ∀ tb e args s v u, (limb_1_1.after args s (.returned v) u = true ∧ limb_1_2.after args s (.returned v) u = true ∧ True) → FrameEnd s (.returned v) u (Jvm.fieldLocs frame_1_writes args s ++ Jvm.arrayLocs frame_1_arrays args s ++ Jvm.staticLocs frame_1_statics s) 16 128 → Post tb e args s (.returned v) u) :
    ArmFor flags0 classFile x code maxLocals ret World_1 tables_1 room_1 Calls_1 rest_1 Pre_1 Post := by
  intro l hfl _ _ p e ha hc hk s m args below hf hA hF happ hP
  obtain ⟨hcalls, hrest, hpre⟩ := hP
  obtain ⟨-, -, -, hnamed, -, -, -, hat⟩ := (Spec.applies_iff hf).mp happ
  obtain ⟨hg, hn⟩ := and_e (Cond.before_iff.mp (show (Jvm.Cond.and given_1 narrow_1).before args s = true from hpre))
  obtain ⟨k1, r1⟩ := and_e hg
  obtain ⟨g0, r2⟩ := and_e r1
  obtain ⟨g1, r3⟩ := and_e r2
  obtain ⟨g2, r4⟩ := and_e r3
  obtain ⟨g3, r5⟩ := and_e r4
  obtain ⟨g4, r6⟩ := and_e r5
  have g5 := r6
  obtain ⟨w0, w1, w2, w3, w4, w5, rfl⟩ : ∃ w0 w1 w2 w3 w4 w5 : Value, args = #[w0, w1, w2, w3, w4, w5] := by
    have hs : args.size = 6 := by simpa [Cond.value, given_1] using k1
    obtain ⟨L⟩ := args
    match L, hs with
    | [w0, w1, w2, w3, w4, w5], _ => exact ⟨w0, w1, w2, w3, w4, w5, rfl⟩
  have hw := fun d (hd : d ∈ tables_1) => atoms_spec (ws := Jvm.Cond.code x code maxLocals ret :: tables_1) hat d (List.mem_cons_of_mem _ hd)
  have hfit : Fit s := fun {y c} hc i hi => by
    obtain ⟨ha, rfl⟩ := Array.getElem?_eq_some_iff.mp hc
    have q := List.all_eq_true.mp ((Array.all_eq_true_iff_forall_mem.mp hF) _ (Array.getElem_mem ha)) i (List.mem_range.mpr hi)
    simpa [Array.getElem?_eq_getElem hi] using q
  obtain ⟨i0, f0⟩ := isL_v g0
  obtain rfl : w0 = (.long i0) := Option.some.inj f0
  obtain ⟨i1, f1⟩ := is_v g1
  obtain rfl : w1 = (.int i1) := Option.some.inj f1
  obtain ⟨i2, f2⟩ := is_v g2
  obtain rfl : w2 = (.int i2) := Option.some.inj f2
  obtain ⟨i3, f3⟩ := is_v g3
  obtain rfl : w3 = (.int i3) := Option.some.inj f3
  obtain ⟨i4, f4⟩ := is_v g4
  obtain rfl : w4 = (.int i4) := Option.some.inj f4
  obtain ⟨i5, f5⟩ := isL_v g5
  obtain rfl : w5 = (.long i5) := Option.some.inj f5
  have hm := met_law l s _ hw i0 i1 i2 i3 i4 i5 s.heap s.heap.size (Nat.le_refl _)
  obtain ⟨n, o, h1, h2, h3, _, L, rfl, ⟨rfl, N⟩, hq⟩ := hm p e ha hc hk s m _ below hf ((Spec.applies_iff_loose hf).mp happ).1 ⟨rfl, State.Warmed39.refl s, rfl⟩ trivial
  refine ⟨n, _, h1, h2, h3, hpost _ _ _ _ _ _ ⟨Cond.after_iff.mpr rfl, Cond.after_iff.mpr (eq_i res_at (Term.int_eval (1)) rfl), trivial⟩ ⟨hq.1, hq.2.1, (hq.2.2.sift fun y hy => Or.inr (N y hy)).mono (by decide) (by decide)⟩⟩
theorem main_1_1 : Claimed_1_1 := comes_1 fun _ _ _ _ _ _ h hF => ⟨h.1, hF⟩
theorem main_1_2 : Claimed_1_2 := comes_1 fun _ _ _ _ _ _ h hF => ⟨h.2.1, hF⟩
end Jvm.Pilot.@@N@@
namespace Jvm.Pilot.@@N@@
open Jvm Jvm.ClassFile Sem Op Lib Jvm.Free Jvm.Stand Jvm.Pilot.@@N@@.Jvm.D
/-! MADE BY PROGRAM (witnessworld.py) out of the Statement's table words and the real class files: 9 classes; the members and pool entries that the words name. The judged class is class 1, her method 1. -/
namespace start1
open Jvm.ClassFile
def u (s : String) : CpInfo := .utf8 (stringToUtf16 s)
/-- a pool by its gaps: so many unusable entries, then the entry; so many at the end -/
def gap : Nat → List CpInfo → List CpInfo
  | 0, r => r
  | n + 1, r => .unusable :: gap n r
def poolList (es : List (Nat × CpInfo)) (last : Nat) : List CpInfo := es.foldr (fun e r => gap e.1 (e.2 :: r)) (gap last [])
def pool (es : List (Nat × CpInfo)) (last : Nat) : Array CpInfo := ⟨poolList es last⟩
def fileOf (pool : Array CpInfo) (this : Nat) (attrs : Array Attribute := #[]) (ms : Array MethodInfo := #[]) (fl : Nat := 33) (sup : Nat := 0) (ifs : Array Nat := #[]) (fds : Array FieldInfo := #[]) : ClassFile where
  minorVersion := 0
  majorVersion := 65
  constantPool := pool
  accessFlags := fl
  thisClass := this
  superClass := sup
  interfaces := ifs
  fields := fds
  methods := ms
  attributes := attrs
def plain (name : String) (sup : Option ClassId) : Class where
  name := name
  kind := .ordinary
  loader := none
  accessFlags := 33
  super := sup
  interfaces := #[]
  cf := none
  fields := #[]
  methods := #[]
  instanceTypes := #[]
  staticTypes := #[]
  resolved := #[]
  callSites := []
  init := .initialized
  statics := none
  mirror := none

def pool0 : Array CpInfo := pool [(5, u "<init>"), (0, u "()V"), (1, .class_ 10), (1, u "java/lang/Object")] 113

def k0c0 : Code := { maxStack := 0, maxLocals := 1, code := object_method_1_code, exceptionTable := #[], attributes := #[] }
def k0m0 : Method := { name := "<init>", desc := "()V", sig := { parameters := [], returnType := none }, accessFlags := 1, code := some k0c0 }
/-- java/lang/Object -/
def k0 : Class := { plain "java/lang/Object" none with
  accessFlags := 33
  interfaces := #[]
  cf := some (fileOf pool0 8 #[] #[{ accessFlags := 1, nameIndex := 5, descriptorIndex := 6, attributes := #[] }] 33 0 #[] #[])
  fields := #[]
  methods := #[k0m0]
  instanceTypes := #[]
  staticTypes := #[]
  resolved := Array.replicate 124 none
  statics := none }

def pool1 : Array CpInfo := pool [(2, .class_ 4), (1, u "java/lang/Object"), (0, u "<init>"), (0, u "()V"), (0, .class_ 8), (0, u "com/example/tourney/tourney/StepStats$Figures"), (0, .methodref 7 10), (0, .nameAndType 5 11), (0, u "(JJJJ)V"), (0, .methodref 7 13), (0, .nameAndType 14 15), (0, u "meanSteps"), (0, u "()D"), (0, .integer 65535), (0, .long 2), (1, .integer 2147483647), (0, .class_ 21), (0, u "com/example/tourney/tourney/FiguresMeanStepsPinLaw"), (2, u "law"), (0, u "(JIIIIJ)Z")] 7

def k1m0 : Method := { name := "<init>", desc := "()V", sig := { parameters := [], returnType := none }, accessFlags := 1, code := none }
def k1c1 : Code := { maxStack := 12, maxLocals := 22, code := code, exceptionTable := #[], attributes := #[] }
def k1m1 : Method := { name := "law", desc := "(JIIIIJ)Z", sig := { parameters := [.long, .int, .int, .int, .int, .long], returnType := some .boolean }, accessFlags := 9, code := some k1c1 }
/-- com/example/tourney/tourney/FiguresMeanStepsPinLaw -/
def k1 : Class := { plain "com/example/tourney/tourney/FiguresMeanStepsPinLaw" (some 0) with
  accessFlags := 49
  interfaces := #[]
  cf := some (fileOf pool1 20 #[] #[{ accessFlags := 1, nameIndex := 5, descriptorIndex := 6, attributes := #[] }, { accessFlags := 9, nameIndex := 24, descriptorIndex := 25, attributes := #[] }] 49 2 #[] #[])
  fields := #[]
  methods := #[k1m0, k1m1]
  instanceTypes := #[]
  staticTypes := #[]
  resolved := Array.replicate 33 none
  statics := none }

def pool2 : Array CpInfo := pool [(1, .methodref 2 3), (0, .class_ 4), (0, .nameAndType 5 6), (0, u "java/lang/Object"), (0, u "<init>"), (0, u "()V"), (0, .fieldref 8 9), (0, .class_ 10), (0, .nameAndType 11 12), (0, u "com/example/tourney/tourney/StepStats$Figures"), (0, u "operations"), (0, u "J"), (0, .fieldref 8 14), (0, .nameAndType 15 12), (0, u "totalSteps"), (0, .fieldref 8 17), (0, .nameAndType 18 12), (0, u "largestSteps"), (0, .fieldref 8 20), (0, .nameAndType 21 12), (0, u "largestCompareAndSwaps"), (2, u "meanSteps"), (0, u "()D"), (4, u "(JJJJ)V"), (9, .class_ 41), (0, u "com/example/tourney/tourney/StepStats")] 16

def k2c0 : Code := { maxStack := 3, maxLocals := 9, code := prog_7_method_1_code, exceptionTable := #[], attributes := #[] }
def k2m0 : Method := { name := "<init>", desc := "(JJJJ)V", sig := { parameters := [.long, .long, .long, .long], returnType := none }, accessFlags := 0, code := some k2c0 }
def k2c1 : Code := { maxStack := 4, maxLocals := 1, code := prog_7_method_4_code, exceptionTable := #[], attributes := #[] }
def k2m1 : Method := { name := "meanSteps", desc := "()D", sig := { parameters := [], returnType := some .double }, accessFlags := 1, code := some k2c1 }
/-- com/example/tourney/tourney/StepStats$Figures -/
def k2 : Class := { plain "com/example/tourney/tourney/StepStats$Figures" (some 0) with
  accessFlags := 49
  interfaces := #[]
  cf := some (fileOf pool2 8 #[.nestHost 40] #[{ accessFlags := 0, nameIndex := 5, descriptorIndex := 30, attributes := #[] }, { accessFlags := 1, nameIndex := 24, descriptorIndex := 25, attributes := #[] }] 49 2 #[] #[{ accessFlags := 18, nameIndex := 11, descriptorIndex := 12, attributes := #[] }, { accessFlags := 18, nameIndex := 15, descriptorIndex := 12, attributes := #[] }, { accessFlags := 18, nameIndex := 18, descriptorIndex := 12, attributes := #[] }, { accessFlags := 18, nameIndex := 21, descriptorIndex := 12, attributes := #[] }])
  fields := #[{ name := "operations", type := .long, accessFlags := 18, slot := 0, constantValue := 0 }, { name := "totalSteps", type := .long, accessFlags := 18, slot := 1, constantValue := 0 }, { name := "largestSteps", type := .long, accessFlags := 18, slot := 2, constantValue := 0 }, { name := "largestCompareAndSwaps", type := .long, accessFlags := 18, slot := 3, constantValue := 0 }]
  methods := #[k2m0, k2m1]
  instanceTypes := #[.long, .long, .long, .long]
  staticTypes := #[]
  resolved := Array.replicate 58 none
  statics := none }

def pool3 : Array CpInfo := pool [(1, u "java/lang/Cloneable"), (0, .class_ 1), (0, u "java/lang/Object"), (0, .class_ 3)] 3

/-- java/lang/Cloneable -/
def k3 : Class := { plain "java/lang/Cloneable" (some 0) with
  accessFlags := 1537
  interfaces := #[]
  cf := some (fileOf pool3 2 #[] #[] 1537 4 #[] #[])
  fields := #[]
  methods := #[]
  instanceTypes := #[]
  staticTypes := #[]
  resolved := Array.replicate 8 none
  statics := none }

def pool4 : Array CpInfo := pool [(1, u "java/io/Serializable"), (0, .class_ 1), (0, u "java/lang/Object"), (0, .class_ 3)] 3

/-- java/io/Serializable -/
def k4 : Class := { plain "java/io/Serializable" (some 0) with
  accessFlags := 1537
  interfaces := #[]
  cf := some (fileOf pool4 2 #[] #[] 1537 4 #[] #[])
  fields := #[]
  methods := #[]
  instanceTypes := #[]
  staticTypes := #[]
  resolved := Array.replicate 8 none
  statics := none }

/-- the primitive byte -/
def k5 : Class := { plain "byte" none with kind := .primitive 'B', accessFlags := 0x411 }
/-- [B -/
def k6 : Class := { plain "[B" (some 0) with kind := .array 5 .byte, interfaces := #[3, 4], accessFlags := 1041 }

/-- the primitive int -/
def k7 : Class := { plain "int" none with kind := .primitive 'I', accessFlags := 0x411 }
/-- [I -/
def k8 : Class := { plain "[I" (some 0) with kind := .array 7 .int, interfaces := #[3, 4], accessFlags := 1041 }

def heap : Heap := #[]
def classes : Array Class := #[k0, k1, k2, k3, k4, k5, k6, k7, k8]
def interned : List (Array UInt16 × Addr) := []
def slotsUsed : Nat := 0
def theMethod : MethodId := ⟨1, 1⟩
def args0 : Array Value := #[.long 5, .int 6, .int 7, .int 8, .int 9, .long 3]
def aboutOver (below : List Frame) : State where
  vm := { classes := classes, interned := interned.toArray }
  heap := heap
  slotsUsed := slotsUsed
  threads := #[{ frames := .invoking theMethod args0 :: below }]
def below0 : List Frame := [.native { method := ⟨0, 0⟩, args := #[] }]
def about1 : State := aboutOver below0
def p0 : Program := .bare "" "" ""
def e0 : Env := launch0.env 0 0 0
theorem w_frames : about1.frames = Frame.invoking theMethod args0 :: below0 := rfl
set_option maxRecDepth 65536 in
theorem w_args : argsFit about1.vm theMethod args0 = true := by decide +kernel
set_option maxRecDepth 65536 in
theorem w_heap : heapFits about1 = true := by decide +kernel
set_option maxRecDepth 65536 in
theorem w_runnable : about1.curStatus? = some .runnable := by decide +kernel
set_option maxRecDepth 65536 in
theorem w_alone : about1.alone = true := by decide +kernel
set_option maxRecDepth 65536 in
theorem w_named : about1.methodNamed? x = some theMethod := by decide +kernel
set_option maxRecDepth 65536 in
theorem w_hears : about1.hears theMethod below0 = true := by decide +kernel
set_option maxRecDepth 65536 in
theorem w_ripe : about1.ripe theMethod args0 below0 = true := by decide +kernel
theorem w_running : about1.status = .running := rfl
set_option maxRecDepth 65536 in
theorem w_room : about1.hasRoom e0.platform room_1 = true :=
  launch0.hasRoom_least _ room_1 (by decide +kernel) (by decide +kernel) (by decide +kernel) (by decide +kernel) (by decide +kernel) (by decide +kernel)
theorem allAtoms_all (ts : List Jvm.Cond) (a : Array Jvm.Value) (st : Jvm.State) : (allAtoms ts).before a st = ts.all (fun c => c.before a st) := by
  induction ts with
  | nil => rfl
  | cons c t ih =>
    show (Jvm.Cond.and c (allAtoms t)).before a st = _
    rw [Jvm.Cond.before_and, ih, List.all_cons]
def words1 : List Jvm.Cond := Jvm.Cond.code x code maxLocals ret :: tables_1
/-- a 'code' word, met by the world's own term for the bytes: nothing is compared byte by byte -/
theorem code_word {y : MethodName} {bytes : ByteArray} {mx : Nat} {rt : Option FieldType} {a : Array Value} {s : State} {m : MethodId} {meth : Method} {c : Code} (h1 : s.methodNamed? y = some m) (h2 : s.vm.method? m = some meth) (h3 : meth.code = some c) (h4 : c.code = bytes)
    (h5 : (c.maxLocals == mx && c.exceptionTable.isEmpty && decide (c.maxStack ≤ mostOperands) && decide (meth.sig.returnType = rt) && !meth.locks && decide (parseMethodDescriptor y.desc = some meth.sig)) = true) : (Jvm.Cond.code y bytes mx rt).before a s = true := by
  simp only [Bool.and_eq_true, beq_iff_eq, Bool.not_eq_true', decide_eq_true_eq] at h5
  obtain ⟨⟨⟨⟨⟨g1, g2⟩, g3⟩, g4⟩, g5⟩, g6⟩ := h5
  simp [Cond.before, Cond.holds, Cond.value, h1, h2, h3, h4, g1, g2, g3, g4, g5, g6]
def isCode : Jvm.Cond → Bool
  | .code _ _ _ _ => true
  | _ => false
theorem all_split {L : List Jvm.Cond} {P : Jvm.Cond → Bool} (h1 : L.all (fun c => isCode c || P c) = true) (h2 : ∀ c ∈ L.filter isCode, P c = true) : L.all P = true := by
  refine List.all_eq_true.mpr fun c hc => ?_
  have h := List.all_eq_true.mp h1 c hc
  rcases Bool.eq_false_or_eq_true (isCode c) with hi | hi
  · exact h2 c (List.mem_filter.mpr ⟨hc, hi⟩)
  · simpa [hi] using h
set_option maxRecDepth 65536 in
theorem w_c0 : (Jvm.Cond.code x code maxLocals ret).before args0 about1 = true := code_word (m := ⟨1, 1⟩) (meth := k1m1) (c := k1c1) (by decide +kernel) rfl rfl rfl (by decide +kernel)
set_option maxRecDepth 65536 in
theorem w_c1 : (Jvm.Cond.code ({ cls := "com/example/tourney/tourney/StepStats$Figures", name := "<init>", desc := "(JJJJ)V" } : Jvm.MethodName) prog_7_method_1_code (9 : Nat) (Option.none : Option Jvm.ClassFile.FieldType)).before args0 about1 = true := code_word (m := ⟨2, 0⟩) (meth := k2m0) (c := k2c0) (by decide +kernel) rfl rfl rfl (by decide +kernel)
set_option maxRecDepth 65536 in
theorem w_c2 : (Jvm.Cond.code ({ cls := "java/lang/Object", name := "<init>", desc := "()V" } : Jvm.MethodName) object_method_1_code (1 : Nat) (Option.none : Option Jvm.ClassFile.FieldType)).before args0 about1 = true := code_word (m := ⟨0, 0⟩) (meth := k0m0) (c := k0c0) (by decide +kernel) rfl rfl rfl (by decide +kernel)
set_option maxRecDepth 65536 in
theorem w_c3 : (Jvm.Cond.code ({ cls := "com/example/tourney/tourney/StepStats$Figures", name := "meanSteps", desc := "()D" } : Jvm.MethodName) prog_7_method_4_code (1 : Nat) (Option.some Jvm.ClassFile.FieldType.double)).before args0 about1 = true := code_word (m := ⟨2, 1⟩) (meth := k2m1) (c := k2c1) (by decide +kernel) rfl rfl rfl (by decide +kernel)
def codes1 : List Jvm.Cond := [Jvm.Cond.code x code maxLocals ret, Jvm.Cond.code ({ cls := "com/example/tourney/tourney/StepStats$Figures", name := "<init>", desc := "(JJJJ)V" } : Jvm.MethodName) prog_7_method_1_code (9 : Nat) (Option.none : Option Jvm.ClassFile.FieldType), Jvm.Cond.code ({ cls := "java/lang/Object", name := "<init>", desc := "()V" } : Jvm.MethodName) object_method_1_code (1 : Nat) (Option.none : Option Jvm.ClassFile.FieldType), Jvm.Cond.code ({ cls := "com/example/tourney/tourney/StepStats$Figures", name := "meanSteps", desc := "()D" } : Jvm.MethodName) prog_7_method_4_code (1 : Nat) (Option.some Jvm.ClassFile.FieldType.double)]
set_option maxRecDepth 65536 in
theorem codes_eq : words1.filter isCode = codes1 := rfl
theorem w_codes : ∀ c ∈ words1.filter isCode, c.before args0 about1 = true := by
  rw [codes_eq]
  intro c hc
  simp only [codes1, List.mem_cons, List.not_mem_nil, or_false] at hc
  rcases hc with rfl | rfl | rfl | rfl
  · exact w_c0
  · exact w_c1
  · exact w_c2
  · exact w_c3
set_option maxRecDepth 65536 in
theorem w_t1 : (words1.take 24).all (fun c => isCode c || c.before args0 about1) = true := by decide +kernel
set_option maxRecDepth 65536 in
theorem w_t2 : (words1.drop 24).all (fun c => isCode c || c.before args0 about1) = true := by decide +kernel
theorem w_tables : (allAtoms (Jvm.Cond.code x code maxLocals ret :: tables_1)).before args0 about1 = true := by
  rw [allAtoms_all]
  show words1.all (fun c => c.before args0 about1) = true
  refine all_split ?_ w_codes
  rw [← List.take_append_drop 24 words1, List.all_append, w_t1, w_t2]
  rfl
set_option maxRecDepth 65536 in
theorem w_case : (Jvm.Cond.and given_1 narrow_1).before args0 about1 = true := by decide +kernel
theorem w_applies : (headSpec (Jvm.Cond.code x code maxLocals ret :: tables_1) room_1).applies x e0.platform about1 = true :=
  (Spec.applies_iff w_frames).mpr ⟨w_running, w_runnable, w_alone, w_named, w_hears, w_ripe, w_room, w_tables⟩
theorem atStart : AtStart classFile x code maxLocals ret World_1 tables_1 room_1 Calls_1 rest_1 Pre_1 launch0 p0 e0 about1 theMethod args0 below0 :=
  ⟨lists_1, trivial, launch0.admits_env _ _ _, launch0.least_env, fairChoices_fair.cas, fairChoices_fair.clock, w_frames, w_args, w_heap, w_applies, trivial, trivial, w_case⟩
end start1
theorem witness_1 : WitnessClaimed_1 := ⟨start1.p0, start1.e0, start1.about1, start1.theMethod, start1.args0, start1.below0, start1.atStart⟩
end Jvm.Pilot.@@N@@
