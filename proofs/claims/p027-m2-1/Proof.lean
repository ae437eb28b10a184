import JvmDerived
import JvmDerived.Pilot.@@N@@Statement
import JvmDerived.Pilot.@@N@@Code
set_option linter.unusedVariables false
set_option linter.unusedSimpArgs false
namespace OwnDy
section OwnDy
open Jvm.FP.Core
theorem own_shift {A X : Nat} {e q : Int} {K : Nat} (he : 0 ≤ e + K) (hq : 0 ≤ q + K) (h : A * 2 ^ (e + K).toNat = X * 2 ^ (q + K).toNat) : A * 2 ^ (e - q).toNat = X * 2 ^ (q - e).toNat := by
  by_cases hc : q ≤ e
  · have h1 : (e + K).toNat = (e - q).toNat + (q + K).toNat := by omega
    have h2 : (q - e).toNat = 0 := by omega
    rw [h1, Nat.pow_add, ← Nat.mul_assoc] at h
    rw [h2, Nat.pow_zero, Nat.mul_one]
    exact Nat.eq_of_mul_eq_mul_right (Nat.two_pow_pos _) h
  · have h1 : (q + K).toNat = (q - e).toNat + (e + K).toNat := by omega
    have h2 : (e - q).toNat = 0 := by omega
    rw [h1, Nat.pow_add, ← Nat.mul_assoc] at h
    rw [h2, Nat.pow_zero, Nat.mul_one]
    exact Nat.eq_of_mul_eq_mul_right (Nat.two_pow_pos _) h
theorem own_qmin : b64.qmin = -1074 := by decide
theorem own_qmax : b64.qmax = 971 := by decide
theorem own_tails : b64.tails = 2 ^ 52 := by decide
theorem own_p : b64.p = 53 := by decide
/-- n / 2^k, for n of at most 53 digits, is a double -/
theorem own_rep (n k : Nat) (hn : n < 2 ^ 53) (hk : k ≤ 1000) : ∃ c q, fits b64 (.fin false c q) ∧ -1074 ≤ q ∧ c * 2 ^ (q + (1074 : Nat)).toNat * 2 ^ k = n * 2 ^ 1074 := by
  by_cases h0 : n = 0
  · refine ⟨0, -1074, by rw [← own_qmin]; exact zero_fits good_b64 false, by omega, ?_⟩
    rw [h0, Nat.zero_mul, Nat.zero_mul, Nat.zero_mul]
  · have hL : n.log2 < 53 := (Nat.log2_lt h0).mpr hn
    have hl1 : 2 ^ n.log2 ≤ n := Nat.log2_self_le h0
    have hl2 : n < 2 ^ (n.log2 + 1) := Nat.lt_log2_self
    refine ⟨n * 2 ^ (52 - n.log2), -(k : Int) - ((52 - n.log2 : Nat) : Int), ⟨?_, ?_, ?_, Or.inr ?_⟩, by omega, ?_⟩
    · rw [own_p]
      have e1 : 2 ^ 53 = 2 ^ (n.log2 + 1) * 2 ^ (52 - n.log2) := by rw [← Nat.pow_add]; congr 1; omega
      rw [e1]
      exact Nat.mul_lt_mul_of_pos_right hl2 (Nat.two_pow_pos _)
    · rw [own_qmin]; omega
    · rw [own_qmax]; omega
    · rw [own_tails]
      have e1 : 2 ^ 52 = 2 ^ n.log2 * 2 ^ (52 - n.log2) := by rw [← Nat.pow_add]; congr 1; omega
      rw [e1]
      exact Nat.mul_le_mul_right _ hl1
    · have e1 : (-(k : Int) - ((52 - n.log2 : Nat) : Int) + (1074 : Nat)).toNat = 1074 - k - (52 - n.log2) := by omega
      rw [e1, Nat.mul_assoc, Nat.mul_assoc, ← Nat.pow_add, ← Nat.pow_add]
      congr 2
      omega
theorem own_exact {A B n k K : Nat} {e : Int} (hB : 0 < B) (hn : n < 2 ^ 53) (hk : k ≤ 1000) (hK : 1074 ≤ K) (he : 0 ≤ e + K) (h : A * 2 ^ (e + K).toNat * 2 ^ k = n * B * 2 ^ K) : ∃ c q, roundRatio b64 false A B e = .fin false c q ∧ -1074 ≤ q ∧ c * 2 ^ (q + (1074 : Nat)).toNat * 2 ^ k = n * 2 ^ 1074 := by
  obtain ⟨c, q, h1, h2, h3⟩ := own_rep n k hn hk
  refine ⟨c, q, roundRatio_exact good_b64 hB h1 (own_shift (K := K) he (by omega) ?_), h2, h3⟩
  have e1 : (q + K).toNat = (q + (1074 : Nat)).toNat + (K - 1074) := by omega
  have e2 : 2 ^ K = 2 ^ 1074 * 2 ^ (K - 1074) := by rw [← Nat.pow_add, Nat.add_sub_cancel' hK]
  refine Nat.eq_of_mul_eq_mul_right (Nat.two_pow_pos k) ?_
  rw [h, e1, e2, Nat.pow_add]
  generalize 2 ^ 1074 = P at *
  generalize 2 ^ (q + (1074 : Nat)).toNat = R at *
  generalize 2 ^ (K - 1074) = U at *
  calc n * B * (P * U) = (n * P) * (B * U) := by ac_rfl
    _ = (c * R * 2 ^ k) * (B * U) := by rw [h3]
    _ = c * B * (R * U) * 2 ^ k := by ac_rfl
/-- the double x is n / 2^k -/
def Dy (x : UInt64) (n k : Nat) : Prop := ∃ c q, val64 x = .fin false c q ∧ -1074 ≤ q ∧ c * 2 ^ (q + (1074 : Nat)).toNat * 2 ^ k = n * 2 ^ 1074
theorem Dy.fin {x : UInt64} {n k : Nat} (h : Dy x n k) : DFin x := by
  obtain ⟨c, q, h1, -⟩ := h
  exact ⟨_, _, _, h1⟩
theorem Dy.div {x y : UInt64} {n k m j r t : Nat} (hx : Dy x n k) (hy : Dy y m j) (hm : 0 < m) (hr : r < 2 ^ 53) (ht : t ≤ 1000) (h : n * 2 ^ j * 2 ^ t = r * m * 2 ^ k) : Dy (ddiv x y) r t := by
  obtain ⟨c, q, h1, h2, h3⟩ := hx
  obtain ⟨d, w, g1, g2, g3⟩ := hy
  have hd : 0 < d := by
    rcases Nat.eq_zero_or_pos d with rfl | hd
    · rw [Nat.zero_mul, Nat.zero_mul] at g3
      exact absurd g3.symm (Nat.ne_of_gt (Nat.mul_pos hm (Nat.two_pow_pos _)))
    · exact hd
  have e0 := val64_ddiv x y
  rw [h1, g1] at e0
  have e1 : quotient b64 (.fin false c q) (.fin false d w) = roundRatio b64 false c d (q - w) := by
    show (if d = 0 then _ else _) = _
    rw [if_neg (by omega)]
    rfl
  rw [e1] at e0
  -- w ≤ 971 as it fits
  have hw : w ≤ 971 := by
    have := val64_fits y
    rw [g1] at this
    have := this.2.2.1
    rw [own_qmax] at this
    exact this
  obtain ⟨c', q', k1, k2, k3⟩ := own_exact (A := c) (B := d) (n := r) (k := t) (K := 4000) (e := q - w) hd hr ht (by omega) (by omega) (by
    have i1 : (q - w + (4000 : Nat)).toNat + (w + (1074 : Nat)).toNat = (q + (1074 : Nat)).toNat + 4000 := by omega
    refine Nat.eq_of_mul_eq_mul_right (Nat.mul_pos (Nat.two_pow_pos (w + (1074 : Nat)).toNat) (Nat.mul_pos (Nat.two_pow_pos k) (Nat.two_pow_pos j))) ?_
    have i2 : 2 ^ (q - w + (4000 : Nat)).toNat * 2 ^ (w + (1074 : Nat)).toNat = 2 ^ (q + (1074 : Nat)).toNat * 2 ^ 4000 := by rw [← Nat.pow_add, ← Nat.pow_add, i1]
    generalize 2 ^ (q - w + (4000 : Nat)).toNat = E1 at *
    generalize 2 ^ (w + (1074 : Nat)).toNat = E2 at *
    generalize 2 ^ (q + (1074 : Nat)).toNat = E3 at *
    generalize 2 ^ 4000 = E4 at *
    generalize 2 ^ 1074 = P at *
    calc c * E1 * 2 ^ t * (E2 * (2 ^ k * 2 ^ j)) = c * (E1 * E2) * 2 ^ t * (2 ^ k * 2 ^ j) := by ac_rfl
      _ = (c * E3 * 2 ^ k) * (E4 * 2 ^ t * 2 ^ j) := by rw [i2]; ac_rfl
      _ = (n * 2 ^ j * 2 ^ t) * (P * E4) := by rw [h3]; ac_rfl
      _ = (m * P) * (r * 2 ^ k * E4) := by rw [h]; ac_rfl
      _ = r * d * E4 * (E2 * (2 ^ k * 2 ^ j)) := by rw [← g3]; ac_rfl)
  exact ⟨c', q', e0.trans k1, k2, k3⟩
theorem Dy.mul {x y : UInt64} {n k m j r t : Nat} (hx : Dy x n k) (hy : Dy y m j) (hr : r < 2 ^ 53) (ht : t ≤ 1000) (h : n * m * 2 ^ t = r * (2 ^ k * 2 ^ j)) : Dy (dmul x y) r t := by
  obtain ⟨c, q, h1, h2, h3⟩ := hx
  obtain ⟨d, w, g1, g2, g3⟩ := hy
  have e0 := val64_dmul x y
  rw [h1, g1] at e0
  have e1 : round b64 (exactProduct (.fin false c q) (.fin false d w)) = roundRatio b64 false (c * d) 1 (q + w) := rfl
  rw [e1] at e0
  obtain ⟨c', q', k1, k2, k3⟩ := own_exact (A := c * d) (B := 1) (n := r) (k := t) (K := 2148) (e := q + w) (by decide) hr ht (by omega) (by omega) (by
    have i1 : (q + w + (2148 : Nat)).toNat = (q + (1074 : Nat)).toNat + (w + (1074 : Nat)).toNat := by omega
    have i2 : 2 ^ 2148 = 2 ^ 1074 * 2 ^ 1074 := by rw [← Nat.pow_add]
    rw [i1, Nat.pow_add, i2]
    refine Nat.eq_of_mul_eq_mul_right (Nat.mul_pos (Nat.two_pow_pos k) (Nat.two_pow_pos j)) ?_
    generalize 2 ^ (w + (1074 : Nat)).toNat = E2 at *
    generalize 2 ^ (q + (1074 : Nat)).toNat = E3 at *
    generalize 2 ^ 1074 = P at *
    calc c * d * (E3 * E2) * 2 ^ t * (2 ^ k * 2 ^ j) = (c * E3 * 2 ^ k) * (d * E2 * 2 ^ j) * 2 ^ t := by ac_rfl
      _ = (n * m * 2 ^ t) * (P * P) := by rw [h3, g3]; ac_rfl
      _ = r * 1 * (P * P) * (2 ^ k * 2 ^ j) := by rw [h]; ac_rfl)
  exact ⟨c', q', e0.trans k1, k2, k3⟩
theorem own_iu {c : Nat} {q e : Int} (he : -1074 ≤ e) (h : e ≤ q) : inUnits c q e * 2 ^ (e + (1074 : Nat)).toNat = c * 2 ^ (q + (1074 : Nat)).toNat := by
  unfold inUnits
  have : (q + (1074 : Nat)).toNat = (q - e).toNat + (e + (1074 : Nat)).toNat := by omega
  rw [this, Nat.pow_add]
  ac_rfl
theorem own_natAbs (a b : Nat) : ((a : Int) + (b : Int)).natAbs = a + b := by omega
theorem Dy.add {x y : UInt64} {n k m j r t : Nat} (hx : Dy x n k) (hy : Dy y m j) (hr : r < 2 ^ 53) (ht : t ≤ 1000) (h : (n * 2 ^ j + m * 2 ^ k) * 2 ^ t = r * (2 ^ k * 2 ^ j)) : Dy (dadd x y) r t := by
  obtain ⟨c, q, h1, h2, h3⟩ := hx
  obtain ⟨d, w, g1, g2, g3⟩ := hy
  have e0 := val64_dadd x y
  rw [h1, g1] at e0
  have e1 : round b64 (exactSum (.fin false c q) (.fin false d w)) = roundRatio b64 false (inUnits c q (min q w) + inUnits d w (min q w)) 1 (min q w) := by
    show roundRatio b64 (sumSign false false (sumUnits false c q false d w (min q w))) (sumUnits false c q false d w (min q w)).natAbs 1 (min q w) = _
    have e2 : sumUnits false c q false d w (min q w) = ((inUnits c q (min q w) : Nat) : Int) + ((inUnits d w (min q w) : Nat) : Int) := by simp [sumUnits, signed]
    rw [e2, own_natAbs]
    have e3 : sumSign false false (((inUnits c q (min q w) : Nat) : Int) + ((inUnits d w (min q w) : Nat) : Int)) = false := by
      unfold sumSign
      split
      · rfl
      · simp; omega
    rw [e3]
  rw [e1] at e0
  obtain ⟨c', q', k1, k2, k3⟩ := own_exact (A := inUnits c q (min q w) + inUnits d w (min q w)) (B := 1) (n := r) (k := t) (K := 1074) (e := min q w) (by decide) hr ht (by omega) (by omega) (by
    have i1 := own_iu (c := c) (q := q) (e := min q w) (by omega) (by omega)
    have i2 := own_iu (c := d) (q := w) (e := min q w) (by omega) (by omega)
    rw [Nat.add_mul, i1, i2]
    refine Nat.eq_of_mul_eq_mul_right (Nat.mul_pos (Nat.two_pow_pos k) (Nat.two_pow_pos j)) ?_
    generalize 2 ^ (w + (1074 : Nat)).toNat = E2 at *
    generalize 2 ^ (q + (1074 : Nat)).toNat = E3 at *
    generalize 2 ^ 1074 = P at *
    calc (c * E3 + d * E2) * 2 ^ t * (2 ^ k * 2 ^ j) = ((c * E3 * 2 ^ k) * 2 ^ j + (d * E2 * 2 ^ j) * 2 ^ k) * 2 ^ t := by
          rw [Nat.add_mul, Nat.add_mul, Nat.add_mul]; congr 1 <;> ac_rfl
      _ = (n * 2 ^ j + m * 2 ^ k) * 2 ^ t * P := by rw [h3, g3, Nat.add_mul, Nat.add_mul, Nat.add_mul]; congr 1 <;> ac_rfl
      _ = r * 1 * P * (2 ^ k * 2 ^ j) := by rw [h]; ac_rfl)
  exact ⟨c', q', e0.trans k1, k2, k3⟩
theorem Dy.val {x : UInt64} {n k : Nat} (h : Dy x n k) : ∃ z : Nat, zval b64 (val64 x) = z ∧ z * 2 ^ k = n * 2 ^ 1074 := by
  obtain ⟨c, q, h1, h2, h3⟩ := h
  refine ⟨c * 2 ^ (q + (1074 : Nat)).toNat, ?_, h3⟩
  rw [h1]
  show signed false (inUnits c q b64.qmin) = _
  rw [own_qmin]
  show ((inUnits c q (-1074) : Nat) : Int) = _
  unfold inUnits
  congr 3
theorem Dy.cmp {x y : UInt64} {n k m j : Nat} (hx : Dy x n k) (hy : Dy y m j) : dcmp x y = some (compare ((n * 2 ^ j : Nat) : Int) ((m * 2 ^ k : Nat) : Int)) := by
  have e0 := dcmp_zval ((notNaN_iff x).mp hx.fin.notNaN) ((notNaN_iff y).mp hy.fin.notNaN)
  obtain ⟨a, h1, h2⟩ := hx.val
  obtain ⟨b, g1, g2⟩ := hy.val
  rw [h1, g1] at e0
  refine Eq.trans e0 ?_
  congr 1
  have p1 : 0 < 2 ^ 1074 := Nat.two_pow_pos _
  have pk := Nat.two_pow_pos k
  have pj := Nat.two_pow_pos j
  clear h1 g1 e0
  generalize 2 ^ 1074 = P at *
  have i1 : n * 2 ^ j * P = a * (2 ^ k * 2 ^ j) := by
    calc n * 2 ^ j * P = (n * P) * 2 ^ j := by ac_rfl
      _ = a * (2 ^ k * 2 ^ j) := by rw [← h2]; ac_rfl
  have i2 : m * 2 ^ k * P = b * (2 ^ k * 2 ^ j) := by
    calc m * 2 ^ k * P = (m * P) * 2 ^ k := by ac_rfl
      _ = b * (2 ^ k * 2 ^ j) := by rw [← g2]; ac_rfl
  have pp : 0 < 2 ^ k * 2 ^ j := Nat.mul_pos pk pj
  generalize 2 ^ k * 2 ^ j = U at *
  generalize n * 2 ^ j = N at *
  generalize m * 2 ^ k = M at *
  have key : ∀ {u v s t : Nat}, u * P = s * U → v * P = t * U → (s < t ↔ u < v) := by
    intro u v s t hu hv
    constructor
    · intro hst
      have : s * U < t * U := Nat.mul_lt_mul_of_pos_right hst pp
      rw [← hu, ← hv] at this
      exact Nat.lt_of_mul_lt_mul_right this
    · intro huv
      have : u * P < v * P := Nat.mul_lt_mul_of_pos_right huv p1
      rw [hu, hv] at this
      exact Nat.lt_of_mul_lt_mul_right this
  have k1 := key i1 i2
  have k2 := key i2 i1
  have c1 : ((a : Int) < (b : Int)) ↔ ((N : Int) < (M : Int)) := by omega
  have c2 : ((a : Int) = (b : Int)) ↔ ((N : Int) = (M : Int)) := by omega
  rw [compare_ite, compare_ite]
  simp only [c1, c2]
theorem Dy.of_l2d {a : Int64} {n : Nat} (h : a.toInt = n) (hn : n < 2 ^ 53) : Dy (l2d a) n 0 := by
  have e0 := val64_l2d a
  have e1 : round b64 (ofInt a.toInt) = roundRatio b64 false n 1 0 := by
    rw [h]
    show roundRatio b64 (decide ((n : Int) < 0)) (n : Int).natAbs 1 0 = _
    have : decide ((n : Int) < 0) = false := by simp
    rw [this]
    rfl
  rw [e1] at e0
  obtain ⟨c', q', k1, k2, k3⟩ := own_exact (A := n) (B := 1) (n := n) (k := 0) (K := 1074) (e := 0) (by decide) hn (by omega) (by omega) (by omega) (by
    have : ((0 : Int) + (1074 : Nat)).toNat = 1074 := by omega
    rw [this]
    generalize 2 ^ 1074 = P
    rw [Nat.pow_zero, Nat.mul_one, Nat.mul_one])
  exact ⟨c', q', e0.trans k1, k2, k3⟩
theorem Dy.of_i2d {a : Int32} {n : Nat} (h : a.toInt = n) : Dy (i2d a) n 0 := by
  rw [i2d_l2d]
  refine Dy.of_l2d (a := a.toInt64) (n := n) ?_ ?_
  · rw [Int32.toInt_toInt64]; exact h
  · have := a.toInt_lt; omega
theorem own_nan64 {x : UInt64} (h : DFin x) : (x &&& 0x7fffffffffffffff) ≤ 0x7ff0000000000000 := by
  obtain ⟨s, c, q, h1⟩ := h
  have h2 : ¬ infBits b64 < mag b64 x.toNat := fun hq => by
    have := (decode_nan x.toNat).mpr hq
    rw [show decode b64 x.toNat = val64 x from rfl, h1] at this
    cases this
  rw [UInt64.le_iff_toNat_le, mask_toNat]
  have e1 : infBits b64 = 9218868437227405312 := by decide
  have e2 : mag b64 x.toNat = x.toNat % 2 ^ 63 := rfl
  have e3 : (0x7ff0000000000000 : UInt64).toNat = 9218868437227405312 := rfl
  omega
theorem own_cmp_eq {x y : UInt64} {n k m j : Nat} (hx : Dy x n k) (hy : Dy y m j) (h : n * 2 ^ j = m * 2 ^ k) : dcmp x y = some .eq := by
  rw [hx.cmp hy, h]
  simp [compare_ite]
theorem own_cmp_lt {x y : UInt64} {n k m j : Nat} (hx : Dy x n k) (hy : Dy y m j) (h : n * 2 ^ j < m * 2 ^ k) : dcmp x y = some .lt := by
  rw [hx.cmp hy, compare_ite, if_pos (by omega)]
theorem own_cmp_gt {x y : UInt64} {n k m j : Nat} (hx : Dy x n k) (hy : Dy y m j) (h : m * 2 ^ k < n * 2 ^ j) : dcmp x y = some .gt := by
  rw [hx.cmp hy, compare_ite, if_neg (by omega), if_neg (by omega)]
end OwnDy
end OwnDy
namespace Jvm.Pilot.@@N@@
open Jvm Jvm.ClassFile Sem Op Lib Jvm.Free Jvm.Stand Jvm.LawKit Jvm.RoadKit Bundle Jvm.Pilot.@@N@@.Jvm.D
/-! own layer: a run that ends well, said backwards -/
section OwnGo
variable {p : Program} {l : Launch} {e : Env} {R : Room} {s : State} {m : MethodId} {args : Array Value} {below : List Frame} {meth : Method} {c : Code} {T T' : State} {locs : List Loc} {cells slots : Nat} {Z : State} {a0 : Array Value} {h : Heap} {Q : Option Value → Heap → List Loc → Prop} {C S maxL0 : Nat} {g g' : JFrame}
def Go (p : Program) (e : Env) (below : List Frame) (s : State) (Q : Option Value → Heap → List Loc → Prop) (C S : Nat) (T : State) (g : JFrame) : Prop :=
  ∃ s₂ o, Steps p.tables e below (T.setTop g) s₂ ∧ s₂.status = .running ∧ Ended s₂ below o ∧ ∃ v L, o = .returned v ∧ Q v s₂.heap L ∧ FrameEnd s o s₂ L C S
def Ct (p : Program) (s : State) (m : MethodId) (meth : Method) (c : Code) (Z : State) (own nm : String) (bytes : ByteArray) (maxL : Nat) (ret : Option FieldType) : Prop :=
  p.tables.exec = Jvm.exec ∧ Z.Warmed39 s.vm ∧ s.vm.findClass own = some m.cls ∧ c.code = bytes ∧ c.maxLocals = maxL ∧ meth.sig.returnType = ret ∧ meth.locks = false ∧ meth.name = nm
theorem go_st (k : ∀ t, Steps p.tables e below (T'.setTop g') t → Steps p.tables e below (T.setTop g) t) (q : Go p e below s Q C S T' g') : Go p e below s Q C S T g := by
  obtain ⟨s2, o, q1, q2⟩ := q
  exact ⟨s2, o, k _ q1, q2⟩
theorem castGo (q : g = g') (k : Go p e below s Q C S T g') : Go p e below s Q C S T g := by rw [q]; exact k
theorem go_tr (k : Steps p.tables e below (T.setTop g) (T'.setTop g')) (q : Go p e below s Q C S T' g') : Go p e below s Q C S T g := by
  obtain ⟨s2, o, q1, q2⟩ := q
  exact ⟨s2, o, k.trans q1, q2⟩
theorem go_end (X : Stand p l e R s m args below meth c T locs cells slots) (hlk : meth.locks = false) {v : Option Value} (hv : meth.sig.returnType = none → v = none)
    (hr : ∀ fs, (∀ (f : JFrame) (acts : List Action), f.method = m → f.locked = none → f.entered = [] → (doReturn e (T.setTop f) acts v).1 = T.setFrames fs) → Steps p.tables e below (T.setTop g) (T.setFrames fs))
    (hC : cells ≤ C) (hS : slots ≤ S) (hQ : Q v T.heap locs) : Go p e below s Q C S T g := by
  obtain ⟨fs, h1, hrun, hended, hW, hsame⟩ := X.leave (v := v) hv hlk
  exact ⟨_, _, hr fs h1, hrun, hended, _, _, rfl, hQ, ⟨_, rfl⟩, hW, hsame.mono hC hS⟩
theorem go_retI (X : Stand p l e R s m args below meth c T locs cells slots) (hx : p.tables.exec = Jvm.exec) (hlk : meth.locks = false) (hret : meth.sig.returnType = some .int) {pc : Nat} {Ls : Array Slot} {z : Int32} {rest : List Value} (hd : decode c.code pc = .ok (.ireturn, 1))
    (hC : cells ≤ C) (hS : slots ≤ S) (hQ : Q (some (.int z)) T.heap locs) : Go p e below s Q C S T (mkF m pc Ls (.int z :: rest)) :=
  go_end X hlk (fun h => by rw [hret] at h; cases h) (fun fs h1 => retOut X hx hret rfl (Or.inl ⟨rfl, Or.inl rfl, _, rfl⟩) hd h1) hC hS hQ
theorem go_retL (X : Stand p l e R s m args below meth c T locs cells slots) (hx : p.tables.exec = Jvm.exec) (hlk : meth.locks = false) (hret : meth.sig.returnType = some .long) {pc : Nat} {Ls : Array Slot} {z : Int64} {rest : List Value} (hd : decode c.code pc = .ok (.lreturn, 1))
    (hC : cells ≤ C) (hS : slots ≤ S) (hQ : Q (some (.long z)) T.heap locs) : Go p e below s Q C S T (mkF m pc Ls (.long z :: rest)) :=
  go_end X hlk (fun h => by rw [hret] at h; cases h) (fun fs h1 => retOut X hx hret rfl (Or.inr (Or.inl ⟨rfl, rfl, _, rfl⟩)) hd h1) hC hS hQ
theorem go_retD (X : Stand p l e R s m args below meth c T locs cells slots) (hx : p.tables.exec = Jvm.exec) (hlk : meth.locks = false) (hret : meth.sig.returnType = some .double) {pc : Nat} {Ls : Array Slot} {z : UInt64} {rest : List Value} (hd : decode c.code pc = .ok (.dreturn, 1))
    (hC : cells ≤ C) (hS : slots ≤ S) (hQ : Q (some (.double z)) T.heap locs) : Go p e below s Q C S T (mkF m pc Ls (.double z :: rest)) :=
  go_end X hlk (fun h => by rw [hret] at h; cases h) (fun fs h1 => retOut X hx hret rfl (Or.inr (Or.inr (Or.inl ⟨rfl, rfl, _, rfl⟩))) hd h1) hC hS hQ
theorem go_retA (X : Stand p l e R s m args below meth c T locs cells slots) (hx : p.tables.exec = Jvm.exec) (hlk : meth.locks = false) {t : FieldType} (hret : meth.sig.returnType = some t) (ht : t.isReference = true) {w : Value} (hw : w.isRef = true) {pc : Nat} {Ls : Array Slot} {rest : List Value} (hd : decode c.code pc = .ok (.areturn, 1))
    (hC : cells ≤ C) (hS : slots ≤ S) (hQ : Q (some w) T.heap locs) : Go p e below s Q C S T (mkF m pc Ls (w :: rest)) :=
  go_end X hlk (fun h => by rw [hret] at h; cases h) (fun fs h1 => retOut X hx hret (by cases t <;> simp_all [FieldType.isReference, narrow] <;> cases w <;> simp_all [Value.isRef, narrow]) (Or.inr (Or.inr (Or.inr (Or.inr ⟨rfl, ht, hw⟩)))) hd h1) hC hS hQ
theorem go_retB (X : Stand p l e R s m args below meth c T locs cells slots) (hx : p.tables.exec = Jvm.exec) (hlk : meth.locks = false) (hret : meth.sig.returnType = some .boolean) {pc : Nat} {Ls : Array Slot} {z w : Int32} {rest : List Value} (hd : decode c.code pc = .ok (.ireturn, 1)) (hw : z &&& 1 = w)
    (hC : cells ≤ C) (hS : slots ≤ S) (hQ : Q (some (.int w)) T.heap locs) : Go p e below s Q C S T (mkF m pc Ls (.int z :: rest)) := by
  subst hw
  exact go_end X hlk (fun h => by rw [hret] at h; cases h) (fun fs h1 => retN X hx (t := .boolean) hret (by simp) hd h1) hC hS hQ
theorem go_ret0 (X : Stand p l e R s m args below meth c T locs cells slots) (hx : p.tables.exec = Jvm.exec) (hlk : meth.locks = false) (hret : meth.sig.returnType = none) {pc : Nat} {Ls : Array Slot} (hd : decode c.code pc = .ok (.return_, 1))
    (hC : cells ≤ C) (hS : slots ≤ S) (hQ : Q none T.heap locs) : Go p e below s Q C S T (mkF m pc Ls []) :=
  go_end X hlk (fun _ => rfl) (fun fs h1 => X.returnOut hx hret hd h1) hC hS hQ
def Met (l : Launch) (y : MethodName) (bytes : ByteArray) (maxL : Nat) (ret : Option FieldType) (ws : List Cond) (rm : Room) (Z : State) (as' : Array Value) (h0 : Heap) (Q : Option Value → Heap → List Loc → Prop) (C S : Nat) : Prop :=
  MetFree l y (head1 (Jvm.Cond.code y bytes maxL ret :: ws) rm) (fun a U => a = as' ∧ Z.Warmed39 U.vm ∧ U.heap = h0) (fun _ _ _ _ _ => True) (fun _ U o U' => ∃ v L, o = .returned v ∧ Q v U'.heap L ∧ FrameEnd U o U' L C S)
def QV (w : Option Value) (h0 : Heap) (n0 : Nat) (v : Option Value) (h : Heap) (L : List Loc) : Prop := v = w ∧ Fr n0 L ∧ h = h0
def QF (w : Option Value) (n0 : Nat) (v : Option Value) (h : Heap) (L : List Loc) : Prop := v = w ∧ Fr n0 L
theorem own_body {y : MethodName} {bytes : ByteArray} {maxL : Nat} {ret : Option FieldType} {rm : Room} {as' : Array Value} {h0 : Heap} {ws : List Cond} (hn : plainFor y = true) {C S : Nat}
    (H : ∀ p e s m below meth c s₁, Ct p s m meth c Z y.cls y.name bytes maxL ret → Stand p l e rm s m as' below meth c s₁ [] 0 0 → s₁.heap = h0 → Go p e below s Q C S s₁ (entryFrame m as' maxL)) :
    Met l y bytes maxL ret ws rm Z as' h0 Q C S := by
  refine MetFree.of_bodySF hn hisR ?_
  intro p e s m args below meth c s₁ Bd hml0 hP hK
  obtain ⟨rfl, hZ, hh⟩ := hP
  have hown : s.vm.findClass y.cls = some m.cls := findClass_of_methodNamed Bd.named
  have hnm := (name_of_methodNamed Bd.named Bd.method).1
  have X0 : Stand p l e rm s m args below meth c s₁ [] 0 0 := Stand.of_body Bd
  have e0 : s₁.heap = h0 := by rw [← hh, Bd.state]; rfl
  exact H p e s m below meth c s₁ ⟨Bd.exec, hZ, hown, Bd.bytes, hml0, Bd.returns, Bd.notSynchronized, hnm⟩ X0 e0
theorem go_callS (X : Stand p l e R s m args below meth c T locs cells slots) (hx : p.tables.exec = Jvm.exec) (hZ : Z.Warmed39 s.vm) (hml : c.maxLocals = maxL0) {own : String} {index : Nat} {y : MethodName} {bytes : ByteArray} {maxL : Nat} {ret : Option FieldType} (hown : s.vm.findClass own = some m.cls)
    (w1 : (Cond.methodLink own index y).before a0 Z = true) (w2 : (Cond.static y).before a0 Z = true) (w3 : (Cond.initialized y.cls).before a0 Z = true) (w4 : (Cond.code y bytes maxL ret).before a0 Z = true) (eT : T.heap = h) {argsL rest : List Value} {rm : Room} {Q' : Option Value → Heap → List Loc → Prop} {W : Nat}
    (hM : Met l y bytes maxL ret [] rm Z argsL.toArray h Q' rm.cells rm.slots)
    (hd : decode c.code g.pc = .ok (.invokestatic index, 3)) (hs : g.stack = argsL.reverse ++ rest) (hg : g.method = m) (hsz : g.locals.size = maxL0) (hlen : ∀ sig, parseMethodDescriptor y.desc = some sig → argsL.length = sig.parameters.length) (hW : 2 * g.monitorRoom + (rest.map fun v => v.category).sum ≤ W)
    (hy : y.cls ≠ "java/lang/invoke/MethodHandle" ∧ y.cls ≠ "java/lang/invoke/VarHandle") (hf : rm.frames + 1 ≤ R.frames) (hl : W + (maxL + 11) + rm.locals ≤ R.locals) (hc : cells + rm.cells ≤ R.cells) (hsl : slots + rm.slots ≤ R.slots)
    (k : ∀ T' v L, Stand p l e R s m args below meth c T' (locs ++ L) (cells + rm.cells) (slots + rm.slots) → Q' v T'.heap L → Go p e below s Q C S T' { g with pc := g.pc + 3, stack := v.toList ++ rest }) : Go p e below s Q C S T g := by
  obtain ⟨v, _, ⟨T1, L1, k1, n1⟩, -, X1, ⟨Lc, hQ, l1, y1, z1⟩, st⟩ := Jvm.LawKit.callS X hx (y := y) hown (mvT hZ w1) (mvT hZ w2) (mvT hZ w3) (mvT hZ w4) hy (backOf (W := W) hM hZ w4 w3 hf hl) (g := g) hg (hsz.trans hml.symm) (argsL := argsL) (rest := rest) hlen hs hW hd (fun _ _ => ⟨rfl, eT, hc, hsl⟩)
  dsimp only [Pt.U, Pt.locs, Pt.cells, Pt.slots] at X1 l1 y1 z1 st hQ
  subst l1 y1 z1
  exact go_st st (k _ _ _ X1 hQ)
theorem go_callV (X : Stand p l e R s m args below meth c T locs cells slots) (hx : p.tables.exec = Jvm.exec) (hZ : Z.Warmed39 s.vm) (hml : c.maxLocals = maxL0) {own K : String} {index : Nat} {y z : MethodName} {bytes : ByteArray} {maxL : Nat} {ret : Option FieldType} (hown : s.vm.findClass own = some m.cls)
    (w1 : (Cond.methodLink own index y).before a0 Z = true) (w2 : (Cond.declares y).before a0 Z = true) (w2' : NotFace s y) (w3 : (Cond.selects K y z).before a0 Z = true) (w3' : (Cond.instanceMethod z).before a0 Z = true) (w4 : (Cond.code z bytes maxL ret).before a0 Z = true) (w5 : (Cond.initialized z.cls).before a0 Z = true) (eT : T.heap = h) {a : Addr} (E : Exa Z h a K) {argsL rest : List Value} {rm : Room} {Q' : Option Value → Heap → List Loc → Prop} {W : Nat}
    (hM : Met l z bytes maxL ret [] rm Z (.ref a :: argsL).toArray h Q' rm.cells rm.slots)
    (hd : decode c.code g.pc = .ok (.invokevirtual index, 3)) (hs : g.stack = argsL.reverse ++ .ref a :: rest) (hg : g.method = m) (hsz : g.locals.size = maxL0) (hlen : ∀ sig, parseMethodDescriptor y.desc = some sig → argsL.length = sig.parameters.length) (hW : 2 * g.monitorRoom + (rest.map fun v => v.category).sum ≤ W)
    (hy : y.cls ≠ "java/lang/invoke/MethodHandle" ∧ y.cls ≠ "java/lang/invoke/VarHandle") (hf : rm.frames + 1 ≤ R.frames) (hl : W + (maxL + 11) + rm.locals ≤ R.locals) (hc : cells + rm.cells ≤ R.cells) (hsl : slots + rm.slots ≤ R.slots)
    (k : ∀ T' v L, Stand p l e R s m args below meth c T' (locs ++ L) (cells + rm.cells) (slots + rm.slots) → Q' v T'.heap L → Go p e below s Q C S T' { g with pc := g.pc + 3, stack := v.toList ++ rest }) : Go p e below s Q C S T g := by
  obtain ⟨cB, kB, q1, q2, q3⟩ := isOf hZ eT E
  obtain ⟨v, _, ⟨T1, L1, k1, n1⟩, -, X1, ⟨Lc, hQ, l1, y1, z1⟩, st⟩ := X.virtualBack hx (y := y) (z := z) hown (mvT hZ w1) (mvT hZ w2) w2' (mvT hZ w3) (mvT hZ w3') hy (backOf (W := W) hM hZ w4 w5 hf hl) q1 q3 (g := g) hg (hsz.trans hml.symm) (Steps.refl _) (argsL := argsL) (rest := rest) hlen hs hW hd (fun _ _ => ⟨rfl, eT, hc, hsl⟩)
  dsimp only [Pt.U, Pt.locs, Pt.cells, Pt.slots] at X1 l1 y1 z1 st hQ
  subst l1 y1 z1
  exact go_tr st (k _ _ _ X1 hQ)
theorem go_callU (X : Stand p l e R s m args below meth c T locs cells slots) (hx : p.tables.exec = Jvm.exec) (hZ : Z.Warmed39 s.vm) (hml : c.maxLocals = maxL0) {own K owner : String} {index : Nat} {y z : MethodName} {bytes : ByteArray} {maxL : Nat} {ret : Option FieldType} (hown : s.vm.findClass own = some m.cls)
    (w1 : (Cond.methodLink own index y).before a0 Z = true) (w2 : (Cond.sameMethod y.cls owner y.name y.desc).before a0 Z = true) (w2' : (Cond.declares ⟨owner, y.name, y.desc⟩).before a0 Z = true) (ho : owner ≠ "java/lang/invoke/MethodHandle" ∧ owner ≠ "java/lang/invoke/VarHandle") (w3 : (Cond.selects K y z).before a0 Z = true) (w3' : (Cond.instanceMethod z).before a0 Z = true) (w4 : (Cond.code z bytes maxL ret).before a0 Z = true) (w5 : (Cond.initialized z.cls).before a0 Z = true) (eT : T.heap = h) {a : Addr} (E : Exa Z h a K) {argsL rest : List Value} {rm : Room} {Q' : Option Value → Heap → List Loc → Prop} {W : Nat}
    (hM : Met l z bytes maxL ret [] rm Z (.ref a :: argsL).toArray h Q' rm.cells rm.slots)
    (hd : decode c.code g.pc = .ok (.invokevirtual index, 3)) (hs : g.stack = argsL.reverse ++ .ref a :: rest) (hg : g.method = m) (hsz : g.locals.size = maxL0) (hlen : ∀ sig, parseMethodDescriptor y.desc = some sig → argsL.length = sig.parameters.length) (hW : 2 * g.monitorRoom + (rest.map fun v => v.category).sum ≤ W)
    (hf : rm.frames + 1 ≤ R.frames) (hl : W + (maxL + 11) + rm.locals ≤ R.locals) (hc : cells + rm.cells ≤ R.cells) (hsl : slots + rm.slots ≤ R.slots)
    (k : ∀ T' v L, Stand p l e R s m args below meth c T' (locs ++ L) (cells + rm.cells) (slots + rm.slots) → Q' v T'.heap L → Go p e below s Q C S T' { g with pc := g.pc + 3, stack := v.toList ++ rest }) : Go p e below s Q C S T g := by
  obtain ⟨cB, kB, q1, q2, q3⟩ := isOf hZ eT E
  obtain ⟨v, _, ⟨T1, L1, k1, n1⟩, -, X1, ⟨Lc, hQ, l1, y1, z1⟩, st⟩ := X.virtualBackUp hx (x := y) (y := z) hown (mvT hZ w1) (mvT hZ w2) (mvT hZ w2') ho (mvT hZ w3) (mvT hZ w3') (backOf (W := W) hM hZ w4 w5 hf hl) q1 q3 (g := g) hg (hsz.trans hml.symm) (Steps.refl _) (argsL := argsL) (rest := rest) hlen hs hW hd (fun _ _ => ⟨rfl, eT, hc, hsl⟩)
  dsimp only [Pt.U, Pt.locs, Pt.cells, Pt.slots] at X1 l1 y1 z1 st hQ
  subst l1 y1 z1
  exact go_tr st (k _ _ _ X1 hQ)
theorem go_callI (X : Stand p l e R s m args below meth c T locs cells slots) (hx : p.tables.exec = Jvm.exec) (hZ : Z.Warmed39 s.vm) (hml : c.maxLocals = maxL0) {own : String} {index : Nat} {y : MethodName} {bytes : ByteArray} {maxL : Nat} (hown : s.vm.findClass own = some m.cls) (hy1 : y.name = "<init>")
    (w1 : (Cond.methodLink own index y).before a0 Z = true) (w2 : (Cond.instanceMethod y).before a0 Z = true) (w4 : (Cond.code y bytes maxL none).before a0 Z = true) (w5 : (Cond.initialized y.cls).before a0 Z = true) (eT : T.heap = h) {a : Addr} {argsL rest : List Value} {rm : Room} {Q' : Option Value → Heap → List Loc → Prop} {W : Nat}
    (hM : Met l y bytes maxL none [] rm Z (.ref a :: argsL).toArray h Q' rm.cells rm.slots)
    (hd : decode c.code g.pc = .ok (.invokespecial index, 3)) (hs : g.stack = argsL.reverse ++ .ref a :: rest) (hg : g.method = m) (hsz : g.locals.size = maxL0) (hlen : ∀ sig, parseMethodDescriptor y.desc = some sig → argsL.length = sig.parameters.length) (hW : 2 * g.monitorRoom + (rest.map fun v => v.category).sum ≤ W)
    (hy : y.cls ≠ "java/lang/invoke/MethodHandle" ∧ y.cls ≠ "java/lang/invoke/VarHandle") (hf : rm.frames + 1 ≤ R.frames) (hl : W + (maxL + 11) + rm.locals ≤ R.locals) (hc : cells + rm.cells ≤ R.cells) (hsl : slots + rm.slots ≤ R.slots)
    (k : ∀ T' v L, Stand p l e R s m args below meth c T' (locs ++ L) (cells + rm.cells) (slots + rm.slots) → Q' v T'.heap L → Go p e below s Q C S T' { g with pc := g.pc + 3, stack := v.toList ++ rest }) : Go p e below s Q C S T g := by
  obtain ⟨v, _, ⟨T1, L1, k1, n1⟩, -, X1, ⟨Lc, hQ, l1, y1, z1⟩, st⟩ := X.specialBack hx (y := y) hy1 hown (mvT hZ w1) (mvT hZ w2) (mvT hZ w4) hy (backOf (W := W) hM hZ w4 w5 hf hl) (g := g) hg (hsz.trans hml.symm) (Steps.refl _) (a := a) (argsL := argsL) (rest := rest) hlen hs hW hd (fun _ _ => ⟨rfl, eT, hc, hsl⟩)
  dsimp only [Pt.U, Pt.locs, Pt.cells, Pt.slots] at X1 l1 y1 z1 st hQ
  subst l1 y1 z1
  exact go_tr st (k _ _ _ X1 hQ)
theorem go_getF (X : Stand p l e R s m args below meth c T locs cells slots) (hx : p.tables.exec = Jvm.exec) (hZ : Z.Warmed39 s.vm) {own R0 O n d host : String} {index : Nat} (hown : s.vm.findClass own = some m.cls) (w : (Cond.fieldLink own index R0 n d).before a0 Z = true ∨ (Cond.fieldLinkNest own index R0 n d host).before a0 Z = true) (via : Via Z R0 O n d)
    (eT : T.heap = h) {a : Addr} {v : Value} (F : Fld Z h a O n d v) {rest : List Value} (hd : decode c.code g.pc = .ok (.getfield index, 3)) (hg : g.method = m) (hs : g.stack = .ref a :: rest)
    (k : ∀ T', Stand p l e R s m args below meth c T' locs cells slots → T'.heap = h → Go p e below s Q C S T' { g with pc := g.pc + 3, stack := v :: rest }) : Go p e below s Q C S T g := by
  obtain ⟨T1, X1, e1, st⟩ := getF X hx hZ hown w via eT F hg hs hd
  exact go_st st (k _ X1 e1)
theorem go_getS (X : Stand p l e R s m args below meth c T locs cells slots) (hx : p.tables.exec = Jvm.exec) (hZ : Z.Warmed39 s.vm) {own R0 O n d host : String} {index : Nat} (hown : s.vm.findClass own = some m.cls) (w : (Cond.fieldLink own index R0 n d).before a0 Z = true ∨ (Cond.fieldLinkNest own index R0 n d host).before a0 Z = true) (via : Via Z R0 O n d)
    (eT : T.heap = h) {v : Value} (F : Sta Z h O n d v) (hd : decode c.code g.pc = .ok (.getstatic index, 3)) (hg : g.method = m)
    (k : ∀ T', Stand p l e R s m args below meth c T' locs cells slots → T'.heap = h → Go p e below s Q C S T' { g with pc := g.pc + 3, stack := v :: g.stack }) : Go p e below s Q C S T g := by
  obtain ⟨T1, X1, e1, st⟩ := getS2 X hx hZ hown w via eT F hg hd
  exact go_st st (k _ X1 e1)
theorem go_putF (X : Stand p l e R s m args below meth c T locs cells slots) (hx : p.tables.exec = Jvm.exec) (hZ : Z.Warmed39 s.vm) {own R0 O n d host K : String} {index kk : Nat} {ty : FieldType} (hown : s.vm.findClass own = some m.cls) (w : (Cond.fieldLink own index R0 n d).before a0 Z = true ∨ (Cond.fieldLinkNest own index R0 n d host).before a0 Z = true) (via : Via Z R0 O n d)
    (eT : T.heap = h) {a : Addr} {v old : Value} (F : Fld Z h a O n d old) (E : Exa Z h a K) (L : (Cond.lays K O n d).before a0 Z = true ∨ ((Cond.laysFinal K O n d).before a0 Z = true ∧ own = O ∧ meth.name = "<init>")) (wi : (Cond.instantiable K kk).before a0 Z = true)
    (hty : parseFieldDescriptor d = some ty) (hn : narrow ty v = v) (hf : fits ty v = true) {rest : List Value} (hd : decode c.code g.pc = .ok (.putfield index, 3)) (hg : g.method = m) (hs : g.stack = v :: .ref a :: rest)
    (k : ∀ T' h', Stand p l e R s m args below meth c T' (locs ++ [⟨a, Jvm.RoadKit.slotOf Z O n d⟩]) cells slots → T'.heap = h' → Wr h h' a (Jvm.RoadKit.slotOf Z O n d) v → Go p e below s Q C S T' { g with pc := g.pc + 3, stack := rest }) : Go p e below s Q C S T g := by
  obtain ⟨T1, h1, X1, e1, W1, st⟩ := putF X hx hZ hown w via eT F E L wi hty hn hf hg hs hd
  exact go_st st (k _ _ X1 e1 W1)
theorem go_newO (X : Stand p l e R s m args below meth c T locs cells slots) (hx : p.tables.exec = Jvm.exec) (hZ : Z.Warmed39 s.vm) {own K : String} {index n : Nat} (hown : s.vm.findClass own = some m.cls) (w : (Cond.classLink own index K).before a0 Z = true) (wi : (Cond.instantiable K n).before a0 Z = true) (wz : (Cond.initialized K).before a0 Z = true) (eT : T.heap = h)
    (hd : decode c.code g.pc = .ok (.new index, 3)) (hg : g.method = m) (hc : cells + 1 ≤ R.cells) (hl : slots + n ≤ R.slots)
    (k : ∀ T' h' a, a = h.size → Stand p l e R s m args below meth c T' locs (cells + 1) (slots + n) → T'.heap = h' → Ext h h' → Exa Z h' a K → (∀ {O nm d : String} {ty : FieldType}, Laid Z a0 K O nm d → parseFieldDescriptor d = some ty → Fld Z h' a O nm d (defaultValue ty)) → Go p e below s Q C S T' { g with pc := g.pc + 3, stack := .ref a :: g.stack }) : Go p e below s Q C S T g := by
  obtain ⟨T1, h1, X1, e1, E1, A1, D1, -, st⟩ := newO X hx hZ hown w wi wz eT hg hd hc hl
  exact go_st st (k _ _ _ rfl X1 e1 E1 A1 D1)
theorem go_initO (X : Stand p l e R s m args below meth c T locs cells slots) (hx : p.tables.exec = Jvm.exec) (hZ : Z.Warmed39 s.vm) (hml : c.maxLocals = maxL0) {own : String} {idx : Nat} (hown : s.vm.findClass own = some m.cls) (w1 : (Cond.methodLink own idx Lib.objectInit).before a0 Z = true) (w2 : (Cond.instanceMethod Lib.objectInit).before a0 Z = true)
    (w3 : (Cond.code Lib.objectInit ⟨#[0xb1]⟩ 1 none).before a0 Z = true) (eT : T.heap = h) {a : Addr} {rest : List Value} (hd : decode c.code g.pc = .ok (.invokespecial idx, 3)) (hg : g.method = m) (hsz : g.locals.size = maxL0) (hs : g.stack = .ref a :: rest)
    (hf : 1 ≤ R.frames) {W : Nat} (hW : 2 * g.monitorRoom + (rest.map fun v => v.category).sum ≤ W) (hl : W + 12 ≤ R.locals)
    (k : ∀ T', Stand p l e R s m args below meth c T' locs cells slots → T'.heap = h → Go p e below s Q C S T' { g with pc := g.pc + 3, stack := rest }) : Go p e below s Q C S T g := by
  obtain ⟨T1, X1, e1, st⟩ := initO X hx hZ hown w1 w2 w3 eT hg (hsz.trans hml.symm) hs hd hf hW hl
  exact go_st st (k _ X1 e1)
theorem own_lrem {tb : Tables} [Ours tb] {target : State} (hh : At T m c below) (hx : tb.exec = Jvm.exec) (hg : g.method = m) {x y : Int64} {rest : List Value} (hd : decode c.code g.pc = .ok (.lrem, 1)) (hs : g.stack = .long y :: .long x :: rest) (hy : y ≠ 0)
    (hr : Steps tb e below (T.setTop { g with pc := g.pc + 1, stack := .long (x % y) :: rest }) target) : Steps tb e below (T.setTop g) target :=
  XT.lrem hh hx hg hd hs hy (by rw [lrem_mod]; exact hr)
/-! arrays, their places by a function -/
def GA (Z : State) (h : Heap) (a : Addr) (ty : FieldType) (n : Nat) (f : Nat → Value) : Prop := ∃ cl : Cell, Arr Z h a cl ty ∧ cl.slots.size = n ∧ n < 2 ^ 31 ∧ ∀ i, i < n → cl.slots[i]? = some (f i)
theorem GA.lt {a : Addr} {ty : FieldType} {n : Nat} {f : Nat → Value} (A : GA Z h a ty n f) : a < h.size := by
  obtain ⟨cl, A1, -⟩ := A
  exact A1.lt
theorem GA.ext {a : Addr} {ty : FieldType} {n : Nat} {f : Nat → Value} {h' : Heap} (A : GA Z h a ty n f) (E : Ext h h') : GA Z h' a ty n f := by
  obtain ⟨cl, A1, r⟩ := A
  exact ⟨cl, A1.ext E, r⟩
theorem GA.other {a b : Addr} {ty : FieldType} {n sl : Nat} {v : Value} {f : Nat → Value} {h' : Heap} (A : GA Z h b ty n f) (W : Wr h h' a sl v) (q : b ≠ a) : GA Z h' b ty n f := by
  obtain ⟨cl, A1, r⟩ := A
  exact ⟨cl, A1.other W q, r⟩
theorem GA.keep {a : Addr} {ty : FieldType} {n : Nat} {f : Nat → Value} {h' : Heap} {ws : List Addr} (A : GA Z h a ty n f) (K : Keep h h' ws) (q : a ∉ ws) : GA Z h' a ty n f := by
  obtain ⟨cl, A1, r⟩ := A
  exact ⟨cl, ⟨K.2.1 _ _ A1.1 q, A1.2⟩, r⟩
theorem GA.congr {a : Addr} {ty : FieldType} {n : Nat} {f f' : Nat → Value} (A : GA Z h a ty n f) (q : ∀ i, i < n → f i = f' i) : GA Z h a ty n f' := by
  obtain ⟨cl, A1, A2, A3, A4⟩ := A
  exact ⟨cl, A1, A2, A3, fun i hi => (A4 i hi).trans (by rw [q i hi])⟩
theorem GA.set {a : Addr} {ty : FieldType} {n j : Nat} {v : Value} {f : Nat → Value} {h' : Heap} (A : GA Z h a ty n f) (W : Wr h h' a j v) : GA Z h' a ty n (fun i => if i = j then v else f i) := by
  obtain ⟨cl, A1, A2, A3, A4⟩ := A
  obtain ⟨c2, w1, w2, w3, w4⟩ := W
  obtain rfl : cl = c2 := Option.some.inj (A1.1.symm.trans w1)
  refine ⟨cl.setSlot j v, A1.same ⟨cl, w1, w2, w3, w4⟩, (sz_set cl j v).trans A2, A3, fun i hi => ?_⟩
  show (cl.slots.setIfInBounds j v)[i]? = _
  rw [Array.getElem?_setIfInBounds]
  by_cases q : i = j
  · subst q
    rw [if_pos rfl, if_pos w3]
    simp only [if_true]
  · rw [if_neg (fun h => q h.symm)]
    simp only [if_neg q]
    exact A4 i hi
theorem GA.len {a : Addr} {ty : FieldType} {n : Nat} {f : Nat → Value} (A : GA Z h a ty n f) : n < 2 ^ 31 := by
  obtain ⟨cl, -, -, A3, -⟩ := A
  exact A3
def OC (Z : State) (h : Heap) (a : Addr) (ty : FieldType) (K : String) : Prop := ∃ cl : Cell, Arr Z h a cl ty ∧ Ovr Z cl.cls K
theorem OC.ext {a : Addr} {ty : FieldType} {K : String} {h' : Heap} (A : OC Z h a ty K) (E : Ext h h') : OC Z h' a ty K := by
  obtain ⟨cl, A1, A2⟩ := A
  exact ⟨cl, A1.ext E, A2⟩
theorem OC.wr {a b : Addr} {ty : FieldType} {K : String} {sl : Nat} {v : Value} {h' : Heap} (A : OC Z h b ty K) (W : Wr h h' a sl v) : OC Z h' b ty K := by
  obtain ⟨cl, A1, A2⟩ := A
  by_cases q : b = a
  · subst q
    exact ⟨_, A1.same W, A2⟩
  · exact ⟨cl, A1.other W q, A2⟩
theorem OC.keep {b : Addr} {ty : FieldType} {K : String} {h' : Heap} {ws : List Addr} (A : OC Z h b ty K) (Kp : Keep h h' ws) : OC Z h' b ty K := by
  obtain ⟨cl, ⟨A1, A3, A4⟩, A2⟩ := A
  obtain ⟨c', q1, q2, q3, q4⟩ := Kp.2.2 _ _ A1
  refine ⟨c', ⟨q1, ?_, by rw [q3]; exact A4⟩, by rw [q2]; exact A2⟩
  unfold State.isArrayOf at A3 ⊢
  rw [q2, q3]
  exact A3
theorem OC.sto {a y : Addr} {ty : FieldType} {K : String} (A : OC Z h a ty K) (I : Ins Z h y K true) : Sto Z h a (.ref y) := by
  obtain ⟨cl, A1, A2⟩ := A
  exact Sto.of A1 A2 I
theorem own_in {j : Int32} {n : Nat} (q : 0 ≤ j.toInt ∧ j.toInt < n) : ¬ (j < 0 ∨ n ≤ j.toNatClampNeg) := by
  have h1 : (j.toNatClampNeg : Int) = j.toInt := by have := q.1; simp only [Int32.toNatClampNeg]; omega
  rw [Int32.lt_iff_toInt_lt]
  have : (0 : Int32).toInt = 0 := rfl
  omega
theorem go_alen (X : Stand p l e R s m args below meth c T locs cells slots) (hx : p.tables.exec = Jvm.exec) (hZ : Z.Warmed39 s.vm) (eT : T.heap = h) {a : Addr} {ty : FieldType} {n : Nat} {f : Nat → Value} (A : GA Z h a ty n f) {rest : List Value}
    (hd : decode c.code g.pc = .ok (.arraylength, 1)) (hg : g.method = m) (hs : g.stack = .ref a :: rest) (w : Int32) (hw : Nat.toInt32 n = w) (k : Go p e below s Q C S T { g with pc := g.pc + 1, stack := .int w :: rest }) : Go p e below s Q C S T g := by
  obtain ⟨cl, A1, rfl, -, -⟩ := A
  subst hw
  exact go_st (fun t => X.arraylength hx (by rw [eT]; exact A1.1) (State.isArrayOf_alike hZ.alike A1.2.1) hg hs hd t) k
theorem go_iald (X : Stand p l e R s m args below meth c T locs cells slots) (hx : p.tables.exec = Jvm.exec) (hZ : Z.Warmed39 s.vm) (eT : T.heap = h) {a : Addr} {n : Nat} {f : Nat → Value} (A : GA Z h a .int n f) {j : Int32} {rest : List Value}
    (hd : decode c.code g.pc = .ok (.iaload, 1)) (hg : g.method = m) (hs : g.stack = .int j :: .ref a :: rest) (q : 0 ≤ j.toInt ∧ j.toInt < n) (w : Value) (hw : f j.toNatClampNeg = w) (k : Go p e below s Q C S T { g with pc := g.pc + 1, stack := w :: rest }) : Go p e below s Q C S T g := by
  obtain ⟨cl, A1, rfl, -, A4⟩ := A
  have q2 := own_in q
  refine go_st (fun t => X.iaload hx (j := j) (v := w) (by rw [eT]; exact A1.1) (State.isArrayOf_alike hZ.alike A1.2.1) A1.2.2 q2 ?_ hg hs hd t) k
  rw [A4 _ (by omega), hw]
theorem go_lald (X : Stand p l e R s m args below meth c T locs cells slots) (hx : p.tables.exec = Jvm.exec) (hZ : Z.Warmed39 s.vm) (eT : T.heap = h) {a : Addr} {n : Nat} {f : Nat → Value} (A : GA Z h a .long n f) {j : Int32} {rest : List Value}
    (hd : decode c.code g.pc = .ok (.laload, 1)) (hg : g.method = m) (hs : g.stack = .int j :: .ref a :: rest) (q : 0 ≤ j.toInt ∧ j.toInt < n) (w : Value) (hw : f j.toNatClampNeg = w) (k : Go p e below s Q C S T { g with pc := g.pc + 1, stack := w :: rest }) : Go p e below s Q C S T g := by
  obtain ⟨cl, A1, rfl, -, A4⟩ := A
  have q2 := own_in q
  refine go_st (fun t => X.laload hx (j := j) (v := w) (by rw [eT]; exact A1.1) (State.isArrayOf_alike hZ.alike A1.2.1) A1.2.2 q2 ?_ hg hs hd t) k
  rw [A4 _ (by omega), hw]
theorem go_bald (X : Stand p l e R s m args below meth c T locs cells slots) (hx : p.tables.exec = Jvm.exec) (hZ : Z.Warmed39 s.vm) (eT : T.heap = h) {a : Addr} {n : Nat} {f : Nat → Value} (A : GA Z h a .byte n f) {j : Int32} {rest : List Value}
    (hd : decode c.code g.pc = .ok (.baload, 1)) (hg : g.method = m) (hs : g.stack = .int j :: .ref a :: rest) (q : 0 ≤ j.toInt ∧ j.toInt < n) (w : Value) (hw : f j.toNatClampNeg = w) (k : Go p e below s Q C S T { g with pc := g.pc + 1, stack := w :: rest }) : Go p e below s Q C S T g := by
  obtain ⟨cl, A1, rfl, -, A4⟩ := A
  have q2 := own_in q
  refine go_st (fun t => X.baloadBytes hx (j := j) (v := w) (by rw [eT]; exact A1.1) (State.isArrayOf_alike hZ.alike A1.2.1) A1.2.2 q2 ?_ hg hs hd t) k
  rw [A4 _ (by omega), hw]
theorem go_cald (X : Stand p l e R s m args below meth c T locs cells slots) (hx : p.tables.exec = Jvm.exec) (hZ : Z.Warmed39 s.vm) (eT : T.heap = h) {a : Addr} {n : Nat} {f : Nat → Value} (A : GA Z h a .char n f) {j : Int32} {rest : List Value}
    (hd : decode c.code g.pc = .ok (.caload, 1)) (hg : g.method = m) (hs : g.stack = .int j :: .ref a :: rest) (q : 0 ≤ j.toInt ∧ j.toInt < n) (w : Value) (hw : f j.toNatClampNeg = w) (k : Go p e below s Q C S T { g with pc := g.pc + 1, stack := w :: rest }) : Go p e below s Q C S T g := by
  obtain ⟨cl, A1, rfl, -, A4⟩ := A
  have q2 := own_in q
  refine go_st (fun t => X.caload hx (j := j) (v := w) (by rw [eT]; exact A1.1) (State.isArrayOf_alike hZ.alike A1.2.1) A1.2.2 q2 ?_ hg hs hd t) k
  rw [A4 _ (by omega), hw]
theorem go_aald (X : Stand p l e R s m args below meth c T locs cells slots) (hx : p.tables.exec = Jvm.exec) (hZ : Z.Warmed39 s.vm) (eT : T.heap = h) {a : Addr} {ty : FieldType} {n : Nat} {f : Nat → Value} (A : GA Z h a ty n f) (hty : ty.isReference = true) {j : Int32} {rest : List Value}
    (hd : decode c.code g.pc = .ok (.aaload, 1)) (hg : g.method = m) (hs : g.stack = .int j :: .ref a :: rest) (q : 0 ≤ j.toInt ∧ j.toInt < n) (w : Value) (hw : f j.toNatClampNeg = w) (k : Go p e below s Q C S T { g with pc := g.pc + 1, stack := w :: rest }) : Go p e below s Q C S T g := by
  obtain ⟨cl, A1, rfl, -, A4⟩ := A
  have q2 := own_in q
  refine go_st (fun t => X.aaload hx (j := j) (v := w) (by rw [eT]; exact A1.1) (State.isArrayOf_alike hZ.alike A1.2.1) hty A1.2.2 q2 ?_ hg hs hd t) k
  rw [A4 _ (by omega), hw]
theorem go_iast (X : Stand p l e R s m args below meth c T locs cells slots) (hx : p.tables.exec = Jvm.exec) (hZ : Z.Warmed39 s.vm) (eT : T.heap = h) {a : Addr} {n : Nat} {f : Nat → Value} (A : GA Z h a .int n f) {j x : Int32} {rest : List Value}
    (hd : decode c.code g.pc = .ok (.iastore, 1)) (hg : g.method = m) (hs : g.stack = .int x :: .int j :: .ref a :: rest) (q : 0 ≤ j.toInt ∧ j.toInt < n)
    (k : ∀ T' h', Stand p l e R s m args below meth c T' (locs ++ [⟨a, j.toNatClampNeg⟩]) cells slots → T'.heap = h' → Wr h h' a j.toNatClampNeg (.int x) → GA Z h' a .int n (fun i => if i = j.toNatClampNeg then .int x else f i) → Go p e below s Q C S T' { g with pc := g.pc + 1, stack := rest }) : Go p e below s Q C S T g := by
  have A' := A
  obtain ⟨cl, A1, rfl, -, A4⟩ := A
  obtain ⟨T1, h1, X1, e1, W1, st⟩ := stI X hx hZ eT A1 (own_in q) hg hs hd
  exact go_st st (k _ _ X1 e1 W1 (A'.set W1))
theorem go_last (X : Stand p l e R s m args below meth c T locs cells slots) (hx : p.tables.exec = Jvm.exec) (hZ : Z.Warmed39 s.vm) (eT : T.heap = h) {a : Addr} {n : Nat} {f : Nat → Value} (A : GA Z h a .long n f) {j : Int32} {x : Int64} {rest : List Value}
    (hd : decode c.code g.pc = .ok (.lastore, 1)) (hg : g.method = m) (hs : g.stack = .long x :: .int j :: .ref a :: rest) (q : 0 ≤ j.toInt ∧ j.toInt < n)
    (k : ∀ T' h', Stand p l e R s m args below meth c T' (locs ++ [⟨a, j.toNatClampNeg⟩]) cells slots → T'.heap = h' → Wr h h' a j.toNatClampNeg (.long x) → GA Z h' a .long n (fun i => if i = j.toNatClampNeg then .long x else f i) → Go p e below s Q C S T' { g with pc := g.pc + 1, stack := rest }) : Go p e below s Q C S T g := by
  have A' := A
  obtain ⟨cl, A1, rfl, -, A4⟩ := A
  obtain ⟨T1, h1, X1, e1, W1, st⟩ := stJ X hx hZ eT A1 (own_in q) hg hs hd
  exact go_st st (k _ _ X1 e1 W1 (A'.set W1))
theorem go_bast (X : Stand p l e R s m args below meth c T locs cells slots) (hx : p.tables.exec = Jvm.exec) (hZ : Z.Warmed39 s.vm) (eT : T.heap = h) {a : Addr} {n : Nat} {f : Nat → Value} (A : GA Z h a .byte n f) {j x : Int32} {rest : List Value}
    (hd : decode c.code g.pc = .ok (.bastore, 1)) (hg : g.method = m) (hs : g.stack = .int x :: .int j :: .ref a :: rest) (q : 0 ≤ j.toInt ∧ j.toInt < n)
    (k : ∀ T' h', Stand p l e R s m args below meth c T' (locs ++ [⟨a, j.toNatClampNeg⟩]) cells slots → T'.heap = h' → Wr h h' a j.toNatClampNeg (.int x.toInt8.toInt32) → GA Z h' a .byte n (fun i => if i = j.toNatClampNeg then .int x.toInt8.toInt32 else f i) → Go p e below s Q C S T' { g with pc := g.pc + 1, stack := rest }) : Go p e below s Q C S T g := by
  have A' := A
  obtain ⟨cl, A1, rfl, -, A4⟩ := A
  obtain ⟨T1, h1, X1, e1, W1, st⟩ := stB X hx hZ eT A1 (own_in q) hg hs hd
  exact go_st st (k _ _ X1 e1 W1 (A'.set W1))
theorem go_cast (X : Stand p l e R s m args below meth c T locs cells slots) (hx : p.tables.exec = Jvm.exec) (hZ : Z.Warmed39 s.vm) (eT : T.heap = h) {a : Addr} {n : Nat} {f : Nat → Value} (A : GA Z h a .char n f) {j x : Int32} {rest : List Value}
    (hd : decode c.code g.pc = .ok (.castore, 1)) (hg : g.method = m) (hs : g.stack = .int x :: .int j :: .ref a :: rest) (q : 0 ≤ j.toInt ∧ j.toInt < n)
    (k : ∀ T' h', Stand p l e R s m args below meth c T' (locs ++ [⟨a, j.toNatClampNeg⟩]) cells slots → T'.heap = h' → Wr h h' a j.toNatClampNeg (.int (nar .char x)) → GA Z h' a .char n (fun i => if i = j.toNatClampNeg then .int (nar .char x) else f i) → Go p e below s Q C S T' { g with pc := g.pc + 1, stack := rest }) : Go p e below s Q C S T g := by
  have A' := A
  obtain ⟨cl, A1, rfl, -, A4⟩ := A
  obtain ⟨T1, h1, X1, e1, W1, st⟩ := stC X hx hZ eT A1 (own_in q) hg hs hd
  exact go_st st (k _ _ X1 e1 W1 (A'.set W1))
theorem go_aast (X : Stand p l e R s m args below meth c T locs cells slots) (hx : p.tables.exec = Jvm.exec) (hZ : Z.Warmed39 s.vm) (eT : T.heap = h) {a : Addr} {ty : FieldType} {n : Nat} {f : Nat → Value} (A : GA Z h a ty n f) (hty : ty.isReference = true) {j : Int32} {v : Value} (F : Sto Z h a v) {rest : List Value}
    (hd : decode c.code g.pc = .ok (.aastore, 1)) (hg : g.method = m) (hs : g.stack = v :: .int j :: .ref a :: rest) (q : 0 ≤ j.toInt ∧ j.toInt < n)
    (k : ∀ T' h', Stand p l e R s m args below meth c T' (locs ++ [⟨a, j.toNatClampNeg⟩]) cells slots → T'.heap = h' → Wr h h' a j.toNatClampNeg v → GA Z h' a ty n (fun i => if i = j.toNatClampNeg then v else f i) → Go p e below s Q C S T' { g with pc := g.pc + 1, stack := rest }) : Go p e below s Q C S T g := by
  have A' := A
  obtain ⟨cl, A1, rfl, -, A4⟩ := A
  obtain ⟨T1, h1, X1, e1, W1, st⟩ := stR X hx hZ eT A1 (own_in q) hty F hg hs hd
  exact go_st st (k _ _ X1 e1 W1 (A'.set W1))
theorem own_clamp {n : Int32} {N : Nat} (q : n.toInt = N) : n.toNatClampNeg = N := by simp only [Int32.toNatClampNeg]; omega
theorem own_nneg {n : Int32} {N : Nat} (q : n.toInt = N) : ¬ n < 0 := by
  rw [Int32.lt_iff_toInt_lt]
  have : (0 : Int32).toInt = 0 := rfl
  omega
theorem go_newP (X : Stand p l e R s m args below meth c T locs cells slots) (hx : p.tables.exec = Jvm.exec) (hZ : Z.Warmed39 s.vm) {aty : ArrayType} (w : (Cond.arrayClass (newarray.typeOf aty)).before a0 Z = true) (eT : T.heap = h) {n : Int32} {rest : List Value} (hd : decode c.code g.pc = .ok (.newarray aty, 2)) (hg : g.method = m) (hs : g.stack = .int n :: rest)
    (N : Nat) (hn : n.toInt = N) (cap : Nat) (hcap : N ≤ cap) (hb : cap * 8 ≤ 536870912) (hc : cells + 1 ≤ R.cells) (hl : slots + cap ≤ R.slots)
    (k : ∀ T' h' a, a = h.size → Stand p l e R s m args below meth c T' locs (cells + 1) (slots + cap) → T'.heap = h' → Ext h h' → GA Z h' a (newarray.typeOf aty) N (fun _ => defaultValue (newarray.typeOf aty)) → Go p e below s Q C S T' { g with pc := g.pc + 2, stack := .ref a :: rest }) : Go p e below s Q C S T g := by
  have hN := own_clamp hn
  have hn0 := own_nneg hn
  obtain ⟨T1, h1, cA, X1, e1, E1, A1, st⟩ := newP X hx hZ w eT hg hd hs hn0 (cap := cap) (by omega) hb hc hl
  refine go_st st (k _ _ _ rfl X1 e1 E1 ⟨_, A1, (sz_new _ _ _).trans hN, ?_, fun i hi => ?_⟩)
  · have := (rng32 n).2
    omega
  · show (Array.replicate n.toNatClampNeg (defaultValue _))[i]? = _
    rw [hN, Array.getElem?_replicate, if_pos hi]
theorem go_newR (X : Stand p l e R s m args below meth c T locs cells slots) (hx : p.tables.exec = Jvm.exec) (hZ : Z.Warmed39 s.vm) {own K : String} {index : Nat} (hown : s.vm.findClass own = some m.cls) (w1 : (Cond.classLink own index K).before a0 Z = true) (w2 : (Cond.arrayOver (.object K)).before a0 Z = true) (eT : T.heap = h) {n : Int32} {rest : List Value} (hd : decode c.code g.pc = .ok (.anewarray index, 3)) (hg : g.method = m) (hs : g.stack = .int n :: rest)
    (N : Nat) (hn : n.toInt = N) (cap : Nat) (hcap : N ≤ cap) (hb : cap * 8 ≤ 536870912) (hc : cells + 1 ≤ R.cells) (hl : slots + cap ≤ R.slots)
    (k : ∀ T' h' a, a = h.size → Stand p l e R s m args below meth c T' locs (cells + 1) (slots + cap) → T'.heap = h' → Ext h h' → GA Z h' a (.object K) N (fun _ => .null) → OC Z h' a (.object K) K → Go p e below s Q C S T' { g with pc := g.pc + 3, stack := .ref a :: rest }) : Go p e below s Q C S T g := by
  have hN := own_clamp hn
  have hn0 := own_nneg hn
  obtain ⟨T1, h1, cA, X1, e1, E1, A1, O1, st⟩ := newR X hx hZ hown w1 w2 eT hg hd hs hn0 (cap := cap) (by omega) hb hc hl
  refine go_st st (k _ _ _ rfl X1 e1 E1 ⟨_, A1, (sz_new _ _ _).trans hN, ?_, fun i hi => ?_⟩ ⟨_, A1, O1⟩)
  · have := (rng32 n).2
    omega
  · show (Array.replicate n.toNatClampNeg (defaultValue _))[i]? = _
    rw [hN, Array.getElem?_replicate, if_pos hi]
    rfl
end OwnGo
section OwnMore
variable {p : Program} {l : Launch} {e : Env} {R : Room} {s : State} {m : MethodId} {args : Array Value} {below : List Frame} {meth : Method} {c : Code} {T T' : State} {locs : List Loc} {cells slots : Nat} {Z : State} {a0 : Array Value} {h : Heap} {Q : Option Value → Heap → List Loc → Prop} {C S maxL0 : Nat} {g g' : JFrame}
theorem go_zald (X : Stand p l e R s m args below meth c T locs cells slots) (hx : p.tables.exec = Jvm.exec) (hZ : Z.Warmed39 s.vm) (eT : T.heap = h) {a : Addr} {n : Nat} {f : Nat → Value} (A : GA Z h a .boolean n f) {j : Int32} {rest : List Value}
    (hd : decode c.code g.pc = .ok (.baload, 1)) (hg : g.method = m) (hs : g.stack = .int j :: .ref a :: rest) (q : 0 ≤ j.toInt ∧ j.toInt < n) (w : Value) (hw : f j.toNatClampNeg = w) (k : Go p e below s Q C S T { g with pc := g.pc + 1, stack := w :: rest }) : Go p e below s Q C S T g := by
  obtain ⟨cl, A1, rfl, -, A4⟩ := A
  have q2 := own_in q
  refine go_st (fun t => X.baloadBooleans hx (j := j) (v := w) (by rw [eT]; exact A1.1) (State.isArrayOf_alike hZ.alike A1.2.1) A1.2.2 q2 ?_ hg hs hd t) k
  rw [A4 _ (by omega), hw]
theorem go_zast (X : Stand p l e R s m args below meth c T locs cells slots) (hx : p.tables.exec = Jvm.exec) (hZ : Z.Warmed39 s.vm) (eT : T.heap = h) {a : Addr} {n : Nat} {f : Nat → Value} (A : GA Z h a .boolean n f) {j x : Int32} {rest : List Value}
    (hd : decode c.code g.pc = .ok (.bastore, 1)) (hg : g.method = m) (hs : g.stack = .int x :: .int j :: .ref a :: rest) (q : 0 ≤ j.toInt ∧ j.toInt < n)
    (k : ∀ T' h', Stand p l e R s m args below meth c T' (locs ++ [⟨a, j.toNatClampNeg⟩]) cells slots → T'.heap = h' → Wr h h' a j.toNatClampNeg (.int (x &&& 1)) → GA Z h' a .boolean n (fun i => if i = j.toNatClampNeg then .int (x &&& 1) else f i) → Go p e below s Q C S T' { g with pc := g.pc + 1, stack := rest }) : Go p e below s Q C S T g := by
  have A' := A
  obtain ⟨cl, A1, rfl, -, A4⟩ := A
  obtain ⟨T1, h1, X1, e1, W1, st⟩ := stZ X hx hZ eT A1 (own_in q) hg hs hd
  exact go_st st (k _ _ X1 e1 W1 (A'.set W1))
theorem own_arv {a : Addr} {ty : FieldType} {N : Nat} {f : Nat → Value} {dv : Value} (A : GA Z h a ty N f) (fa : ∀ i, i < N → fits ty (f i) = true) {z : Int32} (hz : z.toInt = N) : ∃ k, Arv Z h a k ty z ((List.range N).map f) dv := by
  obtain ⟨cl, A1, A2, A3, A4⟩ := A
  have hz2 := own_clamp hz
  refine ⟨cl.cls, cl, A1, rfl, by rw [A2, hz2], own_nneg hz, fun i hi => ?_, fun i hi => ?_⟩
  · rw [A2] at hi
    rw [A4 i hi, List.getD_eq_getElem?_getD, List.getElem?_map, List.getElem?_range hi]
    rfl
  · rw [A2] at hi
    rw [List.getD_eq_getElem?_getD, List.getElem?_map, List.getElem?_range hi]
    exact fa i hi
theorem own_ga {a : Addr} {k : ClassId} {ty : FieldType} {N : Nat} {f : Nat → Value} {dv : Value} {z : Int32} (hz : z.toInt = N) {vs : List Value} (F : Arv Z h a k ty z vs dv) (hv : ∀ i, i < N → vs.getD i dv = f i) : GA Z h a ty N f := by
  obtain ⟨cl, A1, -, A2, A3, A4, -⟩ := F
  have hz2 := own_clamp hz
  have := (rng32 z).2
  exact ⟨cl, A1, by rw [A2, hz2], by omega, fun i hi => by rw [A4 i (by rw [A2, hz2]; exact hi), hv i hi]⟩
theorem go_acpy (X : Stand p l e R s m args below meth c T locs cells slots) (hx : p.tables.exec = Jvm.exec) (hZ : Z.Warmed39 s.vm) (hml : c.maxLocals = maxL0) {own : String} {index : Nat} (hown : s.vm.findClass own = some m.cls)
    (w1 : (Cond.methodLink own index Jvm.Stand.acN).before a0 Z = true) (w2 : (Cond.native Jvm.Stand.acN).before a0 Z = true) (w3 : (Cond.static Jvm.Stand.acN).before a0 Z = true) (w4 : (Cond.initialized "java/lang/System").before a0 Z = true) (eT : T.heap = h)
    {a b : Addr} {ty : FieldType} (hty : refKind ty = false) {N : Nat} {f f' : Nat → Value} (A : GA Z h a ty N f) (B : GA Z h b ty N f') (fa : ∀ i, i < N → fits ty (f i) = true) (fb : ∀ i, i < N → fits ty (f' i) = true) {nn : Int32} (hnn : nn.toInt = N) {n0 : Nat} (N0 : Fr n0 locs) (ge : n0 ≤ b) {rest : List Value}
    (hd : decode c.code g.pc = .ok (.invokestatic index, 3)) (hg : g.method = m) (hsz : g.locals.size = maxL0) (hs : g.stack = .int nn :: .int 0 :: .ref b :: .int 0 :: .ref a :: rest)
    (hf : 1 ≤ R.frames) {W : Nat} (hW : 2 * g.monitorRoom + (rest.map fun v => v.category).sum ≤ W) (hlo : W + (nativeFrameWords "java/lang/System" "arraycopy" 5 + 11) ≤ R.locals)
    (k : ∀ T' h' L, Stand p l e R s m args below meth c T' L cells slots → T'.heap = h' → Fr n0 L → Keep h h' [b] → GA Z h' b ty N f → Go p e below s Q C S T' { g with pc := g.pc + 3, stack := rest }) : Go p e below s Q C S T g := by
  obtain ⟨k1, A1⟩ := own_arv (dv := .null) A fa hnn
  obtain ⟨k2, B1⟩ := own_arv (dv := .null) B fb hnn
  have hz2 := own_clamp hnn
  have h0 : (0 : Int32).toNatClampNeg = 0 := rfl
  obtain ⟨T1, h1, L1, X1, e1, N1, K1, G1, st⟩ := cpA X hx hZ hown w1 w2 w3 w4 eT A1 B1 (us := (List.range N).map f) (Or.inl ⟨rfl, hty⟩) (sp := 0) (dp := 0) (nn := nn) (by decide) (by decide) (own_nneg hnn) (by rw [h0, hz2]; omega) (by rw [h0, hz2]; omega)
    (by
      rw [h0, hz2]
      apply List.map_congr_left
      intro i hi
      have hi' := List.mem_range.mp hi
      rw [Nat.zero_add, List.getD_eq_getElem?_getD, List.getElem?_map, List.getElem?_range hi']
      rfl) (by rw [h0, hz2]; simp) N0 ge hg (hsz.trans hml.symm) hs hd hf hW hlo
  refine go_st st (k _ _ _ X1 e1 N1 K1 (own_ga hnn G1 fun i hi => ?_))
  rw [h0, hz2, List.take_zero, List.nil_append, Nat.zero_add, List.drop_eq_nil_of_le (by simp), List.append_nil, List.getD_eq_getElem?_getD, List.getElem?_map, List.getElem?_range hi]
  rfl
theorem go_grid (X : Stand p l e R s m args below meth c T locs cells slots) (hx : p.tables.exec = Jvm.exec) (hZ : Z.Warmed39 s.vm) {own : String} {index : Nat} (hown : s.vm.findClass own = some m.cls) (w1 : (Cond.classLink own index "[[B").before a0 Z = true) (w2 : (Cond.arrayOver (.array .byte)).before a0 Z = true) (w3 : (Cond.arrayClass .byte).before a0 Z = true) (eT : T.heap = h)
    {n kk : Int32} {rest : List Value} (hd : decode c.code g.pc = .ok (.multianewarray index 2, 4)) (hg : g.method = m) (hs : g.stack = .int kk :: .int n :: rest) (N M : Nat) (hn : n.toInt = N) (hk : kk.toInt = M) (hN : N ≤ 1000) (hM : M ≤ 1000) (cc cs : Nat) (hcc : 1 + N ≤ cc) (hcs : N + N * M ≤ cs) (hc : cells + cc ≤ R.cells) (hl : slots + cs ≤ R.slots)
    (k : ∀ T' h' a (rows : Nat → Addr), a = h.size → (∀ i, rows i = h.size + 1 + i) → Stand p l e R s m args below meth c T' locs (cells + cc) (slots + cs) → T'.heap = h' → Ext h h' → GA Z h' a (.array .byte) N (fun i => .ref (rows i)) → (∀ i, i < N → GA Z h' (rows i) .byte M (fun _ => .int 0)) → Go p e below s Q C S T' { g with pc := g.pc + 4, stack := .ref a :: rest }) : Go p e below s Q C S T g := by
  have hN2 := own_clamp hn
  have hM2 := own_clamp hk
  obtain ⟨T1, h1, cA, comp, X1, e1, E1, V1, -, -, I1, st⟩ := gridM X hx hZ (ty := .byte) hown (C := "[B") (ad := "[[B") (by decide) (by decide) w1 w2 w3 eT hg hd hs (own_nneg hn) (own_nneg hk) (xs := (List.range N).map fun j => h.size + 1 + j) hN2 rfl (cap := M) (by omega) (by omega) (by omega) (by decide) (by decide) (by omega) (by omega)
  refine go_st st (k _ _ _ (fun i => h.size + 1 + i) rfl (fun _ => rfl) (X1.mono (by omega) (by omega)) e1 E1 (own_ga hn V1 fun i hi => ?_) fun i hi => ?_)
  · rw [List.getD_eq_getElem?_getD, List.getElem?_map, List.getElem?_map, List.getElem?_range hi]
    rfl
  · have q := (I1 i (h.size + 1 + i) (by rw [List.getElem?_map, List.getElem?_range hi]; rfl)).1
    have := (rng32 kk).2
    refine ⟨_, q, (sz_new _ _ _).trans hM2, by omega, fun j hj => ?_⟩
    show (Array.replicate kk.toNatClampNeg (defaultValue _))[j]? = _
    rw [hM2, Array.getElem?_replicate, if_pos hj]
    rfl
end OwnMore

section OwnN
variable {p : Program} {l : Launch} {e : Env} {R : Room} {s : State} {m : MethodId} {args : Array Value} {below : List Frame} {meth : Method} {c : Code} {T T' : State} {locs : List Loc} {cells slots : Nat} {Z : State} {a0 : Array Value} {h : Heap} {Q : Option Value → Heap → List Loc → Prop} {C S maxL0 : Nat} {g g' : JFrame}
theorem go_retN (X : Stand p l e R s m args below meth c T locs cells slots) (hx : p.tables.exec = Jvm.exec) (hlk : meth.locks = false) {t : FieldType} (hret : meth.sig.returnType = some t) (ht : t = .boolean ∨ t = .byte ∨ t = .char ∨ t = .short) {pc : Nat} {Ls : Array Slot} {z w : Int32} {rest : List Value} (hd : decode c.code pc = .ok (.ireturn, 1)) (hw : nar t z = w)
    (hC : cells ≤ C) (hS : slots ≤ S) (hQ : Q (some (.int w)) T.heap locs) : Go p e below s Q C S T (mkF m pc Ls (.int z :: rest)) := by
  subst hw
  exact go_end X hlk (fun h => by rw [hret] at h; cases h) (fun fs h1 => retN X hx (t := t) hret ht hd h1) hC hS hQ
end OwnN

section OwnW1
variable {p : Program} {l : Launch} {e : Env} {R : Room} {s : State} {m : MethodId} {args : Array Value} {below : List Frame} {meth : Method} {c : Code} {T T' : State} {locs : List Loc} {cells slots : Nat} {Z : State} {a0 : Array Value} {h : Heap} {Q : Option Value → Heap → List Loc → Prop} {C S maxL0 : Nat} {g g' : JFrame}
def GoW (p : Program) (e : Env) (below : List Frame) (s : State) (Q : Option Value → Heap → List Loc → Prop) (C S : Nat) (T : State) (g : JFrame) : Prop :=
  ∃ s₂ o, Steps p.tables e below (T.setTop g) s₂ ∧ s₂.status = .running ∧ Ended s₂ below o ∧ ∃ v L, o = .returned v ∧ Q v s₂.heap L ∧ ReturnedEndW s o s₂ L C S
theorem gw_st (k : ∀ t, Steps p.tables e below (T'.setTop g') t → Steps p.tables e below (T.setTop g) t) (q : GoW p e below s Q C S T' g') : GoW p e below s Q C S T g := by
  obtain ⟨s2, o, q1, q2⟩ := q
  exact ⟨s2, o, k _ q1, q2⟩
theorem castGoW (q : g = g') (k : GoW p e below s Q C S T g') : GoW p e below s Q C S T g := by rw [q]; exact k
theorem gw_tr (k : Steps p.tables e below (T.setTop g) (T'.setTop g')) (q : GoW p e below s Q C S T' g') : GoW p e below s Q C S T g := by
  obtain ⟨s2, o, q1, q2⟩ := q
  exact ⟨s2, o, k.trans q1, q2⟩
theorem gw_end (X : Stand p l e R s m args below meth c T locs cells slots) (hlk : meth.locks = false) {v : Option Value} (hv : meth.sig.returnType = none → v = none)
    (hr : ∀ fs, (∀ (f : JFrame) (acts : List Action), f.method = m → f.locked = none → f.entered = [] → (doReturn e (T.setTop f) acts v).1 = T.setFrames fs) → Steps p.tables e below (T.setTop g) (T.setFrames fs))
    (hC : cells ≤ C) (hS : slots ≤ S) (hQ : Q v T.heap locs) : GoW p e below s Q C S T g := by
  obtain ⟨fs, h1, hrun, hended, hW, hsame⟩ := X.leave (v := v) hv hlk
  exact ⟨_, _, hr fs h1, hrun, hended, _, _, rfl, hQ, ReturnedEndW.of_narrow ⟨_, rfl⟩ hW (hsame.mono hC hS)⟩
theorem gw_retI (X : Stand p l e R s m args below meth c T locs cells slots) (hx : p.tables.exec = Jvm.exec) (hlk : meth.locks = false) (hret : meth.sig.returnType = some .int) {pc : Nat} {Ls : Array Slot} {z : Int32} {rest : List Value} (hd : decode c.code pc = .ok (.ireturn, 1))
    (hC : cells ≤ C) (hS : slots ≤ S) (hQ : Q (some (.int z)) T.heap locs) : GoW p e below s Q C S T (mkF m pc Ls (.int z :: rest)) :=
  gw_end X hlk (fun h => by rw [hret] at h; cases h) (fun fs h1 => retOut X hx hret rfl (Or.inl ⟨rfl, Or.inl rfl, _, rfl⟩) hd h1) hC hS hQ
theorem gw_retL (X : Stand p l e R s m args below meth c T locs cells slots) (hx : p.tables.exec = Jvm.exec) (hlk : meth.locks = false) (hret : meth.sig.returnType = some .long) {pc : Nat} {Ls : Array Slot} {z : Int64} {rest : List Value} (hd : decode c.code pc = .ok (.lreturn, 1))
    (hC : cells ≤ C) (hS : slots ≤ S) (hQ : Q (some (.long z)) T.heap locs) : GoW p e below s Q C S T (mkF m pc Ls (.long z :: rest)) :=
  gw_end X hlk (fun h => by rw [hret] at h; cases h) (fun fs h1 => retOut X hx hret rfl (Or.inr (Or.inl ⟨rfl, rfl, _, rfl⟩)) hd h1) hC hS hQ
theorem gw_retD (X : Stand p l e R s m args below meth c T locs cells slots) (hx : p.tables.exec = Jvm.exec) (hlk : meth.locks = false) (hret : meth.sig.returnType = some .double) {pc : Nat} {Ls : Array Slot} {z : UInt64} {rest : List Value} (hd : decode c.code pc = .ok (.dreturn, 1))
    (hC : cells ≤ C) (hS : slots ≤ S) (hQ : Q (some (.double z)) T.heap locs) : GoW p e below s Q C S T (mkF m pc Ls (.double z :: rest)) :=
  gw_end X hlk (fun h => by rw [hret] at h; cases h) (fun fs h1 => retOut X hx hret rfl (Or.inr (Or.inr (Or.inl ⟨rfl, rfl, _, rfl⟩))) hd h1) hC hS hQ
theorem gw_retA (X : Stand p l e R s m args below meth c T locs cells slots) (hx : p.tables.exec = Jvm.exec) (hlk : meth.locks = false) {t : FieldType} (hret : meth.sig.returnType = some t) (ht : t.isReference = true) {w : Value} (hw : w.isRef = true) {pc : Nat} {Ls : Array Slot} {rest : List Value} (hd : decode c.code pc = .ok (.areturn, 1))
    (hC : cells ≤ C) (hS : slots ≤ S) (hQ : Q (some w) T.heap locs) : GoW p e below s Q C S T (mkF m pc Ls (w :: rest)) :=
  gw_end X hlk (fun h => by rw [hret] at h; cases h) (fun fs h1 => retOut X hx hret (by cases t <;> simp_all [FieldType.isReference, narrow] <;> cases w <;> simp_all [Value.isRef, narrow]) (Or.inr (Or.inr (Or.inr (Or.inr ⟨rfl, ht, hw⟩)))) hd h1) hC hS hQ
theorem gw_retB (X : Stand p l e R s m args below meth c T locs cells slots) (hx : p.tables.exec = Jvm.exec) (hlk : meth.locks = false) (hret : meth.sig.returnType = some .boolean) {pc : Nat} {Ls : Array Slot} {z w : Int32} {rest : List Value} (hd : decode c.code pc = .ok (.ireturn, 1)) (hw : z &&& 1 = w)
    (hC : cells ≤ C) (hS : slots ≤ S) (hQ : Q (some (.int w)) T.heap locs) : GoW p e below s Q C S T (mkF m pc Ls (.int z :: rest)) := by
  subst hw
  exact gw_end X hlk (fun h => by rw [hret] at h; cases h) (fun fs h1 => retN X hx (t := .boolean) hret (by simp) hd h1) hC hS hQ
theorem gw_ret0 (X : Stand p l e R s m args below meth c T locs cells slots) (hx : p.tables.exec = Jvm.exec) (hlk : meth.locks = false) (hret : meth.sig.returnType = none) {pc : Nat} {Ls : Array Slot} (hd : decode c.code pc = .ok (.return_, 1))
    (hC : cells ≤ C) (hS : slots ≤ S) (hQ : Q none T.heap locs) : GoW p e below s Q C S T (mkF m pc Ls []) :=
  gw_end X hlk (fun _ => rfl) (fun fs h1 => X.returnOut hx hret hd h1) hC hS hQ
theorem gw_callS (X : Stand p l e R s m args below meth c T locs cells slots) (hx : p.tables.exec = Jvm.exec) (hZ : Z.Warmed39 s.vm) (hml : c.maxLocals = maxL0) {own : String} {index : Nat} {y : MethodName} {bytes : ByteArray} {maxL : Nat} {ret : Option FieldType} (hown : s.vm.findClass own = some m.cls)
    (w1 : (Cond.methodLink own index y).before a0 Z = true) (w2 : (Cond.static y).before a0 Z = true) (w3 : (Cond.initialized y.cls).before a0 Z = true) (w4 : (Cond.code y bytes maxL ret).before a0 Z = true) (eT : T.heap = h) {argsL rest : List Value} {rm : Room} {Q' : Option Value → Heap → List Loc → Prop} {W : Nat}
    (hM : Met l y bytes maxL ret [] rm Z argsL.toArray h Q' rm.cells rm.slots)
    (hd : decode c.code g.pc = .ok (.invokestatic index, 3)) (hs : g.stack = argsL.reverse ++ rest) (hg : g.method = m) (hsz : g.locals.size = maxL0) (hlen : ∀ sig, parseMethodDescriptor y.desc = some sig → argsL.length = sig.parameters.length) (hW : 2 * g.monitorRoom + (rest.map fun v => v.category).sum ≤ W)
    (hy : y.cls ≠ "java/lang/invoke/MethodHandle" ∧ y.cls ≠ "java/lang/invoke/VarHandle") (hf : rm.frames + 1 ≤ R.frames) (hl : W + (maxL + 11) + rm.locals ≤ R.locals) (hc : cells + rm.cells ≤ R.cells) (hsl : slots + rm.slots ≤ R.slots)
    (k : ∀ T' v L, Stand p l e R s m args below meth c T' (locs ++ L) (cells + rm.cells) (slots + rm.slots) → Q' v T'.heap L → GoW p e below s Q C S T' { g with pc := g.pc + 3, stack := v.toList ++ rest }) : GoW p e below s Q C S T g := by
  obtain ⟨v, _, ⟨T1, L1, k1, n1⟩, -, X1, ⟨Lc, hQ, l1, y1, z1⟩, st⟩ := Jvm.LawKit.callS X hx (y := y) hown (mvT hZ w1) (mvT hZ w2) (mvT hZ w3) (mvT hZ w4) hy (backOf (W := W) hM hZ w4 w3 hf hl) (g := g) hg (hsz.trans hml.symm) (argsL := argsL) (rest := rest) hlen hs hW hd (fun _ _ => ⟨rfl, eT, hc, hsl⟩)
  dsimp only [Pt.U, Pt.locs, Pt.cells, Pt.slots] at X1 l1 y1 z1 st hQ
  subst l1 y1 z1
  exact gw_st st (k _ _ _ X1 hQ)
theorem gw_callV (X : Stand p l e R s m args below meth c T locs cells slots) (hx : p.tables.exec = Jvm.exec) (hZ : Z.Warmed39 s.vm) (hml : c.maxLocals = maxL0) {own K : String} {index : Nat} {y z : MethodName} {bytes : ByteArray} {maxL : Nat} {ret : Option FieldType} (hown : s.vm.findClass own = some m.cls)
    (w1 : (Cond.methodLink own index y).before a0 Z = true) (w2 : (Cond.declares y).before a0 Z = true) (w2' : NotFace s y) (w3 : (Cond.selects K y z).before a0 Z = true) (w3' : (Cond.instanceMethod z).before a0 Z = true) (w4 : (Cond.code z bytes maxL ret).before a0 Z = true) (w5 : (Cond.initialized z.cls).before a0 Z = true) (eT : T.heap = h) {a : Addr} (E : Exa Z h a K) {argsL rest : List Value} {rm : Room} {Q' : Option Value → Heap → List Loc → Prop} {W : Nat}
    (hM : Met l z bytes maxL ret [] rm Z (.ref a :: argsL).toArray h Q' rm.cells rm.slots)
    (hd : decode c.code g.pc = .ok (.invokevirtual index, 3)) (hs : g.stack = argsL.reverse ++ .ref a :: rest) (hg : g.method = m) (hsz : g.locals.size = maxL0) (hlen : ∀ sig, parseMethodDescriptor y.desc = some sig → argsL.length = sig.parameters.length) (hW : 2 * g.monitorRoom + (rest.map fun v => v.category).sum ≤ W)
    (hy : y.cls ≠ "java/lang/invoke/MethodHandle" ∧ y.cls ≠ "java/lang/invoke/VarHandle") (hf : rm.frames + 1 ≤ R.frames) (hl : W + (maxL + 11) + rm.locals ≤ R.locals) (hc : cells + rm.cells ≤ R.cells) (hsl : slots + rm.slots ≤ R.slots)
    (k : ∀ T' v L, Stand p l e R s m args below meth c T' (locs ++ L) (cells + rm.cells) (slots + rm.slots) → Q' v T'.heap L → GoW p e below s Q C S T' { g with pc := g.pc + 3, stack := v.toList ++ rest }) : GoW p e below s Q C S T g := by
  obtain ⟨cB, kB, q1, q2, q3⟩ := isOf hZ eT E
  obtain ⟨v, _, ⟨T1, L1, k1, n1⟩, -, X1, ⟨Lc, hQ, l1, y1, z1⟩, st⟩ := X.virtualBack hx (y := y) (z := z) hown (mvT hZ w1) (mvT hZ w2) w2' (mvT hZ w3) (mvT hZ w3') hy (backOf (W := W) hM hZ w4 w5 hf hl) q1 q3 (g := g) hg (hsz.trans hml.symm) (Steps.refl _) (argsL := argsL) (rest := rest) hlen hs hW hd (fun _ _ => ⟨rfl, eT, hc, hsl⟩)
  dsimp only [Pt.U, Pt.locs, Pt.cells, Pt.slots] at X1 l1 y1 z1 st hQ
  subst l1 y1 z1
  exact gw_tr st (k _ _ _ X1 hQ)
theorem gw_callU (X : Stand p l e R s m args below meth c T locs cells slots) (hx : p.tables.exec = Jvm.exec) (hZ : Z.Warmed39 s.vm) (hml : c.maxLocals = maxL0) {own K owner : String} {index : Nat} {y z : MethodName} {bytes : ByteArray} {maxL : Nat} {ret : Option FieldType} (hown : s.vm.findClass own = some m.cls)
    (w1 : (Cond.methodLink own index y).before a0 Z = true) (w2 : (Cond.sameMethod y.cls owner y.name y.desc).before a0 Z = true) (w2' : (Cond.declares ⟨owner, y.name, y.desc⟩).before a0 Z = true) (ho : owner ≠ "java/lang/invoke/MethodHandle" ∧ owner ≠ "java/lang/invoke/VarHandle") (w3 : (Cond.selects K y z).before a0 Z = true) (w3' : (Cond.instanceMethod z).before a0 Z = true) (w4 : (Cond.code z bytes maxL ret).before a0 Z = true) (w5 : (Cond.initialized z.cls).before a0 Z = true) (eT : T.heap = h) {a : Addr} (E : Exa Z h a K) {argsL rest : List Value} {rm : Room} {Q' : Option Value → Heap → List Loc → Prop} {W : Nat}
    (hM : Met l z bytes maxL ret [] rm Z (.ref a :: argsL).toArray h Q' rm.cells rm.slots)
    (hd : decode c.code g.pc = .ok (.invokevirtual index, 3)) (hs : g.stack = argsL.reverse ++ .ref a :: rest) (hg : g.method = m) (hsz : g.locals.size = maxL0) (hlen : ∀ sig, parseMethodDescriptor y.desc = some sig → argsL.length = sig.parameters.length) (hW : 2 * g.monitorRoom + (rest.map fun v => v.category).sum ≤ W)
    (hf : rm.frames + 1 ≤ R.frames) (hl : W + (maxL + 11) + rm.locals ≤ R.locals) (hc : cells + rm.cells ≤ R.cells) (hsl : slots + rm.slots ≤ R.slots)
    (k : ∀ T' v L, Stand p l e R s m args below meth c T' (locs ++ L) (cells + rm.cells) (slots + rm.slots) → Q' v T'.heap L → GoW p e below s Q C S T' { g with pc := g.pc + 3, stack := v.toList ++ rest }) : GoW p e below s Q C S T g := by
  obtain ⟨cB, kB, q1, q2, q3⟩ := isOf hZ eT E
  obtain ⟨v, _, ⟨T1, L1, k1, n1⟩, -, X1, ⟨Lc, hQ, l1, y1, z1⟩, st⟩ := X.virtualBackUp hx (x := y) (y := z) hown (mvT hZ w1) (mvT hZ w2) (mvT hZ w2') ho (mvT hZ w3) (mvT hZ w3') (backOf (W := W) hM hZ w4 w5 hf hl) q1 q3 (g := g) hg (hsz.trans hml.symm) (Steps.refl _) (argsL := argsL) (rest := rest) hlen hs hW hd (fun _ _ => ⟨rfl, eT, hc, hsl⟩)
  dsimp only [Pt.U, Pt.locs, Pt.cells, Pt.slots] at X1 l1 y1 z1 st hQ
  subst l1 y1 z1
  exact gw_tr st (k _ _ _ X1 hQ)
theorem gw_callI (X : Stand p l e R s m args below meth c T locs cells slots) (hx : p.tables.exec = Jvm.exec) (hZ : Z.Warmed39 s.vm) (hml : c.maxLocals = maxL0) {own : String} {index : Nat} {y : MethodName} {bytes : ByteArray} {maxL : Nat} (hown : s.vm.findClass own = some m.cls) (hy1 : y.name = "<init>")
    (w1 : (Cond.methodLink own index y).before a0 Z = true) (w2 : (Cond.instanceMethod y).before a0 Z = true) (w4 : (Cond.code y bytes maxL none).before a0 Z = true) (w5 : (Cond.initialized y.cls).before a0 Z = true) (eT : T.heap = h) {a : Addr} {argsL rest : List Value} {rm : Room} {Q' : Option Value → Heap → List Loc → Prop} {W : Nat}
    (hM : Met l y bytes maxL none [] rm Z (.ref a :: argsL).toArray h Q' rm.cells rm.slots)
    (hd : decode c.code g.pc = .ok (.invokespecial index, 3)) (hs : g.stack = argsL.reverse ++ .ref a :: rest) (hg : g.method = m) (hsz : g.locals.size = maxL0) (hlen : ∀ sig, parseMethodDescriptor y.desc = some sig → argsL.length = sig.parameters.length) (hW : 2 * g.monitorRoom + (rest.map fun v => v.category).sum ≤ W)
    (hy : y.cls ≠ "java/lang/invoke/MethodHandle" ∧ y.cls ≠ "java/lang/invoke/VarHandle") (hf : rm.frames + 1 ≤ R.frames) (hl : W + (maxL + 11) + rm.locals ≤ R.locals) (hc : cells + rm.cells ≤ R.cells) (hsl : slots + rm.slots ≤ R.slots)
    (k : ∀ T' v L, Stand p l e R s m args below meth c T' (locs ++ L) (cells + rm.cells) (slots + rm.slots) → Q' v T'.heap L → GoW p e below s Q C S T' { g with pc := g.pc + 3, stack := v.toList ++ rest }) : GoW p e below s Q C S T g := by
  obtain ⟨v, _, ⟨T1, L1, k1, n1⟩, -, X1, ⟨Lc, hQ, l1, y1, z1⟩, st⟩ := X.specialBack hx (y := y) hy1 hown (mvT hZ w1) (mvT hZ w2) (mvT hZ w4) hy (backOf (W := W) hM hZ w4 w5 hf hl) (g := g) hg (hsz.trans hml.symm) (Steps.refl _) (a := a) (argsL := argsL) (rest := rest) hlen hs hW hd (fun _ _ => ⟨rfl, eT, hc, hsl⟩)
  dsimp only [Pt.U, Pt.locs, Pt.cells, Pt.slots] at X1 l1 y1 z1 st hQ
  subst l1 y1 z1
  exact gw_tr st (k _ _ _ X1 hQ)
theorem gw_getF (X : Stand p l e R s m args below meth c T locs cells slots) (hx : p.tables.exec = Jvm.exec) (hZ : Z.Warmed39 s.vm) {own R0 O n d host : String} {index : Nat} (hown : s.vm.findClass own = some m.cls) (w : (Cond.fieldLink own index R0 n d).before a0 Z = true ∨ (Cond.fieldLinkNest own index R0 n d host).before a0 Z = true) (via : Via Z R0 O n d)
    (eT : T.heap = h) {a : Addr} {v : Value} (F : Fld Z h a O n d v) {rest : List Value} (hd : decode c.code g.pc = .ok (.getfield index, 3)) (hg : g.method = m) (hs : g.stack = .ref a :: rest)
    (k : ∀ T', Stand p l e R s m args below meth c T' locs cells slots → T'.heap = h → GoW p e below s Q C S T' { g with pc := g.pc + 3, stack := v :: rest }) : GoW p e below s Q C S T g := by
  obtain ⟨T1, X1, e1, st⟩ := getF X hx hZ hown w via eT F hg hs hd
  exact gw_st st (k _ X1 e1)
theorem gw_getS (X : Stand p l e R s m args below meth c T locs cells slots) (hx : p.tables.exec = Jvm.exec) (hZ : Z.Warmed39 s.vm) {own R0 O n d host : String} {index : Nat} (hown : s.vm.findClass own = some m.cls) (w : (Cond.fieldLink own index R0 n d).before a0 Z = true ∨ (Cond.fieldLinkNest own index R0 n d host).before a0 Z = true) (via : Via Z R0 O n d)
    (eT : T.heap = h) {v : Value} (F : Sta Z h O n d v) (hd : decode c.code g.pc = .ok (.getstatic index, 3)) (hg : g.method = m)
    (k : ∀ T', Stand p l e R s m args below meth c T' locs cells slots → T'.heap = h → GoW p e below s Q C S T' { g with pc := g.pc + 3, stack := v :: g.stack }) : GoW p e below s Q C S T g := by
  obtain ⟨T1, X1, e1, st⟩ := getS2 X hx hZ hown w via eT F hg hd
  exact gw_st st (k _ X1 e1)
theorem gw_putF (X : Stand p l e R s m args below meth c T locs cells slots) (hx : p.tables.exec = Jvm.exec) (hZ : Z.Warmed39 s.vm) {own R0 O n d host K : String} {index kk : Nat} {ty : FieldType} (hown : s.vm.findClass own = some m.cls) (w : (Cond.fieldLink own index R0 n d).before a0 Z = true ∨ (Cond.fieldLinkNest own index R0 n d host).before a0 Z = true) (via : Via Z R0 O n d)
    (eT : T.heap = h) {a : Addr} {v old : Value} (F : Fld Z h a O n d old) (E : Exa Z h a K) (L : (Cond.lays K O n d).before a0 Z = true ∨ ((Cond.laysFinal K O n d).before a0 Z = true ∧ own = O ∧ meth.name = "<init>")) (wi : (Cond.instantiable K kk).before a0 Z = true)
    (hty : parseFieldDescriptor d = some ty) (hn : narrow ty v = v) (hf : fits ty v = true) {rest : List Value} (hd : decode c.code g.pc = .ok (.putfield index, 3)) (hg : g.method = m) (hs : g.stack = v :: .ref a :: rest)
    (k : ∀ T' h', Stand p l e R s m args below meth c T' (locs ++ [⟨a, Jvm.RoadKit.slotOf Z O n d⟩]) cells slots → T'.heap = h' → Wr h h' a (Jvm.RoadKit.slotOf Z O n d) v → GoW p e below s Q C S T' { g with pc := g.pc + 3, stack := rest }) : GoW p e below s Q C S T g := by
  obtain ⟨T1, h1, X1, e1, W1, st⟩ := putF X hx hZ hown w via eT F E L wi hty hn hf hg hs hd
  exact gw_st st (k _ _ X1 e1 W1)
theorem gw_newO (X : Stand p l e R s m args below meth c T locs cells slots) (hx : p.tables.exec = Jvm.exec) (hZ : Z.Warmed39 s.vm) {own K : String} {index n : Nat} (hown : s.vm.findClass own = some m.cls) (w : (Cond.classLink own index K).before a0 Z = true) (wi : (Cond.instantiable K n).before a0 Z = true) (wz : (Cond.initialized K).before a0 Z = true) (eT : T.heap = h)
    (hd : decode c.code g.pc = .ok (.new index, 3)) (hg : g.method = m) (hc : cells + 1 ≤ R.cells) (hl : slots + n ≤ R.slots)
    (k : ∀ T' h' a, a = h.size → Stand p l e R s m args below meth c T' locs (cells + 1) (slots + n) → T'.heap = h' → Ext h h' → Exa Z h' a K → (∀ {O nm d : String} {ty : FieldType}, Laid Z a0 K O nm d → parseFieldDescriptor d = some ty → Fld Z h' a O nm d (defaultValue ty)) → GoW p e below s Q C S T' { g with pc := g.pc + 3, stack := .ref a :: g.stack }) : GoW p e below s Q C S T g := by
  obtain ⟨T1, h1, X1, e1, E1, A1, D1, -, st⟩ := newO X hx hZ hown w wi wz eT hg hd hc hl
  exact gw_st st (k _ _ _ rfl X1 e1 E1 A1 D1)
theorem gw_initO (X : Stand p l e R s m args below meth c T locs cells slots) (hx : p.tables.exec = Jvm.exec) (hZ : Z.Warmed39 s.vm) (hml : c.maxLocals = maxL0) {own : String} {idx : Nat} (hown : s.vm.findClass own = some m.cls) (w1 : (Cond.methodLink own idx Lib.objectInit).before a0 Z = true) (w2 : (Cond.instanceMethod Lib.objectInit).before a0 Z = true)
    (w3 : (Cond.code Lib.objectInit ⟨#[0xb1]⟩ 1 none).before a0 Z = true) (eT : T.heap = h) {a : Addr} {rest : List Value} (hd : decode c.code g.pc = .ok (.invokespecial idx, 3)) (hg : g.method = m) (hsz : g.locals.size = maxL0) (hs : g.stack = .ref a :: rest)
    (hf : 1 ≤ R.frames) {W : Nat} (hW : 2 * g.monitorRoom + (rest.map fun v => v.category).sum ≤ W) (hl : W + 12 ≤ R.locals)
    (k : ∀ T', Stand p l e R s m args below meth c T' locs cells slots → T'.heap = h → GoW p e below s Q C S T' { g with pc := g.pc + 3, stack := rest }) : GoW p e below s Q C S T g := by
  obtain ⟨T1, X1, e1, st⟩ := initO X hx hZ hown w1 w2 w3 eT hg (hsz.trans hml.symm) hs hd hf hW hl
  exact gw_st st (k _ X1 e1)
theorem gw_alen (X : Stand p l e R s m args below meth c T locs cells slots) (hx : p.tables.exec = Jvm.exec) (hZ : Z.Warmed39 s.vm) (eT : T.heap = h) {a : Addr} {ty : FieldType} {n : Nat} {f : Nat → Value} (A : GA Z h a ty n f) {rest : List Value}
    (hd : decode c.code g.pc = .ok (.arraylength, 1)) (hg : g.method = m) (hs : g.stack = .ref a :: rest) (w : Int32) (hw : Nat.toInt32 n = w) (k : GoW p e below s Q C S T { g with pc := g.pc + 1, stack := .int w :: rest }) : GoW p e below s Q C S T g := by
  obtain ⟨cl, A1, rfl, -, -⟩ := A
  subst hw
  exact gw_st (fun t => X.arraylength hx (by rw [eT]; exact A1.1) (State.isArrayOf_alike hZ.alike A1.2.1) hg hs hd t) k
theorem gw_iald (X : Stand p l e R s m args below meth c T locs cells slots) (hx : p.tables.exec = Jvm.exec) (hZ : Z.Warmed39 s.vm) (eT : T.heap = h) {a : Addr} {n : Nat} {f : Nat → Value} (A : GA Z h a .int n f) {j : Int32} {rest : List Value}
    (hd : decode c.code g.pc = .ok (.iaload, 1)) (hg : g.method = m) (hs : g.stack = .int j :: .ref a :: rest) (q : 0 ≤ j.toInt ∧ j.toInt < n) (w : Value) (hw : f j.toNatClampNeg = w) (k : GoW p e below s Q C S T { g with pc := g.pc + 1, stack := w :: rest }) : GoW p e below s Q C S T g := by
  obtain ⟨cl, A1, rfl, -, A4⟩ := A
  have q2 := own_in q
  refine gw_st (fun t => X.iaload hx (j := j) (v := w) (by rw [eT]; exact A1.1) (State.isArrayOf_alike hZ.alike A1.2.1) A1.2.2 q2 ?_ hg hs hd t) k
  rw [A4 _ (by omega), hw]
theorem gw_lald (X : Stand p l e R s m args below meth c T locs cells slots) (hx : p.tables.exec = Jvm.exec) (hZ : Z.Warmed39 s.vm) (eT : T.heap = h) {a : Addr} {n : Nat} {f : Nat → Value} (A : GA Z h a .long n f) {j : Int32} {rest : List Value}
    (hd : decode c.code g.pc = .ok (.laload, 1)) (hg : g.method = m) (hs : g.stack = .int j :: .ref a :: rest) (q : 0 ≤ j.toInt ∧ j.toInt < n) (w : Value) (hw : f j.toNatClampNeg = w) (k : GoW p e below s Q C S T { g with pc := g.pc + 1, stack := w :: rest }) : GoW p e below s Q C S T g := by
  obtain ⟨cl, A1, rfl, -, A4⟩ := A
  have q2 := own_in q
  refine gw_st (fun t => X.laload hx (j := j) (v := w) (by rw [eT]; exact A1.1) (State.isArrayOf_alike hZ.alike A1.2.1) A1.2.2 q2 ?_ hg hs hd t) k
  rw [A4 _ (by omega), hw]
theorem gw_bald (X : Stand p l e R s m args below meth c T locs cells slots) (hx : p.tables.exec = Jvm.exec) (hZ : Z.Warmed39 s.vm) (eT : T.heap = h) {a : Addr} {n : Nat} {f : Nat → Value} (A : GA Z h a .byte n f) {j : Int32} {rest : List Value}
    (hd : decode c.code g.pc = .ok (.baload, 1)) (hg : g.method = m) (hs : g.stack = .int j :: .ref a :: rest) (q : 0 ≤ j.toInt ∧ j.toInt < n) (w : Value) (hw : f j.toNatClampNeg = w) (k : GoW p e below s Q C S T { g with pc := g.pc + 1, stack := w :: rest }) : GoW p e below s Q C S T g := by
  obtain ⟨cl, A1, rfl, -, A4⟩ := A
  have q2 := own_in q
  refine gw_st (fun t => X.baloadBytes hx (j := j) (v := w) (by rw [eT]; exact A1.1) (State.isArrayOf_alike hZ.alike A1.2.1) A1.2.2 q2 ?_ hg hs hd t) k
  rw [A4 _ (by omega), hw]
theorem gw_cald (X : Stand p l e R s m args below meth c T locs cells slots) (hx : p.tables.exec = Jvm.exec) (hZ : Z.Warmed39 s.vm) (eT : T.heap = h) {a : Addr} {n : Nat} {f : Nat → Value} (A : GA Z h a .char n f) {j : Int32} {rest : List Value}
    (hd : decode c.code g.pc = .ok (.caload, 1)) (hg : g.method = m) (hs : g.stack = .int j :: .ref a :: rest) (q : 0 ≤ j.toInt ∧ j.toInt < n) (w : Value) (hw : f j.toNatClampNeg = w) (k : GoW p e below s Q C S T { g with pc := g.pc + 1, stack := w :: rest }) : GoW p e below s Q C S T g := by
  obtain ⟨cl, A1, rfl, -, A4⟩ := A
  have q2 := own_in q
  refine gw_st (fun t => X.caload hx (j := j) (v := w) (by rw [eT]; exact A1.1) (State.isArrayOf_alike hZ.alike A1.2.1) A1.2.2 q2 ?_ hg hs hd t) k
  rw [A4 _ (by omega), hw]
theorem gw_aald (X : Stand p l e R s m args below meth c T locs cells slots) (hx : p.tables.exec = Jvm.exec) (hZ : Z.Warmed39 s.vm) (eT : T.heap = h) {a : Addr} {ty : FieldType} {n : Nat} {f : Nat → Value} (A : GA Z h a ty n f) (hty : ty.isReference = true) {j : Int32} {rest : List Value}
    (hd : decode c.code g.pc = .ok (.aaload, 1)) (hg : g.method = m) (hs : g.stack = .int j :: .ref a :: rest) (q : 0 ≤ j.toInt ∧ j.toInt < n) (w : Value) (hw : f j.toNatClampNeg = w) (k : GoW p e below s Q C S T { g with pc := g.pc + 1, stack := w :: rest }) : GoW p e below s Q C S T g := by
  obtain ⟨cl, A1, rfl, -, A4⟩ := A
  have q2 := own_in q
  refine gw_st (fun t => X.aaload hx (j := j) (v := w) (by rw [eT]; exact A1.1) (State.isArrayOf_alike hZ.alike A1.2.1) hty A1.2.2 q2 ?_ hg hs hd t) k
  rw [A4 _ (by omega), hw]
theorem gw_iast (X : Stand p l e R s m args below meth c T locs cells slots) (hx : p.tables.exec = Jvm.exec) (hZ : Z.Warmed39 s.vm) (eT : T.heap = h) {a : Addr} {n : Nat} {f : Nat → Value} (A : GA Z h a .int n f) {j x : Int32} {rest : List Value}
    (hd : decode c.code g.pc = .ok (.iastore, 1)) (hg : g.method = m) (hs : g.stack = .int x :: .int j :: .ref a :: rest) (q : 0 ≤ j.toInt ∧ j.toInt < n)
    (k : ∀ T' h', Stand p l e R s m args below meth c T' (locs ++ [⟨a, j.toNatClampNeg⟩]) cells slots → T'.heap = h' → Wr h h' a j.toNatClampNeg (.int x) → GA Z h' a .int n (fun i => if i = j.toNatClampNeg then .int x else f i) → GoW p e below s Q C S T' { g with pc := g.pc + 1, stack := rest }) : GoW p e below s Q C S T g := by
  have A' := A
  obtain ⟨cl, A1, rfl, -, A4⟩ := A
  obtain ⟨T1, h1, X1, e1, W1, st⟩ := stI X hx hZ eT A1 (own_in q) hg hs hd
  exact gw_st st (k _ _ X1 e1 W1 (A'.set W1))
theorem gw_last (X : Stand p l e R s m args below meth c T locs cells slots) (hx : p.tables.exec = Jvm.exec) (hZ : Z.Warmed39 s.vm) (eT : T.heap = h) {a : Addr} {n : Nat} {f : Nat → Value} (A : GA Z h a .long n f) {j : Int32} {x : Int64} {rest : List Value}
    (hd : decode c.code g.pc = .ok (.lastore, 1)) (hg : g.method = m) (hs : g.stack = .long x :: .int j :: .ref a :: rest) (q : 0 ≤ j.toInt ∧ j.toInt < n)
    (k : ∀ T' h', Stand p l e R s m args below meth c T' (locs ++ [⟨a, j.toNatClampNeg⟩]) cells slots → T'.heap = h' → Wr h h' a j.toNatClampNeg (.long x) → GA Z h' a .long n (fun i => if i = j.toNatClampNeg then .long x else f i) → GoW p e below s Q C S T' { g with pc := g.pc + 1, stack := rest }) : GoW p e below s Q C S T g := by
  have A' := A
  obtain ⟨cl, A1, rfl, -, A4⟩ := A
  obtain ⟨T1, h1, X1, e1, W1, st⟩ := stJ X hx hZ eT A1 (own_in q) hg hs hd
  exact gw_st st (k _ _ X1 e1 W1 (A'.set W1))
theorem gw_bast (X : Stand p l e R s m args below meth c T locs cells slots) (hx : p.tables.exec = Jvm.exec) (hZ : Z.Warmed39 s.vm) (eT : T.heap = h) {a : Addr} {n : Nat} {f : Nat → Value} (A : GA Z h a .byte n f) {j x : Int32} {rest : List Value}
    (hd : decode c.code g.pc = .ok (.bastore, 1)) (hg : g.method = m) (hs : g.stack = .int x :: .int j :: .ref a :: rest) (q : 0 ≤ j.toInt ∧ j.toInt < n)
    (k : ∀ T' h', Stand p l e R s m args below meth c T' (locs ++ [⟨a, j.toNatClampNeg⟩]) cells slots → T'.heap = h' → Wr h h' a j.toNatClampNeg (.int x.toInt8.toInt32) → GA Z h' a .byte n (fun i => if i = j.toNatClampNeg then .int x.toInt8.toInt32 else f i) → GoW p e below s Q C S T' { g with pc := g.pc + 1, stack := rest }) : GoW p e below s Q C S T g := by
  have A' := A
  obtain ⟨cl, A1, rfl, -, A4⟩ := A
  obtain ⟨T1, h1, X1, e1, W1, st⟩ := stB X hx hZ eT A1 (own_in q) hg hs hd
  exact gw_st st (k _ _ X1 e1 W1 (A'.set W1))
theorem gw_cast (X : Stand p l e R s m args below meth c T locs cells slots) (hx : p.tables.exec = Jvm.exec) (hZ : Z.Warmed39 s.vm) (eT : T.heap = h) {a : Addr} {n : Nat} {f : Nat → Value} (A : GA Z h a .char n f) {j x : Int32} {rest : List Value}
    (hd : decode c.code g.pc = .ok (.castore, 1)) (hg : g.method = m) (hs : g.stack = .int x :: .int j :: .ref a :: rest) (q : 0 ≤ j.toInt ∧ j.toInt < n)
    (k : ∀ T' h', Stand p l e R s m args below meth c T' (locs ++ [⟨a, j.toNatClampNeg⟩]) cells slots → T'.heap = h' → Wr h h' a j.toNatClampNeg (.int (nar .char x)) → GA Z h' a .char n (fun i => if i = j.toNatClampNeg then .int (nar .char x) else f i) → GoW p e below s Q C S T' { g with pc := g.pc + 1, stack := rest }) : GoW p e below s Q C S T g := by
  have A' := A
  obtain ⟨cl, A1, rfl, -, A4⟩ := A
  obtain ⟨T1, h1, X1, e1, W1, st⟩ := stC X hx hZ eT A1 (own_in q) hg hs hd
  exact gw_st st (k _ _ X1 e1 W1 (A'.set W1))
theorem gw_aast (X : Stand p l e R s m args below meth c T locs cells slots) (hx : p.tables.exec = Jvm.exec) (hZ : Z.Warmed39 s.vm) (eT : T.heap = h) {a : Addr} {ty : FieldType} {n : Nat} {f : Nat → Value} (A : GA Z h a ty n f) (hty : ty.isReference = true) {j : Int32} {v : Value} (F : Sto Z h a v) {rest : List Value}
    (hd : decode c.code g.pc = .ok (.aastore, 1)) (hg : g.method = m) (hs : g.stack = v :: .int j :: .ref a :: rest) (q : 0 ≤ j.toInt ∧ j.toInt < n)
    (k : ∀ T' h', Stand p l e R s m args below meth c T' (locs ++ [⟨a, j.toNatClampNeg⟩]) cells slots → T'.heap = h' → Wr h h' a j.toNatClampNeg v → GA Z h' a ty n (fun i => if i = j.toNatClampNeg then v else f i) → GoW p e below s Q C S T' { g with pc := g.pc + 1, stack := rest }) : GoW p e below s Q C S T g := by
  have A' := A
  obtain ⟨cl, A1, rfl, -, A4⟩ := A
  obtain ⟨T1, h1, X1, e1, W1, st⟩ := stR X hx hZ eT A1 (own_in q) hty F hg hs hd
  exact gw_st st (k _ _ X1 e1 W1 (A'.set W1))
theorem gw_newP (X : Stand p l e R s m args below meth c T locs cells slots) (hx : p.tables.exec = Jvm.exec) (hZ : Z.Warmed39 s.vm) {aty : ArrayType} (w : (Cond.arrayClass (newarray.typeOf aty)).before a0 Z = true) (eT : T.heap = h) {n : Int32} {rest : List Value} (hd : decode c.code g.pc = .ok (.newarray aty, 2)) (hg : g.method = m) (hs : g.stack = .int n :: rest)
    (N : Nat) (hn : n.toInt = N) (cap : Nat) (hcap : N ≤ cap) (hb : cap * 8 ≤ 536870912) (hc : cells + 1 ≤ R.cells) (hl : slots + cap ≤ R.slots)
    (k : ∀ T' h' a, a = h.size → Stand p l e R s m args below meth c T' locs (cells + 1) (slots + cap) → T'.heap = h' → Ext h h' → GA Z h' a (newarray.typeOf aty) N (fun _ => defaultValue (newarray.typeOf aty)) → GoW p e below s Q C S T' { g with pc := g.pc + 2, stack := .ref a :: rest }) : GoW p e below s Q C S T g := by
  have hN := own_clamp hn
  have hn0 := own_nneg hn
  obtain ⟨T1, h1, cA, X1, e1, E1, A1, st⟩ := newP X hx hZ w eT hg hd hs hn0 (cap := cap) (by omega) hb hc hl
  refine gw_st st (k _ _ _ rfl X1 e1 E1 ⟨_, A1, (sz_new _ _ _).trans hN, ?_, fun i hi => ?_⟩)
  · have := (rng32 n).2
    omega
  · show (Array.replicate n.toNatClampNeg (defaultValue _))[i]? = _
    rw [hN, Array.getElem?_replicate, if_pos hi]
theorem gw_newR (X : Stand p l e R s m args below meth c T locs cells slots) (hx : p.tables.exec = Jvm.exec) (hZ : Z.Warmed39 s.vm) {own K : String} {index : Nat} (hown : s.vm.findClass own = some m.cls) (w1 : (Cond.classLink own index K).before a0 Z = true) (w2 : (Cond.arrayOver (.object K)).before a0 Z = true) (eT : T.heap = h) {n : Int32} {rest : List Value} (hd : decode c.code g.pc = .ok (.anewarray index, 3)) (hg : g.method = m) (hs : g.stack = .int n :: rest)
    (N : Nat) (hn : n.toInt = N) (cap : Nat) (hcap : N ≤ cap) (hb : cap * 8 ≤ 536870912) (hc : cells + 1 ≤ R.cells) (hl : slots + cap ≤ R.slots)
    (k : ∀ T' h' a, a = h.size → Stand p l e R s m args below meth c T' locs (cells + 1) (slots + cap) → T'.heap = h' → Ext h h' → GA Z h' a (.object K) N (fun _ => .null) → OC Z h' a (.object K) K → GoW p e below s Q C S T' { g with pc := g.pc + 3, stack := .ref a :: rest }) : GoW p e below s Q C S T g := by
  have hN := own_clamp hn
  have hn0 := own_nneg hn
  obtain ⟨T1, h1, cA, X1, e1, E1, A1, O1, st⟩ := newR X hx hZ hown w1 w2 eT hg hd hs hn0 (cap := cap) (by omega) hb hc hl
  refine gw_st st (k _ _ _ rfl X1 e1 E1 ⟨_, A1, (sz_new _ _ _).trans hN, ?_, fun i hi => ?_⟩ ⟨_, A1, O1⟩)
  · have := (rng32 n).2
    omega
  · show (Array.replicate n.toNatClampNeg (defaultValue _))[i]? = _
    rw [hN, Array.getElem?_replicate, if_pos hi]
    rfl
theorem gw_retN (X : Stand p l e R s m args below meth c T locs cells slots) (hx : p.tables.exec = Jvm.exec) (hlk : meth.locks = false) {t : FieldType} (hret : meth.sig.returnType = some t) (ht : t = .boolean ∨ t = .byte ∨ t = .char ∨ t = .short) {pc : Nat} {Ls : Array Slot} {z w : Int32} {rest : List Value} (hd : decode c.code pc = .ok (.ireturn, 1)) (hw : nar t z = w)
    (hC : cells ≤ C) (hS : slots ≤ S) (hQ : Q (some (.int w)) T.heap locs) : GoW p e below s Q C S T (mkF m pc Ls (.int z :: rest)) := by
  subst hw
  exact gw_end X hlk (fun h => by rw [hret] at h; cases h) (fun fs h1 => retN X hx (t := t) hret ht hd h1) hC hS hQ
end OwnW1
section OwnW2
variable {p : Program} {l : Launch} {e : Env} {R : Room} {s : State} {m : MethodId} {args : Array Value} {below : List Frame} {meth : Method} {c : Code} {T T' : State} {locs : List Loc} {cells slots : Nat} {Z : State} {a0 : Array Value} {h : Heap} {Q : Option Value → Heap → List Loc → Prop} {C S maxL0 : Nat} {g g' : JFrame} {EL : List (String × Nat)}
theorem gw_of (q : Go p e below s Q C S T g) : GoW p e below s Q C S T g := by
  obtain ⟨s2, o, q1, q2, q3, v, L, rfl, q5, hr, hW, hs⟩ := q
  exact ⟨s2, _, q1, q2, q3, v, L, rfl, q5, ReturnedEndW.of_narrow ⟨_, rfl⟩ hW hs⟩
theorem gw_rebase {vm1 : Vm} {n : Nat} (hS : s.Since vm1 n) (hn : n ≤ T.heap.size) (q : GoW p e below (s.setVm vm1) Q C S T g) : GoW p e below s Q C S T g := by
  obtain ⟨s2, o, q1, q2, q3, v, L, rfl, q5, hr, hW, hB, hs⟩ := q
  have hle : T.heap.size ≤ s2.heap.size := q1.heap_le
  obtain ⟨h1, h2⟩ := hS.trans (n₂ := s2.heap.size) ⟨hW, hB⟩ (Nat.le_trans hn hle)
  exact ⟨s2, _, q1, q2, q3, v, L, rfl, q5, ⟨_, rfl⟩, h1, h2, hs.setVm s.vm⟩
def MetW (l : Launch) (y : MethodName) (bytes : ByteArray) (maxL : Nat) (ret : Option FieldType) (ws : List Cond) (rm : Room) (Z : State) (EL : List (String × Nat)) (sa : Addr) (as' : Array Value) (h0 : Heap) (Q : Option Value → Heap → List Loc → Prop) (C S : Nat) : Prop :=
  MetFree l y (head1 (Jvm.Cond.code y bytes maxL ret :: ws) rm) (fun a U => a = as' ∧ Z.Warmed39 U.vm ∧ U.heap = h0 ∧ CHv Z EL U.vm h0 ∧ Safe Z EL U.vm h0 sa) (fun _ _ _ _ _ => True) (fun _ U o U' => ∃ v L, o = .returned v ∧ Q v U'.heap L ∧ ReturnedEndW U o U' L C S)
theorem own_bodyW {y : MethodName} {bytes : ByteArray} {maxL : Nat} {ret : Option FieldType} {rm : Room} {as' : Array Value} {h0 : Heap} {ws : List Cond} {sa : Addr} (hn : plainFor y = true) {C S : Nat}
    (H : ∀ p e s m below meth c s₁, Ct p s m meth c Z y.cls y.name bytes maxL ret → Stand p l e rm s m as' below meth c s₁ [] 0 0 → s₁.heap = h0 → CHv Z EL s.vm h0 → Safe Z EL s.vm h0 sa → GoW p e below s Q C S s₁ (entryFrame m as' maxL)) :
    MetW l y bytes maxL ret ws rm Z EL sa as' h0 Q C S := by
  refine MetFree.of_bodySF hn hisR ?_
  intro p e s m args below meth c s₁ Bd hml0 hP hK
  obtain ⟨rfl, hZ, hh, hC, hSa⟩ := hP
  have hown : s.vm.findClass y.cls = some m.cls := findClass_of_methodNamed Bd.named
  have hnm := (name_of_methodNamed Bd.named Bd.method).1
  have X0 : Stand p l e rm s m args below meth c s₁ [] 0 0 := Stand.of_body Bd
  have e0 : s₁.heap = h0 := by rw [← hh, Bd.state]; rfl
  exact H p e s m below meth c s₁ ⟨Bd.exec, hZ, hown, Bd.bytes, hml0, Bd.returns, Bd.notSynchronized, hnm⟩ X0 e0 hC hSa
theorem own_backW {y : MethodName} {bytes : ByteArray} {maxL : Nat} {ret : Option FieldType} {rm : Room} {len W : Nat} {as' : Array Value} {sa : Addr} (hM : MetW l y bytes maxL ret [] rm Z EL sa as' h Q rm.cells rm.slots)
    (hZ : Z.Warmed39 s.vm) (wc : (Cond.code y bytes maxL ret).before a0 Z = true) (wz : (Cond.initialized y.cls).before a0 Z = true) (hf : rm.frames + 1 ≤ R.frames) (hl : W + (maxL + 11) + rm.locals ≤ R.locals) (hEL : EW Z a0 EL) (H : CHv Z EL s.vm h) (hsa : sa < h.size) (Sa : Safe Z EL s.vm h sa) :
    BackS l R p e below s args y len W (fun A a => a = as' ∧ A.U.heap = h ∧ A.cells + rm.cells ≤ R.cells ∧ A.slots + rm.slots ≤ R.slots)
      (fun A _ v B => ∃ L, Q v B.U.heap L ∧ B.locs = A.locs ++ L ∧ B.cells = A.cells + rm.cells ∧ B.slots = A.slots + rm.slots) := by
  refine BackS.of_freeW (bytes := bytes) (maxL := maxL) (ret := ret) (E := fun _ _ o t L k n => k = rm.cells ∧ n = rm.slots ∧ ∃ v, o = .returned v ∧ Q v t.heap L) hM hf hl ?_ ?_ (fun _ _ _ _ _ _ _ _ _ => trivial) (fun _ _ _ _ ⟨v, L, h1, h2, h3⟩ => ⟨L, _, _, h3, rfl, rfl, v, h1, h2⟩) ?_
  · intro m meth c A a Y hp
    have hU : Z.Warmed39 A.U.vm := wtrans hZ Y.warmed
    refine ⟨?_, mv hU wc, mv hU wz, hp.2.2.1, hp.2.2.2⟩
    show (Cond.and _ .tt).before a A.U = true
    rw [Cond.before_and, mv hU wc]
    rfl
  · intro m meth c A a g mk Y hp
    have Y' : Stand p l e R (s.setVm s.vm) m args below meth c A.U A.locs A.cells A.slots := Y
    have hr := CHv.at (s := s) (vm0 := s.vm) Y' hZ hEL H
    exact ⟨hp.1, wtrans hZ Y.warmed, hp.2.1, hr.1, hr.safe hsa Sa⟩
  · intro m meth c A a g mk v t L k n Y hp _ _ q
    obtain ⟨e1, e2, v', e3, e4⟩ := q
    cases e3
    subst e1 e2
    exact ⟨L, e4, rfl, rfl, rfl⟩
theorem gw_callIW (X : Stand p l e R s m args below meth c T locs cells slots) (hx : p.tables.exec = Jvm.exec) (hZ : Z.Warmed39 s.vm) (hml : c.maxLocals = maxL0) {own : String} {index : Nat} {y : MethodName} {bytes : ByteArray} {maxL : Nat} (hown : s.vm.findClass own = some m.cls) (hy1 : y.name = "<init>")
    (w1 : (Cond.methodLink own index y).before a0 Z = true) (w2 : (Cond.instanceMethod y).before a0 Z = true) (w4 : (Cond.code y bytes maxL none).before a0 Z = true) (w5 : (Cond.initialized y.cls).before a0 Z = true) (eT : T.heap = h) (hEL : EW Z a0 EL) (H : CHv Z EL s.vm h) {a : Addr} (hsa : a < h.size) (Sa : Safe Z EL s.vm h a) {argsL rest : List Value} {rm : Room} {Q' : Option Value → Heap → List Loc → Prop} {W : Nat}
    (hM : MetW l y bytes maxL none [] rm Z EL a (.ref a :: argsL).toArray h Q' rm.cells rm.slots)
    (hd : decode c.code g.pc = .ok (.invokespecial index, 3)) (hs : g.stack = argsL.reverse ++ .ref a :: rest) (hg : g.method = m) (hsz : g.locals.size = maxL0) (hlen : ∀ sig, parseMethodDescriptor y.desc = some sig → argsL.length = sig.parameters.length) (hW : 2 * g.monitorRoom + (rest.map fun v => v.category).sum ≤ W)
    (hy : y.cls ≠ "java/lang/invoke/MethodHandle" ∧ y.cls ≠ "java/lang/invoke/VarHandle") (hf : rm.frames + 1 ≤ R.frames) (hl : W + (maxL + 11) + rm.locals ≤ R.locals) (hc : cells + rm.cells ≤ R.cells) (hsl : slots + rm.slots ≤ R.slots)
    (k : ∀ s' T' v L, Z.Warmed39 s'.vm → s'.vm.findClass own = some m.cls → Stand p l e R s' m args below meth c T' (locs ++ L) (cells + rm.cells) (slots + rm.slots) → Q' v T'.heap L → GoW p e below s' Q C S T' { g with pc := g.pc + 3, stack := v.toList ++ rest }) : GoW p e below s Q C S T g := by
  obtain ⟨v, _, ⟨T1, L1, k1, n1⟩, -, X1, hS, hgr, ⟨Lc, hQ, l1, y1, z1⟩, st⟩ := X.specialBackS hx (y := y) hy1 hown (mvT hZ w1) (mvT hZ w2) (mvT hZ w4) hy (own_backW (W := W) hM hZ w4 w5 hf hl hEL H hsa Sa) (g := g) hg (hsz.trans hml.symm) (Steps.refl _) (a := a) (argsL := argsL) (rest := rest) hlen hs hW hd (fun _ _ => ⟨rfl, eT, hc, hsl⟩)
  dsimp only [Pt.U, Pt.locs, Pt.cells, Pt.slots] at X1 hS hgr l1 y1 z1 st hQ
  subst l1 y1 z1
  exact gw_tr st (gw_rebase hS (Nat.le_refl _) (k (s.setVm T1.vm) T1 v Lc (State.Warmed39.trans hZ hS.1) ((hS.1.alike.findClass _ _).trans hown) X1 hQ))
theorem gw_ldcE (X : Stand p l e R s m args below meth c T locs cells slots) (hx : p.tables.exec = Jvm.exec) (hZ : Z.Warmed39 s.vm) {own : String} {index : Nat} (hown : s.vm.findClass own = some m.cls) (w : (Cond.stringLink own index "").before a0 Z = true) (wS : ∀ a ∈ Bundle.stringAtoms, a.before a0 Z = true)
    (eT : T.heap = h) (hEL : EW Z a0 EL) (hmem : (own, index) ∈ EL) (H : CHv Z EL s.vm h) (hd : decode c.code g.pc = .ok (.ldc index, 2)) (hg : g.method = m) (hc : cells + 2 ≤ R.cells) (hl : slots + 4 ≤ R.slots)
    (k : ∀ s' T' h' a b, Z.Warmed39 s'.vm → s'.vm.findClass own = some m.cls → Stand p l e R s' m args below meth c T' locs (cells + 2) (slots + 4) → T'.heap = h' → Ext h h' → Exa Z h' a "java/lang/String" → Fld Z h' a "java/lang/String" "coder" "B" (.int 0) → Fld Z h' a "java/lang/String" "value" "[B" (.ref b) → GA Z h' b .byte 0 (fun _ => .null) → Lit s' own index a → (∀ x, x < h.size → Safe Z EL s.vm h x → x ≠ a ∧ x ≠ b) → GoW p e below s' Q C S T' { g with pc := g.pc + 2, stack := .ref a :: g.stack }) : GoW p e below s Q C S T g := by
  have X0 : Stand p l e R (s.setVm s.vm) m args below meth c T locs cells slots := X
  obtain ⟨a, T', h', k1, b, kk, X1, e1, E1, hS, hk1, hW, hf, A1, A2, A3, A4, la, lb, hC, hL, hsafe, st⟩ := ldcCH (s := s) (vm0 := s.vm) X0 hx hZ hown w wS eT (k0 := 0) ((State.WarmedH.refl s).since 0) (Nat.zero_le _) hEL hmem H (vs := []) (z := 0) ⟨by simp, rfl⟩ (by decide) rfl hg hd (n := 0) (by decide) (by decide) hc hl
  obtain ⟨cl, B1, -, B3, -⟩ := A4
  exact gw_st st (gw_rebase hS (by rw [e1]; exact hk1) (k (s.setVm T'.vm) T' h' a b hW hf X1 e1 E1 A1 A2 A3 ⟨cl, B1, B3.trans rfl, by decide, fun i hi => absurd hi (Nat.not_lt_zero _)⟩ hL (fun x hx hs => hsafe x (hC.safe hx hs))))
theorem gw_ldcA (X : Stand p l e R s m args below meth c T locs cells slots) (hx : p.tables.exec = Jvm.exec) (hZ : Z.Warmed39 s.vm) {own text : String} {index : Nat} (hown : s.vm.findClass own = some m.cls) (w : (Cond.stringLink own index text).before a0 Z = true) {a : Addr} (L : Lit s own index a)
    (hd : decode c.code g.pc = .ok (.ldc index, 2)) (hg : g.method = m) (k : GoW p e below s Q C S T { g with pc := g.pc + 2, stack := .ref a :: g.stack }) : GoW p e below s Q C S T g := by
  have X0 : Stand p l e R (s.setVm s.vm) m args below meth c T locs cells slots := X
  have L0 : Lit (s.setVm s.vm) own index a := L
  exact gw_st (ldcAgain (s := s) (vm0 := s.vm) X0 hx hZ hown w L0 hg hd) k
theorem own_exaga {x b : Addr} {K : String} {n : Nat} {ty : FieldType} {f : Nat → Value} (E : Exa Z h x K) (A : GA Z h b ty 0 f) (w : (Cond.instantiable K n).before a0 Z = true) : x ≠ b := by
  obtain ⟨k, B⟩ := own_arv (dv := .null) A (fun i hi => absurd hi (Nat.not_lt_zero _)) (z := 0) rfl
  exact Exa.neArv E B w
theorem own_safeA {x : Addr} {ty : FieldType} {n : Nat} {f : Nat → Value} {vm : Vm} (hZ : Z.Warmed39 vm) (A : GA Z h x ty n f) (ht : ty ≠ .byte) : Safe Z EL vm h x := by
  obtain ⟨cl, A1, -⟩ := A
  exact Safe.arr hZ.alike A1 ht
end OwnW2

section OwnV
variable {p : Program} {l : Launch} {e : Env} {R : Room} {s : State} {m : MethodId} {args : Array Value} {below : List Frame} {meth : Method} {c : Code} {T T' : State} {locs : List Loc} {cells slots : Nat} {Z : State} {a0 : Array Value} {h : Heap} {Q : Option Value → Heap → List Loc → Prop} {C S maxL0 : Nat} {g g' : JFrame}
theorem own_ch0 {vm : Vm} : CHv Z [] vm h := fun _ hp => by cases hp
theorem own_sf0 {vm : Vm} {x : Addr} : Safe Z [] vm h x := fun B => by
  obtain ⟨_, hp, _⟩ := B
  cases hp
theorem gw_ldcO (X : Stand p l e R s m args below meth c T locs cells slots) (hx : p.tables.exec = Jvm.exec) (hZ : Z.Warmed39 s.vm) {own text : String} {index : Nat} (hown : s.vm.findClass own = some m.cls) (w : (Cond.stringLink own index text).before a0 Z = true) (wS : ∀ a ∈ Bundle.stringAtoms, a.before a0 Z = true)
    (eT : T.heap = h) {n : Nat} (hn : 4 * text.toList.length ≤ n) (hbig : n ≤ 536870912) (hd : decode c.code g.pc = .ok (.ldc index, 2)) (hg : g.method = m) (hc : cells + 2 ≤ R.cells) (hl : slots + (n + 4) ≤ R.slots)
    (k : ∀ s' T' h' a, Z.Warmed39 s'.vm → s'.vm.findClass own = some m.cls → Stand p l e R s' m args below meth c T' locs (cells + 2) (slots + (n + 4)) → T'.heap = h' → Ext h h' → GoW p e below s' Q C S T' { g with pc := g.pc + 2, stack := .ref a :: g.stack }) : GoW p e below s Q C S T g := by
  have X0 : Stand p l e R (s.setVm s.vm) m args below meth c T locs cells slots := X
  obtain ⟨a, T', h', k1, X1, e1, E1, hS, hk1, hW, hf, st⟩ := ldcS (s := s) (vm0 := s.vm) X0 hx hZ hown w wS eT (k0 := 0) ((State.WarmedH.refl s).since 0) (Nat.zero_le _) hg hd hn hbig hc hl
  exact gw_st st (gw_rebase hS (by rw [e1]; exact hk1) (k (s.setVm T'.vm) T' h' a hW hf X1 e1 E1))
end OwnV

open OwnDy
theorem own_on32 {n : Nat} (h : n < 2147483648) : (Int32.ofNat n).toInt = n := Int32.toInt_ofNat_of_lt (by omega)
theorem own_on64 {n : Nat} (h : n < 9223372036854775808) : (Int64.ofNat n).toInt = n := Int64.toInt_ofNat_of_lt (by omega)

theorem own_rem (x m : Int32) (M : Nat) (hm : m.toInt = M) (h0 : 0 < M) (hM : M < 2147483648) : ∃ n : Nat, n < M ∧ ((x &&& (2147483647 : Int32)) % m) = Int32.ofNat n := by
  have h1 := c_mask x 2147483647 31 (by decide) (by decide)
  have h2 : ((x &&& (2147483647 : Int32)) % m).toInt = (x &&& (2147483647 : Int32)).toInt.tmod m.toInt := Int32.toInt_mod ..
  rw [hm, Int.tmod_eq_emod_of_nonneg (by omega)] at h2
  have h3 := Int.emod_nonneg (x &&& (2147483647 : Int32)).toInt (b := (M : Int)) (by omega)
  have h4 := Int.emod_lt_of_pos (x &&& (2147483647 : Int32)).toInt (b := (M : Int)) (by omega)
  refine ⟨((x &&& (2147483647 : Int32)) % m).toInt.toNat, by omega, ?_⟩
  apply Int32.toInt_inj.mp
  rw [own_on32 (by omega)]
  omega

theorem own_p1 {n : Nat} (h : n < 2147483647) : (Int32.ofNat n + (1 : Int32)).toInt = ((n + 1 : Nat) : Int) := by
  have h3 := c_iadd (Int32.ofNat n) 1
  have e1 : (1 : Int32).toInt = 1 := rfl
  have e2 : (Int32.ofNat n).toInt = n := own_on32 (by omega)
  have h4 := rng32 (Int32.ofNat n + 1)
  omega

theorem own_nz1 {n : Nat} (h : n < 2147483647) : (Int32.ofNat n + (1 : Int32)) ≠ 0 := by
  intro hq
  have := own_p1 h
  rw [hq] at this
  have e0 : (0 : Int32).toInt = 0 := rfl
  omega

theorem own_c (x : Int32) {n : Nat} (h : n < 2147483647) : ∃ k : Nat, k ≤ n ∧ ((x &&& (2147483647 : Int32)) % (Int32.ofNat n + (1 : Int32))) = Int32.ofNat k := by
  obtain ⟨k, h1, h2⟩ := own_rem x (Int32.ofNat n + 1) (n + 1) (own_p1 h) (by omega) (by omega)
  exact ⟨k, by omega, h2⟩

theorem own_nz0 {n : Nat} (h : 0 < n) (h2 : n < 1073741824) : ¬ (Int32.ofNat n = (0 : Int32)) := by
  intro hq
  have := congrArg Int32.toInt hq
  rw [own_on32 (by omega)] at this
  have e0 : (0 : Int32).toInt = 0 := rfl
  omega

theorem own_ad {n m k : Nat} (h : n + m = k) (hk : k < 1073741824) : (Int32.ofNat n + Int32.ofNat m) = Int32.ofNat k := by
  have h3 := c_iadd (Int32.ofNat n) (Int32.ofNat m)
  have e1 : (Int32.ofNat n).toInt = n := own_on32 (by omega)
  have e2 : (Int32.ofNat m).toInt = m := own_on32 (by omega)
  have h4 := rng32 (Int32.ofNat n + Int32.ofNat m)
  apply Int32.toInt_inj.mp
  rw [own_on32 (by omega)]
  omega

theorem own_i64 {n : Nat} (h : n < 2147483648) : (Int32.ofNat n).toInt64 = Int64.ofNat n := by
  apply Int64.toInt_inj.mp
  rw [Int32.toInt_toInt64, own_on32 h, own_on64 (by omega)]

def consts_1 : List (String × Nat) := []
theorem own_EL (Z : State) (a0 : Array Value) (hw : ∀ d ∈ tables_1, d.before a0 Z = true) : EW Z a0 consts_1 := EW.nil
theorem own_wS (Z : State) (a0 : Array Value) (hw : ∀ d ∈ tables_1, d.before a0 Z = true) : ∀ a ∈ Bundle.stringAtoms, a.before a0 Z = true := by
  intro d hd
  simp only [Bundle.stringAtoms, List.mem_cons, List.not_mem_nil, or_false] at hd
  rcases hd with rfl | rfl | rfl | rfl | rfl | rfl | rfl
  · exact (hw _ (List.mem_of_getElem? (i := 13) rfl))
  · exact (hw _ (List.mem_of_getElem? (i := 14) rfl))
  · exact (hw _ (List.mem_of_getElem? (i := 15) rfl))
  · exact (hw _ (List.mem_of_getElem? (i := 16) rfl))
  · exact (hw _ (List.mem_of_getElem? (i := 17) rfl))
  · exact (hw _ (List.mem_of_getElem? (i := 18) rfl))
  · exact (hw _ (List.mem_of_getElem? (i := 19) rfl))
theorem own_8 : Dy (4620693217682128896 : UInt64) 8 0 := by
  have e : (4620693217682128896 : UInt64) = FP.l2d (8 : Int64) := by decide +kernel
  rw [e]
  exact Dy.of_l2d rfl (by decide)
theorem own_256 : Dy (4643211215818981376 : UInt64) 256 0 := by
  have e : (4643211215818981376 : UInt64) = FP.l2d (256 : Int64) := by decide +kernel
  rw [e]
  exact Dy.of_l2d rfl (by decide)
theorem own_2048 : Dy (4656722014701092864 : UInt64) 2048 0 := by
  have e : (4656722014701092864 : UInt64) = FP.l2d (2048 : Int64) := by decide +kernel
  rw [e]
  exact Dy.of_l2d rfl (by decide)
theorem own_d0 : Dy FP.dconst0 0 0 := by
  have e : FP.dconst0 = FP.l2d (0 : Int64) := by decide +kernel
  rw [e]
  exact Dy.of_l2d rfl (by decide)
theorem own_d1 : Dy FP.dconst1 1 0 := by
  have e : FP.dconst1 = FP.l2d (1 : Int64) := by decide +kernel
  rw [e]
  exact Dy.of_l2d rfl (by decide)
/-- 1 - n/8, by its seven values -/
theorem own_om {x : UInt64} {n : Nat} (hx : Dy x n 3) (h1 : 1 ≤ n) (h7 : n ≤ 7) : Dy (FP.dsub FP.dconst1 x) (8 - n) 3 := by
  have key : ∀ (x y : UInt64) (n k : Nat), 0 < n → Dy x n k → Dy y n k → x = y := by
    intro x y n k hn hx hy
    refine Jvm.FP.Core.eq_bits ?_ (own_cmp_eq hx hy rfl)
    intro hz
    obtain ⟨z, e1, e2⟩ := hy.val
    rw [hz.zval] at e1
    have hz0 : z = 0 := by omega
    rw [hz0, Nat.zero_mul] at e2
    exact absurd e2.symm (Nat.ne_of_gt (Nat.mul_pos hn (Nat.two_pow_pos _)))
  have d8 : ∀ m : Nat, 1 ≤ m → m ≤ 7 → Dy (FP.ddiv (FP.l2d (Int64.ofNat m)) (FP.l2d 8)) m 3 := fun m a b => (Dy.of_l2d (own_on64 (by omega)) (by omega)).div (Dy.of_l2d (n := 8) rfl (by decide)) (by decide) (by omega) (by decide) (by omega)
  have e := key x _ n 3 (by omega) hx (d8 n h1 h7)
  rw [e]
  have hs : ∀ m : Nat, m < 8 → 1 ≤ m → FP.dsub FP.dconst1 (FP.ddiv (FP.l2d (Int64.ofNat m)) (FP.l2d 8)) = FP.ddiv (FP.l2d (Int64.ofNat (8 - m))) (FP.l2d 8) := by decide +kernel
  rw [hs n (by omega) h1]
  exact d8 (8 - n) (by omega) (by omega)
theorem own_s (x : Int32) : ∃ n : Nat, 1 ≤ n ∧ n ≤ 256 ∧ ((1 : Int32) + (x &&& (255 : Int32))) = Int32.ofNat n := by
  have h1 := c_mask x 255 8 (by decide) (by decide)
  have h2 := c_iadd 1 (x &&& 255)
  have h3 := rng32 (1 + (x &&& 255))
  have e1 : (1 : Int32).toInt = 1 := rfl
  refine ⟨((1 : Int32) + (x &&& 255)).toInt.toNat, by omega, by omega, ?_⟩
  apply Int32.toInt_inj.mp
  rw [own_on32 (by omega)]
  omega
theorem own_k (x : Int32) : ∃ n : Nat, 1 ≤ n ∧ n ≤ 7 ∧ ((1 : Int32) + ((x &&& (2147483647 : Int32)) % (7 : Int32))) = Int32.ofNat n := by
  obtain ⟨n, h1, h2⟩ := own_rem x (7 : Int32) 7 rfl (by decide) (by decide)
  refine ⟨1 + n, by omega, by omega, ?_⟩
  rw [h2]
  exact own_ad (n := 1) rfl (by omega)
theorem own_e8 {n : Nat} (h1 : 1 ≤ n) (h7 : n ≤ 7) : ((8 : Int32) - Int32.ofNat n) = Int32.ofNat (8 - n) := by
  have : ∀ m : Nat, m < 8 → 1 ≤ m → ((8 : Int32) - Int32.ofNat m) = Int32.ofNat (8 - m) := by decide
  exact this n (by omega) h1
theorem own_mu {a b : Nat} (h : a * b < 2147483648) (ha : a < 2147483648) (hb : b < 2147483648) : (Int32.ofNat a * Int32.ofNat b) = Int32.ofNat (a * b) := by
  rw [← Int32.ofNat_mul]
theorem own_ml {a b : Nat} : (Int64.ofNat a * Int64.ofNat b) = Int64.ofNat (a * b) := by rw [← Int64.ofNat_mul]
theorem own_msk (x : Int32) : ∃ n : Nat, n < 2147483648 ∧ (x &&& (2147483647 : Int32)) = Int32.ofNat n := by
  have h1 := c_mask x 2147483647 31 (by decide) (by decide)
  refine ⟨(x &&& (2147483647 : Int32)).toInt.toNat, by omega, ?_⟩
  apply Int32.toInt_inj.mp
  rw [own_on32 (by omega)]
  omega
theorem own_sh : ∀ n : Nat, n < 31 → ((1 : Int32) <<< (Int32.ofNat n &&& 31)) = Int32.ofNat (2 ^ n) := by decide +kernel
theorem own_z0 {n : Nat} (h : n < 2147483648) (hq : Int32.ofNat n = (0 : Int32)) : n = 0 := by
  have := congrArg Int32.toInt hq
  rw [own_on32 h] at this
  have e0 : (0 : Int32).toInt = 0 := rfl
  omega
theorem own_dv2 {N e : Nat} : N * 2 ^ 0 * 2 ^ (11 + e) = N * (2048 * 2 ^ e) * 2 ^ 0 := by
  rw [Nat.pow_zero, Nat.mul_one, Nat.mul_one, Nat.pow_add]
theorem own_sum {A B k : Nat} : (A * 2 ^ 11 + B * 2 ^ (3 + k)) * 2 ^ (11 + k) = (A * 256 + B * 2 ^ k) * (2 ^ (3 + k) * 2 ^ 11) := by
  rw [Nat.pow_add 2 3 k, Nat.pow_add 2 11 k]
  generalize 2 ^ k = P
  have e1 : B * (2 ^ 3 * P) = 8 * (B * P) := by rw [show 2 ^ 3 = 8 from rfl]; ac_rfl
  have e2 : A * 2 ^ 11 + B * (2 ^ 3 * P) = 8 * (A * 256 + B * P) := by rw [e1]; omega
  rw [e2, show 2 ^ 3 = 8 from rfl]
  generalize A * 256 + B * P = V
  ac_rfl
theorem own_bd {nk nq ns k : Nat} (h1 : nk ≤ 7) (h2 : nq ≤ 2147483648) (h3 : ns ≤ 256) (hk : k ≤ 30) : nk * nq * 256 + (8 - nk) * ns * 2 ^ k < 2 ^ 53 := by
  have b1 : nk * nq ≤ 7 * 2147483648 := Nat.mul_le_mul h1 h2
  have b2 : (8 - nk) * ns ≤ 8 * 256 := Nat.mul_le_mul (by omega) h3
  have b3 : 2 ^ k ≤ 2 ^ 30 := Nat.pow_le_pow_right (by decide) hk
  have b4 : (8 - nk) * ns * 2 ^ k ≤ 8 * 256 * 2 ^ 30 := Nat.mul_le_mul b2 b3
  omega
theorem own_num2 {a b c d k : Nat} (ha : a ≤ 8) (hb : b ≤ 1073741824) (hc : c ≤ 8) (hd : d ≤ 256) (hk : k ≤ 30) : ((((Int32.ofNat a).toInt64 * (Int32.ofNat b).toInt64) * (256 : Int64)) + (((Int32.ofNat c).toInt64 * (Int32.ofNat d).toInt64) * (Int32.ofNat (2 ^ k)).toInt64)) = Int64.ofNat (a * b * 256 + c * d * 2 ^ k) := by
  have b3 : 2 ^ k ≤ 2 ^ 30 := Nat.pow_le_pow_right (by decide) hk
  rw [own_i64 (by omega), own_i64 (by omega), own_i64 (by omega), own_i64 (by omega), own_i64 (by omega)]
  rw [show (256 : Int64) = Int64.ofNat 256 from rfl, ← Int64.ofNat_mul, ← Int64.ofNat_mul, ← Int64.ofNat_mul, ← Int64.ofNat_mul, ← Int64.ofNat_add]
theorem d3_0 : decode prog_78_method_2_code 0 = .ok (.dload_n 1, 1) := by decide +kernel
theorem d3_1 : decode prog_78_method_2_code 1 = .ok (.dconst 0, 1) := by decide +kernel
theorem d3_2 : decode prog_78_method_2_code 2 = .ok (.dcmp .l, 1) := by decide +kernel
theorem d3_3 : decode prog_78_method_2_code 3 = .ok (.ifCond .le 9, 3) := by decide +kernel
theorem d3_6 : decode prog_78_method_2_code 6 = .ok (.dload_n 1, 1) := by decide +kernel
theorem d3_7 : decode prog_78_method_2_code 7 = .ok (.dconst 1, 1) := by decide +kernel
theorem d3_8 : decode prog_78_method_2_code 8 = .ok (.dcmp .g, 1) := by decide +kernel
theorem d3_9 : decode prog_78_method_2_code 9 = .ok (.ifCond .lt 18, 3) := by decide +kernel
theorem d3_12 : decode prog_78_method_2_code 12 = .ok (.new 7, 3) := by decide +kernel
theorem d3_15 : decode prog_78_method_2_code 15 = .ok (.dup, 1) := by decide +kernel
theorem d3_16 : decode prog_78_method_2_code 16 = .ok (.aload_n 0, 1) := by decide +kernel
theorem d3_17 : decode prog_78_method_2_code 17 = .ok (.dload_n 1, 1) := by decide +kernel
theorem d3_18 : decode prog_78_method_2_code 18 = .ok (.invokedynamic 9, 5) := by decide +kernel
theorem d3_23 : decode prog_78_method_2_code 23 = .ok (.invokespecial 13, 3) := by decide +kernel
theorem d3_26 : decode prog_78_method_2_code 26 = .ok (.athrow, 1) := by decide +kernel
theorem d3_27 : decode prog_78_method_2_code 27 = .ok (.dload_n 1, 1) := by decide +kernel
theorem d3_28 : decode prog_78_method_2_code 28 = .ok (.dreturn, 1) := by decide +kernel
theorem pn0 : plainFor (⟨"com/example/query_likelihood_ranker/querylikelihoodranker/ranking/SmoothingParameters", "strictlyBetweenZeroAndOne", "(Ljava/lang/String;D)D"⟩ : MethodName) = true := by first | (refine plainFor_of_name ?_; simp [plainName, overriddenIn]; done) | (refine plainFor_of_name ?_; decide +kernel) | decide +kernel
def fSb (xq : UInt64) : UInt64 := xq
theorem ef_3 (m : MethodId) (t : Addr) (xq : UInt64) (nk : Nat) : entryFrame m #[(.ref t), (.double xq)] 3 = mkF m 0 #[.val (.ref t), .val (.double xq), .second] [] := by first | (simp [entryFrame, mkF, argsToLocals, Value.category]; done) | rfl
abbrev rm_3 : Room := ({ frames := 0, cells := 0, slots := 0, locals := 0 } : Room)
set_option maxRecDepth 65536 in
set_option maxHeartbeats 4000000 in
theorem met_3 (l : Launch) (Z : State) (a0 : Array Value) (hw : ∀ d ∈ tables_1, d.before a0 Z = true) (t : Addr) (xq : UInt64) (nk : Nat) (h0 : Heap) (n0 : Nat) (Z0 : n0 ≤ h0.size) (P0 : Dy xq nk 3) (P1 : 1 ≤ nk) (P2 : nk ≤ 7) :
    Met l (⟨"com/example/query_likelihood_ranker/querylikelihoodranker/ranking/SmoothingParameters", "strictlyBetweenZeroAndOne", "(Ljava/lang/String;D)D"⟩ : MethodName) prog_78_method_2_code 3 (some FieldType.double) [] rm_3 Z #[(.ref t), (.double xq)] h0 (QV (some (.double (fSb xq))) h0 n0) 0 0 := by
  refine own_body pn0 ?_
  intro p e s m below meth c s₁ ct X0 e0
  have ct0 := ct
  obtain ⟨hx, hZ, hown, hby, hml, hret, hlk, hnm⟩ := ct
  have N0 := Fr.nil n0
  refine castGo (ef_3 m t xq nk) ?_
  unfold fSb
  show Go p e below s _ _ _ s₁ (mkF m 0 #[.val (.ref t), .val (.double xq), .second] [])
  refine go_st (fun _ kq => XS.dloadN X0.here hx rfl (hb hby d3_0) rfl kq) ?_
  show Go p e below s _ _ _ s₁ (mkF m 1 #[.val (.ref t), .val (.double xq), .second] [(.double xq)])
  refine go_st (fun _ kq => XS.dconst0 X0.here hx rfl (hb hby d3_1) rfl kq) ?_
  show Go p e below s _ _ _ s₁ (mkF m 2 #[.val (.ref t), .val (.double xq), .second] [(.double (FP.dconst0)), (.double xq)])
  refine go_st (fun _ kq => XS.dcmpS X0.here hx rfl (hb hby d3_2) rfl rfl kq) ?_
  show Go p e below s _ _ _ s₁ (mkF m 3 #[.val (.ref t), .val (.double xq), .second] [(.int (cmpValue (FP.dcmp xq (FP.dconst0)) .l))])
  have hb1 : (0 : Int32) < (cmpValue (FP.dcmp xq (FP.dconst0)) .l) := by rw [show FP.dcmp xq FP.dconst0 = some .gt from own_cmp_gt P0 own_d0 (by omega)]; decide
  refine go_st (fun _ kq => XS.ifNo X0.here hx rfl (hb hby d3_3) rfl (XT.i0_le_f hb1) kq) ?_
  show Go p e below s _ _ _ s₁ (mkF m 6 #[.val (.ref t), .val (.double xq), .second] [])
  refine go_st (fun _ kq => XS.dloadN X0.here hx rfl (hb hby d3_6) rfl kq) ?_
  show Go p e below s _ _ _ s₁ (mkF m 7 #[.val (.ref t), .val (.double xq), .second] [(.double xq)])
  refine go_st (fun _ kq => XS.dconst1 X0.here hx rfl (hb hby d3_7) rfl kq) ?_
  show Go p e below s _ _ _ s₁ (mkF m 8 #[.val (.ref t), .val (.double xq), .second] [(.double (FP.dconst1)), (.double xq)])
  refine go_st (fun _ kq => XS.dcmpS X0.here hx rfl (hb hby d3_8) rfl rfl kq) ?_
  show Go p e below s _ _ _ s₁ (mkF m 9 #[.val (.ref t), .val (.double xq), .second] [(.int (cmpValue (FP.dcmp xq (FP.dconst1)) .g))])
  have hb2 : (cmpValue (FP.dcmp xq (FP.dconst1)) .g) < (0 : Int32) := by rw [show FP.dcmp xq FP.dconst1 = some .lt from own_cmp_lt P0 own_d1 (by omega)]; decide
  refine go_st (fun _ kq => XS.ifYes X0.here hx rfl (pc0 := 9) (pc' := 27) rfl (hb hby d3_9) rfl (XT.i0_lt_t hb2) (by decide) (by decide) kq) ?_
  show Go p e below s _ _ _ s₁ (mkF m 27 #[.val (.ref t), .val (.double xq), .second] [])
  refine go_st (fun _ kq => XS.dloadN X0.here hx rfl (hb hby d3_27) rfl kq) ?_
  show Go p e below s _ _ _ s₁ (mkF m 28 #[.val (.ref t), .val (.double xq), .second] [(.double xq)])
  exact go_retD X0 hx hlk hret (hb hby d3_28) (by decide) (by decide) ⟨rfl, N0, e0⟩
theorem d1_0 : decode prog_59_method_1_code 0 = .ok (.aload_n 0, 1) := by decide +kernel
theorem d1_1 : decode prog_59_method_1_code 1 = .ok (.invokespecial 1, 3) := by decide +kernel
theorem d1_4 : decode prog_59_method_1_code 4 = .ok (.aload_n 0, 1) := by decide +kernel
theorem d1_5 : decode prog_59_method_1_code 5 = .ok (.ldc 7, 2) := by decide +kernel
theorem d1_7 : decode prog_59_method_1_code 7 = .ok (.dload_n 1, 1) := by decide +kernel
theorem d1_8 : decode prog_59_method_1_code 8 = .ok (.invokestatic 9, 3) := by decide +kernel
theorem d1_11 : decode prog_59_method_1_code 11 = .ok (.putfield 15, 3) := by decide +kernel
theorem d1_14 : decode prog_59_method_1_code 14 = .ok (.return_, 1) := by decide +kernel
theorem pn1 : plainFor (⟨"com/example/query_likelihood_ranker/querylikelihoodranker/ranking/JelinekMercerSmoothing", "<init>", "(D)V"⟩ : MethodName) = true := by first | (refine plainFor_of_name ?_; simp [plainName, overriddenIn]; done) | (refine plainFor_of_name ?_; decide +kernel) | decide +kernel
def Q_ini (Z : State) (a : Addr) (xq : UInt64) (nk : Nat) (h0 : Heap) (n0 : Nat) (v : Option Value) (h : Heap) (L : List Loc) : Prop := v = none ∧ Fr n0 L ∧ Keep h0 h [a] ∧ Exa Z h a "com/example/query_likelihood_ranker/querylikelihoodranker/ranking/JelinekMercerSmoothing" ∧ Fld Z h a "com/example/query_likelihood_ranker/querylikelihoodranker/ranking/JelinekMercerSmoothing" "m_lambda" "D" (.double xq)
theorem pd0 : parseMethodDescriptor "(Ljava/lang/String;D)D" = some ⟨[(.object "java/lang/String"), .double], (some .double)⟩ := by decide +kernel
theorem ef_ini (m : MethodId) (a : Addr) (xq : UInt64) (nk : Nat) : entryFrame m #[(.ref a), (.double xq)] 3 = mkF m 0 #[.val (.ref a), .val (.double xq), .second] [] := by first | (simp [entryFrame, mkF, argsToLocals, Value.category]; done) | rfl
abbrev rm_ini : Room := ({ frames := 1, cells := 2, slots := 28, locals := 15 } : Room)
set_option maxRecDepth 65536 in
set_option maxHeartbeats 4000000 in
theorem met_ini (l : Launch) (Z : State) (a0 : Array Value) (hw : ∀ d ∈ tables_1, d.before a0 Z = true) (a : Addr) (xq : UInt64) (nk : Nat) (h0 : Heap) (n0 : Nat) (Z0 : n0 ≤ h0.size) (P0 : Exa Z h0 a "com/example/query_likelihood_ranker/querylikelihoodranker/ranking/JelinekMercerSmoothing") (P1 : Fld Z h0 a "com/example/query_likelihood_ranker/querylikelihoodranker/ranking/JelinekMercerSmoothing" "m_lambda" "D" (.double (0 : UInt64))) (P2 : n0 ≤ a) (P3 : Dy xq nk 3) (P4 : 1 ≤ nk) (P5 : nk ≤ 7) :
    MetW l (⟨"com/example/query_likelihood_ranker/querylikelihoodranker/ranking/JelinekMercerSmoothing", "<init>", "(D)V"⟩ : MethodName) prog_59_method_1_code 3 none [] rm_ini Z consts_1 a #[(.ref a), (.double xq)] h0 (Q_ini Z a xq nk h0 n0) rm_ini.cells rm_ini.slots := by
  refine own_bodyW pn1 ?_
  intro p e s m below meth c s₁ ct X0 e0 hC0 hSa0
  have ct0 := ct
  obtain ⟨hx, hZ, hown, hby, hml, hret, hlk, hnm⟩ := ct
  have lt_a : a < h0.size := P0.lt
  have N0 := Fr.nil n0
  refine castGoW (ef_ini m a xq nk) ?_
  show GoW p e below s _ _ _ s₁ (mkF m 0 #[.val (.ref a), .val (.double xq), .second] [])
  refine gw_st (fun _ kq => XS.aloadN X0.here hx rfl (hb hby d1_0) rfl rfl kq) ?_
  show GoW p e below s _ _ _ s₁ (mkF m 1 #[.val (.ref a), .val (.double xq), .second] [(.ref a)])
  refine gw_initO X0 hx hZ hml hown (hw _ (List.mem_of_getElem? (i := 9) rfl)) (hw _ (List.mem_of_getElem? (i := 10) rfl)) (hw _ (List.mem_of_getElem? (i := 11) rfl)) e0 (hb hby d1_1) rfl rfl rfl (by decide) (W := 0) (by show 2 * 0 + _ ≤ _; exact Nat.le_of_eq rfl) (by decide) ?_
  intro T3 X3 e3
  show GoW p e below s _ _ _ T3 (mkF m 4 #[.val (.ref a), .val (.double xq), .second] [])
  refine gw_st (fun _ kq => XS.aloadN X3.here hx rfl (hb hby d1_4) rfl rfl kq) ?_
  show GoW p e below s _ _ _ T3 (mkF m 5 #[.val (.ref a), .val (.double xq), .second] [(.ref a)])
  refine gw_ldcO X3 hx hZ hown (hw _ (List.mem_of_getElem? (i := 12) rfl)) (own_wS Z a0 hw) e3 (n := 24) (by decide) (by decide) (hb hby d1_5) rfl (by decide) (by decide) ?_
  intro s T4 h4 a4 hZ hown X4 e4 E4
  show GoW p e below s _ _ _ T4 (mkF m 7 #[.val (.ref a), .val (.double xq), .second] [(.ref a4), (.ref a)])
  refine gw_st (fun _ kq => XS.dloadN X4.here hx rfl (hb hby d1_7) rfl kq) ?_
  show GoW p e below s _ _ _ T4 (mkF m 8 #[.val (.ref a), .val (.double xq), .second] [(.double xq), (.ref a4), (.ref a)])
  have z6 : n0 ≤ h4.size := Nat.le_trans Z0 E4.1
  refine gw_callS X4 hx hZ hml hown (hw _ (List.mem_of_getElem? (i := 20) rfl)) (hw _ (List.mem_of_getElem? (i := 21) rfl)) (hw _ (List.mem_of_getElem? (i := 22) rfl)) (hw _ (List.mem_of_getElem? (i := 23) rfl)) e4 (argsL := [(.ref a4), (.double xq)]) (rest := [(.ref a)]) (W := 1) (met_3 l Z a0 hw a4 xq nk h4 n0 z6 P3 P4 P5) (hb hby d1_8) rfl rfl rfl (lenOf pd0 rfl) (by show 2 * 0 + _ ≤ _; exact Nat.le_of_eq rfl) (by decide) (by decide) (by decide) (by decide) (by decide) ?_
  intro T5 v5 L5 X5 q5
  obtain ⟨rfl, M5, e5⟩ := q5
  have N5 := Fr.app N0 M5
  show GoW p e below s _ _ _ T5 (mkF m 11 #[.val (.ref a), .val (.double xq), .second] [(.double xq), (.ref a)])
  have c7 := Fld.ext E4 P1
  have c8 := Exa.ext E4 P0
  refine gw_putF X5 hx hZ hown (host := "") (Or.inl (hw _ (List.mem_of_getElem? (i := 24) rfl))) Via.refl e5 c7 c8 (Or.inr ⟨(hw _ (List.mem_of_getElem? (i := 25) rfl)), rfl, hnm⟩) (hw _ (List.mem_of_getElem? (i := 4) rfl)) (ty := .double) (by decide) rfl rfl (hb hby d1_11) rfl rfl ?_
  intro T9 h9 X9 e9 W9
  have N9 := Fr.snoc X9 N5 P2
  have F9 : Fld Z h9 a "com/example/query_likelihood_ranker/querylikelihoodranker/ranking/JelinekMercerSmoothing" "m_lambda" "D" (.double xq) := Fld.same W9 c7
  show GoW p e below s _ _ _ T9 (mkF m 14 #[.val (.ref a), .val (.double xq), .second] [])
  have c10 := Exa.wr W9 c8
  exact gw_ret0 X9 hx hlk hret (hb hby d1_14) (by decide) (by decide) (by rw [e9]; exact ⟨rfl, N9, (Keep.wr (Keep.ext (Keep.refl h0 [a]) E4) W9 (Or.inl (by simp))), c10, F9⟩)
theorem d4_0 : decode prog_59_method_4_code 0 = .ok (.iload_n 2, 1) := by decide +kernel
theorem d4_1 : decode prog_59_method_4_code 1 = .ok (.ifCond .ne 7, 3) := by decide +kernel
theorem d4_4 : decode prog_59_method_4_code 4 = .ok (.dconst 0, 1) := by decide +kernel
theorem d4_5 : decode prog_59_method_4_code 5 = .ok (.goto 8, 3) := by decide +kernel
theorem d4_8 : decode prog_59_method_4_code 8 = .ok (.iload_n 1, 1) := by decide +kernel
theorem d4_9 : decode prog_59_method_4_code 9 = .ok (.i2d, 1) := by decide +kernel
theorem d4_10 : decode prog_59_method_4_code 10 = .ok (.iload_n 2, 1) := by decide +kernel
theorem d4_11 : decode prog_59_method_4_code 11 = .ok (.i2d, 1) := by decide +kernel
theorem d4_12 : decode prog_59_method_4_code 12 = .ok (.ddiv, 1) := by decide +kernel
theorem d4_13 : decode prog_59_method_4_code 13 = .ok (.dstore 7, 2) := by decide +kernel
theorem d4_15 : decode prog_59_method_4_code 15 = .ok (.aload_n 0, 1) := by decide +kernel
theorem d4_16 : decode prog_59_method_4_code 16 = .ok (.getfield 15, 3) := by decide +kernel
theorem d4_19 : decode prog_59_method_4_code 19 = .ok (.dload 7, 2) := by decide +kernel
theorem d4_21 : decode prog_59_method_4_code 21 = .ok (.dmul, 1) := by decide +kernel
theorem d4_22 : decode prog_59_method_4_code 22 = .ok (.dconst 1, 1) := by decide +kernel
theorem d4_23 : decode prog_59_method_4_code 23 = .ok (.aload_n 0, 1) := by decide +kernel
theorem d4_24 : decode prog_59_method_4_code 24 = .ok (.getfield 15, 3) := by decide +kernel
theorem d4_27 : decode prog_59_method_4_code 27 = .ok (.dsub, 1) := by decide +kernel
theorem d4_28 : decode prog_59_method_4_code 28 = .ok (.dload 4, 2) := by decide +kernel
theorem d4_30 : decode prog_59_method_4_code 30 = .ok (.dmul, 1) := by decide +kernel
theorem d4_31 : decode prog_59_method_4_code 31 = .ok (.dadd, 1) := by decide +kernel
theorem d4_32 : decode prog_59_method_4_code 32 = .ok (.dreturn, 1) := by decide +kernel
theorem pn2 : plainFor (⟨"com/example/query_likelihood_ranker/querylikelihoodranker/ranking/JelinekMercerSmoothing", "probability", "(IIIDI)D"⟩ : MethodName) = true := by first | (refine plainFor_of_name ?_; simp [plainName, overriddenIn]; done) | (refine plainFor_of_name ?_; decide +kernel) | decide +kernel
def Q_pz (Z : State) (a : Addr) (xq : UInt64) (cq : UInt64) (dq : Int32) (vq : Int32) (nk : Nat) (ns : Nat) (h0 : Heap) (n0 : Nat) (v : Option Value) (h : Heap) (L : List Loc) : Prop := ∃ rq : UInt64, v = some (.double rq) ∧ Fr n0 L ∧ Keep h0 h [] ∧ (Dy rq (nk * 0 * 256 + (8 - nk) * ns * 2 ^ 0) (11 + 0))
theorem ef_pz (m : MethodId) (a : Addr) (xq : UInt64) (cq : UInt64) (dq : Int32) (vq : Int32) (nk : Nat) (ns : Nat) : entryFrame m #[(.ref a), (.int (0 : Int32)), (.int (0 : Int32)), (.int dq), (.double cq), (.int vq)] 9 = mkF m 0 #[.val (.ref a), .val (.int (0 : Int32)), .val (.int (0 : Int32)), .val (.int dq), .val (.double cq), .second, .val (.int vq), .unset, .unset] [] := by first | (simp [entryFrame, mkF, argsToLocals, Value.category]; done) | rfl
abbrev rm_pz : Room := ({ frames := 0, cells := 0, slots := 0, locals := 0 } : Room)
set_option maxRecDepth 65536 in
set_option maxHeartbeats 4000000 in
theorem met_pz (l : Launch) (Z : State) (a0 : Array Value) (hw : ∀ d ∈ tables_1, d.before a0 Z = true) (a : Addr) (xq : UInt64) (cq : UInt64) (dq : Int32) (vq : Int32) (nk : Nat) (ns : Nat) (h0 : Heap) (n0 : Nat) (Z0 : n0 ≤ h0.size) (P0 : Dy xq nk 3) (P1 : Dy cq ns 8) (P2 : 1 ≤ nk) (P3 : nk ≤ 7) (P4 : ns ≤ 256) (P5 : Fld Z h0 a "com/example/query_likelihood_ranker/querylikelihoodranker/ranking/JelinekMercerSmoothing" "m_lambda" "D" (.double xq)) :
    Met l (⟨"com/example/query_likelihood_ranker/querylikelihoodranker/ranking/JelinekMercerSmoothing", "probability", "(IIIDI)D"⟩ : MethodName) prog_59_method_4_code 9 (some FieldType.double) [] rm_pz Z #[(.ref a), (.int (0 : Int32)), (.int (0 : Int32)), (.int dq), (.double cq), (.int vq)] h0 (Q_pz Z a xq cq dq vq nk ns h0 n0) rm_pz.cells rm_pz.slots := by
  refine own_body pn2 ?_
  intro p e s m below meth c s₁ ct X0 e0
  have ct0 := ct
  obtain ⟨hx, hZ, hown, hby, hml, hret, hlk, hnm⟩ := ct
  have N0 := Fr.nil n0
  refine castGo (ef_pz m a xq cq dq vq nk ns) ?_
  show Go p e below s _ _ _ s₁ (mkF m 0 #[.val (.ref a), .val (.int (0 : Int32)), .val (.int (0 : Int32)), .val (.int dq), .val (.double cq), .second, .val (.int vq), .unset, .unset] [])
  refine go_st (fun _ kq => XS.iloadN X0.here hx rfl (hb hby d4_0) rfl kq) ?_
  show Go p e below s _ _ _ s₁ (mkF m 1 #[.val (.ref a), .val (.int (0 : Int32)), .val (.int (0 : Int32)), .val (.int dq), .val (.double cq), .second, .val (.int vq), .unset, .unset] [(.int (0 : Int32))])
  refine go_st (fun _ kq => XS.ifNo X0.here hx rfl (hb hby d4_1) rfl (XT.i0_ne_f (by decide)) kq) ?_
  show Go p e below s _ _ _ s₁ (mkF m 4 #[.val (.ref a), .val (.int (0 : Int32)), .val (.int (0 : Int32)), .val (.int dq), .val (.double cq), .second, .val (.int vq), .unset, .unset] [])
  refine go_st (fun _ kq => XS.dconst0 X0.here hx rfl (hb hby d4_4) rfl kq) ?_
  show Go p e below s _ _ _ s₁ (mkF m 5 #[.val (.ref a), .val (.int (0 : Int32)), .val (.int (0 : Int32)), .val (.int dq), .val (.double cq), .second, .val (.int vq), .unset, .unset] [(.double (FP.dconst0))])
  refine go_st (fun _ kq => XS.goto X0.here hx rfl (pc0 := 5) (pc' := 13) rfl (hb hby d4_5) (by decide) (by decide) kq) ?_
  show Go p e below s _ _ _ s₁ (mkF m 13 #[.val (.ref a), .val (.int (0 : Int32)), .val (.int (0 : Int32)), .val (.int dq), .val (.double cq), .second, .val (.int vq), .unset, .unset] [(.double (FP.dconst0))])
  refine go_st (fun _ kq => XS.dstore X0.here hx rfl (hb hby d4_13) rfl (l' := #[.val (.ref a), .val (.int (0 : Int32)), .val (.int (0 : Int32)), .val (.int dq), .val (.double cq), .second, .val (.int vq), .val (.double (FP.dconst0)), .second]) rfl kq) ?_
  show Go p e below s _ _ _ s₁ (mkF m 15 #[.val (.ref a), .val (.int (0 : Int32)), .val (.int (0 : Int32)), .val (.int dq), .val (.double cq), .second, .val (.int vq), .val (.double (FP.dconst0)), .second] [])
  refine go_st (fun _ kq => XS.aloadN X0.here hx rfl (hb hby d4_15) rfl rfl kq) ?_
  show Go p e below s _ _ _ s₁ (mkF m 16 #[.val (.ref a), .val (.int (0 : Int32)), .val (.int (0 : Int32)), .val (.int dq), .val (.double cq), .second, .val (.int vq), .val (.double (FP.dconst0)), .second] [(.ref a)])
  refine go_getF X0 hx hZ hown (host := "") (Or.inl (hw _ (List.mem_of_getElem? (i := 24) rfl))) Via.refl e0 P5 (hb hby d4_16) rfl rfl ?_
  intro T11 X11 e11
  show Go p e below s _ _ _ T11 (mkF m 19 #[.val (.ref a), .val (.int (0 : Int32)), .val (.int (0 : Int32)), .val (.int dq), .val (.double cq), .second, .val (.int vq), .val (.double (FP.dconst0)), .second] [(.double xq)])
  refine go_st (fun _ kq => XS.dload X11.here hx rfl (hb hby d4_19) rfl kq) ?_
  show Go p e below s _ _ _ T11 (mkF m 21 #[.val (.ref a), .val (.int (0 : Int32)), .val (.int (0 : Int32)), .val (.int dq), .val (.double cq), .second, .val (.int vq), .val (.double (FP.dconst0)), .second] [(.double (FP.dconst0)), (.double xq)])
  have dy12 : Dy (FP.dmul xq (FP.dconst0)) (nk * 0) (3 + 0) := P0.mul own_d0 (by have := Nat.mul_le_mul P3 (show 0 ≤ 2147483648 by omega); omega) (by omega) (by rw [Nat.pow_add])
  refine go_st (fun _ kq => XS.dmulS X11.here hx rfl (hb hby d4_21) rfl (own_nan64 dy12.fin) rfl kq) ?_
  show Go p e below s _ _ _ T11 (mkF m 22 #[.val (.ref a), .val (.int (0 : Int32)), .val (.int (0 : Int32)), .val (.int dq), .val (.double cq), .second, .val (.int vq), .val (.double (FP.dconst0)), .second] [(.double (FP.dmul xq (FP.dconst0)))])
  refine go_st (fun _ kq => XS.dconst1 X11.here hx rfl (hb hby d4_22) rfl kq) ?_
  show Go p e below s _ _ _ T11 (mkF m 23 #[.val (.ref a), .val (.int (0 : Int32)), .val (.int (0 : Int32)), .val (.int dq), .val (.double cq), .second, .val (.int vq), .val (.double (FP.dconst0)), .second] [(.double (FP.dconst1)), (.double (FP.dmul xq (FP.dconst0)))])
  refine go_st (fun _ kq => XS.aloadN X11.here hx rfl (hb hby d4_23) rfl rfl kq) ?_
  show Go p e below s _ _ _ T11 (mkF m 24 #[.val (.ref a), .val (.int (0 : Int32)), .val (.int (0 : Int32)), .val (.int dq), .val (.double cq), .second, .val (.int vq), .val (.double (FP.dconst0)), .second] [(.ref a), (.double (FP.dconst1)), (.double (FP.dmul xq (FP.dconst0)))])
  refine go_getF X11 hx hZ hown (host := "") (Or.inl (hw _ (List.mem_of_getElem? (i := 24) rfl))) Via.refl e11 P5 (hb hby d4_24) rfl rfl ?_
  intro T13 X13 e13
  show Go p e below s _ _ _ T13 (mkF m 27 #[.val (.ref a), .val (.int (0 : Int32)), .val (.int (0 : Int32)), .val (.int dq), .val (.double cq), .second, .val (.int vq), .val (.double (FP.dconst0)), .second] [(.double xq), (.double (FP.dconst1)), (.double (FP.dmul xq (FP.dconst0)))])
  have dy14 : Dy (FP.dsub (FP.dconst1) xq) (8 - nk) 3 := own_om P0 P2 P3
  refine go_st (fun _ kq => XS.dsubS X13.here hx rfl (hb hby d4_27) rfl (own_nan64 dy14.fin) rfl kq) ?_
  show Go p e below s _ _ _ T13 (mkF m 28 #[.val (.ref a), .val (.int (0 : Int32)), .val (.int (0 : Int32)), .val (.int dq), .val (.double cq), .second, .val (.int vq), .val (.double (FP.dconst0)), .second] [(.double (FP.dsub (FP.dconst1) xq)), (.double (FP.dmul xq (FP.dconst0)))])
  refine go_st (fun _ kq => XS.dload X13.here hx rfl (hb hby d4_28) rfl kq) ?_
  show Go p e below s _ _ _ T13 (mkF m 30 #[.val (.ref a), .val (.int (0 : Int32)), .val (.int (0 : Int32)), .val (.int dq), .val (.double cq), .second, .val (.int vq), .val (.double (FP.dconst0)), .second] [(.double cq), (.double (FP.dsub (FP.dconst1) xq)), (.double (FP.dmul xq (FP.dconst0)))])
  have dy15 : Dy (FP.dmul (FP.dsub (FP.dconst1) xq) cq) ((8 - nk) * ns) 11 := dy14.mul P1 (by have := Nat.mul_le_mul (show 8 - nk ≤ 8 by omega) P4; omega) (by decide) (by omega)
  refine go_st (fun _ kq => XS.dmulS X13.here hx rfl (hb hby d4_30) rfl (own_nan64 dy15.fin) rfl kq) ?_
  show Go p e below s _ _ _ T13 (mkF m 31 #[.val (.ref a), .val (.int (0 : Int32)), .val (.int (0 : Int32)), .val (.int dq), .val (.double cq), .second, .val (.int vq), .val (.double (FP.dconst0)), .second] [(.double (FP.dmul (FP.dsub (FP.dconst1) xq) cq)), (.double (FP.dmul xq (FP.dconst0)))])
  have dy16 : Dy (FP.dadd (FP.dmul xq (FP.dconst0)) (FP.dmul (FP.dsub (FP.dconst1) xq) cq)) (nk * 0 * 256 + (8 - nk) * ns * 2 ^ 0) (11 + 0) := dy12.add dy15 (own_bd P3 (by omega) P4 (by omega)) (by omega) own_sum
  refine go_st (fun _ kq => XS.daddS X13.here hx rfl (hb hby d4_31) rfl (own_nan64 dy16.fin) rfl kq) ?_
  show Go p e below s _ _ _ T13 (mkF m 32 #[.val (.ref a), .val (.int (0 : Int32)), .val (.int (0 : Int32)), .val (.int dq), .val (.double cq), .second, .val (.int vq), .val (.double (FP.dconst0)), .second] [(.double (FP.dadd (FP.dmul xq (FP.dconst0)) (FP.dmul (FP.dsub (FP.dconst1) xq) cq)))])
  exact go_retD X13 hx hlk hret (hb hby d4_32) (by decide) (by decide) (by rw [e13]; exact ⟨(FP.dadd (FP.dmul xq (FP.dconst0)) (FP.dmul (FP.dsub (FP.dconst1) xq) cq)), rfl, N0, (Keep.refl h0 []), dy16⟩)
def Q_pn (Z : State) (a : Addr) (xq : UInt64) (cq : UInt64) (dq : Int32) (vq : Int32) (nk : Nat) (ns : Nat) (nc : Nat) (nl : Nat) (nq : Nat) (kq : Nat) (h0 : Heap) (n0 : Nat) (v : Option Value) (h : Heap) (L : List Loc) : Prop := ∃ rq : UInt64, v = some (.double rq) ∧ Fr n0 L ∧ Keep h0 h [] ∧ (Dy rq (nk * nq * 256 + (8 - nk) * ns * 2 ^ kq) (11 + kq))
theorem ef_pn (m : MethodId) (a : Addr) (xq : UInt64) (cq : UInt64) (dq : Int32) (vq : Int32) (nk : Nat) (ns : Nat) (nc : Nat) (nl : Nat) (nq : Nat) (kq : Nat) : entryFrame m #[(.ref a), (.int (Int32.ofNat nc)), (.int (Int32.ofNat nl)), (.int dq), (.double cq), (.int vq)] 9 = mkF m 0 #[.val (.ref a), .val (.int (Int32.ofNat nc)), .val (.int (Int32.ofNat nl)), .val (.int dq), .val (.double cq), .second, .val (.int vq), .unset, .unset] [] := by first | (simp [entryFrame, mkF, argsToLocals, Value.category]; done) | rfl
abbrev rm_pn : Room := ({ frames := 0, cells := 0, slots := 0, locals := 0 } : Room)
set_option maxRecDepth 65536 in
set_option maxHeartbeats 4000000 in
theorem met_pn (l : Launch) (Z : State) (a0 : Array Value) (hw : ∀ d ∈ tables_1, d.before a0 Z = true) (a : Addr) (xq : UInt64) (cq : UInt64) (dq : Int32) (vq : Int32) (nk : Nat) (ns : Nat) (nc : Nat) (nl : Nat) (nq : Nat) (kq : Nat) (h0 : Heap) (n0 : Nat) (Z0 : n0 ≤ h0.size) (P0 : Dy xq nk 3) (P1 : Dy cq ns 8) (P2 : 1 ≤ nk) (P3 : nk ≤ 7) (P4 : ns ≤ 256) (P5 : Fld Z h0 a "com/example/query_likelihood_ranker/querylikelihoodranker/ranking/JelinekMercerSmoothing" "m_lambda" "D" (.double xq)) (P6 : nl < 2147483648) (P7 : 0 < nl) (P8 : nc * 2 ^ kq = nq * nl) (P9 : nq ≤ 2147483648) (P10 : kq ≤ 30) (P11 : nc < 2147483648) :
    Met l (⟨"com/example/query_likelihood_ranker/querylikelihoodranker/ranking/JelinekMercerSmoothing", "probability", "(IIIDI)D"⟩ : MethodName) prog_59_method_4_code 9 (some FieldType.double) [] rm_pn Z #[(.ref a), (.int (Int32.ofNat nc)), (.int (Int32.ofNat nl)), (.int dq), (.double cq), (.int vq)] h0 (Q_pn Z a xq cq dq vq nk ns nc nl nq kq h0 n0) rm_pn.cells rm_pn.slots := by
  refine own_body pn2 ?_
  intro p e s m below meth c s₁ ct X0 e0
  have ct0 := ct
  obtain ⟨hx, hZ, hown, hby, hml, hret, hlk, hnm⟩ := ct
  have N0 := Fr.nil n0
  refine castGo (ef_pn m a xq cq dq vq nk ns nc nl nq kq) ?_
  show Go p e below s _ _ _ s₁ (mkF m 0 #[.val (.ref a), .val (.int (Int32.ofNat nc)), .val (.int (Int32.ofNat nl)), .val (.int dq), .val (.double cq), .second, .val (.int vq), .unset, .unset] [])
  refine go_st (fun _ kq => XS.iloadN X0.here hx rfl (hb hby d4_0) rfl kq) ?_
  show Go p e below s _ _ _ s₁ (mkF m 1 #[.val (.ref a), .val (.int (Int32.ofNat nc)), .val (.int (Int32.ofNat nl)), .val (.int dq), .val (.double cq), .second, .val (.int vq), .unset, .unset] [(.int (Int32.ofNat nl))])
  have hb17 : ¬ ((Int32.ofNat nl) = (0 : Int32)) := by exact fun hq => absurd (own_z0 P6 hq) (by omega)
  refine go_st (fun _ kq => XS.ifYes X0.here hx rfl (pc0 := 1) (pc' := 8) rfl (hb hby d4_1) rfl (XT.i0_ne_t hb17) (by decide) (by decide) kq) ?_
  show Go p e below s _ _ _ s₁ (mkF m 8 #[.val (.ref a), .val (.int (Int32.ofNat nc)), .val (.int (Int32.ofNat nl)), .val (.int dq), .val (.double cq), .second, .val (.int vq), .unset, .unset] [])
  refine go_st (fun _ kq => XS.iloadN X0.here hx rfl (hb hby d4_8) rfl kq) ?_
  show Go p e below s _ _ _ s₁ (mkF m 9 #[.val (.ref a), .val (.int (Int32.ofNat nc)), .val (.int (Int32.ofNat nl)), .val (.int dq), .val (.double cq), .second, .val (.int vq), .unset, .unset] [(.int (Int32.ofNat nc))])
  have dy18 : Dy (FP.i2d (Int32.ofNat nc)) nc 0 := Dy.of_i2d (own_on32 (by omega))
  refine go_st (fun _ kq => XS.i2dS X0.here hx rfl (hb hby d4_9) rfl rfl kq) ?_
  show Go p e below s _ _ _ s₁ (mkF m 10 #[.val (.ref a), .val (.int (Int32.ofNat nc)), .val (.int (Int32.ofNat nl)), .val (.int dq), .val (.double cq), .second, .val (.int vq), .unset, .unset] [(.double (FP.i2d (Int32.ofNat nc)))])
  refine go_st (fun _ kq => XS.iloadN X0.here hx rfl (hb hby d4_10) rfl kq) ?_
  show Go p e below s _ _ _ s₁ (mkF m 11 #[.val (.ref a), .val (.int (Int32.ofNat nc)), .val (.int (Int32.ofNat nl)), .val (.int dq), .val (.double cq), .second, .val (.int vq), .unset, .unset] [(.int (Int32.ofNat nl)), (.double (FP.i2d (Int32.ofNat nc)))])
  have dy19 : Dy (FP.i2d (Int32.ofNat nl)) nl 0 := Dy.of_i2d (own_on32 (by omega))
  refine go_st (fun _ kq => XS.i2dS X0.here hx rfl (hb hby d4_11) rfl rfl kq) ?_
  show Go p e below s _ _ _ s₁ (mkF m 12 #[.val (.ref a), .val (.int (Int32.ofNat nc)), .val (.int (Int32.ofNat nl)), .val (.int dq), .val (.double cq), .second, .val (.int vq), .unset, .unset] [(.double (FP.i2d (Int32.ofNat nl))), (.double (FP.i2d (Int32.ofNat nc)))])
  have dy20 : Dy (FP.ddiv (FP.i2d (Int32.ofNat nc)) (FP.i2d (Int32.ofNat nl))) nq kq := dy18.div dy19 P7 (by omega) (by omega) (by rw [Nat.pow_zero, Nat.mul_one, Nat.mul_one]; exact P8)
  refine go_st (fun _ kq => XS.ddivS X0.here hx rfl (hb hby d4_12) rfl (own_nan64 dy20.fin) rfl kq) ?_
  show Go p e below s _ _ _ s₁ (mkF m 13 #[.val (.ref a), .val (.int (Int32.ofNat nc)), .val (.int (Int32.ofNat nl)), .val (.int dq), .val (.double cq), .second, .val (.int vq), .unset, .unset] [(.double (FP.ddiv (FP.i2d (Int32.ofNat nc)) (FP.i2d (Int32.ofNat nl))))])
  refine go_st (fun _ kq => XS.dstore X0.here hx rfl (hb hby d4_13) rfl (l' := #[.val (.ref a), .val (.int (Int32.ofNat nc)), .val (.int (Int32.ofNat nl)), .val (.int dq), .val (.double cq), .second, .val (.int vq), .val (.double (FP.ddiv (FP.i2d (Int32.ofNat nc)) (FP.i2d (Int32.ofNat nl)))), .second]) rfl kq) ?_
  show Go p e below s _ _ _ s₁ (mkF m 15 #[.val (.ref a), .val (.int (Int32.ofNat nc)), .val (.int (Int32.ofNat nl)), .val (.int dq), .val (.double cq), .second, .val (.int vq), .val (.double (FP.ddiv (FP.i2d (Int32.ofNat nc)) (FP.i2d (Int32.ofNat nl)))), .second] [])
  refine go_st (fun _ kq => XS.aloadN X0.here hx rfl (hb hby d4_15) rfl rfl kq) ?_
  show Go p e below s _ _ _ s₁ (mkF m 16 #[.val (.ref a), .val (.int (Int32.ofNat nc)), .val (.int (Int32.ofNat nl)), .val (.int dq), .val (.double cq), .second, .val (.int vq), .val (.double (FP.ddiv (FP.i2d (Int32.ofNat nc)) (FP.i2d (Int32.ofNat nl)))), .second] [(.ref a)])
  refine go_getF X0 hx hZ hown (host := "") (Or.inl (hw _ (List.mem_of_getElem? (i := 24) rfl))) Via.refl e0 P5 (hb hby d4_16) rfl rfl ?_
  intro T21 X21 e21
  show Go p e below s _ _ _ T21 (mkF m 19 #[.val (.ref a), .val (.int (Int32.ofNat nc)), .val (.int (Int32.ofNat nl)), .val (.int dq), .val (.double cq), .second, .val (.int vq), .val (.double (FP.ddiv (FP.i2d (Int32.ofNat nc)) (FP.i2d (Int32.ofNat nl)))), .second] [(.double xq)])
  refine go_st (fun _ kq => XS.dload X21.here hx rfl (hb hby d4_19) rfl kq) ?_
  show Go p e below s _ _ _ T21 (mkF m 21 #[.val (.ref a), .val (.int (Int32.ofNat nc)), .val (.int (Int32.ofNat nl)), .val (.int dq), .val (.double cq), .second, .val (.int vq), .val (.double (FP.ddiv (FP.i2d (Int32.ofNat nc)) (FP.i2d (Int32.ofNat nl)))), .second] [(.double (FP.ddiv (FP.i2d (Int32.ofNat nc)) (FP.i2d (Int32.ofNat nl)))), (.double xq)])
  have dy22 : Dy (FP.dmul xq (FP.ddiv (FP.i2d (Int32.ofNat nc)) (FP.i2d (Int32.ofNat nl)))) (nk * nq) (3 + kq) := P0.mul dy20 (by have := Nat.mul_le_mul P3 (show nq ≤ 2147483648 by omega); omega) (by omega) (by rw [Nat.pow_add])
  refine go_st (fun _ kq => XS.dmulS X21.here hx rfl (hb hby d4_21) rfl (own_nan64 dy22.fin) rfl kq) ?_
  show Go p e below s _ _ _ T21 (mkF m 22 #[.val (.ref a), .val (.int (Int32.ofNat nc)), .val (.int (Int32.ofNat nl)), .val (.int dq), .val (.double cq), .second, .val (.int vq), .val (.double (FP.ddiv (FP.i2d (Int32.ofNat nc)) (FP.i2d (Int32.ofNat nl)))), .second] [(.double (FP.dmul xq (FP.ddiv (FP.i2d (Int32.ofNat nc)) (FP.i2d (Int32.ofNat nl)))))])
  refine go_st (fun _ kq => XS.dconst1 X21.here hx rfl (hb hby d4_22) rfl kq) ?_
  show Go p e below s _ _ _ T21 (mkF m 23 #[.val (.ref a), .val (.int (Int32.ofNat nc)), .val (.int (Int32.ofNat nl)), .val (.int dq), .val (.double cq), .second, .val (.int vq), .val (.double (FP.ddiv (FP.i2d (Int32.ofNat nc)) (FP.i2d (Int32.ofNat nl)))), .second] [(.double (FP.dconst1)), (.double (FP.dmul xq (FP.ddiv (FP.i2d (Int32.ofNat nc)) (FP.i2d (Int32.ofNat nl)))))])
  refine go_st (fun _ kq => XS.aloadN X21.here hx rfl (hb hby d4_23) rfl rfl kq) ?_
  show Go p e below s _ _ _ T21 (mkF m 24 #[.val (.ref a), .val (.int (Int32.ofNat nc)), .val (.int (Int32.ofNat nl)), .val (.int dq), .val (.double cq), .second, .val (.int vq), .val (.double (FP.ddiv (FP.i2d (Int32.ofNat nc)) (FP.i2d (Int32.ofNat nl)))), .second] [(.ref a), (.double (FP.dconst1)), (.double (FP.dmul xq (FP.ddiv (FP.i2d (Int32.ofNat nc)) (FP.i2d (Int32.ofNat nl)))))])
  refine go_getF X21 hx hZ hown (host := "") (Or.inl (hw _ (List.mem_of_getElem? (i := 24) rfl))) Via.refl e21 P5 (hb hby d4_24) rfl rfl ?_
  intro T23 X23 e23
  show Go p e below s _ _ _ T23 (mkF m 27 #[.val (.ref a), .val (.int (Int32.ofNat nc)), .val (.int (Int32.ofNat nl)), .val (.int dq), .val (.double cq), .second, .val (.int vq), .val (.double (FP.ddiv (FP.i2d (Int32.ofNat nc)) (FP.i2d (Int32.ofNat nl)))), .second] [(.double xq), (.double (FP.dconst1)), (.double (FP.dmul xq (FP.ddiv (FP.i2d (Int32.ofNat nc)) (FP.i2d (Int32.ofNat nl)))))])
  have dy24 : Dy (FP.dsub (FP.dconst1) xq) (8 - nk) 3 := own_om P0 P2 P3
  refine go_st (fun _ kq => XS.dsubS X23.here hx rfl (hb hby d4_27) rfl (own_nan64 dy24.fin) rfl kq) ?_
  show Go p e below s _ _ _ T23 (mkF m 28 #[.val (.ref a), .val (.int (Int32.ofNat nc)), .val (.int (Int32.ofNat nl)), .val (.int dq), .val (.double cq), .second, .val (.int vq), .val (.double (FP.ddiv (FP.i2d (Int32.ofNat nc)) (FP.i2d (Int32.ofNat nl)))), .second] [(.double (FP.dsub (FP.dconst1) xq)), (.double (FP.dmul xq (FP.ddiv (FP.i2d (Int32.ofNat nc)) (FP.i2d (Int32.ofNat nl)))))])
  refine go_st (fun _ kq => XS.dload X23.here hx rfl (hb hby d4_28) rfl kq) ?_
  show Go p e below s _ _ _ T23 (mkF m 30 #[.val (.ref a), .val (.int (Int32.ofNat nc)), .val (.int (Int32.ofNat nl)), .val (.int dq), .val (.double cq), .second, .val (.int vq), .val (.double (FP.ddiv (FP.i2d (Int32.ofNat nc)) (FP.i2d (Int32.ofNat nl)))), .second] [(.double cq), (.double (FP.dsub (FP.dconst1) xq)), (.double (FP.dmul xq (FP.ddiv (FP.i2d (Int32.ofNat nc)) (FP.i2d (Int32.ofNat nl)))))])
  have dy25 : Dy (FP.dmul (FP.dsub (FP.dconst1) xq) cq) ((8 - nk) * ns) 11 := dy24.mul P1 (by have := Nat.mul_le_mul (show 8 - nk ≤ 8 by omega) P4; omega) (by decide) (by omega)
  refine go_st (fun _ kq => XS.dmulS X23.here hx rfl (hb hby d4_30) rfl (own_nan64 dy25.fin) rfl kq) ?_
  show Go p e below s _ _ _ T23 (mkF m 31 #[.val (.ref a), .val (.int (Int32.ofNat nc)), .val (.int (Int32.ofNat nl)), .val (.int dq), .val (.double cq), .second, .val (.int vq), .val (.double (FP.ddiv (FP.i2d (Int32.ofNat nc)) (FP.i2d (Int32.ofNat nl)))), .second] [(.double (FP.dmul (FP.dsub (FP.dconst1) xq) cq)), (.double (FP.dmul xq (FP.ddiv (FP.i2d (Int32.ofNat nc)) (FP.i2d (Int32.ofNat nl)))))])
  have dy26 : Dy (FP.dadd (FP.dmul xq (FP.ddiv (FP.i2d (Int32.ofNat nc)) (FP.i2d (Int32.ofNat nl)))) (FP.dmul (FP.dsub (FP.dconst1) xq) cq)) (nk * nq * 256 + (8 - nk) * ns * 2 ^ kq) (11 + kq) := dy22.add dy25 (own_bd P3 (by omega) P4 (by omega)) (by omega) own_sum
  refine go_st (fun _ kq => XS.daddS X23.here hx rfl (hb hby d4_31) rfl (own_nan64 dy26.fin) rfl kq) ?_
  show Go p e below s _ _ _ T23 (mkF m 32 #[.val (.ref a), .val (.int (Int32.ofNat nc)), .val (.int (Int32.ofNat nl)), .val (.int dq), .val (.double cq), .second, .val (.int vq), .val (.double (FP.ddiv (FP.i2d (Int32.ofNat nc)) (FP.i2d (Int32.ofNat nl)))), .second] [(.double (FP.dadd (FP.dmul xq (FP.ddiv (FP.i2d (Int32.ofNat nc)) (FP.i2d (Int32.ofNat nl)))) (FP.dmul (FP.dsub (FP.dconst1) xq) cq)))])
  exact go_retD X23 hx hlk hret (hb hby d4_32) (by decide) (by decide) (by rw [e23]; exact ⟨(FP.dadd (FP.dmul xq (FP.ddiv (FP.i2d (Int32.ofNat nc)) (FP.i2d (Int32.ofNat nl)))) (FP.dmul (FP.dsub (FP.dconst1) xq) cq)), rfl, N0, (Keep.refl h0 []), dy26⟩)
theorem d5_0 : decode jdk_29_method_65_code 0 = .ok (.iload_n 0, 1) := by decide +kernel
theorem d5_1 : decode jdk_29_method_65_code 1 = .ok (.iload_n 1, 1) := by decide +kernel
theorem d5_2 : decode jdk_29_method_65_code 2 = .ok (.if_icmp .lt 7, 3) := by decide +kernel
theorem d5_5 : decode jdk_29_method_65_code 5 = .ok (.iload_n 0, 1) := by decide +kernel
theorem d5_6 : decode jdk_29_method_65_code 6 = .ok (.goto 4, 3) := by decide +kernel
theorem d5_9 : decode jdk_29_method_65_code 9 = .ok (.iload_n 1, 1) := by decide +kernel
theorem d5_10 : decode jdk_29_method_65_code 10 = .ok (.ireturn, 1) := by decide +kernel
theorem pn3 : plainFor (⟨"java/lang/Math", "max", "(II)I"⟩ : MethodName) = true := by first | (refine plainFor_of_name ?_; simp [plainName, overriddenIn]; done) | (refine plainFor_of_name ?_; decide +kernel) | decide +kernel
def fMax (x0 : Int32) (x1 : Int32) : Int32 := (if x0 < x1 then x1 else x0)
theorem ef_5 (m : MethodId) (x0 : Int32) (x1 : Int32) : entryFrame m #[(.int x0), (.int x1)] 2 = mkF m 0 #[.val (.int x0), .val (.int x1)] [] := by first | (simp [entryFrame, mkF, argsToLocals, Value.category]; done) | rfl
abbrev rm_5 : Room := ({ frames := 0, cells := 0, slots := 0, locals := 0 } : Room)
set_option maxRecDepth 65536 in
set_option maxHeartbeats 4000000 in
theorem met_5 (l : Launch) (Z : State) (a0 : Array Value) (hw : ∀ d ∈ tables_1, d.before a0 Z = true) (x0 : Int32) (x1 : Int32) (h0 : Heap) (n0 : Nat) :
    Met l (⟨"java/lang/Math", "max", "(II)I"⟩ : MethodName) jdk_29_method_65_code 2 (some FieldType.int) [] rm_5 Z #[(.int x0), (.int x1)] h0 (QV (some (.int (fMax x0 x1))) h0 n0) 0 0 := by
  refine own_body pn3 ?_
  intro p e s m below meth c s₁ ct X0 e0
  have ct0 := ct
  obtain ⟨hx, hZ, hown, hby, hml, hret, hlk, hnm⟩ := ct
  have N0 := Fr.nil n0
  refine castGo (ef_5 m x0 x1) ?_
  unfold fMax
  show Go p e below s _ _ _ s₁ (mkF m 0 #[.val (.int x0), .val (.int x1)] [])
  refine go_st (fun _ kq => XS.iloadN X0.here hx rfl (hb hby d5_0) rfl kq) ?_
  show Go p e below s _ _ _ s₁ (mkF m 1 #[.val (.int x0), .val (.int x1)] [(.int x0)])
  refine go_st (fun _ kq => XS.iloadN X0.here hx rfl (hb hby d5_1) rfl kq) ?_
  show Go p e below s _ _ _ s₁ (mkF m 2 #[.val (.int x0), .val (.int x1)] [(.int x1), (.int x0)])
  by_cases hc27 : x0 < x1
  · rw [if_pos hc27]
    refine go_st (fun _ kq => XS.icmpYes X0.here hx rfl (pc0 := 2) (pc' := 9) rfl (hb hby d5_2) rfl (XT.ii_lt_t hc27) (by decide) (by decide) kq) ?_
    show Go p e below s _ _ _ s₁ (mkF m 9 #[.val (.int x0), .val (.int x1)] [])
    refine go_st (fun _ kq => XS.iloadN X0.here hx rfl (hb hby d5_9) rfl kq) ?_
    show Go p e below s _ _ _ s₁ (mkF m 10 #[.val (.int x0), .val (.int x1)] [(.int x1)])
    exact go_retI X0 hx hlk hret (hb hby d5_10) (by decide) (by decide) ⟨rfl, N0, e0⟩
  · rw [if_neg hc27]
    refine go_st (fun _ kq => XS.icmpNo X0.here hx rfl (hb hby d5_2) rfl (XT.ii_lt_f hc27) kq) ?_
    show Go p e below s _ _ _ s₁ (mkF m 5 #[.val (.int x0), .val (.int x1)] [])
    refine go_st (fun _ kq => XS.iloadN X0.here hx rfl (hb hby d5_5) rfl kq) ?_
    show Go p e below s _ _ _ s₁ (mkF m 6 #[.val (.int x0), .val (.int x1)] [(.int x0)])
    refine go_st (fun _ kq => XS.goto X0.here hx rfl (pc0 := 6) (pc' := 10) rfl (hb hby d5_6) (by decide) (by decide) kq) ?_
    show Go p e below s _ _ _ s₁ (mkF m 10 #[.val (.int x0), .val (.int x1)] [(.int x0)])
    exact go_retI X0 hx hlk hret (hb hby d5_10) (by decide) (by decide) ⟨rfl, N0, e0⟩
theorem own_mx (x : Int32) : ∃ n : Nat, 1 ≤ n ∧ n < 2147483648 ∧ fMax (1 : Int32) (x &&& (2147483647 : Int32)) = Int32.ofNat n := by
  obtain ⟨n, h1, h2⟩ := own_msk x
  unfold fMax
  rw [h2]
  have e1 : (1 : Int32).toInt = 1 := rfl
  have e2 : (Int32.ofNat n).toInt = n := own_on32 h1
  split
  · rename_i hq
    rw [Int32.lt_iff_toInt_lt, e1, e2] at hq
    exact ⟨n, by omega, h1, rfl⟩
  · exact ⟨1, by omega, by omega, rfl⟩
theorem pn4 : plainFor x = true := by first | (refine plainFor_of_name ?_; simp [plainName, overriddenIn]; done) | (refine plainFor_of_name ?_; decide +kernel) | decide +kernel
theorem pd1 : parseMethodDescriptor "(D)V" = some ⟨[.double], none⟩ := by decide +kernel
theorem pd2 : parseMethodDescriptor "(IIIDI)D" = some ⟨[.int, .int, .int, .double, .int], (some .double)⟩ := by decide +kernel
theorem pd3 : parseMethodDescriptor "(II)I" = some ⟨[.int, .int], (some .int)⟩ := by decide +kernel
theorem ef_law (m : MethodId) (x0 : Int32) (x1 : Int32) (x2 : Int32) (x3 : Int32) (x4 : Int32) (x5 : Int32) : entryFrame m #[(.int x0), (.int x1), (.int x2), (.int x3), (.int x4), (.int x5)] maxLocals = mkF m 0 #[.val (.int x0), .val (.int x1), .val (.int x2), .val (.int x3), .val (.int x4), .val (.int x5), .unset, .unset, .unset, .unset, .unset, .unset, .unset, .unset, .unset, .unset, .unset, .unset, .unset, .unset, .unset] [] := by first | (simp [entryFrame, mkF, argsToLocals, Value.category, maxLocals]; done) | rfl
set_option maxRecDepth 65536 in
set_option maxHeartbeats 4000000 in
theorem met_law (l : Launch) (Z : State) (a0 : Array Value) (hw : ∀ d ∈ tables_1, d.before a0 Z = true) (x0 : Int32) (x1 : Int32) (x2 : Int32) (x3 : Int32) (x4 : Int32) (x5 : Int32) (h0 : Heap) (n0 : Nat) (Z0 : n0 ≤ h0.size) :
    MetW l x code maxLocals ret tables_1 room_1 Z consts_1 h0.size #[(.int x0), (.int x1), (.int x2), (.int x3), (.int x4), (.int x5)] h0 (QF (some (.int (1 : Int32))) n0) 16 1152 := by
  refine own_bodyW pn4 ?_
  intro p e s m below meth c s₁ ct X0 e0 hC0 hSa0
  have ct0 := ct
  obtain ⟨hx, hZ, hown, hby, hml, hret, hlk, hnm⟩ := ct
  have N0 := Fr.nil n0
  refine castGoW (ef_law m x0 x1 x2 x3 x4 x5) ?_
  show GoW p e below s _ _ _ s₁ (mkF m 0 #[.val (.int x0), .val (.int x1), .val (.int x2), .val (.int x3), .val (.int x4), .val (.int x5), .unset, .unset, .unset, .unset, .unset, .unset, .unset, .unset, .unset, .unset, .unset, .unset, .unset, .unset, .unset] [])
  refine gw_st (fun _ kq => XT.iconstV X0.here hx rfl (1 : Int32) (hb hby at_0) (by decide) kq) ?_
  show GoW p e below s _ _ _ s₁ (mkF m 1 #[.val (.int x0), .val (.int x1), .val (.int x2), .val (.int x3), .val (.int x4), .val (.int x5), .unset, .unset, .unset, .unset, .unset, .unset, .unset, .unset, .unset, .unset, .unset, .unset, .unset, .unset, .unset] [(.int (1 : Int32))])
  refine gw_st (fun _ kq => XS.iloadN X0.here hx rfl (hb hby at_1) rfl kq) ?_
  show GoW p e below s _ _ _ s₁ (mkF m 2 #[.val (.int x0), .val (.int x1), .val (.int x2), .val (.int x3), .val (.int x4), .val (.int x5), .unset, .unset, .unset, .unset, .unset, .unset, .unset, .unset, .unset, .unset, .unset, .unset, .unset, .unset, .unset] [(.int x0), (.int (1 : Int32))])
  refine gw_st (fun _ kq => Jvm.Stand.ldcI X0 hx hown (mvT hZ (hw _ (List.mem_of_getElem? (i := 0) rfl))) rfl (hb hby at_2) kq) ?_
  show GoW p e below s _ _ _ s₁ (mkF m 4 #[.val (.int x0), .val (.int x1), .val (.int x2), .val (.int x3), .val (.int x4), .val (.int x5), .unset, .unset, .unset, .unset, .unset, .unset, .unset, .unset, .unset, .unset, .unset, .unset, .unset, .unset, .unset] [(.int (2147483647 : Int32)), (.int x0), (.int (1 : Int32))])
  refine gw_st (fun _ kq => XS.iand X0.here hx rfl (hb hby at_4) rfl kq) ?_
  show GoW p e below s _ _ _ s₁ (mkF m 5 #[.val (.int x0), .val (.int x1), .val (.int x2), .val (.int x3), .val (.int x4), .val (.int x5), .unset, .unset, .unset, .unset, .unset, .unset, .unset, .unset, .unset, .unset, .unset, .unset, .unset, .unset, .unset] [(.int (x0 &&& (2147483647 : Int32))), (.int (1 : Int32))])
  refine gw_st (fun _ kq => XT.bipushV X0.here hx rfl (7 : Int32) (hb hby at_5) (by decide) kq) ?_
  show GoW p e below s _ _ _ s₁ (mkF m 7 #[.val (.int x0), .val (.int x1), .val (.int x2), .val (.int x3), .val (.int x4), .val (.int x5), .unset, .unset, .unset, .unset, .unset, .unset, .unset, .unset, .unset, .unset, .unset, .unset, .unset, .unset, .unset] [(.int (7 : Int32)), (.int (x0 &&& (2147483647 : Int32))), (.int (1 : Int32))])
  refine gw_st (fun _ kq => iremM X0 hx rfl (hb hby at_7) rfl (by decide) kq) ?_
  show GoW p e below s _ _ _ s₁ (mkF m 8 #[.val (.int x0), .val (.int x1), .val (.int x2), .val (.int x3), .val (.int x4), .val (.int x5), .unset, .unset, .unset, .unset, .unset, .unset, .unset, .unset, .unset, .unset, .unset, .unset, .unset, .unset, .unset] [(.int ((x0 &&& (2147483647 : Int32)) % (7 : Int32))), (.int (1 : Int32))])
  refine gw_st (fun _ kq => XS.iadd X0.here hx rfl (hb hby at_8) rfl kq) ?_
  show GoW p e below s _ _ _ s₁ (mkF m 9 #[.val (.int x0), .val (.int x1), .val (.int x2), .val (.int x3), .val (.int x4), .val (.int x5), .unset, .unset, .unset, .unset, .unset, .unset, .unset, .unset, .unset, .unset, .unset, .unset, .unset, .unset, .unset] [(.int ((1 : Int32) + ((x0 &&& (2147483647 : Int32)) % (7 : Int32))))])
  refine gw_st (fun _ kq => XS.istore X0.here hx rfl (hb hby at_9) rfl (l' := #[.val (.int x0), .val (.int x1), .val (.int x2), .val (.int x3), .val (.int x4), .val (.int x5), .val (.int ((1 : Int32) + ((x0 &&& (2147483647 : Int32)) % (7 : Int32)))), .unset, .unset, .unset, .unset, .unset, .unset, .unset, .unset, .unset, .unset, .unset, .unset, .unset, .unset]) rfl kq) ?_
  show GoW p e below s _ _ _ s₁ (mkF m 11 #[.val (.int x0), .val (.int x1), .val (.int x2), .val (.int x3), .val (.int x4), .val (.int x5), .val (.int ((1 : Int32) + ((x0 &&& (2147483647 : Int32)) % (7 : Int32)))), .unset, .unset, .unset, .unset, .unset, .unset, .unset, .unset, .unset, .unset, .unset, .unset, .unset, .unset] [])
  obtain ⟨nk, hnk1, hnk2, ek⟩ := own_k x0
  rw [ek]
  show GoW p e below s _ _ _ s₁ (mkF m 11 #[.val (.int x0), .val (.int x1), .val (.int x2), .val (.int x3), .val (.int x4), .val (.int x5), .val (.int (Int32.ofNat nk)), .unset, .unset, .unset, .unset, .unset, .unset, .unset, .unset, .unset, .unset, .unset, .unset, .unset, .unset] [])
  refine gw_st (fun _ kq => XT.iconstV X0.here hx rfl (1 : Int32) (hb hby at_11) (by decide) kq) ?_
  show GoW p e below s _ _ _ s₁ (mkF m 12 #[.val (.int x0), .val (.int x1), .val (.int x2), .val (.int x3), .val (.int x4), .val (.int x5), .val (.int (Int32.ofNat nk)), .unset, .unset, .unset, .unset, .unset, .unset, .unset, .unset, .unset, .unset, .unset, .unset, .unset, .unset] [(.int (1 : Int32))])
  refine gw_st (fun _ kq => XS.iloadN X0.here hx rfl (hb hby at_12) rfl kq) ?_
  show GoW p e below s _ _ _ s₁ (mkF m 13 #[.val (.int x0), .val (.int x1), .val (.int x2), .val (.int x3), .val (.int x4), .val (.int x5), .val (.int (Int32.ofNat nk)), .unset, .unset, .unset, .unset, .unset, .unset, .unset, .unset, .unset, .unset, .unset, .unset, .unset, .unset] [(.int x1), (.int (1 : Int32))])
  refine gw_st (fun _ kq => XT.sipushV X0.here hx rfl (255 : Int32) (hb hby at_13) (by decide) kq) ?_
  show GoW p e below s _ _ _ s₁ (mkF m 16 #[.val (.int x0), .val (.int x1), .val (.int x2), .val (.int x3), .val (.int x4), .val (.int x5), .val (.int (Int32.ofNat nk)), .unset, .unset, .unset, .unset, .unset, .unset, .unset, .unset, .unset, .unset, .unset, .unset, .unset, .unset] [(.int (255 : Int32)), (.int x1), (.int (1 : Int32))])
  refine gw_st (fun _ kq => XS.iand X0.here hx rfl (hb hby at_16) rfl kq) ?_
  show GoW p e below s _ _ _ s₁ (mkF m 17 #[.val (.int x0), .val (.int x1), .val (.int x2), .val (.int x3), .val (.int x4), .val (.int x5), .val (.int (Int32.ofNat nk)), .unset, .unset, .unset, .unset, .unset, .unset, .unset, .unset, .unset, .unset, .unset, .unset, .unset, .unset] [(.int (x1 &&& (255 : Int32))), (.int (1 : Int32))])
  refine gw_st (fun _ kq => XS.iadd X0.here hx rfl (hb hby at_17) rfl kq) ?_
  show GoW p e below s _ _ _ s₁ (mkF m 18 #[.val (.int x0), .val (.int x1), .val (.int x2), .val (.int x3), .val (.int x4), .val (.int x5), .val (.int (Int32.ofNat nk)), .unset, .unset, .unset, .unset, .unset, .unset, .unset, .unset, .unset, .unset, .unset, .unset, .unset, .unset] [(.int ((1 : Int32) + (x1 &&& (255 : Int32))))])
  refine gw_st (fun _ kq => XS.istore X0.here hx rfl (hb hby at_18) rfl (l' := #[.val (.int x0), .val (.int x1), .val (.int x2), .val (.int x3), .val (.int x4), .val (.int x5), .val (.int (Int32.ofNat nk)), .val (.int ((1 : Int32) + (x1 &&& (255 : Int32)))), .unset, .unset, .unset, .unset, .unset, .unset, .unset, .unset, .unset, .unset, .unset, .unset, .unset]) rfl kq) ?_
  show GoW p e below s _ _ _ s₁ (mkF m 20 #[.val (.int x0), .val (.int x1), .val (.int x2), .val (.int x3), .val (.int x4), .val (.int x5), .val (.int (Int32.ofNat nk)), .val (.int ((1 : Int32) + (x1 &&& (255 : Int32)))), .unset, .unset, .unset, .unset, .unset, .unset, .unset, .unset, .unset, .unset, .unset, .unset, .unset] [])
  obtain ⟨ns, hns1, hns2, es⟩ := own_s x1
  rw [es]
  have hb0 := Nat.mul_le_mul (show 8 - nk ≤ 8 by omega) hns2
  show GoW p e below s _ _ _ s₁ (mkF m 20 #[.val (.int x0), .val (.int x1), .val (.int x2), .val (.int x3), .val (.int x4), .val (.int x5), .val (.int (Int32.ofNat nk)), .val (.int (Int32.ofNat ns)), .unset, .unset, .unset, .unset, .unset, .unset, .unset, .unset, .unset, .unset, .unset, .unset, .unset] [])
  refine gw_st (fun _ kq => XS.iloadN X0.here hx rfl (hb hby at_20) rfl kq) ?_
  show GoW p e below s _ _ _ s₁ (mkF m 21 #[.val (.int x0), .val (.int x1), .val (.int x2), .val (.int x3), .val (.int x4), .val (.int x5), .val (.int (Int32.ofNat nk)), .val (.int (Int32.ofNat ns)), .unset, .unset, .unset, .unset, .unset, .unset, .unset, .unset, .unset, .unset, .unset, .unset, .unset] [(.int x1)])
  refine gw_st (fun _ kq => XT.bipushV X0.here hx rfl (8 : Int32) (hb hby at_21) (by decide) kq) ?_
  show GoW p e below s _ _ _ s₁ (mkF m 23 #[.val (.int x0), .val (.int x1), .val (.int x2), .val (.int x3), .val (.int x4), .val (.int x5), .val (.int (Int32.ofNat nk)), .val (.int (Int32.ofNat ns)), .unset, .unset, .unset, .unset, .unset, .unset, .unset, .unset, .unset, .unset, .unset, .unset, .unset] [(.int (8 : Int32)), (.int x1)])
  refine gw_st (fun _ kq => XT.iushr X0.here hx rfl (hb hby at_23) rfl kq) ?_
  show GoW p e below s _ _ _ s₁ (mkF m 24 #[.val (.int x0), .val (.int x1), .val (.int x2), .val (.int x3), .val (.int x4), .val (.int x5), .val (.int (Int32.ofNat nk)), .val (.int (Int32.ofNat ns)), .unset, .unset, .unset, .unset, .unset, .unset, .unset, .unset, .unset, .unset, .unset, .unset, .unset] [(.int (XT.ushr x1 (8 : Int32)))])
  refine gw_st (fun _ kq => XT.iconstV X0.here hx rfl (3 : Int32) (hb hby at_24) (by decide) kq) ?_
  show GoW p e below s _ _ _ s₁ (mkF m 25 #[.val (.int x0), .val (.int x1), .val (.int x2), .val (.int x3), .val (.int x4), .val (.int x5), .val (.int (Int32.ofNat nk)), .val (.int (Int32.ofNat ns)), .unset, .unset, .unset, .unset, .unset, .unset, .unset, .unset, .unset, .unset, .unset, .unset, .unset] [(.int (3 : Int32)), (.int (XT.ushr x1 (8 : Int32)))])
  refine gw_st (fun _ kq => XS.iand X0.here hx rfl (hb hby at_25) rfl kq) ?_
  show GoW p e below s _ _ _ s₁ (mkF m 26 #[.val (.int x0), .val (.int x1), .val (.int x2), .val (.int x3), .val (.int x4), .val (.int x5), .val (.int (Int32.ofNat nk)), .val (.int (Int32.ofNat ns)), .unset, .unset, .unset, .unset, .unset, .unset, .unset, .unset, .unset, .unset, .unset, .unset, .unset] [(.int ((XT.ushr x1 (8 : Int32)) &&& (3 : Int32)))])
  refine gw_st (fun _ kq => XS.istore X0.here hx rfl (hb hby at_26) rfl (l' := #[.val (.int x0), .val (.int x1), .val (.int x2), .val (.int x3), .val (.int x4), .val (.int x5), .val (.int (Int32.ofNat nk)), .val (.int (Int32.ofNat ns)), .val (.int ((XT.ushr x1 (8 : Int32)) &&& (3 : Int32))), .unset, .unset, .unset, .unset, .unset, .unset, .unset, .unset, .unset, .unset, .unset, .unset]) rfl kq) ?_
  show GoW p e below s _ _ _ s₁ (mkF m 28 #[.val (.int x0), .val (.int x1), .val (.int x2), .val (.int x3), .val (.int x4), .val (.int x5), .val (.int (Int32.ofNat nk)), .val (.int (Int32.ofNat ns)), .val (.int ((XT.ushr x1 (8 : Int32)) &&& (3 : Int32))), .unset, .unset, .unset, .unset, .unset, .unset, .unset, .unset, .unset, .unset, .unset, .unset] [])
  refine gw_st (fun _ kq => XS.iload X0.here hx rfl (hb hby at_28) rfl kq) ?_
  show GoW p e below s _ _ _ s₁ (mkF m 30 #[.val (.int x0), .val (.int x1), .val (.int x2), .val (.int x3), .val (.int x4), .val (.int x5), .val (.int (Int32.ofNat nk)), .val (.int (Int32.ofNat ns)), .val (.int ((XT.ushr x1 (8 : Int32)) &&& (3 : Int32))), .unset, .unset, .unset, .unset, .unset, .unset, .unset, .unset, .unset, .unset, .unset, .unset] [(.int (Int32.ofNat nk))])
  have dy28 : Dy (FP.i2d (Int32.ofNat nk)) nk 0 := Dy.of_i2d (own_on32 (by omega))
  refine gw_st (fun _ kq => XS.i2dS X0.here hx rfl (hb hby at_30) rfl rfl kq) ?_
  show GoW p e below s _ _ _ s₁ (mkF m 31 #[.val (.int x0), .val (.int x1), .val (.int x2), .val (.int x3), .val (.int x4), .val (.int x5), .val (.int (Int32.ofNat nk)), .val (.int (Int32.ofNat ns)), .val (.int ((XT.ushr x1 (8 : Int32)) &&& (3 : Int32))), .unset, .unset, .unset, .unset, .unset, .unset, .unset, .unset, .unset, .unset, .unset, .unset] [(.double (FP.i2d (Int32.ofNat nk)))])
  refine gw_st (X0.ldc2DoubleC hx hown (mvT hZ (hw _ (List.mem_of_getElem? (i := 1) rfl))) rfl (hb hby at_31)) ?_
  show GoW p e below s _ _ _ s₁ (mkF m 34 #[.val (.int x0), .val (.int x1), .val (.int x2), .val (.int x3), .val (.int x4), .val (.int x5), .val (.int (Int32.ofNat nk)), .val (.int (Int32.ofNat ns)), .val (.int ((XT.ushr x1 (8 : Int32)) &&& (3 : Int32))), .unset, .unset, .unset, .unset, .unset, .unset, .unset, .unset, .unset, .unset, .unset, .unset] [(.double (4620693217682128896 : UInt64)), (.double (FP.i2d (Int32.ofNat nk)))])
  have dy29 : Dy (FP.ddiv (FP.i2d (Int32.ofNat nk)) (4620693217682128896 : UInt64)) nk 3 := dy28.div own_8 (by decide) (by omega) (by decide) (by omega)
  refine gw_st (fun _ kq => XS.ddivS X0.here hx rfl (hb hby at_34) rfl (own_nan64 dy29.fin) rfl kq) ?_
  show GoW p e below s _ _ _ s₁ (mkF m 35 #[.val (.int x0), .val (.int x1), .val (.int x2), .val (.int x3), .val (.int x4), .val (.int x5), .val (.int (Int32.ofNat nk)), .val (.int (Int32.ofNat ns)), .val (.int ((XT.ushr x1 (8 : Int32)) &&& (3 : Int32))), .unset, .unset, .unset, .unset, .unset, .unset, .unset, .unset, .unset, .unset, .unset, .unset] [(.double (FP.ddiv (FP.i2d (Int32.ofNat nk)) (4620693217682128896 : UInt64)))])
  refine gw_st (fun _ kq => XS.dstore X0.here hx rfl (hb hby at_35) rfl (l' := #[.val (.int x0), .val (.int x1), .val (.int x2), .val (.int x3), .val (.int x4), .val (.int x5), .val (.int (Int32.ofNat nk)), .val (.int (Int32.ofNat ns)), .val (.int ((XT.ushr x1 (8 : Int32)) &&& (3 : Int32))), .val (.double (FP.ddiv (FP.i2d (Int32.ofNat nk)) (4620693217682128896 : UInt64))), .second, .unset, .unset, .unset, .unset, .unset, .unset, .unset, .unset, .unset, .unset]) rfl kq) ?_
  show GoW p e below s _ _ _ s₁ (mkF m 37 #[.val (.int x0), .val (.int x1), .val (.int x2), .val (.int x3), .val (.int x4), .val (.int x5), .val (.int (Int32.ofNat nk)), .val (.int (Int32.ofNat ns)), .val (.int ((XT.ushr x1 (8 : Int32)) &&& (3 : Int32))), .val (.double (FP.ddiv (FP.i2d (Int32.ofNat nk)) (4620693217682128896 : UInt64))), .second, .unset, .unset, .unset, .unset, .unset, .unset, .unset, .unset, .unset, .unset] [])
  refine gw_st (fun _ kq => XS.iload X0.here hx rfl (hb hby at_37) rfl kq) ?_
  show GoW p e below s _ _ _ s₁ (mkF m 39 #[.val (.int x0), .val (.int x1), .val (.int x2), .val (.int x3), .val (.int x4), .val (.int x5), .val (.int (Int32.ofNat nk)), .val (.int (Int32.ofNat ns)), .val (.int ((XT.ushr x1 (8 : Int32)) &&& (3 : Int32))), .val (.double (FP.ddiv (FP.i2d (Int32.ofNat nk)) (4620693217682128896 : UInt64))), .second, .unset, .unset, .unset, .unset, .unset, .unset, .unset, .unset, .unset, .unset] [(.int (Int32.ofNat ns))])
  have dy30 : Dy (FP.i2d (Int32.ofNat ns)) ns 0 := Dy.of_i2d (own_on32 (by omega))
  refine gw_st (fun _ kq => XS.i2dS X0.here hx rfl (hb hby at_39) rfl rfl kq) ?_
  show GoW p e below s _ _ _ s₁ (mkF m 40 #[.val (.int x0), .val (.int x1), .val (.int x2), .val (.int x3), .val (.int x4), .val (.int x5), .val (.int (Int32.ofNat nk)), .val (.int (Int32.ofNat ns)), .val (.int ((XT.ushr x1 (8 : Int32)) &&& (3 : Int32))), .val (.double (FP.ddiv (FP.i2d (Int32.ofNat nk)) (4620693217682128896 : UInt64))), .second, .unset, .unset, .unset, .unset, .unset, .unset, .unset, .unset, .unset, .unset] [(.double (FP.i2d (Int32.ofNat ns)))])
  refine gw_st (X0.ldc2DoubleC hx hown (mvT hZ (hw _ (List.mem_of_getElem? (i := 2) rfl))) rfl (hb hby at_40)) ?_
  show GoW p e below s _ _ _ s₁ (mkF m 43 #[.val (.int x0), .val (.int x1), .val (.int x2), .val (.int x3), .val (.int x4), .val (.int x5), .val (.int (Int32.ofNat nk)), .val (.int (Int32.ofNat ns)), .val (.int ((XT.ushr x1 (8 : Int32)) &&& (3 : Int32))), .val (.double (FP.ddiv (FP.i2d (Int32.ofNat nk)) (4620693217682128896 : UInt64))), .second, .unset, .unset, .unset, .unset, .unset, .unset, .unset, .unset, .unset, .unset] [(.double (4643211215818981376 : UInt64)), (.double (FP.i2d (Int32.ofNat ns)))])
  have dy31 : Dy (FP.ddiv (FP.i2d (Int32.ofNat ns)) (4643211215818981376 : UInt64)) ns 8 := dy30.div own_256 (by decide) (by omega) (by decide) (by omega)
  refine gw_st (fun _ kq => XS.ddivS X0.here hx rfl (hb hby at_43) rfl (own_nan64 dy31.fin) rfl kq) ?_
  show GoW p e below s _ _ _ s₁ (mkF m 44 #[.val (.int x0), .val (.int x1), .val (.int x2), .val (.int x3), .val (.int x4), .val (.int x5), .val (.int (Int32.ofNat nk)), .val (.int (Int32.ofNat ns)), .val (.int ((XT.ushr x1 (8 : Int32)) &&& (3 : Int32))), .val (.double (FP.ddiv (FP.i2d (Int32.ofNat nk)) (4620693217682128896 : UInt64))), .second, .unset, .unset, .unset, .unset, .unset, .unset, .unset, .unset, .unset, .unset] [(.double (FP.ddiv (FP.i2d (Int32.ofNat ns)) (4643211215818981376 : UInt64)))])
  refine gw_st (fun _ kq => XS.dstore X0.here hx rfl (hb hby at_44) rfl (l' := #[.val (.int x0), .val (.int x1), .val (.int x2), .val (.int x3), .val (.int x4), .val (.int x5), .val (.int (Int32.ofNat nk)), .val (.int (Int32.ofNat ns)), .val (.int ((XT.ushr x1 (8 : Int32)) &&& (3 : Int32))), .val (.double (FP.ddiv (FP.i2d (Int32.ofNat nk)) (4620693217682128896 : UInt64))), .second, .val (.double (FP.ddiv (FP.i2d (Int32.ofNat ns)) (4643211215818981376 : UInt64))), .second, .unset, .unset, .unset, .unset, .unset, .unset, .unset, .unset]) rfl kq) ?_
  show GoW p e below s _ _ _ s₁ (mkF m 46 #[.val (.int x0), .val (.int x1), .val (.int x2), .val (.int x3), .val (.int x4), .val (.int x5), .val (.int (Int32.ofNat nk)), .val (.int (Int32.ofNat ns)), .val (.int ((XT.ushr x1 (8 : Int32)) &&& (3 : Int32))), .val (.double (FP.ddiv (FP.i2d (Int32.ofNat nk)) (4620693217682128896 : UInt64))), .second, .val (.double (FP.ddiv (FP.i2d (Int32.ofNat ns)) (4643211215818981376 : UInt64))), .second, .unset, .unset, .unset, .unset, .unset, .unset, .unset, .unset] [])
  refine gw_newO X0 hx hZ hown (hw _ (List.mem_of_getElem? (i := 3) rfl)) (hw _ (List.mem_of_getElem? (i := 4) rfl)) (hw _ (List.mem_of_getElem? (i := 5) rfl)) e0 (hb hby at_46) rfl (by decide) (by decide) ?_
  intro T32 h32 a32 g32 X32 e32 E32 A32 D32
  have nw_a32 : n0 ≤ a32 := Nat.le_trans Z0 (Nat.le_of_eq g32.symm)
  have lt_a32 : a32 < h32.size := A32.lt
  have F33 : Fld Z h32 a32 "com/example/query_likelihood_ranker/querylikelihoodranker/ranking/JelinekMercerSmoothing" "m_lambda" "D" (.double (0 : UInt64)) := D32 (Or.inr (hw _ (List.mem_of_getElem? (i := 25) rfl))) (ty := .double) (by decide)
  show GoW p e below s _ _ _ T32 (mkF m 49 #[.val (.int x0), .val (.int x1), .val (.int x2), .val (.int x3), .val (.int x4), .val (.int x5), .val (.int (Int32.ofNat nk)), .val (.int (Int32.ofNat ns)), .val (.int ((XT.ushr x1 (8 : Int32)) &&& (3 : Int32))), .val (.double (FP.ddiv (FP.i2d (Int32.ofNat nk)) (4620693217682128896 : UInt64))), .second, .val (.double (FP.ddiv (FP.i2d (Int32.ofNat ns)) (4643211215818981376 : UInt64))), .second, .unset, .unset, .unset, .unset, .unset, .unset, .unset, .unset] [(.ref a32)])
  refine gw_st (fun _ kq => XS.dup X32.here hx rfl (hb hby at_49) rfl rfl kq) ?_
  show GoW p e below s _ _ _ T32 (mkF m 50 #[.val (.int x0), .val (.int x1), .val (.int x2), .val (.int x3), .val (.int x4), .val (.int x5), .val (.int (Int32.ofNat nk)), .val (.int (Int32.ofNat ns)), .val (.int ((XT.ushr x1 (8 : Int32)) &&& (3 : Int32))), .val (.double (FP.ddiv (FP.i2d (Int32.ofNat nk)) (4620693217682128896 : UInt64))), .second, .val (.double (FP.ddiv (FP.i2d (Int32.ofNat ns)) (4643211215818981376 : UInt64))), .second, .unset, .unset, .unset, .unset, .unset, .unset, .unset, .unset] [(.ref a32), (.ref a32)])
  refine gw_st (fun _ kq => XS.dload X32.here hx rfl (hb hby at_50) rfl kq) ?_
  show GoW p e below s _ _ _ T32 (mkF m 52 #[.val (.int x0), .val (.int x1), .val (.int x2), .val (.int x3), .val (.int x4), .val (.int x5), .val (.int (Int32.ofNat nk)), .val (.int (Int32.ofNat ns)), .val (.int ((XT.ushr x1 (8 : Int32)) &&& (3 : Int32))), .val (.double (FP.ddiv (FP.i2d (Int32.ofNat nk)) (4620693217682128896 : UInt64))), .second, .val (.double (FP.ddiv (FP.i2d (Int32.ofNat ns)) (4643211215818981376 : UInt64))), .second, .unset, .unset, .unset, .unset, .unset, .unset, .unset, .unset] [(.double (FP.ddiv (FP.i2d (Int32.ofNat nk)) (4620693217682128896 : UInt64))), (.ref a32), (.ref a32)])
  have z35 : n0 ≤ h32.size := Nat.le_trans Z0 E32.1
  refine gw_callIW X32 hx hZ hml hown rfl (hw _ (List.mem_of_getElem? (i := 6) rfl)) (hw _ (List.mem_of_getElem? (i := 7) rfl)) (hw _ (List.mem_of_getElem? (i := 8) rfl)) (hw _ (List.mem_of_getElem? (i := 5) rfl)) e32 (own_EL Z a0 hw) own_ch0 lt_a32 own_sf0 (argsL := [(.double (FP.ddiv (FP.i2d (Int32.ofNat nk)) (4620693217682128896 : UInt64)))]) (rest := [(.ref a32)]) (W := 1) (met_ini l Z a0 hw a32 (FP.ddiv (FP.i2d (Int32.ofNat nk)) (4620693217682128896 : UInt64)) nk h32 n0 z35 A32 F33 nw_a32 dy29 (by first | assumption | decide | omega) (by first | assumption | decide | omega)) (hb hby at_52) rfl rfl rfl (lenOf pd1 rfl) (by show 2 * 0 + _ ≤ _; exact Nat.le_of_eq rfl) (by decide) (by decide) (by decide) (by decide) (by decide) ?_
  intro s T34 v34 L34 hZ hown X34 q34
  obtain ⟨rfl, M34, K34, f34_0, f34_1⟩ := q34
  have N34 := Fr.app N0 M34
  show GoW p e below s _ _ _ T34 (mkF m 55 #[.val (.int x0), .val (.int x1), .val (.int x2), .val (.int x3), .val (.int x4), .val (.int x5), .val (.int (Int32.ofNat nk)), .val (.int (Int32.ofNat ns)), .val (.int ((XT.ushr x1 (8 : Int32)) &&& (3 : Int32))), .val (.double (FP.ddiv (FP.i2d (Int32.ofNat nk)) (4620693217682128896 : UInt64))), .second, .val (.double (FP.ddiv (FP.i2d (Int32.ofNat ns)) (4643211215818981376 : UInt64))), .second, .unset, .unset, .unset, .unset, .unset, .unset, .unset, .unset] [(.ref a32)])
  refine gw_st (fun _ kq => XS.astore X34.here hx rfl (hb hby at_55) rfl rfl (l' := #[.val (.int x0), .val (.int x1), .val (.int x2), .val (.int x3), .val (.int x4), .val (.int x5), .val (.int (Int32.ofNat nk)), .val (.int (Int32.ofNat ns)), .val (.int ((XT.ushr x1 (8 : Int32)) &&& (3 : Int32))), .val (.double (FP.ddiv (FP.i2d (Int32.ofNat nk)) (4620693217682128896 : UInt64))), .second, .val (.double (FP.ddiv (FP.i2d (Int32.ofNat ns)) (4643211215818981376 : UInt64))), .second, .val (.ref a32), .unset, .unset, .unset, .unset, .unset, .unset, .unset]) rfl kq) ?_
  show GoW p e below s _ _ _ T34 (mkF m 57 #[.val (.int x0), .val (.int x1), .val (.int x2), .val (.int x3), .val (.int x4), .val (.int x5), .val (.int (Int32.ofNat nk)), .val (.int (Int32.ofNat ns)), .val (.int ((XT.ushr x1 (8 : Int32)) &&& (3 : Int32))), .val (.double (FP.ddiv (FP.i2d (Int32.ofNat nk)) (4620693217682128896 : UInt64))), .second, .val (.double (FP.ddiv (FP.i2d (Int32.ofNat ns)) (4643211215818981376 : UInt64))), .second, .val (.ref a32), .unset, .unset, .unset, .unset, .unset, .unset, .unset] [])
  refine gw_st (fun _ kq => XS.iload X34.here hx rfl (hb hby at_57) rfl kq) ?_
  show GoW p e below s _ _ _ T34 (mkF m 59 #[.val (.int x0), .val (.int x1), .val (.int x2), .val (.int x3), .val (.int x4), .val (.int x5), .val (.int (Int32.ofNat nk)), .val (.int (Int32.ofNat ns)), .val (.int ((XT.ushr x1 (8 : Int32)) &&& (3 : Int32))), .val (.double (FP.ddiv (FP.i2d (Int32.ofNat nk)) (4620693217682128896 : UInt64))), .second, .val (.double (FP.ddiv (FP.i2d (Int32.ofNat ns)) (4643211215818981376 : UInt64))), .second, .val (.ref a32), .unset, .unset, .unset, .unset, .unset, .unset, .unset] [(.int ((XT.ushr x1 (8 : Int32)) &&& (3 : Int32)))])
  by_cases hc36 : ((XT.ushr x1 (8 : Int32)) &&& (3 : Int32)) = (0 : Int32)
  · refine gw_st (fun _ kq => XS.ifNo X34.here hx rfl (hb hby at_59) rfl (XT.i0_ne_f hc36) kq) ?_
    show GoW p e below s _ _ _ T34 (mkF m 62 #[.val (.int x0), .val (.int x1), .val (.int x2), .val (.int x3), .val (.int x4), .val (.int x5), .val (.int (Int32.ofNat nk)), .val (.int (Int32.ofNat ns)), .val (.int ((XT.ushr x1 (8 : Int32)) &&& (3 : Int32))), .val (.double (FP.ddiv (FP.i2d (Int32.ofNat nk)) (4620693217682128896 : UInt64))), .second, .val (.double (FP.ddiv (FP.i2d (Int32.ofNat ns)) (4643211215818981376 : UInt64))), .second, .val (.ref a32), .unset, .unset, .unset, .unset, .unset, .unset, .unset] [])
    refine gw_st (fun _ kq => XT.bipushV X34.here hx rfl (8 : Int32) (hb hby at_62) (by decide) kq) ?_
    show GoW p e below s _ _ _ T34 (mkF m 64 #[.val (.int x0), .val (.int x1), .val (.int x2), .val (.int x3), .val (.int x4), .val (.int x5), .val (.int (Int32.ofNat nk)), .val (.int (Int32.ofNat ns)), .val (.int ((XT.ushr x1 (8 : Int32)) &&& (3 : Int32))), .val (.double (FP.ddiv (FP.i2d (Int32.ofNat nk)) (4620693217682128896 : UInt64))), .second, .val (.double (FP.ddiv (FP.i2d (Int32.ofNat ns)) (4643211215818981376 : UInt64))), .second, .val (.ref a32), .unset, .unset, .unset, .unset, .unset, .unset, .unset] [(.int (8 : Int32))])
    refine gw_st (fun _ kq => XS.iload X34.here hx rfl (hb hby at_64) rfl kq) ?_
    show GoW p e below s _ _ _ T34 (mkF m 66 #[.val (.int x0), .val (.int x1), .val (.int x2), .val (.int x3), .val (.int x4), .val (.int x5), .val (.int (Int32.ofNat nk)), .val (.int (Int32.ofNat ns)), .val (.int ((XT.ushr x1 (8 : Int32)) &&& (3 : Int32))), .val (.double (FP.ddiv (FP.i2d (Int32.ofNat nk)) (4620693217682128896 : UInt64))), .second, .val (.double (FP.ddiv (FP.i2d (Int32.ofNat ns)) (4643211215818981376 : UInt64))), .second, .val (.ref a32), .unset, .unset, .unset, .unset, .unset, .unset, .unset] [(.int (Int32.ofNat nk)), (.int (8 : Int32))])
    refine gw_st (fun _ kq => XS.isub X34.here hx rfl (hb hby at_66) rfl kq) ?_
    show GoW p e below s _ _ _ T34 (mkF m 67 #[.val (.int x0), .val (.int x1), .val (.int x2), .val (.int x3), .val (.int x4), .val (.int x5), .val (.int (Int32.ofNat nk)), .val (.int (Int32.ofNat ns)), .val (.int ((XT.ushr x1 (8 : Int32)) &&& (3 : Int32))), .val (.double (FP.ddiv (FP.i2d (Int32.ofNat nk)) (4620693217682128896 : UInt64))), .second, .val (.double (FP.ddiv (FP.i2d (Int32.ofNat ns)) (4643211215818981376 : UInt64))), .second, .val (.ref a32), .unset, .unset, .unset, .unset, .unset, .unset, .unset] [(.int ((8 : Int32) - (Int32.ofNat nk)))])
    rw [own_e8 hnk1 hnk2]
    show GoW p e below s _ _ _ T34 (mkF m 67 #[.val (.int x0), .val (.int x1), .val (.int x2), .val (.int x3), .val (.int x4), .val (.int x5), .val (.int (Int32.ofNat nk)), .val (.int (Int32.ofNat ns)), .val (.int ((XT.ushr x1 (8 : Int32)) &&& (3 : Int32))), .val (.double (FP.ddiv (FP.i2d (Int32.ofNat nk)) (4620693217682128896 : UInt64))), .second, .val (.double (FP.ddiv (FP.i2d (Int32.ofNat ns)) (4643211215818981376 : UInt64))), .second, .val (.ref a32), .unset, .unset, .unset, .unset, .unset, .unset, .unset] [(.int (Int32.ofNat (8 - nk)))])
    refine gw_st (fun _ kq => XS.iload X34.here hx rfl (hb hby at_67) rfl kq) ?_
    show GoW p e below s _ _ _ T34 (mkF m 69 #[.val (.int x0), .val (.int x1), .val (.int x2), .val (.int x3), .val (.int x4), .val (.int x5), .val (.int (Int32.ofNat nk)), .val (.int (Int32.ofNat ns)), .val (.int ((XT.ushr x1 (8 : Int32)) &&& (3 : Int32))), .val (.double (FP.ddiv (FP.i2d (Int32.ofNat nk)) (4620693217682128896 : UInt64))), .second, .val (.double (FP.ddiv (FP.i2d (Int32.ofNat ns)) (4643211215818981376 : UInt64))), .second, .val (.ref a32), .unset, .unset, .unset, .unset, .unset, .unset, .unset] [(.int (Int32.ofNat ns)), (.int (Int32.ofNat (8 - nk)))])
    refine gw_st (fun _ kq => XS.imul X34.here hx rfl (hb hby at_69) rfl kq) ?_
    show GoW p e below s _ _ _ T34 (mkF m 70 #[.val (.int x0), .val (.int x1), .val (.int x2), .val (.int x3), .val (.int x4), .val (.int x5), .val (.int (Int32.ofNat nk)), .val (.int (Int32.ofNat ns)), .val (.int ((XT.ushr x1 (8 : Int32)) &&& (3 : Int32))), .val (.double (FP.ddiv (FP.i2d (Int32.ofNat nk)) (4620693217682128896 : UInt64))), .second, .val (.double (FP.ddiv (FP.i2d (Int32.ofNat ns)) (4643211215818981376 : UInt64))), .second, .val (.ref a32), .unset, .unset, .unset, .unset, .unset, .unset, .unset] [(.int ((Int32.ofNat (8 - nk)) * (Int32.ofNat ns)))])
    rw [own_mu (a := 8 - nk) (b := ns) (by omega) (by omega) (by omega)]
    show GoW p e below s _ _ _ T34 (mkF m 70 #[.val (.int x0), .val (.int x1), .val (.int x2), .val (.int x3), .val (.int x4), .val (.int x5), .val (.int (Int32.ofNat nk)), .val (.int (Int32.ofNat ns)), .val (.int ((XT.ushr x1 (8 : Int32)) &&& (3 : Int32))), .val (.double (FP.ddiv (FP.i2d (Int32.ofNat nk)) (4620693217682128896 : UInt64))), .second, .val (.double (FP.ddiv (FP.i2d (Int32.ofNat ns)) (4643211215818981376 : UInt64))), .second, .val (.ref a32), .unset, .unset, .unset, .unset, .unset, .unset, .unset] [(.int (Int32.ofNat ((8 - nk) * ns)))])
    have dy37 : Dy (FP.i2d (Int32.ofNat ((8 - nk) * ns))) ((8 - nk) * ns) 0 := Dy.of_i2d (own_on32 (by omega))
    refine gw_st (fun _ kq => XS.i2dS X34.here hx rfl (hb hby at_70) rfl rfl kq) ?_
    show GoW p e below s _ _ _ T34 (mkF m 71 #[.val (.int x0), .val (.int x1), .val (.int x2), .val (.int x3), .val (.int x4), .val (.int x5), .val (.int (Int32.ofNat nk)), .val (.int (Int32.ofNat ns)), .val (.int ((XT.ushr x1 (8 : Int32)) &&& (3 : Int32))), .val (.double (FP.ddiv (FP.i2d (Int32.ofNat nk)) (4620693217682128896 : UInt64))), .second, .val (.double (FP.ddiv (FP.i2d (Int32.ofNat ns)) (4643211215818981376 : UInt64))), .second, .val (.ref a32), .unset, .unset, .unset, .unset, .unset, .unset, .unset] [(.double (FP.i2d (Int32.ofNat ((8 - nk) * ns))))])
    refine gw_st (X34.ldc2DoubleC hx hown (mvT hZ (hw _ (List.mem_of_getElem? (i := 26) rfl))) rfl (hb hby at_71)) ?_
    show GoW p e below s _ _ _ T34 (mkF m 74 #[.val (.int x0), .val (.int x1), .val (.int x2), .val (.int x3), .val (.int x4), .val (.int x5), .val (.int (Int32.ofNat nk)), .val (.int (Int32.ofNat ns)), .val (.int ((XT.ushr x1 (8 : Int32)) &&& (3 : Int32))), .val (.double (FP.ddiv (FP.i2d (Int32.ofNat nk)) (4620693217682128896 : UInt64))), .second, .val (.double (FP.ddiv (FP.i2d (Int32.ofNat ns)) (4643211215818981376 : UInt64))), .second, .val (.ref a32), .unset, .unset, .unset, .unset, .unset, .unset, .unset] [(.double (4656722014701092864 : UInt64)), (.double (FP.i2d (Int32.ofNat ((8 - nk) * ns))))])
    have dy38 : Dy (FP.ddiv (FP.i2d (Int32.ofNat ((8 - nk) * ns))) (4656722014701092864 : UInt64)) ((8 - nk) * ns) 11 := dy37.div own_2048 (by decide) (by omega) (by decide) (by omega)
    refine gw_st (fun _ kq => XS.ddivS X34.here hx rfl (hb hby at_74) rfl (own_nan64 dy38.fin) rfl kq) ?_
    show GoW p e below s _ _ _ T34 (mkF m 75 #[.val (.int x0), .val (.int x1), .val (.int x2), .val (.int x3), .val (.int x4), .val (.int x5), .val (.int (Int32.ofNat nk)), .val (.int (Int32.ofNat ns)), .val (.int ((XT.ushr x1 (8 : Int32)) &&& (3 : Int32))), .val (.double (FP.ddiv (FP.i2d (Int32.ofNat nk)) (4620693217682128896 : UInt64))), .second, .val (.double (FP.ddiv (FP.i2d (Int32.ofNat ns)) (4643211215818981376 : UInt64))), .second, .val (.ref a32), .unset, .unset, .unset, .unset, .unset, .unset, .unset] [(.double (FP.ddiv (FP.i2d (Int32.ofNat ((8 - nk) * ns))) (4656722014701092864 : UInt64)))])
    refine gw_st (fun _ kq => XS.dstore X34.here hx rfl (hb hby at_75) rfl (l' := #[.val (.int x0), .val (.int x1), .val (.int x2), .val (.int x3), .val (.int x4), .val (.int x5), .val (.int (Int32.ofNat nk)), .val (.int (Int32.ofNat ns)), .val (.int ((XT.ushr x1 (8 : Int32)) &&& (3 : Int32))), .val (.double (FP.ddiv (FP.i2d (Int32.ofNat nk)) (4620693217682128896 : UInt64))), .second, .val (.double (FP.ddiv (FP.i2d (Int32.ofNat ns)) (4643211215818981376 : UInt64))), .second, .val (.ref a32), .val (.double (FP.ddiv (FP.i2d (Int32.ofNat ((8 - nk) * ns))) (4656722014701092864 : UInt64))), .second, .unset, .unset, .unset, .unset, .unset]) rfl kq) ?_
    show GoW p e below s _ _ _ T34 (mkF m 77 #[.val (.int x0), .val (.int x1), .val (.int x2), .val (.int x3), .val (.int x4), .val (.int x5), .val (.int (Int32.ofNat nk)), .val (.int (Int32.ofNat ns)), .val (.int ((XT.ushr x1 (8 : Int32)) &&& (3 : Int32))), .val (.double (FP.ddiv (FP.i2d (Int32.ofNat nk)) (4620693217682128896 : UInt64))), .second, .val (.double (FP.ddiv (FP.i2d (Int32.ofNat ns)) (4643211215818981376 : UInt64))), .second, .val (.ref a32), .val (.double (FP.ddiv (FP.i2d (Int32.ofNat ((8 - nk) * ns))) (4656722014701092864 : UInt64))), .second, .unset, .unset, .unset, .unset, .unset] [])
    refine gw_st (fun _ kq => XS.aload X34.here hx rfl (hb hby at_77) rfl rfl kq) ?_
    show GoW p e below s _ _ _ T34 (mkF m 79 #[.val (.int x0), .val (.int x1), .val (.int x2), .val (.int x3), .val (.int x4), .val (.int x5), .val (.int (Int32.ofNat nk)), .val (.int (Int32.ofNat ns)), .val (.int ((XT.ushr x1 (8 : Int32)) &&& (3 : Int32))), .val (.double (FP.ddiv (FP.i2d (Int32.ofNat nk)) (4620693217682128896 : UInt64))), .second, .val (.double (FP.ddiv (FP.i2d (Int32.ofNat ns)) (4643211215818981376 : UInt64))), .second, .val (.ref a32), .val (.double (FP.ddiv (FP.i2d (Int32.ofNat ((8 - nk) * ns))) (4656722014701092864 : UInt64))), .second, .unset, .unset, .unset, .unset, .unset] [(.ref a32)])
    refine gw_st (fun _ kq => XT.iconstV X34.here hx rfl (0 : Int32) (hb hby at_79) (by decide) kq) ?_
    show GoW p e below s _ _ _ T34 (mkF m 80 #[.val (.int x0), .val (.int x1), .val (.int x2), .val (.int x3), .val (.int x4), .val (.int x5), .val (.int (Int32.ofNat nk)), .val (.int (Int32.ofNat ns)), .val (.int ((XT.ushr x1 (8 : Int32)) &&& (3 : Int32))), .val (.double (FP.ddiv (FP.i2d (Int32.ofNat nk)) (4620693217682128896 : UInt64))), .second, .val (.double (FP.ddiv (FP.i2d (Int32.ofNat ns)) (4643211215818981376 : UInt64))), .second, .val (.ref a32), .val (.double (FP.ddiv (FP.i2d (Int32.ofNat ((8 - nk) * ns))) (4656722014701092864 : UInt64))), .second, .unset, .unset, .unset, .unset, .unset] [(.int (0 : Int32)), (.ref a32)])
    refine gw_st (fun _ kq => XT.iconstV X34.here hx rfl (0 : Int32) (hb hby at_80) (by decide) kq) ?_
    show GoW p e below s _ _ _ T34 (mkF m 81 #[.val (.int x0), .val (.int x1), .val (.int x2), .val (.int x3), .val (.int x4), .val (.int x5), .val (.int (Int32.ofNat nk)), .val (.int (Int32.ofNat ns)), .val (.int ((XT.ushr x1 (8 : Int32)) &&& (3 : Int32))), .val (.double (FP.ddiv (FP.i2d (Int32.ofNat nk)) (4620693217682128896 : UInt64))), .second, .val (.double (FP.ddiv (FP.i2d (Int32.ofNat ns)) (4643211215818981376 : UInt64))), .second, .val (.ref a32), .val (.double (FP.ddiv (FP.i2d (Int32.ofNat ((8 - nk) * ns))) (4656722014701092864 : UInt64))), .second, .unset, .unset, .unset, .unset, .unset] [(.int (0 : Int32)), (.int (0 : Int32)), (.ref a32)])
    refine gw_st (fun _ kq => XS.iload X34.here hx rfl (hb hby at_81) rfl kq) ?_
    show GoW p e below s _ _ _ T34 (mkF m 83 #[.val (.int x0), .val (.int x1), .val (.int x2), .val (.int x3), .val (.int x4), .val (.int x5), .val (.int (Int32.ofNat nk)), .val (.int (Int32.ofNat ns)), .val (.int ((XT.ushr x1 (8 : Int32)) &&& (3 : Int32))), .val (.double (FP.ddiv (FP.i2d (Int32.ofNat nk)) (4620693217682128896 : UInt64))), .second, .val (.double (FP.ddiv (FP.i2d (Int32.ofNat ns)) (4643211215818981376 : UInt64))), .second, .val (.ref a32), .val (.double (FP.ddiv (FP.i2d (Int32.ofNat ((8 - nk) * ns))) (4656722014701092864 : UInt64))), .second, .unset, .unset, .unset, .unset, .unset] [(.int x4), (.int (0 : Int32)), (.int (0 : Int32)), (.ref a32)])
    refine gw_st (fun _ kq => XS.dload X34.here hx rfl (hb hby at_83) rfl kq) ?_
    show GoW p e below s _ _ _ T34 (mkF m 85 #[.val (.int x0), .val (.int x1), .val (.int x2), .val (.int x3), .val (.int x4), .val (.int x5), .val (.int (Int32.ofNat nk)), .val (.int (Int32.ofNat ns)), .val (.int ((XT.ushr x1 (8 : Int32)) &&& (3 : Int32))), .val (.double (FP.ddiv (FP.i2d (Int32.ofNat nk)) (4620693217682128896 : UInt64))), .second, .val (.double (FP.ddiv (FP.i2d (Int32.ofNat ns)) (4643211215818981376 : UInt64))), .second, .val (.ref a32), .val (.double (FP.ddiv (FP.i2d (Int32.ofNat ((8 - nk) * ns))) (4656722014701092864 : UInt64))), .second, .unset, .unset, .unset, .unset, .unset] [(.double (FP.ddiv (FP.i2d (Int32.ofNat ns)) (4643211215818981376 : UInt64))), (.int x4), (.int (0 : Int32)), (.int (0 : Int32)), (.ref a32)])
    refine gw_st (fun _ kq => XS.iload X34.here hx rfl (hb hby at_85) rfl kq) ?_
    show GoW p e below s _ _ _ T34 (mkF m 87 #[.val (.int x0), .val (.int x1), .val (.int x2), .val (.int x3), .val (.int x4), .val (.int x5), .val (.int (Int32.ofNat nk)), .val (.int (Int32.ofNat ns)), .val (.int ((XT.ushr x1 (8 : Int32)) &&& (3 : Int32))), .val (.double (FP.ddiv (FP.i2d (Int32.ofNat nk)) (4620693217682128896 : UInt64))), .second, .val (.double (FP.ddiv (FP.i2d (Int32.ofNat ns)) (4643211215818981376 : UInt64))), .second, .val (.ref a32), .val (.double (FP.ddiv (FP.i2d (Int32.ofNat ((8 - nk) * ns))) (4656722014701092864 : UInt64))), .second, .unset, .unset, .unset, .unset, .unset] [(.int x5), (.double (FP.ddiv (FP.i2d (Int32.ofNat ns)) (4643211215818981376 : UInt64))), (.int x4), (.int (0 : Int32)), (.int (0 : Int32)), (.ref a32)])
    have z40 : n0 ≤ T34.heap.size := Nat.le_trans z35 K34.1
    refine gw_callV X34 hx hZ hml hown (hw _ (List.mem_of_getElem? (i := 27) rfl)) (hw _ (List.mem_of_getElem? (i := 28) rfl)) (notFace_of_selects (args := #[]) (mvT hZ (hw _ (List.mem_of_getElem? (i := 30) rfl)))) (hw _ (List.mem_of_getElem? (i := 30) rfl)) (hw _ (List.mem_of_getElem? (i := 29) rfl)) (hw _ (List.mem_of_getElem? (i := 31) rfl)) (hw _ (List.mem_of_getElem? (i := 5) rfl)) rfl f34_0 (argsL := [(.int (0 : Int32)), (.int (0 : Int32)), (.int x4), (.double (FP.ddiv (FP.i2d (Int32.ofNat ns)) (4643211215818981376 : UInt64))), (.int x5)]) (rest := []) (W := 0) (met_pz l Z a0 hw a32 (FP.ddiv (FP.i2d (Int32.ofNat nk)) (4620693217682128896 : UInt64)) (FP.ddiv (FP.i2d (Int32.ofNat ns)) (4643211215818981376 : UInt64)) x4 x5 nk ns T34.heap n0 z40 dy29 dy31 (by first | assumption | decide | omega) (by first | assumption | decide | omega) (by first | assumption | decide | omega) f34_1) (hb hby at_87) rfl rfl rfl (lenOf pd2 rfl) (by show 2 * 0 + _ ≤ _; exact Nat.le_of_eq rfl) (by decide) (by decide) (by decide) (by decide) (by decide) ?_
    intro T39 v39 L39 X39 q39
    obtain ⟨rq_39, rfl, M39, K39, p39_0⟩ := q39
    have N39 := Fr.app N34 M39
    show GoW p e below s _ _ _ T39 (mkF m 90 #[.val (.int x0), .val (.int x1), .val (.int x2), .val (.int x3), .val (.int x4), .val (.int x5), .val (.int (Int32.ofNat nk)), .val (.int (Int32.ofNat ns)), .val (.int ((XT.ushr x1 (8 : Int32)) &&& (3 : Int32))), .val (.double (FP.ddiv (FP.i2d (Int32.ofNat nk)) (4620693217682128896 : UInt64))), .second, .val (.double (FP.ddiv (FP.i2d (Int32.ofNat ns)) (4643211215818981376 : UInt64))), .second, .val (.ref a32), .val (.double (FP.ddiv (FP.i2d (Int32.ofNat ((8 - nk) * ns))) (4656722014701092864 : UInt64))), .second, .unset, .unset, .unset, .unset, .unset] [(.double rq_39)])
    refine gw_st (fun _ kq => XS.dload X39.here hx rfl (hb hby at_90) rfl kq) ?_
    show GoW p e below s _ _ _ T39 (mkF m 92 #[.val (.int x0), .val (.int x1), .val (.int x2), .val (.int x3), .val (.int x4), .val (.int x5), .val (.int (Int32.ofNat nk)), .val (.int (Int32.ofNat ns)), .val (.int ((XT.ushr x1 (8 : Int32)) &&& (3 : Int32))), .val (.double (FP.ddiv (FP.i2d (Int32.ofNat nk)) (4620693217682128896 : UInt64))), .second, .val (.double (FP.ddiv (FP.i2d (Int32.ofNat ns)) (4643211215818981376 : UInt64))), .second, .val (.ref a32), .val (.double (FP.ddiv (FP.i2d (Int32.ofNat ((8 - nk) * ns))) (4656722014701092864 : UInt64))), .second, .unset, .unset, .unset, .unset, .unset] [(.double (FP.ddiv (FP.i2d (Int32.ofNat ((8 - nk) * ns))) (4656722014701092864 : UInt64))), (.double rq_39)])
    refine gw_st (fun _ kq => XS.dcmpS X39.here hx rfl (hb hby at_92) rfl rfl kq) ?_
    show GoW p e below s _ _ _ T39 (mkF m 93 #[.val (.int x0), .val (.int x1), .val (.int x2), .val (.int x3), .val (.int x4), .val (.int x5), .val (.int (Int32.ofNat nk)), .val (.int (Int32.ofNat ns)), .val (.int ((XT.ushr x1 (8 : Int32)) &&& (3 : Int32))), .val (.double (FP.ddiv (FP.i2d (Int32.ofNat nk)) (4620693217682128896 : UInt64))), .second, .val (.double (FP.ddiv (FP.i2d (Int32.ofNat ns)) (4643211215818981376 : UInt64))), .second, .val (.ref a32), .val (.double (FP.ddiv (FP.i2d (Int32.ofNat ((8 - nk) * ns))) (4656722014701092864 : UInt64))), .second, .unset, .unset, .unset, .unset, .unset] [(.int (cmpValue (FP.dcmp rq_39 (FP.ddiv (FP.i2d (Int32.ofNat ((8 - nk) * ns))) (4656722014701092864 : UInt64))) .l))])
    have hb41 : (cmpValue (FP.dcmp rq_39 (FP.ddiv (FP.i2d (Int32.ofNat ((8 - nk) * ns))) (4656722014701092864 : UInt64))) .l) = (0 : Int32) := by rw [show FP.dcmp rq_39 (FP.ddiv (FP.i2d (Int32.ofNat ((8 - nk) * ns))) (4656722014701092864 : UInt64)) = some .eq from own_cmp_eq p39_0 dy38 (by omega)]; rfl
    refine gw_st (fun _ kq => XS.ifNo X39.here hx rfl (hb hby at_93) rfl (XT.i0_ne_f hb41) kq) ?_
    show GoW p e below s _ _ _ T39 (mkF m 96 #[.val (.int x0), .val (.int x1), .val (.int x2), .val (.int x3), .val (.int x4), .val (.int x5), .val (.int (Int32.ofNat nk)), .val (.int (Int32.ofNat ns)), .val (.int ((XT.ushr x1 (8 : Int32)) &&& (3 : Int32))), .val (.double (FP.ddiv (FP.i2d (Int32.ofNat nk)) (4620693217682128896 : UInt64))), .second, .val (.double (FP.ddiv (FP.i2d (Int32.ofNat ns)) (4643211215818981376 : UInt64))), .second, .val (.ref a32), .val (.double (FP.ddiv (FP.i2d (Int32.ofNat ((8 - nk) * ns))) (4656722014701092864 : UInt64))), .second, .unset, .unset, .unset, .unset, .unset] [])
    refine gw_st (fun _ kq => XT.iconstV X39.here hx rfl (1 : Int32) (hb hby at_96) (by decide) kq) ?_
    show GoW p e below s _ _ _ T39 (mkF m 97 #[.val (.int x0), .val (.int x1), .val (.int x2), .val (.int x3), .val (.int x4), .val (.int x5), .val (.int (Int32.ofNat nk)), .val (.int (Int32.ofNat ns)), .val (.int ((XT.ushr x1 (8 : Int32)) &&& (3 : Int32))), .val (.double (FP.ddiv (FP.i2d (Int32.ofNat nk)) (4620693217682128896 : UInt64))), .second, .val (.double (FP.ddiv (FP.i2d (Int32.ofNat ns)) (4643211215818981376 : UInt64))), .second, .val (.ref a32), .val (.double (FP.ddiv (FP.i2d (Int32.ofNat ((8 - nk) * ns))) (4656722014701092864 : UInt64))), .second, .unset, .unset, .unset, .unset, .unset] [(.int (1 : Int32))])
    refine gw_st (fun _ kq => XS.goto X39.here hx rfl (pc0 := 97) (pc' := 101) rfl (hb hby at_97) (by decide) (by decide) kq) ?_
    show GoW p e below s _ _ _ T39 (mkF m 101 #[.val (.int x0), .val (.int x1), .val (.int x2), .val (.int x3), .val (.int x4), .val (.int x5), .val (.int (Int32.ofNat nk)), .val (.int (Int32.ofNat ns)), .val (.int ((XT.ushr x1 (8 : Int32)) &&& (3 : Int32))), .val (.double (FP.ddiv (FP.i2d (Int32.ofNat nk)) (4620693217682128896 : UInt64))), .second, .val (.double (FP.ddiv (FP.i2d (Int32.ofNat ns)) (4643211215818981376 : UInt64))), .second, .val (.ref a32), .val (.double (FP.ddiv (FP.i2d (Int32.ofNat ((8 - nk) * ns))) (4656722014701092864 : UInt64))), .second, .unset, .unset, .unset, .unset, .unset] [(.int (1 : Int32))])
    exact gw_retB (w := (1 : Int32)) X39 hx hlk hret (hb hby at_101) (by decide) (by decide) (by decide) ⟨rfl, N39⟩
  · refine gw_st (fun _ kq => XS.ifYes X34.here hx rfl (pc0 := 59) (pc' := 102) rfl (hb hby at_59) rfl (XT.i0_ne_t hc36) (by decide) (by decide) kq) ?_
    show GoW p e below s _ _ _ T34 (mkF m 102 #[.val (.int x0), .val (.int x1), .val (.int x2), .val (.int x3), .val (.int x4), .val (.int x5), .val (.int (Int32.ofNat nk)), .val (.int (Int32.ofNat ns)), .val (.int ((XT.ushr x1 (8 : Int32)) &&& (3 : Int32))), .val (.double (FP.ddiv (FP.i2d (Int32.ofNat nk)) (4620693217682128896 : UInt64))), .second, .val (.double (FP.ddiv (FP.i2d (Int32.ofNat ns)) (4643211215818981376 : UInt64))), .second, .val (.ref a32), .unset, .unset, .unset, .unset, .unset, .unset, .unset] [])
    refine gw_st (fun _ kq => XS.iload X34.here hx rfl (hb hby at_102) rfl kq) ?_
    show GoW p e below s _ _ _ T34 (mkF m 104 #[.val (.int x0), .val (.int x1), .val (.int x2), .val (.int x3), .val (.int x4), .val (.int x5), .val (.int (Int32.ofNat nk)), .val (.int (Int32.ofNat ns)), .val (.int ((XT.ushr x1 (8 : Int32)) &&& (3 : Int32))), .val (.double (FP.ddiv (FP.i2d (Int32.ofNat nk)) (4620693217682128896 : UInt64))), .second, .val (.double (FP.ddiv (FP.i2d (Int32.ofNat ns)) (4643211215818981376 : UInt64))), .second, .val (.ref a32), .unset, .unset, .unset, .unset, .unset, .unset, .unset] [(.int ((XT.ushr x1 (8 : Int32)) &&& (3 : Int32)))])
    refine gw_st (fun _ kq => XT.iconstV X34.here hx rfl (1 : Int32) (hb hby at_104) (by decide) kq) ?_
    show GoW p e below s _ _ _ T34 (mkF m 105 #[.val (.int x0), .val (.int x1), .val (.int x2), .val (.int x3), .val (.int x4), .val (.int x5), .val (.int (Int32.ofNat nk)), .val (.int (Int32.ofNat ns)), .val (.int ((XT.ushr x1 (8 : Int32)) &&& (3 : Int32))), .val (.double (FP.ddiv (FP.i2d (Int32.ofNat nk)) (4620693217682128896 : UInt64))), .second, .val (.double (FP.ddiv (FP.i2d (Int32.ofNat ns)) (4643211215818981376 : UInt64))), .second, .val (.ref a32), .unset, .unset, .unset, .unset, .unset, .unset, .unset] [(.int (1 : Int32)), (.int ((XT.ushr x1 (8 : Int32)) &&& (3 : Int32)))])
    by_cases hc42 : ((XT.ushr x1 (8 : Int32)) &&& (3 : Int32)) = (1 : Int32)
    · refine gw_st (fun _ kq => XS.icmpNo X34.here hx rfl (hb hby at_105) rfl (XT.ii_ne_f hc42) kq) ?_
      show GoW p e below s _ _ _ T34 (mkF m 108 #[.val (.int x0), .val (.int x1), .val (.int x2), .val (.int x3), .val (.int x4), .val (.int x5), .val (.int (Int32.ofNat nk)), .val (.int (Int32.ofNat ns)), .val (.int ((XT.ushr x1 (8 : Int32)) &&& (3 : Int32))), .val (.double (FP.ddiv (FP.i2d (Int32.ofNat nk)) (4620693217682128896 : UInt64))), .second, .val (.double (FP.ddiv (FP.i2d (Int32.ofNat ns)) (4643211215818981376 : UInt64))), .second, .val (.ref a32), .unset, .unset, .unset, .unset, .unset, .unset, .unset] [])
      refine gw_st (fun _ kq => XS.iloadN X34.here hx rfl (hb hby at_108) rfl kq) ?_
      show GoW p e below s _ _ _ T34 (mkF m 109 #[.val (.int x0), .val (.int x1), .val (.int x2), .val (.int x3), .val (.int x4), .val (.int x5), .val (.int (Int32.ofNat nk)), .val (.int (Int32.ofNat ns)), .val (.int ((XT.ushr x1 (8 : Int32)) &&& (3 : Int32))), .val (.double (FP.ddiv (FP.i2d (Int32.ofNat nk)) (4620693217682128896 : UInt64))), .second, .val (.double (FP.ddiv (FP.i2d (Int32.ofNat ns)) (4643211215818981376 : UInt64))), .second, .val (.ref a32), .unset, .unset, .unset, .unset, .unset, .unset, .unset] [(.int x3)])
      refine gw_st (fun _ kq => Jvm.Stand.ldcI X34 hx hown (mvT hZ (hw _ (List.mem_of_getElem? (i := 0) rfl))) rfl (hb hby at_109) kq) ?_
      show GoW p e below s _ _ _ T34 (mkF m 111 #[.val (.int x0), .val (.int x1), .val (.int x2), .val (.int x3), .val (.int x4), .val (.int x5), .val (.int (Int32.ofNat nk)), .val (.int (Int32.ofNat ns)), .val (.int ((XT.ushr x1 (8 : Int32)) &&& (3 : Int32))), .val (.double (FP.ddiv (FP.i2d (Int32.ofNat nk)) (4620693217682128896 : UInt64))), .second, .val (.double (FP.ddiv (FP.i2d (Int32.ofNat ns)) (4643211215818981376 : UInt64))), .second, .val (.ref a32), .unset, .unset, .unset, .unset, .unset, .unset, .unset] [(.int (2147483647 : Int32)), (.int x3)])
      refine gw_st (fun _ kq => XS.iand X34.here hx rfl (hb hby at_111) rfl kq) ?_
      show GoW p e below s _ _ _ T34 (mkF m 112 #[.val (.int x0), .val (.int x1), .val (.int x2), .val (.int x3), .val (.int x4), .val (.int x5), .val (.int (Int32.ofNat nk)), .val (.int (Int32.ofNat ns)), .val (.int ((XT.ushr x1 (8 : Int32)) &&& (3 : Int32))), .val (.double (FP.ddiv (FP.i2d (Int32.ofNat nk)) (4620693217682128896 : UInt64))), .second, .val (.double (FP.ddiv (FP.i2d (Int32.ofNat ns)) (4643211215818981376 : UInt64))), .second, .val (.ref a32), .unset, .unset, .unset, .unset, .unset, .unset, .unset] [(.int (x3 &&& (2147483647 : Int32)))])
      refine gw_st (fun _ kq => XS.istore X34.here hx rfl (hb hby at_112) rfl (l' := #[.val (.int x0), .val (.int x1), .val (.int x2), .val (.int x3), .val (.int x4), .val (.int x5), .val (.int (Int32.ofNat nk)), .val (.int (Int32.ofNat ns)), .val (.int ((XT.ushr x1 (8 : Int32)) &&& (3 : Int32))), .val (.double (FP.ddiv (FP.i2d (Int32.ofNat nk)) (4620693217682128896 : UInt64))), .second, .val (.double (FP.ddiv (FP.i2d (Int32.ofNat ns)) (4643211215818981376 : UInt64))), .second, .val (.ref a32), .val (.int (x3 &&& (2147483647 : Int32))), .unset, .unset, .unset, .unset, .unset, .unset]) rfl kq) ?_
      show GoW p e below s _ _ _ T34 (mkF m 114 #[.val (.int x0), .val (.int x1), .val (.int x2), .val (.int x3), .val (.int x4), .val (.int x5), .val (.int (Int32.ofNat nk)), .val (.int (Int32.ofNat ns)), .val (.int ((XT.ushr x1 (8 : Int32)) &&& (3 : Int32))), .val (.double (FP.ddiv (FP.i2d (Int32.ofNat nk)) (4620693217682128896 : UInt64))), .second, .val (.double (FP.ddiv (FP.i2d (Int32.ofNat ns)) (4643211215818981376 : UInt64))), .second, .val (.ref a32), .val (.int (x3 &&& (2147483647 : Int32))), .unset, .unset, .unset, .unset, .unset, .unset] [])
      obtain ⟨nm, hnm, em⟩ := own_msk x3
      rw [em]
      show GoW p e below s _ _ _ T34 (mkF m 114 #[.val (.int x0), .val (.int x1), .val (.int x2), .val (.int x3), .val (.int x4), .val (.int x5), .val (.int (Int32.ofNat nk)), .val (.int (Int32.ofNat ns)), .val (.int ((XT.ushr x1 (8 : Int32)) &&& (3 : Int32))), .val (.double (FP.ddiv (FP.i2d (Int32.ofNat nk)) (4620693217682128896 : UInt64))), .second, .val (.double (FP.ddiv (FP.i2d (Int32.ofNat ns)) (4643211215818981376 : UInt64))), .second, .val (.ref a32), .val (.int (Int32.ofNat nm)), .unset, .unset, .unset, .unset, .unset, .unset] [])
      refine gw_st (fun _ kq => XT.bipushV X34.here hx rfl (8 : Int32) (hb hby at_114) (by decide) kq) ?_
      show GoW p e below s _ _ _ T34 (mkF m 116 #[.val (.int x0), .val (.int x1), .val (.int x2), .val (.int x3), .val (.int x4), .val (.int x5), .val (.int (Int32.ofNat nk)), .val (.int (Int32.ofNat ns)), .val (.int ((XT.ushr x1 (8 : Int32)) &&& (3 : Int32))), .val (.double (FP.ddiv (FP.i2d (Int32.ofNat nk)) (4620693217682128896 : UInt64))), .second, .val (.double (FP.ddiv (FP.i2d (Int32.ofNat ns)) (4643211215818981376 : UInt64))), .second, .val (.ref a32), .val (.int (Int32.ofNat nm)), .unset, .unset, .unset, .unset, .unset, .unset] [(.int (8 : Int32))])
      refine gw_st (fun _ kq => XS.iload X34.here hx rfl (hb hby at_116) rfl kq) ?_
      show GoW p e below s _ _ _ T34 (mkF m 118 #[.val (.int x0), .val (.int x1), .val (.int x2), .val (.int x3), .val (.int x4), .val (.int x5), .val (.int (Int32.ofNat nk)), .val (.int (Int32.ofNat ns)), .val (.int ((XT.ushr x1 (8 : Int32)) &&& (3 : Int32))), .val (.double (FP.ddiv (FP.i2d (Int32.ofNat nk)) (4620693217682128896 : UInt64))), .second, .val (.double (FP.ddiv (FP.i2d (Int32.ofNat ns)) (4643211215818981376 : UInt64))), .second, .val (.ref a32), .val (.int (Int32.ofNat nm)), .unset, .unset, .unset, .unset, .unset, .unset] [(.int (Int32.ofNat nk)), (.int (8 : Int32))])
      refine gw_st (fun _ kq => XS.isub X34.here hx rfl (hb hby at_118) rfl kq) ?_
      show GoW p e below s _ _ _ T34 (mkF m 119 #[.val (.int x0), .val (.int x1), .val (.int x2), .val (.int x3), .val (.int x4), .val (.int x5), .val (.int (Int32.ofNat nk)), .val (.int (Int32.ofNat ns)), .val (.int ((XT.ushr x1 (8 : Int32)) &&& (3 : Int32))), .val (.double (FP.ddiv (FP.i2d (Int32.ofNat nk)) (4620693217682128896 : UInt64))), .second, .val (.double (FP.ddiv (FP.i2d (Int32.ofNat ns)) (4643211215818981376 : UInt64))), .second, .val (.ref a32), .val (.int (Int32.ofNat nm)), .unset, .unset, .unset, .unset, .unset, .unset] [(.int ((8 : Int32) - (Int32.ofNat nk)))])
      rw [own_e8 hnk1 hnk2]
      show GoW p e below s _ _ _ T34 (mkF m 119 #[.val (.int x0), .val (.int x1), .val (.int x2), .val (.int x3), .val (.int x4), .val (.int x5), .val (.int (Int32.ofNat nk)), .val (.int (Int32.ofNat ns)), .val (.int ((XT.ushr x1 (8 : Int32)) &&& (3 : Int32))), .val (.double (FP.ddiv (FP.i2d (Int32.ofNat nk)) (4620693217682128896 : UInt64))), .second, .val (.double (FP.ddiv (FP.i2d (Int32.ofNat ns)) (4643211215818981376 : UInt64))), .second, .val (.ref a32), .val (.int (Int32.ofNat nm)), .unset, .unset, .unset, .unset, .unset, .unset] [(.int (Int32.ofNat (8 - nk)))])
      refine gw_st (fun _ kq => XS.iload X34.here hx rfl (hb hby at_119) rfl kq) ?_
      show GoW p e below s _ _ _ T34 (mkF m 121 #[.val (.int x0), .val (.int x1), .val (.int x2), .val (.int x3), .val (.int x4), .val (.int x5), .val (.int (Int32.ofNat nk)), .val (.int (Int32.ofNat ns)), .val (.int ((XT.ushr x1 (8 : Int32)) &&& (3 : Int32))), .val (.double (FP.ddiv (FP.i2d (Int32.ofNat nk)) (4620693217682128896 : UInt64))), .second, .val (.double (FP.ddiv (FP.i2d (Int32.ofNat ns)) (4643211215818981376 : UInt64))), .second, .val (.ref a32), .val (.int (Int32.ofNat nm)), .unset, .unset, .unset, .unset, .unset, .unset] [(.int (Int32.ofNat ns)), (.int (Int32.ofNat (8 - nk)))])
      refine gw_st (fun _ kq => XS.imul X34.here hx rfl (hb hby at_121) rfl kq) ?_
      show GoW p e below s _ _ _ T34 (mkF m 122 #[.val (.int x0), .val (.int x1), .val (.int x2), .val (.int x3), .val (.int x4), .val (.int x5), .val (.int (Int32.ofNat nk)), .val (.int (Int32.ofNat ns)), .val (.int ((XT.ushr x1 (8 : Int32)) &&& (3 : Int32))), .val (.double (FP.ddiv (FP.i2d (Int32.ofNat nk)) (4620693217682128896 : UInt64))), .second, .val (.double (FP.ddiv (FP.i2d (Int32.ofNat ns)) (4643211215818981376 : UInt64))), .second, .val (.ref a32), .val (.int (Int32.ofNat nm)), .unset, .unset, .unset, .unset, .unset, .unset] [(.int ((Int32.ofNat (8 - nk)) * (Int32.ofNat ns)))])
      rw [own_mu (a := 8 - nk) (b := ns) (by omega) (by omega) (by omega)]
      show GoW p e below s _ _ _ T34 (mkF m 122 #[.val (.int x0), .val (.int x1), .val (.int x2), .val (.int x3), .val (.int x4), .val (.int x5), .val (.int (Int32.ofNat nk)), .val (.int (Int32.ofNat ns)), .val (.int ((XT.ushr x1 (8 : Int32)) &&& (3 : Int32))), .val (.double (FP.ddiv (FP.i2d (Int32.ofNat nk)) (4620693217682128896 : UInt64))), .second, .val (.double (FP.ddiv (FP.i2d (Int32.ofNat ns)) (4643211215818981376 : UInt64))), .second, .val (.ref a32), .val (.int (Int32.ofNat nm)), .unset, .unset, .unset, .unset, .unset, .unset] [(.int (Int32.ofNat ((8 - nk) * ns)))])
      have dy43 : Dy (FP.i2d (Int32.ofNat ((8 - nk) * ns))) ((8 - nk) * ns) 0 := Dy.of_i2d (own_on32 (by omega))
      refine gw_st (fun _ kq => XS.i2dS X34.here hx rfl (hb hby at_122) rfl rfl kq) ?_
      show GoW p e below s _ _ _ T34 (mkF m 123 #[.val (.int x0), .val (.int x1), .val (.int x2), .val (.int x3), .val (.int x4), .val (.int x5), .val (.int (Int32.ofNat nk)), .val (.int (Int32.ofNat ns)), .val (.int ((XT.ushr x1 (8 : Int32)) &&& (3 : Int32))), .val (.double (FP.ddiv (FP.i2d (Int32.ofNat nk)) (4620693217682128896 : UInt64))), .second, .val (.double (FP.ddiv (FP.i2d (Int32.ofNat ns)) (4643211215818981376 : UInt64))), .second, .val (.ref a32), .val (.int (Int32.ofNat nm)), .unset, .unset, .unset, .unset, .unset, .unset] [(.double (FP.i2d (Int32.ofNat ((8 - nk) * ns))))])
      refine gw_st (X34.ldc2DoubleC hx hown (mvT hZ (hw _ (List.mem_of_getElem? (i := 26) rfl))) rfl (hb hby at_123)) ?_
      show GoW p e below s _ _ _ T34 (mkF m 126 #[.val (.int x0), .val (.int x1), .val (.int x2), .val (.int x3), .val (.int x4), .val (.int x5), .val (.int (Int32.ofNat nk)), .val (.int (Int32.ofNat ns)), .val (.int ((XT.ushr x1 (8 : Int32)) &&& (3 : Int32))), .val (.double (FP.ddiv (FP.i2d (Int32.ofNat nk)) (4620693217682128896 : UInt64))), .second, .val (.double (FP.ddiv (FP.i2d (Int32.ofNat ns)) (4643211215818981376 : UInt64))), .second, .val (.ref a32), .val (.int (Int32.ofNat nm)), .unset, .unset, .unset, .unset, .unset, .unset] [(.double (4656722014701092864 : UInt64)), (.double (FP.i2d (Int32.ofNat ((8 - nk) * ns))))])
      have dy44 : Dy (FP.ddiv (FP.i2d (Int32.ofNat ((8 - nk) * ns))) (4656722014701092864 : UInt64)) ((8 - nk) * ns) 11 := dy43.div own_2048 (by decide) (by omega) (by decide) (by omega)
      refine gw_st (fun _ kq => XS.ddivS X34.here hx rfl (hb hby at_126) rfl (own_nan64 dy44.fin) rfl kq) ?_
      show GoW p e below s _ _ _ T34 (mkF m 127 #[.val (.int x0), .val (.int x1), .val (.int x2), .val (.int x3), .val (.int x4), .val (.int x5), .val (.int (Int32.ofNat nk)), .val (.int (Int32.ofNat ns)), .val (.int ((XT.ushr x1 (8 : Int32)) &&& (3 : Int32))), .val (.double (FP.ddiv (FP.i2d (Int32.ofNat nk)) (4620693217682128896 : UInt64))), .second, .val (.double (FP.ddiv (FP.i2d (Int32.ofNat ns)) (4643211215818981376 : UInt64))), .second, .val (.ref a32), .val (.int (Int32.ofNat nm)), .unset, .unset, .unset, .unset, .unset, .unset] [(.double (FP.ddiv (FP.i2d (Int32.ofNat ((8 - nk) * ns))) (4656722014701092864 : UInt64)))])
      refine gw_st (fun _ kq => XS.dstore X34.here hx rfl (hb hby at_127) rfl (l' := #[.val (.int x0), .val (.int x1), .val (.int x2), .val (.int x3), .val (.int x4), .val (.int x5), .val (.int (Int32.ofNat nk)), .val (.int (Int32.ofNat ns)), .val (.int ((XT.ushr x1 (8 : Int32)) &&& (3 : Int32))), .val (.double (FP.ddiv (FP.i2d (Int32.ofNat nk)) (4620693217682128896 : UInt64))), .second, .val (.double (FP.ddiv (FP.i2d (Int32.ofNat ns)) (4643211215818981376 : UInt64))), .second, .val (.ref a32), .val (.int (Int32.ofNat nm)), .val (.double (FP.ddiv (FP.i2d (Int32.ofNat ((8 - nk) * ns))) (4656722014701092864 : UInt64))), .second, .unset, .unset, .unset, .unset]) rfl kq) ?_
      show GoW p e below s _ _ _ T34 (mkF m 129 #[.val (.int x0), .val (.int x1), .val (.int x2), .val (.int x3), .val (.int x4), .val (.int x5), .val (.int (Int32.ofNat nk)), .val (.int (Int32.ofNat ns)), .val (.int ((XT.ushr x1 (8 : Int32)) &&& (3 : Int32))), .val (.double (FP.ddiv (FP.i2d (Int32.ofNat nk)) (4620693217682128896 : UInt64))), .second, .val (.double (FP.ddiv (FP.i2d (Int32.ofNat ns)) (4643211215818981376 : UInt64))), .second, .val (.ref a32), .val (.int (Int32.ofNat nm)), .val (.double (FP.ddiv (FP.i2d (Int32.ofNat ((8 - nk) * ns))) (4656722014701092864 : UInt64))), .second, .unset, .unset, .unset, .unset] [])
      refine gw_st (fun _ kq => XS.aload X34.here hx rfl (hb hby at_129) rfl rfl kq) ?_
      show GoW p e below s _ _ _ T34 (mkF m 131 #[.val (.int x0), .val (.int x1), .val (.int x2), .val (.int x3), .val (.int x4), .val (.int x5), .val (.int (Int32.ofNat nk)), .val (.int (Int32.ofNat ns)), .val (.int ((XT.ushr x1 (8 : Int32)) &&& (3 : Int32))), .val (.double (FP.ddiv (FP.i2d (Int32.ofNat nk)) (4620693217682128896 : UInt64))), .second, .val (.double (FP.ddiv (FP.i2d (Int32.ofNat ns)) (4643211215818981376 : UInt64))), .second, .val (.ref a32), .val (.int (Int32.ofNat nm)), .val (.double (FP.ddiv (FP.i2d (Int32.ofNat ((8 - nk) * ns))) (4656722014701092864 : UInt64))), .second, .unset, .unset, .unset, .unset] [(.ref a32)])
      refine gw_st (fun _ kq => XT.iconstV X34.here hx rfl (0 : Int32) (hb hby at_131) (by decide) kq) ?_
      show GoW p e below s _ _ _ T34 (mkF m 132 #[.val (.int x0), .val (.int x1), .val (.int x2), .val (.int x3), .val (.int x4), .val (.int x5), .val (.int (Int32.ofNat nk)), .val (.int (Int32.ofNat ns)), .val (.int ((XT.ushr x1 (8 : Int32)) &&& (3 : Int32))), .val (.double (FP.ddiv (FP.i2d (Int32.ofNat nk)) (4620693217682128896 : UInt64))), .second, .val (.double (FP.ddiv (FP.i2d (Int32.ofNat ns)) (4643211215818981376 : UInt64))), .second, .val (.ref a32), .val (.int (Int32.ofNat nm)), .val (.double (FP.ddiv (FP.i2d (Int32.ofNat ((8 - nk) * ns))) (4656722014701092864 : UInt64))), .second, .unset, .unset, .unset, .unset] [(.int (0 : Int32)), (.ref a32)])
      refine gw_st (fun _ kq => XS.iload X34.here hx rfl (hb hby at_132) rfl kq) ?_
      show GoW p e below s _ _ _ T34 (mkF m 134 #[.val (.int x0), .val (.int x1), .val (.int x2), .val (.int x3), .val (.int x4), .val (.int x5), .val (.int (Int32.ofNat nk)), .val (.int (Int32.ofNat ns)), .val (.int ((XT.ushr x1 (8 : Int32)) &&& (3 : Int32))), .val (.double (FP.ddiv (FP.i2d (Int32.ofNat nk)) (4620693217682128896 : UInt64))), .second, .val (.double (FP.ddiv (FP.i2d (Int32.ofNat ns)) (4643211215818981376 : UInt64))), .second, .val (.ref a32), .val (.int (Int32.ofNat nm)), .val (.double (FP.ddiv (FP.i2d (Int32.ofNat ((8 - nk) * ns))) (4656722014701092864 : UInt64))), .second, .unset, .unset, .unset, .unset] [(.int (Int32.ofNat nm)), (.int (0 : Int32)), (.ref a32)])
      refine gw_st (fun _ kq => XS.iload X34.here hx rfl (hb hby at_134) rfl kq) ?_
      show GoW p e below s _ _ _ T34 (mkF m 136 #[.val (.int x0), .val (.int x1), .val (.int x2), .val (.int x3), .val (.int x4), .val (.int x5), .val (.int (Int32.ofNat nk)), .val (.int (Int32.ofNat ns)), .val (.int ((XT.ushr x1 (8 : Int32)) &&& (3 : Int32))), .val (.double (FP.ddiv (FP.i2d (Int32.ofNat nk)) (4620693217682128896 : UInt64))), .second, .val (.double (FP.ddiv (FP.i2d (Int32.ofNat ns)) (4643211215818981376 : UInt64))), .second, .val (.ref a32), .val (.int (Int32.ofNat nm)), .val (.double (FP.ddiv (FP.i2d (Int32.ofNat ((8 - nk) * ns))) (4656722014701092864 : UInt64))), .second, .unset, .unset, .unset, .unset] [(.int x4), (.int (Int32.ofNat nm)), (.int (0 : Int32)), (.ref a32)])
      refine gw_st (fun _ kq => XS.dload X34.here hx rfl (hb hby at_136) rfl kq) ?_
      show GoW p e below s _ _ _ T34 (mkF m 138 #[.val (.int x0), .val (.int x1), .val (.int x2), .val (.int x3), .val (.int x4), .val (.int x5), .val (.int (Int32.ofNat nk)), .val (.int (Int32.ofNat ns)), .val (.int ((XT.ushr x1 (8 : Int32)) &&& (3 : Int32))), .val (.double (FP.ddiv (FP.i2d (Int32.ofNat nk)) (4620693217682128896 : UInt64))), .second, .val (.double (FP.ddiv (FP.i2d (Int32.ofNat ns)) (4643211215818981376 : UInt64))), .second, .val (.ref a32), .val (.int (Int32.ofNat nm)), .val (.double (FP.ddiv (FP.i2d (Int32.ofNat ((8 - nk) * ns))) (4656722014701092864 : UInt64))), .second, .unset, .unset, .unset, .unset] [(.double (FP.ddiv (FP.i2d (Int32.ofNat ns)) (4643211215818981376 : UInt64))), (.int x4), (.int (Int32.ofNat nm)), (.int (0 : Int32)), (.ref a32)])
      refine gw_st (fun _ kq => XS.iload X34.here hx rfl (hb hby at_138) rfl kq) ?_
      show GoW p e below s _ _ _ T34 (mkF m 140 #[.val (.int x0), .val (.int x1), .val (.int x2), .val (.int x3), .val (.int x4), .val (.int x5), .val (.int (Int32.ofNat nk)), .val (.int (Int32.ofNat ns)), .val (.int ((XT.ushr x1 (8 : Int32)) &&& (3 : Int32))), .val (.double (FP.ddiv (FP.i2d (Int32.ofNat nk)) (4620693217682128896 : UInt64))), .second, .val (.double (FP.ddiv (FP.i2d (Int32.ofNat ns)) (4643211215818981376 : UInt64))), .second, .val (.ref a32), .val (.int (Int32.ofNat nm)), .val (.double (FP.ddiv (FP.i2d (Int32.ofNat ((8 - nk) * ns))) (4656722014701092864 : UInt64))), .second, .unset, .unset, .unset, .unset] [(.int x5), (.double (FP.ddiv (FP.i2d (Int32.ofNat ns)) (4643211215818981376 : UInt64))), (.int x4), (.int (Int32.ofNat nm)), (.int (0 : Int32)), (.ref a32)])
      by_cases hz : nm = 0
      · rw [show Int32.ofNat nm = (0 : Int32) from by rw [hz]; rfl]
        show GoW p e below s _ _ _ T34 (mkF m 140 #[.val (.int x0), .val (.int x1), .val (.int x2), .val (.int x3), .val (.int x4), .val (.int x5), .val (.int (Int32.ofNat nk)), .val (.int (Int32.ofNat ns)), .val (.int ((XT.ushr x1 (8 : Int32)) &&& (3 : Int32))), .val (.double (FP.ddiv (FP.i2d (Int32.ofNat nk)) (4620693217682128896 : UInt64))), .second, .val (.double (FP.ddiv (FP.i2d (Int32.ofNat ns)) (4643211215818981376 : UInt64))), .second, .val (.ref a32), .val (.int (0 : Int32)), .val (.double (FP.ddiv (FP.i2d (Int32.ofNat ((8 - nk) * ns))) (4656722014701092864 : UInt64))), .second, .unset, .unset, .unset, .unset] [(.int x5), (.double (FP.ddiv (FP.i2d (Int32.ofNat ns)) (4643211215818981376 : UInt64))), (.int x4), (.int (0 : Int32)), (.int (0 : Int32)), (.ref a32)])
        have z46 : n0 ≤ T34.heap.size := Nat.le_trans z35 K34.1
        refine gw_callV X34 hx hZ hml hown (hw _ (List.mem_of_getElem? (i := 27) rfl)) (hw _ (List.mem_of_getElem? (i := 28) rfl)) (notFace_of_selects (args := #[]) (mvT hZ (hw _ (List.mem_of_getElem? (i := 30) rfl)))) (hw _ (List.mem_of_getElem? (i := 30) rfl)) (hw _ (List.mem_of_getElem? (i := 29) rfl)) (hw _ (List.mem_of_getElem? (i := 31) rfl)) (hw _ (List.mem_of_getElem? (i := 5) rfl)) rfl f34_0 (argsL := [(.int (0 : Int32)), (.int (0 : Int32)), (.int x4), (.double (FP.ddiv (FP.i2d (Int32.ofNat ns)) (4643211215818981376 : UInt64))), (.int x5)]) (rest := []) (W := 0) (met_pz l Z a0 hw a32 (FP.ddiv (FP.i2d (Int32.ofNat nk)) (4620693217682128896 : UInt64)) (FP.ddiv (FP.i2d (Int32.ofNat ns)) (4643211215818981376 : UInt64)) x4 x5 nk ns T34.heap n0 z46 dy29 dy31 (by first | assumption | decide | omega) (by first | assumption | decide | omega) (by first | assumption | decide | omega) f34_1) (hb hby at_140) rfl rfl rfl (lenOf pd2 rfl) (by show 2 * 0 + _ ≤ _; exact Nat.le_of_eq rfl) (by decide) (by decide) (by decide) (by decide) (by decide) ?_
        intro T45 v45 L45 X45 q45
        obtain ⟨rq_45, rfl, M45, K45, p45_0⟩ := q45
        have N45 := Fr.app N34 M45
        show GoW p e below s _ _ _ T45 (mkF m 143 #[.val (.int x0), .val (.int x1), .val (.int x2), .val (.int x3), .val (.int x4), .val (.int x5), .val (.int (Int32.ofNat nk)), .val (.int (Int32.ofNat ns)), .val (.int ((XT.ushr x1 (8 : Int32)) &&& (3 : Int32))), .val (.double (FP.ddiv (FP.i2d (Int32.ofNat nk)) (4620693217682128896 : UInt64))), .second, .val (.double (FP.ddiv (FP.i2d (Int32.ofNat ns)) (4643211215818981376 : UInt64))), .second, .val (.ref a32), .val (.int (0 : Int32)), .val (.double (FP.ddiv (FP.i2d (Int32.ofNat ((8 - nk) * ns))) (4656722014701092864 : UInt64))), .second, .unset, .unset, .unset, .unset] [(.double rq_45)])
        refine gw_st (fun _ kq => XS.dload X45.here hx rfl (hb hby at_143) rfl kq) ?_
        show GoW p e below s _ _ _ T45 (mkF m 145 #[.val (.int x0), .val (.int x1), .val (.int x2), .val (.int x3), .val (.int x4), .val (.int x5), .val (.int (Int32.ofNat nk)), .val (.int (Int32.ofNat ns)), .val (.int ((XT.ushr x1 (8 : Int32)) &&& (3 : Int32))), .val (.double (FP.ddiv (FP.i2d (Int32.ofNat nk)) (4620693217682128896 : UInt64))), .second, .val (.double (FP.ddiv (FP.i2d (Int32.ofNat ns)) (4643211215818981376 : UInt64))), .second, .val (.ref a32), .val (.int (0 : Int32)), .val (.double (FP.ddiv (FP.i2d (Int32.ofNat ((8 - nk) * ns))) (4656722014701092864 : UInt64))), .second, .unset, .unset, .unset, .unset] [(.double (FP.ddiv (FP.i2d (Int32.ofNat ((8 - nk) * ns))) (4656722014701092864 : UInt64))), (.double rq_45)])
        refine gw_st (fun _ kq => XS.dcmpS X45.here hx rfl (hb hby at_145) rfl rfl kq) ?_
        show GoW p e below s _ _ _ T45 (mkF m 146 #[.val (.int x0), .val (.int x1), .val (.int x2), .val (.int x3), .val (.int x4), .val (.int x5), .val (.int (Int32.ofNat nk)), .val (.int (Int32.ofNat ns)), .val (.int ((XT.ushr x1 (8 : Int32)) &&& (3 : Int32))), .val (.double (FP.ddiv (FP.i2d (Int32.ofNat nk)) (4620693217682128896 : UInt64))), .second, .val (.double (FP.ddiv (FP.i2d (Int32.ofNat ns)) (4643211215818981376 : UInt64))), .second, .val (.ref a32), .val (.int (0 : Int32)), .val (.double (FP.ddiv (FP.i2d (Int32.ofNat ((8 - nk) * ns))) (4656722014701092864 : UInt64))), .second, .unset, .unset, .unset, .unset] [(.int (cmpValue (FP.dcmp rq_45 (FP.ddiv (FP.i2d (Int32.ofNat ((8 - nk) * ns))) (4656722014701092864 : UInt64))) .l))])
        have hb47 : (cmpValue (FP.dcmp rq_45 (FP.ddiv (FP.i2d (Int32.ofNat ((8 - nk) * ns))) (4656722014701092864 : UInt64))) .l) = (0 : Int32) := by rw [show FP.dcmp rq_45 (FP.ddiv (FP.i2d (Int32.ofNat ((8 - nk) * ns))) (4656722014701092864 : UInt64)) = some .eq from own_cmp_eq p45_0 dy44 (by omega)]; rfl
        refine gw_st (fun _ kq => XS.ifNo X45.here hx rfl (hb hby at_146) rfl (XT.i0_ne_f hb47) kq) ?_
        show GoW p e below s _ _ _ T45 (mkF m 149 #[.val (.int x0), .val (.int x1), .val (.int x2), .val (.int x3), .val (.int x4), .val (.int x5), .val (.int (Int32.ofNat nk)), .val (.int (Int32.ofNat ns)), .val (.int ((XT.ushr x1 (8 : Int32)) &&& (3 : Int32))), .val (.double (FP.ddiv (FP.i2d (Int32.ofNat nk)) (4620693217682128896 : UInt64))), .second, .val (.double (FP.ddiv (FP.i2d (Int32.ofNat ns)) (4643211215818981376 : UInt64))), .second, .val (.ref a32), .val (.int (0 : Int32)), .val (.double (FP.ddiv (FP.i2d (Int32.ofNat ((8 - nk) * ns))) (4656722014701092864 : UInt64))), .second, .unset, .unset, .unset, .unset] [])
        refine gw_st (fun _ kq => XT.iconstV X45.here hx rfl (1 : Int32) (hb hby at_149) (by decide) kq) ?_
        show GoW p e below s _ _ _ T45 (mkF m 150 #[.val (.int x0), .val (.int x1), .val (.int x2), .val (.int x3), .val (.int x4), .val (.int x5), .val (.int (Int32.ofNat nk)), .val (.int (Int32.ofNat ns)), .val (.int ((XT.ushr x1 (8 : Int32)) &&& (3 : Int32))), .val (.double (FP.ddiv (FP.i2d (Int32.ofNat nk)) (4620693217682128896 : UInt64))), .second, .val (.double (FP.ddiv (FP.i2d (Int32.ofNat ns)) (4643211215818981376 : UInt64))), .second, .val (.ref a32), .val (.int (0 : Int32)), .val (.double (FP.ddiv (FP.i2d (Int32.ofNat ((8 - nk) * ns))) (4656722014701092864 : UInt64))), .second, .unset, .unset, .unset, .unset] [(.int (1 : Int32))])
        refine gw_st (fun _ kq => XS.goto X45.here hx rfl (pc0 := 150) (pc' := 154) rfl (hb hby at_150) (by decide) (by decide) kq) ?_
        show GoW p e below s _ _ _ T45 (mkF m 154 #[.val (.int x0), .val (.int x1), .val (.int x2), .val (.int x3), .val (.int x4), .val (.int x5), .val (.int (Int32.ofNat nk)), .val (.int (Int32.ofNat ns)), .val (.int ((XT.ushr x1 (8 : Int32)) &&& (3 : Int32))), .val (.double (FP.ddiv (FP.i2d (Int32.ofNat nk)) (4620693217682128896 : UInt64))), .second, .val (.double (FP.ddiv (FP.i2d (Int32.ofNat ns)) (4643211215818981376 : UInt64))), .second, .val (.ref a32), .val (.int (0 : Int32)), .val (.double (FP.ddiv (FP.i2d (Int32.ofNat ((8 - nk) * ns))) (4656722014701092864 : UInt64))), .second, .unset, .unset, .unset, .unset] [(.int (1 : Int32))])
        exact gw_retB (w := (1 : Int32)) X45 hx hlk hret (hb hby at_154) (by decide) (by decide) (by decide) ⟨rfl, N45⟩
      · show GoW p e below s _ _ _ T34 (mkF m 140 #[.val (.int x0), .val (.int x1), .val (.int x2), .val (.int x3), .val (.int x4), .val (.int x5), .val (.int (Int32.ofNat nk)), .val (.int (Int32.ofNat ns)), .val (.int ((XT.ushr x1 (8 : Int32)) &&& (3 : Int32))), .val (.double (FP.ddiv (FP.i2d (Int32.ofNat nk)) (4620693217682128896 : UInt64))), .second, .val (.double (FP.ddiv (FP.i2d (Int32.ofNat ns)) (4643211215818981376 : UInt64))), .second, .val (.ref a32), .val (.int (Int32.ofNat nm)), .val (.double (FP.ddiv (FP.i2d (Int32.ofNat ((8 - nk) * ns))) (4656722014701092864 : UInt64))), .second, .unset, .unset, .unset, .unset] [(.int x5), (.double (FP.ddiv (FP.i2d (Int32.ofNat ns)) (4643211215818981376 : UInt64))), (.int x4), (.int (Int32.ofNat nm)), (.int (0 : Int32)), (.ref a32)])
        have z49 : n0 ≤ T34.heap.size := Nat.le_trans z35 K34.1
        refine gw_callV X34 hx hZ hml hown (hw _ (List.mem_of_getElem? (i := 27) rfl)) (hw _ (List.mem_of_getElem? (i := 28) rfl)) (notFace_of_selects (args := #[]) (mvT hZ (hw _ (List.mem_of_getElem? (i := 30) rfl)))) (hw _ (List.mem_of_getElem? (i := 30) rfl)) (hw _ (List.mem_of_getElem? (i := 29) rfl)) (hw _ (List.mem_of_getElem? (i := 31) rfl)) (hw _ (List.mem_of_getElem? (i := 5) rfl)) rfl f34_0 (argsL := [(.int (0 : Int32)), (.int (Int32.ofNat nm)), (.int x4), (.double (FP.ddiv (FP.i2d (Int32.ofNat ns)) (4643211215818981376 : UInt64))), (.int x5)]) (rest := []) (W := 0) (met_pn l Z a0 hw a32 (FP.ddiv (FP.i2d (Int32.ofNat nk)) (4620693217682128896 : UInt64)) (FP.ddiv (FP.i2d (Int32.ofNat ns)) (4643211215818981376 : UInt64)) x4 x5 nk ns 0 nm 0 0 T34.heap n0 z49 dy29 dy31 (by first | assumption | decide | omega) (by first | assumption | decide | omega) (by first | assumption | decide | omega) f34_1 (by first | assumption | decide | omega) (by first | assumption | decide | omega) (by omega) (by first | assumption | decide | omega) (by first | assumption | decide | omega) (by first | assumption | decide | omega)) (hb hby at_140) rfl rfl rfl (lenOf pd2 rfl) (by show 2 * 0 + _ ≤ _; exact Nat.le_of_eq rfl) (by decide) (by decide) (by decide) (by decide) (by decide) ?_
        intro T48 v48 L48 X48 q48
        obtain ⟨rq_48, rfl, M48, K48, p48_0⟩ := q48
        have N48 := Fr.app N34 M48
        show GoW p e below s _ _ _ T48 (mkF m 143 #[.val (.int x0), .val (.int x1), .val (.int x2), .val (.int x3), .val (.int x4), .val (.int x5), .val (.int (Int32.ofNat nk)), .val (.int (Int32.ofNat ns)), .val (.int ((XT.ushr x1 (8 : Int32)) &&& (3 : Int32))), .val (.double (FP.ddiv (FP.i2d (Int32.ofNat nk)) (4620693217682128896 : UInt64))), .second, .val (.double (FP.ddiv (FP.i2d (Int32.ofNat ns)) (4643211215818981376 : UInt64))), .second, .val (.ref a32), .val (.int (Int32.ofNat nm)), .val (.double (FP.ddiv (FP.i2d (Int32.ofNat ((8 - nk) * ns))) (4656722014701092864 : UInt64))), .second, .unset, .unset, .unset, .unset] [(.double rq_48)])
        refine gw_st (fun _ kq => XS.dload X48.here hx rfl (hb hby at_143) rfl kq) ?_
        show GoW p e below s _ _ _ T48 (mkF m 145 #[.val (.int x0), .val (.int x1), .val (.int x2), .val (.int x3), .val (.int x4), .val (.int x5), .val (.int (Int32.ofNat nk)), .val (.int (Int32.ofNat ns)), .val (.int ((XT.ushr x1 (8 : Int32)) &&& (3 : Int32))), .val (.double (FP.ddiv (FP.i2d (Int32.ofNat nk)) (4620693217682128896 : UInt64))), .second, .val (.double (FP.ddiv (FP.i2d (Int32.ofNat ns)) (4643211215818981376 : UInt64))), .second, .val (.ref a32), .val (.int (Int32.ofNat nm)), .val (.double (FP.ddiv (FP.i2d (Int32.ofNat ((8 - nk) * ns))) (4656722014701092864 : UInt64))), .second, .unset, .unset, .unset, .unset] [(.double (FP.ddiv (FP.i2d (Int32.ofNat ((8 - nk) * ns))) (4656722014701092864 : UInt64))), (.double rq_48)])
        refine gw_st (fun _ kq => XS.dcmpS X48.here hx rfl (hb hby at_145) rfl rfl kq) ?_
        show GoW p e below s _ _ _ T48 (mkF m 146 #[.val (.int x0), .val (.int x1), .val (.int x2), .val (.int x3), .val (.int x4), .val (.int x5), .val (.int (Int32.ofNat nk)), .val (.int (Int32.ofNat ns)), .val (.int ((XT.ushr x1 (8 : Int32)) &&& (3 : Int32))), .val (.double (FP.ddiv (FP.i2d (Int32.ofNat nk)) (4620693217682128896 : UInt64))), .second, .val (.double (FP.ddiv (FP.i2d (Int32.ofNat ns)) (4643211215818981376 : UInt64))), .second, .val (.ref a32), .val (.int (Int32.ofNat nm)), .val (.double (FP.ddiv (FP.i2d (Int32.ofNat ((8 - nk) * ns))) (4656722014701092864 : UInt64))), .second, .unset, .unset, .unset, .unset] [(.int (cmpValue (FP.dcmp rq_48 (FP.ddiv (FP.i2d (Int32.ofNat ((8 - nk) * ns))) (4656722014701092864 : UInt64))) .l))])
        have hb50 : (cmpValue (FP.dcmp rq_48 (FP.ddiv (FP.i2d (Int32.ofNat ((8 - nk) * ns))) (4656722014701092864 : UInt64))) .l) = (0 : Int32) := by rw [show FP.dcmp rq_48 (FP.ddiv (FP.i2d (Int32.ofNat ((8 - nk) * ns))) (4656722014701092864 : UInt64)) = some .eq from own_cmp_eq p48_0 dy44 (by omega)]; rfl
        refine gw_st (fun _ kq => XS.ifNo X48.here hx rfl (hb hby at_146) rfl (XT.i0_ne_f hb50) kq) ?_
        show GoW p e below s _ _ _ T48 (mkF m 149 #[.val (.int x0), .val (.int x1), .val (.int x2), .val (.int x3), .val (.int x4), .val (.int x5), .val (.int (Int32.ofNat nk)), .val (.int (Int32.ofNat ns)), .val (.int ((XT.ushr x1 (8 : Int32)) &&& (3 : Int32))), .val (.double (FP.ddiv (FP.i2d (Int32.ofNat nk)) (4620693217682128896 : UInt64))), .second, .val (.double (FP.ddiv (FP.i2d (Int32.ofNat ns)) (4643211215818981376 : UInt64))), .second, .val (.ref a32), .val (.int (Int32.ofNat nm)), .val (.double (FP.ddiv (FP.i2d (Int32.ofNat ((8 - nk) * ns))) (4656722014701092864 : UInt64))), .second, .unset, .unset, .unset, .unset] [])
        refine gw_st (fun _ kq => XT.iconstV X48.here hx rfl (1 : Int32) (hb hby at_149) (by decide) kq) ?_
        show GoW p e below s _ _ _ T48 (mkF m 150 #[.val (.int x0), .val (.int x1), .val (.int x2), .val (.int x3), .val (.int x4), .val (.int x5), .val (.int (Int32.ofNat nk)), .val (.int (Int32.ofNat ns)), .val (.int ((XT.ushr x1 (8 : Int32)) &&& (3 : Int32))), .val (.double (FP.ddiv (FP.i2d (Int32.ofNat nk)) (4620693217682128896 : UInt64))), .second, .val (.double (FP.ddiv (FP.i2d (Int32.ofNat ns)) (4643211215818981376 : UInt64))), .second, .val (.ref a32), .val (.int (Int32.ofNat nm)), .val (.double (FP.ddiv (FP.i2d (Int32.ofNat ((8 - nk) * ns))) (4656722014701092864 : UInt64))), .second, .unset, .unset, .unset, .unset] [(.int (1 : Int32))])
        refine gw_st (fun _ kq => XS.goto X48.here hx rfl (pc0 := 150) (pc' := 154) rfl (hb hby at_150) (by decide) (by decide) kq) ?_
        show GoW p e below s _ _ _ T48 (mkF m 154 #[.val (.int x0), .val (.int x1), .val (.int x2), .val (.int x3), .val (.int x4), .val (.int x5), .val (.int (Int32.ofNat nk)), .val (.int (Int32.ofNat ns)), .val (.int ((XT.ushr x1 (8 : Int32)) &&& (3 : Int32))), .val (.double (FP.ddiv (FP.i2d (Int32.ofNat nk)) (4620693217682128896 : UInt64))), .second, .val (.double (FP.ddiv (FP.i2d (Int32.ofNat ns)) (4643211215818981376 : UInt64))), .second, .val (.ref a32), .val (.int (Int32.ofNat nm)), .val (.double (FP.ddiv (FP.i2d (Int32.ofNat ((8 - nk) * ns))) (4656722014701092864 : UInt64))), .second, .unset, .unset, .unset, .unset] [(.int (1 : Int32))])
        exact gw_retB (w := (1 : Int32)) X48 hx hlk hret (hb hby at_154) (by decide) (by decide) (by decide) ⟨rfl, N48⟩
    · refine gw_st (fun _ kq => XS.icmpYes X34.here hx rfl (pc0 := 105) (pc' := 155) rfl (hb hby at_105) rfl (XT.ii_ne_t hc42) (by decide) (by decide) kq) ?_
      show GoW p e below s _ _ _ T34 (mkF m 155 #[.val (.int x0), .val (.int x1), .val (.int x2), .val (.int x3), .val (.int x4), .val (.int x5), .val (.int (Int32.ofNat nk)), .val (.int (Int32.ofNat ns)), .val (.int ((XT.ushr x1 (8 : Int32)) &&& (3 : Int32))), .val (.double (FP.ddiv (FP.i2d (Int32.ofNat nk)) (4620693217682128896 : UInt64))), .second, .val (.double (FP.ddiv (FP.i2d (Int32.ofNat ns)) (4643211215818981376 : UInt64))), .second, .val (.ref a32), .unset, .unset, .unset, .unset, .unset, .unset, .unset] [])
      refine gw_st (fun _ kq => XS.iload X34.here hx rfl (hb hby at_155) rfl kq) ?_
      show GoW p e below s _ _ _ T34 (mkF m 157 #[.val (.int x0), .val (.int x1), .val (.int x2), .val (.int x3), .val (.int x4), .val (.int x5), .val (.int (Int32.ofNat nk)), .val (.int (Int32.ofNat ns)), .val (.int ((XT.ushr x1 (8 : Int32)) &&& (3 : Int32))), .val (.double (FP.ddiv (FP.i2d (Int32.ofNat nk)) (4620693217682128896 : UInt64))), .second, .val (.double (FP.ddiv (FP.i2d (Int32.ofNat ns)) (4643211215818981376 : UInt64))), .second, .val (.ref a32), .unset, .unset, .unset, .unset, .unset, .unset, .unset] [(.int ((XT.ushr x1 (8 : Int32)) &&& (3 : Int32)))])
      refine gw_st (fun _ kq => XT.iconstV X34.here hx rfl (2 : Int32) (hb hby at_157) (by decide) kq) ?_
      show GoW p e below s _ _ _ T34 (mkF m 158 #[.val (.int x0), .val (.int x1), .val (.int x2), .val (.int x3), .val (.int x4), .val (.int x5), .val (.int (Int32.ofNat nk)), .val (.int (Int32.ofNat ns)), .val (.int ((XT.ushr x1 (8 : Int32)) &&& (3 : Int32))), .val (.double (FP.ddiv (FP.i2d (Int32.ofNat nk)) (4620693217682128896 : UInt64))), .second, .val (.double (FP.ddiv (FP.i2d (Int32.ofNat ns)) (4643211215818981376 : UInt64))), .second, .val (.ref a32), .unset, .unset, .unset, .unset, .unset, .unset, .unset] [(.int (2 : Int32)), (.int ((XT.ushr x1 (8 : Int32)) &&& (3 : Int32)))])
      by_cases hc51 : ((XT.ushr x1 (8 : Int32)) &&& (3 : Int32)) = (2 : Int32)
      · refine gw_st (fun _ kq => XS.icmpNo X34.here hx rfl (hb hby at_158) rfl (XT.ii_ne_f hc51) kq) ?_
        show GoW p e below s _ _ _ T34 (mkF m 161 #[.val (.int x0), .val (.int x1), .val (.int x2), .val (.int x3), .val (.int x4), .val (.int x5), .val (.int (Int32.ofNat nk)), .val (.int (Int32.ofNat ns)), .val (.int ((XT.ushr x1 (8 : Int32)) &&& (3 : Int32))), .val (.double (FP.ddiv (FP.i2d (Int32.ofNat nk)) (4620693217682128896 : UInt64))), .second, .val (.double (FP.ddiv (FP.i2d (Int32.ofNat ns)) (4643211215818981376 : UInt64))), .second, .val (.ref a32), .unset, .unset, .unset, .unset, .unset, .unset, .unset] [])
        refine gw_st (fun _ kq => XT.iconstV X34.here hx rfl (1 : Int32) (hb hby at_161) (by decide) kq) ?_
        show GoW p e below s _ _ _ T34 (mkF m 162 #[.val (.int x0), .val (.int x1), .val (.int x2), .val (.int x3), .val (.int x4), .val (.int x5), .val (.int (Int32.ofNat nk)), .val (.int (Int32.ofNat ns)), .val (.int ((XT.ushr x1 (8 : Int32)) &&& (3 : Int32))), .val (.double (FP.ddiv (FP.i2d (Int32.ofNat nk)) (4620693217682128896 : UInt64))), .second, .val (.double (FP.ddiv (FP.i2d (Int32.ofNat ns)) (4643211215818981376 : UInt64))), .second, .val (.ref a32), .unset, .unset, .unset, .unset, .unset, .unset, .unset] [(.int (1 : Int32))])
        refine gw_st (fun _ kq => XS.iloadN X34.here hx rfl (hb hby at_162) rfl kq) ?_
        show GoW p e below s _ _ _ T34 (mkF m 163 #[.val (.int x0), .val (.int x1), .val (.int x2), .val (.int x3), .val (.int x4), .val (.int x5), .val (.int (Int32.ofNat nk)), .val (.int (Int32.ofNat ns)), .val (.int ((XT.ushr x1 (8 : Int32)) &&& (3 : Int32))), .val (.double (FP.ddiv (FP.i2d (Int32.ofNat nk)) (4620693217682128896 : UInt64))), .second, .val (.double (FP.ddiv (FP.i2d (Int32.ofNat ns)) (4643211215818981376 : UInt64))), .second, .val (.ref a32), .unset, .unset, .unset, .unset, .unset, .unset, .unset] [(.int x3), (.int (1 : Int32))])
        refine gw_st (fun _ kq => Jvm.Stand.ldcI X34 hx hown (mvT hZ (hw _ (List.mem_of_getElem? (i := 0) rfl))) rfl (hb hby at_163) kq) ?_
        show GoW p e below s _ _ _ T34 (mkF m 165 #[.val (.int x0), .val (.int x1), .val (.int x2), .val (.int x3), .val (.int x4), .val (.int x5), .val (.int (Int32.ofNat nk)), .val (.int (Int32.ofNat ns)), .val (.int ((XT.ushr x1 (8 : Int32)) &&& (3 : Int32))), .val (.double (FP.ddiv (FP.i2d (Int32.ofNat nk)) (4620693217682128896 : UInt64))), .second, .val (.double (FP.ddiv (FP.i2d (Int32.ofNat ns)) (4643211215818981376 : UInt64))), .second, .val (.ref a32), .unset, .unset, .unset, .unset, .unset, .unset, .unset] [(.int (2147483647 : Int32)), (.int x3), (.int (1 : Int32))])
        refine gw_st (fun _ kq => XS.iand X34.here hx rfl (hb hby at_165) rfl kq) ?_
        show GoW p e below s _ _ _ T34 (mkF m 166 #[.val (.int x0), .val (.int x1), .val (.int x2), .val (.int x3), .val (.int x4), .val (.int x5), .val (.int (Int32.ofNat nk)), .val (.int (Int32.ofNat ns)), .val (.int ((XT.ushr x1 (8 : Int32)) &&& (3 : Int32))), .val (.double (FP.ddiv (FP.i2d (Int32.ofNat nk)) (4620693217682128896 : UInt64))), .second, .val (.double (FP.ddiv (FP.i2d (Int32.ofNat ns)) (4643211215818981376 : UInt64))), .second, .val (.ref a32), .unset, .unset, .unset, .unset, .unset, .unset, .unset] [(.int (x3 &&& (2147483647 : Int32))), (.int (1 : Int32))])
        refine gw_callS X34 hx hZ hml hown (hw _ (List.mem_of_getElem? (i := 33) rfl)) (hw _ (List.mem_of_getElem? (i := 34) rfl)) (hw _ (List.mem_of_getElem? (i := 35) rfl)) (hw _ (List.mem_of_getElem? (i := 36) rfl)) rfl (argsL := [(.int (1 : Int32)), (.int (x3 &&& (2147483647 : Int32)))]) (rest := []) (W := 0) (met_5 l Z a0 hw (1 : Int32) (x3 &&& (2147483647 : Int32)) T34.heap n0) (hb hby at_166) rfl rfl rfl (lenOf pd3 rfl) (by show 2 * 0 + _ ≤ _; exact Nat.le_of_eq rfl) (by decide) (by decide) (by decide) (by decide) (by decide) ?_
        intro T52 v52 L52 X52 q52
        obtain ⟨rfl, M52, e52⟩ := q52
        have N52 := Fr.app N34 M52
        show GoW p e below s _ _ _ T52 (mkF m 169 #[.val (.int x0), .val (.int x1), .val (.int x2), .val (.int x3), .val (.int x4), .val (.int x5), .val (.int (Int32.ofNat nk)), .val (.int (Int32.ofNat ns)), .val (.int ((XT.ushr x1 (8 : Int32)) &&& (3 : Int32))), .val (.double (FP.ddiv (FP.i2d (Int32.ofNat nk)) (4620693217682128896 : UInt64))), .second, .val (.double (FP.ddiv (FP.i2d (Int32.ofNat ns)) (4643211215818981376 : UInt64))), .second, .val (.ref a32), .unset, .unset, .unset, .unset, .unset, .unset, .unset] [(.int (fMax (1 : Int32) (x3 &&& (2147483647 : Int32))))])
        refine gw_st (fun _ kq => XS.istore X52.here hx rfl (hb hby at_169) rfl (l' := #[.val (.int x0), .val (.int x1), .val (.int x2), .val (.int x3), .val (.int x4), .val (.int x5), .val (.int (Int32.ofNat nk)), .val (.int (Int32.ofNat ns)), .val (.int ((XT.ushr x1 (8 : Int32)) &&& (3 : Int32))), .val (.double (FP.ddiv (FP.i2d (Int32.ofNat nk)) (4620693217682128896 : UInt64))), .second, .val (.double (FP.ddiv (FP.i2d (Int32.ofNat ns)) (4643211215818981376 : UInt64))), .second, .val (.ref a32), .val (.int (fMax (1 : Int32) (x3 &&& (2147483647 : Int32)))), .unset, .unset, .unset, .unset, .unset, .unset]) rfl kq) ?_
        show GoW p e below s _ _ _ T52 (mkF m 171 #[.val (.int x0), .val (.int x1), .val (.int x2), .val (.int x3), .val (.int x4), .val (.int x5), .val (.int (Int32.ofNat nk)), .val (.int (Int32.ofNat ns)), .val (.int ((XT.ushr x1 (8 : Int32)) &&& (3 : Int32))), .val (.double (FP.ddiv (FP.i2d (Int32.ofNat nk)) (4620693217682128896 : UInt64))), .second, .val (.double (FP.ddiv (FP.i2d (Int32.ofNat ns)) (4643211215818981376 : UInt64))), .second, .val (.ref a32), .val (.int (fMax (1 : Int32) (x3 &&& (2147483647 : Int32)))), .unset, .unset, .unset, .unset, .unset, .unset] [])
        obtain ⟨nm, hnm1, hnm, em⟩ := own_mx x3
        rw [em]
        show GoW p e below s _ _ _ T52 (mkF m 171 #[.val (.int x0), .val (.int x1), .val (.int x2), .val (.int x3), .val (.int x4), .val (.int x5), .val (.int (Int32.ofNat nk)), .val (.int (Int32.ofNat ns)), .val (.int ((XT.ushr x1 (8 : Int32)) &&& (3 : Int32))), .val (.double (FP.ddiv (FP.i2d (Int32.ofNat nk)) (4620693217682128896 : UInt64))), .second, .val (.double (FP.ddiv (FP.i2d (Int32.ofNat ns)) (4643211215818981376 : UInt64))), .second, .val (.ref a32), .val (.int (Int32.ofNat nm)), .unset, .unset, .unset, .unset, .unset, .unset] [])
        refine gw_st (fun _ kq => XT.sipushV X52.here hx rfl (256 : Int32) (hb hby at_171) (by decide) kq) ?_
        show GoW p e below s _ _ _ T52 (mkF m 174 #[.val (.int x0), .val (.int x1), .val (.int x2), .val (.int x3), .val (.int x4), .val (.int x5), .val (.int (Int32.ofNat nk)), .val (.int (Int32.ofNat ns)), .val (.int ((XT.ushr x1 (8 : Int32)) &&& (3 : Int32))), .val (.double (FP.ddiv (FP.i2d (Int32.ofNat nk)) (4620693217682128896 : UInt64))), .second, .val (.double (FP.ddiv (FP.i2d (Int32.ofNat ns)) (4643211215818981376 : UInt64))), .second, .val (.ref a32), .val (.int (Int32.ofNat nm)), .unset, .unset, .unset, .unset, .unset, .unset] [(.int (256 : Int32))])
        refine gw_st (fun _ kq => XS.iload X52.here hx rfl (hb hby at_174) rfl kq) ?_
        show GoW p e below s _ _ _ T52 (mkF m 176 #[.val (.int x0), .val (.int x1), .val (.int x2), .val (.int x3), .val (.int x4), .val (.int x5), .val (.int (Int32.ofNat nk)), .val (.int (Int32.ofNat ns)), .val (.int ((XT.ushr x1 (8 : Int32)) &&& (3 : Int32))), .val (.double (FP.ddiv (FP.i2d (Int32.ofNat nk)) (4620693217682128896 : UInt64))), .second, .val (.double (FP.ddiv (FP.i2d (Int32.ofNat ns)) (4643211215818981376 : UInt64))), .second, .val (.ref a32), .val (.int (Int32.ofNat nm)), .unset, .unset, .unset, .unset, .unset, .unset] [(.int (Int32.ofNat nk)), (.int (256 : Int32))])
        refine gw_st (fun _ kq => XS.imul X52.here hx rfl (hb hby at_176) rfl kq) ?_
        show GoW p e below s _ _ _ T52 (mkF m 177 #[.val (.int x0), .val (.int x1), .val (.int x2), .val (.int x3), .val (.int x4), .val (.int x5), .val (.int (Int32.ofNat nk)), .val (.int (Int32.ofNat ns)), .val (.int ((XT.ushr x1 (8 : Int32)) &&& (3 : Int32))), .val (.double (FP.ddiv (FP.i2d (Int32.ofNat nk)) (4620693217682128896 : UInt64))), .second, .val (.double (FP.ddiv (FP.i2d (Int32.ofNat ns)) (4643211215818981376 : UInt64))), .second, .val (.ref a32), .val (.int (Int32.ofNat nm)), .unset, .unset, .unset, .unset, .unset, .unset] [(.int ((256 : Int32) * (Int32.ofNat nk)))])
        rw [show ((256 : Int32) * Int32.ofNat nk) = Int32.ofNat (256 * nk) from own_mu (a := 256) (by omega) (by omega) (by omega)]
        show GoW p e below s _ _ _ T52 (mkF m 177 #[.val (.int x0), .val (.int x1), .val (.int x2), .val (.int x3), .val (.int x4), .val (.int x5), .val (.int (Int32.ofNat nk)), .val (.int (Int32.ofNat ns)), .val (.int ((XT.ushr x1 (8 : Int32)) &&& (3 : Int32))), .val (.double (FP.ddiv (FP.i2d (Int32.ofNat nk)) (4620693217682128896 : UInt64))), .second, .val (.double (FP.ddiv (FP.i2d (Int32.ofNat ns)) (4643211215818981376 : UInt64))), .second, .val (.ref a32), .val (.int (Int32.ofNat nm)), .unset, .unset, .unset, .unset, .unset, .unset] [(.int (Int32.ofNat (256 * nk)))])
        refine gw_st (fun _ kq => XT.bipushV X52.here hx rfl (8 : Int32) (hb hby at_177) (by decide) kq) ?_
        show GoW p e below s _ _ _ T52 (mkF m 179 #[.val (.int x0), .val (.int x1), .val (.int x2), .val (.int x3), .val (.int x4), .val (.int x5), .val (.int (Int32.ofNat nk)), .val (.int (Int32.ofNat ns)), .val (.int ((XT.ushr x1 (8 : Int32)) &&& (3 : Int32))), .val (.double (FP.ddiv (FP.i2d (Int32.ofNat nk)) (4620693217682128896 : UInt64))), .second, .val (.double (FP.ddiv (FP.i2d (Int32.ofNat ns)) (4643211215818981376 : UInt64))), .second, .val (.ref a32), .val (.int (Int32.ofNat nm)), .unset, .unset, .unset, .unset, .unset, .unset] [(.int (8 : Int32)), (.int (Int32.ofNat (256 * nk)))])
        refine gw_st (fun _ kq => XS.iload X52.here hx rfl (hb hby at_179) rfl kq) ?_
        show GoW p e below s _ _ _ T52 (mkF m 181 #[.val (.int x0), .val (.int x1), .val (.int x2), .val (.int x3), .val (.int x4), .val (.int x5), .val (.int (Int32.ofNat nk)), .val (.int (Int32.ofNat ns)), .val (.int ((XT.ushr x1 (8 : Int32)) &&& (3 : Int32))), .val (.double (FP.ddiv (FP.i2d (Int32.ofNat nk)) (4620693217682128896 : UInt64))), .second, .val (.double (FP.ddiv (FP.i2d (Int32.ofNat ns)) (4643211215818981376 : UInt64))), .second, .val (.ref a32), .val (.int (Int32.ofNat nm)), .unset, .unset, .unset, .unset, .unset, .unset] [(.int (Int32.ofNat nk)), (.int (8 : Int32)), (.int (Int32.ofNat (256 * nk)))])
        refine gw_st (fun _ kq => XS.isub X52.here hx rfl (hb hby at_181) rfl kq) ?_
        show GoW p e below s _ _ _ T52 (mkF m 182 #[.val (.int x0), .val (.int x1), .val (.int x2), .val (.int x3), .val (.int x4), .val (.int x5), .val (.int (Int32.ofNat nk)), .val (.int (Int32.ofNat ns)), .val (.int ((XT.ushr x1 (8 : Int32)) &&& (3 : Int32))), .val (.double (FP.ddiv (FP.i2d (Int32.ofNat nk)) (4620693217682128896 : UInt64))), .second, .val (.double (FP.ddiv (FP.i2d (Int32.ofNat ns)) (4643211215818981376 : UInt64))), .second, .val (.ref a32), .val (.int (Int32.ofNat nm)), .unset, .unset, .unset, .unset, .unset, .unset] [(.int ((8 : Int32) - (Int32.ofNat nk))), (.int (Int32.ofNat (256 * nk)))])
        rw [own_e8 hnk1 hnk2]
        show GoW p e below s _ _ _ T52 (mkF m 182 #[.val (.int x0), .val (.int x1), .val (.int x2), .val (.int x3), .val (.int x4), .val (.int x5), .val (.int (Int32.ofNat nk)), .val (.int (Int32.ofNat ns)), .val (.int ((XT.ushr x1 (8 : Int32)) &&& (3 : Int32))), .val (.double (FP.ddiv (FP.i2d (Int32.ofNat nk)) (4620693217682128896 : UInt64))), .second, .val (.double (FP.ddiv (FP.i2d (Int32.ofNat ns)) (4643211215818981376 : UInt64))), .second, .val (.ref a32), .val (.int (Int32.ofNat nm)), .unset, .unset, .unset, .unset, .unset, .unset] [(.int (Int32.ofNat (8 - nk))), (.int (Int32.ofNat (256 * nk)))])
        refine gw_st (fun _ kq => XS.iload X52.here hx rfl (hb hby at_182) rfl kq) ?_
        show GoW p e below s _ _ _ T52 (mkF m 184 #[.val (.int x0), .val (.int x1), .val (.int x2), .val (.int x3), .val (.int x4), .val (.int x5), .val (.int (Int32.ofNat nk)), .val (.int (Int32.ofNat ns)), .val (.int ((XT.ushr x1 (8 : Int32)) &&& (3 : Int32))), .val (.double (FP.ddiv (FP.i2d (Int32.ofNat nk)) (4620693217682128896 : UInt64))), .second, .val (.double (FP.ddiv (FP.i2d (Int32.ofNat ns)) (4643211215818981376 : UInt64))), .second, .val (.ref a32), .val (.int (Int32.ofNat nm)), .unset, .unset, .unset, .unset, .unset, .unset] [(.int (Int32.ofNat ns)), (.int (Int32.ofNat (8 - nk))), (.int (Int32.ofNat (256 * nk)))])
        refine gw_st (fun _ kq => XS.imul X52.here hx rfl (hb hby at_184) rfl kq) ?_
        show GoW p e below s _ _ _ T52 (mkF m 185 #[.val (.int x0), .val (.int x1), .val (.int x2), .val (.int x3), .val (.int x4), .val (.int x5), .val (.int (Int32.ofNat nk)), .val (.int (Int32.ofNat ns)), .val (.int ((XT.ushr x1 (8 : Int32)) &&& (3 : Int32))), .val (.double (FP.ddiv (FP.i2d (Int32.ofNat nk)) (4620693217682128896 : UInt64))), .second, .val (.double (FP.ddiv (FP.i2d (Int32.ofNat ns)) (4643211215818981376 : UInt64))), .second, .val (.ref a32), .val (.int (Int32.ofNat nm)), .unset, .unset, .unset, .unset, .unset, .unset] [(.int ((Int32.ofNat (8 - nk)) * (Int32.ofNat ns))), (.int (Int32.ofNat (256 * nk)))])
        rw [own_mu (a := 8 - nk) (b := ns) (by omega) (by omega) (by omega)]
        show GoW p e below s _ _ _ T52 (mkF m 185 #[.val (.int x0), .val (.int x1), .val (.int x2), .val (.int x3), .val (.int x4), .val (.int x5), .val (.int (Int32.ofNat nk)), .val (.int (Int32.ofNat ns)), .val (.int ((XT.ushr x1 (8 : Int32)) &&& (3 : Int32))), .val (.double (FP.ddiv (FP.i2d (Int32.ofNat nk)) (4620693217682128896 : UInt64))), .second, .val (.double (FP.ddiv (FP.i2d (Int32.ofNat ns)) (4643211215818981376 : UInt64))), .second, .val (.ref a32), .val (.int (Int32.ofNat nm)), .unset, .unset, .unset, .unset, .unset, .unset] [(.int (Int32.ofNat ((8 - nk) * ns))), (.int (Int32.ofNat (256 * nk)))])
        refine gw_st (fun _ kq => XS.iadd X52.here hx rfl (hb hby at_185) rfl kq) ?_
        show GoW p e below s _ _ _ T52 (mkF m 186 #[.val (.int x0), .val (.int x1), .val (.int x2), .val (.int x3), .val (.int x4), .val (.int x5), .val (.int (Int32.ofNat nk)), .val (.int (Int32.ofNat ns)), .val (.int ((XT.ushr x1 (8 : Int32)) &&& (3 : Int32))), .val (.double (FP.ddiv (FP.i2d (Int32.ofNat nk)) (4620693217682128896 : UInt64))), .second, .val (.double (FP.ddiv (FP.i2d (Int32.ofNat ns)) (4643211215818981376 : UInt64))), .second, .val (.ref a32), .val (.int (Int32.ofNat nm)), .unset, .unset, .unset, .unset, .unset, .unset] [(.int ((Int32.ofNat (256 * nk)) + (Int32.ofNat ((8 - nk) * ns))))])
        rw [own_ad (n := 256 * nk) (m := (8 - nk) * ns) rfl (by omega)]
        show GoW p e below s _ _ _ T52 (mkF m 186 #[.val (.int x0), .val (.int x1), .val (.int x2), .val (.int x3), .val (.int x4), .val (.int x5), .val (.int (Int32.ofNat nk)), .val (.int (Int32.ofNat ns)), .val (.int ((XT.ushr x1 (8 : Int32)) &&& (3 : Int32))), .val (.double (FP.ddiv (FP.i2d (Int32.ofNat nk)) (4620693217682128896 : UInt64))), .second, .val (.double (FP.ddiv (FP.i2d (Int32.ofNat ns)) (4643211215818981376 : UInt64))), .second, .val (.ref a32), .val (.int (Int32.ofNat nm)), .unset, .unset, .unset, .unset, .unset, .unset] [(.int (Int32.ofNat (256 * nk + (8 - nk) * ns)))])
        have dy53 : Dy (FP.i2d (Int32.ofNat (256 * nk + (8 - nk) * ns))) (256 * nk + (8 - nk) * ns) 0 := Dy.of_i2d (own_on32 (by omega))
        refine gw_st (fun _ kq => XS.i2dS X52.here hx rfl (hb hby at_186) rfl rfl kq) ?_
        show GoW p e below s _ _ _ T52 (mkF m 187 #[.val (.int x0), .val (.int x1), .val (.int x2), .val (.int x3), .val (.int x4), .val (.int x5), .val (.int (Int32.ofNat nk)), .val (.int (Int32.ofNat ns)), .val (.int ((XT.ushr x1 (8 : Int32)) &&& (3 : Int32))), .val (.double (FP.ddiv (FP.i2d (Int32.ofNat nk)) (4620693217682128896 : UInt64))), .second, .val (.double (FP.ddiv (FP.i2d (Int32.ofNat ns)) (4643211215818981376 : UInt64))), .second, .val (.ref a32), .val (.int (Int32.ofNat nm)), .unset, .unset, .unset, .unset, .unset, .unset] [(.double (FP.i2d (Int32.ofNat (256 * nk + (8 - nk) * ns))))])
        refine gw_st (X52.ldc2DoubleC hx hown (mvT hZ (hw _ (List.mem_of_getElem? (i := 26) rfl))) rfl (hb hby at_187)) ?_
        show GoW p e below s _ _ _ T52 (mkF m 190 #[.val (.int x0), .val (.int x1), .val (.int x2), .val (.int x3), .val (.int x4), .val (.int x5), .val (.int (Int32.ofNat nk)), .val (.int (Int32.ofNat ns)), .val (.int ((XT.ushr x1 (8 : Int32)) &&& (3 : Int32))), .val (.double (FP.ddiv (FP.i2d (Int32.ofNat nk)) (4620693217682128896 : UInt64))), .second, .val (.double (FP.ddiv (FP.i2d (Int32.ofNat ns)) (4643211215818981376 : UInt64))), .second, .val (.ref a32), .val (.int (Int32.ofNat nm)), .unset, .unset, .unset, .unset, .unset, .unset] [(.double (4656722014701092864 : UInt64)), (.double (FP.i2d (Int32.ofNat (256 * nk + (8 - nk) * ns))))])
        have dy54 : Dy (FP.ddiv (FP.i2d (Int32.ofNat (256 * nk + (8 - nk) * ns))) (4656722014701092864 : UInt64)) (256 * nk + (8 - nk) * ns) 11 := dy53.div own_2048 (by decide) (by omega) (by decide) (by omega)
        refine gw_st (fun _ kq => XS.ddivS X52.here hx rfl (hb hby at_190) rfl (own_nan64 dy54.fin) rfl kq) ?_
        show GoW p e below s _ _ _ T52 (mkF m 191 #[.val (.int x0), .val (.int x1), .val (.int x2), .val (.int x3), .val (.int x4), .val (.int x5), .val (.int (Int32.ofNat nk)), .val (.int (Int32.ofNat ns)), .val (.int ((XT.ushr x1 (8 : Int32)) &&& (3 : Int32))), .val (.double (FP.ddiv (FP.i2d (Int32.ofNat nk)) (4620693217682128896 : UInt64))), .second, .val (.double (FP.ddiv (FP.i2d (Int32.ofNat ns)) (4643211215818981376 : UInt64))), .second, .val (.ref a32), .val (.int (Int32.ofNat nm)), .unset, .unset, .unset, .unset, .unset, .unset] [(.double (FP.ddiv (FP.i2d (Int32.ofNat (256 * nk + (8 - nk) * ns))) (4656722014701092864 : UInt64)))])
        refine gw_st (fun _ kq => XS.dstore X52.here hx rfl (hb hby at_191) rfl (l' := #[.val (.int x0), .val (.int x1), .val (.int x2), .val (.int x3), .val (.int x4), .val (.int x5), .val (.int (Int32.ofNat nk)), .val (.int (Int32.ofNat ns)), .val (.int ((XT.ushr x1 (8 : Int32)) &&& (3 : Int32))), .val (.double (FP.ddiv (FP.i2d (Int32.ofNat nk)) (4620693217682128896 : UInt64))), .second, .val (.double (FP.ddiv (FP.i2d (Int32.ofNat ns)) (4643211215818981376 : UInt64))), .second, .val (.ref a32), .val (.int (Int32.ofNat nm)), .val (.double (FP.ddiv (FP.i2d (Int32.ofNat (256 * nk + (8 - nk) * ns))) (4656722014701092864 : UInt64))), .second, .unset, .unset, .unset, .unset]) rfl kq) ?_
        show GoW p e below s _ _ _ T52 (mkF m 193 #[.val (.int x0), .val (.int x1), .val (.int x2), .val (.int x3), .val (.int x4), .val (.int x5), .val (.int (Int32.ofNat nk)), .val (.int (Int32.ofNat ns)), .val (.int ((XT.ushr x1 (8 : Int32)) &&& (3 : Int32))), .val (.double (FP.ddiv (FP.i2d (Int32.ofNat nk)) (4620693217682128896 : UInt64))), .second, .val (.double (FP.ddiv (FP.i2d (Int32.ofNat ns)) (4643211215818981376 : UInt64))), .second, .val (.ref a32), .val (.int (Int32.ofNat nm)), .val (.double (FP.ddiv (FP.i2d (Int32.ofNat (256 * nk + (8 - nk) * ns))) (4656722014701092864 : UInt64))), .second, .unset, .unset, .unset, .unset] [])
        refine gw_st (fun _ kq => XS.aload X52.here hx rfl (hb hby at_193) rfl rfl kq) ?_
        show GoW p e below s _ _ _ T52 (mkF m 195 #[.val (.int x0), .val (.int x1), .val (.int x2), .val (.int x3), .val (.int x4), .val (.int x5), .val (.int (Int32.ofNat nk)), .val (.int (Int32.ofNat ns)), .val (.int ((XT.ushr x1 (8 : Int32)) &&& (3 : Int32))), .val (.double (FP.ddiv (FP.i2d (Int32.ofNat nk)) (4620693217682128896 : UInt64))), .second, .val (.double (FP.ddiv (FP.i2d (Int32.ofNat ns)) (4643211215818981376 : UInt64))), .second, .val (.ref a32), .val (.int (Int32.ofNat nm)), .val (.double (FP.ddiv (FP.i2d (Int32.ofNat (256 * nk + (8 - nk) * ns))) (4656722014701092864 : UInt64))), .second, .unset, .unset, .unset, .unset] [(.ref a32)])
        refine gw_st (fun _ kq => XS.iload X52.here hx rfl (hb hby at_195) rfl kq) ?_
        show GoW p e below s _ _ _ T52 (mkF m 197 #[.val (.int x0), .val (.int x1), .val (.int x2), .val (.int x3), .val (.int x4), .val (.int x5), .val (.int (Int32.ofNat nk)), .val (.int (Int32.ofNat ns)), .val (.int ((XT.ushr x1 (8 : Int32)) &&& (3 : Int32))), .val (.double (FP.ddiv (FP.i2d (Int32.ofNat nk)) (4620693217682128896 : UInt64))), .second, .val (.double (FP.ddiv (FP.i2d (Int32.ofNat ns)) (4643211215818981376 : UInt64))), .second, .val (.ref a32), .val (.int (Int32.ofNat nm)), .val (.double (FP.ddiv (FP.i2d (Int32.ofNat (256 * nk + (8 - nk) * ns))) (4656722014701092864 : UInt64))), .second, .unset, .unset, .unset, .unset] [(.int (Int32.ofNat nm)), (.ref a32)])
        refine gw_st (fun _ kq => XS.iload X52.here hx rfl (hb hby at_197) rfl kq) ?_
        show GoW p e below s _ _ _ T52 (mkF m 199 #[.val (.int x0), .val (.int x1), .val (.int x2), .val (.int x3), .val (.int x4), .val (.int x5), .val (.int (Int32.ofNat nk)), .val (.int (Int32.ofNat ns)), .val (.int ((XT.ushr x1 (8 : Int32)) &&& (3 : Int32))), .val (.double (FP.ddiv (FP.i2d (Int32.ofNat nk)) (4620693217682128896 : UInt64))), .second, .val (.double (FP.ddiv (FP.i2d (Int32.ofNat ns)) (4643211215818981376 : UInt64))), .second, .val (.ref a32), .val (.int (Int32.ofNat nm)), .val (.double (FP.ddiv (FP.i2d (Int32.ofNat (256 * nk + (8 - nk) * ns))) (4656722014701092864 : UInt64))), .second, .unset, .unset, .unset, .unset] [(.int (Int32.ofNat nm)), (.int (Int32.ofNat nm)), (.ref a32)])
        refine gw_st (fun _ kq => XS.iload X52.here hx rfl (hb hby at_199) rfl kq) ?_
        show GoW p e below s _ _ _ T52 (mkF m 201 #[.val (.int x0), .val (.int x1), .val (.int x2), .val (.int x3), .val (.int x4), .val (.int x5), .val (.int (Int32.ofNat nk)), .val (.int (Int32.ofNat ns)), .val (.int ((XT.ushr x1 (8 : Int32)) &&& (3 : Int32))), .val (.double (FP.ddiv (FP.i2d (Int32.ofNat nk)) (4620693217682128896 : UInt64))), .second, .val (.double (FP.ddiv (FP.i2d (Int32.ofNat ns)) (4643211215818981376 : UInt64))), .second, .val (.ref a32), .val (.int (Int32.ofNat nm)), .val (.double (FP.ddiv (FP.i2d (Int32.ofNat (256 * nk + (8 - nk) * ns))) (4656722014701092864 : UInt64))), .second, .unset, .unset, .unset, .unset] [(.int x4), (.int (Int32.ofNat nm)), (.int (Int32.ofNat nm)), (.ref a32)])
        refine gw_st (fun _ kq => XS.dload X52.here hx rfl (hb hby at_201) rfl kq) ?_
        show GoW p e below s _ _ _ T52 (mkF m 203 #[.val (.int x0), .val (.int x1), .val (.int x2), .val (.int x3), .val (.int x4), .val (.int x5), .val (.int (Int32.ofNat nk)), .val (.int (Int32.ofNat ns)), .val (.int ((XT.ushr x1 (8 : Int32)) &&& (3 : Int32))), .val (.double (FP.ddiv (FP.i2d (Int32.ofNat nk)) (4620693217682128896 : UInt64))), .second, .val (.double (FP.ddiv (FP.i2d (Int32.ofNat ns)) (4643211215818981376 : UInt64))), .second, .val (.ref a32), .val (.int (Int32.ofNat nm)), .val (.double (FP.ddiv (FP.i2d (Int32.ofNat (256 * nk + (8 - nk) * ns))) (4656722014701092864 : UInt64))), .second, .unset, .unset, .unset, .unset] [(.double (FP.ddiv (FP.i2d (Int32.ofNat ns)) (4643211215818981376 : UInt64))), (.int x4), (.int (Int32.ofNat nm)), (.int (Int32.ofNat nm)), (.ref a32)])
        refine gw_st (fun _ kq => XS.iload X52.here hx rfl (hb hby at_203) rfl kq) ?_
        show GoW p e below s _ _ _ T52 (mkF m 205 #[.val (.int x0), .val (.int x1), .val (.int x2), .val (.int x3), .val (.int x4), .val (.int x5), .val (.int (Int32.ofNat nk)), .val (.int (Int32.ofNat ns)), .val (.int ((XT.ushr x1 (8 : Int32)) &&& (3 : Int32))), .val (.double (FP.ddiv (FP.i2d (Int32.ofNat nk)) (4620693217682128896 : UInt64))), .second, .val (.double (FP.ddiv (FP.i2d (Int32.ofNat ns)) (4643211215818981376 : UInt64))), .second, .val (.ref a32), .val (.int (Int32.ofNat nm)), .val (.double (FP.ddiv (FP.i2d (Int32.ofNat (256 * nk + (8 - nk) * ns))) (4656722014701092864 : UInt64))), .second, .unset, .unset, .unset, .unset] [(.int x5), (.double (FP.ddiv (FP.i2d (Int32.ofNat ns)) (4643211215818981376 : UInt64))), (.int x4), (.int (Int32.ofNat nm)), (.int (Int32.ofNat nm)), (.ref a32)])
        have z56 : n0 ≤ T34.heap.size := Nat.le_trans z35 K34.1
        refine gw_callV X52 hx hZ hml hown (hw _ (List.mem_of_getElem? (i := 27) rfl)) (hw _ (List.mem_of_getElem? (i := 28) rfl)) (notFace_of_selects (args := #[]) (mvT hZ (hw _ (List.mem_of_getElem? (i := 30) rfl)))) (hw _ (List.mem_of_getElem? (i := 30) rfl)) (hw _ (List.mem_of_getElem? (i := 29) rfl)) (hw _ (List.mem_of_getElem? (i := 31) rfl)) (hw _ (List.mem_of_getElem? (i := 5) rfl)) e52 f34_0 (argsL := [(.int (Int32.ofNat nm)), (.int (Int32.ofNat nm)), (.int x4), (.double (FP.ddiv (FP.i2d (Int32.ofNat ns)) (4643211215818981376 : UInt64))), (.int x5)]) (rest := []) (W := 0) (met_pn l Z a0 hw a32 (FP.ddiv (FP.i2d (Int32.ofNat nk)) (4620693217682128896 : UInt64)) (FP.ddiv (FP.i2d (Int32.ofNat ns)) (4643211215818981376 : UInt64)) x4 x5 nk ns nm nm 1 0 T34.heap n0 z56 dy29 dy31 (by first | assumption | decide | omega) (by first | assumption | decide | omega) (by first | assumption | decide | omega) f34_1 (by first | assumption | decide | omega) (by first | assumption | decide | omega) (by omega) (by first | assumption | decide | omega) (by first | assumption | decide | omega) (by first | assumption | decide | omega)) (hb hby at_205) rfl rfl rfl (lenOf pd2 rfl) (by show 2 * 0 + _ ≤ _; exact Nat.le_of_eq rfl) (by decide) (by decide) (by decide) (by decide) (by decide) ?_
        intro T55 v55 L55 X55 q55
        obtain ⟨rq_55, rfl, M55, K55, p55_0⟩ := q55
        have N55 := Fr.app N52 M55
        show GoW p e below s _ _ _ T55 (mkF m 208 #[.val (.int x0), .val (.int x1), .val (.int x2), .val (.int x3), .val (.int x4), .val (.int x5), .val (.int (Int32.ofNat nk)), .val (.int (Int32.ofNat ns)), .val (.int ((XT.ushr x1 (8 : Int32)) &&& (3 : Int32))), .val (.double (FP.ddiv (FP.i2d (Int32.ofNat nk)) (4620693217682128896 : UInt64))), .second, .val (.double (FP.ddiv (FP.i2d (Int32.ofNat ns)) (4643211215818981376 : UInt64))), .second, .val (.ref a32), .val (.int (Int32.ofNat nm)), .val (.double (FP.ddiv (FP.i2d (Int32.ofNat (256 * nk + (8 - nk) * ns))) (4656722014701092864 : UInt64))), .second, .unset, .unset, .unset, .unset] [(.double rq_55)])
        refine gw_st (fun _ kq => XS.dload X55.here hx rfl (hb hby at_208) rfl kq) ?_
        show GoW p e below s _ _ _ T55 (mkF m 210 #[.val (.int x0), .val (.int x1), .val (.int x2), .val (.int x3), .val (.int x4), .val (.int x5), .val (.int (Int32.ofNat nk)), .val (.int (Int32.ofNat ns)), .val (.int ((XT.ushr x1 (8 : Int32)) &&& (3 : Int32))), .val (.double (FP.ddiv (FP.i2d (Int32.ofNat nk)) (4620693217682128896 : UInt64))), .second, .val (.double (FP.ddiv (FP.i2d (Int32.ofNat ns)) (4643211215818981376 : UInt64))), .second, .val (.ref a32), .val (.int (Int32.ofNat nm)), .val (.double (FP.ddiv (FP.i2d (Int32.ofNat (256 * nk + (8 - nk) * ns))) (4656722014701092864 : UInt64))), .second, .unset, .unset, .unset, .unset] [(.double (FP.ddiv (FP.i2d (Int32.ofNat (256 * nk + (8 - nk) * ns))) (4656722014701092864 : UInt64))), (.double rq_55)])
        refine gw_st (fun _ kq => XS.dcmpS X55.here hx rfl (hb hby at_210) rfl rfl kq) ?_
        show GoW p e below s _ _ _ T55 (mkF m 211 #[.val (.int x0), .val (.int x1), .val (.int x2), .val (.int x3), .val (.int x4), .val (.int x5), .val (.int (Int32.ofNat nk)), .val (.int (Int32.ofNat ns)), .val (.int ((XT.ushr x1 (8 : Int32)) &&& (3 : Int32))), .val (.double (FP.ddiv (FP.i2d (Int32.ofNat nk)) (4620693217682128896 : UInt64))), .second, .val (.double (FP.ddiv (FP.i2d (Int32.ofNat ns)) (4643211215818981376 : UInt64))), .second, .val (.ref a32), .val (.int (Int32.ofNat nm)), .val (.double (FP.ddiv (FP.i2d (Int32.ofNat (256 * nk + (8 - nk) * ns))) (4656722014701092864 : UInt64))), .second, .unset, .unset, .unset, .unset] [(.int (cmpValue (FP.dcmp rq_55 (FP.ddiv (FP.i2d (Int32.ofNat (256 * nk + (8 - nk) * ns))) (4656722014701092864 : UInt64))) .l))])
        have hb57 : (cmpValue (FP.dcmp rq_55 (FP.ddiv (FP.i2d (Int32.ofNat (256 * nk + (8 - nk) * ns))) (4656722014701092864 : UInt64))) .l) = (0 : Int32) := by rw [show FP.dcmp rq_55 (FP.ddiv (FP.i2d (Int32.ofNat (256 * nk + (8 - nk) * ns))) (4656722014701092864 : UInt64)) = some .eq from own_cmp_eq p55_0 dy54 (by omega)]; rfl
        refine gw_st (fun _ kq => XS.ifNo X55.here hx rfl (hb hby at_211) rfl (XT.i0_ne_f hb57) kq) ?_
        show GoW p e below s _ _ _ T55 (mkF m 214 #[.val (.int x0), .val (.int x1), .val (.int x2), .val (.int x3), .val (.int x4), .val (.int x5), .val (.int (Int32.ofNat nk)), .val (.int (Int32.ofNat ns)), .val (.int ((XT.ushr x1 (8 : Int32)) &&& (3 : Int32))), .val (.double (FP.ddiv (FP.i2d (Int32.ofNat nk)) (4620693217682128896 : UInt64))), .second, .val (.double (FP.ddiv (FP.i2d (Int32.ofNat ns)) (4643211215818981376 : UInt64))), .second, .val (.ref a32), .val (.int (Int32.ofNat nm)), .val (.double (FP.ddiv (FP.i2d (Int32.ofNat (256 * nk + (8 - nk) * ns))) (4656722014701092864 : UInt64))), .second, .unset, .unset, .unset, .unset] [])
        refine gw_st (fun _ kq => XT.iconstV X55.here hx rfl (1 : Int32) (hb hby at_214) (by decide) kq) ?_
        show GoW p e below s _ _ _ T55 (mkF m 215 #[.val (.int x0), .val (.int x1), .val (.int x2), .val (.int x3), .val (.int x4), .val (.int x5), .val (.int (Int32.ofNat nk)), .val (.int (Int32.ofNat ns)), .val (.int ((XT.ushr x1 (8 : Int32)) &&& (3 : Int32))), .val (.double (FP.ddiv (FP.i2d (Int32.ofNat nk)) (4620693217682128896 : UInt64))), .second, .val (.double (FP.ddiv (FP.i2d (Int32.ofNat ns)) (4643211215818981376 : UInt64))), .second, .val (.ref a32), .val (.int (Int32.ofNat nm)), .val (.double (FP.ddiv (FP.i2d (Int32.ofNat (256 * nk + (8 - nk) * ns))) (4656722014701092864 : UInt64))), .second, .unset, .unset, .unset, .unset] [(.int (1 : Int32))])
        refine gw_st (fun _ kq => XS.goto X55.here hx rfl (pc0 := 215) (pc' := 219) rfl (hb hby at_215) (by decide) (by decide) kq) ?_
        show GoW p e below s _ _ _ T55 (mkF m 219 #[.val (.int x0), .val (.int x1), .val (.int x2), .val (.int x3), .val (.int x4), .val (.int x5), .val (.int (Int32.ofNat nk)), .val (.int (Int32.ofNat ns)), .val (.int ((XT.ushr x1 (8 : Int32)) &&& (3 : Int32))), .val (.double (FP.ddiv (FP.i2d (Int32.ofNat nk)) (4620693217682128896 : UInt64))), .second, .val (.double (FP.ddiv (FP.i2d (Int32.ofNat ns)) (4643211215818981376 : UInt64))), .second, .val (.ref a32), .val (.int (Int32.ofNat nm)), .val (.double (FP.ddiv (FP.i2d (Int32.ofNat (256 * nk + (8 - nk) * ns))) (4656722014701092864 : UInt64))), .second, .unset, .unset, .unset, .unset] [(.int (1 : Int32))])
        exact gw_retB (w := (1 : Int32)) X55 hx hlk hret (hb hby at_219) (by decide) (by decide) (by decide) ⟨rfl, N55⟩
      · refine gw_st (fun _ kq => XS.icmpYes X34.here hx rfl (pc0 := 158) (pc' := 220) rfl (hb hby at_158) rfl (XT.ii_ne_t hc51) (by decide) (by decide) kq) ?_
        show GoW p e below s _ _ _ T34 (mkF m 220 #[.val (.int x0), .val (.int x1), .val (.int x2), .val (.int x3), .val (.int x4), .val (.int x5), .val (.int (Int32.ofNat nk)), .val (.int (Int32.ofNat ns)), .val (.int ((XT.ushr x1 (8 : Int32)) &&& (3 : Int32))), .val (.double (FP.ddiv (FP.i2d (Int32.ofNat nk)) (4620693217682128896 : UInt64))), .second, .val (.double (FP.ddiv (FP.i2d (Int32.ofNat ns)) (4643211215818981376 : UInt64))), .second, .val (.ref a32), .unset, .unset, .unset, .unset, .unset, .unset, .unset] [])
        refine gw_st (fun _ kq => XS.iloadN X34.here hx rfl (hb hby at_220) rfl kq) ?_
        show GoW p e below s _ _ _ T34 (mkF m 221 #[.val (.int x0), .val (.int x1), .val (.int x2), .val (.int x3), .val (.int x4), .val (.int x5), .val (.int (Int32.ofNat nk)), .val (.int (Int32.ofNat ns)), .val (.int ((XT.ushr x1 (8 : Int32)) &&& (3 : Int32))), .val (.double (FP.ddiv (FP.i2d (Int32.ofNat nk)) (4620693217682128896 : UInt64))), .second, .val (.double (FP.ddiv (FP.i2d (Int32.ofNat ns)) (4643211215818981376 : UInt64))), .second, .val (.ref a32), .unset, .unset, .unset, .unset, .unset, .unset, .unset] [(.int x3)])
        refine gw_st (fun _ kq => Jvm.Stand.ldcI X34 hx hown (mvT hZ (hw _ (List.mem_of_getElem? (i := 0) rfl))) rfl (hb hby at_221) kq) ?_
        show GoW p e below s _ _ _ T34 (mkF m 223 #[.val (.int x0), .val (.int x1), .val (.int x2), .val (.int x3), .val (.int x4), .val (.int x5), .val (.int (Int32.ofNat nk)), .val (.int (Int32.ofNat ns)), .val (.int ((XT.ushr x1 (8 : Int32)) &&& (3 : Int32))), .val (.double (FP.ddiv (FP.i2d (Int32.ofNat nk)) (4620693217682128896 : UInt64))), .second, .val (.double (FP.ddiv (FP.i2d (Int32.ofNat ns)) (4643211215818981376 : UInt64))), .second, .val (.ref a32), .unset, .unset, .unset, .unset, .unset, .unset, .unset] [(.int (2147483647 : Int32)), (.int x3)])
        refine gw_st (fun _ kq => XS.iand X34.here hx rfl (hb hby at_223) rfl kq) ?_
        show GoW p e below s _ _ _ T34 (mkF m 224 #[.val (.int x0), .val (.int x1), .val (.int x2), .val (.int x3), .val (.int x4), .val (.int x5), .val (.int (Int32.ofNat nk)), .val (.int (Int32.ofNat ns)), .val (.int ((XT.ushr x1 (8 : Int32)) &&& (3 : Int32))), .val (.double (FP.ddiv (FP.i2d (Int32.ofNat nk)) (4620693217682128896 : UInt64))), .second, .val (.double (FP.ddiv (FP.i2d (Int32.ofNat ns)) (4643211215818981376 : UInt64))), .second, .val (.ref a32), .unset, .unset, .unset, .unset, .unset, .unset, .unset] [(.int (x3 &&& (2147483647 : Int32)))])
        refine gw_st (fun _ kq => XT.bipushV X34.here hx rfl (31 : Int32) (hb hby at_224) (by decide) kq) ?_
        show GoW p e below s _ _ _ T34 (mkF m 226 #[.val (.int x0), .val (.int x1), .val (.int x2), .val (.int x3), .val (.int x4), .val (.int x5), .val (.int (Int32.ofNat nk)), .val (.int (Int32.ofNat ns)), .val (.int ((XT.ushr x1 (8 : Int32)) &&& (3 : Int32))), .val (.double (FP.ddiv (FP.i2d (Int32.ofNat nk)) (4620693217682128896 : UInt64))), .second, .val (.double (FP.ddiv (FP.i2d (Int32.ofNat ns)) (4643211215818981376 : UInt64))), .second, .val (.ref a32), .unset, .unset, .unset, .unset, .unset, .unset, .unset] [(.int (31 : Int32)), (.int (x3 &&& (2147483647 : Int32)))])
        refine gw_st (fun _ kq => iremM X34 hx rfl (hb hby at_226) rfl (by decide) kq) ?_
        show GoW p e below s _ _ _ T34 (mkF m 227 #[.val (.int x0), .val (.int x1), .val (.int x2), .val (.int x3), .val (.int x4), .val (.int x5), .val (.int (Int32.ofNat nk)), .val (.int (Int32.ofNat ns)), .val (.int ((XT.ushr x1 (8 : Int32)) &&& (3 : Int32))), .val (.double (FP.ddiv (FP.i2d (Int32.ofNat nk)) (4620693217682128896 : UInt64))), .second, .val (.double (FP.ddiv (FP.i2d (Int32.ofNat ns)) (4643211215818981376 : UInt64))), .second, .val (.ref a32), .unset, .unset, .unset, .unset, .unset, .unset, .unset] [(.int ((x3 &&& (2147483647 : Int32)) % (31 : Int32)))])
        refine gw_st (fun _ kq => XS.istore X34.here hx rfl (hb hby at_227) rfl (l' := #[.val (.int x0), .val (.int x1), .val (.int x2), .val (.int x3), .val (.int x4), .val (.int x5), .val (.int (Int32.ofNat nk)), .val (.int (Int32.ofNat ns)), .val (.int ((XT.ushr x1 (8 : Int32)) &&& (3 : Int32))), .val (.double (FP.ddiv (FP.i2d (Int32.ofNat nk)) (4620693217682128896 : UInt64))), .second, .val (.double (FP.ddiv (FP.i2d (Int32.ofNat ns)) (4643211215818981376 : UInt64))), .second, .val (.ref a32), .val (.int ((x3 &&& (2147483647 : Int32)) % (31 : Int32))), .unset, .unset, .unset, .unset, .unset, .unset]) rfl kq) ?_
        show GoW p e below s _ _ _ T34 (mkF m 229 #[.val (.int x0), .val (.int x1), .val (.int x2), .val (.int x3), .val (.int x4), .val (.int x5), .val (.int (Int32.ofNat nk)), .val (.int (Int32.ofNat ns)), .val (.int ((XT.ushr x1 (8 : Int32)) &&& (3 : Int32))), .val (.double (FP.ddiv (FP.i2d (Int32.ofNat nk)) (4620693217682128896 : UInt64))), .second, .val (.double (FP.ddiv (FP.i2d (Int32.ofNat ns)) (4643211215818981376 : UInt64))), .second, .val (.ref a32), .val (.int ((x3 &&& (2147483647 : Int32)) % (31 : Int32))), .unset, .unset, .unset, .unset, .unset, .unset] [])
        obtain ⟨ne, hne, ee⟩ := own_rem x3 (31 : Int32) 31 (by decide) (by decide) (by decide)
        rw [ee]
        have hp2 : 2 ^ ne ≤ 2 ^ 30 := Nat.pow_le_pow_right (by decide) (by omega)
        have hp0 := Nat.two_pow_pos ne
        show GoW p e below s _ _ _ T34 (mkF m 229 #[.val (.int x0), .val (.int x1), .val (.int x2), .val (.int x3), .val (.int x4), .val (.int x5), .val (.int (Int32.ofNat nk)), .val (.int (Int32.ofNat ns)), .val (.int ((XT.ushr x1 (8 : Int32)) &&& (3 : Int32))), .val (.double (FP.ddiv (FP.i2d (Int32.ofNat nk)) (4620693217682128896 : UInt64))), .second, .val (.double (FP.ddiv (FP.i2d (Int32.ofNat ns)) (4643211215818981376 : UInt64))), .second, .val (.ref a32), .val (.int (Int32.ofNat ne)), .unset, .unset, .unset, .unset, .unset, .unset] [])
        refine gw_st (fun _ kq => XT.iconstV X34.here hx rfl (1 : Int32) (hb hby at_229) (by decide) kq) ?_
        show GoW p e below s _ _ _ T34 (mkF m 230 #[.val (.int x0), .val (.int x1), .val (.int x2), .val (.int x3), .val (.int x4), .val (.int x5), .val (.int (Int32.ofNat nk)), .val (.int (Int32.ofNat ns)), .val (.int ((XT.ushr x1 (8 : Int32)) &&& (3 : Int32))), .val (.double (FP.ddiv (FP.i2d (Int32.ofNat nk)) (4620693217682128896 : UInt64))), .second, .val (.double (FP.ddiv (FP.i2d (Int32.ofNat ns)) (4643211215818981376 : UInt64))), .second, .val (.ref a32), .val (.int (Int32.ofNat ne)), .unset, .unset, .unset, .unset, .unset, .unset] [(.int (1 : Int32))])
        refine gw_st (fun _ kq => XS.iload X34.here hx rfl (hb hby at_230) rfl kq) ?_
        show GoW p e below s _ _ _ T34 (mkF m 232 #[.val (.int x0), .val (.int x1), .val (.int x2), .val (.int x3), .val (.int x4), .val (.int x5), .val (.int (Int32.ofNat nk)), .val (.int (Int32.ofNat ns)), .val (.int ((XT.ushr x1 (8 : Int32)) &&& (3 : Int32))), .val (.double (FP.ddiv (FP.i2d (Int32.ofNat nk)) (4620693217682128896 : UInt64))), .second, .val (.double (FP.ddiv (FP.i2d (Int32.ofNat ns)) (4643211215818981376 : UInt64))), .second, .val (.ref a32), .val (.int (Int32.ofNat ne)), .unset, .unset, .unset, .unset, .unset, .unset] [(.int (Int32.ofNat ne)), (.int (1 : Int32))])
        refine gw_st (fun _ kq => XT.ishl X34.here hx rfl (hb hby at_232) rfl kq) ?_
        show GoW p e below s _ _ _ T34 (mkF m 233 #[.val (.int x0), .val (.int x1), .val (.int x2), .val (.int x3), .val (.int x4), .val (.int x5), .val (.int (Int32.ofNat nk)), .val (.int (Int32.ofNat ns)), .val (.int ((XT.ushr x1 (8 : Int32)) &&& (3 : Int32))), .val (.double (FP.ddiv (FP.i2d (Int32.ofNat nk)) (4620693217682128896 : UInt64))), .second, .val (.double (FP.ddiv (FP.i2d (Int32.ofNat ns)) (4643211215818981376 : UInt64))), .second, .val (.ref a32), .val (.int (Int32.ofNat ne)), .unset, .unset, .unset, .unset, .unset, .unset] [(.int ((1 : Int32) <<< ((Int32.ofNat ne) &&& 31)))])
        refine gw_st (fun _ kq => XS.istore X34.here hx rfl (hb hby at_233) rfl (l' := #[.val (.int x0), .val (.int x1), .val (.int x2), .val (.int x3), .val (.int x4), .val (.int x5), .val (.int (Int32.ofNat nk)), .val (.int (Int32.ofNat ns)), .val (.int ((XT.ushr x1 (8 : Int32)) &&& (3 : Int32))), .val (.double (FP.ddiv (FP.i2d (Int32.ofNat nk)) (4620693217682128896 : UInt64))), .second, .val (.double (FP.ddiv (FP.i2d (Int32.ofNat ns)) (4643211215818981376 : UInt64))), .second, .val (.ref a32), .val (.int (Int32.ofNat ne)), .val (.int ((1 : Int32) <<< ((Int32.ofNat ne) &&& 31))), .unset, .unset, .unset, .unset, .unset]) rfl kq) ?_
        show GoW p e below s _ _ _ T34 (mkF m 235 #[.val (.int x0), .val (.int x1), .val (.int x2), .val (.int x3), .val (.int x4), .val (.int x5), .val (.int (Int32.ofNat nk)), .val (.int (Int32.ofNat ns)), .val (.int ((XT.ushr x1 (8 : Int32)) &&& (3 : Int32))), .val (.double (FP.ddiv (FP.i2d (Int32.ofNat nk)) (4620693217682128896 : UInt64))), .second, .val (.double (FP.ddiv (FP.i2d (Int32.ofNat ns)) (4643211215818981376 : UInt64))), .second, .val (.ref a32), .val (.int (Int32.ofNat ne)), .val (.int ((1 : Int32) <<< ((Int32.ofNat ne) &&& 31))), .unset, .unset, .unset, .unset, .unset] [])
        rw [own_sh ne (by omega)]
        show GoW p e below s _ _ _ T34 (mkF m 235 #[.val (.int x0), .val (.int x1), .val (.int x2), .val (.int x3), .val (.int x4), .val (.int x5), .val (.int (Int32.ofNat nk)), .val (.int (Int32.ofNat ns)), .val (.int ((XT.ushr x1 (8 : Int32)) &&& (3 : Int32))), .val (.double (FP.ddiv (FP.i2d (Int32.ofNat nk)) (4620693217682128896 : UInt64))), .second, .val (.double (FP.ddiv (FP.i2d (Int32.ofNat ns)) (4643211215818981376 : UInt64))), .second, .val (.ref a32), .val (.int (Int32.ofNat ne)), .val (.int (Int32.ofNat (2 ^ ne))), .unset, .unset, .unset, .unset, .unset] [])
        refine gw_st (fun _ kq => XS.iloadN X34.here hx rfl (hb hby at_235) rfl kq) ?_
        show GoW p e below s _ _ _ T34 (mkF m 236 #[.val (.int x0), .val (.int x1), .val (.int x2), .val (.int x3), .val (.int x4), .val (.int x5), .val (.int (Int32.ofNat nk)), .val (.int (Int32.ofNat ns)), .val (.int ((XT.ushr x1 (8 : Int32)) &&& (3 : Int32))), .val (.double (FP.ddiv (FP.i2d (Int32.ofNat nk)) (4620693217682128896 : UInt64))), .second, .val (.double (FP.ddiv (FP.i2d (Int32.ofNat ns)) (4643211215818981376 : UInt64))), .second, .val (.ref a32), .val (.int (Int32.ofNat ne)), .val (.int (Int32.ofNat (2 ^ ne))), .unset, .unset, .unset, .unset, .unset] [(.int x2)])
        refine gw_st (fun _ kq => Jvm.Stand.ldcI X34 hx hown (mvT hZ (hw _ (List.mem_of_getElem? (i := 0) rfl))) rfl (hb hby at_236) kq) ?_
        show GoW p e below s _ _ _ T34 (mkF m 238 #[.val (.int x0), .val (.int x1), .val (.int x2), .val (.int x3), .val (.int x4), .val (.int x5), .val (.int (Int32.ofNat nk)), .val (.int (Int32.ofNat ns)), .val (.int ((XT.ushr x1 (8 : Int32)) &&& (3 : Int32))), .val (.double (FP.ddiv (FP.i2d (Int32.ofNat nk)) (4620693217682128896 : UInt64))), .second, .val (.double (FP.ddiv (FP.i2d (Int32.ofNat ns)) (4643211215818981376 : UInt64))), .second, .val (.ref a32), .val (.int (Int32.ofNat ne)), .val (.int (Int32.ofNat (2 ^ ne))), .unset, .unset, .unset, .unset, .unset] [(.int (2147483647 : Int32)), (.int x2)])
        refine gw_st (fun _ kq => XS.iand X34.here hx rfl (hb hby at_238) rfl kq) ?_
        show GoW p e below s _ _ _ T34 (mkF m 239 #[.val (.int x0), .val (.int x1), .val (.int x2), .val (.int x3), .val (.int x4), .val (.int x5), .val (.int (Int32.ofNat nk)), .val (.int (Int32.ofNat ns)), .val (.int ((XT.ushr x1 (8 : Int32)) &&& (3 : Int32))), .val (.double (FP.ddiv (FP.i2d (Int32.ofNat nk)) (4620693217682128896 : UInt64))), .second, .val (.double (FP.ddiv (FP.i2d (Int32.ofNat ns)) (4643211215818981376 : UInt64))), .second, .val (.ref a32), .val (.int (Int32.ofNat ne)), .val (.int (Int32.ofNat (2 ^ ne))), .unset, .unset, .unset, .unset, .unset] [(.int (x2 &&& (2147483647 : Int32)))])
        refine gw_st (fun _ kq => XS.iload X34.here hx rfl (hb hby at_239) rfl kq) ?_
        show GoW p e below s _ _ _ T34 (mkF m 241 #[.val (.int x0), .val (.int x1), .val (.int x2), .val (.int x3), .val (.int x4), .val (.int x5), .val (.int (Int32.ofNat nk)), .val (.int (Int32.ofNat ns)), .val (.int ((XT.ushr x1 (8 : Int32)) &&& (3 : Int32))), .val (.double (FP.ddiv (FP.i2d (Int32.ofNat nk)) (4620693217682128896 : UInt64))), .second, .val (.double (FP.ddiv (FP.i2d (Int32.ofNat ns)) (4643211215818981376 : UInt64))), .second, .val (.ref a32), .val (.int (Int32.ofNat ne)), .val (.int (Int32.ofNat (2 ^ ne))), .unset, .unset, .unset, .unset, .unset] [(.int (Int32.ofNat (2 ^ ne))), (.int (x2 &&& (2147483647 : Int32)))])
        refine gw_st (fun _ kq => XT.iconstV X34.here hx rfl (1 : Int32) (hb hby at_241) (by decide) kq) ?_
        show GoW p e below s _ _ _ T34 (mkF m 242 #[.val (.int x0), .val (.int x1), .val (.int x2), .val (.int x3), .val (.int x4), .val (.int x5), .val (.int (Int32.ofNat nk)), .val (.int (Int32.ofNat ns)), .val (.int ((XT.ushr x1 (8 : Int32)) &&& (3 : Int32))), .val (.double (FP.ddiv (FP.i2d (Int32.ofNat nk)) (4620693217682128896 : UInt64))), .second, .val (.double (FP.ddiv (FP.i2d (Int32.ofNat ns)) (4643211215818981376 : UInt64))), .second, .val (.ref a32), .val (.int (Int32.ofNat ne)), .val (.int (Int32.ofNat (2 ^ ne))), .unset, .unset, .unset, .unset, .unset] [(.int (1 : Int32)), (.int (Int32.ofNat (2 ^ ne))), (.int (x2 &&& (2147483647 : Int32)))])
        refine gw_st (fun _ kq => XS.iadd X34.here hx rfl (hb hby at_242) rfl kq) ?_
        show GoW p e below s _ _ _ T34 (mkF m 243 #[.val (.int x0), .val (.int x1), .val (.int x2), .val (.int x3), .val (.int x4), .val (.int x5), .val (.int (Int32.ofNat nk)), .val (.int (Int32.ofNat ns)), .val (.int ((XT.ushr x1 (8 : Int32)) &&& (3 : Int32))), .val (.double (FP.ddiv (FP.i2d (Int32.ofNat nk)) (4620693217682128896 : UInt64))), .second, .val (.double (FP.ddiv (FP.i2d (Int32.ofNat ns)) (4643211215818981376 : UInt64))), .second, .val (.ref a32), .val (.int (Int32.ofNat ne)), .val (.int (Int32.ofNat (2 ^ ne))), .unset, .unset, .unset, .unset, .unset] [(.int ((Int32.ofNat (2 ^ ne)) + (1 : Int32))), (.int (x2 &&& (2147483647 : Int32)))])
        refine gw_st (fun _ kq => iremM X34 hx rfl (hb hby at_243) rfl (own_nz1 (by omega)) kq) ?_
        show GoW p e below s _ _ _ T34 (mkF m 244 #[.val (.int x0), .val (.int x1), .val (.int x2), .val (.int x3), .val (.int x4), .val (.int x5), .val (.int (Int32.ofNat nk)), .val (.int (Int32.ofNat ns)), .val (.int ((XT.ushr x1 (8 : Int32)) &&& (3 : Int32))), .val (.double (FP.ddiv (FP.i2d (Int32.ofNat nk)) (4620693217682128896 : UInt64))), .second, .val (.double (FP.ddiv (FP.i2d (Int32.ofNat ns)) (4643211215818981376 : UInt64))), .second, .val (.ref a32), .val (.int (Int32.ofNat ne)), .val (.int (Int32.ofNat (2 ^ ne))), .unset, .unset, .unset, .unset, .unset] [(.int ((x2 &&& (2147483647 : Int32)) % ((Int32.ofNat (2 ^ ne)) + (1 : Int32))))])
        refine gw_st (fun _ kq => XS.istore X34.here hx rfl (hb hby at_244) rfl (l' := #[.val (.int x0), .val (.int x1), .val (.int x2), .val (.int x3), .val (.int x4), .val (.int x5), .val (.int (Int32.ofNat nk)), .val (.int (Int32.ofNat ns)), .val (.int ((XT.ushr x1 (8 : Int32)) &&& (3 : Int32))), .val (.double (FP.ddiv (FP.i2d (Int32.ofNat nk)) (4620693217682128896 : UInt64))), .second, .val (.double (FP.ddiv (FP.i2d (Int32.ofNat ns)) (4643211215818981376 : UInt64))), .second, .val (.ref a32), .val (.int (Int32.ofNat ne)), .val (.int (Int32.ofNat (2 ^ ne))), .val (.int ((x2 &&& (2147483647 : Int32)) % ((Int32.ofNat (2 ^ ne)) + (1 : Int32)))), .unset, .unset, .unset, .unset]) rfl kq) ?_
        show GoW p e below s _ _ _ T34 (mkF m 246 #[.val (.int x0), .val (.int x1), .val (.int x2), .val (.int x3), .val (.int x4), .val (.int x5), .val (.int (Int32.ofNat nk)), .val (.int (Int32.ofNat ns)), .val (.int ((XT.ushr x1 (8 : Int32)) &&& (3 : Int32))), .val (.double (FP.ddiv (FP.i2d (Int32.ofNat nk)) (4620693217682128896 : UInt64))), .second, .val (.double (FP.ddiv (FP.i2d (Int32.ofNat ns)) (4643211215818981376 : UInt64))), .second, .val (.ref a32), .val (.int (Int32.ofNat ne)), .val (.int (Int32.ofNat (2 ^ ne))), .val (.int ((x2 &&& (2147483647 : Int32)) % ((Int32.ofNat (2 ^ ne)) + (1 : Int32)))), .unset, .unset, .unset, .unset] [])
        obtain ⟨nc, hnc, enc⟩ := own_c x2 (n := 2 ^ ne) (by omega)
        rw [enc]
        show GoW p e below s _ _ _ T34 (mkF m 246 #[.val (.int x0), .val (.int x1), .val (.int x2), .val (.int x3), .val (.int x4), .val (.int x5), .val (.int (Int32.ofNat nk)), .val (.int (Int32.ofNat ns)), .val (.int ((XT.ushr x1 (8 : Int32)) &&& (3 : Int32))), .val (.double (FP.ddiv (FP.i2d (Int32.ofNat nk)) (4620693217682128896 : UInt64))), .second, .val (.double (FP.ddiv (FP.i2d (Int32.ofNat ns)) (4643211215818981376 : UInt64))), .second, .val (.ref a32), .val (.int (Int32.ofNat ne)), .val (.int (Int32.ofNat (2 ^ ne))), .val (.int (Int32.ofNat nc)), .unset, .unset, .unset, .unset] [])
        refine gw_st (fun _ kq => XS.iload X34.here hx rfl (hb hby at_246) rfl kq) ?_
        show GoW p e below s _ _ _ T34 (mkF m 248 #[.val (.int x0), .val (.int x1), .val (.int x2), .val (.int x3), .val (.int x4), .val (.int x5), .val (.int (Int32.ofNat nk)), .val (.int (Int32.ofNat ns)), .val (.int ((XT.ushr x1 (8 : Int32)) &&& (3 : Int32))), .val (.double (FP.ddiv (FP.i2d (Int32.ofNat nk)) (4620693217682128896 : UInt64))), .second, .val (.double (FP.ddiv (FP.i2d (Int32.ofNat ns)) (4643211215818981376 : UInt64))), .second, .val (.ref a32), .val (.int (Int32.ofNat ne)), .val (.int (Int32.ofNat (2 ^ ne))), .val (.int (Int32.ofNat nc)), .unset, .unset, .unset, .unset] [(.int (Int32.ofNat nk))])
        refine gw_st (fun _ kq => XT.i2l X34.here hx rfl (hb hby at_248) rfl kq) ?_
        show GoW p e below s _ _ _ T34 (mkF m 249 #[.val (.int x0), .val (.int x1), .val (.int x2), .val (.int x3), .val (.int x4), .val (.int x5), .val (.int (Int32.ofNat nk)), .val (.int (Int32.ofNat ns)), .val (.int ((XT.ushr x1 (8 : Int32)) &&& (3 : Int32))), .val (.double (FP.ddiv (FP.i2d (Int32.ofNat nk)) (4620693217682128896 : UInt64))), .second, .val (.double (FP.ddiv (FP.i2d (Int32.ofNat ns)) (4643211215818981376 : UInt64))), .second, .val (.ref a32), .val (.int (Int32.ofNat ne)), .val (.int (Int32.ofNat (2 ^ ne))), .val (.int (Int32.ofNat nc)), .unset, .unset, .unset, .unset] [(.long (Int32.ofNat nk).toInt64)])
        refine gw_st (fun _ kq => XS.iload X34.here hx rfl (hb hby at_249) rfl kq) ?_
        show GoW p e below s _ _ _ T34 (mkF m 251 #[.val (.int x0), .val (.int x1), .val (.int x2), .val (.int x3), .val (.int x4), .val (.int x5), .val (.int (Int32.ofNat nk)), .val (.int (Int32.ofNat ns)), .val (.int ((XT.ushr x1 (8 : Int32)) &&& (3 : Int32))), .val (.double (FP.ddiv (FP.i2d (Int32.ofNat nk)) (4620693217682128896 : UInt64))), .second, .val (.double (FP.ddiv (FP.i2d (Int32.ofNat ns)) (4643211215818981376 : UInt64))), .second, .val (.ref a32), .val (.int (Int32.ofNat ne)), .val (.int (Int32.ofNat (2 ^ ne))), .val (.int (Int32.ofNat nc)), .unset, .unset, .unset, .unset] [(.int (Int32.ofNat nc)), (.long (Int32.ofNat nk).toInt64)])
        refine gw_st (fun _ kq => XT.i2l X34.here hx rfl (hb hby at_251) rfl kq) ?_
        show GoW p e below s _ _ _ T34 (mkF m 252 #[.val (.int x0), .val (.int x1), .val (.int x2), .val (.int x3), .val (.int x4), .val (.int x5), .val (.int (Int32.ofNat nk)), .val (.int (Int32.ofNat ns)), .val (.int ((XT.ushr x1 (8 : Int32)) &&& (3 : Int32))), .val (.double (FP.ddiv (FP.i2d (Int32.ofNat nk)) (4620693217682128896 : UInt64))), .second, .val (.double (FP.ddiv (FP.i2d (Int32.ofNat ns)) (4643211215818981376 : UInt64))), .second, .val (.ref a32), .val (.int (Int32.ofNat ne)), .val (.int (Int32.ofNat (2 ^ ne))), .val (.int (Int32.ofNat nc)), .unset, .unset, .unset, .unset] [(.long (Int32.ofNat nc).toInt64), (.long (Int32.ofNat nk).toInt64)])
        refine gw_st (fun _ kq => XT.lmul X34.here hx rfl (hb hby at_252) rfl kq) ?_
        show GoW p e below s _ _ _ T34 (mkF m 253 #[.val (.int x0), .val (.int x1), .val (.int x2), .val (.int x3), .val (.int x4), .val (.int x5), .val (.int (Int32.ofNat nk)), .val (.int (Int32.ofNat ns)), .val (.int ((XT.ushr x1 (8 : Int32)) &&& (3 : Int32))), .val (.double (FP.ddiv (FP.i2d (Int32.ofNat nk)) (4620693217682128896 : UInt64))), .second, .val (.double (FP.ddiv (FP.i2d (Int32.ofNat ns)) (4643211215818981376 : UInt64))), .second, .val (.ref a32), .val (.int (Int32.ofNat ne)), .val (.int (Int32.ofNat (2 ^ ne))), .val (.int (Int32.ofNat nc)), .unset, .unset, .unset, .unset] [(.long ((Int32.ofNat nk).toInt64 * (Int32.ofNat nc).toInt64))])
        refine gw_st (fun _ kq => Jvm.Stand.ldc2J X34 hx hown (mvT hZ (hw _ (List.mem_of_getElem? (i := 32) rfl))) rfl (hb hby at_253) kq) ?_
        show GoW p e below s _ _ _ T34 (mkF m 256 #[.val (.int x0), .val (.int x1), .val (.int x2), .val (.int x3), .val (.int x4), .val (.int x5), .val (.int (Int32.ofNat nk)), .val (.int (Int32.ofNat ns)), .val (.int ((XT.ushr x1 (8 : Int32)) &&& (3 : Int32))), .val (.double (FP.ddiv (FP.i2d (Int32.ofNat nk)) (4620693217682128896 : UInt64))), .second, .val (.double (FP.ddiv (FP.i2d (Int32.ofNat ns)) (4643211215818981376 : UInt64))), .second, .val (.ref a32), .val (.int (Int32.ofNat ne)), .val (.int (Int32.ofNat (2 ^ ne))), .val (.int (Int32.ofNat nc)), .unset, .unset, .unset, .unset] [(.long (256 : Int64)), (.long ((Int32.ofNat nk).toInt64 * (Int32.ofNat nc).toInt64))])
        refine gw_st (fun _ kq => XT.lmul X34.here hx rfl (hb hby at_256) rfl kq) ?_
        show GoW p e below s _ _ _ T34 (mkF m 257 #[.val (.int x0), .val (.int x1), .val (.int x2), .val (.int x3), .val (.int x4), .val (.int x5), .val (.int (Int32.ofNat nk)), .val (.int (Int32.ofNat ns)), .val (.int ((XT.ushr x1 (8 : Int32)) &&& (3 : Int32))), .val (.double (FP.ddiv (FP.i2d (Int32.ofNat nk)) (4620693217682128896 : UInt64))), .second, .val (.double (FP.ddiv (FP.i2d (Int32.ofNat ns)) (4643211215818981376 : UInt64))), .second, .val (.ref a32), .val (.int (Int32.ofNat ne)), .val (.int (Int32.ofNat (2 ^ ne))), .val (.int (Int32.ofNat nc)), .unset, .unset, .unset, .unset] [(.long (((Int32.ofNat nk).toInt64 * (Int32.ofNat nc).toInt64) * (256 : Int64)))])
        refine gw_st (fun _ kq => XT.bipushV X34.here hx rfl (8 : Int32) (hb hby at_257) (by decide) kq) ?_
        show GoW p e below s _ _ _ T34 (mkF m 259 #[.val (.int x0), .val (.int x1), .val (.int x2), .val (.int x3), .val (.int x4), .val (.int x5), .val (.int (Int32.ofNat nk)), .val (.int (Int32.ofNat ns)), .val (.int ((XT.ushr x1 (8 : Int32)) &&& (3 : Int32))), .val (.double (FP.ddiv (FP.i2d (Int32.ofNat nk)) (4620693217682128896 : UInt64))), .second, .val (.double (FP.ddiv (FP.i2d (Int32.ofNat ns)) (4643211215818981376 : UInt64))), .second, .val (.ref a32), .val (.int (Int32.ofNat ne)), .val (.int (Int32.ofNat (2 ^ ne))), .val (.int (Int32.ofNat nc)), .unset, .unset, .unset, .unset] [(.int (8 : Int32)), (.long (((Int32.ofNat nk).toInt64 * (Int32.ofNat nc).toInt64) * (256 : Int64)))])
        refine gw_st (fun _ kq => XS.iload X34.here hx rfl (hb hby at_259) rfl kq) ?_
        show GoW p e below s _ _ _ T34 (mkF m 261 #[.val (.int x0), .val (.int x1), .val (.int x2), .val (.int x3), .val (.int x4), .val (.int x5), .val (.int (Int32.ofNat nk)), .val (.int (Int32.ofNat ns)), .val (.int ((XT.ushr x1 (8 : Int32)) &&& (3 : Int32))), .val (.double (FP.ddiv (FP.i2d (Int32.ofNat nk)) (4620693217682128896 : UInt64))), .second, .val (.double (FP.ddiv (FP.i2d (Int32.ofNat ns)) (4643211215818981376 : UInt64))), .second, .val (.ref a32), .val (.int (Int32.ofNat ne)), .val (.int (Int32.ofNat (2 ^ ne))), .val (.int (Int32.ofNat nc)), .unset, .unset, .unset, .unset] [(.int (Int32.ofNat nk)), (.int (8 : Int32)), (.long (((Int32.ofNat nk).toInt64 * (Int32.ofNat nc).toInt64) * (256 : Int64)))])
        refine gw_st (fun _ kq => XS.isub X34.here hx rfl (hb hby at_261) rfl kq) ?_
        show GoW p e below s _ _ _ T34 (mkF m 262 #[.val (.int x0), .val (.int x1), .val (.int x2), .val (.int x3), .val (.int x4), .val (.int x5), .val (.int (Int32.ofNat nk)), .val (.int (Int32.ofNat ns)), .val (.int ((XT.ushr x1 (8 : Int32)) &&& (3 : Int32))), .val (.double (FP.ddiv (FP.i2d (Int32.ofNat nk)) (4620693217682128896 : UInt64))), .second, .val (.double (FP.ddiv (FP.i2d (Int32.ofNat ns)) (4643211215818981376 : UInt64))), .second, .val (.ref a32), .val (.int (Int32.ofNat ne)), .val (.int (Int32.ofNat (2 ^ ne))), .val (.int (Int32.ofNat nc)), .unset, .unset, .unset, .unset] [(.int ((8 : Int32) - (Int32.ofNat nk))), (.long (((Int32.ofNat nk).toInt64 * (Int32.ofNat nc).toInt64) * (256 : Int64)))])
        rw [own_e8 hnk1 hnk2]
        show GoW p e below s _ _ _ T34 (mkF m 262 #[.val (.int x0), .val (.int x1), .val (.int x2), .val (.int x3), .val (.int x4), .val (.int x5), .val (.int (Int32.ofNat nk)), .val (.int (Int32.ofNat ns)), .val (.int ((XT.ushr x1 (8 : Int32)) &&& (3 : Int32))), .val (.double (FP.ddiv (FP.i2d (Int32.ofNat nk)) (4620693217682128896 : UInt64))), .second, .val (.double (FP.ddiv (FP.i2d (Int32.ofNat ns)) (4643211215818981376 : UInt64))), .second, .val (.ref a32), .val (.int (Int32.ofNat ne)), .val (.int (Int32.ofNat (2 ^ ne))), .val (.int (Int32.ofNat nc)), .unset, .unset, .unset, .unset] [(.int (Int32.ofNat (8 - nk))), (.long (((Int32.ofNat nk).toInt64 * (Int32.ofNat nc).toInt64) * (256 : Int64)))])
        refine gw_st (fun _ kq => XT.i2l X34.here hx rfl (hb hby at_262) rfl kq) ?_
        show GoW p e below s _ _ _ T34 (mkF m 263 #[.val (.int x0), .val (.int x1), .val (.int x2), .val (.int x3), .val (.int x4), .val (.int x5), .val (.int (Int32.ofNat nk)), .val (.int (Int32.ofNat ns)), .val (.int ((XT.ushr x1 (8 : Int32)) &&& (3 : Int32))), .val (.double (FP.ddiv (FP.i2d (Int32.ofNat nk)) (4620693217682128896 : UInt64))), .second, .val (.double (FP.ddiv (FP.i2d (Int32.ofNat ns)) (4643211215818981376 : UInt64))), .second, .val (.ref a32), .val (.int (Int32.ofNat ne)), .val (.int (Int32.ofNat (2 ^ ne))), .val (.int (Int32.ofNat nc)), .unset, .unset, .unset, .unset] [(.long (Int32.ofNat (8 - nk)).toInt64), (.long (((Int32.ofNat nk).toInt64 * (Int32.ofNat nc).toInt64) * (256 : Int64)))])
        refine gw_st (fun _ kq => XS.iload X34.here hx rfl (hb hby at_263) rfl kq) ?_
        show GoW p e below s _ _ _ T34 (mkF m 265 #[.val (.int x0), .val (.int x1), .val (.int x2), .val (.int x3), .val (.int x4), .val (.int x5), .val (.int (Int32.ofNat nk)), .val (.int (Int32.ofNat ns)), .val (.int ((XT.ushr x1 (8 : Int32)) &&& (3 : Int32))), .val (.double (FP.ddiv (FP.i2d (Int32.ofNat nk)) (4620693217682128896 : UInt64))), .second, .val (.double (FP.ddiv (FP.i2d (Int32.ofNat ns)) (4643211215818981376 : UInt64))), .second, .val (.ref a32), .val (.int (Int32.ofNat ne)), .val (.int (Int32.ofNat (2 ^ ne))), .val (.int (Int32.ofNat nc)), .unset, .unset, .unset, .unset] [(.int (Int32.ofNat ns)), (.long (Int32.ofNat (8 - nk)).toInt64), (.long (((Int32.ofNat nk).toInt64 * (Int32.ofNat nc).toInt64) * (256 : Int64)))])
        refine gw_st (fun _ kq => XT.i2l X34.here hx rfl (hb hby at_265) rfl kq) ?_
        show GoW p e below s _ _ _ T34 (mkF m 266 #[.val (.int x0), .val (.int x1), .val (.int x2), .val (.int x3), .val (.int x4), .val (.int x5), .val (.int (Int32.ofNat nk)), .val (.int (Int32.ofNat ns)), .val (.int ((XT.ushr x1 (8 : Int32)) &&& (3 : Int32))), .val (.double (FP.ddiv (FP.i2d (Int32.ofNat nk)) (4620693217682128896 : UInt64))), .second, .val (.double (FP.ddiv (FP.i2d (Int32.ofNat ns)) (4643211215818981376 : UInt64))), .second, .val (.ref a32), .val (.int (Int32.ofNat ne)), .val (.int (Int32.ofNat (2 ^ ne))), .val (.int (Int32.ofNat nc)), .unset, .unset, .unset, .unset] [(.long (Int32.ofNat ns).toInt64), (.long (Int32.ofNat (8 - nk)).toInt64), (.long (((Int32.ofNat nk).toInt64 * (Int32.ofNat nc).toInt64) * (256 : Int64)))])
        refine gw_st (fun _ kq => XT.lmul X34.here hx rfl (hb hby at_266) rfl kq) ?_
        show GoW p e below s _ _ _ T34 (mkF m 267 #[.val (.int x0), .val (.int x1), .val (.int x2), .val (.int x3), .val (.int x4), .val (.int x5), .val (.int (Int32.ofNat nk)), .val (.int (Int32.ofNat ns)), .val (.int ((XT.ushr x1 (8 : Int32)) &&& (3 : Int32))), .val (.double (FP.ddiv (FP.i2d (Int32.ofNat nk)) (4620693217682128896 : UInt64))), .second, .val (.double (FP.ddiv (FP.i2d (Int32.ofNat ns)) (4643211215818981376 : UInt64))), .second, .val (.ref a32), .val (.int (Int32.ofNat ne)), .val (.int (Int32.ofNat (2 ^ ne))), .val (.int (Int32.ofNat nc)), .unset, .unset, .unset, .unset] [(.long ((Int32.ofNat (8 - nk)).toInt64 * (Int32.ofNat ns).toInt64)), (.long (((Int32.ofNat nk).toInt64 * (Int32.ofNat nc).toInt64) * (256 : Int64)))])
        refine gw_st (fun _ kq => XS.iload X34.here hx rfl (hb hby at_267) rfl kq) ?_
        show GoW p e below s _ _ _ T34 (mkF m 269 #[.val (.int x0), .val (.int x1), .val (.int x2), .val (.int x3), .val (.int x4), .val (.int x5), .val (.int (Int32.ofNat nk)), .val (.int (Int32.ofNat ns)), .val (.int ((XT.ushr x1 (8 : Int32)) &&& (3 : Int32))), .val (.double (FP.ddiv (FP.i2d (Int32.ofNat nk)) (4620693217682128896 : UInt64))), .second, .val (.double (FP.ddiv (FP.i2d (Int32.ofNat ns)) (4643211215818981376 : UInt64))), .second, .val (.ref a32), .val (.int (Int32.ofNat ne)), .val (.int (Int32.ofNat (2 ^ ne))), .val (.int (Int32.ofNat nc)), .unset, .unset, .unset, .unset] [(.int (Int32.ofNat (2 ^ ne))), (.long ((Int32.ofNat (8 - nk)).toInt64 * (Int32.ofNat ns).toInt64)), (.long (((Int32.ofNat nk).toInt64 * (Int32.ofNat nc).toInt64) * (256 : Int64)))])
        refine gw_st (fun _ kq => XT.i2l X34.here hx rfl (hb hby at_269) rfl kq) ?_
        show GoW p e below s _ _ _ T34 (mkF m 270 #[.val (.int x0), .val (.int x1), .val (.int x2), .val (.int x3), .val (.int x4), .val (.int x5), .val (.int (Int32.ofNat nk)), .val (.int (Int32.ofNat ns)), .val (.int ((XT.ushr x1 (8 : Int32)) &&& (3 : Int32))), .val (.double (FP.ddiv (FP.i2d (Int32.ofNat nk)) (4620693217682128896 : UInt64))), .second, .val (.double (FP.ddiv (FP.i2d (Int32.ofNat ns)) (4643211215818981376 : UInt64))), .second, .val (.ref a32), .val (.int (Int32.ofNat ne)), .val (.int (Int32.ofNat (2 ^ ne))), .val (.int (Int32.ofNat nc)), .unset, .unset, .unset, .unset] [(.long (Int32.ofNat (2 ^ ne)).toInt64), (.long ((Int32.ofNat (8 - nk)).toInt64 * (Int32.ofNat ns).toInt64)), (.long (((Int32.ofNat nk).toInt64 * (Int32.ofNat nc).toInt64) * (256 : Int64)))])
        refine gw_st (fun _ kq => XT.lmul X34.here hx rfl (hb hby at_270) rfl kq) ?_
        show GoW p e below s _ _ _ T34 (mkF m 271 #[.val (.int x0), .val (.int x1), .val (.int x2), .val (.int x3), .val (.int x4), .val (.int x5), .val (.int (Int32.ofNat nk)), .val (.int (Int32.ofNat ns)), .val (.int ((XT.ushr x1 (8 : Int32)) &&& (3 : Int32))), .val (.double (FP.ddiv (FP.i2d (Int32.ofNat nk)) (4620693217682128896 : UInt64))), .second, .val (.double (FP.ddiv (FP.i2d (Int32.ofNat ns)) (4643211215818981376 : UInt64))), .second, .val (.ref a32), .val (.int (Int32.ofNat ne)), .val (.int (Int32.ofNat (2 ^ ne))), .val (.int (Int32.ofNat nc)), .unset, .unset, .unset, .unset] [(.long (((Int32.ofNat (8 - nk)).toInt64 * (Int32.ofNat ns).toInt64) * (Int32.ofNat (2 ^ ne)).toInt64)), (.long (((Int32.ofNat nk).toInt64 * (Int32.ofNat nc).toInt64) * (256 : Int64)))])
        refine gw_st (fun _ kq => XT.ladd X34.here hx rfl (hb hby at_271) rfl kq) ?_
        show GoW p e below s _ _ _ T34 (mkF m 272 #[.val (.int x0), .val (.int x1), .val (.int x2), .val (.int x3), .val (.int x4), .val (.int x5), .val (.int (Int32.ofNat nk)), .val (.int (Int32.ofNat ns)), .val (.int ((XT.ushr x1 (8 : Int32)) &&& (3 : Int32))), .val (.double (FP.ddiv (FP.i2d (Int32.ofNat nk)) (4620693217682128896 : UInt64))), .second, .val (.double (FP.ddiv (FP.i2d (Int32.ofNat ns)) (4643211215818981376 : UInt64))), .second, .val (.ref a32), .val (.int (Int32.ofNat ne)), .val (.int (Int32.ofNat (2 ^ ne))), .val (.int (Int32.ofNat nc)), .unset, .unset, .unset, .unset] [(.long ((((Int32.ofNat nk).toInt64 * (Int32.ofNat nc).toInt64) * (256 : Int64)) + (((Int32.ofNat (8 - nk)).toInt64 * (Int32.ofNat ns).toInt64) * (Int32.ofNat (2 ^ ne)).toInt64)))])
        refine gw_st (fun _ kq => XT.lstore X34.here hx rfl (hb hby at_272) rfl (l' := #[.val (.int x0), .val (.int x1), .val (.int x2), .val (.int x3), .val (.int x4), .val (.int x5), .val (.int (Int32.ofNat nk)), .val (.int (Int32.ofNat ns)), .val (.int ((XT.ushr x1 (8 : Int32)) &&& (3 : Int32))), .val (.double (FP.ddiv (FP.i2d (Int32.ofNat nk)) (4620693217682128896 : UInt64))), .second, .val (.double (FP.ddiv (FP.i2d (Int32.ofNat ns)) (4643211215818981376 : UInt64))), .second, .val (.ref a32), .val (.int (Int32.ofNat ne)), .val (.int (Int32.ofNat (2 ^ ne))), .val (.int (Int32.ofNat nc)), .val (.long ((((Int32.ofNat nk).toInt64 * (Int32.ofNat nc).toInt64) * (256 : Int64)) + (((Int32.ofNat (8 - nk)).toInt64 * (Int32.ofNat ns).toInt64) * (Int32.ofNat (2 ^ ne)).toInt64))), .second, .unset, .unset]) rfl kq) ?_
        show GoW p e below s _ _ _ T34 (mkF m 274 #[.val (.int x0), .val (.int x1), .val (.int x2), .val (.int x3), .val (.int x4), .val (.int x5), .val (.int (Int32.ofNat nk)), .val (.int (Int32.ofNat ns)), .val (.int ((XT.ushr x1 (8 : Int32)) &&& (3 : Int32))), .val (.double (FP.ddiv (FP.i2d (Int32.ofNat nk)) (4620693217682128896 : UInt64))), .second, .val (.double (FP.ddiv (FP.i2d (Int32.ofNat ns)) (4643211215818981376 : UInt64))), .second, .val (.ref a32), .val (.int (Int32.ofNat ne)), .val (.int (Int32.ofNat (2 ^ ne))), .val (.int (Int32.ofNat nc)), .val (.long ((((Int32.ofNat nk).toInt64 * (Int32.ofNat nc).toInt64) * (256 : Int64)) + (((Int32.ofNat (8 - nk)).toInt64 * (Int32.ofNat ns).toInt64) * (Int32.ofNat (2 ^ ne)).toInt64))), .second, .unset, .unset] [])
        rw [own_num2 (a := nk) (b := nc) (c := 8 - nk) (d := ns) (k := ne) (by omega) (by omega) (by omega) hns2 (by omega)]
        have hB := own_bd (nq := nc) (k := ne) hnk2 (by omega) hns2 (by omega)
        show GoW p e below s _ _ _ T34 (mkF m 274 #[.val (.int x0), .val (.int x1), .val (.int x2), .val (.int x3), .val (.int x4), .val (.int x5), .val (.int (Int32.ofNat nk)), .val (.int (Int32.ofNat ns)), .val (.int ((XT.ushr x1 (8 : Int32)) &&& (3 : Int32))), .val (.double (FP.ddiv (FP.i2d (Int32.ofNat nk)) (4620693217682128896 : UInt64))), .second, .val (.double (FP.ddiv (FP.i2d (Int32.ofNat ns)) (4643211215818981376 : UInt64))), .second, .val (.ref a32), .val (.int (Int32.ofNat ne)), .val (.int (Int32.ofNat (2 ^ ne))), .val (.int (Int32.ofNat nc)), .val (.long (Int64.ofNat (nk * nc * 256 + (8 - nk) * ns * 2 ^ ne))), .second, .unset, .unset] [])
        refine gw_st (fun _ kq => XT.lload X34.here hx rfl (hb hby at_274) rfl kq) ?_
        show GoW p e below s _ _ _ T34 (mkF m 276 #[.val (.int x0), .val (.int x1), .val (.int x2), .val (.int x3), .val (.int x4), .val (.int x5), .val (.int (Int32.ofNat nk)), .val (.int (Int32.ofNat ns)), .val (.int ((XT.ushr x1 (8 : Int32)) &&& (3 : Int32))), .val (.double (FP.ddiv (FP.i2d (Int32.ofNat nk)) (4620693217682128896 : UInt64))), .second, .val (.double (FP.ddiv (FP.i2d (Int32.ofNat ns)) (4643211215818981376 : UInt64))), .second, .val (.ref a32), .val (.int (Int32.ofNat ne)), .val (.int (Int32.ofNat (2 ^ ne))), .val (.int (Int32.ofNat nc)), .val (.long (Int64.ofNat (nk * nc * 256 + (8 - nk) * ns * 2 ^ ne))), .second, .unset, .unset] [(.long (Int64.ofNat (nk * nc * 256 + (8 - nk) * ns * 2 ^ ne)))])
        have dy58 : Dy (FP.l2d (Int64.ofNat (nk * nc * 256 + (8 - nk) * ns * 2 ^ ne))) (nk * nc * 256 + (8 - nk) * ns * 2 ^ ne) 0 := Dy.of_l2d (own_on64 (by omega)) hB
        refine gw_st (fun _ kq => XS.l2dS X34.here hx rfl (hb hby at_276) rfl rfl kq) ?_
        show GoW p e below s _ _ _ T34 (mkF m 277 #[.val (.int x0), .val (.int x1), .val (.int x2), .val (.int x3), .val (.int x4), .val (.int x5), .val (.int (Int32.ofNat nk)), .val (.int (Int32.ofNat ns)), .val (.int ((XT.ushr x1 (8 : Int32)) &&& (3 : Int32))), .val (.double (FP.ddiv (FP.i2d (Int32.ofNat nk)) (4620693217682128896 : UInt64))), .second, .val (.double (FP.ddiv (FP.i2d (Int32.ofNat ns)) (4643211215818981376 : UInt64))), .second, .val (.ref a32), .val (.int (Int32.ofNat ne)), .val (.int (Int32.ofNat (2 ^ ne))), .val (.int (Int32.ofNat nc)), .val (.long (Int64.ofNat (nk * nc * 256 + (8 - nk) * ns * 2 ^ ne))), .second, .unset, .unset] [(.double (FP.l2d (Int64.ofNat (nk * nc * 256 + (8 - nk) * ns * 2 ^ ne))))])
        refine gw_st (X34.ldc2DoubleC hx hown (mvT hZ (hw _ (List.mem_of_getElem? (i := 26) rfl))) rfl (hb hby at_277)) ?_
        show GoW p e below s _ _ _ T34 (mkF m 280 #[.val (.int x0), .val (.int x1), .val (.int x2), .val (.int x3), .val (.int x4), .val (.int x5), .val (.int (Int32.ofNat nk)), .val (.int (Int32.ofNat ns)), .val (.int ((XT.ushr x1 (8 : Int32)) &&& (3 : Int32))), .val (.double (FP.ddiv (FP.i2d (Int32.ofNat nk)) (4620693217682128896 : UInt64))), .second, .val (.double (FP.ddiv (FP.i2d (Int32.ofNat ns)) (4643211215818981376 : UInt64))), .second, .val (.ref a32), .val (.int (Int32.ofNat ne)), .val (.int (Int32.ofNat (2 ^ ne))), .val (.int (Int32.ofNat nc)), .val (.long (Int64.ofNat (nk * nc * 256 + (8 - nk) * ns * 2 ^ ne))), .second, .unset, .unset] [(.double (4656722014701092864 : UInt64)), (.double (FP.l2d (Int64.ofNat (nk * nc * 256 + (8 - nk) * ns * 2 ^ ne))))])
        refine gw_st (fun _ kq => XS.iload X34.here hx rfl (hb hby at_280) rfl kq) ?_
        show GoW p e below s _ _ _ T34 (mkF m 282 #[.val (.int x0), .val (.int x1), .val (.int x2), .val (.int x3), .val (.int x4), .val (.int x5), .val (.int (Int32.ofNat nk)), .val (.int (Int32.ofNat ns)), .val (.int ((XT.ushr x1 (8 : Int32)) &&& (3 : Int32))), .val (.double (FP.ddiv (FP.i2d (Int32.ofNat nk)) (4620693217682128896 : UInt64))), .second, .val (.double (FP.ddiv (FP.i2d (Int32.ofNat ns)) (4643211215818981376 : UInt64))), .second, .val (.ref a32), .val (.int (Int32.ofNat ne)), .val (.int (Int32.ofNat (2 ^ ne))), .val (.int (Int32.ofNat nc)), .val (.long (Int64.ofNat (nk * nc * 256 + (8 - nk) * ns * 2 ^ ne))), .second, .unset, .unset] [(.int (Int32.ofNat (2 ^ ne))), (.double (4656722014701092864 : UInt64)), (.double (FP.l2d (Int64.ofNat (nk * nc * 256 + (8 - nk) * ns * 2 ^ ne))))])
        have dy59 : Dy (FP.i2d (Int32.ofNat (2 ^ ne))) (2 ^ ne) 0 := Dy.of_i2d (own_on32 (by omega))
        refine gw_st (fun _ kq => XS.i2dS X34.here hx rfl (hb hby at_282) rfl rfl kq) ?_
        show GoW p e below s _ _ _ T34 (mkF m 283 #[.val (.int x0), .val (.int x1), .val (.int x2), .val (.int x3), .val (.int x4), .val (.int x5), .val (.int (Int32.ofNat nk)), .val (.int (Int32.ofNat ns)), .val (.int ((XT.ushr x1 (8 : Int32)) &&& (3 : Int32))), .val (.double (FP.ddiv (FP.i2d (Int32.ofNat nk)) (4620693217682128896 : UInt64))), .second, .val (.double (FP.ddiv (FP.i2d (Int32.ofNat ns)) (4643211215818981376 : UInt64))), .second, .val (.ref a32), .val (.int (Int32.ofNat ne)), .val (.int (Int32.ofNat (2 ^ ne))), .val (.int (Int32.ofNat nc)), .val (.long (Int64.ofNat (nk * nc * 256 + (8 - nk) * ns * 2 ^ ne))), .second, .unset, .unset] [(.double (FP.i2d (Int32.ofNat (2 ^ ne)))), (.double (4656722014701092864 : UInt64)), (.double (FP.l2d (Int64.ofNat (nk * nc * 256 + (8 - nk) * ns * 2 ^ ne))))])
        have dy60 : Dy (FP.dmul (4656722014701092864 : UInt64) (FP.i2d (Int32.ofNat (2 ^ ne)))) (2048 * 2 ^ ne) 0 := own_2048.mul dy59 (by omega) (by decide) (by rw [Nat.pow_zero, Nat.mul_one])
        refine gw_st (fun _ kq => XS.dmulS X34.here hx rfl (hb hby at_283) rfl (own_nan64 dy60.fin) rfl kq) ?_
        show GoW p e below s _ _ _ T34 (mkF m 284 #[.val (.int x0), .val (.int x1), .val (.int x2), .val (.int x3), .val (.int x4), .val (.int x5), .val (.int (Int32.ofNat nk)), .val (.int (Int32.ofNat ns)), .val (.int ((XT.ushr x1 (8 : Int32)) &&& (3 : Int32))), .val (.double (FP.ddiv (FP.i2d (Int32.ofNat nk)) (4620693217682128896 : UInt64))), .second, .val (.double (FP.ddiv (FP.i2d (Int32.ofNat ns)) (4643211215818981376 : UInt64))), .second, .val (.ref a32), .val (.int (Int32.ofNat ne)), .val (.int (Int32.ofNat (2 ^ ne))), .val (.int (Int32.ofNat nc)), .val (.long (Int64.ofNat (nk * nc * 256 + (8 - nk) * ns * 2 ^ ne))), .second, .unset, .unset] [(.double (FP.dmul (4656722014701092864 : UInt64) (FP.i2d (Int32.ofNat (2 ^ ne))))), (.double (FP.l2d (Int64.ofNat (nk * nc * 256 + (8 - nk) * ns * 2 ^ ne))))])
        have dy61 : Dy (FP.ddiv (FP.l2d (Int64.ofNat (nk * nc * 256 + (8 - nk) * ns * 2 ^ ne))) (FP.dmul (4656722014701092864 : UInt64) (FP.i2d (Int32.ofNat (2 ^ ne))))) (nk * nc * 256 + (8 - nk) * ns * 2 ^ ne) (11 + ne) := dy58.div dy60 (by omega) hB (by omega) own_dv2
        refine gw_st (fun _ kq => XS.ddivS X34.here hx rfl (hb hby at_284) rfl (own_nan64 dy61.fin) rfl kq) ?_
        show GoW p e below s _ _ _ T34 (mkF m 285 #[.val (.int x0), .val (.int x1), .val (.int x2), .val (.int x3), .val (.int x4), .val (.int x5), .val (.int (Int32.ofNat nk)), .val (.int (Int32.ofNat ns)), .val (.int ((XT.ushr x1 (8 : Int32)) &&& (3 : Int32))), .val (.double (FP.ddiv (FP.i2d (Int32.ofNat nk)) (4620693217682128896 : UInt64))), .second, .val (.double (FP.ddiv (FP.i2d (Int32.ofNat ns)) (4643211215818981376 : UInt64))), .second, .val (.ref a32), .val (.int (Int32.ofNat ne)), .val (.int (Int32.ofNat (2 ^ ne))), .val (.int (Int32.ofNat nc)), .val (.long (Int64.ofNat (nk * nc * 256 + (8 - nk) * ns * 2 ^ ne))), .second, .unset, .unset] [(.double (FP.ddiv (FP.l2d (Int64.ofNat (nk * nc * 256 + (8 - nk) * ns * 2 ^ ne))) (FP.dmul (4656722014701092864 : UInt64) (FP.i2d (Int32.ofNat (2 ^ ne))))))])
        refine gw_st (fun _ kq => XS.dstore X34.here hx rfl (hb hby at_285) rfl (l' := #[.val (.int x0), .val (.int x1), .val (.int x2), .val (.int x3), .val (.int x4), .val (.int x5), .val (.int (Int32.ofNat nk)), .val (.int (Int32.ofNat ns)), .val (.int ((XT.ushr x1 (8 : Int32)) &&& (3 : Int32))), .val (.double (FP.ddiv (FP.i2d (Int32.ofNat nk)) (4620693217682128896 : UInt64))), .second, .val (.double (FP.ddiv (FP.i2d (Int32.ofNat ns)) (4643211215818981376 : UInt64))), .second, .val (.ref a32), .val (.int (Int32.ofNat ne)), .val (.int (Int32.ofNat (2 ^ ne))), .val (.int (Int32.ofNat nc)), .val (.long (Int64.ofNat (nk * nc * 256 + (8 - nk) * ns * 2 ^ ne))), .second, .val (.double (FP.ddiv (FP.l2d (Int64.ofNat (nk * nc * 256 + (8 - nk) * ns * 2 ^ ne))) (FP.dmul (4656722014701092864 : UInt64) (FP.i2d (Int32.ofNat (2 ^ ne)))))), .second]) rfl kq) ?_
        show GoW p e below s _ _ _ T34 (mkF m 287 #[.val (.int x0), .val (.int x1), .val (.int x2), .val (.int x3), .val (.int x4), .val (.int x5), .val (.int (Int32.ofNat nk)), .val (.int (Int32.ofNat ns)), .val (.int ((XT.ushr x1 (8 : Int32)) &&& (3 : Int32))), .val (.double (FP.ddiv (FP.i2d (Int32.ofNat nk)) (4620693217682128896 : UInt64))), .second, .val (.double (FP.ddiv (FP.i2d (Int32.ofNat ns)) (4643211215818981376 : UInt64))), .second, .val (.ref a32), .val (.int (Int32.ofNat ne)), .val (.int (Int32.ofNat (2 ^ ne))), .val (.int (Int32.ofNat nc)), .val (.long (Int64.ofNat (nk * nc * 256 + (8 - nk) * ns * 2 ^ ne))), .second, .val (.double (FP.ddiv (FP.l2d (Int64.ofNat (nk * nc * 256 + (8 - nk) * ns * 2 ^ ne))) (FP.dmul (4656722014701092864 : UInt64) (FP.i2d (Int32.ofNat (2 ^ ne)))))), .second] [])
        refine gw_st (fun _ kq => XS.aload X34.here hx rfl (hb hby at_287) rfl rfl kq) ?_
        show GoW p e below s _ _ _ T34 (mkF m 289 #[.val (.int x0), .val (.int x1), .val (.int x2), .val (.int x3), .val (.int x4), .val (.int x5), .val (.int (Int32.ofNat nk)), .val (.int (Int32.ofNat ns)), .val (.int ((XT.ushr x1 (8 : Int32)) &&& (3 : Int32))), .val (.double (FP.ddiv (FP.i2d (Int32.ofNat nk)) (4620693217682128896 : UInt64))), .second, .val (.double (FP.ddiv (FP.i2d (Int32.ofNat ns)) (4643211215818981376 : UInt64))), .second, .val (.ref a32), .val (.int (Int32.ofNat ne)), .val (.int (Int32.ofNat (2 ^ ne))), .val (.int (Int32.ofNat nc)), .val (.long (Int64.ofNat (nk * nc * 256 + (8 - nk) * ns * 2 ^ ne))), .second, .val (.double (FP.ddiv (FP.l2d (Int64.ofNat (nk * nc * 256 + (8 - nk) * ns * 2 ^ ne))) (FP.dmul (4656722014701092864 : UInt64) (FP.i2d (Int32.ofNat (2 ^ ne)))))), .second] [(.ref a32)])
        refine gw_st (fun _ kq => XS.iload X34.here hx rfl (hb hby at_289) rfl kq) ?_
        show GoW p e below s _ _ _ T34 (mkF m 291 #[.val (.int x0), .val (.int x1), .val (.int x2), .val (.int x3), .val (.int x4), .val (.int x5), .val (.int (Int32.ofNat nk)), .val (.int (Int32.ofNat ns)), .val (.int ((XT.ushr x1 (8 : Int32)) &&& (3 : Int32))), .val (.double (FP.ddiv (FP.i2d (Int32.ofNat nk)) (4620693217682128896 : UInt64))), .second, .val (.double (FP.ddiv (FP.i2d (Int32.ofNat ns)) (4643211215818981376 : UInt64))), .second, .val (.ref a32), .val (.int (Int32.ofNat ne)), .val (.int (Int32.ofNat (2 ^ ne))), .val (.int (Int32.ofNat nc)), .val (.long (Int64.ofNat (nk * nc * 256 + (8 - nk) * ns * 2 ^ ne))), .second, .val (.double (FP.ddiv (FP.l2d (Int64.ofNat (nk * nc * 256 + (8 - nk) * ns * 2 ^ ne))) (FP.dmul (4656722014701092864 : UInt64) (FP.i2d (Int32.ofNat (2 ^ ne)))))), .second] [(.int (Int32.ofNat nc)), (.ref a32)])
        refine gw_st (fun _ kq => XS.iload X34.here hx rfl (hb hby at_291) rfl kq) ?_
        show GoW p e below s _ _ _ T34 (mkF m 293 #[.val (.int x0), .val (.int x1), .val (.int x2), .val (.int x3), .val (.int x4), .val (.int x5), .val (.int (Int32.ofNat nk)), .val (.int (Int32.ofNat ns)), .val (.int ((XT.ushr x1 (8 : Int32)) &&& (3 : Int32))), .val (.double (FP.ddiv (FP.i2d (Int32.ofNat nk)) (4620693217682128896 : UInt64))), .second, .val (.double (FP.ddiv (FP.i2d (Int32.ofNat ns)) (4643211215818981376 : UInt64))), .second, .val (.ref a32), .val (.int (Int32.ofNat ne)), .val (.int (Int32.ofNat (2 ^ ne))), .val (.int (Int32.ofNat nc)), .val (.long (Int64.ofNat (nk * nc * 256 + (8 - nk) * ns * 2 ^ ne))), .second, .val (.double (FP.ddiv (FP.l2d (Int64.ofNat (nk * nc * 256 + (8 - nk) * ns * 2 ^ ne))) (FP.dmul (4656722014701092864 : UInt64) (FP.i2d (Int32.ofNat (2 ^ ne)))))), .second] [(.int (Int32.ofNat (2 ^ ne))), (.int (Int32.ofNat nc)), (.ref a32)])
        refine gw_st (fun _ kq => XS.iload X34.here hx rfl (hb hby at_293) rfl kq) ?_
        show GoW p e below s _ _ _ T34 (mkF m 295 #[.val (.int x0), .val (.int x1), .val (.int x2), .val (.int x3), .val (.int x4), .val (.int x5), .val (.int (Int32.ofNat nk)), .val (.int (Int32.ofNat ns)), .val (.int ((XT.ushr x1 (8 : Int32)) &&& (3 : Int32))), .val (.double (FP.ddiv (FP.i2d (Int32.ofNat nk)) (4620693217682128896 : UInt64))), .second, .val (.double (FP.ddiv (FP.i2d (Int32.ofNat ns)) (4643211215818981376 : UInt64))), .second, .val (.ref a32), .val (.int (Int32.ofNat ne)), .val (.int (Int32.ofNat (2 ^ ne))), .val (.int (Int32.ofNat nc)), .val (.long (Int64.ofNat (nk * nc * 256 + (8 - nk) * ns * 2 ^ ne))), .second, .val (.double (FP.ddiv (FP.l2d (Int64.ofNat (nk * nc * 256 + (8 - nk) * ns * 2 ^ ne))) (FP.dmul (4656722014701092864 : UInt64) (FP.i2d (Int32.ofNat (2 ^ ne)))))), .second] [(.int x4), (.int (Int32.ofNat (2 ^ ne))), (.int (Int32.ofNat nc)), (.ref a32)])
        refine gw_st (fun _ kq => XS.dload X34.here hx rfl (hb hby at_295) rfl kq) ?_
        show GoW p e below s _ _ _ T34 (mkF m 297 #[.val (.int x0), .val (.int x1), .val (.int x2), .val (.int x3), .val (.int x4), .val (.int x5), .val (.int (Int32.ofNat nk)), .val (.int (Int32.ofNat ns)), .val (.int ((XT.ushr x1 (8 : Int32)) &&& (3 : Int32))), .val (.double (FP.ddiv (FP.i2d (Int32.ofNat nk)) (4620693217682128896 : UInt64))), .second, .val (.double (FP.ddiv (FP.i2d (Int32.ofNat ns)) (4643211215818981376 : UInt64))), .second, .val (.ref a32), .val (.int (Int32.ofNat ne)), .val (.int (Int32.ofNat (2 ^ ne))), .val (.int (Int32.ofNat nc)), .val (.long (Int64.ofNat (nk * nc * 256 + (8 - nk) * ns * 2 ^ ne))), .second, .val (.double (FP.ddiv (FP.l2d (Int64.ofNat (nk * nc * 256 + (8 - nk) * ns * 2 ^ ne))) (FP.dmul (4656722014701092864 : UInt64) (FP.i2d (Int32.ofNat (2 ^ ne)))))), .second] [(.double (FP.ddiv (FP.i2d (Int32.ofNat ns)) (4643211215818981376 : UInt64))), (.int x4), (.int (Int32.ofNat (2 ^ ne))), (.int (Int32.ofNat nc)), (.ref a32)])
        refine gw_st (fun _ kq => XS.iload X34.here hx rfl (hb hby at_297) rfl kq) ?_
        show GoW p e below s _ _ _ T34 (mkF m 299 #[.val (.int x0), .val (.int x1), .val (.int x2), .val (.int x3), .val (.int x4), .val (.int x5), .val (.int (Int32.ofNat nk)), .val (.int (Int32.ofNat ns)), .val (.int ((XT.ushr x1 (8 : Int32)) &&& (3 : Int32))), .val (.double (FP.ddiv (FP.i2d (Int32.ofNat nk)) (4620693217682128896 : UInt64))), .second, .val (.double (FP.ddiv (FP.i2d (Int32.ofNat ns)) (4643211215818981376 : UInt64))), .second, .val (.ref a32), .val (.int (Int32.ofNat ne)), .val (.int (Int32.ofNat (2 ^ ne))), .val (.int (Int32.ofNat nc)), .val (.long (Int64.ofNat (nk * nc * 256 + (8 - nk) * ns * 2 ^ ne))), .second, .val (.double (FP.ddiv (FP.l2d (Int64.ofNat (nk * nc * 256 + (8 - nk) * ns * 2 ^ ne))) (FP.dmul (4656722014701092864 : UInt64) (FP.i2d (Int32.ofNat (2 ^ ne)))))), .second] [(.int x5), (.double (FP.ddiv (FP.i2d (Int32.ofNat ns)) (4643211215818981376 : UInt64))), (.int x4), (.int (Int32.ofNat (2 ^ ne))), (.int (Int32.ofNat nc)), (.ref a32)])
        have z63 : n0 ≤ T34.heap.size := Nat.le_trans z35 K34.1
        refine gw_callV X34 hx hZ hml hown (hw _ (List.mem_of_getElem? (i := 27) rfl)) (hw _ (List.mem_of_getElem? (i := 28) rfl)) (notFace_of_selects (args := #[]) (mvT hZ (hw _ (List.mem_of_getElem? (i := 30) rfl)))) (hw _ (List.mem_of_getElem? (i := 30) rfl)) (hw _ (List.mem_of_getElem? (i := 29) rfl)) (hw _ (List.mem_of_getElem? (i := 31) rfl)) (hw _ (List.mem_of_getElem? (i := 5) rfl)) rfl f34_0 (argsL := [(.int (Int32.ofNat nc)), (.int (Int32.ofNat (2 ^ ne))), (.int x4), (.double (FP.ddiv (FP.i2d (Int32.ofNat ns)) (4643211215818981376 : UInt64))), (.int x5)]) (rest := []) (W := 0) (met_pn l Z a0 hw a32 (FP.ddiv (FP.i2d (Int32.ofNat nk)) (4620693217682128896 : UInt64)) (FP.ddiv (FP.i2d (Int32.ofNat ns)) (4643211215818981376 : UInt64)) x4 x5 nk ns nc (2 ^ ne) nc ne T34.heap n0 z63 dy29 dy31 (by first | assumption | decide | omega) (by first | assumption | decide | omega) (by first | assumption | decide | omega) f34_1 (by first | assumption | decide | omega) (by first | assumption | decide | omega) rfl (by first | assumption | decide | omega) (by first | assumption | decide | omega) (by first | assumption | decide | omega)) (hb hby at_299) rfl rfl rfl (lenOf pd2 rfl) (by show 2 * 0 + _ ≤ _; exact Nat.le_of_eq rfl) (by decide) (by decide) (by decide) (by decide) (by decide) ?_
        intro T62 v62 L62 X62 q62
        obtain ⟨rq_62, rfl, M62, K62, p62_0⟩ := q62
        have N62 := Fr.app N34 M62
        show GoW p e below s _ _ _ T62 (mkF m 302 #[.val (.int x0), .val (.int x1), .val (.int x2), .val (.int x3), .val (.int x4), .val (.int x5), .val (.int (Int32.ofNat nk)), .val (.int (Int32.ofNat ns)), .val (.int ((XT.ushr x1 (8 : Int32)) &&& (3 : Int32))), .val (.double (FP.ddiv (FP.i2d (Int32.ofNat nk)) (4620693217682128896 : UInt64))), .second, .val (.double (FP.ddiv (FP.i2d (Int32.ofNat ns)) (4643211215818981376 : UInt64))), .second, .val (.ref a32), .val (.int (Int32.ofNat ne)), .val (.int (Int32.ofNat (2 ^ ne))), .val (.int (Int32.ofNat nc)), .val (.long (Int64.ofNat (nk * nc * 256 + (8 - nk) * ns * 2 ^ ne))), .second, .val (.double (FP.ddiv (FP.l2d (Int64.ofNat (nk * nc * 256 + (8 - nk) * ns * 2 ^ ne))) (FP.dmul (4656722014701092864 : UInt64) (FP.i2d (Int32.ofNat (2 ^ ne)))))), .second] [(.double rq_62)])
        refine gw_st (fun _ kq => XS.dload X62.here hx rfl (hb hby at_302) rfl kq) ?_
        show GoW p e below s _ _ _ T62 (mkF m 304 #[.val (.int x0), .val (.int x1), .val (.int x2), .val (.int x3), .val (.int x4), .val (.int x5), .val (.int (Int32.ofNat nk)), .val (.int (Int32.ofNat ns)), .val (.int ((XT.ushr x1 (8 : Int32)) &&& (3 : Int32))), .val (.double (FP.ddiv (FP.i2d (Int32.ofNat nk)) (4620693217682128896 : UInt64))), .second, .val (.double (FP.ddiv (FP.i2d (Int32.ofNat ns)) (4643211215818981376 : UInt64))), .second, .val (.ref a32), .val (.int (Int32.ofNat ne)), .val (.int (Int32.ofNat (2 ^ ne))), .val (.int (Int32.ofNat nc)), .val (.long (Int64.ofNat (nk * nc * 256 + (8 - nk) * ns * 2 ^ ne))), .second, .val (.double (FP.ddiv (FP.l2d (Int64.ofNat (nk * nc * 256 + (8 - nk) * ns * 2 ^ ne))) (FP.dmul (4656722014701092864 : UInt64) (FP.i2d (Int32.ofNat (2 ^ ne)))))), .second] [(.double (FP.ddiv (FP.l2d (Int64.ofNat (nk * nc * 256 + (8 - nk) * ns * 2 ^ ne))) (FP.dmul (4656722014701092864 : UInt64) (FP.i2d (Int32.ofNat (2 ^ ne)))))), (.double rq_62)])
        refine gw_st (fun _ kq => XS.dcmpS X62.here hx rfl (hb hby at_304) rfl rfl kq) ?_
        show GoW p e below s _ _ _ T62 (mkF m 305 #[.val (.int x0), .val (.int x1), .val (.int x2), .val (.int x3), .val (.int x4), .val (.int x5), .val (.int (Int32.ofNat nk)), .val (.int (Int32.ofNat ns)), .val (.int ((XT.ushr x1 (8 : Int32)) &&& (3 : Int32))), .val (.double (FP.ddiv (FP.i2d (Int32.ofNat nk)) (4620693217682128896 : UInt64))), .second, .val (.double (FP.ddiv (FP.i2d (Int32.ofNat ns)) (4643211215818981376 : UInt64))), .second, .val (.ref a32), .val (.int (Int32.ofNat ne)), .val (.int (Int32.ofNat (2 ^ ne))), .val (.int (Int32.ofNat nc)), .val (.long (Int64.ofNat (nk * nc * 256 + (8 - nk) * ns * 2 ^ ne))), .second, .val (.double (FP.ddiv (FP.l2d (Int64.ofNat (nk * nc * 256 + (8 - nk) * ns * 2 ^ ne))) (FP.dmul (4656722014701092864 : UInt64) (FP.i2d (Int32.ofNat (2 ^ ne)))))), .second] [(.int (cmpValue (FP.dcmp rq_62 (FP.ddiv (FP.l2d (Int64.ofNat (nk * nc * 256 + (8 - nk) * ns * 2 ^ ne))) (FP.dmul (4656722014701092864 : UInt64) (FP.i2d (Int32.ofNat (2 ^ ne)))))) .l))])
        have hb64 : (cmpValue (FP.dcmp rq_62 (FP.ddiv (FP.l2d (Int64.ofNat (nk * nc * 256 + (8 - nk) * ns * 2 ^ ne))) (FP.dmul (4656722014701092864 : UInt64) (FP.i2d (Int32.ofNat (2 ^ ne)))))) .l) = (0 : Int32) := by rw [show FP.dcmp rq_62 (FP.ddiv (FP.l2d (Int64.ofNat (nk * nc * 256 + (8 - nk) * ns * 2 ^ ne))) (FP.dmul (4656722014701092864 : UInt64) (FP.i2d (Int32.ofNat (2 ^ ne))))) = some .eq from own_cmp_eq p62_0 dy61 (by rfl)]; rfl
        refine gw_st (fun _ kq => XS.ifNo X62.here hx rfl (hb hby at_305) rfl (XT.i0_ne_f hb64) kq) ?_
        show GoW p e below s _ _ _ T62 (mkF m 308 #[.val (.int x0), .val (.int x1), .val (.int x2), .val (.int x3), .val (.int x4), .val (.int x5), .val (.int (Int32.ofNat nk)), .val (.int (Int32.ofNat ns)), .val (.int ((XT.ushr x1 (8 : Int32)) &&& (3 : Int32))), .val (.double (FP.ddiv (FP.i2d (Int32.ofNat nk)) (4620693217682128896 : UInt64))), .second, .val (.double (FP.ddiv (FP.i2d (Int32.ofNat ns)) (4643211215818981376 : UInt64))), .second, .val (.ref a32), .val (.int (Int32.ofNat ne)), .val (.int (Int32.ofNat (2 ^ ne))), .val (.int (Int32.ofNat nc)), .val (.long (Int64.ofNat (nk * nc * 256 + (8 - nk) * ns * 2 ^ ne))), .second, .val (.double (FP.ddiv (FP.l2d (Int64.ofNat (nk * nc * 256 + (8 - nk) * ns * 2 ^ ne))) (FP.dmul (4656722014701092864 : UInt64) (FP.i2d (Int32.ofNat (2 ^ ne)))))), .second] [])
        refine gw_st (fun _ kq => XT.iconstV X62.here hx rfl (1 : Int32) (hb hby at_308) (by decide) kq) ?_
        show GoW p e below s _ _ _ T62 (mkF m 309 #[.val (.int x0), .val (.int x1), .val (.int x2), .val (.int x3), .val (.int x4), .val (.int x5), .val (.int (Int32.ofNat nk)), .val (.int (Int32.ofNat ns)), .val (.int ((XT.ushr x1 (8 : Int32)) &&& (3 : Int32))), .val (.double (FP.ddiv (FP.i2d (Int32.ofNat nk)) (4620693217682128896 : UInt64))), .second, .val (.double (FP.ddiv (FP.i2d (Int32.ofNat ns)) (4643211215818981376 : UInt64))), .second, .val (.ref a32), .val (.int (Int32.ofNat ne)), .val (.int (Int32.ofNat (2 ^ ne))), .val (.int (Int32.ofNat nc)), .val (.long (Int64.ofNat (nk * nc * 256 + (8 - nk) * ns * 2 ^ ne))), .second, .val (.double (FP.ddiv (FP.l2d (Int64.ofNat (nk * nc * 256 + (8 - nk) * ns * 2 ^ ne))) (FP.dmul (4656722014701092864 : UInt64) (FP.i2d (Int32.ofNat (2 ^ ne)))))), .second] [(.int (1 : Int32))])
        refine gw_st (fun _ kq => XS.goto X62.here hx rfl (pc0 := 309) (pc' := 313) rfl (hb hby at_309) (by decide) (by decide) kq) ?_
        show GoW p e below s _ _ _ T62 (mkF m 313 #[.val (.int x0), .val (.int x1), .val (.int x2), .val (.int x3), .val (.int x4), .val (.int x5), .val (.int (Int32.ofNat nk)), .val (.int (Int32.ofNat ns)), .val (.int ((XT.ushr x1 (8 : Int32)) &&& (3 : Int32))), .val (.double (FP.ddiv (FP.i2d (Int32.ofNat nk)) (4620693217682128896 : UInt64))), .second, .val (.double (FP.ddiv (FP.i2d (Int32.ofNat ns)) (4643211215818981376 : UInt64))), .second, .val (.ref a32), .val (.int (Int32.ofNat ne)), .val (.int (Int32.ofNat (2 ^ ne))), .val (.int (Int32.ofNat nc)), .val (.long (Int64.ofNat (nk * nc * 256 + (8 - nk) * ns * 2 ^ ne))), .second, .val (.double (FP.ddiv (FP.l2d (Int64.ofNat (nk * nc * 256 + (8 - nk) * ns * 2 ^ ne))) (FP.dmul (4656722014701092864 : UInt64) (FP.i2d (Int32.ofNat (2 ^ ne)))))), .second] [(.int (1 : Int32))])
        exact gw_retB (w := (1 : Int32)) X62 hx hlk hret (hb hby at_313) (by decide) (by decide) (by decide) ⟨rfl, N62⟩
set_option maxRecDepth 65536 in
set_option maxHeartbeats 4000000 in
theorem comes_1 {Post : Tables → Env → Array Value → State → Outcome → State → Prop} (hpost : ∀ tb e args s v u, (limb_1_1.after args s (.returned v) u = true ∧ limb_1_2.after args s (.returned v) u = true ∧ True) → ReturnedEndW s (.returned v) u (Jvm.fieldLocs frame_1_writes args s ++ Jvm.arrayLocs frame_1_arrays args s ++ Jvm.staticLocs frame_1_statics s) 16 1152 → Post tb e args s (.returned v) u) :
    ArmFor flags0 classFile x code maxLocals ret World_1 tables_1 room_1 Calls_1 rest_1 Pre_1 Post := by
  intro l hfl _ _ p e ha hc hk s m args below hf hA hF happ hP
  obtain ⟨hcalls, hrest, hpre⟩ := hP
  obtain ⟨-, -, -, hnamed, -, -, -, hat⟩ := (Spec.applies_iff hf).mp happ
  obtain ⟨hg, hn⟩ := and_e (Cond.before_iff.mp (show (Jvm.Cond.and given_1 narrow_1).before args s = true from hpre))
  obtain ⟨k1, r1⟩ := and_e hg
  obtain ⟨g0, r2⟩ := and_e r1
  obtain ⟨g1, r3⟩ := and_e r2
  obtain ⟨g2, r4⟩ := and_e r3
  obtain ⟨g3, r5⟩ := and_e r4
  obtain ⟨g4, r6⟩ := and_e r5
  have g5 := r6
  obtain ⟨w0, w1, w2, w3, w4, w5, rfl⟩ : ∃ w0 w1 w2 w3 w4 w5 : Value, args = #[w0, w1, w2, w3, w4, w5] := by
    have hs : args.size = 6 := by simpa [Cond.value, given_1] using k1
    obtain ⟨L⟩ := args
    match L, hs with
    | [w0, w1, w2, w3, w4, w5], _ => exact ⟨w0, w1, w2, w3, w4, w5, rfl⟩
  have hw := fun d (hd : d ∈ tables_1) => atoms_spec (ws := Jvm.Cond.code x code maxLocals ret :: tables_1) hat d (List.mem_cons_of_mem _ hd)
  have hfit : Fit s := fun {y c} hc i hi => by
    obtain ⟨ha, rfl⟩ := Array.getElem?_eq_some_iff.mp hc
    have q := List.all_eq_true.mp ((Array.all_eq_true_iff_forall_mem.mp hF) _ (Array.getElem_mem ha)) i (List.mem_range.mpr hi)
    simpa [Array.getElem?_eq_getElem hi] using q
  obtain ⟨i0, f0⟩ := is_v g0
  obtain rfl : w0 = (.int i0) := Option.some.inj f0
  obtain ⟨i1, f1⟩ := is_v g1
  obtain rfl : w1 = (.int i1) := Option.some.inj f1
  obtain ⟨i2, f2⟩ := is_v g2
  obtain rfl : w2 = (.int i2) := Option.some.inj f2
  obtain ⟨i3, f3⟩ := is_v g3
  obtain rfl : w3 = (.int i3) := Option.some.inj f3
  obtain ⟨i4, f4⟩ := is_v g4
  obtain rfl : w4 = (.int i4) := Option.some.inj f4
  obtain ⟨i5, f5⟩ := is_v g5
  obtain rfl : w5 = (.int i5) := Option.some.inj f5
  have hm := met_law l s _ hw i0 i1 i2 i3 i4 i5 s.heap s.heap.size (Nat.le_refl _)
  obtain ⟨n, o, h1, h2, h3, _, L, rfl, ⟨rfl, N⟩, hq⟩ := hm p e ha hc hk s m _ below hf ((Spec.applies_iff_loose hf).mp happ).1 ⟨rfl, State.Warmed39.refl s, rfl, own_ch0, own_sf0⟩ trivial
  refine ⟨n, _, h1, h2, h3, hpost _ _ _ _ _ _ ⟨Cond.after_iff.mpr rfl, Cond.after_iff.mpr (eq_i res_at (Term.int_eval (1)) rfl), trivial⟩ ⟨hq.1, hq.2.1, hq.2.2.1, (hq.2.2.2.sift fun y hy => Or.inr (N y hy)).mono (by decide) (by decide)⟩⟩
theorem main_1_1 : Claimed_1_1 := comes_1 fun _ _ _ _ _ _ h hF => ⟨h.1, hF⟩
theorem main_1_2 : Claimed_1_2 := comes_1 fun _ _ _ _ _ _ h hF => ⟨h.2.1, hF⟩
end Jvm.Pilot.@@N@@
namespace Jvm.Pilot.@@N@@
open Jvm Jvm.ClassFile Sem Op Lib Jvm.Free Jvm.Stand Jvm.Pilot.@@N@@.Jvm.D
/-! MADE BY PROGRAM (witnessworld.py) out of the Statement's table words and the real class files: 17 classes; the members and pool entries that the words name. The judged class is class 1, her method 1. -/
namespace start1
open Jvm.ClassFile
def u (s : String) : CpInfo := .utf8 (stringToUtf16 s)
/-- a pool by its gaps: so many unusable entries, then the entry; so many at the end -/
def gap : Nat → List CpInfo → List CpInfo
  | 0, r => r
  | n + 1, r => .unusable :: gap n r
def poolList (es : List (Nat × CpInfo)) (last : Nat) : List CpInfo := es.foldr (fun e r => gap e.1 (e.2 :: r)) (gap last [])
def pool (es : List (Nat × CpInfo)) (last : Nat) : Array CpInfo := ⟨poolList es last⟩
def fileOf (pool : Array CpInfo) (this : Nat) (attrs : Array Attribute := #[]) (ms : Array MethodInfo := #[]) (fl : Nat := 33) (sup : Nat := 0) (ifs : Array Nat := #[]) (fds : Array FieldInfo := #[]) : ClassFile where
  minorVersion := 0
  majorVersion := 65
  constantPool := pool
  accessFlags := fl
  thisClass := this
  superClass := sup
  interfaces := ifs
  fields := fds
  methods := ms
  attributes := attrs
def plain (name : String) (sup : Option ClassId) : Class where
  name := name
  kind := .ordinary
  loader := none
  accessFlags := 33
  super := sup
  interfaces := #[]
  cf := none
  fields := #[]
  methods := #[]
  instanceTypes := #[]
  staticTypes := #[]
  resolved := #[]
  callSites := []
  init := .initialized
  statics := none
  mirror := none

def pool0 : Array CpInfo := pool [(5, u "<init>"), (0, u "()V"), (1, .class_ 10), (1, u "java/lang/Object")] 113

def k0c0 : Code := { maxStack := 0, maxLocals := 1, code := object_method_1_code, exceptionTable := #[], attributes := #[] }
def k0m0 : Method := { name := "<init>", desc := "()V", sig := { parameters := [], returnType := none }, accessFlags := 1, code := some k0c0 }
/-- java/lang/Object -/
def k0 : Class := { plain "java/lang/Object" none with
  accessFlags := 33
  interfaces := #[]
  cf := some (fileOf pool0 8 #[] #[{ accessFlags := 1, nameIndex := 5, descriptorIndex := 6, attributes := #[] }] 33 0 #[] #[])
  fields := #[]
  methods := #[k0m0]
  instanceTypes := #[]
  staticTypes := #[]
  resolved := Array.replicate 124 none
  statics := none }

def pool1 : Array CpInfo := pool [(2, .class_ 4), (1, u "java/lang/Object"), (0, u "<init>"), (0, u "()V"), (0, .integer 2147483647), (0, .double 4620693217682128896), (1, .double 4643211215818981376), (1, .class_ 13), (0, u "com/example/query_likelihood_ranker/querylikelihoodranker/ranking/JelinekMercerSmoothing"), (0, .methodref 12 15), (0, .nameAndType 5 16), (0, u "(D)V"), (0, .double 4656722014701092864), (1, .methodref 12 20), (0, .nameAndType 21 22), (0, u "probability"), (0, u "(IIIDI)D"), (0, .methodref 24 25), (0, .class_ 26), (0, .nameAndType 27 28), (0, u "java/lang/Math"), (0, u "max"), (0, u "(II)I"), (0, .long 256), (1, .class_ 32), (0, u "com/example/query_likelihood_ranker/querylikelihoodranker/ranking/JelinekMercerSmoothingProbabilityPinLaw"), (2, u "law"), (0, u "(IIIIII)Z")] 3

def k1m0 : Method := { name := "<init>", desc := "()V", sig := { parameters := [], returnType := none }, accessFlags := 2, code := none }
def k1c1 : Code := { maxStack := 7, maxLocals := 21, code := code, exceptionTable := #[], attributes := #[] }
def k1m1 : Method := { name := "law", desc := "(IIIIII)Z", sig := { parameters := [.int, .int, .int, .int, .int, .int], returnType := some .boolean }, accessFlags := 9, code := some k1c1 }
/-- com/example/query_likelihood_ranker/querylikelihoodranker/ranking/JelinekMercerSmoothingProbabilityPinLaw -/
def k1 : Class := { plain "com/example/query_likelihood_ranker/querylikelihoodranker/ranking/JelinekMercerSmoothingProbabilityPinLaw" (some 0) with
  accessFlags := 49
  interfaces := #[]
  cf := some (fileOf pool1 31 #[] #[{ accessFlags := 2, nameIndex := 5, descriptorIndex := 6, attributes := #[] }, { accessFlags := 9, nameIndex := 35, descriptorIndex := 36, attributes := #[] }] 49 2 #[] #[])
  fields := #[]
  methods := #[k1m0, k1m1]
  instanceTypes := #[]
  staticTypes := #[]
  resolved := Array.replicate 40 none
  statics := none }

def pool2 : Array CpInfo := pool [(2, .class_ 4), (1, u "com/example/query_likelihood_ranker/querylikelihoodranker/ranking/Smoothing"), (8, .class_ 14), (0, u "java/lang/Object")] 7

/-- com/example/query_likelihood_ranker/querylikelihoodranker/ranking/Smoothing -/
def k2 : Class := { plain "com/example/query_likelihood_ranker/querylikelihoodranker/ranking/Smoothing" (some 0) with
  accessFlags := 1537
  interfaces := #[]
  cf := some (fileOf pool2 2 #[] #[] 1537 13 #[] #[])
  fields := #[]
  methods := #[]
  instanceTypes := #[]
  staticTypes := #[]
  resolved := Array.replicate 22 none
  statics := none }

def pool3 : Array CpInfo := pool [(1, .methodref 2 3), (0, .class_ 4), (0, .nameAndType 5 6), (0, u "java/lang/Object"), (0, u "<init>"), (0, u "()V"), (0, .string 8), (0, u "lambda"), (0, .methodref 10 11), (0, .class_ 12), (0, .nameAndType 13 14), (0, u "com/example/query_likelihood_ranker/querylikelihoodranker/ranking/SmoothingParameters"), (0, u "strictlyBetweenZeroAndOne"), (0, u "(Ljava/lang/String;D)D"), (0, .fieldref 16 17), (0, .class_ 18), (0, .nameAndType 19 20), (0, u "com/example/query_likelihood_ranker/querylikelihoodranker/ranking/JelinekMercerSmoothing"), (0, u "m_lambda"), (0, u "D"), (0, .class_ 22), (0, u "com/example/query_likelihood_ranker/querylikelihoodranker/ranking/Smoothing"), (0, u "(D)V"), (5, u "probability"), (0, u "(IIIDI)D")] 3

def k3c0 : Code := { maxStack := 4, maxLocals := 3, code := prog_59_method_1_code, exceptionTable := #[], attributes := #[] }
def k3m0 : Method := { name := "<init>", desc := "(D)V", sig := { parameters := [.double], returnType := none }, accessFlags := 1, code := some k3c0 }
def k3c1 : Code := { maxStack := 6, maxLocals := 9, code := prog_59_method_4_code, exceptionTable := #[], attributes := #[] }
def k3m1 : Method := { name := "probability", desc := "(IIIDI)D", sig := { parameters := [.int, .int, .int, .double, .int], returnType := some .double }, accessFlags := 1, code := some k3c1 }
/-- com/example/query_likelihood_ranker/querylikelihoodranker/ranking/JelinekMercerSmoothing -/
def k3 : Class := { plain "com/example/query_likelihood_ranker/querylikelihoodranker/ranking/JelinekMercerSmoothing" (some 0) with
  accessFlags := 49
  interfaces := #[2]
  cf := some (fileOf pool3 16 #[] #[{ accessFlags := 1, nameIndex := 5, descriptorIndex := 23, attributes := #[] }, { accessFlags := 1, nameIndex := 29, descriptorIndex := 30, attributes := #[] }] 49 2 #[21] #[{ accessFlags := 18, nameIndex := 19, descriptorIndex := 20, attributes := #[] }])
  fields := #[{ name := "m_lambda", type := .double, accessFlags := 18, slot := 0, constantValue := 0 }]
  methods := #[k3m0, k3m1]
  instanceTypes := #[.double]
  staticTypes := #[]
  resolved := Array.replicate 34 none
  statics := none }

def pool4 : Array CpInfo := pool [(1, .class_ 2), (0, u "java/io/Serializable"), (0, .class_ 4), (0, u "java/lang/Object")] 2

/-- java/io/Serializable -/
def k4 : Class := { plain "java/io/Serializable" (some 0) with
  accessFlags := 1537
  interfaces := #[]
  cf := some (fileOf pool4 1 #[] #[] 1537 3 #[] #[])
  fields := #[]
  methods := #[]
  instanceTypes := #[]
  staticTypes := #[]
  resolved := Array.replicate 7 none
  statics := none }

def pool5 : Array CpInfo := pool [(1, .class_ 2), (0, u "java/lang/Comparable"), (0, .class_ 4), (0, u "java/lang/Object")] 7

/-- java/lang/Comparable -/
def k5 : Class := { plain "java/lang/Comparable" (some 0) with
  accessFlags := 1537
  interfaces := #[]
  cf := some (fileOf pool5 1 #[] #[] 1537 3 #[] #[])
  fields := #[]
  methods := #[]
  instanceTypes := #[]
  staticTypes := #[]
  resolved := Array.replicate 12 none
  statics := none }

def pool6 : Array CpInfo := pool [(2, .class_ 4), (1, u "java/lang/CharSequence"), (42, .class_ 48), (0, u "java/lang/CharSequence$1CodePointIterator"), (10, .class_ 60), (0, u "java/lang/CharSequence$1CharIterator"), (5, .class_ 67), (0, u "java/lang/Object")] 63

/-- java/lang/CharSequence -/
def k6 : Class := { plain "java/lang/CharSequence" (some 0) with
  accessFlags := 1537
  interfaces := #[]
  cf := some (fileOf pool6 2 #[.nestMembers #[47, 59]] #[] 1537 66 #[] #[])
  fields := #[]
  methods := #[]
  instanceTypes := #[]
  staticTypes := #[]
  resolved := Array.replicate 131 none
  statics := none }

def pool7 : Array CpInfo := pool [(1, .class_ 2), (0, u "java/lang/constant/Constable"), (0, .class_ 4), (0, u "java/lang/Object")] 6

/-- java/lang/constant/Constable -/
def k7 : Class := { plain "java/lang/constant/Constable" (some 0) with
  accessFlags := 1537
  interfaces := #[]
  cf := some (fileOf pool7 1 #[] #[] 1537 3 #[] #[])
  fields := #[]
  methods := #[]
  instanceTypes := #[]
  staticTypes := #[]
  resolved := Array.replicate 11 none
  statics := none }

def pool8 : Array CpInfo := pool [(1, .class_ 2), (0, u "java/lang/constant/ConstantDesc"), (0, .class_ 4), (0, u "java/lang/Object")] 32

/-- java/lang/constant/ConstantDesc -/
def k8 : Class := { plain "java/lang/constant/ConstantDesc" (some 0) with
  accessFlags := 1537
  interfaces := #[]
  cf := some (fileOf pool8 1 #[] #[] 1537 3 #[] #[])
  fields := #[]
  methods := #[]
  instanceTypes := #[]
  staticTypes := #[]
  resolved := Array.replicate 37 none
  statics := none }

def pool9 : Array CpInfo := pool [(2, .class_ 4), (1, u "java/lang/Object"), (0, u "<init>"), (0, u "()V"), (3, .class_ 12), (1, u "java/lang/String"), (0, u "value"), (0, u "[B"), (2, u "coder"), (0, u "B"), (2, u "hash"), (0, u "I"), (2, u "hashIsZero"), (0, u "Z"), (13, u "COMPACT_STRINGS"), (534, .class_ 576), (0, u "java/lang/CharSequence"), (22, u "CASE_INSENSITIVE_ORDER"), (0, u "Ljava/util/Comparator;"), (500, u "serialPersistentFields"), (0, u "[Ljava/io/ObjectStreamField;"), (0, .class_ 1104), (0, u "java/lang/String$CaseInsensitiveComparator"), (1, .class_ 1107), (0, u "java/io/Serializable"), (0, .class_ 1109), (0, u "java/lang/Comparable"), (0, .class_ 1111), (0, u "java/lang/constant/Constable"), (0, .class_ 1113), (0, u "java/lang/constant/ConstantDesc"), (2, u "serialVersionUID"), (0, u "J"), (3, u "REPL"), (0, u "C"), (2, u "LATIN1"), (1, u "UTF16")] 323

def k9m0 : Method := { name := "<init>", desc := "()V", sig := { parameters := [], returnType := none }, accessFlags := 1, code := none }
/-- java/lang/String -/
def k9 : Class := { plain "java/lang/String" (some 0) with
  accessFlags := 49
  interfaces := #[4, 5, 6, 7, 8]
  cf := some (fileOf pool9 10 #[.nestMembers #[1103]] #[{ accessFlags := 1, nameIndex := 5, descriptorIndex := 6, attributes := #[] }] 49 2 #[1106, 1108, 575, 1110, 1112] #[{ accessFlags := 18, nameIndex := 13, descriptorIndex := 14, attributes := #[] }, { accessFlags := 18, nameIndex := 17, descriptorIndex := 18, attributes := #[] }, { accessFlags := 2, nameIndex := 21, descriptorIndex := 22, attributes := #[] }, { accessFlags := 2, nameIndex := 25, descriptorIndex := 26, attributes := #[] }, { accessFlags := 26, nameIndex := 1116, descriptorIndex := 1117, attributes := #[] }, { accessFlags := 24, nameIndex := 40, descriptorIndex := 26, attributes := #[] }, { accessFlags := 26, nameIndex := 1101, descriptorIndex := 1102, attributes := #[] }, { accessFlags := 26, nameIndex := 1121, descriptorIndex := 1122, attributes := #[] }, { accessFlags := 25, nameIndex := 599, descriptorIndex := 600, attributes := #[] }, { accessFlags := 24, nameIndex := 1125, descriptorIndex := 18, attributes := #[] }, { accessFlags := 24, nameIndex := 1127, descriptorIndex := 18, attributes := #[] }])
  fields := #[{ name := "value", type := (.array .byte), accessFlags := 18, slot := 0, constantValue := 0 }, { name := "coder", type := .byte, accessFlags := 18, slot := 1, constantValue := 0 }, { name := "hash", type := .int, accessFlags := 2, slot := 2, constantValue := 0 }, { name := "hashIsZero", type := .boolean, accessFlags := 2, slot := 3, constantValue := 0 }, { name := "serialVersionUID", type := .long, accessFlags := 26, slot := 0, constantValue := 0 }, { name := "COMPACT_STRINGS", type := .boolean, accessFlags := 24, slot := 1, constantValue := 0 }, { name := "serialPersistentFields", type := (.array (.object "java/io/ObjectStreamField")), accessFlags := 26, slot := 2, constantValue := 0 }, { name := "REPL", type := .char, accessFlags := 26, slot := 3, constantValue := 0 }, { name := "CASE_INSENSITIVE_ORDER", type := (.object "java/util/Comparator"), accessFlags := 25, slot := 4, constantValue := 0 }, { name := "LATIN1", type := .byte, accessFlags := 24, slot := 5, constantValue := 0 }, { name := "UTF16", type := .byte, accessFlags := 24, slot := 6, constantValue := 0 }]
  methods := #[k9m0]
  instanceTypes := #[(.array .byte), .byte, .int, .boolean]
  staticTypes := #[.long, .boolean, (.array (.object "java/io/ObjectStreamField")), .char, (.object "java/util/Comparator"), .byte, .byte]
  resolved := Array.replicate 1451 none
  statics := none }

def pool10 : Array CpInfo := pool [(2, .class_ 4), (1, u "java/lang/Object"), (0, u "<init>"), (0, u "()V"), (14, .class_ 22), (0, u "com/example/query_likelihood_ranker/querylikelihoodranker/ranking/SmoothingParameters"), (2, u "strictlyBetweenZeroAndOne"), (0, u "(Ljava/lang/String;D)D")] 21

def k10m0 : Method := { name := "<init>", desc := "()V", sig := { parameters := [], returnType := none }, accessFlags := 2, code := none }
def k10c1 : Code := { maxStack := 5, maxLocals := 3, code := prog_78_method_2_code, exceptionTable := #[], attributes := #[] }
def k10m1 : Method := { name := "strictlyBetweenZeroAndOne", desc := "(Ljava/lang/String;D)D", sig := { parameters := [(.object "java/lang/String"), .double], returnType := some .double }, accessFlags := 8, code := some k10c1 }
/-- com/example/query_likelihood_ranker/querylikelihoodranker/ranking/SmoothingParameters -/
def k10 : Class := { plain "com/example/query_likelihood_ranker/querylikelihoodranker/ranking/SmoothingParameters" (some 0) with
  accessFlags := 48
  interfaces := #[]
  cf := some (fileOf pool10 21 #[] #[{ accessFlags := 2, nameIndex := 5, descriptorIndex := 6, attributes := #[] }, { accessFlags := 8, nameIndex := 25, descriptorIndex := 26, attributes := #[] }] 48 2 #[] #[])
  fields := #[]
  methods := #[k10m0, k10m1]
  instanceTypes := #[]
  staticTypes := #[]
  resolved := Array.replicate 48 none
  statics := none }

def pool11 : Array CpInfo := pool [(1, .class_ 2), (0, u "java/lang/Math"), (1, .class_ 6), (1, u "java/lang/Object"), (0, u "<init>"), (0, u "()V"), (89, .class_ 100), (1, u "java/lang/Math$RandomNumberGeneratorHolder"), (71, u "negativeZeroFloatBits"), (0, u "J"), (2, u "negativeZeroDoubleBits"), (21, u "max"), (46, u "$assertionsDisabled"), (0, u "Z"), (88, u "(II)I"), (2, u "twoToTheDoubleScaleDown"), (0, u "D"), (4, u "twoToTheDoubleScaleUp"), (9, u "E"), (3, u "PI"), (2, u "TAU"), (2, u "DEGREES_TO_RADIANS"), (0, u "RADIANS_TO_DEGREES")] 94

def k11m0 : Method := { name := "<init>", desc := "()V", sig := { parameters := [], returnType := none }, accessFlags := 2, code := none }
def k11c1 : Code := { maxStack := 2, maxLocals := 2, code := jdk_29_method_65_code, exceptionTable := #[], attributes := #[] }
def k11m1 : Method := { name := "max", desc := "(II)I", sig := { parameters := [.int, .int], returnType := some .int }, accessFlags := 9, code := some k11c1 }
/-- java/lang/Math -/
def k11 : Class := { plain "java/lang/Math" (some 0) with
  accessFlags := 49
  interfaces := #[]
  cf := some (fileOf pool11 1 #[.nestMembers #[98]] #[{ accessFlags := 2, nameIndex := 7, descriptorIndex := 8, attributes := #[] }, { accessFlags := 9, nameIndex := 198, descriptorIndex := 335, attributes := #[] }] 49 4 #[] #[{ accessFlags := 25, nameIndex := 354, descriptorIndex := 339, attributes := #[] }, { accessFlags := 25, nameIndex := 358, descriptorIndex := 339, attributes := #[] }, { accessFlags := 25, nameIndex := 361, descriptorIndex := 339, attributes := #[] }, { accessFlags := 26, nameIndex := 364, descriptorIndex := 339, attributes := #[] }, { accessFlags := 26, nameIndex := 365, descriptorIndex := 339, attributes := #[] }, { accessFlags := 26, nameIndex := 172, descriptorIndex := 173, attributes := #[] }, { accessFlags := 26, nameIndex := 176, descriptorIndex := 173, attributes := #[] }, { accessFlags := 8, nameIndex := 344, descriptorIndex := 339, attributes := #[] }, { accessFlags := 8, nameIndex := 338, descriptorIndex := 339, attributes := #[] }, { accessFlags := 4120, nameIndex := 245, descriptorIndex := 246, attributes := #[] }])
  fields := #[{ name := "E", type := .double, accessFlags := 25, slot := 0, constantValue := 0 }, { name := "PI", type := .double, accessFlags := 25, slot := 1, constantValue := 0 }, { name := "TAU", type := .double, accessFlags := 25, slot := 2, constantValue := 0 }, { name := "DEGREES_TO_RADIANS", type := .double, accessFlags := 26, slot := 3, constantValue := 0 }, { name := "RADIANS_TO_DEGREES", type := .double, accessFlags := 26, slot := 4, constantValue := 0 }, { name := "negativeZeroFloatBits", type := .long, accessFlags := 26, slot := 5, constantValue := 0 }, { name := "negativeZeroDoubleBits", type := .long, accessFlags := 26, slot := 6, constantValue := 0 }, { name := "twoToTheDoubleScaleUp", type := .double, accessFlags := 8, slot := 7, constantValue := 0 }, { name := "twoToTheDoubleScaleDown", type := .double, accessFlags := 8, slot := 8, constantValue := 0 }, { name := "$assertionsDisabled", type := .boolean, accessFlags := 4120, slot := 9, constantValue := 0 }]
  methods := #[k11m0, k11m1]
  instanceTypes := #[]
  staticTypes := #[.double, .double, .double, .double, .double, .long, .long, .double, .double, .boolean]
  resolved := Array.replicate 460 none
  statics := none }

def pool12 : Array CpInfo := pool [(1, u "java/lang/Cloneable"), (0, .class_ 1), (0, u "java/lang/Object"), (0, .class_ 3)] 3

/-- java/lang/Cloneable -/
def k12 : Class := { plain "java/lang/Cloneable" (some 0) with
  accessFlags := 1537
  interfaces := #[]
  cf := some (fileOf pool12 2 #[] #[] 1537 4 #[] #[])
  fields := #[]
  methods := #[]
  instanceTypes := #[]
  staticTypes := #[]
  resolved := Array.replicate 8 none
  statics := none }

/-- the primitive byte -/
def k13 : Class := { plain "byte" none with kind := .primitive 'B', accessFlags := 0x411 }
/-- [B -/
def k14 : Class := { plain "[B" (some 0) with kind := .array 13 .byte, interfaces := #[12, 4], accessFlags := 1041 }

/-- the primitive int -/
def k15 : Class := { plain "int" none with kind := .primitive 'I', accessFlags := 0x411 }
/-- [I -/
def k16 : Class := { plain "[I" (some 0) with kind := .array 15 .int, interfaces := #[12, 4], accessFlags := 1041 }

def heap : Heap := #[]
def classes : Array Class := #[k0, k1, k2, k3, k4, k5, k6, k7, k8, k9, k10, k11, k12, k13, k14, k15, k16]
def interned : List (Array UInt16 × Addr) := []
def slotsUsed : Nat := 0
def theMethod : MethodId := ⟨1, 1⟩
def args0 : Array Value := #[.int 5, .int 6, .int 7, .int 8, .int 9, .int 3]
def aboutOver (below : List Frame) : State where
  vm := { classes := classes, interned := interned.toArray }
  heap := heap
  slotsUsed := slotsUsed
  threads := #[{ frames := .invoking theMethod args0 :: below }]
def below0 : List Frame := [.native { method := ⟨0, 0⟩, args := #[] }]
def about1 : State := aboutOver below0
def p0 : Program := .bare "" "" ""
def e0 : Env := launch0.env 0 0 0
theorem w_frames : about1.frames = Frame.invoking theMethod args0 :: below0 := rfl
set_option maxRecDepth 65536 in
theorem w_args : argsFit about1.vm theMethod args0 = true := by decide +kernel
set_option maxRecDepth 65536 in
theorem w_heap : heapFits about1 = true := by decide +kernel
set_option maxRecDepth 65536 in
theorem w_runnable : about1.curStatus? = some .runnable := by decide +kernel
set_option maxRecDepth 65536 in
theorem w_alone : about1.alone = true := by decide +kernel
set_option maxRecDepth 65536 in
theorem w_named : about1.methodNamed? x = some theMethod := by decide +kernel
set_option maxRecDepth 65536 in
theorem w_hears : about1.hears theMethod below0 = true := by decide +kernel
set_option maxRecDepth 65536 in
theorem w_ripe : about1.ripe theMethod args0 below0 = true := by decide +kernel
theorem w_running : about1.status = .running := rfl
set_option maxRecDepth 65536 in
theorem w_room : about1.hasRoom e0.platform room_1 = true :=
  launch0.hasRoom_least _ room_1 (by decide +kernel) (by decide +kernel) (by decide +kernel) (by decide +kernel) (by decide +kernel) (by decide +kernel)
theorem allAtoms_all (ts : List Jvm.Cond) (a : Array Jvm.Value) (st : Jvm.State) : (allAtoms ts).before a st = ts.all (fun c => c.before a st) := by
  induction ts with
  | nil => rfl
  | cons c t ih =>
    show (Jvm.Cond.and c (allAtoms t)).before a st = _
    rw [Jvm.Cond.before_and, ih, List.all_cons]
def words1 : List Jvm.Cond := Jvm.Cond.code x code maxLocals ret :: tables_1
/-- a 'code' word, met by the world's own term for the bytes: nothing is compared byte by byte -/
theorem code_word {y : MethodName} {bytes : ByteArray} {mx : Nat} {rt : Option FieldType} {a : Array Value} {s : State} {m : MethodId} {meth : Method} {c : Code} (h1 : s.methodNamed? y = some m) (h2 : s.vm.method? m = some meth) (h3 : meth.code = some c) (h4 : c.code = bytes)
    (h5 : (c.maxLocals == mx && c.exceptionTable.isEmpty && decide (c.maxStack ≤ mostOperands) && decide (meth.sig.returnType = rt) && !meth.locks && decide (parseMethodDescriptor y.desc = some meth.sig)) = true) : (Jvm.Cond.code y bytes mx rt).before a s = true := by
  simp only [Bool.and_eq_true, beq_iff_eq, Bool.not_eq_true', decide_eq_true_eq] at h5
  obtain ⟨⟨⟨⟨⟨g1, g2⟩, g3⟩, g4⟩, g5⟩, g6⟩ := h5
  simp [Cond.before, Cond.holds, Cond.value, h1, h2, h3, h4, g1, g2, g3, g4, g5, g6]
def isCode : Jvm.Cond → Bool
  | .code _ _ _ _ => true
  | _ => false
theorem all_split {L : List Jvm.Cond} {P : Jvm.Cond → Bool} (h1 : L.all (fun c => isCode c || P c) = true) (h2 : ∀ c ∈ L.filter isCode, P c = true) : L.all P = true := by
  refine List.all_eq_true.mpr fun c hc => ?_
  have h := List.all_eq_true.mp h1 c hc
  rcases Bool.eq_false_or_eq_true (isCode c) with hi | hi
  · exact h2 c (List.mem_filter.mpr ⟨hc, hi⟩)
  · simpa [hi] using h
set_option maxRecDepth 65536 in
theorem w_c0 : (Jvm.Cond.code x code maxLocals ret).before args0 about1 = true := code_word (m := ⟨1, 1⟩) (meth := k1m1) (c := k1c1) (by decide +kernel) rfl rfl rfl (by decide +kernel)
set_option maxRecDepth 65536 in
theorem w_c1 : (Jvm.Cond.code ({ cls := "com/example/query_likelihood_ranker/querylikelihoodranker/ranking/JelinekMercerSmoothing", name := "<init>", desc := "(D)V" } : Jvm.MethodName) prog_59_method_1_code (3 : Nat) (Option.none : Option Jvm.ClassFile.FieldType)).before args0 about1 = true := code_word (m := ⟨3, 0⟩) (meth := k3m0) (c := k3c0) (by decide +kernel) rfl rfl rfl (by decide +kernel)
set_option maxRecDepth 65536 in
theorem w_c2 : (Jvm.Cond.code ({ cls := "java/lang/Object", name := "<init>", desc := "()V" } : Jvm.MethodName) object_method_1_code (1 : Nat) (Option.none : Option Jvm.ClassFile.FieldType)).before args0 about1 = true := code_word (m := ⟨0, 0⟩) (meth := k0m0) (c := k0c0) (by decide +kernel) rfl rfl rfl (by decide +kernel)
set_option maxRecDepth 65536 in
theorem w_c3 : (Jvm.Cond.code ({ cls := "com/example/query_likelihood_ranker/querylikelihoodranker/ranking/SmoothingParameters", name := "strictlyBetweenZeroAndOne", desc := "(Ljava/lang/String;D)D" } : Jvm.MethodName) prog_78_method_2_code (3 : Nat) (Option.some Jvm.ClassFile.FieldType.double)).before args0 about1 = true := code_word (m := ⟨10, 1⟩) (meth := k10m1) (c := k10c1) (by decide +kernel) rfl rfl rfl (by decide +kernel)
set_option maxRecDepth 65536 in
theorem w_c4 : (Jvm.Cond.code ({ cls := "com/example/query_likelihood_ranker/querylikelihoodranker/ranking/JelinekMercerSmoothing", name := "probability", desc := "(IIIDI)D" } : Jvm.MethodName) prog_59_method_4_code (9 : Nat) (Option.some Jvm.ClassFile.FieldType.double)).before args0 about1 = true := code_word (m := ⟨3, 1⟩) (meth := k3m1) (c := k3c1) (by decide +kernel) rfl rfl rfl (by decide +kernel)
set_option maxRecDepth 65536 in
theorem w_c5 : (Jvm.Cond.code ({ cls := "java/lang/Math", name := "max", desc := "(II)I" } : Jvm.MethodName) jdk_29_method_65_code (2 : Nat) (Option.some Jvm.ClassFile.FieldType.int)).before args0 about1 = true := code_word (m := ⟨11, 1⟩) (meth := k11m1) (c := k11c1) (by decide +kernel) rfl rfl rfl (by decide +kernel)
def codes1 : List Jvm.Cond := [Jvm.Cond.code x code maxLocals ret, Jvm.Cond.code ({ cls := "com/example/query_likelihood_ranker/querylikelihoodranker/ranking/JelinekMercerSmoothing", name := "<init>", desc := "(D)V" } : Jvm.MethodName) prog_59_method_1_code (3 : Nat) (Option.none : Option Jvm.ClassFile.FieldType), Jvm.Cond.code ({ cls := "java/lang/Object", name := "<init>", desc := "()V" } : Jvm.MethodName) object_method_1_code (1 : Nat) (Option.none : Option Jvm.ClassFile.FieldType), Jvm.Cond.code ({ cls := "com/example/query_likelihood_ranker/querylikelihoodranker/ranking/SmoothingParameters", name := "strictlyBetweenZeroAndOne", desc := "(Ljava/lang/String;D)D" } : Jvm.MethodName) prog_78_method_2_code (3 : Nat) (Option.some Jvm.ClassFile.FieldType.double), Jvm.Cond.code ({ cls := "com/example/query_likelihood_ranker/querylikelihoodranker/ranking/JelinekMercerSmoothing", name := "probability", desc := "(IIIDI)D" } : Jvm.MethodName) prog_59_method_4_code (9 : Nat) (Option.some Jvm.ClassFile.FieldType.double), Jvm.Cond.code ({ cls := "java/lang/Math", name := "max", desc := "(II)I" } : Jvm.MethodName) jdk_29_method_65_code (2 : Nat) (Option.some Jvm.ClassFile.FieldType.int)]
set_option maxRecDepth 65536 in
theorem codes_eq : words1.filter isCode = codes1 := rfl
theorem w_codes : ∀ c ∈ words1.filter isCode, c.before args0 about1 = true := by
  rw [codes_eq]
  intro c hc
  simp only [codes1, List.mem_cons, List.not_mem_nil, or_false] at hc
  rcases hc with rfl | rfl | rfl | rfl | rfl | rfl
  · exact w_c0
  · exact w_c1
  · exact w_c2
  · exact w_c3
  · exact w_c4
  · exact w_c5
set_option maxRecDepth 65536 in
theorem w_t1 : (words1.take 24).all (fun c => isCode c || c.before args0 about1) = true := by decide +kernel
set_option maxRecDepth 65536 in
theorem w_t2 : (words1.drop 24).all (fun c => isCode c || c.before args0 about1) = true := by decide +kernel
theorem w_tables : (allAtoms (Jvm.Cond.code x code maxLocals ret :: tables_1)).before args0 about1 = true := by
  rw [allAtoms_all]
  show words1.all (fun c => c.before args0 about1) = true
  refine all_split ?_ w_codes
  rw [← List.take_append_drop 24 words1, List.all_append, w_t1, w_t2]
  rfl
set_option maxRecDepth 65536 in
theorem w_case : (Jvm.Cond.and given_1 narrow_1).before args0 about1 = true := by decide +kernel
theorem w_applies : (headSpec (Jvm.Cond.code x code maxLocals ret :: tables_1) room_1).applies x e0.platform about1 = true :=
  (Spec.applies_iff w_frames).mpr ⟨w_running, w_runnable, w_alone, w_named, w_hears, w_ripe, w_room, w_tables⟩
theorem atStart : AtStart classFile x code maxLocals ret World_1 tables_1 room_1 Calls_1 rest_1 Pre_1 launch0 p0 e0 about1 theMethod args0 below0 :=
  ⟨lists_1, trivial, launch0.admits_env _ _ _, launch0.least_env, fairChoices_fair.cas, fairChoices_fair.clock, w_frames, w_args, w_heap, w_applies, trivial, trivial, w_case⟩
end start1
theorem witness_1 : WitnessClaimed_1 := ⟨start1.p0, start1.e0, start1.about1, start1.theMethod, start1.args0, start1.below0, start1.atStart⟩
end Jvm.Pilot.@@N@@
