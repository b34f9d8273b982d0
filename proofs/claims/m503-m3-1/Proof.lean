import JvmDerived
import JvmDerived.Pilot.@@N@@Statement
import JvmDerived.Pilot.@@N@@Code
set_option linter.unusedVariables false
set_option linter.unusedSimpArgs false
namespace Jvm.Pilot.@@N@@
section OwnFP
open Jvm.FP.Core
/-! Exact doubles: own_Is x n e says that the double x is finite and worth n * 2^e. -/
def own_Is (x : UInt64) (n : Int) (e : Int) : Prop := DFin x ∧ -1074 ≤ e ∧ zval b64 (val64 x) = n * ((2 ^ (e + 1074).toNat : Nat) : Int)
theorem own_qmax : b64.qmax = 971 := by decide
theorem own_pp : b64.p = 53 := rfl
theorem own_powc {a b u v : Nat} (h : a * 2 ^ u = b * 2 ^ v) {w : Int} (hw : w = (u : Int) - v) : a * 2 ^ w.toNat = b * 2 ^ (-w).toNat := by
  subst hw
  have hu : u = ((u : Int) - v).toNat + min u v := by omega
  have hv : v = (-((u : Int) - v)).toNat + min u v := by omega
  have h2 : a * 2 ^ (((u : Int) - v).toNat + min u v) = b * 2 ^ ((-((u : Int) - v)).toNat + min u v) := by rw [← hu, ← hv]; exact h
  rw [Nat.pow_add, Nat.pow_add, ← Nat.mul_assoc, ← Nat.mul_assoc] at h2
  exact Nat.eq_of_mul_eq_mul_right (Nat.two_pow_pos _) h2
theorem own_signed_abs (s : Bool) (c : Nat) : (signed s c).natAbs = c := by cases s <;> simp [signed]
theorem own_signed_mul (s t : Bool) (c d : Nat) : signed (s != t) (c * d) = signed s c * signed t d := by
  cases s <;> cases t <;> simp [signed, Int.natCast_mul, Int.neg_mul, Int.mul_neg]
theorem own_signed_scale (s : Bool) (c d : Nat) : signed s (c * d) = signed s c * (d : Int) := by cases s <;> simp [signed, Int.natCast_mul, Int.neg_mul]
theorem own_round {s : Bool} {c : Nat} {q : Int} {M : Nat} {e : Int} (h2 : -2148 ≤ q) (hM : M < 9007199254740992) (he1 : -1074 ≤ e) (he2 : e ≤ 971) (h : inUnits c q (-2148) = M * 2 ^ (e + 2148).toNat) :
    ∃ c' q', round b64 (.fin s c q) = .fin s c' q' ∧ inUnits c' q' b64.qmin = M * 2 ^ (e + 1074).toNat := by
  have hq : b64.qmin = -1074 := qmin_b64
  obtain ⟨c', q', h1, h3⟩ := round_exact good_b64 s (c := M) (q := e) (show M < 2 ^ 53 from hM) (by rw [hq]; omega) (by rw [own_qmax]; omega)
  refine ⟨c', q', ?_, ?_⟩
  · rw [← h1]
    show roundRatio b64 s c 1 q = roundRatio b64 s M 1 e
    refine roundRatio_congr (by decide) (by decide) ?_
    unfold inUnits at h
    have h4 := own_powc (u := (q - -2148).toNat) (v := (e + 2148).toNat) h (w := q - e) (by omega)
    rw [Nat.mul_one, Nat.mul_one, h4, show -(q - e) = e - q by omega]
  · rw [h3]; unfold inUnits; rw [hq, show e - -1074 = e + 1074 by omega]
theorem own_fin_split {x : UInt64} {n e : Int} (h : own_Is x n e) : ∃ s c q, val64 x = .fin s c q ∧ Jvm.FP.Core.fits b64 (.fin s c q) ∧ signed s (inUnits c q b64.qmin) = n * ((2 ^ (e + 1074).toNat : Nat) : Int) ∧ -1074 ≤ q := by
  obtain ⟨⟨s, c, q, hv⟩, he, hz⟩ := h
  have hf := val64_fits x
  rw [hv] at hf hz
  have := hf.2.1
  rw [qmin_b64] at this
  exact ⟨s, c, q, hv, hf, hz, this⟩
theorem own_Is_of {x : UInt64} {s : Bool} {c : Nat} {q n e : Int} (hv : val64 x = .fin s c q) (he : -1074 ≤ e) (h : signed s (inUnits c q b64.qmin) = n * ((2 ^ (e + 1074).toNat : Nat) : Int)) : own_Is x n e :=
  ⟨⟨s, c, q, hv⟩, he, by rw [hv]; exact h⟩
theorem own_sum {s : Bool} {c : Nat} {q n e : Int} (hq : -1074 ≤ q) (hn : n.natAbs < 9007199254740992) (he1 : -1074 ≤ e) (he2 : e ≤ 971) (h : signed s (inUnits c q b64.qmin) = n * ((2 ^ (e + 1074).toNat : Nat) : Int)) :
    ∃ c' q', round b64 (.fin s c q) = .fin s c' q' ∧ signed s (inUnits c' q' b64.qmin) = n * ((2 ^ (e + 1074).toNat : Nat) : Int) := by
  have h1 : inUnits c q b64.qmin = n.natAbs * 2 ^ (e + 1074).toNat := by
    rw [← own_signed_abs s (inUnits c q b64.qmin), h, Int.natAbs_mul, Int.natAbs_natCast]
  have h2 : inUnits c q (-2148) = n.natAbs * 2 ^ (e + 2148).toNat := by
    rw [inUnits_move c (r := b64.qmin) (by rw [qmin_b64]; omega) (by rw [qmin_b64]; omega), h1, qmin_b64, Nat.mul_assoc, ← Nat.pow_add]
    congr 2; omega
  obtain ⟨c', q', h3, h4⟩ := own_round (s := s) (by omega) hn he1 he2 h2
  exact ⟨c', q', h3, by rw [h4, ← h1, h]⟩
theorem own_add {x y : UInt64} {m n e : Int} (hx : own_Is x m e) (hy : own_Is y n e) (he : e ≤ 971) (hb : (m + n).natAbs < 9007199254740992) : own_Is (dadd x y) (m + n) e := by
  have he1 := hx.2.1
  obtain ⟨s, c, q, vx, fx, zx, -⟩ := own_fin_split hx
  obtain ⟨t, d, r, vy, fy, zy, -⟩ := own_fin_split hy
  obtain ⟨sg, N, E, h1, h2, h3⟩ := sum_units fx fy
  have h4 : signed sg (inUnits N E b64.qmin) = (m + n) * ((2 ^ (e + 1074).toNat : Nat) : Int) := by
    rw [h3, Int.add_mul, ← zx, ← zy]; rfl
  obtain ⟨c', q', h5, h6⟩ := own_sum (by rw [qmin_b64] at h2; exact h2) hb he1 he h4
  exact own_Is_of (by rw [val64_dadd, vx, vy, h1, h5]) he1 h6
theorem own_sub {x y : UInt64} {m n e : Int} (hx : own_Is x m e) (hy : own_Is y n e) (he : e ≤ 971) (hb : (m - n).natAbs < 9007199254740992) : own_Is (dsub x y) (m - n) e := by
  have he1 := hx.2.1
  obtain ⟨s, c, q, vx, fx, zx, -⟩ := own_fin_split hx
  obtain ⟨t, d, r, vy, fy, zy, -⟩ := own_fin_split hy
  have fy' : Jvm.FP.Core.fits b64 (.fin (!t) d r) := fy
  obtain ⟨sg, N, E, h1, h2, h3⟩ := sum_units (t := !t) fx fy'
  have h4 : signed sg (inUnits N E b64.qmin) = (m - n) * ((2 ^ (e + 1074).toNat : Nat) : Int) := by
    rw [h3, Int.sub_mul, ← zx, ← zy]
    show signed s (inUnits c q b64.qmin) + signed (!t) (inUnits d r b64.qmin) = _
    rw [signed_not]; omega
  obtain ⟨c', q', h5, h6⟩ := own_sum (by rw [qmin_b64] at h2; exact h2) hb he1 he h4
  refine own_Is_of (s := sg) (c := c') (q := q') ?_ he1 h6
  rw [val64_dsub, vx, vy]
  show round b64 (exactSum (.fin s c q) (.fin (!t) d r)) = _
  rw [h1, h5]
theorem own_mul {x y : UInt64} {m n e1 e2 e : Int} (hx : own_Is x m e1) (hy : own_Is y n e2) (hee : e1 + e2 = e) (he1 : -1074 ≤ e) (he2 : e ≤ 971) (hb : (m * n).natAbs < 9007199254740992) : own_Is (dmul x y) (m * n) e := by
  subst hee
  have hx1 := hx.2.1
  have hy1 := hy.2.1
  obtain ⟨s, c, q, vx, fx, zx, qx⟩ := own_fin_split hx
  obtain ⟨t, d, r, vy, fy, zy, qy⟩ := own_fin_split hy
  obtain ⟨h1, h2, h3⟩ := product_units fx fy
  have hs : signed (s != t) (inUnits (c * d) (q + r) (-2148)) = (m * n) * ((2 ^ (e1 + e2 + 2148).toNat : Nat) : Int) := by
    have h4 : inUnits (c * d) (q + r) (-2148) = inUnits c q b64.qmin * inUnits d r b64.qmin := by
      have := h3
      rw [qmin_b64] at this ⊢
      exact this
    rw [h4, own_signed_mul, zx, zy, show (e1 + e2 + 2148).toNat = (e1 + 1074).toNat + (e2 + 1074).toNat by omega, Nat.pow_add, Int.natCast_mul]
    simp only [Int.mul_assoc, Int.mul_left_comm, Int.mul_comm]
  have h5 : inUnits (c * d) (q + r) (-2148) = (m * n).natAbs * 2 ^ (e1 + e2 + 2148).toNat := by
    rw [← own_signed_abs (s != t) (inUnits (c * d) (q + r) (-2148)), hs, Int.natAbs_mul, Int.natAbs_natCast]
  obtain ⟨c', q', h6, h7⟩ := own_round (s := (s != t)) (by omega) hb he1 he2 h5
  refine own_Is_of (s := (s != t)) (c := c') (q := q') (by rw [val64_dmul, vx, vy, h1, h6]) he1 ?_
  rw [h5, own_signed_scale] at hs
  have h8 : signed (s != t) (m * n).natAbs = m * n := Int.eq_of_mul_eq_mul_right (by have := Nat.two_pow_pos (e1 + e2 + 2148).toNat; omega) hs
  rw [h7, own_signed_scale, h8]
/-- the quotient of two exact doubles is the rounded ratio of their numbers -/
theorem own_divR {x y : UInt64} {m n e1 e2 : Int} (hx : own_Is x m e1) (hy : own_Is y n e2) (hn : n ≠ 0) :
    val64 (ddiv x y) = roundRatio b64 (sgn (val64 x) != sgn (val64 y)) m.natAbs n.natAbs (e1 - e2) ∧ signed (sgn (val64 x)) m.natAbs = m ∧ signed (sgn (val64 y)) n.natAbs = n := by
  have hx1 := hx.2.1
  have hy1 := hy.2.1
  obtain ⟨s, c, q, vx, fx, zx, qx⟩ := own_fin_split hx
  obtain ⟨t, d, r, vy, fy, zy, qy⟩ := own_fin_split hy
  have ax : inUnits c q b64.qmin = m.natAbs * 2 ^ (e1 + 1074).toNat := by
    rw [← own_signed_abs s (inUnits c q b64.qmin), zx, Int.natAbs_mul, Int.natAbs_natCast]
  have ay : inUnits d r b64.qmin = n.natAbs * 2 ^ (e2 + 1074).toNat := by
    rw [← own_signed_abs t (inUnits d r b64.qmin), zy, Int.natAbs_mul, Int.natAbs_natCast]
  have sx : signed s m.natAbs = m := by
    rw [ax, own_signed_scale] at zx
    exact Int.eq_of_mul_eq_mul_right (by have := Nat.two_pow_pos (e1 + 1074).toNat; omega) zx
  have sy : signed t n.natAbs = n := by
    rw [ay, own_signed_scale] at zy
    exact Int.eq_of_mul_eq_mul_right (by have := Nat.two_pow_pos (e2 + 1074).toNat; omega) zy
  have nn : n.natAbs ≠ 0 := by omega
  have hd : d ≠ 0 := by
    rintro rfl
    have : n.natAbs * 2 ^ (e2 + 1074).toNat = 0 := by rw [← ay]; unfold inUnits; simp
    rcases Nat.mul_eq_zero.mp this with h | h
    · exact nn h
    · have := Nat.two_pow_pos (e2 + 1074).toNat; omega
  refine ⟨?_, by rw [vx]; exact sx, by rw [vy]; exact sy⟩
  rw [val64_ddiv, vx, vy]
  show (if d = 0 then _ else roundRatio b64 (s != t) c d (q - r)) = roundRatio b64 (s != t) _ _ _
  rw [if_neg hd]
  refine roundRatio_congr (by omega) (by omega) ?_
  unfold inUnits at ax ay
  rw [qmin_b64] at ax ay
  have key : c * n.natAbs * 2 ^ ((q - -1074).toNat + (e2 + 1074).toNat) = m.natAbs * d * 2 ^ ((e1 + 1074).toNat + (r - -1074).toNat) := by
    have e3 : c * n.natAbs * 2 ^ ((q - -1074).toNat + (e2 + 1074).toNat) = (c * 2 ^ (q - -1074).toNat) * (n.natAbs * 2 ^ (e2 + 1074).toNat) := by
      rw [Nat.pow_add]; simp only [Nat.mul_assoc, Nat.mul_left_comm, Nat.mul_comm]
    rw [e3, ax, ← ay, Nat.pow_add]
    simp only [Nat.mul_assoc, Nat.mul_left_comm, Nat.mul_comm]
  have h4 := own_powc key (w := (q - r) - (e1 - e2)) (by omega)
  rw [h4, show -((q - r) - (e1 - e2)) = (e1 - e2) - (q - r) by omega]
theorem own_div {x y : UInt64} {m n N e1 e2 e : Int} (hx : own_Is x m e1) (hy : own_Is y n e2) (hn : n ≠ 0) (hm : m = N * n) (hee : e1 - e2 = e) (he1 : -1074 ≤ e) (he2 : e ≤ 971) (hb : N.natAbs < 9007199254740992) : own_Is (ddiv x y) N e := by
  subst hee
  obtain ⟨h1, h2, h3⟩ := own_divR hx hy hn
  have hq : b64.qmin = -1074 := qmin_b64
  obtain ⟨c', q', h5, h6⟩ := round_exact good_b64 (sgn (val64 x) != sgn (val64 y)) (c := N.natAbs) (q := e1 - e2) (show _ < 2 ^ 53 from hb) (by rw [hq]; omega) (by rw [own_qmax]; omega)
  refine own_Is_of (s := (sgn (val64 x) != sgn (val64 y))) (c := c') (q := q') ?_ he1 ?_
  · rw [h1, ← h5]
    show roundRatio _ _ _ _ _ = roundRatio b64 (sgn (val64 x) != sgn (val64 y)) N.natAbs 1 (e1 - e2)
    refine roundRatio_congr (by omega) (by decide) ?_
    rw [hm, Int.natAbs_mul]; simp
  · rw [h6]; unfold inUnits
    rw [hq, show e1 - e2 - -1074 = e1 - e2 + 1074 by omega, own_signed_scale]
    congr 1
    have h7 := own_signed_mul (sgn (val64 x)) (sgn (val64 y)) N.natAbs (n.natAbs * n.natAbs)
    have h8 : signed (sgn (val64 x) != sgn (val64 y)) (m.natAbs * n.natAbs) = m * n := by rw [own_signed_mul, h2, h3]
    rw [hm, Int.natAbs_mul, Nat.mul_assoc, own_signed_scale] at h8
    have h9 : ((n.natAbs * n.natAbs : Nat) : Int) = n * n := Int.natAbs_mul_self
    rw [h9, Int.mul_assoc] at h8
    refine Int.eq_of_mul_eq_mul_right ?_ h8
    intro h0
    rcases Int.mul_eq_zero.mp h0 with h | h <;> exact hn h
theorem own_shift {x : UInt64} {n e e' : Int} (j : Nat) (hx : own_Is x n e) (hj : e' = e - j) (he : -1074 ≤ e') : own_Is x (n * (2 ^ j : Nat)) e' := by
  subst hj
  refine ⟨hx.1, he, ?_⟩
  rw [hx.2.2, show (e + 1074).toNat = j + (e - j + 1074).toNat by omega, Nat.pow_add, Int.natCast_mul, ← Int.mul_assoc]
theorem own_nn {x : UInt64} {n e : Int} (h : own_Is x n e) : Jvm.Free.Fl.NoNaN64 x := Jvm.Free.Fl.noNaN64_no.mpr h.1.notNaN
theorem own_cmp {x y : UInt64} {m n e : Int} (hx : own_Is x m e) (hy : own_Is y n e) : dcmp x y = some (compare m n) := by
  rw [dcmp_zval hx.1.ne_nan hy.1.ne_nan, hx.2.2, hy.2.2]
  have hp : (0 : Int) < ((2 ^ (e + 1074).toNat : Nat) : Int) := by have := Nat.two_pow_pos (e + 1074).toNat; omega
  congr 1
  refine compare_congr ⟨fun h => Int.lt_of_mul_lt_mul_right h (Int.le_of_lt hp), fun h => Int.mul_lt_mul_of_pos_right h hp⟩ ⟨fun h => Int.eq_of_mul_eq_mul_right (Int.ne_of_gt hp) h, fun h => by rw [h]⟩
theorem own_i2d (a : Int32) : own_Is (i2d a) a.toInt 0 := by
  have h := i2d_int a
  refine ⟨?_, by decide, ?_⟩
  · rw [i2d_l2d]; exact l2d_fin _
  · rw [DInt_zval h]; rfl
theorem own_l2d {a : Int64} (h : a.toInt.natAbs ≤ 9007199254740992) : own_Is (l2d a) a.toInt 0 := by
  have h := l2d_int (a := a) h
  exact ⟨l2d_fin _, by decide, by rw [DInt_zval h]; rfl⟩
/-- with a bound on the number -/
def own_B (x : UInt64) (n e B : Int) : Prop := own_Is x n e ∧ -B ≤ n ∧ n ≤ B
theorem own_B.is {x : UInt64} {n e B : Int} (h : own_B x n e B) : own_Is x n e := h.1
theorem own_B.nn {x : UInt64} {n e B : Int} (h : own_B x n e B) : Jvm.Free.Fl.NoNaN64 x := own_nn h.1
theorem own_Badd {x y : UInt64} {m n e A B : Int} (hx : own_B x m e A) (hy : own_B y n e B) (h : (decide (e ≤ 971) && decide (A + B < 9007199254740992)) = true) : own_B (dadd x y) (m + n) e (A + B) := by
  simp only [Bool.and_eq_true, decide_eq_true_eq] at h
  have := hx.2; have := hy.2
  exact ⟨own_add hx.1 hy.1 h.1 (by omega), by omega, by omega⟩
theorem own_Bsub {x y : UInt64} {m n e A B : Int} (hx : own_B x m e A) (hy : own_B y n e B) (h : (decide (e ≤ 971) && decide (A + B < 9007199254740992)) = true) : own_B (dsub x y) (m - n) e (A + B) := by
  simp only [Bool.and_eq_true, decide_eq_true_eq] at h
  have := hx.2; have := hy.2
  exact ⟨own_sub hx.1 hy.1 h.1 (by omega), by omega, by omega⟩
theorem own_bmul {m n A B : Int} (hm : -A ≤ m ∧ m ≤ A) (hn : -B ≤ n ∧ n ≤ B) : -(A * B) ≤ m * n ∧ m * n ≤ A * B := by
  have h : (m * n).natAbs ≤ A.toNat * B.toNat := by rw [Int.natAbs_mul]; exact Nat.mul_le_mul (by omega) (by omega)
  have h2 : ((A.toNat * B.toNat : Nat) : Int) = A * B := by rw [Int.natCast_mul, Int.toNat_of_nonneg (by omega), Int.toNat_of_nonneg (by omega)]
  omega
theorem own_Bmul {x y : UInt64} {m n e1 e2 A B : Int} (hx : own_B x m e1 A) (hy : own_B y n e2 B) (h : (decide (-1074 ≤ e1 + e2) && decide (e1 + e2 ≤ 971) && decide (A * B < 9007199254740992)) = true) : own_B (dmul x y) (m * n) (e1 + e2) (A * B) := by
  simp only [Bool.and_eq_true, decide_eq_true_eq] at h
  have hb := own_bmul hx.2 hy.2
  exact ⟨own_mul hx.1 hy.1 rfl h.1.1 h.1.2 (by omega), hb⟩
/-- an exact quotient by a power of two (n = 1 in y = 1 * 2^e2) -/
theorem own_Bdiv {x y : UInt64} {m e1 e2 A : Int} (hx : own_B x m e1 A) (hy : own_Is y 1 e2) (h : (decide (-1074 ≤ e1 - e2) && decide (e1 - e2 ≤ 971) && decide (A < 9007199254740992)) = true) : own_B (ddiv x y) m (e1 - e2) A := by
  simp only [Bool.and_eq_true, decide_eq_true_eq] at h
  have := hx.2
  exact ⟨own_div hx.1 hy (by decide) (Int.mul_one _).symm rfl h.1.1 h.1.2 (by omega), hx.2⟩
theorem own_Bshift {x : UInt64} {n e A : Int} (j : Nat) (P : Int) (hx : own_B x n e A) (h : (decide (-1074 ≤ e - j) && decide (((2 ^ j : Nat) : Int) = P)) = true) : own_B x (n * P) (e - j) (A * P) := by
  simp only [Bool.and_eq_true, decide_eq_true_eq] at h
  obtain ⟨h, rfl⟩ := h
  refine ⟨own_shift j hx.1 rfl h, ?_⟩
  have hp : (0 : Int) ≤ (2 ^ j : Nat) := Int.natCast_nonneg _
  have := hx.2
  constructor
  · rw [← Int.neg_mul]; exact Int.mul_le_mul_of_nonneg_right this.1 hp
  · exact Int.mul_le_mul_of_nonneg_right this.2 hp
theorem own_Bcast {x : UInt64} {n n' e e' A A' : Int} (h : own_B x n e A) (hn : n = n') (he : e = e') (hA : A ≤ A') : own_B x n' e' A' := by
  subst hn he; exact ⟨h.1, by have := h.2; omega, by have := h.2; omega⟩
theorem own_eq0 {x y : UInt64} {m n e : Int} (hx : own_Is x m e) (hy : own_Is y n e) (h : m = n) (o : ClassFile.CmpOp) : Op.cmpValue (Jvm.FP.dcmp x y) o = 0 := by
  show Op.cmpValue (dcmp x y) o = 0
  subst h
  rw [own_cmp hx hy, show compare m m = .eq from (compare_eq_iff m m).mpr rfl]; cases o <;> rfl
theorem own_cmpv {x y : UInt64} {m n e : Int} (hx : own_Is x m e) (hy : own_Is y n e) (o : ClassFile.CmpOp) : (m < n → Op.cmpValue (Jvm.FP.dcmp x y) o = -1) ∧ (m = n → Op.cmpValue (Jvm.FP.dcmp x y) o = 0) ∧ (n < m → Op.cmpValue (Jvm.FP.dcmp x y) o = 1) := by
  refine ⟨fun h => ?_, fun h => own_eq0 hx hy h o, fun h => ?_⟩
  · show Op.cmpValue (dcmp x y) o = -1
    rw [own_cmp hx hy, (compare_lt_iff m n).mpr h]; cases o <;> rfl
  · show Op.cmpValue (dcmp x y) o = 1
    rw [own_cmp hx hy, (compare_gt_iff m n).mpr h]; cases o <;> rfl
theorem own_one : own_Is 4607182418800017408 1 0 := ⟨(fin_bits _).mpr (by decide), by decide, by decide +kernel⟩
theorem own_zero : own_Is 0 0 0 := ⟨(fin_bits _).mpr (by decide), by decide, by decide +kernel⟩
/-! ints and longs with their numbers and bounds -/
def own_I (v : Int32) (n B : Int) : Prop := v.toInt = n ∧ -B ≤ n ∧ n ≤ B
def own_L (v : Int64) (n B : Int) : Prop := v.toInt = n ∧ -B ≤ n ∧ n ≤ B
theorem own_Iadd {a b v : Int32} {m n A B : Int} (hv : a + b = v) (ha : own_I a m A) (hb : own_I b n B) (h : decide (A + B < 2147483648) = true) : own_I v (m + n) (A + B) := by
  subst hv; simp only [decide_eq_true_eq] at h; obtain ⟨rfl, h1, h2⟩ := ha; obtain ⟨rfl, h3, h4⟩ := hb
  exact ⟨by rw [Int32.toInt_add]; exact Int.bmod_eq_of_le (by omega) (by omega), by omega, by omega⟩
theorem own_Isub {a b v : Int32} {m n A B : Int} (hv : a - b = v) (ha : own_I a m A) (hb : own_I b n B) (h : decide (A + B < 2147483648) = true) : own_I v (m - n) (A + B) := by
  subst hv; simp only [decide_eq_true_eq] at h; obtain ⟨rfl, h1, h2⟩ := ha; obtain ⟨rfl, h3, h4⟩ := hb
  exact ⟨by rw [Int32.toInt_sub]; exact Int.bmod_eq_of_le (by omega) (by omega), by omega, by omega⟩
theorem own_Imul {a b v : Int32} {m n A B : Int} (hv : a * b = v) (ha : own_I a m A) (hb : own_I b n B) (h : decide (A * B < 2147483648) = true) : own_I v (m * n) (A * B) := by
  subst hv; simp only [decide_eq_true_eq] at h; obtain ⟨rfl, h1⟩ := ha; obtain ⟨rfl, h3⟩ := hb
  have hb := own_bmul h1 h3
  exact ⟨by rw [Int32.toInt_mul]; exact Int.bmod_eq_of_le (by omega) (by omega), hb⟩
theorem own_Ladd {a b v : Int64} {m n A B : Int} (hv : a + b = v) (ha : own_L a m A) (hb : own_L b n B) (h : decide (A + B < 9223372036854775808) = true) : own_L v (m + n) (A + B) := by
  subst hv; simp only [decide_eq_true_eq] at h; obtain ⟨rfl, h1, h2⟩ := ha; obtain ⟨rfl, h3, h4⟩ := hb
  exact ⟨by rw [Int64.toInt_add]; exact Int.bmod_eq_of_le (by omega) (by omega), by omega, by omega⟩
theorem own_Lsub {a b v : Int64} {m n A B : Int} (hv : a - b = v) (ha : own_L a m A) (hb : own_L b n B) (h : decide (A + B < 9223372036854775808) = true) : own_L v (m - n) (A + B) := by
  subst hv; simp only [decide_eq_true_eq] at h; obtain ⟨rfl, h1, h2⟩ := ha; obtain ⟨rfl, h3, h4⟩ := hb
  exact ⟨by rw [Int64.toInt_sub]; exact Int.bmod_eq_of_le (by omega) (by omega), by omega, by omega⟩
theorem own_Lmul {a b v : Int64} {m n A B : Int} (hv : a * b = v) (ha : own_L a m A) (hb : own_L b n B) (h : decide (A * B < 9223372036854775808) = true) : own_L v (m * n) (A * B) := by
  subst hv; simp only [decide_eq_true_eq] at h; obtain ⟨rfl, h1⟩ := ha; obtain ⟨rfl, h3⟩ := hb
  have hb := own_bmul h1 h3
  exact ⟨by rw [Int64.toInt_mul]; exact Int.bmod_eq_of_le (by omega) (by omega), hb⟩
theorem own_Ii2l {a : Int32} {v : Int64} {m A : Int} (hv : Int32.toInt64 a = v) (ha : own_I a m A) : own_L v m A := by
  subst hv; exact ⟨by rw [Int32.toInt_toInt64]; exact ha.1, ha.2⟩
theorem own_Icast {v : Int32} {n n' A A' : Int} (h : own_I v n A) (hn : n = n') (hA : A ≤ A') : own_I v n' A' := by
  subst hn; exact ⟨h.1, by have := h.2; omega, by have := h.2; omega⟩
theorem own_Lcast {v : Int64} {n n' A A' : Int} (h : own_L v n A) (hn : n = n') (hA : A ≤ A') : own_L v n' A' := by
  subst hn; exact ⟨h.1, by have := h.2; omega, by have := h.2; omega⟩
theorem own_Bi2d {v : Int32} {n A : Int} (h : own_I v n A) : own_B (i2d v) n 0 A := by
  obtain ⟨rfl, h1⟩ := h; exact ⟨own_i2d v, h1⟩
theorem own_Bl2d {v : Int64} {n A : Int} (h : own_L v n A) (hA : decide (A ≤ 9007199254740992) = true) : own_B (l2d v) n 0 A := by
  simp only [decide_eq_true_eq] at hA; obtain ⟨rfl, h1⟩ := h; exact ⟨own_l2d (by omega), h1⟩
theorem own_Irng (v : Int32) : own_I v v.toInt 2147483648 := ⟨rfl, by have := Jvm.RoadKit.rng32 v; omega, by have := Jvm.RoadKit.rng32 v; omega⟩
theorem own_Iand {x m v : Int32} {B : Int} (hv : x &&& m = v) (hB : m.toInt = B) (h0 : 0 ≤ B) : own_I v v.toInt B := by
  have := Jvm.RoadKit.c_and x m (by omega); rw [hv] at this; exact ⟨rfl, by omega, by omega⟩
end OwnFP
section OwnStep
open Jvm Jvm.ClassFile Sem Op Lib Jvm.Free Jvm.Stand Jvm.LawKit Jvm.RoadKit
variable {tb : Tables} [Ours tb] {e : Env} {below : List Frame} {T target : State} {m : MethodId} {c : Code} {pc pc' : Nat} {L : Array Slot} {S : List Value}
theorem own_s_iadd (h : At T m c below) (hx : tb.exec = Jvm.exec) {x y v : Int32} (hd : decode c.code pc = .ok (.iadd, 1)) (hp : pc + 1 = pc') (hv : x + y = v)
    (hr : Steps tb e below (T.setTop (mkF m pc' L (.int v :: S))) target) : Steps tb e below (T.setTop (mkF m pc L (.int y :: .int x :: S))) target := by
  subst hv hp; exact XS.iadd h hx rfl hd rfl hr
theorem own_s_ladd (h : At T m c below) (hx : tb.exec = Jvm.exec) {x y v : Int64} (hd : decode c.code pc = .ok (.ladd, 1)) (hp : pc + 1 = pc') (hv : x + y = v)
    (hr : Steps tb e below (T.setTop (mkF m pc' L (.long v :: S))) target) : Steps tb e below (T.setTop (mkF m pc L (.long y :: .long x :: S))) target := by
  subst hv hp; exact XS.ladd h hx rfl hd rfl hr
theorem own_s_isub (h : At T m c below) (hx : tb.exec = Jvm.exec) {x y v : Int32} (hd : decode c.code pc = .ok (.isub, 1)) (hp : pc + 1 = pc') (hv : x - y = v)
    (hr : Steps tb e below (T.setTop (mkF m pc' L (.int v :: S))) target) : Steps tb e below (T.setTop (mkF m pc L (.int y :: .int x :: S))) target := by
  subst hv hp; exact XS.isub h hx rfl hd rfl hr
theorem own_s_lsub (h : At T m c below) (hx : tb.exec = Jvm.exec) {x y v : Int64} (hd : decode c.code pc = .ok (.lsub, 1)) (hp : pc + 1 = pc') (hv : x - y = v)
    (hr : Steps tb e below (T.setTop (mkF m pc' L (.long v :: S))) target) : Steps tb e below (T.setTop (mkF m pc L (.long y :: .long x :: S))) target := by
  subst hv hp; exact XS.lsub h hx rfl hd rfl hr
theorem own_s_imul (h : At T m c below) (hx : tb.exec = Jvm.exec) {x y v : Int32} (hd : decode c.code pc = .ok (.imul, 1)) (hp : pc + 1 = pc') (hv : x * y = v)
    (hr : Steps tb e below (T.setTop (mkF m pc' L (.int v :: S))) target) : Steps tb e below (T.setTop (mkF m pc L (.int y :: .int x :: S))) target := by
  subst hv hp; exact XS.imul h hx rfl hd rfl hr
theorem own_s_lmul (h : At T m c below) (hx : tb.exec = Jvm.exec) {x y v : Int64} (hd : decode c.code pc = .ok (.lmul, 1)) (hp : pc + 1 = pc') (hv : x * y = v)
    (hr : Steps tb e below (T.setTop (mkF m pc' L (.long v :: S))) target) : Steps tb e below (T.setTop (mkF m pc L (.long y :: .long x :: S))) target := by
  subst hv hp; exact XS.lmul h hx rfl hd rfl hr
theorem own_s_iand (h : At T m c below) (hx : tb.exec = Jvm.exec) {x y v : Int32} (hd : decode c.code pc = .ok (.iand, 1)) (hp : pc + 1 = pc') (hv : x &&& y = v)
    (hr : Steps tb e below (T.setTop (mkF m pc' L (.int v :: S))) target) : Steps tb e below (T.setTop (mkF m pc L (.int y :: .int x :: S))) target := by
  subst hv hp; exact XS.iand h hx rfl hd rfl hr
theorem own_s_land (h : At T m c below) (hx : tb.exec = Jvm.exec) {x y v : Int64} (hd : decode c.code pc = .ok (.land, 1)) (hp : pc + 1 = pc') (hv : x &&& y = v)
    (hr : Steps tb e below (T.setTop (mkF m pc' L (.long v :: S))) target) : Steps tb e below (T.setTop (mkF m pc L (.long y :: .long x :: S))) target := by
  subst hv hp; exact XS.land h hx rfl hd rfl hr
theorem own_s_ior (h : At T m c below) (hx : tb.exec = Jvm.exec) {x y v : Int32} (hd : decode c.code pc = .ok (.ior, 1)) (hp : pc + 1 = pc') (hv : x ||| y = v)
    (hr : Steps tb e below (T.setTop (mkF m pc' L (.int v :: S))) target) : Steps tb e below (T.setTop (mkF m pc L (.int y :: .int x :: S))) target := by
  subst hv hp; exact XS.ior h hx rfl hd rfl hr
theorem own_s_lor (h : At T m c below) (hx : tb.exec = Jvm.exec) {x y v : Int64} (hd : decode c.code pc = .ok (.lor, 1)) (hp : pc + 1 = pc') (hv : x ||| y = v)
    (hr : Steps tb e below (T.setTop (mkF m pc' L (.long v :: S))) target) : Steps tb e below (T.setTop (mkF m pc L (.long y :: .long x :: S))) target := by
  subst hv hp; exact XS.lor h hx rfl hd rfl hr
theorem own_s_ixor (h : At T m c below) (hx : tb.exec = Jvm.exec) {x y v : Int32} (hd : decode c.code pc = .ok (.ixor, 1)) (hp : pc + 1 = pc') (hv : x ^^^ y = v)
    (hr : Steps tb e below (T.setTop (mkF m pc' L (.int v :: S))) target) : Steps tb e below (T.setTop (mkF m pc L (.int y :: .int x :: S))) target := by
  subst hv hp; exact XS.ixor h hx rfl hd rfl hr
theorem own_s_lxor (h : At T m c below) (hx : tb.exec = Jvm.exec) {x y v : Int64} (hd : decode c.code pc = .ok (.lxor, 1)) (hp : pc + 1 = pc') (hv : x ^^^ y = v)
    (hr : Steps tb e below (T.setTop (mkF m pc' L (.long v :: S))) target) : Steps tb e below (T.setTop (mkF m pc L (.long y :: .long x :: S))) target := by
  subst hv hp; exact XS.lxor h hx rfl hd rfl hr
theorem own_s_idiv (h : At T m c below) (hx : tb.exec = Jvm.exec) {x y v : Int32} (hd : decode c.code pc = .ok (.idiv, 1)) (hp : pc + 1 = pc') (hy : y ≠ 0) (hv : x / y = v)
    (hr : Steps tb e below (T.setTop (mkF m pc' L (.int v :: S))) target) : Steps tb e below (T.setTop (mkF m pc L (.int y :: .int x :: S))) target := by
  subst hv hp; exact XS.idiv h hx rfl hd rfl hy hr
theorem own_s_irem (h : At T m c below) (hx : tb.exec = Jvm.exec) {x y v : Int32} (hd : decode c.code pc = .ok (.irem, 1)) (hp : pc + 1 = pc') (hy : y ≠ 0) (hv : x % y = v)
    (hr : Steps tb e below (T.setTop (mkF m pc' L (.int v :: S))) target) : Steps tb e below (T.setTop (mkF m pc L (.int y :: .int x :: S))) target := by
  subst hv hp; rw [← irem_eq_mod] at hr; exact XS.irem h hx rfl hd rfl hy hr
theorem own_s_ldiv (h : At T m c below) (hx : tb.exec = Jvm.exec) {x y v : Int64} (hd : decode c.code pc = .ok (.ldiv, 1)) (hp : pc + 1 = pc') (hy : y ≠ 0) (hv : x / y = v)
    (hr : Steps tb e below (T.setTop (mkF m pc' L (.long v :: S))) target) : Steps tb e below (T.setTop (mkF m pc L (.long y :: .long x :: S))) target := by
  subst hv hp; exact XS.ldiv h hx rfl hd rfl hy hr
theorem own_s_lrem (h : At T m c below) (hx : tb.exec = Jvm.exec) {x y v : Int64} (hd : decode c.code pc = .ok (.lrem, 1)) (hp : pc + 1 = pc') (hy : y ≠ 0) (hv : x % y = v)
    (hr : Steps tb e below (T.setTop (mkF m pc' L (.long v :: S))) target) : Steps tb e below (T.setTop (mkF m pc L (.long y :: .long x :: S))) target := by
  subst hv hp; rw [← lrem_mod] at hr; exact XS.lrem h hx rfl hd rfl hy hr
theorem own_s_ishl (h : At T m c below) (hx : tb.exec = Jvm.exec) {x y v : Int32} (hd : decode c.code pc = .ok (.ishl, 1)) (hp : pc + 1 = pc') (hv : x <<< (y &&& 31) = v)
    (hr : Steps tb e below (T.setTop (mkF m pc' L (.int v :: S))) target) : Steps tb e below (T.setTop (mkF m pc L (.int y :: .int x :: S))) target := by
  subst hv hp; exact XS.ishl h hx rfl hd rfl hr
theorem own_s_ishr (h : At T m c below) (hx : tb.exec = Jvm.exec) {x y v : Int32} (hd : decode c.code pc = .ok (.ishr, 1)) (hp : pc + 1 = pc') (hv : x >>> (y &&& 31) = v)
    (hr : Steps tb e below (T.setTop (mkF m pc' L (.int v :: S))) target) : Steps tb e below (T.setTop (mkF m pc L (.int y :: .int x :: S))) target := by
  subst hv hp; exact XS.ishr h hx rfl hd rfl hr
theorem own_s_iushr (h : At T m c below) (hx : tb.exec = Jvm.exec) {x y v : Int32} (hd : decode c.code pc = .ok (.iushr, 1)) (hp : pc + 1 = pc') (hv : (x.toUInt32 >>> (y &&& 31).toUInt32).toInt32 = v)
    (hr : Steps tb e below (T.setTop (mkF m pc' L (.int v :: S))) target) : Steps tb e below (T.setTop (mkF m pc L (.int y :: .int x :: S))) target := by
  subst hv hp; exact XS.iushr h hx rfl hd rfl hr
theorem own_s_lshl (h : At T m c below) (hx : tb.exec = Jvm.exec) {x v : Int64} {y : Int32} (hd : decode c.code pc = .ok (.lshl, 1)) (hp : pc + 1 = pc') (hv : x <<< (y &&& 63).toInt64 = v)
    (hr : Steps tb e below (T.setTop (mkF m pc' L (.long v :: S))) target) : Steps tb e below (T.setTop (mkF m pc L (.int y :: .long x :: S))) target := by
  subst hv hp; exact XS.lshl h hx rfl hd rfl hr
theorem own_s_lshr (h : At T m c below) (hx : tb.exec = Jvm.exec) {x v : Int64} {y : Int32} (hd : decode c.code pc = .ok (.lshr, 1)) (hp : pc + 1 = pc') (hv : x >>> (y &&& 63).toInt64 = v)
    (hr : Steps tb e below (T.setTop (mkF m pc' L (.long v :: S))) target) : Steps tb e below (T.setTop (mkF m pc L (.int y :: .long x :: S))) target := by
  subst hv hp; exact XS.lshr h hx rfl hd rfl hr
theorem own_s_lushr (h : At T m c below) (hx : tb.exec = Jvm.exec) {x v : Int64} {y : Int32} (hd : decode c.code pc = .ok (.lushr, 1)) (hp : pc + 1 = pc') (hv : (x.toUInt64 >>> (y &&& 63).toInt64.toUInt64).toInt64 = v)
    (hr : Steps tb e below (T.setTop (mkF m pc' L (.long v :: S))) target) : Steps tb e below (T.setTop (mkF m pc L (.int y :: .long x :: S))) target := by
  subst hv hp; exact XS.lushr h hx rfl hd rfl hr
theorem own_s_i2l (h : At T m c below) (hx : tb.exec = Jvm.exec) {x : Int32} {v : Int64} (hd : decode c.code pc = .ok (.i2l, 1)) (hp : pc + 1 = pc') (hv : x.toInt64 = v)
    (hr : Steps tb e below (T.setTop (mkF m pc' L (.long v :: S))) target) : Steps tb e below (T.setTop (mkF m pc L (.int x :: S))) target := by
  subst hv hp; exact XS.i2l h hx rfl hd rfl hr
theorem own_s_l2i (h : At T m c below) (hx : tb.exec = Jvm.exec) {x : Int64} {v : Int32} (hd : decode c.code pc = .ok (.l2i, 1)) (hp : pc + 1 = pc') (hv : x.toInt32 = v)
    (hr : Steps tb e below (T.setTop (mkF m pc' L (.int v :: S))) target) : Steps tb e below (T.setTop (mkF m pc L (.long x :: S))) target := by
  subst hv hp; exact XS.l2i h hx rfl hd rfl hr
theorem own_s_i2b (h : At T m c below) (hx : tb.exec = Jvm.exec) {x : Int32} {v : Int32} (hd : decode c.code pc = .ok (.i2b, 1)) (hp : pc + 1 = pc') (hv : x.toInt8.toInt32 = v)
    (hr : Steps tb e below (T.setTop (mkF m pc' L (.int v :: S))) target) : Steps tb e below (T.setTop (mkF m pc L (.int x :: S))) target := by
  subst hv hp; exact XS.i2b h hx rfl hd rfl hr
theorem own_s_i2s (h : At T m c below) (hx : tb.exec = Jvm.exec) {x : Int32} {v : Int32} (hd : decode c.code pc = .ok (.i2s, 1)) (hp : pc + 1 = pc') (hv : x.toInt16.toInt32 = v)
    (hr : Steps tb e below (T.setTop (mkF m pc' L (.int v :: S))) target) : Steps tb e below (T.setTop (mkF m pc L (.int x :: S))) target := by
  subst hv hp; exact XS.i2s h hx rfl hd rfl hr
theorem own_s_ineg (h : At T m c below) (hx : tb.exec = Jvm.exec) {x : Int32} {v : Int32} (hd : decode c.code pc = .ok (.ineg, 1)) (hp : pc + 1 = pc') (hv : -x = v)
    (hr : Steps tb e below (T.setTop (mkF m pc' L (.int v :: S))) target) : Steps tb e below (T.setTop (mkF m pc L (.int x :: S))) target := by
  subst hv hp; exact XS.ineg h hx rfl hd rfl hr
theorem own_s_lneg (h : At T m c below) (hx : tb.exec = Jvm.exec) {x : Int64} {v : Int64} (hd : decode c.code pc = .ok (.lneg, 1)) (hp : pc + 1 = pc') (hv : -x = v)
    (hr : Steps tb e below (T.setTop (mkF m pc' L (.long v :: S))) target) : Steps tb e below (T.setTop (mkF m pc L (.long x :: S))) target := by
  subst hv hp; exact XS.lneg h hx rfl hd rfl hr
theorem own_s_i2d (h : At T m c below) (hx : tb.exec = Jvm.exec) {x : Int32} {v : UInt64} (hd : decode c.code pc = .ok (.i2d, 1)) (hp : pc + 1 = pc') (hv : FP.i2d x = v)
    (hr : Steps tb e below (T.setTop (mkF m pc' L (.double v :: S))) target) : Steps tb e below (T.setTop (mkF m pc L (.int x :: S))) target := by
  subst hv hp; exact XS.i2dS h hx rfl hd rfl rfl hr
theorem own_s_l2d (h : At T m c below) (hx : tb.exec = Jvm.exec) {x : Int64} {v : UInt64} (hd : decode c.code pc = .ok (.l2d, 1)) (hp : pc + 1 = pc') (hv : FP.l2d x = v)
    (hr : Steps tb e below (T.setTop (mkF m pc' L (.double v :: S))) target) : Steps tb e below (T.setTop (mkF m pc L (.long x :: S))) target := by
  subst hv hp; exact XS.l2dS h hx rfl hd rfl rfl hr
theorem own_s_dneg (h : At T m c below) (hx : tb.exec = Jvm.exec) {x : UInt64} {v : UInt64} (hd : decode c.code pc = .ok (.dneg, 1)) (hp : pc + 1 = pc') (hv : FP.dneg x = v)
    (hr : Steps tb e below (T.setTop (mkF m pc' L (.double v :: S))) target) : Steps tb e below (T.setTop (mkF m pc L (.double x :: S))) target := by
  subst hv hp; exact XS.dnegS h hx rfl hd rfl rfl hr
theorem own_s_dadd (h : At T m c below) (hx : tb.exec = Jvm.exec) {x y v : UInt64} (hd : decode c.code pc = .ok (.dadd, 1)) (hp : pc + 1 = pc') (hn : Jvm.Free.Fl.NoNaN64 (FP.dadd x y)) (hv : FP.dadd x y = v)
    (hr : Steps tb e below (T.setTop (mkF m pc' L (.double v :: S))) target) : Steps tb e below (T.setTop (mkF m pc L (.double y :: .double x :: S))) target := by
  subst hv hp; exact XS.daddS h hx rfl hd rfl hn rfl hr
theorem own_s_dsub (h : At T m c below) (hx : tb.exec = Jvm.exec) {x y v : UInt64} (hd : decode c.code pc = .ok (.dsub, 1)) (hp : pc + 1 = pc') (hn : Jvm.Free.Fl.NoNaN64 (FP.dsub x y)) (hv : FP.dsub x y = v)
    (hr : Steps tb e below (T.setTop (mkF m pc' L (.double v :: S))) target) : Steps tb e below (T.setTop (mkF m pc L (.double y :: .double x :: S))) target := by
  subst hv hp; exact XS.dsubS h hx rfl hd rfl hn rfl hr
theorem own_s_dmul (h : At T m c below) (hx : tb.exec = Jvm.exec) {x y v : UInt64} (hd : decode c.code pc = .ok (.dmul, 1)) (hp : pc + 1 = pc') (hn : Jvm.Free.Fl.NoNaN64 (FP.dmul x y)) (hv : FP.dmul x y = v)
    (hr : Steps tb e below (T.setTop (mkF m pc' L (.double v :: S))) target) : Steps tb e below (T.setTop (mkF m pc L (.double y :: .double x :: S))) target := by
  subst hv hp; exact XS.dmulS h hx rfl hd rfl hn rfl hr
theorem own_s_ddiv (h : At T m c below) (hx : tb.exec = Jvm.exec) {x y v : UInt64} (hd : decode c.code pc = .ok (.ddiv, 1)) (hp : pc + 1 = pc') (hn : Jvm.Free.Fl.NoNaN64 (FP.ddiv x y)) (hv : FP.ddiv x y = v)
    (hr : Steps tb e below (T.setTop (mkF m pc' L (.double v :: S))) target) : Steps tb e below (T.setTop (mkF m pc L (.double y :: .double x :: S))) target := by
  subst hv hp; exact XS.ddivS h hx rfl hd rfl hn rfl hr
theorem own_s_dcmp (h : At T m c below) (hx : tb.exec = Jvm.exec) {o : CmpOp} {x y : UInt64} {v : Int32} (hd : decode c.code pc = .ok (.dcmp o, 1)) (hp : pc + 1 = pc') (hv : Op.cmpValue (FP.dcmp x y) o = v)
    (hr : Steps tb e below (T.setTop (mkF m pc' L (.int v :: S))) target) : Steps tb e below (T.setTop (mkF m pc L (.double y :: .double x :: S))) target := by
  subst hv hp; exact XS.dcmpS h hx rfl hd rfl rfl hr
theorem own_s_lcmp (h : At T m c below) (hx : tb.exec = Jvm.exec) {x y : Int64} {v : Int32} (hd : decode c.code pc = .ok (.lcmp, 1)) (hp : pc + 1 = pc') (hv : lcmpW x y = v)
    (hr : Steps tb e below (T.setTop (mkF m pc' L (.int v :: S))) target) : Steps tb e below (T.setTop (mkF m pc L (.long y :: .long x :: S))) target := by
  subst hv hp; exact XS.lcmp h hx rfl hd rfl hr
theorem own_s_iconst (h : At T m c below) (hx : tb.exec = Jvm.exec) {i : Int} {v : Int32} (hd : decode c.code pc = .ok (.iconst i, 1)) (hp : pc + 1 = pc') (hv : Int32.ofInt i = v)
    (hr : Steps tb e below (T.setTop (mkF m pc' L (.int v :: S))) target) : Steps tb e below (T.setTop (mkF m pc L S)) target := by
  subst hv hp; exact XS.iconst h hx rfl hd hr
theorem own_s_bipush (h : At T m c below) (hx : tb.exec = Jvm.exec) {i : Int} {v : Int32} (hd : decode c.code pc = .ok (.bipush i, 2)) (hp : pc + 2 = pc') (hv : (Int8.ofInt i).toInt32 = v)
    (hr : Steps tb e below (T.setTop (mkF m pc' L (.int v :: S))) target) : Steps tb e below (T.setTop (mkF m pc L S)) target := by
  subst hv hp; exact XS.bipush h hx rfl hd hr
theorem own_s_sipush (h : At T m c below) (hx : tb.exec = Jvm.exec) {i : Int} {v : Int32} (hd : decode c.code pc = .ok (.sipush i, 3)) (hp : pc + 3 = pc') (hv : (Int16.ofInt i).toInt32 = v)
    (hr : Steps tb e below (T.setTop (mkF m pc' L (.int v :: S))) target) : Steps tb e below (T.setTop (mkF m pc L S)) target := by
  subst hv hp; exact XS.sipush h hx rfl hd hr
theorem own_s_lconst (h : At T m c below) (hx : tb.exec = Jvm.exec) {k : Fin 2} {v : Int64} (hd : decode c.code pc = .ok (.lconst k, 1)) (hp : pc + 1 = pc') (hv : Int64.ofNat k = v)
    (hr : Steps tb e below (T.setTop (mkF m pc' L (.long v :: S))) target) : Steps tb e below (T.setTop (mkF m pc L S)) target := by
  subst hv hp; exact XS.lconst h hx rfl hd hr
theorem own_s_dconst0 (h : At T m c below) (hx : tb.exec = Jvm.exec)  (hd : decode c.code pc = .ok (.dconst 0, 1)) (hp : pc + 1 = pc') 
    (hr : Steps tb e below (T.setTop (mkF m pc' L (.double 0 :: S))) target) : Steps tb e below (T.setTop (mkF m pc L S)) target := by
  subst hp; exact XS.dconst0 h hx rfl hd rfl hr
theorem own_s_dconst1 (h : At T m c below) (hx : tb.exec = Jvm.exec)  (hd : decode c.code pc = .ok (.dconst 1, 1)) (hp : pc + 1 = pc') 
    (hr : Steps tb e below (T.setTop (mkF m pc' L (.double 4607182418800017408 :: S))) target) : Steps tb e below (T.setTop (mkF m pc L S)) target := by
  subst hp; exact XS.dconst1 h hx rfl hd rfl hr
theorem own_s_aconst_null (h : At T m c below) (hx : tb.exec = Jvm.exec)  (hd : decode c.code pc = .ok (.aconst_null, 1)) (hp : pc + 1 = pc') 
    (hr : Steps tb e below (T.setTop (mkF m pc' L (.null :: S))) target) : Steps tb e below (T.setTop (mkF m pc L S)) target := by
  subst hp; exact XS.aconstNull h hx rfl hd hr
theorem own_s_dup (h : At T m c below) (hx : tb.exec = Jvm.exec) {x : Value} (hd : decode c.code pc = .ok (.dup, 1)) (hp : pc + 1 = pc') (hc : x.category = 1)
    (hr : Steps tb e below (T.setTop (mkF m pc' L (x :: x :: S))) target) : Steps tb e below (T.setTop (mkF m pc L (x :: S))) target := by
  subst hp; exact XS.dup h hx rfl hd rfl hc hr
theorem own_s_dupX1 (h : At T m c below) (hx : tb.exec = Jvm.exec) {x y : Value} (hd : decode c.code pc = .ok (.dup_x1, 1)) (hp : pc + 1 = pc') (hc : x.category = 1) (hc' : y.category = 1)
    (hr : Steps tb e below (T.setTop (mkF m pc' L (x :: y :: x :: S))) target) : Steps tb e below (T.setTop (mkF m pc L (x :: y :: S))) target := by
  subst hp; exact XS.dupX1 h hx rfl hd rfl hc hc' hr
theorem own_s_dup2 (h : At T m c below) (hx : tb.exec = Jvm.exec) {x y : Value} (hd : decode c.code pc = .ok (.dup2, 1)) (hp : pc + 1 = pc') (hc : x.category = 1) (hc' : y.category = 1)
    (hr : Steps tb e below (T.setTop (mkF m pc' L (x :: y :: x :: y :: S))) target) : Steps tb e below (T.setTop (mkF m pc L (x :: y :: S))) target := by
  subst hp; exact Jvm.Free.XT.dup2 h hx rfl hd rfl hc hc' hr
theorem own_s_pop (h : At T m c below) (hx : tb.exec = Jvm.exec) {x : Value} (hd : decode c.code pc = .ok (.pop, 1)) (hp : pc + 1 = pc') (hc : x.category = 1)
    (hr : Steps tb e below (T.setTop (mkF m pc' L S)) target) : Steps tb e below (T.setTop (mkF m pc L (x :: S))) target := by
  subst hp; exact XS.pop h hx rfl hd rfl hc hr
theorem own_s_iloadN (h : At T m c below) (hx : tb.exec = Jvm.exec) {k : Fin 4} {v : Int32} (hd : decode c.code pc = .ok (.iload_n k, 1)) (hp : pc + 1 = pc') (hl : L[k.val]? = some (.val (.int v)))
    (hr : Steps tb e below (T.setTop (mkF m pc' L (.int v :: S))) target) : Steps tb e below (T.setTop (mkF m pc L S)) target := by
  subst hp; exact XS.iloadN h hx rfl hd hl hr
theorem own_s_iload (h : At T m c below) (hx : tb.exec = Jvm.exec) {k : Nat} {v : Int32} (hd : decode c.code pc = .ok (.iload k, 2)) (hp : pc + 2 = pc') (hl : L[k]? = some (.val (.int v)))
    (hr : Steps tb e below (T.setTop (mkF m pc' L (.int v :: S))) target) : Steps tb e below (T.setTop (mkF m pc L S)) target := by
  subst hp; exact XS.iload h hx rfl hd hl hr
theorem own_s_istoreN (h : At T m c below) (hx : tb.exec = Jvm.exec) {k : Fin 4} {v : Int32} {L' : Array Slot} (hd : decode c.code pc = .ok (.istore_n k, 1)) (hp : pc + 1 = pc') (hl : storeLocals L k.val (.int v) = some L')
    (hr : Steps tb e below (T.setTop (mkF m pc' L' S)) target) : Steps tb e below (T.setTop (mkF m pc L (.int v :: S))) target := by
  subst hp; exact XS.istoreN h hx rfl hd rfl hl hr
theorem own_s_istore (h : At T m c below) (hx : tb.exec = Jvm.exec) {k : Nat} {v : Int32} {L' : Array Slot} (hd : decode c.code pc = .ok (.istore k, 2)) (hp : pc + 2 = pc') (hl : storeLocals L k (.int v) = some L')
    (hr : Steps tb e below (T.setTop (mkF m pc' L' S)) target) : Steps tb e below (T.setTop (mkF m pc L (.int v :: S))) target := by
  subst hp; exact XS.istore h hx rfl hd rfl hl hr
theorem own_s_lloadN (h : At T m c below) (hx : tb.exec = Jvm.exec) {k : Fin 4} {v : Int64} (hd : decode c.code pc = .ok (.lload_n k, 1)) (hp : pc + 1 = pc') (hl : L[k.val]? = some (.val (.long v)))
    (hr : Steps tb e below (T.setTop (mkF m pc' L (.long v :: S))) target) : Steps tb e below (T.setTop (mkF m pc L S)) target := by
  subst hp; exact XS.lloadN h hx rfl hd hl hr
theorem own_s_lload (h : At T m c below) (hx : tb.exec = Jvm.exec) {k : Nat} {v : Int64} (hd : decode c.code pc = .ok (.lload k, 2)) (hp : pc + 2 = pc') (hl : L[k]? = some (.val (.long v)))
    (hr : Steps tb e below (T.setTop (mkF m pc' L (.long v :: S))) target) : Steps tb e below (T.setTop (mkF m pc L S)) target := by
  subst hp; exact XS.lload h hx rfl hd hl hr
theorem own_s_lstoreN (h : At T m c below) (hx : tb.exec = Jvm.exec) {k : Fin 4} {v : Int64} {L' : Array Slot} (hd : decode c.code pc = .ok (.lstore_n k, 1)) (hp : pc + 1 = pc') (hl : storeLocals L k.val (.long v) = some L')
    (hr : Steps tb e below (T.setTop (mkF m pc' L' S)) target) : Steps tb e below (T.setTop (mkF m pc L (.long v :: S))) target := by
  subst hp; exact XS.lstoreN h hx rfl hd rfl hl hr
theorem own_s_lstore (h : At T m c below) (hx : tb.exec = Jvm.exec) {k : Nat} {v : Int64} {L' : Array Slot} (hd : decode c.code pc = .ok (.lstore k, 2)) (hp : pc + 2 = pc') (hl : storeLocals L k (.long v) = some L')
    (hr : Steps tb e below (T.setTop (mkF m pc' L' S)) target) : Steps tb e below (T.setTop (mkF m pc L (.long v :: S))) target := by
  subst hp; exact XS.lstore h hx rfl hd rfl hl hr
theorem own_s_dloadN (h : At T m c below) (hx : tb.exec = Jvm.exec) {k : Fin 4} {v : UInt64} (hd : decode c.code pc = .ok (.dload_n k, 1)) (hp : pc + 1 = pc') (hl : L[k.val]? = some (.val (.double v)))
    (hr : Steps tb e below (T.setTop (mkF m pc' L (.double v :: S))) target) : Steps tb e below (T.setTop (mkF m pc L S)) target := by
  subst hp; exact XS.dloadN h hx rfl hd hl hr
theorem own_s_dload (h : At T m c below) (hx : tb.exec = Jvm.exec) {k : Nat} {v : UInt64} (hd : decode c.code pc = .ok (.dload k, 2)) (hp : pc + 2 = pc') (hl : L[k]? = some (.val (.double v)))
    (hr : Steps tb e below (T.setTop (mkF m pc' L (.double v :: S))) target) : Steps tb e below (T.setTop (mkF m pc L S)) target := by
  subst hp; exact XS.dload h hx rfl hd hl hr
theorem own_s_dstoreN (h : At T m c below) (hx : tb.exec = Jvm.exec) {k : Fin 4} {v : UInt64} {L' : Array Slot} (hd : decode c.code pc = .ok (.dstore_n k, 1)) (hp : pc + 1 = pc') (hl : storeLocals L k.val (.double v) = some L')
    (hr : Steps tb e below (T.setTop (mkF m pc' L' S)) target) : Steps tb e below (T.setTop (mkF m pc L (.double v :: S))) target := by
  subst hp; exact XS.dstoreN h hx rfl hd rfl hl hr
theorem own_s_dstore (h : At T m c below) (hx : tb.exec = Jvm.exec) {k : Nat} {v : UInt64} {L' : Array Slot} (hd : decode c.code pc = .ok (.dstore k, 2)) (hp : pc + 2 = pc') (hl : storeLocals L k (.double v) = some L')
    (hr : Steps tb e below (T.setTop (mkF m pc' L' S)) target) : Steps tb e below (T.setTop (mkF m pc L (.double v :: S))) target := by
  subst hp; exact XS.dstore h hx rfl hd rfl hl hr
theorem own_s_aloadN (h : At T m c below) (hx : tb.exec = Jvm.exec) {k : Fin 4} {v : Value} (hd : decode c.code pc = .ok (.aload_n k, 1)) (hp : pc + 1 = pc') (hl : L[k.val]? = some (.val v)) (hr0 : v.isRef = true)
    (hr : Steps tb e below (T.setTop (mkF m pc' L (v :: S))) target) : Steps tb e below (T.setTop (mkF m pc L S)) target := by
  subst hp; exact XS.aloadN h hx rfl hd hl hr0 hr
theorem own_s_aload (h : At T m c below) (hx : tb.exec = Jvm.exec) {k : Nat} {v : Value} (hd : decode c.code pc = .ok (.aload k, 2)) (hp : pc + 2 = pc') (hl : L[k]? = some (.val v)) (hr0 : v.isRef = true)
    (hr : Steps tb e below (T.setTop (mkF m pc' L (v :: S))) target) : Steps tb e below (T.setTop (mkF m pc L S)) target := by
  subst hp; exact XS.aload h hx rfl hd hl hr0 hr
theorem own_s_astoreN (h : At T m c below) (hx : tb.exec = Jvm.exec) {k : Fin 4} {v : Value} {L' : Array Slot} (hd : decode c.code pc = .ok (.astore_n k, 1)) (hp : pc + 1 = pc') (hr0 : v.isRef = true) (hl : storeLocals L k.val v = some L')
    (hr : Steps tb e below (T.setTop (mkF m pc' L' S)) target) : Steps tb e below (T.setTop (mkF m pc L (v :: S))) target := by
  subst hp; exact XS.astoreN h hx rfl hd rfl hr0 hl hr
theorem own_s_astore (h : At T m c below) (hx : tb.exec = Jvm.exec) {k : Nat} {v : Value} {L' : Array Slot} (hd : decode c.code pc = .ok (.astore k, 2)) (hp : pc + 2 = pc') (hr0 : v.isRef = true) (hl : storeLocals L k v = some L')
    (hr : Steps tb e below (T.setTop (mkF m pc' L' S)) target) : Steps tb e below (T.setTop (mkF m pc L (v :: S))) target := by
  subst hp; exact XS.astore h hx rfl hd rfl hr0 hl hr
theorem own_s_iinc (h : At T m c below) (hx : tb.exec = Jvm.exec) {k : Nat} {cst : Int} {x v : Int32} {L' : Array Slot} (hd : decode c.code pc = .ok (.iinc k cst, 3)) (hp : pc + 3 = pc') (hl : L[k]? = some (.val (.int x))) (hv : x + Int32.ofInt cst = v) (hl' : storeLocals L k (.int v) = some L')
    (hr : Steps tb e below (T.setTop (mkF m pc' L' S)) target) : Steps tb e below (T.setTop (mkF m pc L S)) target := by
  subst hv hp; exact XS.iinc h hx rfl hd hl hl' hr
theorem own_s_goto (h : At T m c below) (hx : tb.exec = Jvm.exec)  {o : Int} (hd : decode c.code pc = .ok (.goto o, 3)) (ho : 0 ≤ (pc : Int) + o) (hp : ((pc : Int) + o).toNat = pc') 
    (hr : Steps tb e below (T.setTop (mkF m pc' L S)) target) : Steps tb e below (T.setTop (mkF m pc L S)) target := by
  exact XS.goto h hx rfl rfl hd ho hp hr
theorem own_s_ifYes (h : At T m c below) (hx : tb.exec = Jvm.exec) {cd : ClassFile.Cond} {x : Int32} {o : Int} (hd : decode c.code pc = .ok (.ifCond cd o, 3)) (ho : 0 ≤ (pc : Int) + o) (hp : ((pc : Int) + o).toNat = pc') (hc : ifCond.holds cd x = true)
    (hr : Steps tb e below (T.setTop (mkF m pc' L S)) target) : Steps tb e below (T.setTop (mkF m pc L (.int x :: S))) target := by
  exact XS.ifYes h hx rfl rfl hd rfl hc ho hp hr
theorem own_s_icmpYes (h : At T m c below) (hx : tb.exec = Jvm.exec) {cd : ClassFile.Cond} {x y : Int32} {o : Int} (hd : decode c.code pc = .ok (.if_icmp cd o, 3)) (ho : 0 ≤ (pc : Int) + o) (hp : ((pc : Int) + o).toNat = pc') (hc : if_icmp.holds cd x y = true)
    (hr : Steps tb e below (T.setTop (mkF m pc' L S)) target) : Steps tb e below (T.setTop (mkF m pc L (.int y :: .int x :: S))) target := by
  exact XS.icmpYes h hx rfl rfl hd rfl hc ho hp hr
theorem own_s_ifNo (h : At T m c below) (hx : tb.exec = Jvm.exec) {cd : ClassFile.Cond} {o : Int} {x : Int32} (hd : decode c.code pc = .ok (.ifCond cd o, 3)) (hp : pc + 3 = pc') (hc : ifCond.holds cd x = false)
    (hr : Steps tb e below (T.setTop (mkF m pc' L S)) target) : Steps tb e below (T.setTop (mkF m pc L (.int x :: S))) target := by
  subst hp; exact XS.ifNo h hx rfl hd rfl hc hr
theorem own_s_icmpNo (h : At T m c below) (hx : tb.exec = Jvm.exec) {cd : ClassFile.Cond} {o : Int} {x y : Int32} (hd : decode c.code pc = .ok (.if_icmp cd o, 3)) (hp : pc + 3 = pc') (hc : if_icmp.holds cd x y = false)
    (hr : Steps tb e below (T.setTop (mkF m pc' L S)) target) : Steps tb e below (T.setTop (mkF m pc L (.int y :: .int x :: S))) target := by
  subst hp; exact XS.icmpNo h hx rfl hd rfl hc hr
theorem own_s_ifnullYes (h : At T m c below) (hx : tb.exec = Jvm.exec)  {o : Int} (hd : decode c.code pc = .ok (.ifnull o, 3)) (ho : 0 ≤ (pc : Int) + o) (hp : ((pc : Int) + o).toNat = pc') 
    (hr : Steps tb e below (T.setTop (mkF m pc' L S)) target) : Steps tb e below (T.setTop (mkF m pc L (.null :: S))) target := by
  exact XS.ifnullYes h hx rfl rfl hd rfl ho hp hr
theorem own_s_ifnullNo (h : At T m c below) (hx : tb.exec = Jvm.exec) {o : Int} {b : Addr} (hd : decode c.code pc = .ok (.ifnull o, 3)) (hp : pc + 3 = pc') 
    (hr : Steps tb e below (T.setTop (mkF m pc' L S)) target) : Steps tb e below (T.setTop (mkF m pc L (.ref b :: S))) target := by
  subst hp; exact XS.ifnullNo h hx rfl hd rfl hr
theorem own_s_ifnonnullYes (h : At T m c below) (hx : tb.exec = Jvm.exec) {b : Addr} {o : Int} (hd : decode c.code pc = .ok (.ifnonnull o, 3)) (ho : 0 ≤ (pc : Int) + o) (hp : ((pc : Int) + o).toNat = pc') 
    (hr : Steps tb e below (T.setTop (mkF m pc' L S)) target) : Steps tb e below (T.setTop (mkF m pc L (.ref b :: S))) target := by
  exact XS.ifnonnullYes h hx rfl rfl hd rfl ho hp hr
theorem own_s_ifnonnullNo (h : At T m c below) (hx : tb.exec = Jvm.exec) {o : Int} (hd : decode c.code pc = .ok (.ifnonnull o, 3)) (hp : pc + 3 = pc') 
    (hr : Steps tb e below (T.setTop (mkF m pc' L S)) target) : Steps tb e below (T.setTop (mkF m pc L (.null :: S))) target := by
  subst hp; exact XS.ifnonnullNo h hx rfl hd rfl hr
end OwnStep
section OwnStepL
open Jvm Jvm.ClassFile Sem Op Lib Jvm.Free Jvm.Stand Jvm.LawKit Jvm.RoadKit
variable {lk : Addr} {tb : Tables} [Ours tb] {e : Env} {below : List Frame} {T target : State} {m : MethodId} {c : Code} {pc pc' : Nat} {L : Array Slot} {S : List Value}
theorem own_y_iadd (h : At T m c below) (hx : tb.exec = Jvm.exec) {x y v : Int32} (hd : decode c.code pc = .ok (.iadd, 1)) (hp : pc + 1 = pc') (hv : x + y = v)
    (hr : Steps tb e below (T.setTop (mkL lk m pc' L (.int v :: S))) target) : Steps tb e below (T.setTop (mkL lk m pc L (.int y :: .int x :: S))) target := by
  subst hv hp; exact XS.iadd h hx rfl hd rfl hr
theorem own_y_ladd (h : At T m c below) (hx : tb.exec = Jvm.exec) {x y v : Int64} (hd : decode c.code pc = .ok (.ladd, 1)) (hp : pc + 1 = pc') (hv : x + y = v)
    (hr : Steps tb e below (T.setTop (mkL lk m pc' L (.long v :: S))) target) : Steps tb e below (T.setTop (mkL lk m pc L (.long y :: .long x :: S))) target := by
  subst hv hp; exact XS.ladd h hx rfl hd rfl hr
theorem own_y_isub (h : At T m c below) (hx : tb.exec = Jvm.exec) {x y v : Int32} (hd : decode c.code pc = .ok (.isub, 1)) (hp : pc + 1 = pc') (hv : x - y = v)
    (hr : Steps tb e below (T.setTop (mkL lk m pc' L (.int v :: S))) target) : Steps tb e below (T.setTop (mkL lk m pc L (.int y :: .int x :: S))) target := by
  subst hv hp; exact XS.isub h hx rfl hd rfl hr
theorem own_y_lsub (h : At T m c below) (hx : tb.exec = Jvm.exec) {x y v : Int64} (hd : decode c.code pc = .ok (.lsub, 1)) (hp : pc + 1 = pc') (hv : x - y = v)
    (hr : Steps tb e below (T.setTop (mkL lk m pc' L (.long v :: S))) target) : Steps tb e below (T.setTop (mkL lk m pc L (.long y :: .long x :: S))) target := by
  subst hv hp; exact XS.lsub h hx rfl hd rfl hr
theorem own_y_imul (h : At T m c below) (hx : tb.exec = Jvm.exec) {x y v : Int32} (hd : decode c.code pc = .ok (.imul, 1)) (hp : pc + 1 = pc') (hv : x * y = v)
    (hr : Steps tb e below (T.setTop (mkL lk m pc' L (.int v :: S))) target) : Steps tb e below (T.setTop (mkL lk m pc L (.int y :: .int x :: S))) target := by
  subst hv hp; exact XS.imul h hx rfl hd rfl hr
theorem own_y_lmul (h : At T m c below) (hx : tb.exec = Jvm.exec) {x y v : Int64} (hd : decode c.code pc = .ok (.lmul, 1)) (hp : pc + 1 = pc') (hv : x * y = v)
    (hr : Steps tb e below (T.setTop (mkL lk m pc' L (.long v :: S))) target) : Steps tb e below (T.setTop (mkL lk m pc L (.long y :: .long x :: S))) target := by
  subst hv hp; exact XS.lmul h hx rfl hd rfl hr
theorem own_y_iand (h : At T m c below) (hx : tb.exec = Jvm.exec) {x y v : Int32} (hd : decode c.code pc = .ok (.iand, 1)) (hp : pc + 1 = pc') (hv : x &&& y = v)
    (hr : Steps tb e below (T.setTop (mkL lk m pc' L (.int v :: S))) target) : Steps tb e below (T.setTop (mkL lk m pc L (.int y :: .int x :: S))) target := by
  subst hv hp; exact XS.iand h hx rfl hd rfl hr
theorem own_y_land (h : At T m c below) (hx : tb.exec = Jvm.exec) {x y v : Int64} (hd : decode c.code pc = .ok (.land, 1)) (hp : pc + 1 = pc') (hv : x &&& y = v)
    (hr : Steps tb e below (T.setTop (mkL lk m pc' L (.long v :: S))) target) : Steps tb e below (T.setTop (mkL lk m pc L (.long y :: .long x :: S))) target := by
  subst hv hp; exact XS.land h hx rfl hd rfl hr
theorem own_y_ior (h : At T m c below) (hx : tb.exec = Jvm.exec) {x y v : Int32} (hd : decode c.code pc = .ok (.ior, 1)) (hp : pc + 1 = pc') (hv : x ||| y = v)
    (hr : Steps tb e below (T.setTop (mkL lk m pc' L (.int v :: S))) target) : Steps tb e below (T.setTop (mkL lk m pc L (.int y :: .int x :: S))) target := by
  subst hv hp; exact XS.ior h hx rfl hd rfl hr
theorem own_y_lor (h : At T m c below) (hx : tb.exec = Jvm.exec) {x y v : Int64} (hd : decode c.code pc = .ok (.lor, 1)) (hp : pc + 1 = pc') (hv : x ||| y = v)
    (hr : Steps tb e below (T.setTop (mkL lk m pc' L (.long v :: S))) target) : Steps tb e below (T.setTop (mkL lk m pc L (.long y :: .long x :: S))) target := by
  subst hv hp; exact XS.lor h hx rfl hd rfl hr
theorem own_y_ixor (h : At T m c below) (hx : tb.exec = Jvm.exec) {x y v : Int32} (hd : decode c.code pc = .ok (.ixor, 1)) (hp : pc + 1 = pc') (hv : x ^^^ y = v)
    (hr : Steps tb e below (T.setTop (mkL lk m pc' L (.int v :: S))) target) : Steps tb e below (T.setTop (mkL lk m pc L (.int y :: .int x :: S))) target := by
  subst hv hp; exact XS.ixor h hx rfl hd rfl hr
theorem own_y_lxor (h : At T m c below) (hx : tb.exec = Jvm.exec) {x y v : Int64} (hd : decode c.code pc = .ok (.lxor, 1)) (hp : pc + 1 = pc') (hv : x ^^^ y = v)
    (hr : Steps tb e below (T.setTop (mkL lk m pc' L (.long v :: S))) target) : Steps tb e below (T.setTop (mkL lk m pc L (.long y :: .long x :: S))) target := by
  subst hv hp; exact XS.lxor h hx rfl hd rfl hr
theorem own_y_idiv (h : At T m c below) (hx : tb.exec = Jvm.exec) {x y v : Int32} (hd : decode c.code pc = .ok (.idiv, 1)) (hp : pc + 1 = pc') (hy : y ≠ 0) (hv : x / y = v)
    (hr : Steps tb e below (T.setTop (mkL lk m pc' L (.int v :: S))) target) : Steps tb e below (T.setTop (mkL lk m pc L (.int y :: .int x :: S))) target := by
  subst hv hp; exact XS.idiv h hx rfl hd rfl hy hr
theorem own_y_irem (h : At T m c below) (hx : tb.exec = Jvm.exec) {x y v : Int32} (hd : decode c.code pc = .ok (.irem, 1)) (hp : pc + 1 = pc') (hy : y ≠ 0) (hv : x % y = v)
    (hr : Steps tb e below (T.setTop (mkL lk m pc' L (.int v :: S))) target) : Steps tb e below (T.setTop (mkL lk m pc L (.int y :: .int x :: S))) target := by
  subst hv hp; rw [← irem_eq_mod] at hr; exact XS.irem h hx rfl hd rfl hy hr
theorem own_y_ldiv (h : At T m c below) (hx : tb.exec = Jvm.exec) {x y v : Int64} (hd : decode c.code pc = .ok (.ldiv, 1)) (hp : pc + 1 = pc') (hy : y ≠ 0) (hv : x / y = v)
    (hr : Steps tb e below (T.setTop (mkL lk m pc' L (.long v :: S))) target) : Steps tb e below (T.setTop (mkL lk m pc L (.long y :: .long x :: S))) target := by
  subst hv hp; exact XS.ldiv h hx rfl hd rfl hy hr
theorem own_y_lrem (h : At T m c below) (hx : tb.exec = Jvm.exec) {x y v : Int64} (hd : decode c.code pc = .ok (.lrem, 1)) (hp : pc + 1 = pc') (hy : y ≠ 0) (hv : x % y = v)
    (hr : Steps tb e below (T.setTop (mkL lk m pc' L (.long v :: S))) target) : Steps tb e below (T.setTop (mkL lk m pc L (.long y :: .long x :: S))) target := by
  subst hv hp; rw [← lrem_mod] at hr; exact XS.lrem h hx rfl hd rfl hy hr
theorem own_y_ishl (h : At T m c below) (hx : tb.exec = Jvm.exec) {x y v : Int32} (hd : decode c.code pc = .ok (.ishl, 1)) (hp : pc + 1 = pc') (hv : x <<< (y &&& 31) = v)
    (hr : Steps tb e below (T.setTop (mkL lk m pc' L (.int v :: S))) target) : Steps tb e below (T.setTop (mkL lk m pc L (.int y :: .int x :: S))) target := by
  subst hv hp; exact XS.ishl h hx rfl hd rfl hr
theorem own_y_ishr (h : At T m c below) (hx : tb.exec = Jvm.exec) {x y v : Int32} (hd : decode c.code pc = .ok (.ishr, 1)) (hp : pc + 1 = pc') (hv : x >>> (y &&& 31) = v)
    (hr : Steps tb e below (T.setTop (mkL lk m pc' L (.int v :: S))) target) : Steps tb e below (T.setTop (mkL lk m pc L (.int y :: .int x :: S))) target := by
  subst hv hp; exact XS.ishr h hx rfl hd rfl hr
theorem own_y_iushr (h : At T m c below) (hx : tb.exec = Jvm.exec) {x y v : Int32} (hd : decode c.code pc = .ok (.iushr, 1)) (hp : pc + 1 = pc') (hv : (x.toUInt32 >>> (y &&& 31).toUInt32).toInt32 = v)
    (hr : Steps tb e below (T.setTop (mkL lk m pc' L (.int v :: S))) target) : Steps tb e below (T.setTop (mkL lk m pc L (.int y :: .int x :: S))) target := by
  subst hv hp; exact XS.iushr h hx rfl hd rfl hr
theorem own_y_lshl (h : At T m c below) (hx : tb.exec = Jvm.exec) {x v : Int64} {y : Int32} (hd : decode c.code pc = .ok (.lshl, 1)) (hp : pc + 1 = pc') (hv : x <<< (y &&& 63).toInt64 = v)
    (hr : Steps tb e below (T.setTop (mkL lk m pc' L (.long v :: S))) target) : Steps tb e below (T.setTop (mkL lk m pc L (.int y :: .long x :: S))) target := by
  subst hv hp; exact XS.lshl h hx rfl hd rfl hr
theorem own_y_lshr (h : At T m c below) (hx : tb.exec = Jvm.exec) {x v : Int64} {y : Int32} (hd : decode c.code pc = .ok (.lshr, 1)) (hp : pc + 1 = pc') (hv : x >>> (y &&& 63).toInt64 = v)
    (hr : Steps tb e below (T.setTop (mkL lk m pc' L (.long v :: S))) target) : Steps tb e below (T.setTop (mkL lk m pc L (.int y :: .long x :: S))) target := by
  subst hv hp; exact XS.lshr h hx rfl hd rfl hr
theorem own_y_lushr (h : At T m c below) (hx : tb.exec = Jvm.exec) {x v : Int64} {y : Int32} (hd : decode c.code pc = .ok (.lushr, 1)) (hp : pc + 1 = pc') (hv : (x.toUInt64 >>> (y &&& 63).toInt64.toUInt64).toInt64 = v)
    (hr : Steps tb e below (T.setTop (mkL lk m pc' L (.long v :: S))) target) : Steps tb e below (T.setTop (mkL lk m pc L (.int y :: .long x :: S))) target := by
  subst hv hp; exact XS.lushr h hx rfl hd rfl hr
theorem own_y_i2l (h : At T m c below) (hx : tb.exec = Jvm.exec) {x : Int32} {v : Int64} (hd : decode c.code pc = .ok (.i2l, 1)) (hp : pc + 1 = pc') (hv : x.toInt64 = v)
    (hr : Steps tb e below (T.setTop (mkL lk m pc' L (.long v :: S))) target) : Steps tb e below (T.setTop (mkL lk m pc L (.int x :: S))) target := by
  subst hv hp; exact XS.i2l h hx rfl hd rfl hr
theorem own_y_l2i (h : At T m c below) (hx : tb.exec = Jvm.exec) {x : Int64} {v : Int32} (hd : decode c.code pc = .ok (.l2i, 1)) (hp : pc + 1 = pc') (hv : x.toInt32 = v)
    (hr : Steps tb e below (T.setTop (mkL lk m pc' L (.int v :: S))) target) : Steps tb e below (T.setTop (mkL lk m pc L (.long x :: S))) target := by
  subst hv hp; exact XS.l2i h hx rfl hd rfl hr
theorem own_y_i2b (h : At T m c below) (hx : tb.exec = Jvm.exec) {x : Int32} {v : Int32} (hd : decode c.code pc = .ok (.i2b, 1)) (hp : pc + 1 = pc') (hv : x.toInt8.toInt32 = v)
    (hr : Steps tb e below (T.setTop (mkL lk m pc' L (.int v :: S))) target) : Steps tb e below (T.setTop (mkL lk m pc L (.int x :: S))) target := by
  subst hv hp; exact XS.i2b h hx rfl hd rfl hr
theorem own_y_i2s (h : At T m c below) (hx : tb.exec = Jvm.exec) {x : Int32} {v : Int32} (hd : decode c.code pc = .ok (.i2s, 1)) (hp : pc + 1 = pc') (hv : x.toInt16.toInt32 = v)
    (hr : Steps tb e below (T.setTop (mkL lk m pc' L (.int v :: S))) target) : Steps tb e below (T.setTop (mkL lk m pc L (.int x :: S))) target := by
  subst hv hp; exact XS.i2s h hx rfl hd rfl hr
theorem own_y_ineg (h : At T m c below) (hx : tb.exec = Jvm.exec) {x : Int32} {v : Int32} (hd : decode c.code pc = .ok (.ineg, 1)) (hp : pc + 1 = pc') (hv : -x = v)
    (hr : Steps tb e below (T.setTop (mkL lk m pc' L (.int v :: S))) target) : Steps tb e below (T.setTop (mkL lk m pc L (.int x :: S))) target := by
  subst hv hp; exact XS.ineg h hx rfl hd rfl hr
theorem own_y_lneg (h : At T m c below) (hx : tb.exec = Jvm.exec) {x : Int64} {v : Int64} (hd : decode c.code pc = .ok (.lneg, 1)) (hp : pc + 1 = pc') (hv : -x = v)
    (hr : Steps tb e below (T.setTop (mkL lk m pc' L (.long v :: S))) target) : Steps tb e below (T.setTop (mkL lk m pc L (.long x :: S))) target := by
  subst hv hp; exact XS.lneg h hx rfl hd rfl hr
theorem own_y_i2d (h : At T m c below) (hx : tb.exec = Jvm.exec) {x : Int32} {v : UInt64} (hd : decode c.code pc = .ok (.i2d, 1)) (hp : pc + 1 = pc') (hv : FP.i2d x = v)
    (hr : Steps tb e below (T.setTop (mkL lk m pc' L (.double v :: S))) target) : Steps tb e below (T.setTop (mkL lk m pc L (.int x :: S))) target := by
  subst hv hp; exact XS.i2dS h hx rfl hd rfl rfl hr
theorem own_y_l2d (h : At T m c below) (hx : tb.exec = Jvm.exec) {x : Int64} {v : UInt64} (hd : decode c.code pc = .ok (.l2d, 1)) (hp : pc + 1 = pc') (hv : FP.l2d x = v)
    (hr : Steps tb e below (T.setTop (mkL lk m pc' L (.double v :: S))) target) : Steps tb e below (T.setTop (mkL lk m pc L (.long x :: S))) target := by
  subst hv hp; exact XS.l2dS h hx rfl hd rfl rfl hr
theorem own_y_dneg (h : At T m c below) (hx : tb.exec = Jvm.exec) {x : UInt64} {v : UInt64} (hd : decode c.code pc = .ok (.dneg, 1)) (hp : pc + 1 = pc') (hv : FP.dneg x = v)
    (hr : Steps tb e below (T.setTop (mkL lk m pc' L (.double v :: S))) target) : Steps tb e below (T.setTop (mkL lk m pc L (.double x :: S))) target := by
  subst hv hp; exact XS.dnegS h hx rfl hd rfl rfl hr
theorem own_y_dadd (h : At T m c below) (hx : tb.exec = Jvm.exec) {x y v : UInt64} (hd : decode c.code pc = .ok (.dadd, 1)) (hp : pc + 1 = pc') (hn : Jvm.Free.Fl.NoNaN64 (FP.dadd x y)) (hv : FP.dadd x y = v)
    (hr : Steps tb e below (T.setTop (mkL lk m pc' L (.double v :: S))) target) : Steps tb e below (T.setTop (mkL lk m pc L (.double y :: .double x :: S))) target := by
  subst hv hp; exact XS.daddS h hx rfl hd rfl hn rfl hr
theorem own_y_dsub (h : At T m c below) (hx : tb.exec = Jvm.exec) {x y v : UInt64} (hd : decode c.code pc = .ok (.dsub, 1)) (hp : pc + 1 = pc') (hn : Jvm.Free.Fl.NoNaN64 (FP.dsub x y)) (hv : FP.dsub x y = v)
    (hr : Steps tb e below (T.setTop (mkL lk m pc' L (.double v :: S))) target) : Steps tb e below (T.setTop (mkL lk m pc L (.double y :: .double x :: S))) target := by
  subst hv hp; exact XS.dsubS h hx rfl hd rfl hn rfl hr
theorem own_y_dmul (h : At T m c below) (hx : tb.exec = Jvm.exec) {x y v : UInt64} (hd : decode c.code pc = .ok (.dmul, 1)) (hp : pc + 1 = pc') (hn : Jvm.Free.Fl.NoNaN64 (FP.dmul x y)) (hv : FP.dmul x y = v)
    (hr : Steps tb e below (T.setTop (mkL lk m pc' L (.double v :: S))) target) : Steps tb e below (T.setTop (mkL lk m pc L (.double y :: .double x :: S))) target := by
  subst hv hp; exact XS.dmulS h hx rfl hd rfl hn rfl hr
theorem own_y_ddiv (h : At T m c below) (hx : tb.exec = Jvm.exec) {x y v : UInt64} (hd : decode c.code pc = .ok (.ddiv, 1)) (hp : pc + 1 = pc') (hn : Jvm.Free.Fl.NoNaN64 (FP.ddiv x y)) (hv : FP.ddiv x y = v)
    (hr : Steps tb e below (T.setTop (mkL lk m pc' L (.double v :: S))) target) : Steps tb e below (T.setTop (mkL lk m pc L (.double y :: .double x :: S))) target := by
  subst hv hp; exact XS.ddivS h hx rfl hd rfl hn rfl hr
theorem own_y_dcmp (h : At T m c below) (hx : tb.exec = Jvm.exec) {o : CmpOp} {x y : UInt64} {v : Int32} (hd : decode c.code pc = .ok (.dcmp o, 1)) (hp : pc + 1 = pc') (hv : Op.cmpValue (FP.dcmp x y) o = v)
    (hr : Steps tb e below (T.setTop (mkL lk m pc' L (.int v :: S))) target) : Steps tb e below (T.setTop (mkL lk m pc L (.double y :: .double x :: S))) target := by
  subst hv hp; exact XS.dcmpS h hx rfl hd rfl rfl hr
theorem own_y_lcmp (h : At T m c below) (hx : tb.exec = Jvm.exec) {x y : Int64} {v : Int32} (hd : decode c.code pc = .ok (.lcmp, 1)) (hp : pc + 1 = pc') (hv : lcmpW x y = v)
    (hr : Steps tb e below (T.setTop (mkL lk m pc' L (.int v :: S))) target) : Steps tb e below (T.setTop (mkL lk m pc L (.long y :: .long x :: S))) target := by
  subst hv hp; exact XS.lcmp h hx rfl hd rfl hr
theorem own_y_iconst (h : At T m c below) (hx : tb.exec = Jvm.exec) {i : Int} {v : Int32} (hd : decode c.code pc = .ok (.iconst i, 1)) (hp : pc + 1 = pc') (hv : Int32.ofInt i = v)
    (hr : Steps tb e below (T.setTop (mkL lk m pc' L (.int v :: S))) target) : Steps tb e below (T.setTop (mkL lk m pc L S)) target := by
  subst hv hp; exact XS.iconst h hx rfl hd hr
theorem own_y_bipush (h : At T m c below) (hx : tb.exec = Jvm.exec) {i : Int} {v : Int32} (hd : decode c.code pc = .ok (.bipush i, 2)) (hp : pc + 2 = pc') (hv : (Int8.ofInt i).toInt32 = v)
    (hr : Steps tb e below (T.setTop (mkL lk m pc' L (.int v :: S))) target) : Steps tb e below (T.setTop (mkL lk m pc L S)) target := by
  subst hv hp; exact XS.bipush h hx rfl hd hr
theorem own_y_sipush (h : At T m c below) (hx : tb.exec = Jvm.exec) {i : Int} {v : Int32} (hd : decode c.code pc = .ok (.sipush i, 3)) (hp : pc + 3 = pc') (hv : (Int16.ofInt i).toInt32 = v)
    (hr : Steps tb e below (T.setTop (mkL lk m pc' L (.int v :: S))) target) : Steps tb e below (T.setTop (mkL lk m pc L S)) target := by
  subst hv hp; exact XS.sipush h hx rfl hd hr
theorem own_y_lconst (h : At T m c below) (hx : tb.exec = Jvm.exec) {k : Fin 2} {v : Int64} (hd : decode c.code pc = .ok (.lconst k, 1)) (hp : pc + 1 = pc') (hv : Int64.ofNat k = v)
    (hr : Steps tb e below (T.setTop (mkL lk m pc' L (.long v :: S))) target) : Steps tb e below (T.setTop (mkL lk m pc L S)) target := by
  subst hv hp; exact XS.lconst h hx rfl hd hr
theorem own_y_dconst0 (h : At T m c below) (hx : tb.exec = Jvm.exec)  (hd : decode c.code pc = .ok (.dconst 0, 1)) (hp : pc + 1 = pc') 
    (hr : Steps tb e below (T.setTop (mkL lk m pc' L (.double 0 :: S))) target) : Steps tb e below (T.setTop (mkL lk m pc L S)) target := by
  subst hp; exact XS.dconst0 h hx rfl hd rfl hr
theorem own_y_dconst1 (h : At T m c below) (hx : tb.exec = Jvm.exec)  (hd : decode c.code pc = .ok (.dconst 1, 1)) (hp : pc + 1 = pc') 
    (hr : Steps tb e below (T.setTop (mkL lk m pc' L (.double 4607182418800017408 :: S))) target) : Steps tb e below (T.setTop (mkL lk m pc L S)) target := by
  subst hp; exact XS.dconst1 h hx rfl hd rfl hr
theorem own_y_aconst_null (h : At T m c below) (hx : tb.exec = Jvm.exec)  (hd : decode c.code pc = .ok (.aconst_null, 1)) (hp : pc + 1 = pc') 
    (hr : Steps tb e below (T.setTop (mkL lk m pc' L (.null :: S))) target) : Steps tb e below (T.setTop (mkL lk m pc L S)) target := by
  subst hp; exact XS.aconstNull h hx rfl hd hr
theorem own_y_dup (h : At T m c below) (hx : tb.exec = Jvm.exec) {x : Value} (hd : decode c.code pc = .ok (.dup, 1)) (hp : pc + 1 = pc') (hc : x.category = 1)
    (hr : Steps tb e below (T.setTop (mkL lk m pc' L (x :: x :: S))) target) : Steps tb e below (T.setTop (mkL lk m pc L (x :: S))) target := by
  subst hp; exact XS.dup h hx rfl hd rfl hc hr
theorem own_y_dupX1 (h : At T m c below) (hx : tb.exec = Jvm.exec) {x y : Value} (hd : decode c.code pc = .ok (.dup_x1, 1)) (hp : pc + 1 = pc') (hc : x.category = 1) (hc' : y.category = 1)
    (hr : Steps tb e below (T.setTop (mkL lk m pc' L (x :: y :: x :: S))) target) : Steps tb e below (T.setTop (mkL lk m pc L (x :: y :: S))) target := by
  subst hp; exact XS.dupX1 h hx rfl hd rfl hc hc' hr
theorem own_y_dup2 (h : At T m c below) (hx : tb.exec = Jvm.exec) {x y : Value} (hd : decode c.code pc = .ok (.dup2, 1)) (hp : pc + 1 = pc') (hc : x.category = 1) (hc' : y.category = 1)
    (hr : Steps tb e below (T.setTop (mkL lk m pc' L (x :: y :: x :: y :: S))) target) : Steps tb e below (T.setTop (mkL lk m pc L (x :: y :: S))) target := by
  subst hp; exact Jvm.Free.XT.dup2 h hx rfl hd rfl hc hc' hr
theorem own_y_pop (h : At T m c below) (hx : tb.exec = Jvm.exec) {x : Value} (hd : decode c.code pc = .ok (.pop, 1)) (hp : pc + 1 = pc') (hc : x.category = 1)
    (hr : Steps tb e below (T.setTop (mkL lk m pc' L S)) target) : Steps tb e below (T.setTop (mkL lk m pc L (x :: S))) target := by
  subst hp; exact XS.pop h hx rfl hd rfl hc hr
theorem own_y_iloadN (h : At T m c below) (hx : tb.exec = Jvm.exec) {k : Fin 4} {v : Int32} (hd : decode c.code pc = .ok (.iload_n k, 1)) (hp : pc + 1 = pc') (hl : L[k.val]? = some (.val (.int v)))
    (hr : Steps tb e below (T.setTop (mkL lk m pc' L (.int v :: S))) target) : Steps tb e below (T.setTop (mkL lk m pc L S)) target := by
  subst hp; exact XS.iloadN h hx rfl hd hl hr
theorem own_y_iload (h : At T m c below) (hx : tb.exec = Jvm.exec) {k : Nat} {v : Int32} (hd : decode c.code pc = .ok (.iload k, 2)) (hp : pc + 2 = pc') (hl : L[k]? = some (.val (.int v)))
    (hr : Steps tb e below (T.setTop (mkL lk m pc' L (.int v :: S))) target) : Steps tb e below (T.setTop (mkL lk m pc L S)) target := by
  subst hp; exact XS.iload h hx rfl hd hl hr
theorem own_y_istoreN (h : At T m c below) (hx : tb.exec = Jvm.exec) {k : Fin 4} {v : Int32} {L' : Array Slot} (hd : decode c.code pc = .ok (.istore_n k, 1)) (hp : pc + 1 = pc') (hl : storeLocals L k.val (.int v) = some L')
    (hr : Steps tb e below (T.setTop (mkL lk m pc' L' S)) target) : Steps tb e below (T.setTop (mkL lk m pc L (.int v :: S))) target := by
  subst hp; exact XS.istoreN h hx rfl hd rfl hl hr
theorem own_y_istore (h : At T m c below) (hx : tb.exec = Jvm.exec) {k : Nat} {v : Int32} {L' : Array Slot} (hd : decode c.code pc = .ok (.istore k, 2)) (hp : pc + 2 = pc') (hl : storeLocals L k (.int v) = some L')
    (hr : Steps tb e below (T.setTop (mkL lk m pc' L' S)) target) : Steps tb e below (T.setTop (mkL lk m pc L (.int v :: S))) target := by
  subst hp; exact XS.istore h hx rfl hd rfl hl hr
theorem own_y_lloadN (h : At T m c below) (hx : tb.exec = Jvm.exec) {k : Fin 4} {v : Int64} (hd : decode c.code pc = .ok (.lload_n k, 1)) (hp : pc + 1 = pc') (hl : L[k.val]? = some (.val (.long v)))
    (hr : Steps tb e below (T.setTop (mkL lk m pc' L (.long v :: S))) target) : Steps tb e below (T.setTop (mkL lk m pc L S)) target := by
  subst hp; exact XS.lloadN h hx rfl hd hl hr
theorem own_y_lload (h : At T m c below) (hx : tb.exec = Jvm.exec) {k : Nat} {v : Int64} (hd : decode c.code pc = .ok (.lload k, 2)) (hp : pc + 2 = pc') (hl : L[k]? = some (.val (.long v)))
    (hr : Steps tb e below (T.setTop (mkL lk m pc' L (.long v :: S))) target) : Steps tb e below (T.setTop (mkL lk m pc L S)) target := by
  subst hp; exact XS.lload h hx rfl hd hl hr
theorem own_y_lstoreN (h : At T m c below) (hx : tb.exec = Jvm.exec) {k : Fin 4} {v : Int64} {L' : Array Slot} (hd : decode c.code pc = .ok (.lstore_n k, 1)) (hp : pc + 1 = pc') (hl : storeLocals L k.val (.long v) = some L')
    (hr : Steps tb e below (T.setTop (mkL lk m pc' L' S)) target) : Steps tb e below (T.setTop (mkL lk m pc L (.long v :: S))) target := by
  subst hp; exact XS.lstoreN h hx rfl hd rfl hl hr
theorem own_y_lstore (h : At T m c below) (hx : tb.exec = Jvm.exec) {k : Nat} {v : Int64} {L' : Array Slot} (hd : decode c.code pc = .ok (.lstore k, 2)) (hp : pc + 2 = pc') (hl : storeLocals L k (.long v) = some L')
    (hr : Steps tb e below (T.setTop (mkL lk m pc' L' S)) target) : Steps tb e below (T.setTop (mkL lk m pc L (.long v :: S))) target := by
  subst hp; exact XS.lstore h hx rfl hd rfl hl hr
theorem own_y_dloadN (h : At T m c below) (hx : tb.exec = Jvm.exec) {k : Fin 4} {v : UInt64} (hd : decode c.code pc = .ok (.dload_n k, 1)) (hp : pc + 1 = pc') (hl : L[k.val]? = some (.val (.double v)))
    (hr : Steps tb e below (T.setTop (mkL lk m pc' L (.double v :: S))) target) : Steps tb e below (T.setTop (mkL lk m pc L S)) target := by
  subst hp; exact XS.dloadN h hx rfl hd hl hr
theorem own_y_dload (h : At T m c below) (hx : tb.exec = Jvm.exec) {k : Nat} {v : UInt64} (hd : decode c.code pc = .ok (.dload k, 2)) (hp : pc + 2 = pc') (hl : L[k]? = some (.val (.double v)))
    (hr : Steps tb e below (T.setTop (mkL lk m pc' L (.double v :: S))) target) : Steps tb e below (T.setTop (mkL lk m pc L S)) target := by
  subst hp; exact XS.dload h hx rfl hd hl hr
theorem own_y_dstoreN (h : At T m c below) (hx : tb.exec = Jvm.exec) {k : Fin 4} {v : UInt64} {L' : Array Slot} (hd : decode c.code pc = .ok (.dstore_n k, 1)) (hp : pc + 1 = pc') (hl : storeLocals L k.val (.double v) = some L')
    (hr : Steps tb e below (T.setTop (mkL lk m pc' L' S)) target) : Steps tb e below (T.setTop (mkL lk m pc L (.double v :: S))) target := by
  subst hp; exact XS.dstoreN h hx rfl hd rfl hl hr
theorem own_y_dstore (h : At T m c below) (hx : tb.exec = Jvm.exec) {k : Nat} {v : UInt64} {L' : Array Slot} (hd : decode c.code pc = .ok (.dstore k, 2)) (hp : pc + 2 = pc') (hl : storeLocals L k (.double v) = some L')
    (hr : Steps tb e below (T.setTop (mkL lk m pc' L' S)) target) : Steps tb e below (T.setTop (mkL lk m pc L (.double v :: S))) target := by
  subst hp; exact XS.dstore h hx rfl hd rfl hl hr
theorem own_y_aloadN (h : At T m c below) (hx : tb.exec = Jvm.exec) {k : Fin 4} {v : Value} (hd : decode c.code pc = .ok (.aload_n k, 1)) (hp : pc + 1 = pc') (hl : L[k.val]? = some (.val v)) (hr0 : v.isRef = true)
    (hr : Steps tb e below (T.setTop (mkL lk m pc' L (v :: S))) target) : Steps tb e below (T.setTop (mkL lk m pc L S)) target := by
  subst hp; exact XS.aloadN h hx rfl hd hl hr0 hr
theorem own_y_aload (h : At T m c below) (hx : tb.exec = Jvm.exec) {k : Nat} {v : Value} (hd : decode c.code pc = .ok (.aload k, 2)) (hp : pc + 2 = pc') (hl : L[k]? = some (.val v)) (hr0 : v.isRef = true)
    (hr : Steps tb e below (T.setTop (mkL lk m pc' L (v :: S))) target) : Steps tb e below (T.setTop (mkL lk m pc L S)) target := by
  subst hp; exact XS.aload h hx rfl hd hl hr0 hr
theorem own_y_astoreN (h : At T m c below) (hx : tb.exec = Jvm.exec) {k : Fin 4} {v : Value} {L' : Array Slot} (hd : decode c.code pc = .ok (.astore_n k, 1)) (hp : pc + 1 = pc') (hr0 : v.isRef = true) (hl : storeLocals L k.val v = some L')
    (hr : Steps tb e below (T.setTop (mkL lk m pc' L' S)) target) : Steps tb e below (T.setTop (mkL lk m pc L (v :: S))) target := by
  subst hp; exact XS.astoreN h hx rfl hd rfl hr0 hl hr
theorem own_y_astore (h : At T m c below) (hx : tb.exec = Jvm.exec) {k : Nat} {v : Value} {L' : Array Slot} (hd : decode c.code pc = .ok (.astore k, 2)) (hp : pc + 2 = pc') (hr0 : v.isRef = true) (hl : storeLocals L k v = some L')
    (hr : Steps tb e below (T.setTop (mkL lk m pc' L' S)) target) : Steps tb e below (T.setTop (mkL lk m pc L (v :: S))) target := by
  subst hp; exact XS.astore h hx rfl hd rfl hr0 hl hr
theorem own_y_iinc (h : At T m c below) (hx : tb.exec = Jvm.exec) {k : Nat} {cst : Int} {x v : Int32} {L' : Array Slot} (hd : decode c.code pc = .ok (.iinc k cst, 3)) (hp : pc + 3 = pc') (hl : L[k]? = some (.val (.int x))) (hv : x + Int32.ofInt cst = v) (hl' : storeLocals L k (.int v) = some L')
    (hr : Steps tb e below (T.setTop (mkL lk m pc' L' S)) target) : Steps tb e below (T.setTop (mkL lk m pc L S)) target := by
  subst hv hp; exact XS.iinc h hx rfl hd hl hl' hr
theorem own_y_goto (h : At T m c below) (hx : tb.exec = Jvm.exec)  {o : Int} (hd : decode c.code pc = .ok (.goto o, 3)) (ho : 0 ≤ (pc : Int) + o) (hp : ((pc : Int) + o).toNat = pc') 
    (hr : Steps tb e below (T.setTop (mkL lk m pc' L S)) target) : Steps tb e below (T.setTop (mkL lk m pc L S)) target := by
  exact XS.goto h hx rfl rfl hd ho hp hr
theorem own_y_ifYes (h : At T m c below) (hx : tb.exec = Jvm.exec) {cd : ClassFile.Cond} {x : Int32} {o : Int} (hd : decode c.code pc = .ok (.ifCond cd o, 3)) (ho : 0 ≤ (pc : Int) + o) (hp : ((pc : Int) + o).toNat = pc') (hc : ifCond.holds cd x = true)
    (hr : Steps tb e below (T.setTop (mkL lk m pc' L S)) target) : Steps tb e below (T.setTop (mkL lk m pc L (.int x :: S))) target := by
  exact XS.ifYes h hx rfl rfl hd rfl hc ho hp hr
theorem own_y_icmpYes (h : At T m c below) (hx : tb.exec = Jvm.exec) {cd : ClassFile.Cond} {x y : Int32} {o : Int} (hd : decode c.code pc = .ok (.if_icmp cd o, 3)) (ho : 0 ≤ (pc : Int) + o) (hp : ((pc : Int) + o).toNat = pc') (hc : if_icmp.holds cd x y = true)
    (hr : Steps tb e below (T.setTop (mkL lk m pc' L S)) target) : Steps tb e below (T.setTop (mkL lk m pc L (.int y :: .int x :: S))) target := by
  exact XS.icmpYes h hx rfl rfl hd rfl hc ho hp hr
theorem own_y_ifNo (h : At T m c below) (hx : tb.exec = Jvm.exec) {cd : ClassFile.Cond} {o : Int} {x : Int32} (hd : decode c.code pc = .ok (.ifCond cd o, 3)) (hp : pc + 3 = pc') (hc : ifCond.holds cd x = false)
    (hr : Steps tb e below (T.setTop (mkL lk m pc' L S)) target) : Steps tb e below (T.setTop (mkL lk m pc L (.int x :: S))) target := by
  subst hp; exact XS.ifNo h hx rfl hd rfl hc hr
theorem own_y_icmpNo (h : At T m c below) (hx : tb.exec = Jvm.exec) {cd : ClassFile.Cond} {o : Int} {x y : Int32} (hd : decode c.code pc = .ok (.if_icmp cd o, 3)) (hp : pc + 3 = pc') (hc : if_icmp.holds cd x y = false)
    (hr : Steps tb e below (T.setTop (mkL lk m pc' L S)) target) : Steps tb e below (T.setTop (mkL lk m pc L (.int y :: .int x :: S))) target := by
  subst hp; exact XS.icmpNo h hx rfl hd rfl hc hr
theorem own_y_ifnullYes (h : At T m c below) (hx : tb.exec = Jvm.exec)  {o : Int} (hd : decode c.code pc = .ok (.ifnull o, 3)) (ho : 0 ≤ (pc : Int) + o) (hp : ((pc : Int) + o).toNat = pc') 
    (hr : Steps tb e below (T.setTop (mkL lk m pc' L S)) target) : Steps tb e below (T.setTop (mkL lk m pc L (.null :: S))) target := by
  exact XS.ifnullYes h hx rfl rfl hd rfl ho hp hr
theorem own_y_ifnullNo (h : At T m c below) (hx : tb.exec = Jvm.exec) {o : Int} {b : Addr} (hd : decode c.code pc = .ok (.ifnull o, 3)) (hp : pc + 3 = pc') 
    (hr : Steps tb e below (T.setTop (mkL lk m pc' L S)) target) : Steps tb e below (T.setTop (mkL lk m pc L (.ref b :: S))) target := by
  subst hp; exact XS.ifnullNo h hx rfl hd rfl hr
theorem own_y_ifnonnullYes (h : At T m c below) (hx : tb.exec = Jvm.exec) {b : Addr} {o : Int} (hd : decode c.code pc = .ok (.ifnonnull o, 3)) (ho : 0 ≤ (pc : Int) + o) (hp : ((pc : Int) + o).toNat = pc') 
    (hr : Steps tb e below (T.setTop (mkL lk m pc' L S)) target) : Steps tb e below (T.setTop (mkL lk m pc L (.ref b :: S))) target := by
  exact XS.ifnonnullYes h hx rfl rfl hd rfl ho hp hr
theorem own_y_ifnonnullNo (h : At T m c below) (hx : tb.exec = Jvm.exec) {o : Int} (hd : decode c.code pc = .ok (.ifnonnull o, 3)) (hp : pc + 3 = pc') 
    (hr : Steps tb e below (T.setTop (mkL lk m pc' L S)) target) : Steps tb e below (T.setTop (mkL lk m pc L (.null :: S))) target := by
  subst hp; exact XS.ifnonnullNo h hx rfl hd rfl hr
end OwnStepL
section OwnHeap
open Jvm Jvm.ClassFile Sem Op Lib Jvm.Free Jvm.Stand Jvm.LawKit Jvm.RoadKit
variable {p : Program} {l : Launch} {e : Env} {R : Room} {s : State} {m : MethodId} {args : Array Value} {below : List Frame} {meth : Method} {c : Code} {T : State} {locs : List Loc} {cells slots : Nat} {Z : State} {a0 : Array Value} {h : Heap} {pc pc' : Nat} {L : Array Slot} {S : List Value} {a : Addr} {k : ClassId} {z : Int32} {vs : List Value} {dv : Value}
theorem own_newD (X : Stand p l e R s m args below meth c T locs cells slots) (hx : p.tables.exec = Jvm.exec) (hZ : Z.Warmed39 s.vm) (w : (Jvm.Cond.arrayClass .double).before a0 Z = true) (eT : T.heap = h) (n : Nat) (hz : z.toNatClampNeg = n) (hz0 : ¬ z < 0) (hb : n * 8 ≤ 536870912) (hc : cells + 1 ≤ R.cells) (hl : slots + n ≤ R.slots) (hd : decode c.code pc = .ok (.newarray .double, 2)) (hp : pc + 2 = pc') :
    ∃ T' h' k b, Stand p l e R s m args below meth c T' locs (cells + 1) (slots + n) ∧ T'.heap = h' ∧ Ext h h' ∧ b = h.size ∧ Arv Z h' b k .double z (List.replicate n (.double 0)) (.double 0) ∧ ∀ target, Steps p.tables e below (T'.setTop (mkF m pc' L (.ref b :: S))) target → Steps p.tables e below (T.setTop (mkF m pc L (.int z :: S))) target := by
  subst hp
  obtain ⟨T', h', k, X', e', E, A, st⟩ := newP X hx hZ (aty := .double) w eT (g := mkF m pc L (.int z :: S)) rfl hd rfl hz0 (cap := n) (Nat.le_of_eq hz) hb hc hl
  exact ⟨T', h', k, h.size, X', e', E, rfl, (Arv.new A hz0).pad (pad_rep [] (.double 0) n), st⟩
theorem own_newJ (X : Stand p l e R s m args below meth c T locs cells slots) (hx : p.tables.exec = Jvm.exec) (hZ : Z.Warmed39 s.vm) (w : (Jvm.Cond.arrayClass .long).before a0 Z = true) (eT : T.heap = h) (n : Nat) (hz : z.toNatClampNeg = n) (hz0 : ¬ z < 0) (hb : n * 8 ≤ 536870912) (hc : cells + 1 ≤ R.cells) (hl : slots + n ≤ R.slots) (hd : decode c.code pc = .ok (.newarray .long, 2)) (hp : pc + 2 = pc') :
    ∃ T' h' k b, Stand p l e R s m args below meth c T' locs (cells + 1) (slots + n) ∧ T'.heap = h' ∧ Ext h h' ∧ b = h.size ∧ Arv Z h' b k .long z (List.replicate n (.long 0)) (.long 0) ∧ ∀ target, Steps p.tables e below (T'.setTop (mkF m pc' L (.ref b :: S))) target → Steps p.tables e below (T.setTop (mkF m pc L (.int z :: S))) target := by
  subst hp
  obtain ⟨T', h', k, X', e', E, A, st⟩ := newP X hx hZ (aty := .long) w eT (g := mkF m pc L (.int z :: S)) rfl hd rfl hz0 (cap := n) (Nat.le_of_eq hz) hb hc hl
  exact ⟨T', h', k, h.size, X', e', E, rfl, (Arv.new A hz0).pad (pad_rep [] (.long 0) n), st⟩
theorem own_stD (X : Stand p l e R s m args below meth c T locs cells slots) (hx : p.tables.exec = Jvm.exec) (hZ : Z.Warmed39 s.vm) (eT : T.heap = h) (V : Arv Z h a k .double z vs dv) {j : Int32} {x : UInt64} (hj : ¬ j < 0 ∧ j < z) (i : Nat) (hi : j.toNatClampNeg = i) (hl : i < vs.length) (hd : decode c.code pc = .ok (.dastore, 1)) (hp : pc + 1 = pc') :
    ∃ T' h', Stand p l e R s m args below meth c T' (locs ++ [⟨a, j.toNatClampNeg⟩]) cells slots ∧ T'.heap = h' ∧ Wr h h' a j.toNatClampNeg (.double x) ∧ Arv Z h' a k .double z (vs.set i (.double x)) dv ∧ ∀ target, Steps p.tables e below (T'.setTop (mkF m pc' L S)) target → Steps p.tables e below (T.setTop (mkF m pc L (.double x :: .int j :: .ref a :: S))) target := by
  subst hp
  obtain ⟨cl, A, q1, S1, q3, H, G⟩ := V
  obtain ⟨T', h', X', e', W, st⟩ := stD X hx hZ eT A (j := j) (x := x) (inb_of S1 hj) (g := mkF m pc L (.double x :: .int j :: .ref a :: S)) rfl rfl hd
  exact ⟨T', h', X', e', W, Arv.set A q1 S1 q3 H G rfl W i hi hl, st⟩
theorem own_ldD (X : Stand p l e R s m args below meth c T locs cells slots) (hx : p.tables.exec = Jvm.exec) (hZ : Z.Warmed39 s.vm) (eT : T.heap = h) (V : Arv Z h a k .double z vs dv) {j : Int32} {x : UInt64} (hj : ¬ j < 0 ∧ j < z) (hv : vs.getD j.toNatClampNeg dv = .double x) (hd : decode c.code pc = .ok (.daload, 1)) (hp : pc + 1 = pc') {target : State}
    (hr : Steps p.tables e below (T.setTop (mkF m pc' L (.double x :: S))) target) : Steps p.tables e below (T.setTop (mkF m pc L (.int j :: .ref a :: S))) target := by
  subst hp
  obtain ⟨cl, A, q1, S1, q3, H, G⟩ := V
  exact X.daload hx (j := j) (v := .double x) (by rw [eT]; exact A.1) (State.isArrayOf_alike hZ.alike A.2.1) A.2.2 (inb_of S1 hj) (H.at (inb_of S1 hj) hv) (g := mkF m pc L (.int j :: .ref a :: S)) rfl rfl hd target hr
theorem own_len {ty : FieldType} (X : Stand p l e R s m args below meth c T locs cells slots) (hx : p.tables.exec = Jvm.exec) (hZ : Z.Warmed39 s.vm) (eT : T.heap = h) (V : Arv Z h a k ty z vs dv) (hd : decode c.code pc = .ok (.arraylength, 1)) (hp : pc + 1 = pc') {target : State}
    (hr : Steps p.tables e below (T.setTop (mkF m pc' L (.int z :: S))) target) : Steps p.tables e below (T.setTop (mkF m pc L (.ref a :: S))) target := by
  subst hp
  obtain ⟨cl, A, q1, S1, q3, H, G⟩ := V
  refine X.arraylength hx (by rw [eT]; exact A.1) (State.isArrayOf_alike hZ.alike A.2.1) (g := mkF m pc L (.ref a :: S)) rfl rfl hd target ?_
  rw [len_of S1 q3]
  exact hr
theorem own_retI (X : Stand p l e R s m args below meth c T locs cells slots) (hx : p.tables.exec = Jvm.exec) {x : Int32} (hret : meth.sig.returnType = some .int) (hd : decode c.code pc = .ok (.ireturn, 1)) {fs : List Frame}
    (hl : ∀ (f : JFrame) (acts : List Action), f.method = m → f.locked = none → f.entered = [] → (doReturn e (T.setTop f) acts (some (.int x))).1 = T.setFrames fs) : Steps p.tables e below (T.setTop (mkF m pc L (.int x :: S))) (T.setFrames fs) := by
  have hm' : T.vm.method? m = some meth := X.method'
  have hn : narrow .int (.int x) = .int x := rfl
  show Steps p.tables e below (T.setTop { method := m, pc := pc, locals := L, stack := _ :: S, locked := none }) _
  jvm_step X.here [X.here.top, hx, hd, hm', hret, hn]
  first | (intro acts; rw [hl _ acts rfl rfl rfl]) | rw [hl _ _ rfl rfl rfl]
  exact Steps.refl _
theorem own_retD (X : Stand p l e R s m args below meth c T locs cells slots) (hx : p.tables.exec = Jvm.exec) {x : UInt64} (hret : meth.sig.returnType = some .double) (hd : decode c.code pc = .ok (.dreturn, 1)) {fs : List Frame}
    (hl : ∀ (f : JFrame) (acts : List Action), f.method = m → f.locked = none → f.entered = [] → (doReturn e (T.setTop f) acts (some (.double x))).1 = T.setFrames fs) : Steps p.tables e below (T.setTop (mkF m pc L (.double x :: S))) (T.setFrames fs) := by
  have hm' : T.vm.method? m = some meth := X.method'
  show Steps p.tables e below (T.setTop { method := m, pc := pc, locals := L, stack := _ :: S, locked := none }) _
  jvm_step X.here [X.here.top, hx, hd, hm', hret, narrow]
  first | (intro acts; rw [hl _ acts rfl rfl rfl]) | rw [hl _ _ rfl rfl rfl]
  exact Steps.refl _
theorem own_retJ (X : Stand p l e R s m args below meth c T locs cells slots) (hx : p.tables.exec = Jvm.exec) {x : Int64} (hret : meth.sig.returnType = some .long) (hd : decode c.code pc = .ok (.lreturn, 1)) {fs : List Frame}
    (hl : ∀ (f : JFrame) (acts : List Action), f.method = m → f.locked = none → f.entered = [] → (doReturn e (T.setTop f) acts (some (.long x))).1 = T.setFrames fs) : Steps p.tables e below (T.setTop (mkF m pc L (.long x :: S))) (T.setFrames fs) := by
  have hm' : T.vm.method? m = some meth := X.method'
  show Steps p.tables e below (T.setTop { method := m, pc := pc, locals := L, stack := _ :: S, locked := none }) _
  jvm_step X.here [X.here.top, hx, hd, hm', hret, narrow]
  first | (intro acts; rw [hl _ acts rfl rfl rfl]) | rw [hl _ _ rfl rfl rfl]
  exact Steps.refl _
theorem own_retR (X : Stand p l e R s m args below meth c T locs cells slots) (hx : p.tables.exec = Jvm.exec) {b : Addr} {t : FieldType} (hret : meth.sig.returnType = some t) (ht : t.isReference = true) (hd : decode c.code pc = .ok (.areturn, 1)) {fs : List Frame}
    (hl : ∀ (f : JFrame) (acts : List Action), f.method = m → f.locked = none → f.entered = [] → (doReturn e (T.setTop f) acts (some (.ref b))).1 = T.setFrames fs) : Steps p.tables e below (T.setTop (mkF m pc L (.ref b :: S))) (T.setFrames fs) := by
  have hm' : T.vm.method? m = some meth := X.method'
  show Steps p.tables e below (T.setTop { method := m, pc := pc, locals := L, stack := _ :: S, locked := none }) _
  jvm_step X.here [X.here.top, hx, hd, hm', hret, Value.isRef, ht]
  first | (intro acts; rw [hl _ acts rfl rfl rfl]) | rw [hl _ _ rfl rfl rfl]
  exact Steps.refl _
end OwnHeap
section OwnNlz
open Jvm Jvm.ClassFile Sem Op Lib Jvm.Free Jvm.Stand Jvm.LawKit Jvm.RoadKit Jvm.Free.BdW
theorem own_pow2 (n : Nat) : (0 : Int) < 2 ^ n := Int.pow_pos (by decide)
theorem own_blk {i : Int} {q : Int32 × Int32} {s sh : Nat} {lim shv dn : Int32} (h1 : 0 < q.1.toInt) (h2 : q.1.toInt < 2 ^ sh * 2 ^ sh) (h3 : q.1.toInt = i / 2 ^ s) (h4 : q.2.toInt = 31 - s) (hs : s + sh ≤ 31)
    (hl : lim.toInt = 2 ^ sh) (hk : shv.toBitVec.toNat % 32 = sh) (h0 : 0 < sh) (hd : dn.toInt = -(sh : Int)) :
    ∃ s', s' ≤ s + sh ∧ 0 < (blk lim shv dn q).1.toInt ∧ (blk lim shv dn q).1.toInt < 2 ^ sh ∧ (blk lim shv dn q).1.toInt = i / 2 ^ s' ∧ (blk lim shv dn q).2.toInt = 31 - s' := by
  unfold blk
  by_cases c : q.1 < lim
  · rw [if_pos c]
    have := Int32.lt_iff_toInt_lt.mp c
    exact ⟨s, by omega, h1, by omega, h3, h4⟩
  · rw [if_neg c]
    have c' : lim.toInt ≤ q.1.toInt := Int.not_lt.mp fun x => c (Int32.lt_iff_toInt_lt.mpr x)
    have hu := c_iushr q.1 shv sh hk h0
    have hb := own_Irng q.1
    have hp := own_pow2 sh
    have hq : q.1.toInt % 4294967296 = q.1.toInt := by have := Int32.toInt_lt q.1; omega
    have hu' : (ush q.1 shv).toInt = q.1.toInt / 2 ^ sh := by
      show ((q.1.toUInt32 >>> (shv &&& 31).toUInt32).toInt32).toInt = _
      rw [hu, hq]; norm_cast
    refine ⟨s + sh, Nat.le_refl _, ?_, ?_, ?_, ?_⟩
    · show 0 < (ush q.1 shv).toInt
      rw [hu']
      have : 1 ≤ q.1.toInt / 2 ^ sh := (Int.le_ediv_iff_mul_le hp).mpr (by omega)
      omega
    · show (ush q.1 shv).toInt < _
      rw [hu']; exact (Int.ediv_lt_iff_lt_mul hp).mpr h2
    · show (ush q.1 shv).toInt = _
      rw [hu', h3, Int.pow_add, Int.ediv_ediv_of_nonneg (Int.le_of_lt (own_pow2 s))]
    · show (q.2 + dn).toInt = _
      have := c_iadd q.2 dn
      have b1 := Int32.toInt_lt (q.2 + dn); have b2 := Int32.le_toInt (q.2 + dn)
      omega
theorem own_nlz32p (i : Int32) (hi : 0 < i.toInt) : ∃ k : Nat, k ≤ 31 ∧ (nlz32 i).toInt = 31 - k ∧ 2 ^ k ≤ i.toInt ∧ i.toInt < 2 ^ (k + 1) := by
  have hb := Int32.toInt_lt i
  obtain ⟨s1, a0, a1, a2, a3, a4⟩ := own_blk (i := i.toInt) (q := (i, 31)) (s := 0) (sh := 16) (lim := 65536) (shv := 16) (dn := -16) hi (by show i.toInt < _; omega) (by simp) (by show (31 : Int32).toInt = _; decide) (by decide) (by decide) (by decide) (by decide) (by decide)
  obtain ⟨s2, b0, b1, b2, b3, b4⟩ := own_blk (s := s1) (sh := 8) (lim := 256) (shv := 8) (dn := -8) a1 (by omega) a3 a4 (by omega) (by decide) (by decide) (by decide) (by decide)
  obtain ⟨s3, c0, c1, c2, c3, c4⟩ := own_blk (s := s2) (sh := 4) (lim := 16) (shv := 4) (dn := -4) b1 (by omega) b3 b4 (by omega) (by decide) (by decide) (by decide) (by decide)
  obtain ⟨s4, d0, d1, d2, d3, d4⟩ := own_blk (s := s3) (sh := 2) (lim := 4) (shv := 2) (dn := -2) c1 (by omega) c3 c4 (by omega) (by decide) (by decide) (by decide) (by decide)
  have hg : i > 0 := Int32.lt_iff_toInt_lt.mpr hi
  generalize hQ : blk 4 2 (-2) (blk 16 4 (-4) (blk 256 8 (-8) (blk 65536 16 (-16) (i, 31)))) = Q at d1 d2 d3 d4
  have hn : nlz32 i = Q.2 - ush Q.1 1 := by unfold nlz32; rw [if_pos hg, hQ]
  have hu : (ush Q.1 1).toInt = Q.1.toInt / 2 := by
    have := c_iushr Q.1 1 1 (by decide) (by decide)
    have e : (ush Q.1 1).toInt = (Q.1.toInt % 4294967296) / (2 ^ 1 : Nat) := this
    rw [e]; omega
  have hs := c_isub Q.2 (ush Q.1 1)
  have b1 := Int32.toInt_lt (Q.2 - ush Q.1 1); have b2 := Int32.le_toInt (Q.2 - ush Q.1 1)
  have hp := own_pow2 s4
  have m1 := Int.mul_ediv_self_le (x := i.toInt) (Int.ne_of_gt hp)
  have m2 := Int.lt_mul_ediv_self_add (x := i.toInt) hp
  rw [← d3] at m1 m2
  have d5 : Q.1.toInt = 1 ∨ Q.1.toInt = 2 ∨ Q.1.toInt = 3 := by omega
  rw [hn]
  rcases d5 with e | e | e
  · rw [e] at m1 m2 hu
    exact ⟨s4, by omega, by omega, by omega, by rw [Int.pow_succ]; omega⟩
  · rw [e] at m1 m2 hu
    exact ⟨s4 + 1, by omega, by omega, by rw [Int.pow_succ]; omega, by rw [Int.pow_succ, Int.pow_succ]; omega⟩
  · rw [e] at m1 m2 hu
    exact ⟨s4 + 1, by omega, by omega, by rw [Int.pow_succ]; omega, by rw [Int.pow_succ, Int.pow_succ]; omega⟩
theorem own_pow_lt {k n : Nat} (h : (2 : Int) ^ k < 2 ^ n) : k < n := Nat.lt_of_not_le fun q => by
  have := Nat.pow_le_pow_right (n := 2) (by decide) q
  have : (2 : Int) ^ n ≤ 2 ^ k := by exact_mod_cast this
  omega
theorem own_nlz64 (d : Int64) (hd : 0 < d.toInt) : ∃ k : Nat, k ≤ 62 ∧ (nlz64 d).toInt = 63 - k ∧ 2 ^ k ≤ d.toInt ∧ d.toInt < 2 ^ (k + 1) := by
  have hb := Int64.toInt_lt d
  have hu : ((d.toUInt64 >>> ((32 : Int32) &&& 0x3f).toInt64.toUInt64).toInt64).toInt = d.toInt / 4294967296 := by
    have := c_lushr d 32 32 (by decide) (by decide)
    rw [this]; omega
  have hh : (hi32 d).toInt = d.toInt / 4294967296 := by
    have := c_l2i ((d.toUInt64 >>> ((32 : Int32) &&& 0x3f).toInt64.toUInt64).toInt64)
    rw [hu] at this
    have b1 := Int32.toInt_lt (hi32 d); have b2 := Int32.le_toInt (hi32 d)
    have e : (hi32 d).toInt = (((d.toUInt64 >>> ((32 : Int32) &&& 0x3f).toInt64.toUInt64).toInt64).toInt32).toInt := rfl
    rw [← e] at this
    omega
  unfold nlz64
  by_cases c : hi32 d = 0
  · rw [if_pos c]
    have c0 : (hi32 d).toInt = 0 := by rw [c]; decide
    have hl := c_l2i d
    have b1 := Int32.toInt_lt d.toInt32; have b2 := Int32.le_toInt d.toInt32
    have ha := c_iadd 32 (nlz32 d.toInt32)
    have t32 : (32 : Int32).toInt = 32 := by decide
    rw [t32] at ha
    have b3 := Int32.toInt_lt (32 + nlz32 d.toInt32); have b4 := Int32.le_toInt (32 + nlz32 d.toInt32)
    by_cases n : 0 < d.toInt32.toInt
    · obtain ⟨k, k1, k2, k3, k4⟩ := own_nlz32p d.toInt32 n
      have : d.toInt32.toInt = d.toInt := by omega
      rw [this] at k3 k4
      exact ⟨k, by omega, by omega, k3, k4⟩
    · have n0 : d.toInt32.toInt < 0 := by omega
      have z : nlz32 d.toInt32 = 0 := by
        unfold nlz32
        rw [if_neg (fun q => n (by have := Int32.lt_iff_toInt_lt.mp q; exact this)), if_neg (fun q => by rw [q] at n0; exact absurd n0 (by decide))]
      rw [z]
      refine ⟨31, by decide, by decide, ?_, ?_⟩ <;> omega
  · rw [if_neg c]
    have c0 : (hi32 d).toInt ≠ 0 := fun q => c (Int32.toInt_inj.mp (q.trans (by decide)))
    obtain ⟨k, k1, k2, k3, k4⟩ := own_nlz32p (hi32 d) (by omega)
    rw [hh] at k3 k4
    have lo : (2 : Int) ^ (k + 32) ≤ d.toInt := by
      rw [Int.pow_add]
      have := (Int.le_ediv_iff_mul_le (by decide : (0 : Int) < 4294967296)).mp k3
      omega
    have : k + 32 < 63 := own_pow_lt (by omega)
    refine ⟨k + 32, by omega, by omega, lo, ?_⟩
    · rw [show k + 32 + 1 = k + 1 + 32 by omega, Int.pow_add]
      have := (Int.ediv_lt_iff_lt_mul (by decide : (0 : Int) < 4294967296)).mp k4
      omega
theorem own_nlz64z : nlz64 0 = 64 := by decide +kernel
def own_hb (d : Int64) : Int32 := 63 - nlz64 d
def own_rng (d : Int64) : Int32 := if own_hb d < 7 then 0 else own_hb d - 7 + 1
def own_sbk (d : Int64) (r : Int32) : Int32 := if r = 0 then d.toInt32 else ((d.toUInt64 >>> ((r - 1) &&& 63).toInt64.toUInt64).toInt64).toInt32 - 128
theorem own_cast2 (n : Nat) : ((2 ^ n : Nat) : Int) = 2 ^ n := Int.natCast_pow 2 n
theorem own_toNat32 (x : Int32) (h : 0 ≤ x.toInt) : (x.toBitVec.toNat : Int) = x.toInt := by
  have e : x.toInt = x.toBitVec.toInt := rfl
  rw [e, BitVec.toInt_eq_toNat_cond] at h ⊢
  split at h <;> split <;> omega
set_option maxHeartbeats 4000000 in
theorem own_rng_sub (d : Int64) (hd : 0 ≤ d.toInt) : 0 ≤ (own_rng d).toInt ∧ (own_rng d).toInt < 57 ∧ 0 ≤ (own_sbk d (own_rng d)).toInt ∧ (own_sbk d (own_rng d)).toInt < 128 := by
  rcases Int.lt_or_eq_of_le hd with h | h
  · obtain ⟨k, k1, k2, k3, k4⟩ := own_nlz64 d h
    have e63 : (63 : Int32).toInt = 63 := by decide
    have e7 : (7 : Int32).toInt = 7 := by decide
    have e1 : (1 : Int32).toInt = 1 := by decide
    have e128 : (128 : Int32).toInt = 128 := by decide
    have hb : (own_hb d).toInt = k := by
      have := c_isub 63 (nlz64 d)
      have b1 := Int32.toInt_lt (own_hb d); have b2 := Int32.le_toInt (own_hb d)
      have e : own_hb d = 63 - nlz64 d := rfl
      rw [← e, e63] at this
      omega
    have hl := c_l2i d
    have l1 := Int32.toInt_lt d.toInt32; have l2 := Int32.le_toInt d.toInt32
    by_cases c : own_hb d < 7
    · have r0 : own_rng d = 0 := by unfold own_rng; rw [if_pos c]
      have s0 : own_sbk d (own_rng d) = d.toInt32 := by unfold own_sbk; rw [if_pos r0]
      have ck := Int32.lt_iff_toInt_lt.mp c
      rw [hb, e7] at ck
      have : (2 : Int) ^ (k + 1) ≤ 2 ^ 7 := by
        have := Nat.pow_le_pow_right (n := 2) (by decide) (by omega : k + 1 ≤ 7)
        exact_mod_cast this
      rw [s0, r0]
      refine ⟨by decide, by decide, ?_, ?_⟩ <;> omega
    · have r0 : own_rng d = own_hb d - 7 + 1 := by unfold own_rng; rw [if_neg c]
      have ck : 7 ≤ k := by
        have : ¬ (own_hb d).toInt < (7 : Int32).toInt := fun q => c (Int32.lt_iff_toInt_lt.mpr q)
        rw [hb, e7] at this; omega
      have a1 := c_isub (own_hb d) 7
      have a2 := c_iadd (own_hb d - 7) 1
      have b1 := Int32.toInt_lt (own_hb d - 7); have b2 := Int32.le_toInt (own_hb d - 7)
      have b3 := Int32.toInt_lt (own_hb d - 7 + 1); have b4 := Int32.le_toInt (own_hb d - 7 + 1)
      rw [e7, hb] at a1
      rw [e1] at a2
      have r1 : (own_rng d).toInt = (k : Int) - 6 := by rw [r0]; omega
      have rn : own_rng d ≠ 0 := fun q => by rw [q] at r1; have : (0 : Int32).toInt = 0 := by decide
                                             omega
      have a3 := c_isub (own_rng d) 1
      have b5 := Int32.toInt_lt (own_rng d - 1); have b6 := Int32.le_toInt (own_rng d - 1)
      rw [e1, r1] at a3
      have q1 : (own_rng d - 1).toInt = (k : Int) - 7 := by omega
      have q2 := own_toNat32 (own_rng d - 1) (by omega)
      have q3 : (own_rng d - 1).toBitVec.toNat % 64 = k - 7 := by omega
      have hs : ((d.toUInt64 >>> ((own_rng d - 1) &&& 63).toInt64.toUInt64).toInt64).toInt = d.toInt / 2 ^ (k - 7) := by
        by_cases z : k = 7
        · have : own_rng d - 1 = 0 := Int32.toInt_inj.mp (by rw [q1]; have : (0 : Int32).toInt = 0 := by decide
                                                             omega)
          rw [this, z]
          have e0 : ((0 : Int32) &&& 63).toInt64.toUInt64 = 0 := by decide
          rw [e0, UInt64.shiftRight_zero]
          simp
        · have := c_lushr d (own_rng d - 1) (k - 7) q3 (by omega)
          have b := Int64.toInt_lt d
          rw [this, show d.toInt % 18446744073709551616 = d.toInt by omega, own_cast2]
      have hp := own_pow2 (k - 7)
      have e2 : (2 : Int) ^ k = 2 ^ (k - 7) * 128 := by
        rw [show k = k - 7 + 7 by omega, Int.pow_add]; simp
      rw [Int.pow_succ, e2] at k4
      rw [e2] at k3
      have g1 : 128 ≤ d.toInt / 2 ^ (k - 7) := (Int.le_ediv_iff_mul_le hp).mpr (by rw [Int.mul_comm]; exact k3)
      have g2 : d.toInt / 2 ^ (k - 7) < 256 := (Int.ediv_lt_iff_lt_mul hp).mpr (by omega)
      have s0 : own_sbk d (own_rng d) = ((d.toUInt64 >>> ((own_rng d - 1) &&& 63).toInt64.toUInt64).toInt64).toInt32 - 128 := by unfold own_sbk; rw [if_neg rn]
      have a4 := c_l2i ((d.toUInt64 >>> ((own_rng d - 1) &&& 63).toInt64.toUInt64).toInt64)
      rw [hs] at a4
      have a5 := c_isub ((d.toUInt64 >>> ((own_rng d - 1) &&& 63).toInt64.toUInt64).toInt64).toInt32 128
      rw [← s0, e128] at a5
      have b7 := Int32.toInt_lt ((d.toUInt64 >>> ((own_rng d - 1) &&& 63).toInt64.toUInt64).toInt64).toInt32
      have b8 := Int32.le_toInt ((d.toUInt64 >>> ((own_rng d - 1) &&& 63).toInt64.toUInt64).toInt64).toInt32
      have b9 := Int32.toInt_lt (own_sbk d (own_rng d)); have b10 := Int32.le_toInt (own_sbk d (own_rng d))
      refine ⟨by omega, by omega, ?_, ?_⟩ <;> omega
  · obtain rfl : d = 0 := Int64.toInt_inj.mp (h.symm.trans (by decide))
    decide +kernel
end OwnNlz
section OwnHist
open Jvm Jvm.ClassFile Sem Op Lib Jvm.Free Jvm.Stand Jvm.LawKit Jvm.RoadKit
variable {p : Program} {l : Launch} {e : Env} {R : Room} {s : State} {m : MethodId} {args : Array Value} {below : List Frame} {meth : Method} {c : Code} {T : State} {locs : List Loc} {cells slots : Nat} {Z : State} {a0 : Array Value} {h h' h0 : Heap} {pc pc' : Nat} {L : Array Slot} {S : List Value} {a b : Addr} {k : ClassId} {z : Int32} {vs : List Value} {dv : Value} {ty : FieldType}
theorem own_newJE (X : Stand p l e R s m args below meth c T locs cells slots) (hx : p.tables.exec = Jvm.exec) (hZ : Z.Warmed39 s.vm) (w : (Jvm.Cond.arrayClass .long).before a0 Z = true) (eT : T.heap = h) (n : Nat) (hz : z.toNatClampNeg = n) (hz0 : ¬ z < 0) (hb : n * 8 ≤ 536870912) (hc : cells + 1 ≤ R.cells) (hl : slots + n ≤ R.slots) (hd : decode c.code pc = .ok (.newarray .long, 2)) (hp : pc + 2 = pc') :
    ∃ T' h' k b, Stand p l e R s m args below meth c T' locs (cells + 1) (slots + n) ∧ T'.heap = h' ∧ Ext h h' ∧ b = h.size ∧ Arv Z h' b k .long z (List.replicate n (.long 0)) (.long 0) ∧ Exa Z h' b "[J" ∧ ∀ target, Steps p.tables e below (T'.setTop (mkF m pc' L (.ref b :: S))) target → Steps p.tables e below (T.setTop (mkF m pc L (.int z :: S))) target := by
  subst hp
  obtain ⟨T', h', k, X', e', E, A, EA, st⟩ := newPE X hx hZ (aty := .long) w eT (g := mkF m pc L (.int z :: S)) rfl hd rfl hz0 (cap := n) (Nat.le_of_eq hz) hb hc hl (ad := "[J") (by decide)
  exact ⟨T', h', k, h.size, X', e', E, rfl, (Arv.new A hz0).pad (pad_rep [] (.long 0) n), EA, st⟩
theorem own_newRJ (X : Stand p l e R s m args below meth c T locs cells slots) (hx : p.tables.exec = Jvm.exec) (hZ : Z.Warmed39 s.vm) {own : String} {index : Nat} (hown : s.vm.findClass own = some m.cls) (w1 : (Cond.classLink own index "[J").before a0 Z = true) (w2 : (Cond.arrayOver (.array .long)).before a0 Z = true) (eT : T.heap = h) (n : Nat) (hz : z.toNatClampNeg = n) (hz0 : ¬ z < 0) (hb : n * 8 ≤ 536870912) (hc : cells + 1 ≤ R.cells) (hl : slots + n ≤ R.slots) (hd : decode c.code pc = .ok (.anewarray index, 3)) (hp : pc + 3 = pc') :
    ∃ T' h' k b, Stand p l e R s m args below meth c T' locs (cells + 1) (slots + n) ∧ T'.heap = h' ∧ Ext h h' ∧ b = h.size ∧ Arv Z h' b k (.array .long) z (List.replicate n .null) .null ∧ OvrA Z k .long "[J" ∧ Exa Z h' b "[[J" ∧ ∀ target, Steps p.tables e below (T'.setTop (mkF m pc' L (.ref b :: S))) target → Steps p.tables e below (T.setTop (mkF m pc L (.int z :: S))) target := by
  subst hp
  obtain ⟨T', h', k, X', e', E, A, EA, O, st⟩ := newRA X hx hZ (ty := .long) (C := "[J") hown (by decide) w1 w2 eT (g := mkF m pc L (.int z :: S)) rfl hd rfl hz0 (cap := n) (Nat.le_of_eq hz) hb hc hl (ad := "[[J") (by decide)
  exact ⟨T', h', k, h.size, X', e', E, rfl, (Arv.new A hz0).pad (pad_rep [] .null n), O, EA, st⟩
theorem own_stJ (X : Stand p l e R s m args below meth c T locs cells slots) (hx : p.tables.exec = Jvm.exec) (hZ : Z.Warmed39 s.vm) (eT : T.heap = h) (V : Arv Z h a k .long z vs dv) {j : Int32} {x : Int64} (hj : ¬ j < 0 ∧ j < z) (i : Nat) (hi : j.toNatClampNeg = i) (hl : i < vs.length) (hd : decode c.code pc = .ok (.lastore, 1)) (hp : pc + 1 = pc') :
    ∃ T' h', Stand p l e R s m args below meth c T' (locs ++ [⟨a, j.toNatClampNeg⟩]) cells slots ∧ T'.heap = h' ∧ Wr h h' a j.toNatClampNeg (.long x) ∧ Arv Z h' a k .long z (vs.set i (.long x)) dv ∧ ∀ target, Steps p.tables e below (T'.setTop (mkF m pc' L S)) target → Steps p.tables e below (T.setTop (mkF m pc L (.long x :: .int j :: .ref a :: S))) target := by
  subst hp
  obtain ⟨cl, A, q1, S1, q3, H, G⟩ := V
  obtain ⟨T', h', X', e', W, st⟩ := stJ X hx hZ eT A (j := j) (x := x) (inb_of S1 hj) (g := mkF m pc L (.long x :: .int j :: .ref a :: S)) rfl rfl hd
  exact ⟨T', h', X', e', W, Arv.set A q1 S1 q3 H G rfl W i hi hl, st⟩
theorem own_ldJ (X : Stand p l e R s m args below meth c T locs cells slots) (hx : p.tables.exec = Jvm.exec) (hZ : Z.Warmed39 s.vm) (eT : T.heap = h) (V : Arv Z h a k .long z vs dv) {j : Int32} {x : Int64} (hj : ¬ j < 0 ∧ j < z) (hv : vs.getD j.toNatClampNeg dv = .long x) (hd : decode c.code pc = .ok (.laload, 1)) (hp : pc + 1 = pc') {target : State}
    (hr : Steps p.tables e below (T.setTop (mkF m pc' L (.long x :: S))) target) : Steps p.tables e below (T.setTop (mkF m pc L (.int j :: .ref a :: S))) target := by
  subst hp
  obtain ⟨cl, A, q1, S1, q3, H, G⟩ := V
  exact X.laload hx (j := j) (v := .long x) (by rw [eT]; exact A.1) (State.isArrayOf_alike hZ.alike A.2.1) A.2.2 (inb_of S1 hj) (H.at (inb_of S1 hj) hv) (g := mkF m pc L (.int j :: .ref a :: S)) rfl rfl hd target hr
theorem own_ldJL {lk : Addr} (X : Stand p l e R s m args below meth c T locs cells slots) (hx : p.tables.exec = Jvm.exec) (hZ : Z.Warmed39 s.vm) (eT : T.heap = h) (V : Arv Z h a k .long z vs dv) {j : Int32} {x : Int64} (hj : ¬ j < 0 ∧ j < z) (hv : vs.getD j.toNatClampNeg dv = .long x) (hd : decode c.code pc = .ok (.laload, 1)) (hp : pc + 1 = pc') {target : State}
    (hr : Steps p.tables e below (T.setTop (mkL lk m pc' L (.long x :: S))) target) : Steps p.tables e below (T.setTop (mkL lk m pc L (.int j :: .ref a :: S))) target := by
  subst hp
  obtain ⟨cl, A, q1, S1, q3, H, G⟩ := V
  exact X.laload hx (j := j) (v := .long x) (by rw [eT]; exact A.1) (State.isArrayOf_alike hZ.alike A.2.1) A.2.2 (inb_of S1 hj) (H.at (inb_of S1 hj) hv) (g := mkL lk m pc L (.int j :: .ref a :: S)) rfl rfl hd target hr
theorem own_ldR (X : Stand p l e R s m args below meth c T locs cells slots) (hx : p.tables.exec = Jvm.exec) (hZ : Z.Warmed39 s.vm) (eT : T.heap = h) (V : Arv Z h a k (.array .long) z vs dv) {j : Int32} {v : Value} (hj : ¬ j < 0 ∧ j < z) (hv : vs.getD j.toNatClampNeg dv = v) (hd : decode c.code pc = .ok (.aaload, 1)) (hp : pc + 1 = pc') {target : State}
    (hr : Steps p.tables e below (T.setTop (mkF m pc' L (v :: S))) target) : Steps p.tables e below (T.setTop (mkF m pc L (.int j :: .ref a :: S))) target := by
  subst hp
  obtain ⟨cl, A, q1, S1, q3, H, G⟩ := V
  exact X.aaload hx (j := j) (v := v) (ty := .array .long) (by rw [eT]; exact A.1) (State.isArrayOf_alike hZ.alike A.2.1) rfl A.2.2 (inb_of S1 hj) (H.at (inb_of S1 hj) hv) (g := mkF m pc L (.int j :: .ref a :: S)) rfl rfl hd target hr
theorem own_stR (X : Stand p l e R s m args below meth c T locs cells slots) (hx : p.tables.exec = Jvm.exec) (hZ : Z.Warmed39 s.vm) (eT : T.heap = h) (V : Arv Z h a k (.array .long) z vs dv) (O : OvrA Z k .long "[J") (EB : Exa Z h b "[J") {j : Int32} (hj : ¬ j < 0 ∧ j < z) (i : Nat) (hi : j.toNatClampNeg = i) (hl : i < vs.length) (hd : decode c.code pc = .ok (.aastore, 1)) (hp : pc + 1 = pc') :
    ∃ T' h', Stand p l e R s m args below meth c T' (locs ++ [⟨a, j.toNatClampNeg⟩]) cells slots ∧ T'.heap = h' ∧ Wr h h' a j.toNatClampNeg (.ref b) ∧ Arv Z h' a k (.array .long) z (vs.set i (.ref b)) dv ∧ ∀ target, Steps p.tables e below (T'.setTop (mkF m pc' L S)) target → Steps p.tables e below (T.setTop (mkF m pc L (.ref b :: .int j :: .ref a :: S))) target := by
  subst hp
  obtain ⟨cl, A, q1, S1, q3, H, G⟩ := V
  obtain ⟨T', h', X', e', W, st⟩ := stR X hx hZ eT A (j := j) (v := .ref b) (inb_of S1 hj) rfl (Sto.ofVA A q1 O (Ins.self EB)) (g := mkF m pc L (.ref b :: .int j :: .ref a :: S)) rfl rfl hd
  exact ⟨T', h', X', e', W, Arv.set A q1 S1 q3 H G rfl W i hi hl, st⟩
theorem own_Arv_cell (F : Arv Z h a k ty z vs dv) (q : ∀ c, h[a]? = some c → h'[a]? = some c) : Arv Z h' a k ty z vs dv := by
  obtain ⟨c, A, r⟩ := F; exact ⟨c, ⟨q c A.1, A.2⟩, r⟩
theorem own_Arv_mon (M : Mon h h') (F : Arv Z h a k ty z vs dv) : Arv Z h' a k ty z vs dv := by
  obtain ⟨c, A, r⟩ := F; obtain ⟨mo, q⟩ := M.2 _ _ A.1; exact ⟨_, ⟨q, A.2⟩, r⟩
theorem own_selP {s : State} {args : Array Value} {y y' : MethodName} (hc : y'.cls = y.cls) (hsel : (Cond.selects y'.cls y' y').before args s = true) (hpriv : s.PrivateAt y) (hinst : (Cond.instanceMethod y).before args s = true) (hy : y.cls ≠ "java/lang/invoke/MethodHandle" ∧ y.cls ≠ "java/lang/invoke/VarHandle") : (Cond.selects y.cls y y).before args s = true := by
  obtain ⟨c2, r2, m2, -, -, q3, -, kP, hkP, hkPi⟩ := Cond.selects_spec hsel
  have hf := findClass_of_methodNamed q3
  rw [hc] at hf
  exact selects_self_of_private hf hkP hkPi hpriv hinst hy
/-- every place that the histogram holds is new -/
def own_G (n0 : Nat) (w rg : Addr) (as : List Addr) : Prop := n0 ≤ w ∧ n0 ≤ rg ∧ ∀ x ∈ as, n0 ≤ x
def own_Pl (w : Slot) : Prop := w = .unset ∨ ∃ v : Value, w = .val v ∧ v.category = 1
theorem own_st1 {Ls : Array Slot} {i : Nat} {w : Slot} {v : Value} (hx : Ls[i]? = some w) (h : own_Pl w) (hv : v.category = 1) : storeLocals Ls i v = some (Ls.setIfInBounds i (.val v)) := by
  refine storeLocals_cat1 hx hv ?_
  rcases h with rfl | ⟨v', rfl, hv'⟩
  · trivial
  · exact hv'
def own_nl (n : Nat) : Value := .long (Int64.ofNat n)
/-- the buckets behind the references of a list: their addresses, and how many durations they hold in all -/
def own_Bks (Z : State) (h : Heap) : List Value → List Addr → Nat → Prop
  | [], as, t => as = [] ∧ t = 0
  | v :: vs, as, t => (v = .null ∧ own_Bks Z h vs as t) ∨ ∃ (b : Addr) (as' : List Addr) (k : ClassId) (ns : List Nat) (t' : Nat), v = .ref b ∧ as = b :: as' ∧ t = ns.sum + t' ∧ Arv Z h b k .long 128 (ns.map own_nl) (.long 0) ∧ ns.length = 128 ∧ b ∉ as' ∧ own_Bks Z h vs as' t'
theorem own_Bks.nil : own_Bks Z h [] [] 0 := ⟨rfl, rfl⟩
theorem own_Bks.null {vs : List Value} {as : List Addr} {t : Nat} (B : own_Bks Z h vs as t) : own_Bks Z h (.null :: vs) as t := Or.inl ⟨rfl, B⟩
theorem own_Bks.ref {vs : List Value} {as : List Addr} {t : Nat} {b : Addr} {k : ClassId} {ns : List Nat} (A : Arv Z h b k .long 128 (ns.map own_nl) (.long 0)) (hl : ns.length = 128) (hn : b ∉ as) (B : own_Bks Z h vs as t) : own_Bks Z h (.ref b :: vs) (b :: as) (ns.sum + t) := Or.inr ⟨b, as, k, ns, t, rfl, rfl, rfl, A, hl, hn, B⟩
theorem own_Bks.ind {motive : ∀ (vs : List Value) (as : List Addr) (t : Nat), own_Bks Z h vs as t → Prop} (nil : motive [] [] 0 own_Bks.nil) (null : ∀ {vs : List Value} {as : List Addr} {t : Nat} (B : own_Bks Z h vs as t), motive vs as t B → motive (.null :: vs) as t (own_Bks.null B))
    (ref : ∀ {vs : List Value} {as : List Addr} {t : Nat} {b : Addr} {k : ClassId} {ns : List Nat} (A : Arv Z h b k .long 128 (ns.map own_nl) (.long 0)) (hl : ns.length = 128) (hn : b ∉ as) (B : own_Bks Z h vs as t), motive vs as t B → motive (.ref b :: vs) (b :: as) (ns.sum + t) (own_Bks.ref A hl hn B)) :
    ∀ {vs : List Value} {as : List Addr} {t : Nat} (B : own_Bks Z h vs as t), motive vs as t B
  | [], _, _, ⟨rfl, rfl⟩ => nil
  | _ :: _, _, _, Or.inl ⟨rfl, B⟩ => null B (own_Bks.ind nil null ref B)
  | _ :: _, _, _, Or.inr ⟨_, _, _, _, _, rfl, rfl, rfl, A, hl, hn, B⟩ => ref A hl hn B (own_Bks.ind nil null ref B)
theorem own_Bks.map {as : List Addr} {t : Nat} (B : own_Bks Z h vs as t) (q : ∀ b ∈ as, ∀ k ns, Arv Z h b k .long 128 ns (.long 0) → Arv Z h' b k .long 128 ns (.long 0)) : own_Bks Z h' vs as t := by
  induction B using own_Bks.ind with
  | nil => exact .nil
  | null B ih => exact .null (ih q)
  | ref A hl hn B ih => exact .ref (q _ (List.mem_cons_self ..) _ _ A) hl hn (ih fun b hb => q b (List.mem_cons_of_mem _ hb))
theorem own_Bks.nulls : ∀ n, own_Bks Z h (List.replicate n .null) [] 0
  | 0 => .nil
  | n + 1 => .null (own_Bks.nulls n)
theorem own_Bks.len {as : List Addr} {t : Nat} (B : own_Bks Z h vs as t) (b : Addr) (hb : b ∈ as) : b < h.size := by
  induction B using own_Bks.ind with
  | nil => cases hb
  | null B ih => exact ih hb
  | ref A hl hn B ih => rcases List.mem_cons.mp hb with rfl | hb; exact A.lt; exact ih hb
/-- place i: nothing, or an array that may be changed -/
theorem own_Bks.at {as : List Addr} {t : Nat} (B : own_Bks Z h vs as t) : ∀ i, i < vs.length →
    (vs[i]? = some .null ∧ ∀ (h' : Heap) (b : Addr) (k : ClassId) (ns : List Nat), ns.length = 128 → Arv Z h' b k .long 128 (ns.map own_nl) (.long 0) → b ∉ as → (∀ x ∈ as, ∀ k ns, Arv Z h x k .long 128 ns (.long 0) → Arv Z h' x k .long 128 ns (.long 0)) → ∃ as', own_Bks Z h' (vs.set i (.ref b)) as' (t + ns.sum) ∧ ∀ x ∈ as', x = b ∨ x ∈ as) ∨
    (∃ (b : Addr) (k : ClassId) (ns : List Nat), vs[i]? = some (.ref b) ∧ Arv Z h b k .long 128 (ns.map own_nl) (.long 0) ∧ ns.length = 128 ∧ ns.sum ≤ t ∧ b ∈ as ∧ ∀ (h' : Heap) (ns' : List Nat), ns'.length = 128 → Arv Z h' b k .long 128 (ns'.map own_nl) (.long 0) → (∀ x ∈ as, x ≠ b → ∀ k ns, Arv Z h x k .long 128 ns (.long 0) → Arv Z h' x k .long 128 ns (.long 0)) → own_Bks Z h' vs as (t - ns.sum + ns'.sum)) := by
  induction B using own_Bks.ind with
  | nil => intro i hi; cases hi
  | @null vs as t B ih =>
    intro i hi
    cases i with
    | zero => exact Or.inl ⟨rfl, fun h' b k ns hl A hn q => ⟨b :: as, by rw [Nat.add_comm]; exact .ref A hl hn (B.map q), fun x hx => (List.mem_cons.mp hx)⟩⟩
    | succ i =>
      rcases ih i (Nat.lt_of_succ_lt_succ hi) with ⟨e, f⟩ | ⟨b, k, ns, e, A, hl, ht, hb, f⟩
      · exact Or.inl ⟨e, fun h' b k ns hl A hn q => by obtain ⟨as', B', q'⟩ := f h' b k ns hl A hn q; exact ⟨as', .null B', q'⟩⟩
      · exact Or.inr ⟨b, k, ns, e, A, hl, ht, hb, fun h' ns' hl' A' q => .null (f h' ns' hl' A' q)⟩
  | @ref vs as t b0 k0 ns0 A0 hl0 hn0 B ih =>
    intro i hi
    cases i with
    | zero => exact Or.inr ⟨b0, k0, ns0, rfl, A0, hl0, Nat.le_add_right _ _, List.mem_cons_self .., fun h' ns' hl' A' q => by
        rw [show ns0.sum + t - ns0.sum + ns'.sum = ns'.sum + t by omega]
        exact .ref A' hl' hn0 (B.map fun x hx => q x (List.mem_cons_of_mem _ hx) fun e => hn0 (e ▸ hx))⟩
    | succ i =>
      rcases ih i (Nat.lt_of_succ_lt_succ hi) with ⟨e, f⟩ | ⟨b, k, ns, e, A, hl, ht, hb, f⟩
      · refine Or.inl ⟨e, fun h' b k ns hl A hn q => ?_⟩
        obtain ⟨as', B', q'⟩ := f h' b k ns hl A (fun z => hn (List.mem_cons_of_mem _ z)) fun x hx => q x (List.mem_cons_of_mem _ hx)
        refine ⟨b0 :: as', ?_, fun x hx => ?_⟩
        · rw [Nat.add_assoc]
          exact .ref (q b0 (List.mem_cons_self ..) _ _ A0) hl0 (fun z => (q' _ z).elim (fun e => hn (e ▸ List.mem_cons_self ..)) hn0) B'
        · rcases List.mem_cons.mp hx with rfl | hx
          · exact Or.inr (List.mem_cons_self ..)
          · exact (q' x hx).imp id fun z => List.mem_cons_of_mem _ z
      · refine Or.inr ⟨b, k, ns, e, A, hl, Nat.le_trans ht (Nat.le_add_left _ _), List.mem_cons_of_mem _ hb, fun h' ns' hl' A' q => ?_⟩
        rw [show ns0.sum + t - ns.sum + ns'.sum = ns0.sum + (t - ns.sum + ns'.sum) by omega]
        exact .ref (q b0 (List.mem_cons_self ..) (fun e => hn0 (e ▸ hb)) _ _ A0) hl0 hn0 (f h' ns' hl' A' fun x hx => q x (List.mem_cons_of_mem _ hx))
def own_DH : String := "millrace/DurationHistogram"
def own_Hist (Z : State) (h : Heap) (w rg : Addr) (as : List Addr) (t : Nat) (cnt : Int64) (sm : UInt64) (mx : Int64) : Prop :=
  (Exa Z h w "millrace/DurationHistogram") ∧ (Fld Z h w "millrace/DurationHistogram" "ranges" "[[J" (.ref rg)) ∧ (Fld Z h w "millrace/DurationHistogram" "count" "J" (.long cnt)) ∧ (Fld Z h w "millrace/DurationHistogram" "sum" "D" (.double sm)) ∧ (Fld Z h w "millrace/DurationHistogram" "max" "J" (.long mx)) ∧ (∃ k vs, Arv Z h rg k (.array .long) 57 vs .null ∧ OvrA Z k .long "[J" ∧ vs.length = 57 ∧ own_Bks Z h vs as t) ∧ (w ≠ rg) ∧ (w ∉ as) ∧ (rg ∉ as)
variable {w rg : Addr} {as ws : List Addr} {t : Nat} {cnt : Int64} {sm : UInt64} {mx : Int64}
theorem own_Hist.exa (H : own_Hist Z h w rg as t cnt sm mx) : Exa Z h w "millrace/DurationHistogram" := H.1
theorem own_Hist.fr (H : own_Hist Z h w rg as t cnt sm mx) : Fld Z h w "millrace/DurationHistogram" "ranges" "[[J" (.ref rg) := H.2.1
theorem own_Hist.fc (H : own_Hist Z h w rg as t cnt sm mx) : Fld Z h w "millrace/DurationHistogram" "count" "J" (.long cnt) := H.2.2.1
theorem own_Hist.fs (H : own_Hist Z h w rg as t cnt sm mx) : Fld Z h w "millrace/DurationHistogram" "sum" "D" (.double sm) := H.2.2.2.1
theorem own_Hist.fm (H : own_Hist Z h w rg as t cnt sm mx) : Fld Z h w "millrace/DurationHistogram" "max" "J" (.long mx) := H.2.2.2.2.1
theorem own_Hist.bk (H : own_Hist Z h w rg as t cnt sm mx) : ∃ k vs, Arv Z h rg k (.array .long) 57 vs .null ∧ OvrA Z k .long "[J" ∧ vs.length = 57 ∧ own_Bks Z h vs as t := H.2.2.2.2.2.1
theorem own_Hist.n1 (H : own_Hist Z h w rg as t cnt sm mx) : w ≠ rg := H.2.2.2.2.2.2.1
theorem own_Hist.n2 (H : own_Hist Z h w rg as t cnt sm mx) : w ∉ as := H.2.2.2.2.2.2.2.1
theorem own_Hist.n3 (H : own_Hist Z h w rg as t cnt sm mx) : rg ∉ as := H.2.2.2.2.2.2.2.2
theorem own_Hist.lt (H : own_Hist Z h w rg as t cnt sm mx) : w < h.size ∧ rg < h.size ∧ ∀ x ∈ as, x < h.size := by
  obtain ⟨k, vs, V, -, -, B⟩ := H.bk; exact ⟨H.exa.lt, V.lt, B.len⟩
theorem own_Hist.ext (H : own_Hist Z h w rg as t cnt sm mx) (E : Ext h h') : own_Hist Z h' w rg as t cnt sm mx := by
  obtain ⟨k, vs, V, O, hl, B⟩ := H.bk
  exact ⟨H.exa.ext E, H.fr.ext E, H.fc.ext E, H.fs.ext E, H.fm.ext E, ⟨k, vs, V.ext E, O, hl, B.map fun b _ k ns A => A.ext E⟩, H.n1, H.n2, H.n3⟩
theorem own_Hist.keep (H : own_Hist Z h w rg as t cnt sm mx) (K : Keep h h' ws) (q1 : w ∉ ws) (q2 : rg ∉ ws) (q3 : ∀ x ∈ as, x ∉ ws) : own_Hist Z h' w rg as t cnt sm mx := by
  obtain ⟨k, vs, V, O, hl, B⟩ := H.bk
  exact ⟨H.exa.keep K, H.fr.keep K q1, H.fc.keep K q1, H.fs.keep K q1, H.fm.keep K q1, ⟨k, vs, V.keep K q2, O, hl, B.map fun b hb k ns A => A.keep K (q3 b hb)⟩, H.n1, H.n2, H.n3⟩
theorem own_Hist.mon (H : own_Hist Z h w rg as t cnt sm mx) (M : Mon h h') : own_Hist Z h' w rg as t cnt sm mx := by
  obtain ⟨k, vs, V, O, hl, B⟩ := H.bk
  exact ⟨H.exa.mon M, H.fr.mon M, H.fc.mon M, H.fs.mon M, H.fm.mon M, ⟨k, vs, own_Arv_mon M V, O, hl, B.map fun b hb k ns A => own_Arv_mon M A⟩, H.n1, H.n2, H.n3⟩
theorem own_Hist.wr {sl : Nat} {v : Value} (H : own_Hist Z h w rg as t cnt sm mx) (W : Wr h h' a sl v) (q1 : w ≠ a) (q2 : rg ≠ a) (q3 : a ∉ as) : own_Hist Z h' w rg as t cnt sm mx :=
  H.keep (Keep.of_wr W) (by simpa using q1) (by simpa using q2) fun x hx => by simpa using fun e : x = a => q3 (e ▸ hx)
theorem own_sum_set : ∀ (ns : List Nat) (j : Nat), j < ns.length → (ns.set j (ns.getD j 0 + 1)).sum = ns.sum + 1
  | [], _, h => by cases h
  | n :: ns, 0, _ => by simp; omega
  | n :: ns, j + 1, h => by
    have := own_sum_set ns j (Nat.lt_of_succ_lt_succ h)
    simp only [List.set_cons_succ, List.sum_cons, List.getD_cons_succ] at this ⊢
    omega
theorem own_sum_rep : ∀ n, (List.replicate n 0).sum = 0
  | 0 => rfl
  | n + 1 => by rw [List.replicate_succ, List.sum_cons, own_sum_rep n]
theorem own_map_get (ns : List Nat) (j : Nat) : (ns.map own_nl).getD j (.long 0) = .long (Int64.ofNat (ns.getD j 0)) := by
  rw [List.getD_eq_getElem?_getD, List.getElem?_map, List.getD_eq_getElem?_getD]
  cases ns[j]? <;> rfl
theorem own_map_set (ns : List Nat) (j n : Nat) : (ns.map own_nl).set j (.long (Int64.ofNat n + 1)) = (ns.set j (n + 1)).map own_nl := by
  have e : (Value.long (Int64.ofNat n + 1)) = own_nl (n + 1) := by unfold own_nl; rw [Int64.ofNat_add]; rfl
  rw [e, List.map_set]
theorem own_map_rep (n : Nat) : List.replicate n (Value.long 0) = (List.replicate n 0).map own_nl := by rw [List.map_replicate]; rfl
theorem own_inbN {j : Int32} {n : Int32} (h0 : 0 ≤ j.toInt) (h1 : j.toInt < n.toInt) : ¬ j < 0 ∧ j < n := ⟨fun q => by have q1 := Int32.lt_iff_toInt_lt.mp q; rw [show (0 : Int32).toInt = 0 from rfl] at q1; omega, Int32.lt_iff_toInt_lt.mpr h1⟩
theorem own_getD_of {vs : List Value} {i : Nat} {v d : Value} (h : vs[i]? = some v) : vs.getD i d = v := by rw [List.getD_eq_getElem?_getD, h]; rfl
theorem own_Keep_in {ws ws' : List Addr} (K : Keep h h' ws) (q : ∀ x ∈ ws, x ∈ ws') : Keep h h' ws' := (Keep.refl h ws').trans K fun x hx => Or.inl (q x hx)
theorem own_nin3 {lo : Nat} (n1 : a ≠ w) (n2 : a ≠ rg) (hlt : a < lo) (GA : ∀ x ∈ as, lo ≤ x) : a ∉ w :: rg :: as := fun q => by
  rcases List.mem_cons.mp q with e | q
  · exact n1 e
  · rcases List.mem_cons.mp q with e | q
    · exact n2 e
    · exact absurd hlt (Nat.not_lt.mpr (GA a q))
theorem own_in3 {lo : Nat} (GA : ∀ x ∈ as, lo ≤ x) : ∀ x ∈ w :: rg :: as, x ∈ [w, rg] ∨ lo ≤ x := fun x q => by
  rcases List.mem_cons.mp q with e | q
  · exact Or.inl (e ▸ List.mem_cons_self ..)
  · rcases List.mem_cons.mp q with e | q
    · exact Or.inl (e ▸ List.mem_cons_of_mem _ (List.mem_cons_self ..))
    · exact Or.inr (GA x q)
theorem own_keep_set {cl : Cell} (hc : h[a]? = some cl) (mo : Monitor) : Keep h (h.setIfInBounds a { cl with monitor := mo }) [a] := by
  refine ⟨by simp, fun x c q r => ?_, fun x c q => ?_⟩
  · have : a ≠ x := fun z => r (by simp [z])
    rw [Array.getElem?_setIfInBounds_ne this]; exact q
  · by_cases z : a = x
    · subst z; cases hc.symm.trans q
      exact ⟨{ cl with monitor := mo }, by rw [Array.getElem?_setIfInBounds_self_of_lt (Array.getElem?_eq_some_iff.mp hc).1], rfl, rfl, rfl⟩
    · exact ⟨c, by rw [Array.getElem?_setIfInBounds_ne z]; exact q, rfl, rfl, rfl⟩
theorem own_leaveS {cell : Cell} (X : Stand p l e R (s.setCell a (cell.withEntry s.cur)) m args below meth c T locs cells slots) (hc : s.heap[a]? = some cell) (ho : cell.enterable s.cur) (hl : meth.locks = true)
    {v : Option Value} (hv : meth.sig.returnType = none → v = none) : ∃ V : State, (∀ (f : JFrame) (acts : List Action), f.method = m → f.locked = some a → f.entered = [] → (doReturn e (T.setTop f) acts v).1 = V) ∧ V.status = .running ∧ Ended V below (.returned v) ∧ Mon T.heap V.heap ∧ Keep T.heap V.heap [a] ∧ s.WarmedH V.vm ∧ s.sameButNew { V with vm := s.vm } locs cells slots := by
  obtain ⟨fs, cT, hcT, hr, hrun, hend, h1, h2⟩ := X.leaveSync hc ho hl hv
  refine ⟨_, hr, hrun, hend, ?_, ?_, h1, h2⟩
  · show Mon T.heap (T.heap.setIfInBounds a cT.left)
    unfold Cell.left
    split <;> exact mon_set hcT _
  · show Keep T.heap (T.heap.setIfInBounds a cT.left) [a]
    unfold Cell.left
    split <;> exact own_keep_set hcT _
theorem own_unt_end {V : State} (U : Unt s.heap a) (q : s.sameButNew { V with vm := s.vm } locs cells slots) : Unt V.heap a := by
  obtain ⟨c, h1, h2, h3⟩ := U
  obtain ⟨-, -, -, -, -, f⟩ := q
  obtain ⟨c', g1, g2, -⟩ := f a c h1
  exact ⟨c', g1, by rw [g2]; exact h2, by rw [g2]; exact h3⟩
theorem own_nn0 : Jvm.Free.Fl.NoNaN64 0 := own_nn own_zero
theorem own_nnA {x : UInt64} (h : Jvm.Free.Fl.NoNaN64 x) (v : Int64) : Jvm.Free.Fl.NoNaN64 (FP.dadd x (FP.l2d v)) := Jvm.Free.Fl.noNaN64_no.mpr (Jvm.FP.Core.dadd_out (Jvm.Free.Fl.noNaN64_no.mp h) (Jvm.FP.Core.l2d_fin v))
theorem own_nnD {x : UInt64} (h : Jvm.Free.Fl.NoNaN64 x) {v : Int64} (hv : v ≠ 0) : Jvm.Free.Fl.NoNaN64 (FP.ddiv x (FP.l2d v)) := Jvm.Free.Fl.noNaN64_no.mpr (Jvm.FP.Core.ddiv_out (Jvm.Free.Fl.noNaN64_no.mp h) (Jvm.FP.Core.l2d_fin v) fun z => Jvm.FP.Core.l2d_ne_zero hv ((Jvm.FP.Core.zero_bits2 _).mp z))
theorem own_backS {y : MethodName} {bytes : ByteArray} {maxL : Nat} {ret : Option FieldType} {rm : Room} {len W : Nat} {as' : Array Value} {Q : Option Value → Heap → List Loc → Prop}
    (hM : MetFree l y (head1 [Cond.codeSync y bytes maxL ret, Cond.instanceMethod y] rm) (fun b U => b = as' ∧ Z.Warmed39 U.vm ∧ U.heap = h ∧ ∃ cell : Cell, h[a]? = some cell ∧ cell.enterable U.cur) (fun _ _ _ _ _ => True) (fun _ U o U' => ∃ v L, o = .returned v ∧ Q v U'.heap L ∧ FrameEnd U o U' L rm.cells rm.slots))
    (N : Unt h a) (hZ : Z.Warmed39 s.vm) (wc : (Cond.codeSync y bytes maxL ret).before a0 Z = true) (wi : (Cond.instanceMethod y).before a0 Z = true) (wz : (Cond.initialized y.cls).before a0 Z = true) (hf : rm.frames + 1 ≤ R.frames) (hl : W + (maxL + 11) + rm.locals ≤ R.locals) :
    Back l R p e below s args y len W (fun A b => b = as' ∧ A.U.heap = h ∧ A.cells + rm.cells ≤ R.cells ∧ A.slots + rm.slots ≤ R.slots)
      (fun A _ v B => ∃ L, Q v B.U.heap L ∧ B.locs = A.locs ++ L ∧ B.cells = A.cells + rm.cells ∧ B.slots = A.slots + rm.slots) :=
  Jvm.Free.XT.back_of_sync (bytes := bytes) (maxL := maxL) (ret := ret) (E := fun _ _ o t L k n => k = rm.cells ∧ n = rm.slots ∧ ∃ v, o = .returned v ∧ Q v t.heap L) hM hf hl
    (fun m meth c A b Y hp => have hU : Z.Warmed39 A.U.vm := wtrans hZ Y.warmed
      ⟨by show (Cond.and _ (Cond.and _ .tt)).before b A.U = true; rw [Cond.before_and, Cond.before_and, mv hU wc, mv hU wi]; rfl, mv hU wc, mv hU wz, hp.2.2.1, hp.2.2.2⟩)
    (fun m meth c A b g mk Y hp => ⟨hp.1, wtrans hZ Y.warmed, hp.2.1, by obtain ⟨cl, u1, -, u3⟩ := N; exact ⟨cl, u1, by rw [Cell.enterable, u3]; simp⟩⟩)
    (fun _ _ _ _ _ _ _ _ _ => trivial)
    (fun _ _ _ _ ⟨v, L, h1, h2, h3⟩ => ⟨L, _, _, h3, rfl, rfl, v, h1, h2⟩)
    (fun m meth c A b g mk v t L k n Y hp _ _ ⟨e1, e2, v', e3, e4⟩ => by cases e3; subst e1 e2; exact ⟨L, e4, rfl, rfl, rfl⟩)
end OwnHist
open Jvm Jvm.ClassFile Sem Op Lib Jvm.Free Jvm.Stand Jvm.LawKit Jvm.RoadKit Bundle Jvm.Pilot.@@N@@.Jvm.D
def own_Q0 (n0 : Nat) (v : Option Value) (h : Heap) (L : List Loc) : Prop := v = some (.int 1) ∧ Fr n0 L
def own_QP (r : Option Value) (h0 : Heap) (n0 : Nat) (v : Option Value) (h : Heap) (L : List Loc) : Prop := v = r ∧ Fr n0 L ∧ h = h0
def own_QX (h0 : Heap) (n0 : Nat) (v : Option Value) (h : Heap) (L : List Loc) : Prop := ∃ r : Int64, v = some (.long r) ∧ Fr n0 L ∧ h = h0
theorem own_rm_nlz (l : Launch) (Z : State) (a0 : Array Value) (hw : ∀ d ∈ tables_1, d.before a0 Z = true) (ws : List Jvm.Cond) (x : Int64) (h0 : Heap) (n0 : Nat) (Z0 : n0 ≤ h0.size) :
    MetFree l (⟨"java/lang/Long", "numberOfLeadingZeros", "(J)I"⟩ : MethodName) (head1 (Jvm.Cond.code (⟨"java/lang/Long", "numberOfLeadingZeros", "(J)I"⟩ : MethodName) jdk_35_method_48_code 3 (some .int) :: ws) ({ frames := 1, cells := 0, slots := 0, locals := 30 } : Room)) (fun a U => a = #[(.long x)] ∧ Z.Warmed39 U.vm ∧ U.heap = h0) (fun _ _ _ _ _ => True) (fun _ U o U' => ∃ v L, o = .returned v ∧ own_QP (some (.int (Jvm.Free.BdW.nlz64 x))) h0 n0 v U'.heap L ∧ FrameEnd U o U' L 0 0) := by
  intro p e ha hcs hk s m args below hfr happ hP hK
  obtain ⟨rfl, hZ, hh⟩ := hP
  obtain ⟨a1, a2, a3, a4, a5, a6, a7, a8⟩ := (Spec.appliesLoose_iff hfr).mp happ
  have w1 : (Jvm.Cond.code Jvm.Free.BdW.NLZ64.uN Jvm.Free.BdW.NLZ64.uB 3 (some .int)).before #[(.long x)] s = true := mvT hZ (hw _ (List.mem_of_getElem? (i := 63) rfl))
  have w2 : (Jvm.Cond.methodLink Jvm.Free.BdW.LGc 308 Jvm.Free.BdW.NLZ32.uN).before #[(.long x)] s = true := mvT hZ (hw _ (List.mem_of_getElem? (i := 64) rfl))
  have w3 : (Jvm.Cond.static Jvm.Free.BdW.NLZ32.uN).before #[(.long x)] s = true := mvT hZ (hw _ (List.mem_of_getElem? (i := 65) rfl))
  have w4 : (Jvm.Cond.initialized Jvm.Free.BdW.IG).before #[(.long x)] s = true := mvT hZ (hw _ (List.mem_of_getElem? (i := 66) rfl))
  have w5 : (Jvm.Cond.code Jvm.Free.BdW.NLZ32.uN Jvm.Free.BdW.NLZ32.uB 2 (some .int)).before #[(.long x)] s = true := mvT hZ (hw _ (List.mem_of_getElem? (i := 67) rfl))
  have w6 : (Jvm.Cond.constant Jvm.Free.BdW.IG 264 65536).before #[(.long x)] s = true := mvT hZ (hw _ (List.mem_of_getElem? (i := 68) rfl))
  have t2 : Jvm.Free.BdW.NLZ32.tab.before #[(.long x)] s = true := (conj_holds (args := #[(.long x)]) (first := s) (o := none) (s := s) (idx := []) _ _).mpr ⟨w5, fun w hw => by cases List.mem_singleton.mp hw; exact w6⟩
  have t1 : Jvm.Free.BdW.NLZ64.tab.before #[(.long x)] s = true := (conj_holds (args := #[(.long x)]) (first := s) (o := none) (s := s) (idx := []) _ _).mpr ⟨w1, fun w hw => by
    simp only [Jvm.Free.BdW.NLZ64.site, List.mem_cons, List.not_mem_nil, or_false] at hw
    rcases hw with rfl | rfl | rfl | rfl
    · exact w2
    · exact w3
    · exact w4
    · exact t2⟩
  have hpre : Jvm.Free.BdW.NLZ64.spec.pre.before #[(.long x)] s = true := by
    show (Jvm.Cond.and (.count 1) Jvm.Free.BdW.NLZ64.tab).before _ _ = true
    rw [Cond.before_and, t1]; rfl
  obtain ⟨n, o, h1, h2, h3, q1, q2, q3⟩ := Jvm.Free.BdW.NLZ64.gets l x p e ha hcs hk s m _ below hfr ((Spec.appliesLoose_iff hfr).mpr ⟨a1, a2, a3, a4, a5, a6, a7, hpre⟩) rfl trivial
  exact ⟨n, o, h1, h2, h3, _, [], q1, ⟨rfl, Fr.nil n0, q2.trans hh⟩, q3⟩
def own_lmax (x y : Int64) : Int64 := if x < y then y else x
theorem own_d9_0 : decode jdk_29_method_66_code 0 = .ok (.lload_n 0, 1) := by decide +kernel
theorem own_d9_1 : decode jdk_29_method_66_code 1 = .ok (.lload_n 2, 1) := by decide +kernel
theorem own_d9_2 : decode jdk_29_method_66_code 2 = .ok (.lcmp, 1) := by decide +kernel
theorem own_d9_3 : decode jdk_29_method_66_code 3 = .ok (.ifCond .lt 7, 3) := by decide +kernel
theorem own_d9_10 : decode jdk_29_method_66_code 10 = .ok (.lload_n 2, 1) := by decide +kernel
theorem own_d9_11 : decode jdk_29_method_66_code 11 = .ok (.lreturn, 1) := by decide +kernel
theorem own_d9_6 : decode jdk_29_method_66_code 6 = .ok (.lload_n 0, 1) := by decide +kernel
theorem own_d9_7 : decode jdk_29_method_66_code 7 = .ok (.goto 4, 3) := by decide +kernel
theorem own_ef_mmaxa (m : MethodId) (x : Int64) (y : Int64) : entryFrame m #[(.long x), (.long y)] 4 = mkF m 0 #[.val (.long x), .second, .val (.long y), .second] [] := by first | (simp [entryFrame, mkF, argsToLocals, Value.category]; done) | rfl
set_option maxRecDepth 65536 in
set_option maxHeartbeats 40000000 in
theorem own_rm_mmaxa (l : Launch) (Z : State) (a0 : Array Value) (hw : ∀ d ∈ tables_1, d.before a0 Z = true) (ws : List Jvm.Cond) (x : Int64) (y : Int64)  (h0 : Heap) (n0 : Nat) (Z0 : n0 ≤ h0.size)  (mmaxa_hc2 : lcmpW x y = (-1 : Int32)) :
    MetFree l (⟨"java/lang/Math", "max", "(JJ)J"⟩ : MethodName) (head1 (Jvm.Cond.code (⟨"java/lang/Math", "max", "(JJ)J"⟩ : MethodName) jdk_29_method_66_code 4 (some .long) :: ws) ({ frames := 0, cells := 0, slots := 0, locals := 0 } : Room)) (fun a U => a = #[(.long x), (.long y)] ∧ Z.Warmed39 U.vm ∧ U.heap = h0) (fun _ _ _ _ _ => True) (fun _ U o U' => ∃ v L, o = .returned v ∧ own_QP (some (.long y)) h0 n0 v U'.heap L ∧ FrameEnd U o U' L ({ frames := 0, cells := 0, slots := 0, locals := 0 } : Room).cells ({ frames := 0, cells := 0, slots := 0, locals := 0 } : Room).slots) := by
  refine MetFree.of_bodySF (Jvm.Free.JP.mathPlain rfl (by decide +kernel)) hisR ?_
  intro p e s m args below meth c s₁ Bd hml0 hP hK
  obtain ⟨rfl, hZ, hh⟩ := hP
  have hx := Bd.exec
  have hby := Bd.bytes
  have hml : c.maxLocals = 4 := hml0
  have hown : s.vm.findClass "java/lang/Math" = some m.cls := findClass_of_methodNamed Bd.named
  have hnm := (name_of_methodNamed Bd.named Bd.method).1
  have X0 : Stand p l e ({ frames := 0, cells := 0, slots := 0, locals := 0 } : Room) s m #[(.long x), (.long y)] below meth c s₁ [] 0 0 := Stand.of_body Bd
  have e0 : s₁.heap = h0 := by rw [← hh, Bd.state]; rfl
  have N0 := Fr.nil n0
  have pre0 : ∀ t, Steps p.tables e below (s₁.setTop (mkF m 0 #[.val (.long x), .second, .val (.long y), .second] [])) t → Steps p.tables e below (s₁.setTop (entryFrame m #[(.long x), (.long y)] 4)) t := fun t k => castTop (own_ef_mmaxa m x y) k
  obtain ⟨fs, hr, hrun, hended, hW, hsame⟩ := X0.leave (v := some (.long y)) (fun h => by rw [Bd.returns] at h; cases h)
  refine ⟨_, _, pre0 _ ?_, hrun, hended, _, _, rfl, ?_, ⟨_, rfl⟩, hW, hsame.mono (by decide) (by decide)⟩
  · refine own_s_lloadN X0.here hx (hb hby own_d9_0) (pc' := 1) rfl rfl ?_
    refine own_s_lloadN X0.here hx (hb hby own_d9_1) (pc' := 2) rfl rfl ?_
    refine own_s_lcmp X0.here hx (hb hby own_d9_2) (pc' := 3) rfl (v := (-1 : Int32)) mmaxa_hc2 ?_
    refine own_s_ifYes X0.here hx (hb hby own_d9_3) (by decide) (pc' := 10) (by decide) (by decide) ?_
    refine own_s_lloadN X0.here hx (hb hby own_d9_10) (pc' := 11) rfl rfl ?_
    exact own_retJ X0 hx Bd.returns (hb hby own_d9_11) hr
  · show own_QP (some (.long y)) h0 n0 _ s₁.heap _
    rw [e0]
    exact ⟨rfl, N0, rfl⟩
theorem own_ef_mmaxb (m : MethodId) (x : Int64) (y : Int64) : entryFrame m #[(.long x), (.long y)] 4 = mkF m 0 #[.val (.long x), .second, .val (.long y), .second] [] := by first | (simp [entryFrame, mkF, argsToLocals, Value.category]; done) | rfl
set_option maxRecDepth 65536 in
set_option maxHeartbeats 40000000 in
theorem own_rm_mmaxb (l : Launch) (Z : State) (a0 : Array Value) (hw : ∀ d ∈ tables_1, d.before a0 Z = true) (ws : List Jvm.Cond) (x : Int64) (y : Int64)  (h0 : Heap) (n0 : Nat) (Z0 : n0 ≤ h0.size)  (mmaxb_hc2 : lcmpW x y = (0 : Int32)) :
    MetFree l (⟨"java/lang/Math", "max", "(JJ)J"⟩ : MethodName) (head1 (Jvm.Cond.code (⟨"java/lang/Math", "max", "(JJ)J"⟩ : MethodName) jdk_29_method_66_code 4 (some .long) :: ws) ({ frames := 0, cells := 0, slots := 0, locals := 0 } : Room)) (fun a U => a = #[(.long x), (.long y)] ∧ Z.Warmed39 U.vm ∧ U.heap = h0) (fun _ _ _ _ _ => True) (fun _ U o U' => ∃ v L, o = .returned v ∧ own_QP (some (.long x)) h0 n0 v U'.heap L ∧ FrameEnd U o U' L ({ frames := 0, cells := 0, slots := 0, locals := 0 } : Room).cells ({ frames := 0, cells := 0, slots := 0, locals := 0 } : Room).slots) := by
  refine MetFree.of_bodySF (Jvm.Free.JP.mathPlain rfl (by decide +kernel)) hisR ?_
  intro p e s m args below meth c s₁ Bd hml0 hP hK
  obtain ⟨rfl, hZ, hh⟩ := hP
  have hx := Bd.exec
  have hby := Bd.bytes
  have hml : c.maxLocals = 4 := hml0
  have hown : s.vm.findClass "java/lang/Math" = some m.cls := findClass_of_methodNamed Bd.named
  have hnm := (name_of_methodNamed Bd.named Bd.method).1
  have X0 : Stand p l e ({ frames := 0, cells := 0, slots := 0, locals := 0 } : Room) s m #[(.long x), (.long y)] below meth c s₁ [] 0 0 := Stand.of_body Bd
  have e0 : s₁.heap = h0 := by rw [← hh, Bd.state]; rfl
  have N0 := Fr.nil n0
  have pre0 : ∀ t, Steps p.tables e below (s₁.setTop (mkF m 0 #[.val (.long x), .second, .val (.long y), .second] [])) t → Steps p.tables e below (s₁.setTop (entryFrame m #[(.long x), (.long y)] 4)) t := fun t k => castTop (own_ef_mmaxb m x y) k
  obtain ⟨fs, hr, hrun, hended, hW, hsame⟩ := X0.leave (v := some (.long x)) (fun h => by rw [Bd.returns] at h; cases h)
  refine ⟨_, _, pre0 _ ?_, hrun, hended, _, _, rfl, ?_, ⟨_, rfl⟩, hW, hsame.mono (by decide) (by decide)⟩
  · refine own_s_lloadN X0.here hx (hb hby own_d9_0) (pc' := 1) rfl rfl ?_
    refine own_s_lloadN X0.here hx (hb hby own_d9_1) (pc' := 2) rfl rfl ?_
    refine own_s_lcmp X0.here hx (hb hby own_d9_2) (pc' := 3) rfl (v := (0 : Int32)) mmaxb_hc2 ?_
    refine own_s_ifNo X0.here hx (hb hby own_d9_3) (pc' := 6) rfl (by decide) ?_
    refine own_s_lloadN X0.here hx (hb hby own_d9_6) (pc' := 7) rfl rfl ?_
    refine own_s_goto X0.here hx (hb hby own_d9_7) (by decide) (pc' := 11) (by decide) ?_
    exact own_retJ X0 hx Bd.returns (hb hby own_d9_11) hr
  · show own_QP (some (.long x)) h0 n0 _ s₁.heap _
    rw [e0]
    exact ⟨rfl, N0, rfl⟩
theorem own_ef_mmaxc (m : MethodId) (x : Int64) (y : Int64) : entryFrame m #[(.long x), (.long y)] 4 = mkF m 0 #[.val (.long x), .second, .val (.long y), .second] [] := by first | (simp [entryFrame, mkF, argsToLocals, Value.category]; done) | rfl
set_option maxRecDepth 65536 in
set_option maxHeartbeats 40000000 in
theorem own_rm_mmaxc (l : Launch) (Z : State) (a0 : Array Value) (hw : ∀ d ∈ tables_1, d.before a0 Z = true) (ws : List Jvm.Cond) (x : Int64) (y : Int64)  (h0 : Heap) (n0 : Nat) (Z0 : n0 ≤ h0.size)  (mmaxc_hc2 : lcmpW x y = (1 : Int32)) :
    MetFree l (⟨"java/lang/Math", "max", "(JJ)J"⟩ : MethodName) (head1 (Jvm.Cond.code (⟨"java/lang/Math", "max", "(JJ)J"⟩ : MethodName) jdk_29_method_66_code 4 (some .long) :: ws) ({ frames := 0, cells := 0, slots := 0, locals := 0 } : Room)) (fun a U => a = #[(.long x), (.long y)] ∧ Z.Warmed39 U.vm ∧ U.heap = h0) (fun _ _ _ _ _ => True) (fun _ U o U' => ∃ v L, o = .returned v ∧ own_QP (some (.long x)) h0 n0 v U'.heap L ∧ FrameEnd U o U' L ({ frames := 0, cells := 0, slots := 0, locals := 0 } : Room).cells ({ frames := 0, cells := 0, slots := 0, locals := 0 } : Room).slots) := by
  refine MetFree.of_bodySF (Jvm.Free.JP.mathPlain rfl (by decide +kernel)) hisR ?_
  intro p e s m args below meth c s₁ Bd hml0 hP hK
  obtain ⟨rfl, hZ, hh⟩ := hP
  have hx := Bd.exec
  have hby := Bd.bytes
  have hml : c.maxLocals = 4 := hml0
  have hown : s.vm.findClass "java/lang/Math" = some m.cls := findClass_of_methodNamed Bd.named
  have hnm := (name_of_methodNamed Bd.named Bd.method).1
  have X0 : Stand p l e ({ frames := 0, cells := 0, slots := 0, locals := 0 } : Room) s m #[(.long x), (.long y)] below meth c s₁ [] 0 0 := Stand.of_body Bd
  have e0 : s₁.heap = h0 := by rw [← hh, Bd.state]; rfl
  have N0 := Fr.nil n0
  have pre0 : ∀ t, Steps p.tables e below (s₁.setTop (mkF m 0 #[.val (.long x), .second, .val (.long y), .second] [])) t → Steps p.tables e below (s₁.setTop (entryFrame m #[(.long x), (.long y)] 4)) t := fun t k => castTop (own_ef_mmaxc m x y) k
  obtain ⟨fs, hr, hrun, hended, hW, hsame⟩ := X0.leave (v := some (.long x)) (fun h => by rw [Bd.returns] at h; cases h)
  refine ⟨_, _, pre0 _ ?_, hrun, hended, _, _, rfl, ?_, ⟨_, rfl⟩, hW, hsame.mono (by decide) (by decide)⟩
  · refine own_s_lloadN X0.here hx (hb hby own_d9_0) (pc' := 1) rfl rfl ?_
    refine own_s_lloadN X0.here hx (hb hby own_d9_1) (pc' := 2) rfl rfl ?_
    refine own_s_lcmp X0.here hx (hb hby own_d9_2) (pc' := 3) rfl (v := (1 : Int32)) mmaxc_hc2 ?_
    refine own_s_ifNo X0.here hx (hb hby own_d9_3) (pc' := 6) rfl (by decide) ?_
    refine own_s_lloadN X0.here hx (hb hby own_d9_6) (pc' := 7) rfl rfl ?_
    refine own_s_goto X0.here hx (hb hby own_d9_7) (by decide) (pc' := 11) (by decide) ?_
    exact own_retJ X0 hx Bd.returns (hb hby own_d9_11) hr
  · show own_QP (some (.long x)) h0 n0 _ s₁.heap _
    rw [e0]
    exact ⟨rfl, N0, rfl⟩
set_option maxRecDepth 65536 in
set_option maxHeartbeats 40000000 in
theorem own_rm_mmax (l : Launch) (Z : State) (a0 : Array Value) (hw : ∀ d ∈ tables_1, d.before a0 Z = true) (ws : List Jvm.Cond) (x : Int64) (y : Int64)  (h0 : Heap) (n0 : Nat) (Z0 : n0 ≤ h0.size)   :
    MetFree l (⟨"java/lang/Math", "max", "(JJ)J"⟩ : MethodName) (head1 (Jvm.Cond.code (⟨"java/lang/Math", "max", "(JJ)J"⟩ : MethodName) jdk_29_method_66_code 4 (some .long) :: ws) ({ frames := 0, cells := 0, slots := 0, locals := 0 } : Room)) (fun a U => a = #[(.long x), (.long y)] ∧ Z.Warmed39 U.vm ∧ U.heap = h0) (fun _ _ _ _ _ => True) (fun _ U o U' => ∃ v L, o = .returned v ∧ own_QP (some (.long (own_lmax x y))) h0 n0 v U'.heap L ∧ FrameEnd U o U' L ({ frames := 0, cells := 0, slots := 0, locals := 0 } : Room).cells ({ frames := 0, cells := 0, slots := 0, locals := 0 } : Room).slots) := by
  unfold own_lmax
  rcases Int.lt_trichotomy x.toInt y.toInt with h | h | h
  · rw [if_pos (Int64.lt_iff_toInt_lt.mpr h)]; exact own_rm_mmaxa l Z a0 hw ws x y h0 n0 Z0 (by apply Int32.toInt_inj.mp; rw [(c_lcmp x y).1 h]; decide)
  · rw [if_neg (fun q => by have := Int64.lt_iff_toInt_lt.mp q; omega)]; exact own_rm_mmaxb l Z a0 hw ws x y h0 n0 Z0 (by apply Int32.toInt_inj.mp; rw [(c_lcmp x y).2.1 h]; decide)
  · rw [if_neg (fun q => by have := Int64.lt_iff_toInt_lt.mp q; omega)]; exact own_rm_mmaxc l Z a0 hw ws x y h0 n0 Z0 (by apply Int32.toInt_inj.mp; rw [(c_lcmp x y).2.2 h]; decide)

def own_lmin (x y : Int64) : Int64 := if y < x then y else x
theorem own_d17_0 : decode jdk_29_method_70_code 0 = .ok (.lload_n 0, 1) := by decide +kernel
theorem own_d17_1 : decode jdk_29_method_70_code 1 = .ok (.lload_n 2, 1) := by decide +kernel
theorem own_d17_2 : decode jdk_29_method_70_code 2 = .ok (.lcmp, 1) := by decide +kernel
theorem own_d17_3 : decode jdk_29_method_70_code 3 = .ok (.ifCond .gt 7, 3) := by decide +kernel
theorem own_d17_6 : decode jdk_29_method_70_code 6 = .ok (.lload_n 0, 1) := by decide +kernel
theorem own_d17_7 : decode jdk_29_method_70_code 7 = .ok (.goto 4, 3) := by decide +kernel
theorem own_d17_11 : decode jdk_29_method_70_code 11 = .ok (.lreturn, 1) := by decide +kernel
theorem own_d17_10 : decode jdk_29_method_70_code 10 = .ok (.lload_n 2, 1) := by decide +kernel
theorem own_ef_mmina (m : MethodId) (x : Int64) (y : Int64) : entryFrame m #[(.long x), (.long y)] 4 = mkF m 0 #[.val (.long x), .second, .val (.long y), .second] [] := by first | (simp [entryFrame, mkF, argsToLocals, Value.category]; done) | rfl
set_option maxRecDepth 65536 in
set_option maxHeartbeats 40000000 in
theorem own_rm_mmina (l : Launch) (Z : State) (a0 : Array Value) (hw : ∀ d ∈ tables_1, d.before a0 Z = true) (ws : List Jvm.Cond) (x : Int64) (y : Int64)  (h0 : Heap) (n0 : Nat) (Z0 : n0 ≤ h0.size)  (mmina_hc2 : lcmpW x y = (-1 : Int32)) :
    MetFree l (⟨"java/lang/Math", "min", "(JJ)J"⟩ : MethodName) (head1 (Jvm.Cond.code (⟨"java/lang/Math", "min", "(JJ)J"⟩ : MethodName) jdk_29_method_70_code 4 (some .long) :: ws) ({ frames := 0, cells := 0, slots := 0, locals := 0 } : Room)) (fun a U => a = #[(.long x), (.long y)] ∧ Z.Warmed39 U.vm ∧ U.heap = h0) (fun _ _ _ _ _ => True) (fun _ U o U' => ∃ v L, o = .returned v ∧ own_QP (some (.long x)) h0 n0 v U'.heap L ∧ FrameEnd U o U' L ({ frames := 0, cells := 0, slots := 0, locals := 0 } : Room).cells ({ frames := 0, cells := 0, slots := 0, locals := 0 } : Room).slots) := by
  refine MetFree.of_bodySF (Jvm.Free.JP.mathPlain rfl (by decide +kernel)) hisR ?_
  intro p e s m args below meth c s₁ Bd hml0 hP hK
  obtain ⟨rfl, hZ, hh⟩ := hP
  have hx := Bd.exec
  have hby := Bd.bytes
  have hml : c.maxLocals = 4 := hml0
  have hown : s.vm.findClass "java/lang/Math" = some m.cls := findClass_of_methodNamed Bd.named
  have hnm := (name_of_methodNamed Bd.named Bd.method).1
  have X0 : Stand p l e ({ frames := 0, cells := 0, slots := 0, locals := 0 } : Room) s m #[(.long x), (.long y)] below meth c s₁ [] 0 0 := Stand.of_body Bd
  have e0 : s₁.heap = h0 := by rw [← hh, Bd.state]; rfl
  have N0 := Fr.nil n0
  have pre0 : ∀ t, Steps p.tables e below (s₁.setTop (mkF m 0 #[.val (.long x), .second, .val (.long y), .second] [])) t → Steps p.tables e below (s₁.setTop (entryFrame m #[(.long x), (.long y)] 4)) t := fun t k => castTop (own_ef_mmina m x y) k
  obtain ⟨fs, hr, hrun, hended, hW, hsame⟩ := X0.leave (v := some (.long x)) (fun h => by rw [Bd.returns] at h; cases h)
  refine ⟨_, _, pre0 _ ?_, hrun, hended, _, _, rfl, ?_, ⟨_, rfl⟩, hW, hsame.mono (by decide) (by decide)⟩
  · refine own_s_lloadN X0.here hx (hb hby own_d17_0) (pc' := 1) rfl rfl ?_
    refine own_s_lloadN X0.here hx (hb hby own_d17_1) (pc' := 2) rfl rfl ?_
    refine own_s_lcmp X0.here hx (hb hby own_d17_2) (pc' := 3) rfl (v := (-1 : Int32)) mmina_hc2 ?_
    refine own_s_ifNo X0.here hx (hb hby own_d17_3) (pc' := 6) rfl (by decide) ?_
    refine own_s_lloadN X0.here hx (hb hby own_d17_6) (pc' := 7) rfl rfl ?_
    refine own_s_goto X0.here hx (hb hby own_d17_7) (by decide) (pc' := 11) (by decide) ?_
    exact own_retJ X0 hx Bd.returns (hb hby own_d17_11) hr
  · show own_QP (some (.long x)) h0 n0 _ s₁.heap _
    rw [e0]
    exact ⟨rfl, N0, rfl⟩
theorem own_ef_mminb (m : MethodId) (x : Int64) (y : Int64) : entryFrame m #[(.long x), (.long y)] 4 = mkF m 0 #[.val (.long x), .second, .val (.long y), .second] [] := by first | (simp [entryFrame, mkF, argsToLocals, Value.category]; done) | rfl
set_option maxRecDepth 65536 in
set_option maxHeartbeats 40000000 in
theorem own_rm_mminb (l : Launch) (Z : State) (a0 : Array Value) (hw : ∀ d ∈ tables_1, d.before a0 Z = true) (ws : List Jvm.Cond) (x : Int64) (y : Int64)  (h0 : Heap) (n0 : Nat) (Z0 : n0 ≤ h0.size)  (mminb_hc2 : lcmpW x y = (0 : Int32)) :
    MetFree l (⟨"java/lang/Math", "min", "(JJ)J"⟩ : MethodName) (head1 (Jvm.Cond.code (⟨"java/lang/Math", "min", "(JJ)J"⟩ : MethodName) jdk_29_method_70_code 4 (some .long) :: ws) ({ frames := 0, cells := 0, slots := 0, locals := 0 } : Room)) (fun a U => a = #[(.long x), (.long y)] ∧ Z.Warmed39 U.vm ∧ U.heap = h0) (fun _ _ _ _ _ => True) (fun _ U o U' => ∃ v L, o = .returned v ∧ own_QP (some (.long x)) h0 n0 v U'.heap L ∧ FrameEnd U o U' L ({ frames := 0, cells := 0, slots := 0, locals := 0 } : Room).cells ({ frames := 0, cells := 0, slots := 0, locals := 0 } : Room).slots) := by
  refine MetFree.of_bodySF (Jvm.Free.JP.mathPlain rfl (by decide +kernel)) hisR ?_
  intro p e s m args below meth c s₁ Bd hml0 hP hK
  obtain ⟨rfl, hZ, hh⟩ := hP
  have hx := Bd.exec
  have hby := Bd.bytes
  have hml : c.maxLocals = 4 := hml0
  have hown : s.vm.findClass "java/lang/Math" = some m.cls := findClass_of_methodNamed Bd.named
  have hnm := (name_of_methodNamed Bd.named Bd.method).1
  have X0 : Stand p l e ({ frames := 0, cells := 0, slots := 0, locals := 0 } : Room) s m #[(.long x), (.long y)] below meth c s₁ [] 0 0 := Stand.of_body Bd
  have e0 : s₁.heap = h0 := by rw [← hh, Bd.state]; rfl
  have N0 := Fr.nil n0
  have pre0 : ∀ t, Steps p.tables e below (s₁.setTop (mkF m 0 #[.val (.long x), .second, .val (.long y), .second] [])) t → Steps p.tables e below (s₁.setTop (entryFrame m #[(.long x), (.long y)] 4)) t := fun t k => castTop (own_ef_mminb m x y) k
  obtain ⟨fs, hr, hrun, hended, hW, hsame⟩ := X0.leave (v := some (.long x)) (fun h => by rw [Bd.returns] at h; cases h)
  refine ⟨_, _, pre0 _ ?_, hrun, hended, _, _, rfl, ?_, ⟨_, rfl⟩, hW, hsame.mono (by decide) (by decide)⟩
  · refine own_s_lloadN X0.here hx (hb hby own_d17_0) (pc' := 1) rfl rfl ?_
    refine own_s_lloadN X0.here hx (hb hby own_d17_1) (pc' := 2) rfl rfl ?_
    refine own_s_lcmp X0.here hx (hb hby own_d17_2) (pc' := 3) rfl (v := (0 : Int32)) mminb_hc2 ?_
    refine own_s_ifNo X0.here hx (hb hby own_d17_3) (pc' := 6) rfl (by decide) ?_
    refine own_s_lloadN X0.here hx (hb hby own_d17_6) (pc' := 7) rfl rfl ?_
    refine own_s_goto X0.here hx (hb hby own_d17_7) (by decide) (pc' := 11) (by decide) ?_
    exact own_retJ X0 hx Bd.returns (hb hby own_d17_11) hr
  · show own_QP (some (.long x)) h0 n0 _ s₁.heap _
    rw [e0]
    exact ⟨rfl, N0, rfl⟩
theorem own_ef_mminc (m : MethodId) (x : Int64) (y : Int64) : entryFrame m #[(.long x), (.long y)] 4 = mkF m 0 #[.val (.long x), .second, .val (.long y), .second] [] := by first | (simp [entryFrame, mkF, argsToLocals, Value.category]; done) | rfl
set_option maxRecDepth 65536 in
set_option maxHeartbeats 40000000 in
theorem own_rm_mminc (l : Launch) (Z : State) (a0 : Array Value) (hw : ∀ d ∈ tables_1, d.before a0 Z = true) (ws : List Jvm.Cond) (x : Int64) (y : Int64)  (h0 : Heap) (n0 : Nat) (Z0 : n0 ≤ h0.size)  (mminc_hc2 : lcmpW x y = (1 : Int32)) :
    MetFree l (⟨"java/lang/Math", "min", "(JJ)J"⟩ : MethodName) (head1 (Jvm.Cond.code (⟨"java/lang/Math", "min", "(JJ)J"⟩ : MethodName) jdk_29_method_70_code 4 (some .long) :: ws) ({ frames := 0, cells := 0, slots := 0, locals := 0 } : Room)) (fun a U => a = #[(.long x), (.long y)] ∧ Z.Warmed39 U.vm ∧ U.heap = h0) (fun _ _ _ _ _ => True) (fun _ U o U' => ∃ v L, o = .returned v ∧ own_QP (some (.long y)) h0 n0 v U'.heap L ∧ FrameEnd U o U' L ({ frames := 0, cells := 0, slots := 0, locals := 0 } : Room).cells ({ frames := 0, cells := 0, slots := 0, locals := 0 } : Room).slots) := by
  refine MetFree.of_bodySF (Jvm.Free.JP.mathPlain rfl (by decide +kernel)) hisR ?_
  intro p e s m args below meth c s₁ Bd hml0 hP hK
  obtain ⟨rfl, hZ, hh⟩ := hP
  have hx := Bd.exec
  have hby := Bd.bytes
  have hml : c.maxLocals = 4 := hml0
  have hown : s.vm.findClass "java/lang/Math" = some m.cls := findClass_of_methodNamed Bd.named
  have hnm := (name_of_methodNamed Bd.named Bd.method).1
  have X0 : Stand p l e ({ frames := 0, cells := 0, slots := 0, locals := 0 } : Room) s m #[(.long x), (.long y)] below meth c s₁ [] 0 0 := Stand.of_body Bd
  have e0 : s₁.heap = h0 := by rw [← hh, Bd.state]; rfl
  have N0 := Fr.nil n0
  have pre0 : ∀ t, Steps p.tables e below (s₁.setTop (mkF m 0 #[.val (.long x), .second, .val (.long y), .second] [])) t → Steps p.tables e below (s₁.setTop (entryFrame m #[(.long x), (.long y)] 4)) t := fun t k => castTop (own_ef_mminc m x y) k
  obtain ⟨fs, hr, hrun, hended, hW, hsame⟩ := X0.leave (v := some (.long y)) (fun h => by rw [Bd.returns] at h; cases h)
  refine ⟨_, _, pre0 _ ?_, hrun, hended, _, _, rfl, ?_, ⟨_, rfl⟩, hW, hsame.mono (by decide) (by decide)⟩
  · refine own_s_lloadN X0.here hx (hb hby own_d17_0) (pc' := 1) rfl rfl ?_
    refine own_s_lloadN X0.here hx (hb hby own_d17_1) (pc' := 2) rfl rfl ?_
    refine own_s_lcmp X0.here hx (hb hby own_d17_2) (pc' := 3) rfl (v := (1 : Int32)) mminc_hc2 ?_
    refine own_s_ifYes X0.here hx (hb hby own_d17_3) (by decide) (pc' := 10) (by decide) (by decide) ?_
    refine own_s_lloadN X0.here hx (hb hby own_d17_10) (pc' := 11) rfl rfl ?_
    exact own_retJ X0 hx Bd.returns (hb hby own_d17_11) hr
  · show own_QP (some (.long y)) h0 n0 _ s₁.heap _
    rw [e0]
    exact ⟨rfl, N0, rfl⟩
set_option maxRecDepth 65536 in
set_option maxHeartbeats 40000000 in
theorem own_rm_mmin (l : Launch) (Z : State) (a0 : Array Value) (hw : ∀ d ∈ tables_1, d.before a0 Z = true) (ws : List Jvm.Cond) (x : Int64) (y : Int64)  (h0 : Heap) (n0 : Nat) (Z0 : n0 ≤ h0.size)   :
    MetFree l (⟨"java/lang/Math", "min", "(JJ)J"⟩ : MethodName) (head1 (Jvm.Cond.code (⟨"java/lang/Math", "min", "(JJ)J"⟩ : MethodName) jdk_29_method_70_code 4 (some .long) :: ws) ({ frames := 0, cells := 0, slots := 0, locals := 0 } : Room)) (fun a U => a = #[(.long x), (.long y)] ∧ Z.Warmed39 U.vm ∧ U.heap = h0) (fun _ _ _ _ _ => True) (fun _ U o U' => ∃ v L, o = .returned v ∧ own_QP (some (.long (own_lmin x y))) h0 n0 v U'.heap L ∧ FrameEnd U o U' L ({ frames := 0, cells := 0, slots := 0, locals := 0 } : Room).cells ({ frames := 0, cells := 0, slots := 0, locals := 0 } : Room).slots) := by
  unfold own_lmin
  rcases Int.lt_trichotomy x.toInt y.toInt with h | h | h
  · rw [if_neg (fun q => by have := Int64.lt_iff_toInt_lt.mp q; omega)]; exact own_rm_mmina l Z a0 hw ws x y h0 n0 Z0 (by apply Int32.toInt_inj.mp; rw [(c_lcmp x y).1 h]; decide)
  · rw [if_neg (fun q => by have := Int64.lt_iff_toInt_lt.mp q; omega)]; exact own_rm_mminb l Z a0 hw ws x y h0 n0 Z0 (by apply Int32.toInt_inj.mp; rw [(c_lcmp x y).2.1 h]; decide)
  · rw [if_pos (Int64.lt_iff_toInt_lt.mpr h)]; exact own_rm_mminc l Z a0 hw ws x y h0 n0 Z0 (by apply Int32.toInt_inj.mp; rw [(c_lcmp x y).2.2 h]; decide)

theorem own_d10_0 : decode prog_18_method_7_code 0 = .ok (.bipush 63, 2) := by decide +kernel
theorem own_d10_2 : decode prog_18_method_7_code 2 = .ok (.lload_n 0, 1) := by decide +kernel
theorem own_pd_28J29I : parseMethodDescriptor "(J)I" = some ⟨[.long], some .int⟩ := by decide +kernel
theorem own_d10_3 : decode prog_18_method_7_code 3 = .ok (.invokestatic 72, 3) := by decide +kernel
theorem own_d10_6 : decode prog_18_method_7_code 6 = .ok (.isub, 1) := by decide +kernel
theorem own_d10_7 : decode prog_18_method_7_code 7 = .ok (.istore_n 2, 1) := by decide +kernel
theorem own_d10_8 : decode prog_18_method_7_code 8 = .ok (.iload_n 2, 1) := by decide +kernel
theorem own_d10_9 : decode prog_18_method_7_code 9 = .ok (.bipush 7, 2) := by decide +kernel
theorem own_d10_11 : decode prog_18_method_7_code 11 = .ok (.if_icmp .ge 7, 3) := by decide +kernel
theorem own_d10_14 : decode prog_18_method_7_code 14 = .ok (.iconst 0, 1) := by decide +kernel
theorem own_d10_15 : decode prog_18_method_7_code 15 = .ok (.goto 9, 3) := by decide +kernel
theorem own_d10_24 : decode prog_18_method_7_code 24 = .ok (.ireturn, 1) := by decide +kernel
theorem own_d10_18 : decode prog_18_method_7_code 18 = .ok (.iload_n 2, 1) := by decide +kernel
theorem own_d10_19 : decode prog_18_method_7_code 19 = .ok (.bipush 7, 2) := by decide +kernel
theorem own_d10_21 : decode prog_18_method_7_code 21 = .ok (.isub, 1) := by decide +kernel
theorem own_d10_22 : decode prog_18_method_7_code 22 = .ok (.iconst 1, 1) := by decide +kernel
theorem own_d10_23 : decode prog_18_method_7_code 23 = .ok (.iadd, 1) := by decide +kernel
theorem own_pn_millrace_DurationHistogram : plainName "millrace/DurationHistogram" = true := by first | (simp [plainName, overriddenIn]; done) | decide +kernel
theorem own_ef_rga (m : MethodId) (x : Int64) : entryFrame m #[(.long x)] 3 = mkF m 0 #[.val (.long x), .second, .unset] [] := by first | (simp [entryFrame, mkF, argsToLocals, Value.category]; done) | rfl
set_option maxRecDepth 65536 in
set_option maxHeartbeats 40000000 in
theorem own_rm_rga (l : Launch) (Z : State) (a0 : Array Value) (hw : ∀ d ∈ tables_1, d.before a0 Z = true) (ws : List Jvm.Cond) (x : Int64)  (h0 : Heap) (n0 : Nat) (Z0 : n0 ≤ h0.size)  (rga_hb11 : if_icmp.holds .ge ((63 : Int32) - (Jvm.Free.BdW.nlz64 x)) (7 : Int32) = false) :
    MetFree l (⟨"millrace/DurationHistogram", "range", "(J)I"⟩ : MethodName) (head1 (Jvm.Cond.code (⟨"millrace/DurationHistogram", "range", "(J)I"⟩ : MethodName) prog_18_method_7_code 3 (some .int) :: ws) ({ frames := 2, cells := 0, slots := 0, locals := 45 } : Room)) (fun a U => a = #[(.long x)] ∧ Z.Warmed39 U.vm ∧ U.heap = h0) (fun _ _ _ _ _ => True) (fun _ U o U' => ∃ v L, o = .returned v ∧ own_QP (some (.int (0 : Int32))) h0 n0 v U'.heap L ∧ FrameEnd U o U' L ({ frames := 2, cells := 0, slots := 0, locals := 45 } : Room).cells ({ frames := 2, cells := 0, slots := 0, locals := 45 } : Room).slots) := by
  refine MetFree.of_bodySF (plainFor_of_name own_pn_millrace_DurationHistogram) hisR ?_
  intro p e s m args below meth c s₁ Bd hml0 hP hK
  obtain ⟨rfl, hZ, hh⟩ := hP
  have hx := Bd.exec
  have hby := Bd.bytes
  have hml : c.maxLocals = 3 := hml0
  have hown : s.vm.findClass "millrace/DurationHistogram" = some m.cls := findClass_of_methodNamed Bd.named
  have hnm := (name_of_methodNamed Bd.named Bd.method).1
  have X0 : Stand p l e ({ frames := 2, cells := 0, slots := 0, locals := 45 } : Room) s m #[(.long x)] below meth c s₁ [] 0 0 := Stand.of_body Bd
  have e0 : s₁.heap = h0 := by rw [← hh, Bd.state]; rfl
  have N0 := Fr.nil n0
  have pre0 : ∀ t, Steps p.tables e below (s₁.setTop (mkF m 0 #[.val (.long x), .second, .unset] [])) t → Steps p.tables e below (s₁.setTop (entryFrame m #[(.long x)] 3)) t := fun t k => castTop (own_ef_rga m x) k
  obtain ⟨_, _, ⟨Trga1, Lrga1, krga1, nrga1⟩, -, Xrga1, ⟨Lcrga1, hQrga1, lrga1, yrga1, zrga1⟩, strga1⟩ := Jvm.LawKit.callS X0 hx (y := (⟨"java/lang/Long", "numberOfLeadingZeros", "(J)I"⟩ : MethodName)) hown (mvT hZ (hw _ (List.mem_of_getElem? (i := 60) rfl))) (mvT hZ (hw _ (List.mem_of_getElem? (i := 61) rfl))) (mvT hZ (hw _ (List.mem_of_getElem? (i := 62) rfl))) (mvT hZ (hw _ (List.mem_of_getElem? (i := 63) rfl))) (by decide) (backOf (W := 1) (own_rm_nlz l Z a0 hw [] x h0 n0 Z0 ) hZ (hw _ (List.mem_of_getElem? (i := 63) rfl)) (hw _ (List.mem_of_getElem? (i := 62) rfl)) (by decide) (by decide)) (g := (mkF m 3 #[.val (.long x), .second, .unset] [(.long x), (.int (63 : Int32))])) rfl (by rw [hml]; rfl) (argsL := [(.long x)]) (rest := [(.int (63 : Int32))]) (lenOf own_pd_28J29I rfl) rfl (by show 2 * 0 + _ ≤ _; exact Nat.le_of_eq rfl) (hb hby own_d10_3) (fun _ _ => ⟨rfl, e0, (by decide : 0 + 0 ≤ _), (by decide : 0 + 0 ≤ _)⟩)
  dsimp only [Pt.U, Pt.locs, Pt.cells, Pt.slots] at Xrga1 lrga1 yrga1 zrga1 strga1 hQrga1
  rw [lrga1, yrga1, zrga1] at Xrga1
  obtain ⟨rfl, Nrga1q, erga1⟩ := hQrga1
  have Nrga1 := Fr.app N0 Nrga1q
  obtain ⟨fs, hr, hrun, hended, hW, hsame⟩ := Xrga1.leave (v := some (.int (0 : Int32))) (fun h => by rw [Bd.returns] at h; cases h)
  refine ⟨_, _, pre0 _ ?_, hrun, hended, _, _, rfl, ?_, ⟨_, rfl⟩, hW, hsame.mono (by decide) (by decide)⟩
  · refine own_s_bipush X0.here hx (hb hby own_d10_0) (pc' := 2) rfl (v := (63 : Int32)) (by decide) ?_
    refine own_s_lloadN X0.here hx (hb hby own_d10_2) (pc' := 3) rfl rfl ?_
    refine strga1 _ ?_
    show Steps p.tables e below (Trga1.setTop (mkF m 6 #[.val (.long x), .second, .unset] [(.int (Jvm.Free.BdW.nlz64 x)), (.int (63 : Int32))])) _
    refine own_s_isub Xrga1.here hx (hb hby own_d10_6) (pc' := 7) rfl (v := ((63 : Int32) - (Jvm.Free.BdW.nlz64 x))) rfl ?_
    refine own_s_istoreN Xrga1.here hx (hb hby own_d10_7) (pc' := 8) rfl (L' := #[.val (.long x), .second, .val (.int ((63 : Int32) - (Jvm.Free.BdW.nlz64 x)))]) rfl ?_
    refine own_s_iloadN Xrga1.here hx (hb hby own_d10_8) (pc' := 9) rfl rfl ?_
    refine own_s_bipush Xrga1.here hx (hb hby own_d10_9) (pc' := 11) rfl (v := (7 : Int32)) (by decide) ?_
    refine own_s_icmpNo Xrga1.here hx (hb hby own_d10_11) (pc' := 14) rfl rga_hb11 ?_
    refine own_s_iconst Xrga1.here hx (hb hby own_d10_14) (pc' := 15) rfl (v := (0 : Int32)) (by decide) ?_
    refine own_s_goto Xrga1.here hx (hb hby own_d10_15) (by decide) (pc' := 24) (by decide) ?_
    exact own_retI Xrga1 hx Bd.returns (hb hby own_d10_24) hr
  · show own_QP (some (.int (0 : Int32))) h0 n0 _ Trga1.heap _
    rw [erga1]
    exact ⟨rfl, Nrga1, rfl⟩
theorem own_ef_rgb (m : MethodId) (x : Int64) : entryFrame m #[(.long x)] 3 = mkF m 0 #[.val (.long x), .second, .unset] [] := by first | (simp [entryFrame, mkF, argsToLocals, Value.category]; done) | rfl
set_option maxRecDepth 65536 in
set_option maxHeartbeats 40000000 in
theorem own_rm_rgb (l : Launch) (Z : State) (a0 : Array Value) (hw : ∀ d ∈ tables_1, d.before a0 Z = true) (ws : List Jvm.Cond) (x : Int64)  (h0 : Heap) (n0 : Nat) (Z0 : n0 ≤ h0.size)  (rgb_hb11 : if_icmp.holds .ge ((63 : Int32) - (Jvm.Free.BdW.nlz64 x)) (7 : Int32) = true) :
    MetFree l (⟨"millrace/DurationHistogram", "range", "(J)I"⟩ : MethodName) (head1 (Jvm.Cond.code (⟨"millrace/DurationHistogram", "range", "(J)I"⟩ : MethodName) prog_18_method_7_code 3 (some .int) :: ws) ({ frames := 2, cells := 0, slots := 0, locals := 45 } : Room)) (fun a U => a = #[(.long x)] ∧ Z.Warmed39 U.vm ∧ U.heap = h0) (fun _ _ _ _ _ => True) (fun _ U o U' => ∃ v L, o = .returned v ∧ own_QP (some (.int ((((63 : Int32) - (Jvm.Free.BdW.nlz64 x)) - (7 : Int32)) + (1 : Int32)))) h0 n0 v U'.heap L ∧ FrameEnd U o U' L ({ frames := 2, cells := 0, slots := 0, locals := 45 } : Room).cells ({ frames := 2, cells := 0, slots := 0, locals := 45 } : Room).slots) := by
  refine MetFree.of_bodySF (plainFor_of_name own_pn_millrace_DurationHistogram) hisR ?_
  intro p e s m args below meth c s₁ Bd hml0 hP hK
  obtain ⟨rfl, hZ, hh⟩ := hP
  have hx := Bd.exec
  have hby := Bd.bytes
  have hml : c.maxLocals = 3 := hml0
  have hown : s.vm.findClass "millrace/DurationHistogram" = some m.cls := findClass_of_methodNamed Bd.named
  have hnm := (name_of_methodNamed Bd.named Bd.method).1
  have X0 : Stand p l e ({ frames := 2, cells := 0, slots := 0, locals := 45 } : Room) s m #[(.long x)] below meth c s₁ [] 0 0 := Stand.of_body Bd
  have e0 : s₁.heap = h0 := by rw [← hh, Bd.state]; rfl
  have N0 := Fr.nil n0
  have pre0 : ∀ t, Steps p.tables e below (s₁.setTop (mkF m 0 #[.val (.long x), .second, .unset] [])) t → Steps p.tables e below (s₁.setTop (entryFrame m #[(.long x)] 3)) t := fun t k => castTop (own_ef_rgb m x) k
  obtain ⟨_, _, ⟨Trgb1, Lrgb1, krgb1, nrgb1⟩, -, Xrgb1, ⟨Lcrgb1, hQrgb1, lrgb1, yrgb1, zrgb1⟩, strgb1⟩ := Jvm.LawKit.callS X0 hx (y := (⟨"java/lang/Long", "numberOfLeadingZeros", "(J)I"⟩ : MethodName)) hown (mvT hZ (hw _ (List.mem_of_getElem? (i := 60) rfl))) (mvT hZ (hw _ (List.mem_of_getElem? (i := 61) rfl))) (mvT hZ (hw _ (List.mem_of_getElem? (i := 62) rfl))) (mvT hZ (hw _ (List.mem_of_getElem? (i := 63) rfl))) (by decide) (backOf (W := 1) (own_rm_nlz l Z a0 hw [] x h0 n0 Z0 ) hZ (hw _ (List.mem_of_getElem? (i := 63) rfl)) (hw _ (List.mem_of_getElem? (i := 62) rfl)) (by decide) (by decide)) (g := (mkF m 3 #[.val (.long x), .second, .unset] [(.long x), (.int (63 : Int32))])) rfl (by rw [hml]; rfl) (argsL := [(.long x)]) (rest := [(.int (63 : Int32))]) (lenOf own_pd_28J29I rfl) rfl (by show 2 * 0 + _ ≤ _; exact Nat.le_of_eq rfl) (hb hby own_d10_3) (fun _ _ => ⟨rfl, e0, (by decide : 0 + 0 ≤ _), (by decide : 0 + 0 ≤ _)⟩)
  dsimp only [Pt.U, Pt.locs, Pt.cells, Pt.slots] at Xrgb1 lrgb1 yrgb1 zrgb1 strgb1 hQrgb1
  rw [lrgb1, yrgb1, zrgb1] at Xrgb1
  obtain ⟨rfl, Nrgb1q, ergb1⟩ := hQrgb1
  have Nrgb1 := Fr.app N0 Nrgb1q
  obtain ⟨fs, hr, hrun, hended, hW, hsame⟩ := Xrgb1.leave (v := some (.int ((((63 : Int32) - (Jvm.Free.BdW.nlz64 x)) - (7 : Int32)) + (1 : Int32)))) (fun h => by rw [Bd.returns] at h; cases h)
  refine ⟨_, _, pre0 _ ?_, hrun, hended, _, _, rfl, ?_, ⟨_, rfl⟩, hW, hsame.mono (by decide) (by decide)⟩
  · refine own_s_bipush X0.here hx (hb hby own_d10_0) (pc' := 2) rfl (v := (63 : Int32)) (by decide) ?_
    refine own_s_lloadN X0.here hx (hb hby own_d10_2) (pc' := 3) rfl rfl ?_
    refine strgb1 _ ?_
    show Steps p.tables e below (Trgb1.setTop (mkF m 6 #[.val (.long x), .second, .unset] [(.int (Jvm.Free.BdW.nlz64 x)), (.int (63 : Int32))])) _
    refine own_s_isub Xrgb1.here hx (hb hby own_d10_6) (pc' := 7) rfl (v := ((63 : Int32) - (Jvm.Free.BdW.nlz64 x))) rfl ?_
    refine own_s_istoreN Xrgb1.here hx (hb hby own_d10_7) (pc' := 8) rfl (L' := #[.val (.long x), .second, .val (.int ((63 : Int32) - (Jvm.Free.BdW.nlz64 x)))]) rfl ?_
    refine own_s_iloadN Xrgb1.here hx (hb hby own_d10_8) (pc' := 9) rfl rfl ?_
    refine own_s_bipush Xrgb1.here hx (hb hby own_d10_9) (pc' := 11) rfl (v := (7 : Int32)) (by decide) ?_
    refine own_s_icmpYes Xrgb1.here hx (hb hby own_d10_11) (by decide) (pc' := 18) (by decide) rgb_hb11 ?_
    refine own_s_iloadN Xrgb1.here hx (hb hby own_d10_18) (pc' := 19) rfl rfl ?_
    refine own_s_bipush Xrgb1.here hx (hb hby own_d10_19) (pc' := 21) rfl (v := (7 : Int32)) (by decide) ?_
    refine own_s_isub Xrgb1.here hx (hb hby own_d10_21) (pc' := 22) rfl (v := (((63 : Int32) - (Jvm.Free.BdW.nlz64 x)) - (7 : Int32))) rfl ?_
    refine own_s_iconst Xrgb1.here hx (hb hby own_d10_22) (pc' := 23) rfl (v := (1 : Int32)) (by decide) ?_
    refine own_s_iadd Xrgb1.here hx (hb hby own_d10_23) (pc' := 24) rfl (v := ((((63 : Int32) - (Jvm.Free.BdW.nlz64 x)) - (7 : Int32)) + (1 : Int32))) rfl ?_
    exact own_retI Xrgb1 hx Bd.returns (hb hby own_d10_24) hr
  · show own_QP (some (.int ((((63 : Int32) - (Jvm.Free.BdW.nlz64 x)) - (7 : Int32)) + (1 : Int32)))) h0 n0 _ Trgb1.heap _
    rw [ergb1]
    exact ⟨rfl, Nrgb1, rfl⟩
set_option maxRecDepth 65536 in
set_option maxHeartbeats 40000000 in
theorem own_rm_rg (l : Launch) (Z : State) (a0 : Array Value) (hw : ∀ d ∈ tables_1, d.before a0 Z = true) (ws : List Jvm.Cond) (x : Int64)  (h0 : Heap) (n0 : Nat) (Z0 : n0 ≤ h0.size)   :
    MetFree l (⟨"millrace/DurationHistogram", "range", "(J)I"⟩ : MethodName) (head1 (Jvm.Cond.code (⟨"millrace/DurationHistogram", "range", "(J)I"⟩ : MethodName) prog_18_method_7_code 3 (some .int) :: ws) ({ frames := 2, cells := 0, slots := 0, locals := 45 } : Room)) (fun a U => a = #[(.long x)] ∧ Z.Warmed39 U.vm ∧ U.heap = h0) (fun _ _ _ _ _ => True) (fun _ U o U' => ∃ v L, o = .returned v ∧ own_QP (some (.int (own_rng x))) h0 n0 v U'.heap L ∧ FrameEnd U o U' L ({ frames := 2, cells := 0, slots := 0, locals := 45 } : Room).cells ({ frames := 2, cells := 0, slots := 0, locals := 45 } : Room).slots) := by
  unfold own_rng
  by_cases h : own_hb x < 7
  · rw [if_pos h]; exact own_rm_rga l Z a0 hw ws x h0 n0 Z0 (XT.ii_ge_f h)
  · rw [if_neg h]; exact own_rm_rgb l Z a0 hw ws x h0 n0 Z0 (XT.ii_ge_t h)
theorem own_d13_0 : decode prog_18_method_8_code 0 = .ok (.iload_n 2, 1) := by decide +kernel
theorem own_d13_1 : decode prog_18_method_8_code 1 = .ok (.ifCond .ne 6, 3) := by decide +kernel
theorem own_d13_4 : decode prog_18_method_8_code 4 = .ok (.lload_n 0, 1) := by decide +kernel
theorem own_d13_5 : decode prog_18_method_8_code 5 = .ok (.l2i, 1) := by decide +kernel
theorem own_d13_6 : decode prog_18_method_8_code 6 = .ok (.ireturn, 1) := by decide +kernel
theorem own_d13_7 : decode prog_18_method_8_code 7 = .ok (.lload_n 0, 1) := by decide +kernel
theorem own_d13_8 : decode prog_18_method_8_code 8 = .ok (.iload_n 2, 1) := by decide +kernel
theorem own_d13_9 : decode prog_18_method_8_code 9 = .ok (.iconst 1, 1) := by decide +kernel
theorem own_d13_10 : decode prog_18_method_8_code 10 = .ok (.isub, 1) := by decide +kernel
theorem own_d13_11 : decode prog_18_method_8_code 11 = .ok (.lushr, 1) := by decide +kernel
theorem own_d13_12 : decode prog_18_method_8_code 12 = .ok (.l2i, 1) := by decide +kernel
theorem own_d13_13 : decode prog_18_method_8_code 13 = .ok (.sipush 128, 3) := by decide +kernel
theorem own_d13_16 : decode prog_18_method_8_code 16 = .ok (.isub, 1) := by decide +kernel
theorem own_d13_17 : decode prog_18_method_8_code 17 = .ok (.ireturn, 1) := by decide +kernel
theorem own_ef_sba (m : MethodId) (x : Int64) (r : Int32) : entryFrame m #[(.long x), (.int r)] 3 = mkF m 0 #[.val (.long x), .second, .val (.int r)] [] := by first | (simp [entryFrame, mkF, argsToLocals, Value.category]; done) | rfl
set_option maxRecDepth 65536 in
set_option maxHeartbeats 40000000 in
theorem own_rm_sba (l : Launch) (Z : State) (a0 : Array Value) (hw : ∀ d ∈ tables_1, d.before a0 Z = true) (ws : List Jvm.Cond) (x : Int64) (r : Int32)  (h0 : Heap) (n0 : Nat) (Z0 : n0 ≤ h0.size)  (sba_hb1 : ifCond.holds .ne r = false) :
    MetFree l (⟨"millrace/DurationHistogram", "subBucket", "(JI)I"⟩ : MethodName) (head1 (Jvm.Cond.code (⟨"millrace/DurationHistogram", "subBucket", "(JI)I"⟩ : MethodName) prog_18_method_8_code 3 (some .int) :: ws) ({ frames := 0, cells := 0, slots := 0, locals := 0 } : Room)) (fun a U => a = #[(.long x), (.int r)] ∧ Z.Warmed39 U.vm ∧ U.heap = h0) (fun _ _ _ _ _ => True) (fun _ U o U' => ∃ v L, o = .returned v ∧ own_QP (some (.int (Int64.toInt32 x))) h0 n0 v U'.heap L ∧ FrameEnd U o U' L ({ frames := 0, cells := 0, slots := 0, locals := 0 } : Room).cells ({ frames := 0, cells := 0, slots := 0, locals := 0 } : Room).slots) := by
  refine MetFree.of_bodySF (plainFor_of_name own_pn_millrace_DurationHistogram) hisR ?_
  intro p e s m args below meth c s₁ Bd hml0 hP hK
  obtain ⟨rfl, hZ, hh⟩ := hP
  have hx := Bd.exec
  have hby := Bd.bytes
  have hml : c.maxLocals = 3 := hml0
  have hown : s.vm.findClass "millrace/DurationHistogram" = some m.cls := findClass_of_methodNamed Bd.named
  have hnm := (name_of_methodNamed Bd.named Bd.method).1
  have X0 : Stand p l e ({ frames := 0, cells := 0, slots := 0, locals := 0 } : Room) s m #[(.long x), (.int r)] below meth c s₁ [] 0 0 := Stand.of_body Bd
  have e0 : s₁.heap = h0 := by rw [← hh, Bd.state]; rfl
  have N0 := Fr.nil n0
  have pre0 : ∀ t, Steps p.tables e below (s₁.setTop (mkF m 0 #[.val (.long x), .second, .val (.int r)] [])) t → Steps p.tables e below (s₁.setTop (entryFrame m #[(.long x), (.int r)] 3)) t := fun t k => castTop (own_ef_sba m x r) k
  obtain ⟨fs, hr, hrun, hended, hW, hsame⟩ := X0.leave (v := some (.int (Int64.toInt32 x))) (fun h => by rw [Bd.returns] at h; cases h)
  refine ⟨_, _, pre0 _ ?_, hrun, hended, _, _, rfl, ?_, ⟨_, rfl⟩, hW, hsame.mono (by decide) (by decide)⟩
  · refine own_s_iloadN X0.here hx (hb hby own_d13_0) (pc' := 1) rfl rfl ?_
    refine own_s_ifNo X0.here hx (hb hby own_d13_1) (pc' := 4) rfl sba_hb1 ?_
    refine own_s_lloadN X0.here hx (hb hby own_d13_4) (pc' := 5) rfl rfl ?_
    refine own_s_l2i X0.here hx (hb hby own_d13_5) (pc' := 6) rfl (v := (Int64.toInt32 x)) rfl ?_
    exact own_retI X0 hx Bd.returns (hb hby own_d13_6) hr
  · show own_QP (some (.int (Int64.toInt32 x))) h0 n0 _ s₁.heap _
    rw [e0]
    exact ⟨rfl, N0, rfl⟩
theorem own_ef_sbb (m : MethodId) (x : Int64) (r : Int32) : entryFrame m #[(.long x), (.int r)] 3 = mkF m 0 #[.val (.long x), .second, .val (.int r)] [] := by first | (simp [entryFrame, mkF, argsToLocals, Value.category]; done) | rfl
set_option maxRecDepth 65536 in
set_option maxHeartbeats 40000000 in
theorem own_rm_sbb (l : Launch) (Z : State) (a0 : Array Value) (hw : ∀ d ∈ tables_1, d.before a0 Z = true) (ws : List Jvm.Cond) (x : Int64) (r : Int32)  (h0 : Heap) (n0 : Nat) (Z0 : n0 ≤ h0.size)  (sbb_hb1 : ifCond.holds .ne r = true) :
    MetFree l (⟨"millrace/DurationHistogram", "subBucket", "(JI)I"⟩ : MethodName) (head1 (Jvm.Cond.code (⟨"millrace/DurationHistogram", "subBucket", "(JI)I"⟩ : MethodName) prog_18_method_8_code 3 (some .int) :: ws) ({ frames := 0, cells := 0, slots := 0, locals := 0 } : Room)) (fun a U => a = #[(.long x), (.int r)] ∧ Z.Warmed39 U.vm ∧ U.heap = h0) (fun _ _ _ _ _ => True) (fun _ U o U' => ∃ v L, o = .returned v ∧ own_QP (some (.int ((Int64.toInt32 ((Int64.toUInt64 x >>> ((r - (1 : Int32)) &&& 63).toInt64.toUInt64).toInt64)) - (128 : Int32)))) h0 n0 v U'.heap L ∧ FrameEnd U o U' L ({ frames := 0, cells := 0, slots := 0, locals := 0 } : Room).cells ({ frames := 0, cells := 0, slots := 0, locals := 0 } : Room).slots) := by
  refine MetFree.of_bodySF (plainFor_of_name own_pn_millrace_DurationHistogram) hisR ?_
  intro p e s m args below meth c s₁ Bd hml0 hP hK
  obtain ⟨rfl, hZ, hh⟩ := hP
  have hx := Bd.exec
  have hby := Bd.bytes
  have hml : c.maxLocals = 3 := hml0
  have hown : s.vm.findClass "millrace/DurationHistogram" = some m.cls := findClass_of_methodNamed Bd.named
  have hnm := (name_of_methodNamed Bd.named Bd.method).1
  have X0 : Stand p l e ({ frames := 0, cells := 0, slots := 0, locals := 0 } : Room) s m #[(.long x), (.int r)] below meth c s₁ [] 0 0 := Stand.of_body Bd
  have e0 : s₁.heap = h0 := by rw [← hh, Bd.state]; rfl
  have N0 := Fr.nil n0
  have pre0 : ∀ t, Steps p.tables e below (s₁.setTop (mkF m 0 #[.val (.long x), .second, .val (.int r)] [])) t → Steps p.tables e below (s₁.setTop (entryFrame m #[(.long x), (.int r)] 3)) t := fun t k => castTop (own_ef_sbb m x r) k
  obtain ⟨fs, hr, hrun, hended, hW, hsame⟩ := X0.leave (v := some (.int ((Int64.toInt32 ((Int64.toUInt64 x >>> ((r - (1 : Int32)) &&& 63).toInt64.toUInt64).toInt64)) - (128 : Int32)))) (fun h => by rw [Bd.returns] at h; cases h)
  refine ⟨_, _, pre0 _ ?_, hrun, hended, _, _, rfl, ?_, ⟨_, rfl⟩, hW, hsame.mono (by decide) (by decide)⟩
  · refine own_s_iloadN X0.here hx (hb hby own_d13_0) (pc' := 1) rfl rfl ?_
    refine own_s_ifYes X0.here hx (hb hby own_d13_1) (by decide) (pc' := 7) (by decide) sbb_hb1 ?_
    refine own_s_lloadN X0.here hx (hb hby own_d13_7) (pc' := 8) rfl rfl ?_
    refine own_s_iloadN X0.here hx (hb hby own_d13_8) (pc' := 9) rfl rfl ?_
    refine own_s_iconst X0.here hx (hb hby own_d13_9) (pc' := 10) rfl (v := (1 : Int32)) (by decide) ?_
    refine own_s_isub X0.here hx (hb hby own_d13_10) (pc' := 11) rfl (v := (r - (1 : Int32))) rfl ?_
    refine own_s_lushr X0.here hx (hb hby own_d13_11) (pc' := 12) rfl (v := ((Int64.toUInt64 x >>> ((r - (1 : Int32)) &&& 63).toInt64.toUInt64).toInt64)) rfl ?_
    refine own_s_l2i X0.here hx (hb hby own_d13_12) (pc' := 13) rfl (v := (Int64.toInt32 ((Int64.toUInt64 x >>> ((r - (1 : Int32)) &&& 63).toInt64.toUInt64).toInt64))) rfl ?_
    refine own_s_sipush X0.here hx (hb hby own_d13_13) (pc' := 16) rfl (v := (128 : Int32)) (by decide) ?_
    refine own_s_isub X0.here hx (hb hby own_d13_16) (pc' := 17) rfl (v := ((Int64.toInt32 ((Int64.toUInt64 x >>> ((r - (1 : Int32)) &&& 63).toInt64.toUInt64).toInt64)) - (128 : Int32))) rfl ?_
    exact own_retI X0 hx Bd.returns (hb hby own_d13_17) hr
  · show own_QP (some (.int ((Int64.toInt32 ((Int64.toUInt64 x >>> ((r - (1 : Int32)) &&& 63).toInt64.toUInt64).toInt64)) - (128 : Int32)))) h0 n0 _ s₁.heap _
    rw [e0]
    exact ⟨rfl, N0, rfl⟩
set_option maxRecDepth 65536 in
set_option maxHeartbeats 40000000 in
theorem own_rm_sb (l : Launch) (Z : State) (a0 : Array Value) (hw : ∀ d ∈ tables_1, d.before a0 Z = true) (ws : List Jvm.Cond) (x : Int64) (r : Int32)  (h0 : Heap) (n0 : Nat) (Z0 : n0 ≤ h0.size)   :
    MetFree l (⟨"millrace/DurationHistogram", "subBucket", "(JI)I"⟩ : MethodName) (head1 (Jvm.Cond.code (⟨"millrace/DurationHistogram", "subBucket", "(JI)I"⟩ : MethodName) prog_18_method_8_code 3 (some .int) :: ws) ({ frames := 0, cells := 0, slots := 0, locals := 0 } : Room)) (fun a U => a = #[(.long x), (.int r)] ∧ Z.Warmed39 U.vm ∧ U.heap = h0) (fun _ _ _ _ _ => True) (fun _ U o U' => ∃ v L, o = .returned v ∧ own_QP (some (.int (own_sbk x r))) h0 n0 v U'.heap L ∧ FrameEnd U o U' L ({ frames := 0, cells := 0, slots := 0, locals := 0 } : Room).cells ({ frames := 0, cells := 0, slots := 0, locals := 0 } : Room).slots) := by
  unfold own_sbk
  by_cases h : r = 0
  · rw [if_pos h]; exact own_rm_sba l Z a0 hw ws x r h0 n0 Z0 (XT.i0_ne_f h)
  · rw [if_neg h]; exact own_rm_sbb l Z a0 hw ws x r h0 n0 Z0 (XT.i0_ne_t h)
theorem own_d16_0 : decode prog_18_method_9_code 0 = .ok (.iload_n 0, 1) := by decide +kernel
theorem own_d16_1 : decode prog_18_method_9_code 1 = .ok (.ifCond .ne 6, 3) := by decide +kernel
theorem own_d16_4 : decode prog_18_method_9_code 4 = .ok (.iload_n 1, 1) := by decide +kernel
theorem own_d16_5 : decode prog_18_method_9_code 5 = .ok (.i2l, 1) := by decide +kernel
theorem own_d16_6 : decode prog_18_method_9_code 6 = .ok (.lreturn, 1) := by decide +kernel
theorem own_d16_7 : decode prog_18_method_9_code 7 = .ok (.iload_n 0, 1) := by decide +kernel
theorem own_d16_8 : decode prog_18_method_9_code 8 = .ok (.iconst 1, 1) := by decide +kernel
theorem own_d16_9 : decode prog_18_method_9_code 9 = .ok (.isub, 1) := by decide +kernel
theorem own_d16_10 : decode prog_18_method_9_code 10 = .ok (.istore_n 2, 1) := by decide +kernel
theorem own_d16_11 : decode prog_18_method_9_code 11 = .ok (.sipush 128, 3) := by decide +kernel
theorem own_d16_14 : decode prog_18_method_9_code 14 = .ok (.iload_n 1, 1) := by decide +kernel
theorem own_d16_15 : decode prog_18_method_9_code 15 = .ok (.iadd, 1) := by decide +kernel
theorem own_d16_16 : decode prog_18_method_9_code 16 = .ok (.i2l, 1) := by decide +kernel
theorem own_d16_17 : decode prog_18_method_9_code 17 = .ok (.iload_n 2, 1) := by decide +kernel
theorem own_d16_18 : decode prog_18_method_9_code 18 = .ok (.lshl, 1) := by decide +kernel
theorem own_d16_19 : decode prog_18_method_9_code 19 = .ok (.lstore_n 3, 1) := by decide +kernel
theorem own_d16_20 : decode prog_18_method_9_code 20 = .ok (.lload_n 3, 1) := by decide +kernel
theorem own_d16_21 : decode prog_18_method_9_code 21 = .ok (.lconst 1, 1) := by decide +kernel
theorem own_d16_22 : decode prog_18_method_9_code 22 = .ok (.iload_n 2, 1) := by decide +kernel
theorem own_d16_23 : decode prog_18_method_9_code 23 = .ok (.lshl, 1) := by decide +kernel
theorem own_d16_24 : decode prog_18_method_9_code 24 = .ok (.iconst 1, 1) := by decide +kernel
theorem own_d16_25 : decode prog_18_method_9_code 25 = .ok (.lushr, 1) := by decide +kernel
theorem own_d16_26 : decode prog_18_method_9_code 26 = .ok (.ladd, 1) := by decide +kernel
theorem own_d16_27 : decode prog_18_method_9_code 27 = .ok (.lreturn, 1) := by decide +kernel
theorem own_ef_mda (m : MethodId) (r : Int32) (u : Int32) : entryFrame m #[(.int r), (.int u)] 5 = mkF m 0 #[.val (.int r), .val (.int u), .unset, .unset, .unset] [] := by first | (simp [entryFrame, mkF, argsToLocals, Value.category]; done) | rfl
set_option maxRecDepth 65536 in
set_option maxHeartbeats 40000000 in
theorem own_rm_mda (l : Launch) (Z : State) (a0 : Array Value) (hw : ∀ d ∈ tables_1, d.before a0 Z = true) (ws : List Jvm.Cond) (r : Int32) (u : Int32)  (h0 : Heap) (n0 : Nat) (Z0 : n0 ≤ h0.size)  (mda_hb1 : ifCond.holds .ne r = false) :
    MetFree l (⟨"millrace/DurationHistogram", "middle", "(II)J"⟩ : MethodName) (head1 (Jvm.Cond.code (⟨"millrace/DurationHistogram", "middle", "(II)J"⟩ : MethodName) prog_18_method_9_code 5 (some .long) :: ws) ({ frames := 0, cells := 0, slots := 0, locals := 0 } : Room)) (fun a U => a = #[(.int r), (.int u)] ∧ Z.Warmed39 U.vm ∧ U.heap = h0) (fun _ _ _ _ _ => True) (fun _ U o U' => ∃ v L, o = .returned v ∧ own_QP (some (.long (Int32.toInt64 u))) h0 n0 v U'.heap L ∧ FrameEnd U o U' L ({ frames := 0, cells := 0, slots := 0, locals := 0 } : Room).cells ({ frames := 0, cells := 0, slots := 0, locals := 0 } : Room).slots) := by
  refine MetFree.of_bodySF (plainFor_of_name own_pn_millrace_DurationHistogram) hisR ?_
  intro p e s m args below meth c s₁ Bd hml0 hP hK
  obtain ⟨rfl, hZ, hh⟩ := hP
  have hx := Bd.exec
  have hby := Bd.bytes
  have hml : c.maxLocals = 5 := hml0
  have hown : s.vm.findClass "millrace/DurationHistogram" = some m.cls := findClass_of_methodNamed Bd.named
  have hnm := (name_of_methodNamed Bd.named Bd.method).1
  have X0 : Stand p l e ({ frames := 0, cells := 0, slots := 0, locals := 0 } : Room) s m #[(.int r), (.int u)] below meth c s₁ [] 0 0 := Stand.of_body Bd
  have e0 : s₁.heap = h0 := by rw [← hh, Bd.state]; rfl
  have N0 := Fr.nil n0
  have pre0 : ∀ t, Steps p.tables e below (s₁.setTop (mkF m 0 #[.val (.int r), .val (.int u), .unset, .unset, .unset] [])) t → Steps p.tables e below (s₁.setTop (entryFrame m #[(.int r), (.int u)] 5)) t := fun t k => castTop (own_ef_mda m r u) k
  obtain ⟨fs, hr, hrun, hended, hW, hsame⟩ := X0.leave (v := some (.long (Int32.toInt64 u))) (fun h => by rw [Bd.returns] at h; cases h)
  refine ⟨_, _, pre0 _ ?_, hrun, hended, _, _, rfl, ?_, ⟨_, rfl⟩, hW, hsame.mono (by decide) (by decide)⟩
  · refine own_s_iloadN X0.here hx (hb hby own_d16_0) (pc' := 1) rfl rfl ?_
    refine own_s_ifNo X0.here hx (hb hby own_d16_1) (pc' := 4) rfl mda_hb1 ?_
    refine own_s_iloadN X0.here hx (hb hby own_d16_4) (pc' := 5) rfl rfl ?_
    refine own_s_i2l X0.here hx (hb hby own_d16_5) (pc' := 6) rfl (v := (Int32.toInt64 u)) rfl ?_
    exact own_retJ X0 hx Bd.returns (hb hby own_d16_6) hr
  · show own_QP (some (.long (Int32.toInt64 u))) h0 n0 _ s₁.heap _
    rw [e0]
    exact ⟨rfl, N0, rfl⟩
theorem own_ef_mdb (m : MethodId) (r : Int32) (u : Int32) : entryFrame m #[(.int r), (.int u)] 5 = mkF m 0 #[.val (.int r), .val (.int u), .unset, .unset, .unset] [] := by first | (simp [entryFrame, mkF, argsToLocals, Value.category]; done) | rfl
set_option maxRecDepth 65536 in
set_option maxHeartbeats 40000000 in
theorem own_rm_mdb (l : Launch) (Z : State) (a0 : Array Value) (hw : ∀ d ∈ tables_1, d.before a0 Z = true) (ws : List Jvm.Cond) (r : Int32) (u : Int32)  (h0 : Heap) (n0 : Nat) (Z0 : n0 ≤ h0.size)  (mdb_hb1 : ifCond.holds .ne r = true) :
    MetFree l (⟨"millrace/DurationHistogram", "middle", "(II)J"⟩ : MethodName) (head1 (Jvm.Cond.code (⟨"millrace/DurationHistogram", "middle", "(II)J"⟩ : MethodName) prog_18_method_9_code 5 (some .long) :: ws) ({ frames := 0, cells := 0, slots := 0, locals := 0 } : Room)) (fun a U => a = #[(.int r), (.int u)] ∧ Z.Warmed39 U.vm ∧ U.heap = h0) (fun _ _ _ _ _ => True) (fun _ U o U' => ∃ v L, o = .returned v ∧ own_QP (some (.long (((Int32.toInt64 ((128 : Int32) + u)) <<< ((r - (1 : Int32)) &&& 63).toInt64) + ((Int64.toUInt64 ((1 : Int64) <<< ((r - (1 : Int32)) &&& 63).toInt64) >>> ((1 : Int32) &&& 63).toInt64.toUInt64).toInt64)))) h0 n0 v U'.heap L ∧ FrameEnd U o U' L ({ frames := 0, cells := 0, slots := 0, locals := 0 } : Room).cells ({ frames := 0, cells := 0, slots := 0, locals := 0 } : Room).slots) := by
  refine MetFree.of_bodySF (plainFor_of_name own_pn_millrace_DurationHistogram) hisR ?_
  intro p e s m args below meth c s₁ Bd hml0 hP hK
  obtain ⟨rfl, hZ, hh⟩ := hP
  have hx := Bd.exec
  have hby := Bd.bytes
  have hml : c.maxLocals = 5 := hml0
  have hown : s.vm.findClass "millrace/DurationHistogram" = some m.cls := findClass_of_methodNamed Bd.named
  have hnm := (name_of_methodNamed Bd.named Bd.method).1
  have X0 : Stand p l e ({ frames := 0, cells := 0, slots := 0, locals := 0 } : Room) s m #[(.int r), (.int u)] below meth c s₁ [] 0 0 := Stand.of_body Bd
  have e0 : s₁.heap = h0 := by rw [← hh, Bd.state]; rfl
  have N0 := Fr.nil n0
  have pre0 : ∀ t, Steps p.tables e below (s₁.setTop (mkF m 0 #[.val (.int r), .val (.int u), .unset, .unset, .unset] [])) t → Steps p.tables e below (s₁.setTop (entryFrame m #[(.int r), (.int u)] 5)) t := fun t k => castTop (own_ef_mdb m r u) k
  obtain ⟨fs, hr, hrun, hended, hW, hsame⟩ := X0.leave (v := some (.long (((Int32.toInt64 ((128 : Int32) + u)) <<< ((r - (1 : Int32)) &&& 63).toInt64) + ((Int64.toUInt64 ((1 : Int64) <<< ((r - (1 : Int32)) &&& 63).toInt64) >>> ((1 : Int32) &&& 63).toInt64.toUInt64).toInt64)))) (fun h => by rw [Bd.returns] at h; cases h)
  refine ⟨_, _, pre0 _ ?_, hrun, hended, _, _, rfl, ?_, ⟨_, rfl⟩, hW, hsame.mono (by decide) (by decide)⟩
  · refine own_s_iloadN X0.here hx (hb hby own_d16_0) (pc' := 1) rfl rfl ?_
    refine own_s_ifYes X0.here hx (hb hby own_d16_1) (by decide) (pc' := 7) (by decide) mdb_hb1 ?_
    refine own_s_iloadN X0.here hx (hb hby own_d16_7) (pc' := 8) rfl rfl ?_
    refine own_s_iconst X0.here hx (hb hby own_d16_8) (pc' := 9) rfl (v := (1 : Int32)) (by decide) ?_
    refine own_s_isub X0.here hx (hb hby own_d16_9) (pc' := 10) rfl (v := (r - (1 : Int32))) rfl ?_
    refine own_s_istoreN X0.here hx (hb hby own_d16_10) (pc' := 11) rfl (L' := #[.val (.int r), .val (.int u), .val (.int (r - (1 : Int32))), .unset, .unset]) rfl ?_
    refine own_s_sipush X0.here hx (hb hby own_d16_11) (pc' := 14) rfl (v := (128 : Int32)) (by decide) ?_
    refine own_s_iloadN X0.here hx (hb hby own_d16_14) (pc' := 15) rfl rfl ?_
    refine own_s_iadd X0.here hx (hb hby own_d16_15) (pc' := 16) rfl (v := ((128 : Int32) + u)) rfl ?_
    refine own_s_i2l X0.here hx (hb hby own_d16_16) (pc' := 17) rfl (v := (Int32.toInt64 ((128 : Int32) + u))) rfl ?_
    refine own_s_iloadN X0.here hx (hb hby own_d16_17) (pc' := 18) rfl rfl ?_
    refine own_s_lshl X0.here hx (hb hby own_d16_18) (pc' := 19) rfl (v := ((Int32.toInt64 ((128 : Int32) + u)) <<< ((r - (1 : Int32)) &&& 63).toInt64)) rfl ?_
    refine own_s_lstoreN X0.here hx (hb hby own_d16_19) (pc' := 20) rfl (L' := #[.val (.int r), .val (.int u), .val (.int (r - (1 : Int32))), .val (.long ((Int32.toInt64 ((128 : Int32) + u)) <<< ((r - (1 : Int32)) &&& 63).toInt64)), .second]) rfl ?_
    refine own_s_lloadN X0.here hx (hb hby own_d16_20) (pc' := 21) rfl rfl ?_
    refine own_s_lconst X0.here hx (hb hby own_d16_21) (pc' := 22) rfl (v := (1 : Int64)) (by decide) ?_
    refine own_s_iloadN X0.here hx (hb hby own_d16_22) (pc' := 23) rfl rfl ?_
    refine own_s_lshl X0.here hx (hb hby own_d16_23) (pc' := 24) rfl (v := ((1 : Int64) <<< ((r - (1 : Int32)) &&& 63).toInt64)) rfl ?_
    refine own_s_iconst X0.here hx (hb hby own_d16_24) (pc' := 25) rfl (v := (1 : Int32)) (by decide) ?_
    refine own_s_lushr X0.here hx (hb hby own_d16_25) (pc' := 26) rfl (v := ((Int64.toUInt64 ((1 : Int64) <<< ((r - (1 : Int32)) &&& 63).toInt64) >>> ((1 : Int32) &&& 63).toInt64.toUInt64).toInt64)) rfl ?_
    refine own_s_ladd X0.here hx (hb hby own_d16_26) (pc' := 27) rfl (v := (((Int32.toInt64 ((128 : Int32) + u)) <<< ((r - (1 : Int32)) &&& 63).toInt64) + ((Int64.toUInt64 ((1 : Int64) <<< ((r - (1 : Int32)) &&& 63).toInt64) >>> ((1 : Int32) &&& 63).toInt64.toUInt64).toInt64))) rfl ?_
    exact own_retJ X0 hx Bd.returns (hb hby own_d16_27) hr
  · show own_QP (some (.long (((Int32.toInt64 ((128 : Int32) + u)) <<< ((r - (1 : Int32)) &&& 63).toInt64) + ((Int64.toUInt64 ((1 : Int64) <<< ((r - (1 : Int32)) &&& 63).toInt64) >>> ((1 : Int32) &&& 63).toInt64.toUInt64).toInt64)))) h0 n0 _ s₁.heap _
    rw [e0]
    exact ⟨rfl, N0, rfl⟩
def own_mid (r u : Int32) : Int64 := if r = 0 then (Int32.toInt64 u) else (((Int32.toInt64 ((128 : Int32) + u)) <<< ((r - (1 : Int32)) &&& 63).toInt64) + ((Int64.toUInt64 ((1 : Int64) <<< ((r - (1 : Int32)) &&& 63).toInt64) >>> ((1 : Int32) &&& 63).toInt64.toUInt64).toInt64))
set_option maxRecDepth 65536 in
set_option maxHeartbeats 40000000 in
theorem own_rm_md (l : Launch) (Z : State) (a0 : Array Value) (hw : ∀ d ∈ tables_1, d.before a0 Z = true) (ws : List Jvm.Cond) (r : Int32) (u : Int32)  (h0 : Heap) (n0 : Nat) (Z0 : n0 ≤ h0.size)   :
    MetFree l (⟨"millrace/DurationHistogram", "middle", "(II)J"⟩ : MethodName) (head1 (Jvm.Cond.code (⟨"millrace/DurationHistogram", "middle", "(II)J"⟩ : MethodName) prog_18_method_9_code 5 (some .long) :: ws) ({ frames := 0, cells := 0, slots := 0, locals := 0 } : Room)) (fun a U => a = #[(.int r), (.int u)] ∧ Z.Warmed39 U.vm ∧ U.heap = h0) (fun _ _ _ _ _ => True) (fun _ U o U' => ∃ v L, o = .returned v ∧ own_QP (some (.long (own_mid r u))) h0 n0 v U'.heap L ∧ FrameEnd U o U' L ({ frames := 0, cells := 0, slots := 0, locals := 0 } : Room).cells ({ frames := 0, cells := 0, slots := 0, locals := 0 } : Room).slots) := by
  unfold own_mid
  by_cases h : r = 0
  · rw [if_pos h]; exact own_rm_mda l Z a0 hw ws r u h0 n0 Z0 (XT.i0_ne_f h)
  · rw [if_neg h]; exact own_rm_mdb l Z a0 hw ws r u h0 n0 Z0 (XT.i0_ne_t h)
theorem own_d8_0 : decode prog_18_method_4_code 0 = .ok (.lconst 0, 1) := by decide +kernel
theorem own_d8_1 : decode prog_18_method_4_code 1 = .ok (.lload_n 1, 1) := by decide +kernel
theorem own_pd_28JJ29J : parseMethodDescriptor "(JJ)J" = some ⟨[.long, .long], some .long⟩ := by decide +kernel
theorem own_d8_2 : decode prog_18_method_4_code 2 = .ok (.invokestatic 21, 3) := by decide +kernel
theorem own_d8_5 : decode prog_18_method_4_code 5 = .ok (.lstore_n 3, 1) := by decide +kernel
theorem own_d8_6 : decode prog_18_method_4_code 6 = .ok (.lload_n 3, 1) := by decide +kernel
theorem own_d8_7 : decode prog_18_method_4_code 7 = .ok (.invokestatic 27, 3) := by decide +kernel
theorem own_d8_10 : decode prog_18_method_4_code 10 = .ok (.istore 5, 2) := by decide +kernel
theorem own_d8_12 : decode prog_18_method_4_code 12 = .ok (.aload_n 0, 1) := by decide +kernel
theorem own_d8_13 : decode prog_18_method_4_code 13 = .ok (.getfield 13, 3) := by decide +kernel
theorem own_d8_16 : decode prog_18_method_4_code 16 = .ok (.iload 5, 2) := by decide +kernel
theorem own_d8_18 : decode prog_18_method_4_code 18 = .ok (.aaload, 1) := by decide +kernel
theorem own_d8_19 : decode prog_18_method_4_code 19 = .ok (.astore 6, 2) := by decide +kernel
theorem own_d8_21 : decode prog_18_method_4_code 21 = .ok (.aload 6, 2) := by decide +kernel
theorem own_d8_23 : decode prog_18_method_4_code 23 = .ok (.ifnonnull 19, 3) := by decide +kernel
theorem own_d8_26 : decode prog_18_method_4_code 26 = .ok (.sipush 128, 3) := by decide +kernel
theorem own_d8_29 : decode prog_18_method_4_code 29 = .ok (.newarray .long, 2) := by decide +kernel
theorem own_d8_31 : decode prog_18_method_4_code 31 = .ok (.astore 6, 2) := by decide +kernel
theorem own_d8_33 : decode prog_18_method_4_code 33 = .ok (.aload_n 0, 1) := by decide +kernel
theorem own_d8_34 : decode prog_18_method_4_code 34 = .ok (.getfield 13, 3) := by decide +kernel
theorem own_d8_37 : decode prog_18_method_4_code 37 = .ok (.iload 5, 2) := by decide +kernel
theorem own_d8_39 : decode prog_18_method_4_code 39 = .ok (.aload 6, 2) := by decide +kernel
theorem own_d8_41 : decode prog_18_method_4_code 41 = .ok (.aastore, 1) := by decide +kernel
theorem own_d8_42 : decode prog_18_method_4_code 42 = .ok (.aload 6, 2) := by decide +kernel
theorem own_d8_44 : decode prog_18_method_4_code 44 = .ok (.lload_n 3, 1) := by decide +kernel
theorem own_d8_45 : decode prog_18_method_4_code 45 = .ok (.iload 5, 2) := by decide +kernel
theorem own_pd_28JI29I : parseMethodDescriptor "(JI)I" = some ⟨[.long, .int], some .int⟩ := by decide +kernel
theorem own_d8_47 : decode prog_18_method_4_code 47 = .ok (.invokestatic 31, 3) := by decide +kernel
theorem own_d8_50 : decode prog_18_method_4_code 50 = .ok (.dup2, 1) := by decide +kernel
theorem own_d8_51 : decode prog_18_method_4_code 51 = .ok (.laload, 1) := by decide +kernel
theorem own_d8_52 : decode prog_18_method_4_code 52 = .ok (.lconst 1, 1) := by decide +kernel
theorem own_d8_53 : decode prog_18_method_4_code 53 = .ok (.ladd, 1) := by decide +kernel
theorem own_d8_54 : decode prog_18_method_4_code 54 = .ok (.lastore, 1) := by decide +kernel
theorem own_d8_55 : decode prog_18_method_4_code 55 = .ok (.aload_n 0, 1) := by decide +kernel
theorem own_d8_56 : decode prog_18_method_4_code 56 = .ok (.dup, 1) := by decide +kernel
theorem own_d8_57 : decode prog_18_method_4_code 57 = .ok (.getfield 35, 3) := by decide +kernel
theorem own_d8_60 : decode prog_18_method_4_code 60 = .ok (.lconst 1, 1) := by decide +kernel
theorem own_d8_61 : decode prog_18_method_4_code 61 = .ok (.ladd, 1) := by decide +kernel
theorem own_d8_62 : decode prog_18_method_4_code 62 = .ok (.putfield 35, 3) := by decide +kernel
theorem own_d8_65 : decode prog_18_method_4_code 65 = .ok (.aload_n 0, 1) := by decide +kernel
theorem own_d8_66 : decode prog_18_method_4_code 66 = .ok (.dup, 1) := by decide +kernel
theorem own_d8_67 : decode prog_18_method_4_code 67 = .ok (.getfield 39, 3) := by decide +kernel
theorem own_d8_70 : decode prog_18_method_4_code 70 = .ok (.lload_n 3, 1) := by decide +kernel
theorem own_d8_71 : decode prog_18_method_4_code 71 = .ok (.l2d, 1) := by decide +kernel
theorem own_d8_72 : decode prog_18_method_4_code 72 = .ok (.dadd, 1) := by decide +kernel
theorem own_d8_73 : decode prog_18_method_4_code 73 = .ok (.putfield 39, 3) := by decide +kernel
theorem own_d8_76 : decode prog_18_method_4_code 76 = .ok (.aload_n 0, 1) := by decide +kernel
theorem own_d8_77 : decode prog_18_method_4_code 77 = .ok (.aload_n 0, 1) := by decide +kernel
theorem own_d8_78 : decode prog_18_method_4_code 78 = .ok (.getfield 43, 3) := by decide +kernel
theorem own_d8_81 : decode prog_18_method_4_code 81 = .ok (.lload_n 3, 1) := by decide +kernel
theorem own_d8_82 : decode prog_18_method_4_code 82 = .ok (.invokestatic 21, 3) := by decide +kernel
theorem own_d8_85 : decode prog_18_method_4_code 85 = .ok (.putfield 43, 3) := by decide +kernel
theorem own_d8_88 : decode prog_18_method_4_code 88 = .ok (.return_, 1) := by decide +kernel
theorem own_ef_addn (m : MethodId) (w : Addr) (na : Int64) : entryFrame m #[(.ref w), (.long na)] 7 = mkF m 0 #[.val (.ref w), .val (.long na), .second, .unset, .unset, .unset, .unset] [] := by first | (simp [entryFrame, mkF, argsToLocals, Value.category]; done) | rfl
def own_Q_addn (Z : State) (w : Addr) (rg : Addr) (cnt : Int64) (sm : UInt64) (mx : Int64) (na : Int64) (rvs : List Value) (rgk : ClassId) (addn_v51 : Int64) (addn_v72 : UInt64) (h0 : Heap) (n0 : Nat) (v : Option Value) (h : Heap) (L : List Loc) : Prop := ∃ (baddn4 : Addr) (kaddn4 : ClassId), v = none ∧ Fr n0 L ∧ Keep h0 h [rg, w] ∧ Arv Z h rg rgk (.array .long) (57 : Int32) (rvs.set (Int32.toNatClampNeg (own_rng (own_lmax (0 : Int64) na))) (.ref baddn4)) (.null) ∧ Exa Z h w "millrace/DurationHistogram" ∧ Fld Z h w "millrace/DurationHistogram" "ranges" "[[J" (.ref rg) ∧ Fld Z h w "millrace/DurationHistogram" "count" "J" (.long (cnt + (1 : Int64))) ∧ Fld Z h w "millrace/DurationHistogram" "sum" "D" (.double addn_v72) ∧ Fld Z h w "millrace/DurationHistogram" "max" "J" (.long (own_lmax mx (own_lmax (0 : Int64) na))) ∧ h0.size ≤ baddn4 ∧ Arv Z h baddn4 kaddn4 .long (128 : Int32) ((List.replicate 128 (Value.long 0)).set (Int32.toNatClampNeg (own_sbk (own_lmax (0 : Int64) na) (own_rng (own_lmax (0 : Int64) na)))) (.long (addn_v51 + (1 : Int64)))) (.long 0)
set_option maxRecDepth 65536 in
set_option maxHeartbeats 40000000 in
theorem own_rm_addn (l : Launch) (Z : State) (a0 : Array Value) (hw : ∀ d ∈ tables_1, d.before a0 Z = true) (ws : List Jvm.Cond) (w : Addr) (rg : Addr) (cnt : Int64) (sm : UInt64) (mx : Int64) (na : Int64) (rvs : List Value) {rgk : ClassId} {addn_v51 : Int64} {addn_v72 : UInt64} (h0 : Heap) (n0 : Nat) (Z0 : n0 ≤ h0.size) (E_w : Exa Z h0 w "millrace/DurationHistogram") (F_ranges_w : Fld Z h0 w "millrace/DurationHistogram" "ranges" "[[J" (.ref rg)) (F_count_w : Fld Z h0 w "millrace/DurationHistogram" "count" "J" (.long cnt)) (F_sum_w : Fld Z h0 w "millrace/DurationHistogram" "sum" "D" (.double sm)) (F_max_w : Fld Z h0 w "millrace/DurationHistogram" "max" "J" (.long mx)) (V_rg : Arv Z h0 rg rgk (.array .long) (57 : Int32) rvs (.null)) (O_rg : OvrA Z rgk .long "[J") (ne_w_rg : w ≠ rg) (g_rg : n0 ≤ rg) (g_w : n0 ≤ w) (addn_hin18 : ¬ (own_rng (own_lmax (0 : Int64) na)) < 0 ∧ (own_rng (own_lmax (0 : Int64) na)) < (57 : Int32)) (addn_hel18 : rvs.getD (Int32.toNatClampNeg (own_rng (own_lmax (0 : Int64) na))) (.null) = .null) (addn_hin41 : ¬ (own_rng (own_lmax (0 : Int64) na)) < 0 ∧ (own_rng (own_lmax (0 : Int64) na)) < (57 : Int32)) (addn_hle41 : Int32.toNatClampNeg (own_rng (own_lmax (0 : Int64) na)) < rvs.length) (addn_hin51 : ¬ (own_sbk (own_lmax (0 : Int64) na) (own_rng (own_lmax (0 : Int64) na))) < 0 ∧ (own_sbk (own_lmax (0 : Int64) na) (own_rng (own_lmax (0 : Int64) na))) < (128 : Int32)) (addn_hel51 : (List.replicate 128 (Value.long 0)).getD (Int32.toNatClampNeg (own_sbk (own_lmax (0 : Int64) na) (own_rng (own_lmax (0 : Int64) na)))) (.long 0) = (.long addn_v51)) (addn_hin54 : ¬ (own_sbk (own_lmax (0 : Int64) na) (own_rng (own_lmax (0 : Int64) na))) < 0 ∧ (own_sbk (own_lmax (0 : Int64) na) (own_rng (own_lmax (0 : Int64) na))) < (128 : Int32)) (addn_hle54 : Int32.toNatClampNeg (own_sbk (own_lmax (0 : Int64) na) (own_rng (own_lmax (0 : Int64) na))) < (List.replicate 128 (Value.long 0)).length) (addn_hn72 : Jvm.Free.Fl.NoNaN64 (FP.dadd sm (FP.l2d (own_lmax (0 : Int64) na)))) (addn_hv72 : FP.dadd sm (FP.l2d (own_lmax (0 : Int64) na)) = addn_v72) :
    MetFree l (⟨"millrace/DurationHistogram", "add", "(J)V"⟩ : MethodName) (head1 (Jvm.Cond.code (⟨"millrace/DurationHistogram", "add", "(J)V"⟩ : MethodName) prog_18_method_4_code 7 none :: ws) ({ frames := 3, cells := 1, slots := 128, locals := 59 } : Room)) (fun a U => a = #[(.ref w), (.long na)] ∧ Z.Warmed39 U.vm ∧ U.heap = h0) (fun _ _ _ _ _ => True) (fun _ U o U' => ∃ v L, o = .returned v ∧ own_Q_addn Z w rg cnt sm mx na rvs rgk addn_v51 addn_v72 h0 n0 v U'.heap L ∧ FrameEnd U o U' L ({ frames := 3, cells := 1, slots := 128, locals := 59 } : Room).cells ({ frames := 3, cells := 1, slots := 128, locals := 59 } : Room).slots) := by
  refine MetFree.of_bodySF (plainFor_of_name own_pn_millrace_DurationHistogram) hisR ?_
  intro p e s m args below meth c s₁ Bd hml0 hP hK
  obtain ⟨rfl, hZ, hh⟩ := hP
  have hx := Bd.exec
  have hby := Bd.bytes
  have hml : c.maxLocals = 7 := hml0
  have hown : s.vm.findClass "millrace/DurationHistogram" = some m.cls := findClass_of_methodNamed Bd.named
  have hnm := (name_of_methodNamed Bd.named Bd.method).1
  have X0 : Stand p l e ({ frames := 3, cells := 1, slots := 128, locals := 59 } : Room) s m #[(.ref w), (.long na)] below meth c s₁ [] 0 0 := Stand.of_body Bd
  have e0 : s₁.heap = h0 := by rw [← hh, Bd.state]; rfl
  have N0 := Fr.nil n0
  have pre0 : ∀ t, Steps p.tables e below (s₁.setTop (mkF m 0 #[.val (.ref w), .val (.long na), .second, .unset, .unset, .unset, .unset] [])) t → Steps p.tables e below (s₁.setTop (entryFrame m #[(.ref w), (.long na)] 7)) t := fun t k => castTop (own_ef_addn m w na) k
  have ne_rg_w : rg ≠ w := Ne.symm ne_w_rg
  obtain ⟨_, _, ⟨Taddn1, Laddn1, kaddn1, naddn1⟩, -, Xaddn1, ⟨Lcaddn1, hQaddn1, laddn1, yaddn1, zaddn1⟩, staddn1⟩ := Jvm.LawKit.callS X0 hx (y := (⟨"java/lang/Math", "max", "(JJ)J"⟩ : MethodName)) hown (mvT hZ (hw _ (List.mem_of_getElem? (i := 53) rfl))) (mvT hZ (hw _ (List.mem_of_getElem? (i := 54) rfl))) (mvT hZ (hw _ (List.mem_of_getElem? (i := 55) rfl))) (mvT hZ (hw _ (List.mem_of_getElem? (i := 56) rfl))) (by decide) (backOf (W := 0) (own_rm_mmax l Z a0 hw [] (0 : Int64) na h0 n0 Z0 ) hZ (hw _ (List.mem_of_getElem? (i := 56) rfl)) (hw _ (List.mem_of_getElem? (i := 55) rfl)) (by decide) (by decide)) (g := (mkF m 2 #[.val (.ref w), .val (.long na), .second, .unset, .unset, .unset, .unset] [(.long na), (.long (0 : Int64))])) rfl (by rw [hml]; rfl) (argsL := [(.long (0 : Int64)), (.long na)]) (rest := []) (lenOf own_pd_28JJ29J rfl) rfl (by show 2 * 0 + _ ≤ _; exact Nat.le_of_eq rfl) (hb hby own_d8_2) (fun _ _ => ⟨rfl, e0, (by decide : 0 + 0 ≤ _), (by decide : 0 + 0 ≤ _)⟩)
  dsimp only [Pt.U, Pt.locs, Pt.cells, Pt.slots] at Xaddn1 laddn1 yaddn1 zaddn1 staddn1 hQaddn1
  rw [laddn1, yaddn1, zaddn1] at Xaddn1
  obtain ⟨rfl, Naddn1q, eaddn1⟩ := hQaddn1
  have Naddn1 := Fr.app N0 Naddn1q
  obtain ⟨_, _, ⟨Taddn2, Laddn2, kaddn2, naddn2⟩, -, Xaddn2, ⟨Lcaddn2, hQaddn2, laddn2, yaddn2, zaddn2⟩, staddn2⟩ := Jvm.LawKit.callS Xaddn1 hx (y := (⟨"millrace/DurationHistogram", "range", "(J)I"⟩ : MethodName)) hown (mvT hZ (hw _ (List.mem_of_getElem? (i := 57) rfl))) (mvT hZ (hw _ (List.mem_of_getElem? (i := 58) rfl))) (mvT hZ (hw _ (List.mem_of_getElem? (i := 30) rfl))) (mvT hZ (hw _ (List.mem_of_getElem? (i := 59) rfl))) (by decide) (backOf (W := 0) (own_rm_rg l Z a0 hw [] (own_lmax (0 : Int64) na) h0 n0 Z0 ) hZ (hw _ (List.mem_of_getElem? (i := 59) rfl)) (hw _ (List.mem_of_getElem? (i := 30) rfl)) (by decide) (by decide)) (g := (mkF m 7 #[.val (.ref w), .val (.long na), .second, .val (.long (own_lmax (0 : Int64) na)), .second, .unset, .unset] [(.long (own_lmax (0 : Int64) na))])) rfl (by rw [hml]; rfl) (argsL := [(.long (own_lmax (0 : Int64) na))]) (rest := []) (lenOf own_pd_28J29I rfl) rfl (by show 2 * 0 + _ ≤ _; exact Nat.le_of_eq rfl) (hb hby own_d8_7) (fun _ _ => ⟨rfl, eaddn1, (by decide : 0 + 0 ≤ _), (by decide : 0 + 0 ≤ _)⟩)
  dsimp only [Pt.U, Pt.locs, Pt.cells, Pt.slots] at Xaddn2 laddn2 yaddn2 zaddn2 staddn2 hQaddn2
  rw [laddn2, yaddn2, zaddn2] at Xaddn2
  obtain ⟨rfl, Naddn2q, eaddn2⟩ := hQaddn2
  have Naddn2 := Fr.app Naddn1 Naddn2q
  obtain ⟨Taddn3, Xaddn3, eaddn3, staddn3⟩ := getF Xaddn2 hx hZ hown (host := "") (Or.inl (hw _ (List.mem_of_getElem? (i := 37) rfl))) Via.refl eaddn2 F_ranges_w (g := (mkF m 13 #[.val (.ref w), .val (.long na), .second, .val (.long (own_lmax (0 : Int64) na)), .second, .val (.int (own_rng (own_lmax (0 : Int64) na))), .unset] [(.ref w)])) rfl rfl (hb hby own_d8_13)
  obtain ⟨Taddn4, haddn4, kaddn4, baddn4, Xaddn4, eaddn4, Eaddn4, Gaddn4, Vaddn4, EXaddn4, staddn4⟩ := own_newJE (L := #[.val (.ref w), .val (.long na), .second, .val (.long (own_lmax (0 : Int64) na)), .second, .val (.int (own_rng (own_lmax (0 : Int64) na))), .val .null]) (S := []) Xaddn3 hx hZ (hw _ (List.mem_of_getElem? (i := 9) rfl)) eaddn3 (z := (128 : Int32)) 128 (by decide) (by decide) (by decide) (by decide) (by decide) (hb hby own_d8_29) (pc' := 31) rfl
  have ne_rg_baddn4 : rg ≠ baddn4 := Nat.ne_of_lt (Nat.lt_of_lt_of_le V_rg.lt (Nat.le_of_eq Gaddn4.symm))
  have ne_baddn4_rg : baddn4 ≠ rg := Ne.symm ne_rg_baddn4
  have ne_w_baddn4 : w ≠ baddn4 := Nat.ne_of_lt (Nat.lt_of_lt_of_le E_w.lt (Nat.le_of_eq Gaddn4.symm))
  have ne_baddn4_w : baddn4 ≠ w := Ne.symm ne_w_baddn4
  have g_baddn4 : n0 ≤ baddn4 := Nat.le_trans Z0 (Nat.le_of_eq Gaddn4.symm)
  have sz_baddn4 : h0.size ≤ baddn4 := Nat.le_trans (Keep.refl h0 [rg, w]).1 (Nat.le_of_eq Gaddn4.symm)
  have V_rg_addn4 := V_rg.ext Eaddn4
  have E_w_addn4 := E_w.ext Eaddn4
  have F_ranges_w_addn4 := F_ranges_w.ext Eaddn4
  have F_count_w_addn4 := F_count_w.ext Eaddn4
  have F_sum_w_addn4 := F_sum_w.ext Eaddn4
  have F_max_w_addn4 := F_max_w.ext Eaddn4
  have Zaddn4 : n0 ≤ haddn4.size := Nat.le_trans Z0 Eaddn4.1
  have KKaddn4 := (Keep.refl h0 [rg, w]).ext Eaddn4
  have V_baddn4 : Arv Z haddn4 baddn4 kaddn4 .long (128 : Int32) (List.replicate 128 (Value.long 0)) (.long 0) := Vaddn4
  obtain ⟨Taddn5, Xaddn5, eaddn5, staddn5⟩ := getF Xaddn4 hx hZ hown (host := "") (Or.inl (hw _ (List.mem_of_getElem? (i := 37) rfl))) Via.refl eaddn4 F_ranges_w_addn4 (g := (mkF m 34 #[.val (.ref w), .val (.long na), .second, .val (.long (own_lmax (0 : Int64) na)), .second, .val (.int (own_rng (own_lmax (0 : Int64) na))), .val (.ref baddn4)] [(.ref w)])) rfl rfl (hb hby own_d8_34)
  obtain ⟨Taddn6, haddn6, Xaddn6, eaddn6, Waddn6, Vaddn6, staddn6⟩ := own_stR (L := #[.val (.ref w), .val (.long na), .second, .val (.long (own_lmax (0 : Int64) na)), .second, .val (.int (own_rng (own_lmax (0 : Int64) na))), .val (.ref baddn4)]) (S := []) Xaddn5 hx hZ eaddn5 V_rg_addn4 O_rg EXaddn4 (j := (own_rng (own_lmax (0 : Int64) na))) addn_hin41 (Int32.toNatClampNeg (own_rng (own_lmax (0 : Int64) na))) rfl addn_hle41 (hb hby own_d8_41) (pc' := 42) rfl
  have V_baddn4_addn6 := V_baddn4.other Waddn6 ne_baddn4_rg
  have E_w_addn6 := E_w_addn4.wr Waddn6
  have F_ranges_w_addn6 := F_ranges_w_addn4.other Waddn6 (Or.inl ne_w_rg)
  have F_count_w_addn6 := F_count_w_addn4.other Waddn6 (Or.inl ne_w_rg)
  have F_sum_w_addn6 := F_sum_w_addn4.other Waddn6 (Or.inl ne_w_rg)
  have F_max_w_addn6 := F_max_w_addn4.other Waddn6 (Or.inl ne_w_rg)
  have Zaddn6 : n0 ≤ haddn6.size := Nat.le_trans Zaddn4 (Nat.le_of_eq Waddn6.size.symm)
  have KKaddn6 := KKaddn4.wr Waddn6 (Or.inl (List.mem_of_getElem? (i := 0) rfl))
  have V_rg_addn6 : Arv Z haddn6 rg rgk (.array .long) (57 : Int32) (rvs.set (Int32.toNatClampNeg (own_rng (own_lmax (0 : Int64) na))) (.ref baddn4)) (.null) := Vaddn6
  have Naddn6 := Fr.snoc Xaddn6 Naddn2 g_rg
  obtain ⟨_, _, ⟨Taddn7, Laddn7, kaddn7, naddn7⟩, -, Xaddn7, ⟨Lcaddn7, hQaddn7, laddn7, yaddn7, zaddn7⟩, staddn7⟩ := Jvm.LawKit.callS Xaddn6 hx (y := (⟨"millrace/DurationHistogram", "subBucket", "(JI)I"⟩ : MethodName)) hown (mvT hZ (hw _ (List.mem_of_getElem? (i := 70) rfl))) (mvT hZ (hw _ (List.mem_of_getElem? (i := 71) rfl))) (mvT hZ (hw _ (List.mem_of_getElem? (i := 30) rfl))) (mvT hZ (hw _ (List.mem_of_getElem? (i := 72) rfl))) (by decide) (backOf (W := 1) (own_rm_sb l Z a0 hw [] (own_lmax (0 : Int64) na) (own_rng (own_lmax (0 : Int64) na)) haddn6 n0 Zaddn6 ) hZ (hw _ (List.mem_of_getElem? (i := 72) rfl)) (hw _ (List.mem_of_getElem? (i := 30) rfl)) (by decide) (by decide)) (g := (mkF m 47 #[.val (.ref w), .val (.long na), .second, .val (.long (own_lmax (0 : Int64) na)), .second, .val (.int (own_rng (own_lmax (0 : Int64) na))), .val (.ref baddn4)] [(.int (own_rng (own_lmax (0 : Int64) na))), (.long (own_lmax (0 : Int64) na)), (.ref baddn4)])) rfl (by rw [hml]; rfl) (argsL := [(.long (own_lmax (0 : Int64) na)), (.int (own_rng (own_lmax (0 : Int64) na)))]) (rest := [(.ref baddn4)]) (lenOf own_pd_28JI29I rfl) rfl (by show 2 * 0 + _ ≤ _; exact Nat.le_of_eq rfl) (hb hby own_d8_47) (fun _ _ => ⟨rfl, eaddn6, (by decide : 1 + 0 ≤ _), (by decide : 128 + 0 ≤ _)⟩)
  dsimp only [Pt.U, Pt.locs, Pt.cells, Pt.slots] at Xaddn7 laddn7 yaddn7 zaddn7 staddn7 hQaddn7
  rw [laddn7, yaddn7, zaddn7] at Xaddn7
  obtain ⟨rfl, Naddn7q, eaddn7⟩ := hQaddn7
  have Naddn7 := Fr.app Naddn6 Naddn7q
  obtain ⟨Taddn8, haddn8, Xaddn8, eaddn8, Waddn8, Vaddn8, staddn8⟩ := own_stJ (L := #[.val (.ref w), .val (.long na), .second, .val (.long (own_lmax (0 : Int64) na)), .second, .val (.int (own_rng (own_lmax (0 : Int64) na))), .val (.ref baddn4)]) (S := []) Xaddn7 hx hZ eaddn7 V_baddn4_addn6 (j := (own_sbk (own_lmax (0 : Int64) na) (own_rng (own_lmax (0 : Int64) na)))) (x := (addn_v51 + (1 : Int64))) addn_hin54 (Int32.toNatClampNeg (own_sbk (own_lmax (0 : Int64) na) (own_rng (own_lmax (0 : Int64) na)))) rfl addn_hle54 (hb hby own_d8_54) (pc' := 55) rfl
  have V_rg_addn8 := V_rg_addn6.other Waddn8 ne_rg_baddn4
  have E_w_addn8 := E_w_addn6.wr Waddn8
  have F_ranges_w_addn8 := F_ranges_w_addn6.other Waddn8 (Or.inl ne_w_baddn4)
  have F_count_w_addn8 := F_count_w_addn6.other Waddn8 (Or.inl ne_w_baddn4)
  have F_sum_w_addn8 := F_sum_w_addn6.other Waddn8 (Or.inl ne_w_baddn4)
  have F_max_w_addn8 := F_max_w_addn6.other Waddn8 (Or.inl ne_w_baddn4)
  have Zaddn8 : n0 ≤ haddn8.size := Nat.le_trans Zaddn6 (Nat.le_of_eq Waddn8.size.symm)
  have KKaddn8 := KKaddn6.wr Waddn8 (Or.inr sz_baddn4)
  have V_baddn4_addn8 : Arv Z haddn8 baddn4 kaddn4 .long (128 : Int32) ((List.replicate 128 (Value.long 0)).set (Int32.toNatClampNeg (own_sbk (own_lmax (0 : Int64) na) (own_rng (own_lmax (0 : Int64) na)))) (.long (addn_v51 + (1 : Int64)))) (.long 0) := Vaddn8
  have Naddn8 := Fr.snoc Xaddn8 Naddn7 g_baddn4
  obtain ⟨Taddn9, Xaddn9, eaddn9, staddn9⟩ := getF Xaddn8 hx hZ hown (host := "") (Or.inl (hw _ (List.mem_of_getElem? (i := 73) rfl))) Via.refl eaddn8 F_count_w_addn8 (g := (mkF m 57 #[.val (.ref w), .val (.long na), .second, .val (.long (own_lmax (0 : Int64) na)), .second, .val (.int (own_rng (own_lmax (0 : Int64) na))), .val (.ref baddn4)] [(.ref w), (.ref w)])) rfl rfl (hb hby own_d8_57)
  obtain ⟨Taddn10, haddn10, Xaddn10, eaddn10, Waddn10, staddn10⟩ := putF Xaddn9 hx hZ hown (host := "") (Or.inl (hw _ (List.mem_of_getElem? (i := 73) rfl))) Via.refl eaddn9 F_count_w_addn8 E_w_addn8 (Or.inl (hw _ (List.mem_of_getElem? (i := 74) rfl))) (hw _ (List.mem_of_getElem? (i := 29) rfl)) (ty := .long) (by decide) rfl rfl (g := (mkF m 62 #[.val (.ref w), .val (.long na), .second, .val (.long (own_lmax (0 : Int64) na)), .second, .val (.int (own_rng (own_lmax (0 : Int64) na))), .val (.ref baddn4)] [(.long (cnt + (1 : Int64))), (.ref w)])) rfl rfl (hb hby own_d8_62)
  have V_rg_addn10 := V_rg_addn8.other Waddn10 ne_rg_w
  have V_baddn4_addn10 := V_baddn4_addn8.other Waddn10 ne_baddn4_w
  have E_w_addn10 := E_w_addn8.wr Waddn10
  have Zaddn10 : n0 ≤ haddn10.size := Nat.le_trans Zaddn8 (Nat.le_of_eq Waddn10.size.symm)
  have KKaddn10 := KKaddn8.wr Waddn10 (Or.inl (List.mem_of_getElem? (i := 1) rfl))
  have F_ranges_w_addn10 := F_ranges_w_addn8.other Waddn10 (Or.inr (slot_ne (Or.inr (hw _ (List.mem_of_getElem? (i := 38) rfl))) (Or.inl (hw _ (List.mem_of_getElem? (i := 74) rfl))) (by decide) (t := (.array (.array .long))) (t' := .long) (by decide) (by decide)))
  have F_count_w_addn10 := F_count_w_addn8.same Waddn10
  have F_sum_w_addn10 := F_sum_w_addn8.other Waddn10 (Or.inr (slot_ne (Or.inl (hw _ (List.mem_of_getElem? (i := 76) rfl))) (Or.inl (hw _ (List.mem_of_getElem? (i := 74) rfl))) (by decide) (t := .double) (t' := .long) (by decide) (by decide)))
  have F_max_w_addn10 := F_max_w_addn8.other Waddn10 (Or.inr (slot_ne (Or.inl (hw _ (List.mem_of_getElem? (i := 78) rfl))) (Or.inl (hw _ (List.mem_of_getElem? (i := 74) rfl))) (by decide) (t := .long) (t' := .long) (by decide) (by decide)))
  have Naddn10 := Fr.snoc Xaddn10 Naddn8 g_w
  obtain ⟨Taddn11, Xaddn11, eaddn11, staddn11⟩ := getF Xaddn10 hx hZ hown (host := "") (Or.inl (hw _ (List.mem_of_getElem? (i := 75) rfl))) Via.refl eaddn10 F_sum_w_addn10 (g := (mkF m 67 #[.val (.ref w), .val (.long na), .second, .val (.long (own_lmax (0 : Int64) na)), .second, .val (.int (own_rng (own_lmax (0 : Int64) na))), .val (.ref baddn4)] [(.ref w), (.ref w)])) rfl rfl (hb hby own_d8_67)
  obtain ⟨Taddn12, haddn12, Xaddn12, eaddn12, Waddn12, staddn12⟩ := putF Xaddn11 hx hZ hown (host := "") (Or.inl (hw _ (List.mem_of_getElem? (i := 75) rfl))) Via.refl eaddn11 F_sum_w_addn10 E_w_addn10 (Or.inl (hw _ (List.mem_of_getElem? (i := 76) rfl))) (hw _ (List.mem_of_getElem? (i := 29) rfl)) (ty := .double) (by decide) rfl rfl (g := (mkF m 73 #[.val (.ref w), .val (.long na), .second, .val (.long (own_lmax (0 : Int64) na)), .second, .val (.int (own_rng (own_lmax (0 : Int64) na))), .val (.ref baddn4)] [(.double addn_v72), (.ref w)])) rfl rfl (hb hby own_d8_73)
  have V_rg_addn12 := V_rg_addn10.other Waddn12 ne_rg_w
  have V_baddn4_addn12 := V_baddn4_addn10.other Waddn12 ne_baddn4_w
  have E_w_addn12 := E_w_addn10.wr Waddn12
  have Zaddn12 : n0 ≤ haddn12.size := Nat.le_trans Zaddn10 (Nat.le_of_eq Waddn12.size.symm)
  have KKaddn12 := KKaddn10.wr Waddn12 (Or.inl (List.mem_of_getElem? (i := 1) rfl))
  have F_ranges_w_addn12 := F_ranges_w_addn10.other Waddn12 (Or.inr (slot_ne (Or.inr (hw _ (List.mem_of_getElem? (i := 38) rfl))) (Or.inl (hw _ (List.mem_of_getElem? (i := 76) rfl))) (by decide) (t := (.array (.array .long))) (t' := .double) (by decide) (by decide)))
  have F_count_w_addn12 := F_count_w_addn10.other Waddn12 (Or.inr (slot_ne (Or.inl (hw _ (List.mem_of_getElem? (i := 74) rfl))) (Or.inl (hw _ (List.mem_of_getElem? (i := 76) rfl))) (by decide) (t := .long) (t' := .double) (by decide) (by decide)))
  have F_sum_w_addn12 := F_sum_w_addn10.same Waddn12
  have F_max_w_addn12 := F_max_w_addn10.other Waddn12 (Or.inr (slot_ne (Or.inl (hw _ (List.mem_of_getElem? (i := 78) rfl))) (Or.inl (hw _ (List.mem_of_getElem? (i := 76) rfl))) (by decide) (t := .long) (t' := .double) (by decide) (by decide)))
  have Naddn12 := Fr.snoc Xaddn12 Naddn10 g_w
  obtain ⟨Taddn13, Xaddn13, eaddn13, staddn13⟩ := getF Xaddn12 hx hZ hown (host := "") (Or.inl (hw _ (List.mem_of_getElem? (i := 77) rfl))) Via.refl eaddn12 F_max_w_addn12 (g := (mkF m 78 #[.val (.ref w), .val (.long na), .second, .val (.long (own_lmax (0 : Int64) na)), .second, .val (.int (own_rng (own_lmax (0 : Int64) na))), .val (.ref baddn4)] [(.ref w), (.ref w)])) rfl rfl (hb hby own_d8_78)
  obtain ⟨_, _, ⟨Taddn14, Laddn14, kaddn14, naddn14⟩, -, Xaddn14, ⟨Lcaddn14, hQaddn14, laddn14, yaddn14, zaddn14⟩, staddn14⟩ := Jvm.LawKit.callS Xaddn13 hx (y := (⟨"java/lang/Math", "max", "(JJ)J"⟩ : MethodName)) hown (mvT hZ (hw _ (List.mem_of_getElem? (i := 53) rfl))) (mvT hZ (hw _ (List.mem_of_getElem? (i := 54) rfl))) (mvT hZ (hw _ (List.mem_of_getElem? (i := 55) rfl))) (mvT hZ (hw _ (List.mem_of_getElem? (i := 56) rfl))) (by decide) (backOf (W := 1) (own_rm_mmax l Z a0 hw [] mx (own_lmax (0 : Int64) na) haddn12 n0 Zaddn12 ) hZ (hw _ (List.mem_of_getElem? (i := 56) rfl)) (hw _ (List.mem_of_getElem? (i := 55) rfl)) (by decide) (by decide)) (g := (mkF m 82 #[.val (.ref w), .val (.long na), .second, .val (.long (own_lmax (0 : Int64) na)), .second, .val (.int (own_rng (own_lmax (0 : Int64) na))), .val (.ref baddn4)] [(.long (own_lmax (0 : Int64) na)), (.long mx), (.ref w)])) rfl (by rw [hml]; rfl) (argsL := [(.long mx), (.long (own_lmax (0 : Int64) na))]) (rest := [(.ref w)]) (lenOf own_pd_28JJ29J rfl) rfl (by show 2 * 0 + _ ≤ _; exact Nat.le_of_eq rfl) (hb hby own_d8_82) (fun _ _ => ⟨rfl, eaddn13, (by decide : 1 + 0 ≤ _), (by decide : 128 + 0 ≤ _)⟩)
  dsimp only [Pt.U, Pt.locs, Pt.cells, Pt.slots] at Xaddn14 laddn14 yaddn14 zaddn14 staddn14 hQaddn14
  rw [laddn14, yaddn14, zaddn14] at Xaddn14
  obtain ⟨rfl, Naddn14q, eaddn14⟩ := hQaddn14
  have Naddn14 := Fr.app Naddn12 Naddn14q
  obtain ⟨Taddn15, haddn15, Xaddn15, eaddn15, Waddn15, staddn15⟩ := putF Xaddn14 hx hZ hown (host := "") (Or.inl (hw _ (List.mem_of_getElem? (i := 77) rfl))) Via.refl eaddn14 F_max_w_addn12 E_w_addn12 (Or.inl (hw _ (List.mem_of_getElem? (i := 78) rfl))) (hw _ (List.mem_of_getElem? (i := 29) rfl)) (ty := .long) (by decide) rfl rfl (g := (mkF m 85 #[.val (.ref w), .val (.long na), .second, .val (.long (own_lmax (0 : Int64) na)), .second, .val (.int (own_rng (own_lmax (0 : Int64) na))), .val (.ref baddn4)] [(.long (own_lmax mx (own_lmax (0 : Int64) na))), (.ref w)])) rfl rfl (hb hby own_d8_85)
  have V_rg_addn15 := V_rg_addn12.other Waddn15 ne_rg_w
  have V_baddn4_addn15 := V_baddn4_addn12.other Waddn15 ne_baddn4_w
  have E_w_addn15 := E_w_addn12.wr Waddn15
  have Zaddn15 : n0 ≤ haddn15.size := Nat.le_trans Zaddn12 (Nat.le_of_eq Waddn15.size.symm)
  have KKaddn15 := KKaddn12.wr Waddn15 (Or.inl (List.mem_of_getElem? (i := 1) rfl))
  have F_ranges_w_addn15 := F_ranges_w_addn12.other Waddn15 (Or.inr (slot_ne (Or.inr (hw _ (List.mem_of_getElem? (i := 38) rfl))) (Or.inl (hw _ (List.mem_of_getElem? (i := 78) rfl))) (by decide) (t := (.array (.array .long))) (t' := .long) (by decide) (by decide)))
  have F_count_w_addn15 := F_count_w_addn12.other Waddn15 (Or.inr (slot_ne (Or.inl (hw _ (List.mem_of_getElem? (i := 74) rfl))) (Or.inl (hw _ (List.mem_of_getElem? (i := 78) rfl))) (by decide) (t := .long) (t' := .long) (by decide) (by decide)))
  have F_sum_w_addn15 := F_sum_w_addn12.other Waddn15 (Or.inr (slot_ne (Or.inl (hw _ (List.mem_of_getElem? (i := 76) rfl))) (Or.inl (hw _ (List.mem_of_getElem? (i := 78) rfl))) (by decide) (t := .double) (t' := .long) (by decide) (by decide)))
  have F_max_w_addn15 := F_max_w_addn12.same Waddn15
  have Naddn15 := Fr.snoc Xaddn15 Naddn14 g_w
  obtain ⟨fs, hr, hrun, hended, hW, hsame⟩ := Xaddn15.leave (v := none) (fun _ => rfl)
  refine ⟨_, _, pre0 _ ?_, hrun, hended, _, _, rfl, ?_, ⟨_, rfl⟩, hW, hsame.mono (by decide) (by decide)⟩
  · refine own_s_lconst X0.here hx (hb hby own_d8_0) (pc' := 1) rfl (v := (0 : Int64)) (by decide) ?_
    refine own_s_lloadN X0.here hx (hb hby own_d8_1) (pc' := 2) rfl rfl ?_
    refine staddn1 _ ?_
    show Steps p.tables e below (Taddn1.setTop (mkF m 5 #[.val (.ref w), .val (.long na), .second, .unset, .unset, .unset, .unset] [(.long (own_lmax (0 : Int64) na))])) _
    refine own_s_lstoreN Xaddn1.here hx (hb hby own_d8_5) (pc' := 6) rfl (L' := #[.val (.ref w), .val (.long na), .second, .val (.long (own_lmax (0 : Int64) na)), .second, .unset, .unset]) rfl ?_
    refine own_s_lloadN Xaddn1.here hx (hb hby own_d8_6) (pc' := 7) rfl rfl ?_
    refine staddn2 _ ?_
    show Steps p.tables e below (Taddn2.setTop (mkF m 10 #[.val (.ref w), .val (.long na), .second, .val (.long (own_lmax (0 : Int64) na)), .second, .unset, .unset] [(.int (own_rng (own_lmax (0 : Int64) na)))])) _
    refine own_s_istore Xaddn2.here hx (hb hby own_d8_10) (pc' := 12) rfl (L' := #[.val (.ref w), .val (.long na), .second, .val (.long (own_lmax (0 : Int64) na)), .second, .val (.int (own_rng (own_lmax (0 : Int64) na))), .unset]) rfl ?_
    refine own_s_aloadN Xaddn2.here hx (hb hby own_d8_12) (pc' := 13) rfl rfl rfl ?_
    refine staddn3 _ ?_
    show Steps p.tables e below (Taddn3.setTop (mkF m 16 #[.val (.ref w), .val (.long na), .second, .val (.long (own_lmax (0 : Int64) na)), .second, .val (.int (own_rng (own_lmax (0 : Int64) na))), .unset] [(.ref rg)])) _
    refine own_s_iload Xaddn3.here hx (hb hby own_d8_16) (pc' := 18) rfl rfl ?_
    refine own_ldR Xaddn3 hx hZ eaddn3 V_rg (j := (own_rng (own_lmax (0 : Int64) na))) (v := .null) addn_hin18 addn_hel18 (hb hby own_d8_18) (pc' := 19) rfl ?_
    refine own_s_astore Xaddn3.here hx (hb hby own_d8_19) (pc' := 21) rfl rfl (L' := #[.val (.ref w), .val (.long na), .second, .val (.long (own_lmax (0 : Int64) na)), .second, .val (.int (own_rng (own_lmax (0 : Int64) na))), .val .null]) rfl ?_
    refine own_s_aload Xaddn3.here hx (hb hby own_d8_21) (pc' := 23) rfl rfl rfl ?_
    refine own_s_ifnonnullNo Xaddn3.here hx (hb hby own_d8_23) (pc' := 26) rfl  ?_
    refine own_s_sipush Xaddn3.here hx (hb hby own_d8_26) (pc' := 29) rfl (v := (128 : Int32)) (by decide) ?_
    refine staddn4 _ ?_
    refine own_s_astore Xaddn4.here hx (hb hby own_d8_31) (pc' := 33) rfl rfl (L' := #[.val (.ref w), .val (.long na), .second, .val (.long (own_lmax (0 : Int64) na)), .second, .val (.int (own_rng (own_lmax (0 : Int64) na))), .val (.ref baddn4)]) rfl ?_
    refine own_s_aloadN Xaddn4.here hx (hb hby own_d8_33) (pc' := 34) rfl rfl rfl ?_
    refine staddn5 _ ?_
    show Steps p.tables e below (Taddn5.setTop (mkF m 37 #[.val (.ref w), .val (.long na), .second, .val (.long (own_lmax (0 : Int64) na)), .second, .val (.int (own_rng (own_lmax (0 : Int64) na))), .val (.ref baddn4)] [(.ref rg)])) _
    refine own_s_iload Xaddn5.here hx (hb hby own_d8_37) (pc' := 39) rfl rfl ?_
    refine own_s_aload Xaddn5.here hx (hb hby own_d8_39) (pc' := 41) rfl rfl rfl ?_
    refine staddn6 _ ?_
    refine own_s_aload Xaddn6.here hx (hb hby own_d8_42) (pc' := 44) rfl rfl rfl ?_
    refine own_s_lloadN Xaddn6.here hx (hb hby own_d8_44) (pc' := 45) rfl rfl ?_
    refine own_s_iload Xaddn6.here hx (hb hby own_d8_45) (pc' := 47) rfl rfl ?_
    refine staddn7 _ ?_
    show Steps p.tables e below (Taddn7.setTop (mkF m 50 #[.val (.ref w), .val (.long na), .second, .val (.long (own_lmax (0 : Int64) na)), .second, .val (.int (own_rng (own_lmax (0 : Int64) na))), .val (.ref baddn4)] [(.int (own_sbk (own_lmax (0 : Int64) na) (own_rng (own_lmax (0 : Int64) na)))), (.ref baddn4)])) _
    refine own_s_dup2 Xaddn7.here hx (hb hby own_d8_50) (pc' := 51) rfl rfl rfl ?_
    refine own_ldJ Xaddn7 hx hZ eaddn7 V_baddn4_addn6 (j := (own_sbk (own_lmax (0 : Int64) na) (own_rng (own_lmax (0 : Int64) na)))) (x := addn_v51) addn_hin51 addn_hel51 (hb hby own_d8_51) (pc' := 52) rfl ?_
    refine own_s_lconst Xaddn7.here hx (hb hby own_d8_52) (pc' := 53) rfl (v := (1 : Int64)) (by decide) ?_
    refine own_s_ladd Xaddn7.here hx (hb hby own_d8_53) (pc' := 54) rfl (v := (addn_v51 + (1 : Int64))) rfl ?_
    refine staddn8 _ ?_
    refine own_s_aloadN Xaddn8.here hx (hb hby own_d8_55) (pc' := 56) rfl rfl rfl ?_
    refine own_s_dup Xaddn8.here hx (hb hby own_d8_56) (pc' := 57) rfl rfl ?_
    refine staddn9 _ ?_
    show Steps p.tables e below (Taddn9.setTop (mkF m 60 #[.val (.ref w), .val (.long na), .second, .val (.long (own_lmax (0 : Int64) na)), .second, .val (.int (own_rng (own_lmax (0 : Int64) na))), .val (.ref baddn4)] [(.long cnt), (.ref w)])) _
    refine own_s_lconst Xaddn9.here hx (hb hby own_d8_60) (pc' := 61) rfl (v := (1 : Int64)) (by decide) ?_
    refine own_s_ladd Xaddn9.here hx (hb hby own_d8_61) (pc' := 62) rfl (v := (cnt + (1 : Int64))) rfl ?_
    refine staddn10 _ ?_
    show Steps p.tables e below (Taddn10.setTop (mkF m 65 #[.val (.ref w), .val (.long na), .second, .val (.long (own_lmax (0 : Int64) na)), .second, .val (.int (own_rng (own_lmax (0 : Int64) na))), .val (.ref baddn4)] [])) _
    refine own_s_aloadN Xaddn10.here hx (hb hby own_d8_65) (pc' := 66) rfl rfl rfl ?_
    refine own_s_dup Xaddn10.here hx (hb hby own_d8_66) (pc' := 67) rfl rfl ?_
    refine staddn11 _ ?_
    show Steps p.tables e below (Taddn11.setTop (mkF m 70 #[.val (.ref w), .val (.long na), .second, .val (.long (own_lmax (0 : Int64) na)), .second, .val (.int (own_rng (own_lmax (0 : Int64) na))), .val (.ref baddn4)] [(.double sm), (.ref w)])) _
    refine own_s_lloadN Xaddn11.here hx (hb hby own_d8_70) (pc' := 71) rfl rfl ?_
    refine own_s_l2d Xaddn11.here hx (hb hby own_d8_71) (pc' := 72) rfl (v := (FP.l2d (own_lmax (0 : Int64) na))) rfl ?_
    refine own_s_dadd Xaddn11.here hx (hb hby own_d8_72) (pc' := 73) rfl addn_hn72 (v := addn_v72) addn_hv72 ?_
    refine staddn12 _ ?_
    show Steps p.tables e below (Taddn12.setTop (mkF m 76 #[.val (.ref w), .val (.long na), .second, .val (.long (own_lmax (0 : Int64) na)), .second, .val (.int (own_rng (own_lmax (0 : Int64) na))), .val (.ref baddn4)] [])) _
    refine own_s_aloadN Xaddn12.here hx (hb hby own_d8_76) (pc' := 77) rfl rfl rfl ?_
    refine own_s_aloadN Xaddn12.here hx (hb hby own_d8_77) (pc' := 78) rfl rfl rfl ?_
    refine staddn13 _ ?_
    show Steps p.tables e below (Taddn13.setTop (mkF m 81 #[.val (.ref w), .val (.long na), .second, .val (.long (own_lmax (0 : Int64) na)), .second, .val (.int (own_rng (own_lmax (0 : Int64) na))), .val (.ref baddn4)] [(.long mx), (.ref w)])) _
    refine own_s_lloadN Xaddn13.here hx (hb hby own_d8_81) (pc' := 82) rfl rfl ?_
    refine staddn14 _ ?_
    show Steps p.tables e below (Taddn14.setTop (mkF m 85 #[.val (.ref w), .val (.long na), .second, .val (.long (own_lmax (0 : Int64) na)), .second, .val (.int (own_rng (own_lmax (0 : Int64) na))), .val (.ref baddn4)] [(.long (own_lmax mx (own_lmax (0 : Int64) na))), (.ref w)])) _
    refine staddn15 _ ?_
    show Steps p.tables e below (Taddn15.setTop (mkF m 88 #[.val (.ref w), .val (.long na), .second, .val (.long (own_lmax (0 : Int64) na)), .second, .val (.int (own_rng (own_lmax (0 : Int64) na))), .val (.ref baddn4)] [])) _
    exact Xaddn15.returnOut hx Bd.returns (hb hby own_d8_88) hr
  · show own_Q_addn Z w rg cnt sm mx na rvs rgk addn_v51 addn_v72 h0 n0 _ Taddn15.heap _
    rw [eaddn15]
    exact ⟨baddn4, kaddn4, rfl, Naddn15, KKaddn15, V_rg_addn15, E_w_addn15, F_ranges_w_addn15, F_count_w_addn15, F_sum_w_addn15, F_max_w_addn15, sz_baddn4, V_baddn4_addn15⟩
theorem own_ef_addr (m : MethodId) (w : Addr) (na : Int64) : entryFrame m #[(.ref w), (.long na)] 7 = mkF m 0 #[.val (.ref w), .val (.long na), .second, .unset, .unset, .unset, .unset] [] := by first | (simp [entryFrame, mkF, argsToLocals, Value.category]; done) | rfl
def own_Q_addr (Z : State) (w : Addr) (rg : Addr) (cnt : Int64) (sm : UInt64) (mx : Int64) (na : Int64) (rvs : List Value) (bk : Addr) (bvs : List Value) (rgk : ClassId) (bkk : ClassId) (addr_v51 : Int64) (addr_v72 : UInt64) (h0 : Heap) (n0 : Nat) (v : Option Value) (h : Heap) (L : List Loc) : Prop := v = none ∧ Fr n0 L ∧ Keep h0 h [bk, w] ∧ Arv Z h bk bkk .long (128 : Int32) (bvs.set (Int32.toNatClampNeg (own_sbk (own_lmax (0 : Int64) na) (own_rng (own_lmax (0 : Int64) na)))) (.long (addr_v51 + (1 : Int64)))) (.long 0) ∧ Exa Z h w "millrace/DurationHistogram" ∧ Fld Z h w "millrace/DurationHistogram" "ranges" "[[J" (.ref rg) ∧ Fld Z h w "millrace/DurationHistogram" "count" "J" (.long (cnt + (1 : Int64))) ∧ Fld Z h w "millrace/DurationHistogram" "sum" "D" (.double addr_v72) ∧ Fld Z h w "millrace/DurationHistogram" "max" "J" (.long (own_lmax mx (own_lmax (0 : Int64) na)))
set_option maxRecDepth 65536 in
set_option maxHeartbeats 40000000 in
theorem own_rm_addr (l : Launch) (Z : State) (a0 : Array Value) (hw : ∀ d ∈ tables_1, d.before a0 Z = true) (ws : List Jvm.Cond) (w : Addr) (rg : Addr) (cnt : Int64) (sm : UInt64) (mx : Int64) (na : Int64) (rvs : List Value) (bk : Addr) (bvs : List Value) {rgk : ClassId} {bkk : ClassId} {addr_v51 : Int64} {addr_v72 : UInt64} (h0 : Heap) (n0 : Nat) (Z0 : n0 ≤ h0.size) (E_w : Exa Z h0 w "millrace/DurationHistogram") (F_ranges_w : Fld Z h0 w "millrace/DurationHistogram" "ranges" "[[J" (.ref rg)) (F_count_w : Fld Z h0 w "millrace/DurationHistogram" "count" "J" (.long cnt)) (F_sum_w : Fld Z h0 w "millrace/DurationHistogram" "sum" "D" (.double sm)) (F_max_w : Fld Z h0 w "millrace/DurationHistogram" "max" "J" (.long mx)) (V_rg : Arv Z h0 rg rgk (.array .long) (57 : Int32) rvs (.null)) (O_rg : OvrA Z rgk .long "[J") (V_bk : Arv Z h0 bk bkk .long (128 : Int32) bvs (.long 0)) (ne_w_rg : w ≠ rg) (ne_w_bk : w ≠ bk) (ne_rg_bk : rg ≠ bk) (g_bk : n0 ≤ bk) (g_w : n0 ≤ w) (addr_hin18 : ¬ (own_rng (own_lmax (0 : Int64) na)) < 0 ∧ (own_rng (own_lmax (0 : Int64) na)) < (57 : Int32)) (addr_hel18 : rvs.getD (Int32.toNatClampNeg (own_rng (own_lmax (0 : Int64) na))) (.null) = (.ref bk)) (addr_hin51 : ¬ (own_sbk (own_lmax (0 : Int64) na) (own_rng (own_lmax (0 : Int64) na))) < 0 ∧ (own_sbk (own_lmax (0 : Int64) na) (own_rng (own_lmax (0 : Int64) na))) < (128 : Int32)) (addr_hel51 : bvs.getD (Int32.toNatClampNeg (own_sbk (own_lmax (0 : Int64) na) (own_rng (own_lmax (0 : Int64) na)))) (.long 0) = (.long addr_v51)) (addr_hin54 : ¬ (own_sbk (own_lmax (0 : Int64) na) (own_rng (own_lmax (0 : Int64) na))) < 0 ∧ (own_sbk (own_lmax (0 : Int64) na) (own_rng (own_lmax (0 : Int64) na))) < (128 : Int32)) (addr_hle54 : Int32.toNatClampNeg (own_sbk (own_lmax (0 : Int64) na) (own_rng (own_lmax (0 : Int64) na))) < bvs.length) (addr_hn72 : Jvm.Free.Fl.NoNaN64 (FP.dadd sm (FP.l2d (own_lmax (0 : Int64) na)))) (addr_hv72 : FP.dadd sm (FP.l2d (own_lmax (0 : Int64) na)) = addr_v72) :
    MetFree l (⟨"millrace/DurationHistogram", "add", "(J)V"⟩ : MethodName) (head1 (Jvm.Cond.code (⟨"millrace/DurationHistogram", "add", "(J)V"⟩ : MethodName) prog_18_method_4_code 7 none :: ws) ({ frames := 3, cells := 1, slots := 128, locals := 59 } : Room)) (fun a U => a = #[(.ref w), (.long na)] ∧ Z.Warmed39 U.vm ∧ U.heap = h0) (fun _ _ _ _ _ => True) (fun _ U o U' => ∃ v L, o = .returned v ∧ own_Q_addr Z w rg cnt sm mx na rvs bk bvs rgk bkk addr_v51 addr_v72 h0 n0 v U'.heap L ∧ FrameEnd U o U' L ({ frames := 3, cells := 1, slots := 128, locals := 59 } : Room).cells ({ frames := 3, cells := 1, slots := 128, locals := 59 } : Room).slots) := by
  refine MetFree.of_bodySF (plainFor_of_name own_pn_millrace_DurationHistogram) hisR ?_
  intro p e s m args below meth c s₁ Bd hml0 hP hK
  obtain ⟨rfl, hZ, hh⟩ := hP
  have hx := Bd.exec
  have hby := Bd.bytes
  have hml : c.maxLocals = 7 := hml0
  have hown : s.vm.findClass "millrace/DurationHistogram" = some m.cls := findClass_of_methodNamed Bd.named
  have hnm := (name_of_methodNamed Bd.named Bd.method).1
  have X0 : Stand p l e ({ frames := 3, cells := 1, slots := 128, locals := 59 } : Room) s m #[(.ref w), (.long na)] below meth c s₁ [] 0 0 := Stand.of_body Bd
  have e0 : s₁.heap = h0 := by rw [← hh, Bd.state]; rfl
  have N0 := Fr.nil n0
  have pre0 : ∀ t, Steps p.tables e below (s₁.setTop (mkF m 0 #[.val (.ref w), .val (.long na), .second, .unset, .unset, .unset, .unset] [])) t → Steps p.tables e below (s₁.setTop (entryFrame m #[(.ref w), (.long na)] 7)) t := fun t k => castTop (own_ef_addr m w na) k
  have ne_rg_w : rg ≠ w := Ne.symm ne_w_rg
  have ne_bk_w : bk ≠ w := Ne.symm ne_w_bk
  have ne_bk_rg : bk ≠ rg := Ne.symm ne_rg_bk
  obtain ⟨_, _, ⟨Taddr1, Laddr1, kaddr1, naddr1⟩, -, Xaddr1, ⟨Lcaddr1, hQaddr1, laddr1, yaddr1, zaddr1⟩, staddr1⟩ := Jvm.LawKit.callS X0 hx (y := (⟨"java/lang/Math", "max", "(JJ)J"⟩ : MethodName)) hown (mvT hZ (hw _ (List.mem_of_getElem? (i := 53) rfl))) (mvT hZ (hw _ (List.mem_of_getElem? (i := 54) rfl))) (mvT hZ (hw _ (List.mem_of_getElem? (i := 55) rfl))) (mvT hZ (hw _ (List.mem_of_getElem? (i := 56) rfl))) (by decide) (backOf (W := 0) (own_rm_mmax l Z a0 hw [] (0 : Int64) na h0 n0 Z0 ) hZ (hw _ (List.mem_of_getElem? (i := 56) rfl)) (hw _ (List.mem_of_getElem? (i := 55) rfl)) (by decide) (by decide)) (g := (mkF m 2 #[.val (.ref w), .val (.long na), .second, .unset, .unset, .unset, .unset] [(.long na), (.long (0 : Int64))])) rfl (by rw [hml]; rfl) (argsL := [(.long (0 : Int64)), (.long na)]) (rest := []) (lenOf own_pd_28JJ29J rfl) rfl (by show 2 * 0 + _ ≤ _; exact Nat.le_of_eq rfl) (hb hby own_d8_2) (fun _ _ => ⟨rfl, e0, (by decide : 0 + 0 ≤ _), (by decide : 0 + 0 ≤ _)⟩)
  dsimp only [Pt.U, Pt.locs, Pt.cells, Pt.slots] at Xaddr1 laddr1 yaddr1 zaddr1 staddr1 hQaddr1
  rw [laddr1, yaddr1, zaddr1] at Xaddr1
  obtain ⟨rfl, Naddr1q, eaddr1⟩ := hQaddr1
  have Naddr1 := Fr.app N0 Naddr1q
  obtain ⟨_, _, ⟨Taddr2, Laddr2, kaddr2, naddr2⟩, -, Xaddr2, ⟨Lcaddr2, hQaddr2, laddr2, yaddr2, zaddr2⟩, staddr2⟩ := Jvm.LawKit.callS Xaddr1 hx (y := (⟨"millrace/DurationHistogram", "range", "(J)I"⟩ : MethodName)) hown (mvT hZ (hw _ (List.mem_of_getElem? (i := 57) rfl))) (mvT hZ (hw _ (List.mem_of_getElem? (i := 58) rfl))) (mvT hZ (hw _ (List.mem_of_getElem? (i := 30) rfl))) (mvT hZ (hw _ (List.mem_of_getElem? (i := 59) rfl))) (by decide) (backOf (W := 0) (own_rm_rg l Z a0 hw [] (own_lmax (0 : Int64) na) h0 n0 Z0 ) hZ (hw _ (List.mem_of_getElem? (i := 59) rfl)) (hw _ (List.mem_of_getElem? (i := 30) rfl)) (by decide) (by decide)) (g := (mkF m 7 #[.val (.ref w), .val (.long na), .second, .val (.long (own_lmax (0 : Int64) na)), .second, .unset, .unset] [(.long (own_lmax (0 : Int64) na))])) rfl (by rw [hml]; rfl) (argsL := [(.long (own_lmax (0 : Int64) na))]) (rest := []) (lenOf own_pd_28J29I rfl) rfl (by show 2 * 0 + _ ≤ _; exact Nat.le_of_eq rfl) (hb hby own_d8_7) (fun _ _ => ⟨rfl, eaddr1, (by decide : 0 + 0 ≤ _), (by decide : 0 + 0 ≤ _)⟩)
  dsimp only [Pt.U, Pt.locs, Pt.cells, Pt.slots] at Xaddr2 laddr2 yaddr2 zaddr2 staddr2 hQaddr2
  rw [laddr2, yaddr2, zaddr2] at Xaddr2
  obtain ⟨rfl, Naddr2q, eaddr2⟩ := hQaddr2
  have Naddr2 := Fr.app Naddr1 Naddr2q
  obtain ⟨Taddr3, Xaddr3, eaddr3, staddr3⟩ := getF Xaddr2 hx hZ hown (host := "") (Or.inl (hw _ (List.mem_of_getElem? (i := 37) rfl))) Via.refl eaddr2 F_ranges_w (g := (mkF m 13 #[.val (.ref w), .val (.long na), .second, .val (.long (own_lmax (0 : Int64) na)), .second, .val (.int (own_rng (own_lmax (0 : Int64) na))), .unset] [(.ref w)])) rfl rfl (hb hby own_d8_13)
  obtain ⟨_, _, ⟨Taddr4, Laddr4, kaddr4, naddr4⟩, -, Xaddr4, ⟨Lcaddr4, hQaddr4, laddr4, yaddr4, zaddr4⟩, staddr4⟩ := Jvm.LawKit.callS Xaddr3 hx (y := (⟨"millrace/DurationHistogram", "subBucket", "(JI)I"⟩ : MethodName)) hown (mvT hZ (hw _ (List.mem_of_getElem? (i := 70) rfl))) (mvT hZ (hw _ (List.mem_of_getElem? (i := 71) rfl))) (mvT hZ (hw _ (List.mem_of_getElem? (i := 30) rfl))) (mvT hZ (hw _ (List.mem_of_getElem? (i := 72) rfl))) (by decide) (backOf (W := 1) (own_rm_sb l Z a0 hw [] (own_lmax (0 : Int64) na) (own_rng (own_lmax (0 : Int64) na)) h0 n0 Z0 ) hZ (hw _ (List.mem_of_getElem? (i := 72) rfl)) (hw _ (List.mem_of_getElem? (i := 30) rfl)) (by decide) (by decide)) (g := (mkF m 47 #[.val (.ref w), .val (.long na), .second, .val (.long (own_lmax (0 : Int64) na)), .second, .val (.int (own_rng (own_lmax (0 : Int64) na))), .val (.ref bk)] [(.int (own_rng (own_lmax (0 : Int64) na))), (.long (own_lmax (0 : Int64) na)), (.ref bk)])) rfl (by rw [hml]; rfl) (argsL := [(.long (own_lmax (0 : Int64) na)), (.int (own_rng (own_lmax (0 : Int64) na)))]) (rest := [(.ref bk)]) (lenOf own_pd_28JI29I rfl) rfl (by show 2 * 0 + _ ≤ _; exact Nat.le_of_eq rfl) (hb hby own_d8_47) (fun _ _ => ⟨rfl, eaddr3, (by decide : 0 + 0 ≤ _), (by decide : 0 + 0 ≤ _)⟩)
  dsimp only [Pt.U, Pt.locs, Pt.cells, Pt.slots] at Xaddr4 laddr4 yaddr4 zaddr4 staddr4 hQaddr4
  rw [laddr4, yaddr4, zaddr4] at Xaddr4
  obtain ⟨rfl, Naddr4q, eaddr4⟩ := hQaddr4
  have Naddr4 := Fr.app Naddr2 Naddr4q
  obtain ⟨Taddr5, haddr5, Xaddr5, eaddr5, Waddr5, Vaddr5, staddr5⟩ := own_stJ (L := #[.val (.ref w), .val (.long na), .second, .val (.long (own_lmax (0 : Int64) na)), .second, .val (.int (own_rng (own_lmax (0 : Int64) na))), .val (.ref bk)]) (S := []) Xaddr4 hx hZ eaddr4 V_bk (j := (own_sbk (own_lmax (0 : Int64) na) (own_rng (own_lmax (0 : Int64) na)))) (x := (addr_v51 + (1 : Int64))) addr_hin54 (Int32.toNatClampNeg (own_sbk (own_lmax (0 : Int64) na) (own_rng (own_lmax (0 : Int64) na)))) rfl addr_hle54 (hb hby own_d8_54) (pc' := 55) rfl
  have V_rg_addr5 := V_rg.other Waddr5 ne_rg_bk
  have E_w_addr5 := E_w.wr Waddr5
  have F_ranges_w_addr5 := F_ranges_w.other Waddr5 (Or.inl ne_w_bk)
  have F_count_w_addr5 := F_count_w.other Waddr5 (Or.inl ne_w_bk)
  have F_sum_w_addr5 := F_sum_w.other Waddr5 (Or.inl ne_w_bk)
  have F_max_w_addr5 := F_max_w.other Waddr5 (Or.inl ne_w_bk)
  have Zaddr5 : n0 ≤ haddr5.size := Nat.le_trans Z0 (Nat.le_of_eq Waddr5.size.symm)
  have KKaddr5 := (Keep.refl h0 [bk, w]).wr Waddr5 (Or.inl (List.mem_of_getElem? (i := 0) rfl))
  have V_bk_addr5 : Arv Z haddr5 bk bkk .long (128 : Int32) (bvs.set (Int32.toNatClampNeg (own_sbk (own_lmax (0 : Int64) na) (own_rng (own_lmax (0 : Int64) na)))) (.long (addr_v51 + (1 : Int64)))) (.long 0) := Vaddr5
  have Naddr5 := Fr.snoc Xaddr5 Naddr4 g_bk
  obtain ⟨Taddr6, Xaddr6, eaddr6, staddr6⟩ := getF Xaddr5 hx hZ hown (host := "") (Or.inl (hw _ (List.mem_of_getElem? (i := 73) rfl))) Via.refl eaddr5 F_count_w_addr5 (g := (mkF m 57 #[.val (.ref w), .val (.long na), .second, .val (.long (own_lmax (0 : Int64) na)), .second, .val (.int (own_rng (own_lmax (0 : Int64) na))), .val (.ref bk)] [(.ref w), (.ref w)])) rfl rfl (hb hby own_d8_57)
  obtain ⟨Taddr7, haddr7, Xaddr7, eaddr7, Waddr7, staddr7⟩ := putF Xaddr6 hx hZ hown (host := "") (Or.inl (hw _ (List.mem_of_getElem? (i := 73) rfl))) Via.refl eaddr6 F_count_w_addr5 E_w_addr5 (Or.inl (hw _ (List.mem_of_getElem? (i := 74) rfl))) (hw _ (List.mem_of_getElem? (i := 29) rfl)) (ty := .long) (by decide) rfl rfl (g := (mkF m 62 #[.val (.ref w), .val (.long na), .second, .val (.long (own_lmax (0 : Int64) na)), .second, .val (.int (own_rng (own_lmax (0 : Int64) na))), .val (.ref bk)] [(.long (cnt + (1 : Int64))), (.ref w)])) rfl rfl (hb hby own_d8_62)
  have V_rg_addr7 := V_rg_addr5.other Waddr7 ne_rg_w
  have V_bk_addr7 := V_bk_addr5.other Waddr7 ne_bk_w
  have E_w_addr7 := E_w_addr5.wr Waddr7
  have Zaddr7 : n0 ≤ haddr7.size := Nat.le_trans Zaddr5 (Nat.le_of_eq Waddr7.size.symm)
  have KKaddr7 := KKaddr5.wr Waddr7 (Or.inl (List.mem_of_getElem? (i := 1) rfl))
  have F_ranges_w_addr7 := F_ranges_w_addr5.other Waddr7 (Or.inr (slot_ne (Or.inr (hw _ (List.mem_of_getElem? (i := 38) rfl))) (Or.inl (hw _ (List.mem_of_getElem? (i := 74) rfl))) (by decide) (t := (.array (.array .long))) (t' := .long) (by decide) (by decide)))
  have F_count_w_addr7 := F_count_w_addr5.same Waddr7
  have F_sum_w_addr7 := F_sum_w_addr5.other Waddr7 (Or.inr (slot_ne (Or.inl (hw _ (List.mem_of_getElem? (i := 76) rfl))) (Or.inl (hw _ (List.mem_of_getElem? (i := 74) rfl))) (by decide) (t := .double) (t' := .long) (by decide) (by decide)))
  have F_max_w_addr7 := F_max_w_addr5.other Waddr7 (Or.inr (slot_ne (Or.inl (hw _ (List.mem_of_getElem? (i := 78) rfl))) (Or.inl (hw _ (List.mem_of_getElem? (i := 74) rfl))) (by decide) (t := .long) (t' := .long) (by decide) (by decide)))
  have Naddr7 := Fr.snoc Xaddr7 Naddr5 g_w
  obtain ⟨Taddr8, Xaddr8, eaddr8, staddr8⟩ := getF Xaddr7 hx hZ hown (host := "") (Or.inl (hw _ (List.mem_of_getElem? (i := 75) rfl))) Via.refl eaddr7 F_sum_w_addr7 (g := (mkF m 67 #[.val (.ref w), .val (.long na), .second, .val (.long (own_lmax (0 : Int64) na)), .second, .val (.int (own_rng (own_lmax (0 : Int64) na))), .val (.ref bk)] [(.ref w), (.ref w)])) rfl rfl (hb hby own_d8_67)
  obtain ⟨Taddr9, haddr9, Xaddr9, eaddr9, Waddr9, staddr9⟩ := putF Xaddr8 hx hZ hown (host := "") (Or.inl (hw _ (List.mem_of_getElem? (i := 75) rfl))) Via.refl eaddr8 F_sum_w_addr7 E_w_addr7 (Or.inl (hw _ (List.mem_of_getElem? (i := 76) rfl))) (hw _ (List.mem_of_getElem? (i := 29) rfl)) (ty := .double) (by decide) rfl rfl (g := (mkF m 73 #[.val (.ref w), .val (.long na), .second, .val (.long (own_lmax (0 : Int64) na)), .second, .val (.int (own_rng (own_lmax (0 : Int64) na))), .val (.ref bk)] [(.double addr_v72), (.ref w)])) rfl rfl (hb hby own_d8_73)
  have V_rg_addr9 := V_rg_addr7.other Waddr9 ne_rg_w
  have V_bk_addr9 := V_bk_addr7.other Waddr9 ne_bk_w
  have E_w_addr9 := E_w_addr7.wr Waddr9
  have Zaddr9 : n0 ≤ haddr9.size := Nat.le_trans Zaddr7 (Nat.le_of_eq Waddr9.size.symm)
  have KKaddr9 := KKaddr7.wr Waddr9 (Or.inl (List.mem_of_getElem? (i := 1) rfl))
  have F_ranges_w_addr9 := F_ranges_w_addr7.other Waddr9 (Or.inr (slot_ne (Or.inr (hw _ (List.mem_of_getElem? (i := 38) rfl))) (Or.inl (hw _ (List.mem_of_getElem? (i := 76) rfl))) (by decide) (t := (.array (.array .long))) (t' := .double) (by decide) (by decide)))
  have F_count_w_addr9 := F_count_w_addr7.other Waddr9 (Or.inr (slot_ne (Or.inl (hw _ (List.mem_of_getElem? (i := 74) rfl))) (Or.inl (hw _ (List.mem_of_getElem? (i := 76) rfl))) (by decide) (t := .long) (t' := .double) (by decide) (by decide)))
  have F_sum_w_addr9 := F_sum_w_addr7.same Waddr9
  have F_max_w_addr9 := F_max_w_addr7.other Waddr9 (Or.inr (slot_ne (Or.inl (hw _ (List.mem_of_getElem? (i := 78) rfl))) (Or.inl (hw _ (List.mem_of_getElem? (i := 76) rfl))) (by decide) (t := .long) (t' := .double) (by decide) (by decide)))
  have Naddr9 := Fr.snoc Xaddr9 Naddr7 g_w
  obtain ⟨Taddr10, Xaddr10, eaddr10, staddr10⟩ := getF Xaddr9 hx hZ hown (host := "") (Or.inl (hw _ (List.mem_of_getElem? (i := 77) rfl))) Via.refl eaddr9 F_max_w_addr9 (g := (mkF m 78 #[.val (.ref w), .val (.long na), .second, .val (.long (own_lmax (0 : Int64) na)), .second, .val (.int (own_rng (own_lmax (0 : Int64) na))), .val (.ref bk)] [(.ref w), (.ref w)])) rfl rfl (hb hby own_d8_78)
  obtain ⟨_, _, ⟨Taddr11, Laddr11, kaddr11, naddr11⟩, -, Xaddr11, ⟨Lcaddr11, hQaddr11, laddr11, yaddr11, zaddr11⟩, staddr11⟩ := Jvm.LawKit.callS Xaddr10 hx (y := (⟨"java/lang/Math", "max", "(JJ)J"⟩ : MethodName)) hown (mvT hZ (hw _ (List.mem_of_getElem? (i := 53) rfl))) (mvT hZ (hw _ (List.mem_of_getElem? (i := 54) rfl))) (mvT hZ (hw _ (List.mem_of_getElem? (i := 55) rfl))) (mvT hZ (hw _ (List.mem_of_getElem? (i := 56) rfl))) (by decide) (backOf (W := 1) (own_rm_mmax l Z a0 hw [] mx (own_lmax (0 : Int64) na) haddr9 n0 Zaddr9 ) hZ (hw _ (List.mem_of_getElem? (i := 56) rfl)) (hw _ (List.mem_of_getElem? (i := 55) rfl)) (by decide) (by decide)) (g := (mkF m 82 #[.val (.ref w), .val (.long na), .second, .val (.long (own_lmax (0 : Int64) na)), .second, .val (.int (own_rng (own_lmax (0 : Int64) na))), .val (.ref bk)] [(.long (own_lmax (0 : Int64) na)), (.long mx), (.ref w)])) rfl (by rw [hml]; rfl) (argsL := [(.long mx), (.long (own_lmax (0 : Int64) na))]) (rest := [(.ref w)]) (lenOf own_pd_28JJ29J rfl) rfl (by show 2 * 0 + _ ≤ _; exact Nat.le_of_eq rfl) (hb hby own_d8_82) (fun _ _ => ⟨rfl, eaddr10, (by decide : 0 + 0 ≤ _), (by decide : 0 + 0 ≤ _)⟩)
  dsimp only [Pt.U, Pt.locs, Pt.cells, Pt.slots] at Xaddr11 laddr11 yaddr11 zaddr11 staddr11 hQaddr11
  rw [laddr11, yaddr11, zaddr11] at Xaddr11
  obtain ⟨rfl, Naddr11q, eaddr11⟩ := hQaddr11
  have Naddr11 := Fr.app Naddr9 Naddr11q
  obtain ⟨Taddr12, haddr12, Xaddr12, eaddr12, Waddr12, staddr12⟩ := putF Xaddr11 hx hZ hown (host := "") (Or.inl (hw _ (List.mem_of_getElem? (i := 77) rfl))) Via.refl eaddr11 F_max_w_addr9 E_w_addr9 (Or.inl (hw _ (List.mem_of_getElem? (i := 78) rfl))) (hw _ (List.mem_of_getElem? (i := 29) rfl)) (ty := .long) (by decide) rfl rfl (g := (mkF m 85 #[.val (.ref w), .val (.long na), .second, .val (.long (own_lmax (0 : Int64) na)), .second, .val (.int (own_rng (own_lmax (0 : Int64) na))), .val (.ref bk)] [(.long (own_lmax mx (own_lmax (0 : Int64) na))), (.ref w)])) rfl rfl (hb hby own_d8_85)
  have V_rg_addr12 := V_rg_addr9.other Waddr12 ne_rg_w
  have V_bk_addr12 := V_bk_addr9.other Waddr12 ne_bk_w
  have E_w_addr12 := E_w_addr9.wr Waddr12
  have Zaddr12 : n0 ≤ haddr12.size := Nat.le_trans Zaddr9 (Nat.le_of_eq Waddr12.size.symm)
  have KKaddr12 := KKaddr9.wr Waddr12 (Or.inl (List.mem_of_getElem? (i := 1) rfl))
  have F_ranges_w_addr12 := F_ranges_w_addr9.other Waddr12 (Or.inr (slot_ne (Or.inr (hw _ (List.mem_of_getElem? (i := 38) rfl))) (Or.inl (hw _ (List.mem_of_getElem? (i := 78) rfl))) (by decide) (t := (.array (.array .long))) (t' := .long) (by decide) (by decide)))
  have F_count_w_addr12 := F_count_w_addr9.other Waddr12 (Or.inr (slot_ne (Or.inl (hw _ (List.mem_of_getElem? (i := 74) rfl))) (Or.inl (hw _ (List.mem_of_getElem? (i := 78) rfl))) (by decide) (t := .long) (t' := .long) (by decide) (by decide)))
  have F_sum_w_addr12 := F_sum_w_addr9.other Waddr12 (Or.inr (slot_ne (Or.inl (hw _ (List.mem_of_getElem? (i := 76) rfl))) (Or.inl (hw _ (List.mem_of_getElem? (i := 78) rfl))) (by decide) (t := .double) (t' := .long) (by decide) (by decide)))
  have F_max_w_addr12 := F_max_w_addr9.same Waddr12
  have Naddr12 := Fr.snoc Xaddr12 Naddr11 g_w
  obtain ⟨fs, hr, hrun, hended, hW, hsame⟩ := Xaddr12.leave (v := none) (fun _ => rfl)
  refine ⟨_, _, pre0 _ ?_, hrun, hended, _, _, rfl, ?_, ⟨_, rfl⟩, hW, hsame.mono (by decide) (by decide)⟩
  · refine own_s_lconst X0.here hx (hb hby own_d8_0) (pc' := 1) rfl (v := (0 : Int64)) (by decide) ?_
    refine own_s_lloadN X0.here hx (hb hby own_d8_1) (pc' := 2) rfl rfl ?_
    refine staddr1 _ ?_
    show Steps p.tables e below (Taddr1.setTop (mkF m 5 #[.val (.ref w), .val (.long na), .second, .unset, .unset, .unset, .unset] [(.long (own_lmax (0 : Int64) na))])) _
    refine own_s_lstoreN Xaddr1.here hx (hb hby own_d8_5) (pc' := 6) rfl (L' := #[.val (.ref w), .val (.long na), .second, .val (.long (own_lmax (0 : Int64) na)), .second, .unset, .unset]) rfl ?_
    refine own_s_lloadN Xaddr1.here hx (hb hby own_d8_6) (pc' := 7) rfl rfl ?_
    refine staddr2 _ ?_
    show Steps p.tables e below (Taddr2.setTop (mkF m 10 #[.val (.ref w), .val (.long na), .second, .val (.long (own_lmax (0 : Int64) na)), .second, .unset, .unset] [(.int (own_rng (own_lmax (0 : Int64) na)))])) _
    refine own_s_istore Xaddr2.here hx (hb hby own_d8_10) (pc' := 12) rfl (L' := #[.val (.ref w), .val (.long na), .second, .val (.long (own_lmax (0 : Int64) na)), .second, .val (.int (own_rng (own_lmax (0 : Int64) na))), .unset]) rfl ?_
    refine own_s_aloadN Xaddr2.here hx (hb hby own_d8_12) (pc' := 13) rfl rfl rfl ?_
    refine staddr3 _ ?_
    show Steps p.tables e below (Taddr3.setTop (mkF m 16 #[.val (.ref w), .val (.long na), .second, .val (.long (own_lmax (0 : Int64) na)), .second, .val (.int (own_rng (own_lmax (0 : Int64) na))), .unset] [(.ref rg)])) _
    refine own_s_iload Xaddr3.here hx (hb hby own_d8_16) (pc' := 18) rfl rfl ?_
    refine own_ldR Xaddr3 hx hZ eaddr3 V_rg (j := (own_rng (own_lmax (0 : Int64) na))) (v := (.ref bk)) addr_hin18 addr_hel18 (hb hby own_d8_18) (pc' := 19) rfl ?_
    refine own_s_astore Xaddr3.here hx (hb hby own_d8_19) (pc' := 21) rfl rfl (L' := #[.val (.ref w), .val (.long na), .second, .val (.long (own_lmax (0 : Int64) na)), .second, .val (.int (own_rng (own_lmax (0 : Int64) na))), .val (.ref bk)]) rfl ?_
    refine own_s_aload Xaddr3.here hx (hb hby own_d8_21) (pc' := 23) rfl rfl rfl ?_
    refine own_s_ifnonnullYes Xaddr3.here hx (hb hby own_d8_23) (by decide) (pc' := 42) (by decide) ?_
    refine own_s_aload Xaddr3.here hx (hb hby own_d8_42) (pc' := 44) rfl rfl rfl ?_
    refine own_s_lloadN Xaddr3.here hx (hb hby own_d8_44) (pc' := 45) rfl rfl ?_
    refine own_s_iload Xaddr3.here hx (hb hby own_d8_45) (pc' := 47) rfl rfl ?_
    refine staddr4 _ ?_
    show Steps p.tables e below (Taddr4.setTop (mkF m 50 #[.val (.ref w), .val (.long na), .second, .val (.long (own_lmax (0 : Int64) na)), .second, .val (.int (own_rng (own_lmax (0 : Int64) na))), .val (.ref bk)] [(.int (own_sbk (own_lmax (0 : Int64) na) (own_rng (own_lmax (0 : Int64) na)))), (.ref bk)])) _
    refine own_s_dup2 Xaddr4.here hx (hb hby own_d8_50) (pc' := 51) rfl rfl rfl ?_
    refine own_ldJ Xaddr4 hx hZ eaddr4 V_bk (j := (own_sbk (own_lmax (0 : Int64) na) (own_rng (own_lmax (0 : Int64) na)))) (x := addr_v51) addr_hin51 addr_hel51 (hb hby own_d8_51) (pc' := 52) rfl ?_
    refine own_s_lconst Xaddr4.here hx (hb hby own_d8_52) (pc' := 53) rfl (v := (1 : Int64)) (by decide) ?_
    refine own_s_ladd Xaddr4.here hx (hb hby own_d8_53) (pc' := 54) rfl (v := (addr_v51 + (1 : Int64))) rfl ?_
    refine staddr5 _ ?_
    refine own_s_aloadN Xaddr5.here hx (hb hby own_d8_55) (pc' := 56) rfl rfl rfl ?_
    refine own_s_dup Xaddr5.here hx (hb hby own_d8_56) (pc' := 57) rfl rfl ?_
    refine staddr6 _ ?_
    show Steps p.tables e below (Taddr6.setTop (mkF m 60 #[.val (.ref w), .val (.long na), .second, .val (.long (own_lmax (0 : Int64) na)), .second, .val (.int (own_rng (own_lmax (0 : Int64) na))), .val (.ref bk)] [(.long cnt), (.ref w)])) _
    refine own_s_lconst Xaddr6.here hx (hb hby own_d8_60) (pc' := 61) rfl (v := (1 : Int64)) (by decide) ?_
    refine own_s_ladd Xaddr6.here hx (hb hby own_d8_61) (pc' := 62) rfl (v := (cnt + (1 : Int64))) rfl ?_
    refine staddr7 _ ?_
    show Steps p.tables e below (Taddr7.setTop (mkF m 65 #[.val (.ref w), .val (.long na), .second, .val (.long (own_lmax (0 : Int64) na)), .second, .val (.int (own_rng (own_lmax (0 : Int64) na))), .val (.ref bk)] [])) _
    refine own_s_aloadN Xaddr7.here hx (hb hby own_d8_65) (pc' := 66) rfl rfl rfl ?_
    refine own_s_dup Xaddr7.here hx (hb hby own_d8_66) (pc' := 67) rfl rfl ?_
    refine staddr8 _ ?_
    show Steps p.tables e below (Taddr8.setTop (mkF m 70 #[.val (.ref w), .val (.long na), .second, .val (.long (own_lmax (0 : Int64) na)), .second, .val (.int (own_rng (own_lmax (0 : Int64) na))), .val (.ref bk)] [(.double sm), (.ref w)])) _
    refine own_s_lloadN Xaddr8.here hx (hb hby own_d8_70) (pc' := 71) rfl rfl ?_
    refine own_s_l2d Xaddr8.here hx (hb hby own_d8_71) (pc' := 72) rfl (v := (FP.l2d (own_lmax (0 : Int64) na))) rfl ?_
    refine own_s_dadd Xaddr8.here hx (hb hby own_d8_72) (pc' := 73) rfl addr_hn72 (v := addr_v72) addr_hv72 ?_
    refine staddr9 _ ?_
    show Steps p.tables e below (Taddr9.setTop (mkF m 76 #[.val (.ref w), .val (.long na), .second, .val (.long (own_lmax (0 : Int64) na)), .second, .val (.int (own_rng (own_lmax (0 : Int64) na))), .val (.ref bk)] [])) _
    refine own_s_aloadN Xaddr9.here hx (hb hby own_d8_76) (pc' := 77) rfl rfl rfl ?_
    refine own_s_aloadN Xaddr9.here hx (hb hby own_d8_77) (pc' := 78) rfl rfl rfl ?_
    refine staddr10 _ ?_
    show Steps p.tables e below (Taddr10.setTop (mkF m 81 #[.val (.ref w), .val (.long na), .second, .val (.long (own_lmax (0 : Int64) na)), .second, .val (.int (own_rng (own_lmax (0 : Int64) na))), .val (.ref bk)] [(.long mx), (.ref w)])) _
    refine own_s_lloadN Xaddr10.here hx (hb hby own_d8_81) (pc' := 82) rfl rfl ?_
    refine staddr11 _ ?_
    show Steps p.tables e below (Taddr11.setTop (mkF m 85 #[.val (.ref w), .val (.long na), .second, .val (.long (own_lmax (0 : Int64) na)), .second, .val (.int (own_rng (own_lmax (0 : Int64) na))), .val (.ref bk)] [(.long (own_lmax mx (own_lmax (0 : Int64) na))), (.ref w)])) _
    refine staddr12 _ ?_
    show Steps p.tables e below (Taddr12.setTop (mkF m 88 #[.val (.ref w), .val (.long na), .second, .val (.long (own_lmax (0 : Int64) na)), .second, .val (.int (own_rng (own_lmax (0 : Int64) na))), .val (.ref bk)] [])) _
    exact Xaddr12.returnOut hx Bd.returns (hb hby own_d8_88) hr
  · show own_Q_addr Z w rg cnt sm mx na rvs bk bvs rgk bkk addr_v51 addr_v72 h0 n0 _ Taddr12.heap _
    rw [eaddr12]
    exact ⟨rfl, Naddr12, KKaddr12, V_bk_addr12, E_w_addr12, F_ranges_w_addr12, F_count_w_addr12, F_sum_w_addr12, F_max_w_addr12⟩
theorem own_lmax0 (x : Int64) : 0 ≤ (own_lmax (0 : Int64) x).toInt := by
  unfold own_lmax
  by_cases h : (0 : Int64) < x
  · rw [if_pos h]; have := Int64.lt_iff_toInt_lt.mp h; rw [show (0 : Int64).toInt = 0 from rfl] at this; omega
  · rw [if_neg h]; decide
def own_QA (Z : State) (w rg : Addr) (as : List Addr) (t : Nat) (cnt : Int64) (sm : UInt64) (mx na : Int64) (h0 : Heap) (n0 : Nat) (v : Option Value) (h : Heap) (L : List Loc) : Prop :=
  v = none ∧ Fr n0 L ∧ Keep h0 h (w :: rg :: as) ∧ ∃ as', own_Hist Z h w rg as' (t + 1) (cnt + 1) (FP.dadd sm (FP.l2d (own_lmax (0 : Int64) na))) (own_lmax mx (own_lmax (0 : Int64) na)) ∧ ∀ x ∈ as', x ∈ as ∨ h0.size ≤ x
theorem own_rm_add (l : Launch) (Z : State) (a0 : Array Value) (hw : ∀ d ∈ tables_1, d.before a0 Z = true) (ws : List Jvm.Cond) (w rg : Addr) (as : List Addr) (t : Nat) (cnt : Int64) (sm : UInt64) (mx na : Int64) (h0 : Heap) (n0 : Nat) (Z0 : n0 ≤ h0.size) (H : own_Hist Z h0 w rg as t cnt sm mx) (G : own_G n0 w rg as) (hn : Jvm.Free.Fl.NoNaN64 (FP.dadd sm (FP.l2d (own_lmax (0 : Int64) na)))) :
    MetFree l (⟨"millrace/DurationHistogram", "add", "(J)V"⟩ : MethodName) (head1 (Jvm.Cond.code (⟨"millrace/DurationHistogram", "add", "(J)V"⟩ : MethodName) prog_18_method_4_code 7 none :: ws) ({ frames := 3, cells := 1, slots := 128, locals := 59 } : Room)) (fun a U => a = #[(.ref w), (.long na)] ∧ Z.Warmed39 U.vm ∧ U.heap = h0) (fun _ _ _ _ _ => True) (fun _ U o U' => ∃ v L, o = .returned v ∧ own_QA Z w rg as t cnt sm mx na h0 n0 v U'.heap L ∧ FrameEnd U o U' L ({ frames := 3, cells := 1, slots := 128, locals := 59 } : Room).cells ({ frames := 3, cells := 1, slots := 128, locals := 59 } : Room).slots) := by
  obtain ⟨r1, r2, s1, s2⟩ := own_rng_sub (own_lmax (0 : Int64) na) (own_lmax0 na)
  have hr : ¬ (own_rng (own_lmax (0 : Int64) na)) < 0 ∧ (own_rng (own_lmax (0 : Int64) na)) < (57 : Int32) := own_inbN r1 (by rw [show (57 : Int32).toInt = 57 from rfl]; exact r2)
  have hs : ¬ (own_sbk (own_lmax (0 : Int64) na) (own_rng (own_lmax (0 : Int64) na))) < 0 ∧ (own_sbk (own_lmax (0 : Int64) na) (own_rng (own_lmax (0 : Int64) na))) < (128 : Int32) := own_inbN s1 (by rw [show (128 : Int32).toInt = 128 from rfl]; exact s2)
  obtain ⟨k, vs, V, O, hl, B⟩ := H.bk
  obtain ⟨lw, lr, la⟩ := H.lt
  have hi : Int32.toNatClampNeg (own_rng (own_lmax (0 : Int64) na)) < vs.length := by rw [hl]; show ((own_rng (own_lmax (0 : Int64) na))).toInt.toNat < 57; omega
  have hj : Int32.toNatClampNeg (own_sbk (own_lmax (0 : Int64) na) (own_rng (own_lmax (0 : Int64) na))) < 128 := by show ((own_sbk (own_lmax (0 : Int64) na) (own_rng (own_lmax (0 : Int64) na)))).toInt.toNat < 128; omega
  rcases B.at _ hi with ⟨e1, f⟩ | ⟨b, kb, ns, e1, A, hln, hle, hb, f⟩
  · refine MetFree.imp (own_rm_addn l Z a0 hw ws w rg cnt sm mx na vs h0 n0 Z0 H.exa H.fr H.fc H.fs H.fm V O H.n1 G.2.1 G.1 hr (own_getD_of e1) hr hi hs (addn_v51 := 0) (by rw [own_map_rep, own_map_get, List.getD_eq_getElem?_getD, List.getElem?_replicate]; split <;> rfl) hs (by rw [List.length_replicate]; exact hj) hn rfl) ?_
    rintro a s o s' ⟨v, L, ho, ⟨b, kb, hv, N, K, VR, EX, F1, F2, F3, F4, hsz, VB⟩, hF⟩
    rw [own_map_rep, show (0 : Int64) + 1 = Int64.ofNat 0 + 1 from rfl, own_map_set] at VB
    obtain ⟨as', B', q'⟩ := f s'.heap b kb _ (by simp) VB (fun z => absurd (la b z) (Nat.not_lt.mpr hsz)) (fun x hx k ns A => A.keep K (by simp only [List.mem_cons, List.not_mem_nil, or_false, not_or]; exact ⟨fun e => H.n3 (e ▸ hx), fun e => H.n2 (e ▸ hx)⟩))
    have hsum := own_sum_set (List.replicate 128 0) (Int32.toNatClampNeg (own_sbk (own_lmax (0 : Int64) na) (own_rng (own_lmax (0 : Int64) na)))) (by rw [List.length_replicate]; exact hj)
    rw [own_sum_rep, show (List.replicate 128 0).getD (Int32.toNatClampNeg (own_sbk (own_lmax (0 : Int64) na) (own_rng (own_lmax (0 : Int64) na)))) 0 = 0 by rw [List.getD_eq_getElem?_getD, List.getElem?_replicate]; split <;> rfl] at hsum
    rw [hsum] at B'
    refine ⟨v, L, ho, ⟨hv, N, own_Keep_in K (by simp), as', ⟨EX, F1, F2, F3, F4, ⟨k, _, VR, O, by rw [List.length_set]; exact hl, B'⟩, H.n1, fun z => ?_, fun z => ?_⟩, fun x hx => ?_⟩, hF⟩
    · rcases q' _ z with e | e
      · exact Nat.ne_of_lt (Nat.lt_of_lt_of_le lw hsz) e
      · exact H.n2 e
    · rcases q' _ z with e | e
      · exact Nat.ne_of_lt (Nat.lt_of_lt_of_le lr hsz) e
      · exact H.n3 e
    · rcases q' _ hx with e | e
      · exact Or.inr (e ▸ hsz)
      · exact Or.inl e
  · have nw : w ≠ b := fun e => H.n2 (e ▸ hb)
    have nr : rg ≠ b := fun e => H.n3 (e ▸ hb)
    refine MetFree.imp (own_rm_addr l Z a0 hw ws w rg cnt sm mx na vs b (ns.map own_nl) h0 n0 Z0 H.exa H.fr H.fc H.fs H.fm V O A H.n1 nw nr (G.2.2 b hb) G.1 hr (own_getD_of e1) hs (own_map_get _ _) hs (by rw [List.length_map, hln]; exact hj) hn rfl) ?_
    rintro a s o s' ⟨v, L, ho, ⟨hv, N, K, VB, EX, F1, F2, F3, F4⟩, hF⟩
    rw [own_map_set] at VB
    have B' := f s'.heap _ (by rw [List.length_set]; exact hln) VB (fun x hx ne k ns A => A.keep K (by simp only [List.mem_cons, List.not_mem_nil, or_false, not_or]; exact ⟨ne, fun e => H.n2 (e ▸ hx)⟩))
    rw [own_sum_set ns _ (by rw [hln]; exact hj), show t - ns.sum + (ns.sum + 1) = t + 1 by omega] at B'
    refine ⟨v, L, ho, ⟨hv, N, own_Keep_in K (by simp only [List.mem_cons, List.not_mem_nil, or_false]; rintro x (rfl | rfl); exact Or.inr (Or.inr hb); exact Or.inl rfl), as, ⟨EX, F1, F2, F3, F4, ⟨k, vs, V.keep K (by simp only [List.mem_cons, List.not_mem_nil, or_false, not_or]; exact ⟨nr, H.n1.symm⟩), O, hl, B'⟩, H.n1, H.n2, H.n3⟩, fun x hx => Or.inl hx⟩, hF⟩
theorem own_d15_0 : decode prog_18_method_6_code 0 = .ok (.aload_n 0, 1) := by decide +kernel
theorem own_d15_1 : decode prog_18_method_6_code 1 = .ok (.getfield 35, 3) := by decide +kernel
theorem own_d15_4 : decode prog_18_method_6_code 4 = .ok (.ldc2_w 54, 3) := by decide +kernel
theorem own_d15_7 : decode prog_18_method_6_code 7 = .ok (.ldiv, 1) := by decide +kernel
theorem own_d15_8 : decode prog_18_method_6_code 8 = .ok (.iload_n 1, 1) := by decide +kernel
theorem own_d15_9 : decode prog_18_method_6_code 9 = .ok (.i2l, 1) := by decide +kernel
theorem own_d15_10 : decode prog_18_method_6_code 10 = .ok (.lmul, 1) := by decide +kernel
theorem own_d15_11 : decode prog_18_method_6_code 11 = .ok (.aload_n 0, 1) := by decide +kernel
theorem own_d15_12 : decode prog_18_method_6_code 12 = .ok (.getfield 35, 3) := by decide +kernel
theorem own_d15_15 : decode prog_18_method_6_code 15 = .ok (.ldc2_w 54, 3) := by decide +kernel
theorem own_d15_18 : decode prog_18_method_6_code 18 = .ok (.lrem, 1) := by decide +kernel
theorem own_d15_19 : decode prog_18_method_6_code 19 = .ok (.iload_n 1, 1) := by decide +kernel
theorem own_d15_20 : decode prog_18_method_6_code 20 = .ok (.i2l, 1) := by decide +kernel
theorem own_d15_21 : decode prog_18_method_6_code 21 = .ok (.lmul, 1) := by decide +kernel
theorem own_d15_22 : decode prog_18_method_6_code 22 = .ok (.ldc2_w 56, 3) := by decide +kernel
theorem own_d15_25 : decode prog_18_method_6_code 25 = .ok (.ladd, 1) := by decide +kernel
theorem own_d15_26 : decode prog_18_method_6_code 26 = .ok (.ldc2_w 54, 3) := by decide +kernel
theorem own_d15_29 : decode prog_18_method_6_code 29 = .ok (.ldiv, 1) := by decide +kernel
theorem own_d15_30 : decode prog_18_method_6_code 30 = .ok (.ladd, 1) := by decide +kernel
theorem own_d15_31 : decode prog_18_method_6_code 31 = .ok (.lstore_n 2, 1) := by decide +kernel
theorem own_d15_32 : decode prog_18_method_6_code 32 = .ok (.lconst 0, 1) := by decide +kernel
theorem own_d15_33 : decode prog_18_method_6_code 33 = .ok (.lstore 4, 2) := by decide +kernel
theorem own_d15_35 : decode prog_18_method_6_code 35 = .ok (.iconst 0, 1) := by decide +kernel
theorem own_d15_36 : decode prog_18_method_6_code 36 = .ok (.istore 6, 2) := by decide +kernel
set_option maxRecDepth 65536 in
set_option maxHeartbeats 40000000 in
theorem own_seg_p0 {p : Program} {l : Launch} {e : Env} {R : Room} {s : State} {m : MethodId} {args : Array Value} {below : List Frame} {meth : Method} {c : Code} {T0 : State} {locs : List Loc} {cells slots : Nat} {Z : State} {a0 : Array Value} {h0 : Heap} (w : Addr) (cnt : Int64) (pp : Int32) 
    (X0 : Stand p l e R s m args below meth c T0 locs cells slots) (hx : p.tables.exec = Jvm.exec) (hZ : Z.Warmed39 s.vm) (hw : ∀ d ∈ tables_1, d.before a0 Z = true) (hby : c.code = prog_18_method_6_code) (hml : c.maxLocals = 9) (hown : s.vm.findClass "millrace/DurationHistogram" = some m.cls) (e0 : T0.heap = h0) (E_w : Exa Z h0 w "millrace/DurationHistogram") (F_count_w : Fld Z h0 w "millrace/DurationHistogram" "count" "J" (.long cnt))  :
    ∃ (T' : State), Stand p l e R s m args below meth c T' locs cells slots ∧ T'.heap = h0 ∧ ∀ target, Steps p.tables e below (T'.setTop (mkF m 38 #[.val (.ref w), .val (.int pp), .val (.long (((cnt / (100 : Int64)) * (Int32.toInt64 pp)) + ((((cnt % (100 : Int64)) * (Int32.toInt64 pp)) + (99 : Int64)) / (100 : Int64)))), .second, .val (.long (0 : Int64)), .second, .val (.int (0 : Int32)), .unset, .unset] [])) target → Steps p.tables e below (T0.setTop (mkF m 0 #[.val (.ref w), .val (.int pp), .unset, .unset, .unset, .unset, .unset, .unset, .unset] [])) target := by
  obtain ⟨Tp01, Xp01, ep01, stp01⟩ := getF X0 hx hZ hown (host := "") (Or.inl (hw _ (List.mem_of_getElem? (i := 73) rfl))) Via.refl e0 F_count_w (g := (mkF m 1 #[.val (.ref w), .val (.int pp), .unset, .unset, .unset, .unset, .unset, .unset, .unset] [(.ref w)])) rfl rfl (hb hby own_d15_1)
  obtain ⟨Tp02, Xp02, ep02, stp02⟩ := getF Xp01 hx hZ hown (host := "") (Or.inl (hw _ (List.mem_of_getElem? (i := 73) rfl))) Via.refl ep01 F_count_w (g := (mkF m 12 #[.val (.ref w), .val (.int pp), .unset, .unset, .unset, .unset, .unset, .unset, .unset] [(.ref w), (.long ((cnt / (100 : Int64)) * (Int32.toInt64 pp)))])) rfl rfl (hb hby own_d15_12)
  refine ⟨Tp02, Xp02, ep02, fun target kt => ?_⟩
  refine own_s_aloadN X0.here hx (hb hby own_d15_0) (pc' := 1) rfl rfl rfl ?_
  refine stp01 _ ?_
  show Steps p.tables e below (Tp01.setTop (mkF m 4 #[.val (.ref w), .val (.int pp), .unset, .unset, .unset, .unset, .unset, .unset, .unset] [(.long cnt)])) _
  refine Xp01.ldc2Long hx hown (mvT hZ (hw _ (List.mem_of_getElem? (i := 91) rfl))) (g := (mkF m 4 #[.val (.ref w), .val (.int pp), .unset, .unset, .unset, .unset, .unset, .unset, .unset] [(.long cnt)])) rfl (hb hby own_d15_4) _ ?_
  show Steps p.tables e below (Tp01.setTop (mkF m 7 #[.val (.ref w), .val (.int pp), .unset, .unset, .unset, .unset, .unset, .unset, .unset] [(.long (100 : Int64)), (.long cnt)])) _
  refine own_s_ldiv Xp01.here hx (hb hby own_d15_7) (pc' := 8) rfl (by decide) (v := (cnt / (100 : Int64))) rfl ?_
  refine own_s_iloadN Xp01.here hx (hb hby own_d15_8) (pc' := 9) rfl rfl ?_
  refine own_s_i2l Xp01.here hx (hb hby own_d15_9) (pc' := 10) rfl (v := (Int32.toInt64 pp)) rfl ?_
  refine own_s_lmul Xp01.here hx (hb hby own_d15_10) (pc' := 11) rfl (v := ((cnt / (100 : Int64)) * (Int32.toInt64 pp))) rfl ?_
  refine own_s_aloadN Xp01.here hx (hb hby own_d15_11) (pc' := 12) rfl rfl rfl ?_
  refine stp02 _ ?_
  show Steps p.tables e below (Tp02.setTop (mkF m 15 #[.val (.ref w), .val (.int pp), .unset, .unset, .unset, .unset, .unset, .unset, .unset] [(.long cnt), (.long ((cnt / (100 : Int64)) * (Int32.toInt64 pp)))])) _
  refine Xp02.ldc2Long hx hown (mvT hZ (hw _ (List.mem_of_getElem? (i := 91) rfl))) (g := (mkF m 15 #[.val (.ref w), .val (.int pp), .unset, .unset, .unset, .unset, .unset, .unset, .unset] [(.long cnt), (.long ((cnt / (100 : Int64)) * (Int32.toInt64 pp)))])) rfl (hb hby own_d15_15) _ ?_
  show Steps p.tables e below (Tp02.setTop (mkF m 18 #[.val (.ref w), .val (.int pp), .unset, .unset, .unset, .unset, .unset, .unset, .unset] [(.long (100 : Int64)), (.long cnt), (.long ((cnt / (100 : Int64)) * (Int32.toInt64 pp)))])) _
  refine own_s_lrem Xp02.here hx (hb hby own_d15_18) (pc' := 19) rfl (by decide) (v := (cnt % (100 : Int64))) rfl ?_
  refine own_s_iloadN Xp02.here hx (hb hby own_d15_19) (pc' := 20) rfl rfl ?_
  refine own_s_i2l Xp02.here hx (hb hby own_d15_20) (pc' := 21) rfl (v := (Int32.toInt64 pp)) rfl ?_
  refine own_s_lmul Xp02.here hx (hb hby own_d15_21) (pc' := 22) rfl (v := ((cnt % (100 : Int64)) * (Int32.toInt64 pp))) rfl ?_
  refine Xp02.ldc2Long hx hown (mvT hZ (hw _ (List.mem_of_getElem? (i := 92) rfl))) (g := (mkF m 22 #[.val (.ref w), .val (.int pp), .unset, .unset, .unset, .unset, .unset, .unset, .unset] [(.long ((cnt % (100 : Int64)) * (Int32.toInt64 pp))), (.long ((cnt / (100 : Int64)) * (Int32.toInt64 pp)))])) rfl (hb hby own_d15_22) _ ?_
  show Steps p.tables e below (Tp02.setTop (mkF m 25 #[.val (.ref w), .val (.int pp), .unset, .unset, .unset, .unset, .unset, .unset, .unset] [(.long (99 : Int64)), (.long ((cnt % (100 : Int64)) * (Int32.toInt64 pp))), (.long ((cnt / (100 : Int64)) * (Int32.toInt64 pp)))])) _
  refine own_s_ladd Xp02.here hx (hb hby own_d15_25) (pc' := 26) rfl (v := (((cnt % (100 : Int64)) * (Int32.toInt64 pp)) + (99 : Int64))) rfl ?_
  refine Xp02.ldc2Long hx hown (mvT hZ (hw _ (List.mem_of_getElem? (i := 91) rfl))) (g := (mkF m 26 #[.val (.ref w), .val (.int pp), .unset, .unset, .unset, .unset, .unset, .unset, .unset] [(.long (((cnt % (100 : Int64)) * (Int32.toInt64 pp)) + (99 : Int64))), (.long ((cnt / (100 : Int64)) * (Int32.toInt64 pp)))])) rfl (hb hby own_d15_26) _ ?_
  show Steps p.tables e below (Tp02.setTop (mkF m 29 #[.val (.ref w), .val (.int pp), .unset, .unset, .unset, .unset, .unset, .unset, .unset] [(.long (100 : Int64)), (.long (((cnt % (100 : Int64)) * (Int32.toInt64 pp)) + (99 : Int64))), (.long ((cnt / (100 : Int64)) * (Int32.toInt64 pp)))])) _
  refine own_s_ldiv Xp02.here hx (hb hby own_d15_29) (pc' := 30) rfl (by decide) (v := ((((cnt % (100 : Int64)) * (Int32.toInt64 pp)) + (99 : Int64)) / (100 : Int64))) rfl ?_
  refine own_s_ladd Xp02.here hx (hb hby own_d15_30) (pc' := 31) rfl (v := (((cnt / (100 : Int64)) * (Int32.toInt64 pp)) + ((((cnt % (100 : Int64)) * (Int32.toInt64 pp)) + (99 : Int64)) / (100 : Int64)))) rfl ?_
  refine own_s_lstoreN Xp02.here hx (hb hby own_d15_31) (pc' := 32) rfl (L' := #[.val (.ref w), .val (.int pp), .val (.long (((cnt / (100 : Int64)) * (Int32.toInt64 pp)) + ((((cnt % (100 : Int64)) * (Int32.toInt64 pp)) + (99 : Int64)) / (100 : Int64)))), .second, .unset, .unset, .unset, .unset, .unset]) rfl ?_
  refine own_s_lconst Xp02.here hx (hb hby own_d15_32) (pc' := 33) rfl (v := (0 : Int64)) (by decide) ?_
  refine own_s_lstore Xp02.here hx (hb hby own_d15_33) (pc' := 35) rfl (L' := #[.val (.ref w), .val (.int pp), .val (.long (((cnt / (100 : Int64)) * (Int32.toInt64 pp)) + ((((cnt % (100 : Int64)) * (Int32.toInt64 pp)) + (99 : Int64)) / (100 : Int64)))), .second, .val (.long (0 : Int64)), .second, .unset, .unset, .unset]) rfl ?_
  refine own_s_iconst Xp02.here hx (hb hby own_d15_35) (pc' := 36) rfl (v := (0 : Int32)) (by decide) ?_
  refine own_s_istore Xp02.here hx (hb hby own_d15_36) (pc' := 38) rfl (L' := #[.val (.ref w), .val (.int pp), .val (.long (((cnt / (100 : Int64)) * (Int32.toInt64 pp)) + ((((cnt % (100 : Int64)) * (Int32.toInt64 pp)) + (99 : Int64)) / (100 : Int64)))), .second, .val (.long (0 : Int64)), .second, .val (.int (0 : Int32)), .unset, .unset]) rfl ?_
  exact kt
def own_rank (cnt : Int64) (pp : Int32) : Int64 := (((cnt / (100 : Int64)) * (Int32.toInt64 pp)) + ((((cnt % (100 : Int64)) * (Int32.toInt64 pp)) + (99 : Int64)) / (100 : Int64)))
theorem own_d15_38 : decode prog_18_method_6_code 38 = .ok (.iload 6, 2) := by decide +kernel
theorem own_d15_40 : decode prog_18_method_6_code 40 = .ok (.aload_n 0, 1) := by decide +kernel
theorem own_d15_41 : decode prog_18_method_6_code 41 = .ok (.getfield 13, 3) := by decide +kernel
theorem own_d15_44 : decode prog_18_method_6_code 44 = .ok (.arraylength, 1) := by decide +kernel
theorem own_d15_45 : decode prog_18_method_6_code 45 = .ok (.if_icmp .ge 75, 3) := by decide +kernel
theorem own_d15_48 : decode prog_18_method_6_code 48 = .ok (.aload_n 0, 1) := by decide +kernel
theorem own_d15_49 : decode prog_18_method_6_code 49 = .ok (.getfield 13, 3) := by decide +kernel
theorem own_d15_52 : decode prog_18_method_6_code 52 = .ok (.iload 6, 2) := by decide +kernel
theorem own_d15_54 : decode prog_18_method_6_code 54 = .ok (.aaload, 1) := by decide +kernel
theorem own_d15_55 : decode prog_18_method_6_code 55 = .ok (.astore 7, 2) := by decide +kernel
theorem own_d15_57 : decode prog_18_method_6_code 57 = .ok (.aload 7, 2) := by decide +kernel
theorem own_d15_59 : decode prog_18_method_6_code 59 = .ok (.ifnonnull 6, 3) := by decide +kernel
theorem own_d15_62 : decode prog_18_method_6_code 62 = .ok (.goto 52, 3) := by decide +kernel
theorem own_d15_114 : decode prog_18_method_6_code 114 = .ok (.iinc 6 1, 3) := by decide +kernel
theorem own_d15_117 : decode prog_18_method_6_code 117 = .ok (.goto (-79), 3) := by decide +kernel
set_option maxRecDepth 65536 in
set_option maxHeartbeats 40000000 in
theorem own_seg_p1 {p : Program} {l : Launch} {e : Env} {R : Room} {s : State} {m : MethodId} {args : Array Value} {below : List Frame} {meth : Method} {c : Code} {T0 : State} {locs : List Loc} {cells slots : Nat} {Z : State} {a0 : Array Value} {h0 : Heap} (w : Addr) (rg : Addr) (pp : Int32) (rk : Int64) (sn : Int64) (r : Int32) (rvs : List Value) (s7 : Slot) (s8 : Slot) {rgk : ClassId}
    (X0 : Stand p l e R s m args below meth c T0 locs cells slots) (hx : p.tables.exec = Jvm.exec) (hZ : Z.Warmed39 s.vm) (hw : ∀ d ∈ tables_1, d.before a0 Z = true) (hby : c.code = prog_18_method_6_code) (hml : c.maxLocals = 9) (hown : s.vm.findClass "millrace/DurationHistogram" = some m.cls) (e0 : T0.heap = h0) (E_w : Exa Z h0 w "millrace/DurationHistogram") (F_ranges_w : Fld Z h0 w "millrace/DurationHistogram" "ranges" "[[J" (.ref rg)) (V_rg : Arv Z h0 rg rgk (.array .long) (57 : Int32) rvs (.null)) (O_rg : OvrA Z rgk .long "[J") (pl_s7 : own_Pl s7) (pl_s8 : own_Pl s8) (p1_hb45 : if_icmp.holds .ge r (57 : Int32) = false) (p1_hin54 : ¬ r < 0 ∧ r < (57 : Int32)) (p1_hel54 : rvs.getD (Int32.toNatClampNeg r) (.null) = .null) :
    ∃ (T' : State), Stand p l e R s m args below meth c T' locs cells slots ∧ T'.heap = h0 ∧ ∀ target, Steps p.tables e below (T'.setTop (mkF m 38 #[.val (.ref w), .val (.int pp), .val (.long rk), .second, .val (.long sn), .second, .val (.int (r + Int32.ofInt 1)), .val .null, s8] [])) target → Steps p.tables e below (T0.setTop (mkF m 38 #[.val (.ref w), .val (.int pp), .val (.long rk), .second, .val (.long sn), .second, .val (.int r), s7, s8] [])) target := by
  obtain ⟨Tp11, Xp11, ep11, stp11⟩ := getF X0 hx hZ hown (host := "") (Or.inl (hw _ (List.mem_of_getElem? (i := 37) rfl))) Via.refl e0 F_ranges_w (g := (mkF m 41 #[.val (.ref w), .val (.int pp), .val (.long rk), .second, .val (.long sn), .second, .val (.int r), s7, s8] [(.ref w), (.int r)])) rfl rfl (hb hby own_d15_41)
  obtain ⟨Tp12, Xp12, ep12, stp12⟩ := getF Xp11 hx hZ hown (host := "") (Or.inl (hw _ (List.mem_of_getElem? (i := 37) rfl))) Via.refl ep11 F_ranges_w (g := (mkF m 49 #[.val (.ref w), .val (.int pp), .val (.long rk), .second, .val (.long sn), .second, .val (.int r), s7, s8] [(.ref w)])) rfl rfl (hb hby own_d15_49)
  refine ⟨Tp12, Xp12, ep12, fun target kt => ?_⟩
  refine own_s_iload X0.here hx (hb hby own_d15_38) (pc' := 40) rfl rfl ?_
  refine own_s_aloadN X0.here hx (hb hby own_d15_40) (pc' := 41) rfl rfl rfl ?_
  refine stp11 _ ?_
  show Steps p.tables e below (Tp11.setTop (mkF m 44 #[.val (.ref w), .val (.int pp), .val (.long rk), .second, .val (.long sn), .second, .val (.int r), s7, s8] [(.ref rg), (.int r)])) _
  refine own_len Xp11 hx hZ ep11 V_rg (hb hby own_d15_44) (pc' := 45) rfl ?_
  refine own_s_icmpNo Xp11.here hx (hb hby own_d15_45) (pc' := 48) rfl p1_hb45 ?_
  refine own_s_aloadN Xp11.here hx (hb hby own_d15_48) (pc' := 49) rfl rfl rfl ?_
  refine stp12 _ ?_
  show Steps p.tables e below (Tp12.setTop (mkF m 52 #[.val (.ref w), .val (.int pp), .val (.long rk), .second, .val (.long sn), .second, .val (.int r), s7, s8] [(.ref rg)])) _
  refine own_s_iload Xp12.here hx (hb hby own_d15_52) (pc' := 54) rfl rfl ?_
  refine own_ldR Xp12 hx hZ ep12 V_rg (j := r) (v := .null) p1_hin54 p1_hel54 (hb hby own_d15_54) (pc' := 55) rfl ?_
  refine own_s_astore Xp12.here hx (hb hby own_d15_55) (pc' := 57) rfl rfl (L' := #[.val (.ref w), .val (.int pp), .val (.long rk), .second, .val (.long sn), .second, .val (.int r), .val .null, s8]) (own_st1 rfl pl_s7 rfl) ?_
  refine own_s_aload Xp12.here hx (hb hby own_d15_57) (pc' := 59) rfl rfl rfl ?_
  refine own_s_ifnonnullNo Xp12.here hx (hb hby own_d15_59) (pc' := 62) rfl  ?_
  refine own_s_goto Xp12.here hx (hb hby own_d15_62) (by decide) (pc' := 114) (by decide) ?_
  refine own_s_iinc Xp12.here hx (hb hby own_d15_114) (pc' := 117) rfl rfl (v := (r + Int32.ofInt 1)) rfl (L' := #[.val (.ref w), .val (.int pp), .val (.long rk), .second, .val (.long sn), .second, .val (.int (r + Int32.ofInt 1)), .val .null, s8]) rfl ?_
  refine own_s_goto Xp12.here hx (hb hby own_d15_117) (by decide) (pc' := 38) (by decide) ?_
  exact kt
theorem own_d15_65 : decode prog_18_method_6_code 65 = .ok (.iconst 0, 1) := by decide +kernel
theorem own_d15_66 : decode prog_18_method_6_code 66 = .ok (.istore 8, 2) := by decide +kernel
set_option maxRecDepth 65536 in
set_option maxHeartbeats 40000000 in
theorem own_seg_p2 {p : Program} {l : Launch} {e : Env} {R : Room} {s : State} {m : MethodId} {args : Array Value} {below : List Frame} {meth : Method} {c : Code} {T0 : State} {locs : List Loc} {cells slots : Nat} {Z : State} {a0 : Array Value} {h0 : Heap} (w : Addr) (rg : Addr) (pp : Int32) (rk : Int64) (sn : Int64) (r : Int32) (rvs : List Value) (bk : Addr) (s7 : Slot) (s8 : Slot) {rgk : ClassId}
    (X0 : Stand p l e R s m args below meth c T0 locs cells slots) (hx : p.tables.exec = Jvm.exec) (hZ : Z.Warmed39 s.vm) (hw : ∀ d ∈ tables_1, d.before a0 Z = true) (hby : c.code = prog_18_method_6_code) (hml : c.maxLocals = 9) (hown : s.vm.findClass "millrace/DurationHistogram" = some m.cls) (e0 : T0.heap = h0) (E_w : Exa Z h0 w "millrace/DurationHistogram") (F_ranges_w : Fld Z h0 w "millrace/DurationHistogram" "ranges" "[[J" (.ref rg)) (V_rg : Arv Z h0 rg rgk (.array .long) (57 : Int32) rvs (.null)) (O_rg : OvrA Z rgk .long "[J") (pl_s7 : own_Pl s7) (pl_s8 : own_Pl s8) (p2_hb45 : if_icmp.holds .ge r (57 : Int32) = false) (p2_hin54 : ¬ r < 0 ∧ r < (57 : Int32)) (p2_hel54 : rvs.getD (Int32.toNatClampNeg r) (.null) = (.ref bk)) :
    ∃ (T' : State), Stand p l e R s m args below meth c T' locs cells slots ∧ T'.heap = h0 ∧ ∀ target, Steps p.tables e below (T'.setTop (mkF m 68 #[.val (.ref w), .val (.int pp), .val (.long rk), .second, .val (.long sn), .second, .val (.int r), .val (.ref bk), .val (.int (0 : Int32))] [])) target → Steps p.tables e below (T0.setTop (mkF m 38 #[.val (.ref w), .val (.int pp), .val (.long rk), .second, .val (.long sn), .second, .val (.int r), s7, s8] [])) target := by
  obtain ⟨Tp21, Xp21, ep21, stp21⟩ := getF X0 hx hZ hown (host := "") (Or.inl (hw _ (List.mem_of_getElem? (i := 37) rfl))) Via.refl e0 F_ranges_w (g := (mkF m 41 #[.val (.ref w), .val (.int pp), .val (.long rk), .second, .val (.long sn), .second, .val (.int r), s7, s8] [(.ref w), (.int r)])) rfl rfl (hb hby own_d15_41)
  obtain ⟨Tp22, Xp22, ep22, stp22⟩ := getF Xp21 hx hZ hown (host := "") (Or.inl (hw _ (List.mem_of_getElem? (i := 37) rfl))) Via.refl ep21 F_ranges_w (g := (mkF m 49 #[.val (.ref w), .val (.int pp), .val (.long rk), .second, .val (.long sn), .second, .val (.int r), s7, s8] [(.ref w)])) rfl rfl (hb hby own_d15_49)
  refine ⟨Tp22, Xp22, ep22, fun target kt => ?_⟩
  refine own_s_iload X0.here hx (hb hby own_d15_38) (pc' := 40) rfl rfl ?_
  refine own_s_aloadN X0.here hx (hb hby own_d15_40) (pc' := 41) rfl rfl rfl ?_
  refine stp21 _ ?_
  show Steps p.tables e below (Tp21.setTop (mkF m 44 #[.val (.ref w), .val (.int pp), .val (.long rk), .second, .val (.long sn), .second, .val (.int r), s7, s8] [(.ref rg), (.int r)])) _
  refine own_len Xp21 hx hZ ep21 V_rg (hb hby own_d15_44) (pc' := 45) rfl ?_
  refine own_s_icmpNo Xp21.here hx (hb hby own_d15_45) (pc' := 48) rfl p2_hb45 ?_
  refine own_s_aloadN Xp21.here hx (hb hby own_d15_48) (pc' := 49) rfl rfl rfl ?_
  refine stp22 _ ?_
  show Steps p.tables e below (Tp22.setTop (mkF m 52 #[.val (.ref w), .val (.int pp), .val (.long rk), .second, .val (.long sn), .second, .val (.int r), s7, s8] [(.ref rg)])) _
  refine own_s_iload Xp22.here hx (hb hby own_d15_52) (pc' := 54) rfl rfl ?_
  refine own_ldR Xp22 hx hZ ep22 V_rg (j := r) (v := (.ref bk)) p2_hin54 p2_hel54 (hb hby own_d15_54) (pc' := 55) rfl ?_
  refine own_s_astore Xp22.here hx (hb hby own_d15_55) (pc' := 57) rfl rfl (L' := #[.val (.ref w), .val (.int pp), .val (.long rk), .second, .val (.long sn), .second, .val (.int r), .val (.ref bk), s8]) (own_st1 rfl pl_s7 rfl) ?_
  refine own_s_aload Xp22.here hx (hb hby own_d15_57) (pc' := 59) rfl rfl rfl ?_
  refine own_s_ifnonnullYes Xp22.here hx (hb hby own_d15_59) (by decide) (pc' := 65) (by decide) ?_
  refine own_s_iconst Xp22.here hx (hb hby own_d15_65) (pc' := 66) rfl (v := (0 : Int32)) (by decide) ?_
  refine own_s_istore Xp22.here hx (hb hby own_d15_66) (pc' := 68) rfl (L' := #[.val (.ref w), .val (.int pp), .val (.long rk), .second, .val (.long sn), .second, .val (.int r), .val (.ref bk), .val (.int (0 : Int32))]) (own_st1 rfl pl_s8 rfl) ?_
  exact kt
theorem own_d15_68 : decode prog_18_method_6_code 68 = .ok (.iload 8, 2) := by decide +kernel
theorem own_d15_70 : decode prog_18_method_6_code 70 = .ok (.sipush 128, 3) := by decide +kernel
theorem own_d15_73 : decode prog_18_method_6_code 73 = .ok (.if_icmp .ge 41, 3) := by decide +kernel
theorem own_d15_76 : decode prog_18_method_6_code 76 = .ok (.lload 4, 2) := by decide +kernel
theorem own_d15_78 : decode prog_18_method_6_code 78 = .ok (.aload 7, 2) := by decide +kernel
theorem own_d15_80 : decode prog_18_method_6_code 80 = .ok (.iload 8, 2) := by decide +kernel
theorem own_d15_82 : decode prog_18_method_6_code 82 = .ok (.laload, 1) := by decide +kernel
theorem own_d15_83 : decode prog_18_method_6_code 83 = .ok (.ladd, 1) := by decide +kernel
theorem own_d15_84 : decode prog_18_method_6_code 84 = .ok (.lstore 4, 2) := by decide +kernel
theorem own_d15_86 : decode prog_18_method_6_code 86 = .ok (.lload 4, 2) := by decide +kernel
theorem own_d15_88 : decode prog_18_method_6_code 88 = .ok (.lload_n 2, 1) := by decide +kernel
theorem own_d15_89 : decode prog_18_method_6_code 89 = .ok (.lcmp, 1) := by decide +kernel
theorem own_d15_90 : decode prog_18_method_6_code 90 = .ok (.ifCond .lt 18, 3) := by decide +kernel
theorem own_d15_108 : decode prog_18_method_6_code 108 = .ok (.iinc 8 1, 3) := by decide +kernel
theorem own_d15_111 : decode prog_18_method_6_code 111 = .ok (.goto (-43), 3) := by decide +kernel
set_option maxRecDepth 65536 in
set_option maxHeartbeats 40000000 in
theorem own_seg_p3 {p : Program} {l : Launch} {e : Env} {R : Room} {s : State} {m : MethodId} {args : Array Value} {below : List Frame} {meth : Method} {c : Code} {T0 : State} {locs : List Loc} {cells slots : Nat} {Z : State} {a0 : Array Value} {h0 : Heap} (w : Addr) (pp : Int32) (rk : Int64) (sn : Int64) (r : Int32) (bk : Addr) (bvs : List Value) (u : Int32) {bkk : ClassId} {p3_v82 : Int64}
    (X0 : Stand p l e R s m args below meth c T0 locs cells slots) (hx : p.tables.exec = Jvm.exec) (hZ : Z.Warmed39 s.vm) (hw : ∀ d ∈ tables_1, d.before a0 Z = true) (hby : c.code = prog_18_method_6_code) (hml : c.maxLocals = 9) (hown : s.vm.findClass "millrace/DurationHistogram" = some m.cls) (e0 : T0.heap = h0) (V_bk : Arv Z h0 bk bkk .long (128 : Int32) bvs (.long 0)) (p3_hb73 : if_icmp.holds .ge u (128 : Int32) = false) (p3_hin82 : ¬ u < 0 ∧ u < (128 : Int32)) (p3_hel82 : bvs.getD (Int32.toNatClampNeg u) (.long 0) = (.long p3_v82)) (p3_hb90 : ifCond.holds .lt (lcmpW (sn + p3_v82) rk) = true) :
    ∃ (T' : State), Stand p l e R s m args below meth c T' locs cells slots ∧ T'.heap = h0 ∧ ∀ target, Steps p.tables e below (T'.setTop (mkF m 68 #[.val (.ref w), .val (.int pp), .val (.long rk), .second, .val (.long (sn + p3_v82)), .second, .val (.int r), .val (.ref bk), .val (.int (u + Int32.ofInt 1))] [])) target → Steps p.tables e below (T0.setTop (mkF m 68 #[.val (.ref w), .val (.int pp), .val (.long rk), .second, .val (.long sn), .second, .val (.int r), .val (.ref bk), .val (.int u)] [])) target := by
  refine ⟨T0, X0, e0, fun target kt => ?_⟩
  refine own_s_iload X0.here hx (hb hby own_d15_68) (pc' := 70) rfl rfl ?_
  refine own_s_sipush X0.here hx (hb hby own_d15_70) (pc' := 73) rfl (v := (128 : Int32)) (by decide) ?_
  refine own_s_icmpNo X0.here hx (hb hby own_d15_73) (pc' := 76) rfl p3_hb73 ?_
  refine own_s_lload X0.here hx (hb hby own_d15_76) (pc' := 78) rfl rfl ?_
  refine own_s_aload X0.here hx (hb hby own_d15_78) (pc' := 80) rfl rfl rfl ?_
  refine own_s_iload X0.here hx (hb hby own_d15_80) (pc' := 82) rfl rfl ?_
  refine own_ldJ X0 hx hZ e0 V_bk (j := u) (x := p3_v82) p3_hin82 p3_hel82 (hb hby own_d15_82) (pc' := 83) rfl ?_
  refine own_s_ladd X0.here hx (hb hby own_d15_83) (pc' := 84) rfl (v := (sn + p3_v82)) rfl ?_
  refine own_s_lstore X0.here hx (hb hby own_d15_84) (pc' := 86) rfl (L' := #[.val (.ref w), .val (.int pp), .val (.long rk), .second, .val (.long (sn + p3_v82)), .second, .val (.int r), .val (.ref bk), .val (.int u)]) rfl ?_
  refine own_s_lload X0.here hx (hb hby own_d15_86) (pc' := 88) rfl rfl ?_
  refine own_s_lloadN X0.here hx (hb hby own_d15_88) (pc' := 89) rfl rfl ?_
  refine own_s_lcmp X0.here hx (hb hby own_d15_89) (pc' := 90) rfl (v := (lcmpW (sn + p3_v82) rk)) rfl ?_
  refine own_s_ifYes X0.here hx (hb hby own_d15_90) (by decide) (pc' := 108) (by decide) p3_hb90 ?_
  refine own_s_iinc X0.here hx (hb hby own_d15_108) (pc' := 111) rfl rfl (v := (u + Int32.ofInt 1)) rfl (L' := #[.val (.ref w), .val (.int pp), .val (.long rk), .second, .val (.long (sn + p3_v82)), .second, .val (.int r), .val (.ref bk), .val (.int (u + Int32.ofInt 1))]) rfl ?_
  refine own_s_goto X0.here hx (hb hby own_d15_111) (by decide) (pc' := 68) (by decide) ?_
  exact kt
set_option maxRecDepth 65536 in
set_option maxHeartbeats 40000000 in
theorem own_seg_p4 {p : Program} {l : Launch} {e : Env} {R : Room} {s : State} {m : MethodId} {args : Array Value} {below : List Frame} {meth : Method} {c : Code} {T0 : State} {locs : List Loc} {cells slots : Nat} {Z : State} {a0 : Array Value} {h0 : Heap} (w : Addr) (pp : Int32) (rk : Int64) (sn : Int64) (r : Int32) (bk : Addr) (bvs : List Value) (u : Int32) {bkk : ClassId} {p4_v82 : Int64}
    (X0 : Stand p l e R s m args below meth c T0 locs cells slots) (hx : p.tables.exec = Jvm.exec) (hZ : Z.Warmed39 s.vm) (hw : ∀ d ∈ tables_1, d.before a0 Z = true) (hby : c.code = prog_18_method_6_code) (hml : c.maxLocals = 9) (hown : s.vm.findClass "millrace/DurationHistogram" = some m.cls) (e0 : T0.heap = h0) (V_bk : Arv Z h0 bk bkk .long (128 : Int32) bvs (.long 0)) (p4_hb73 : if_icmp.holds .ge u (128 : Int32) = false) (p4_hin82 : ¬ u < 0 ∧ u < (128 : Int32)) (p4_hel82 : bvs.getD (Int32.toNatClampNeg u) (.long 0) = (.long p4_v82)) (p4_hb90 : ifCond.holds .lt (lcmpW (sn + p4_v82) rk) = false) :
    ∃ (T' : State), Stand p l e R s m args below meth c T' locs cells slots ∧ T'.heap = h0 ∧ ∀ target, Steps p.tables e below (T'.setTop (mkF m 93 #[.val (.ref w), .val (.int pp), .val (.long rk), .second, .val (.long (sn + p4_v82)), .second, .val (.int r), .val (.ref bk), .val (.int u)] [])) target → Steps p.tables e below (T0.setTop (mkF m 68 #[.val (.ref w), .val (.int pp), .val (.long rk), .second, .val (.long sn), .second, .val (.int r), .val (.ref bk), .val (.int u)] [])) target := by
  refine ⟨T0, X0, e0, fun target kt => ?_⟩
  refine own_s_iload X0.here hx (hb hby own_d15_68) (pc' := 70) rfl rfl ?_
  refine own_s_sipush X0.here hx (hb hby own_d15_70) (pc' := 73) rfl (v := (128 : Int32)) (by decide) ?_
  refine own_s_icmpNo X0.here hx (hb hby own_d15_73) (pc' := 76) rfl p4_hb73 ?_
  refine own_s_lload X0.here hx (hb hby own_d15_76) (pc' := 78) rfl rfl ?_
  refine own_s_aload X0.here hx (hb hby own_d15_78) (pc' := 80) rfl rfl rfl ?_
  refine own_s_iload X0.here hx (hb hby own_d15_80) (pc' := 82) rfl rfl ?_
  refine own_ldJ X0 hx hZ e0 V_bk (j := u) (x := p4_v82) p4_hin82 p4_hel82 (hb hby own_d15_82) (pc' := 83) rfl ?_
  refine own_s_ladd X0.here hx (hb hby own_d15_83) (pc' := 84) rfl (v := (sn + p4_v82)) rfl ?_
  refine own_s_lstore X0.here hx (hb hby own_d15_84) (pc' := 86) rfl (L' := #[.val (.ref w), .val (.int pp), .val (.long rk), .second, .val (.long (sn + p4_v82)), .second, .val (.int r), .val (.ref bk), .val (.int u)]) rfl ?_
  refine own_s_lload X0.here hx (hb hby own_d15_86) (pc' := 88) rfl rfl ?_
  refine own_s_lloadN X0.here hx (hb hby own_d15_88) (pc' := 89) rfl rfl ?_
  refine own_s_lcmp X0.here hx (hb hby own_d15_89) (pc' := 90) rfl (v := (lcmpW (sn + p4_v82) rk)) rfl ?_
  refine own_s_ifNo X0.here hx (hb hby own_d15_90) (pc' := 93) rfl p4_hb90 ?_
  exact kt
set_option maxRecDepth 65536 in
set_option maxHeartbeats 40000000 in
theorem own_seg_p5 {p : Program} {l : Launch} {e : Env} {R : Room} {s : State} {m : MethodId} {args : Array Value} {below : List Frame} {meth : Method} {c : Code} {T0 : State} {locs : List Loc} {cells slots : Nat} {Z : State} {a0 : Array Value} {h0 : Heap} (w : Addr) (pp : Int32) (rk : Int64) (sn : Int64) (r : Int32) (bk : Addr) (u : Int32) 
    (X0 : Stand p l e R s m args below meth c T0 locs cells slots) (hx : p.tables.exec = Jvm.exec) (hZ : Z.Warmed39 s.vm) (hw : ∀ d ∈ tables_1, d.before a0 Z = true) (hby : c.code = prog_18_method_6_code) (hml : c.maxLocals = 9) (hown : s.vm.findClass "millrace/DurationHistogram" = some m.cls) (e0 : T0.heap = h0)  (p5_hb73 : if_icmp.holds .ge u (128 : Int32) = true) :
    ∃ (T' : State), Stand p l e R s m args below meth c T' locs cells slots ∧ T'.heap = h0 ∧ ∀ target, Steps p.tables e below (T'.setTop (mkF m 38 #[.val (.ref w), .val (.int pp), .val (.long rk), .second, .val (.long sn), .second, .val (.int (r + Int32.ofInt 1)), .val (.ref bk), .val (.int u)] [])) target → Steps p.tables e below (T0.setTop (mkF m 68 #[.val (.ref w), .val (.int pp), .val (.long rk), .second, .val (.long sn), .second, .val (.int r), .val (.ref bk), .val (.int u)] [])) target := by
  refine ⟨T0, X0, e0, fun target kt => ?_⟩
  refine own_s_iload X0.here hx (hb hby own_d15_68) (pc' := 70) rfl rfl ?_
  refine own_s_sipush X0.here hx (hb hby own_d15_70) (pc' := 73) rfl (v := (128 : Int32)) (by decide) ?_
  refine own_s_icmpYes X0.here hx (hb hby own_d15_73) (by decide) (pc' := 114) (by decide) p5_hb73 ?_
  refine own_s_iinc X0.here hx (hb hby own_d15_114) (pc' := 117) rfl rfl (v := (r + Int32.ofInt 1)) rfl (L' := #[.val (.ref w), .val (.int pp), .val (.long rk), .second, .val (.long sn), .second, .val (.int (r + Int32.ofInt 1)), .val (.ref bk), .val (.int u)]) rfl ?_
  refine own_s_goto X0.here hx (hb hby own_d15_117) (by decide) (pc' := 38) (by decide) ?_
  exact kt
theorem own_lcT {x y : Int64} (h : x.toInt < y.toInt) : ifCond.holds .lt (lcmpW x y) = true := by
  rw [show lcmpW x y = -1 from Int32.toInt_inj.mp ((c_lcmp x y).1 h)]; decide
theorem own_lcF {x y : Int64} (h : ¬ x.toInt < y.toInt) : ifCond.holds .lt (lcmpW x y) = false := by
  rcases Int.lt_trichotomy x.toInt y.toInt with q | q | q
  · exact absurd q h
  · rw [show lcmpW x y = 0 from Int32.toInt_inj.mp ((c_lcmp x y).2.1 q)]; decide
  · rw [show lcmpW x y = 1 from Int32.toInt_inj.mp ((c_lcmp x y).2.2 q)]; decide
theorem own_i1 (i : Nat) : Int32.ofNat i + Int32.ofInt 1 = Int32.ofNat (i + 1) := by rw [Int32.ofNat_add]; rfl
theorem own_iN {i : Nat} (h : i < 1000) : (Int32.ofNat i).toInt = i := Int32.toInt_ofNat_of_lt (by omega)
theorem own_lN {i : Nat} (h : i < 4611686018427387904) : (Int64.ofNat i).toInt = i := Int64.toInt_ofNat_of_lt (by omega)
theorem own_cN {i : Nat} (h : i < 1000) : Int32.toNatClampNeg (Int32.ofNat i) = i := by show (Int32.ofNat i).toInt.toNat = i; rw [own_iN h]; rfl
theorem own_iLt {i n : Nat} (h : i < n) (hn : n < 1000) : Int32.ofNat i < Int32.ofNat n := Int32.lt_iff_toInt_lt.mpr (by rw [own_iN (by omega), own_iN hn]; omega)
theorem own_iInb {i n : Nat} (h : i < n) (hn : n < 1000) : ¬ Int32.ofNat i < 0 ∧ Int32.ofNat i < Int32.ofNat n := ⟨fun q => by have := Int32.lt_iff_toInt_lt.mp q; rw [own_iN (by omega), show (0 : Int32).toInt = 0 from rfl] at this; omega, own_iLt h hn⟩
def own_fd (p : Program) (e : Env) (below : List Frame) (m : MethodId) (w : Addr) (pp : Int32) (rk : Int64) (h0 : Heap) (P : State → Prop) (T0 : State) (f : JFrame) : Prop :=
  ∃ (T' : State) (sn : Int64) (r u : Int32) (bk : Addr), P T' ∧ T'.heap = h0 ∧ ∀ target, Steps p.tables e below (T'.setTop (mkF m 93 #[.val (.ref w), .val (.int pp), .val (.long rk), .second, .val (.long sn), .second, .val (.int r), .val (.ref bk), .val (.int u)] [])) target → Steps p.tables e below (T0.setTop f) target
set_option maxHeartbeats 4000000 in
theorem own_inner {p : Program} {l : Launch} {e : Env} {R : Room} {s : State} {m : MethodId} {args : Array Value} {below : List Frame} {meth : Method} {c : Code} {locs : List Loc} {cells slots : Nat} {Z : State} {a0 : Array Value} {h0 : Heap} {w rg : Addr} {pp : Int32} {rk : Int64}
    (hx : p.tables.exec = Jvm.exec) (hZ : Z.Warmed39 s.vm) (hw : ∀ d ∈ tables_1, d.before a0 Z = true) (hby : c.code = prog_18_method_6_code) (hml : c.maxLocals = 9) (hown : s.vm.findClass "millrace/DurationHistogram" = some m.cls) {bk : Addr} {bkk : ClassId} {ns : List Nat} (V : Arv Z h0 bk bkk .long (128 : Int32) (ns.map own_nl) (.long 0)) (hl : ns.length = 128) (i : Nat) :
    ∀ (n j q : Nat) (T0 : State), j + n = 128 → q + (ns.drop j).sum < 4611686018427387904 → (q : Int) < rk.toInt → Stand p l e R s m args below meth c T0 locs cells slots → T0.heap = h0 →
      own_fd p e below m w pp rk h0 (fun T => Stand p l e R s m args below meth c T locs cells slots) T0 (mkF m 68 #[.val (.ref w), .val (.int pp), .val (.long rk), .second, .val (.long (Int64.ofNat q)), .second, .val (.int (Int32.ofNat i)), .val (.ref bk), .val (.int (Int32.ofNat j))] []) ∨
      ∃ T', Stand p l e R s m args below meth c T' locs cells slots ∧ T'.heap = h0 ∧ ((q + (ns.drop j).sum : Nat) : Int) < rk.toInt ∧ ∀ target, Steps p.tables e below (T'.setTop (mkF m 38 #[.val (.ref w), .val (.int pp), .val (.long rk), .second, .val (.long (Int64.ofNat (q + (ns.drop j).sum))), .second, .val (.int (Int32.ofNat (i + 1))), .val (.ref bk), .val (.int (Int32.ofNat 128))] [])) target → Steps p.tables e below (T0.setTop (mkF m 68 #[.val (.ref w), .val (.int pp), .val (.long rk), .second, .val (.long (Int64.ofNat q)), .second, .val (.int (Int32.ofNat i)), .val (.ref bk), .val (.int (Int32.ofNat j))] [])) target := by
  intro n
  induction n with
  | zero =>
    intro j q T0 hj hq hr X0 e0
    obtain rfl : j = 128 := by omega
    have hd : (ns.drop 128).sum = 0 := by rw [List.drop_eq_nil_of_le (by omega)]; rfl
    obtain ⟨T1, X1, e1, st⟩ := own_seg_p5 w pp rk (Int64.ofNat q) (Int32.ofNat i) bk (Int32.ofNat 128) X0 hx hZ hw hby hml hown e0 (by decide)
    rw [own_i1] at st
    rw [hd]
    exact Or.inr ⟨T1, X1, e1, hr, st⟩
  | succ n ih =>
    intro j q T0 hj hq hr X0 e0
    have hlt : j < ns.length := by omega
    have hdr : (ns.drop j).sum = ns.getD j 0 + (ns.drop (j + 1)).sum := by
      rw [List.drop_eq_getElem_cons hlt, List.sum_cons, List.getD_eq_getElem?_getD, List.getElem?_eq_getElem hlt]; rfl
    have hel : (ns.map own_nl).getD (Int32.toNatClampNeg (Int32.ofNat j)) (.long 0) = .long (Int64.ofNat (ns.getD j 0)) := by rw [own_cN (by omega)]; exact own_map_get ns j
    have hadd : Int64.ofNat q + Int64.ofNat (ns.getD j 0) = Int64.ofNat (q + ns.getD j 0) := (Int64.ofNat_add _ _).symm
    have hin : ¬ Int32.ofNat j < 0 ∧ Int32.ofNat j < (128 : Int32) := own_iInb (n := 128) (by omega) (by decide)
    by_cases hc : ((q + ns.getD j 0 : Nat) : Int) < rk.toInt
    · obtain ⟨T1, X1, e1, st⟩ := own_seg_p3 w pp rk (Int64.ofNat q) (Int32.ofNat i) bk (ns.map own_nl) (Int32.ofNat j) X0 hx hZ hw hby hml hown e0 V (XT.ii_ge_f hin.2) hin hel (by rw [hadd]; exact own_lcT (by rw [own_lN (by omega)]; exact hc))
      rw [hadd, own_i1] at st
      rcases ih (j + 1) (q + ns.getD j 0) T1 (by omega) (by omega) hc X1 e1 with ⟨T2, sn, r, u, b, X2, e2, st2⟩ | ⟨T2, X2, e2, h2, st2⟩
      · exact Or.inl ⟨T2, sn, r, u, b, X2, e2, fun t k => st t (st2 t k)⟩
      · rw [Nat.add_assoc, ← hdr] at h2 st2
        exact Or.inr ⟨T2, X2, e2, h2, fun t k => st t (st2 t k)⟩
    · obtain ⟨T1, X1, e1, st⟩ := own_seg_p4 w pp rk (Int64.ofNat q) (Int32.ofNat i) bk (ns.map own_nl) (Int32.ofNat j) X0 hx hZ hw hby hml hown e0 V (XT.ii_ge_f hin.2) hin hel (by rw [hadd]; exact own_lcF (by rw [own_lN (by omega)]; exact hc))
      exact Or.inl ⟨T1, _, _, _, _, X1, e1, st⟩
set_option maxHeartbeats 4000000 in
theorem own_outer {p : Program} {l : Launch} {e : Env} {R : Room} {s : State} {m : MethodId} {args : Array Value} {below : List Frame} {meth : Method} {c : Code} {locs : List Loc} {cells slots : Nat} {Z : State} {a0 : Array Value} {h0 : Heap} {w rg : Addr} {pp : Int32} {rk : Int64}
    (hx : p.tables.exec = Jvm.exec) (hZ : Z.Warmed39 s.vm) (hw : ∀ d ∈ tables_1, d.before a0 Z = true) (hby : c.code = prog_18_method_6_code) (hml : c.maxLocals = 9) (hown : s.vm.findClass "millrace/DurationHistogram" = some m.cls) {rgk : ClassId} {rvs : List Value} (E : Exa Z h0 w "millrace/DurationHistogram") (F : Fld Z h0 w "millrace/DurationHistogram" "ranges" "[[J" (.ref rg)) (V : Arv Z h0 rg rgk (.array .long) (57 : Int32) rvs .null) (O : OvrA Z rgk .long "[J") (hl : rvs.length = 57) {vs : List Value} {as : List Addr} {t : Nat} (B : own_Bks Z h0 vs as t) :
    ∀ (i q : Nat) (T0 : State) (s7 s8 : Slot), rvs.drop i = vs → i ≤ 57 → q + t < 4611686018427387904 → (q : Int) < rk.toInt → rk.toInt ≤ ((q + t : Nat) : Int) → own_Pl s7 → own_Pl s8 → Stand p l e R s m args below meth c T0 locs cells slots → T0.heap = h0 →
      own_fd p e below m w pp rk h0 (fun T => Stand p l e R s m args below meth c T locs cells slots) T0 (mkF m 38 #[.val (.ref w), .val (.int pp), .val (.long rk), .second, .val (.long (Int64.ofNat q)), .second, .val (.int (Int32.ofNat i)), s7, s8] []) := by
  induction B using own_Bks.ind with
  | nil => intro i q T0 s7 s8 hv hi hq h1 h2; omega
  | @null vs as t B ih =>
    intro i q T0 s7 s8 hv hi hq h1 h2 p7 p8 X0 e0
    have hlt : i < 57 := by
      have := congrArg List.length hv
      rw [List.length_drop, List.length_cons] at this; omega
    have hx0 : rvs[i]? = some .null := by rw [← List.head?_drop, hv]; rfl
    have hx1 : rvs.drop (i + 1) = vs := by rw [← List.tail_drop, hv]; rfl
    have hin : ¬ Int32.ofNat i < 0 ∧ Int32.ofNat i < (57 : Int32) := own_iInb (n := 57) hlt (by decide)
    obtain ⟨T1, X1, e1, st⟩ := own_seg_p1 w rg pp rk (Int64.ofNat q) (Int32.ofNat i) rvs s7 s8 X0 hx hZ hw hby hml hown e0 E F V O p7 p8 (XT.ii_ge_f hin.2) hin (by rw [own_cN (by omega)]; exact own_getD_of hx0)
    rw [own_i1] at st
    obtain ⟨T2, sn, r, u, b, X2, e2, st2⟩ := ih (i + 1) q T1 (.val .null) s8 hx1 (by omega) hq h1 h2 (Or.inr ⟨_, rfl, rfl⟩) p8 X1 e1
    exact ⟨T2, sn, r, u, b, X2, e2, fun t k => st t (st2 t k)⟩
  | @ref vs as t b kb ns A hln hn B ih =>
    intro i q T0 s7 s8 hv hi hq h1 h2 p7 p8 X0 e0
    have hlt : i < 57 := by
      have := congrArg List.length hv
      rw [List.length_drop, List.length_cons] at this; omega
    have hx0 : rvs[i]? = some (.ref b) := by rw [← List.head?_drop, hv]; rfl
    have hx1 : rvs.drop (i + 1) = vs := by rw [← List.tail_drop, hv]; rfl
    have hin : ¬ Int32.ofNat i < 0 ∧ Int32.ofNat i < (57 : Int32) := own_iInb (n := 57) hlt (by decide)
    obtain ⟨T1, X1, e1, st⟩ := own_seg_p2 w rg pp rk (Int64.ofNat q) (Int32.ofNat i) rvs b s7 s8 X0 hx hZ hw hby hml hown e0 E F V O p7 p8 (XT.ii_ge_f hin.2) hin (by rw [own_cN (by omega)]; exact own_getD_of hx0)
    have hd0 : ns.drop 0 = ns := rfl
    rcases own_inner (rg := rg) hx hZ hw hby hml hown A hln i 128 0 q T1 rfl (by rw [hd0]; omega) h1 X1 e1 with ⟨T2, sn, r, u, b, X2, e2, st2⟩ | ⟨T2, X2, e2, h3, st2⟩
    · exact ⟨T2, sn, r, u, b, X2, e2, fun t k => st t (st2 t k)⟩
    · rw [hd0] at h3 st2
      obtain ⟨T3, sn, r, u, b, X3, e3, st3⟩ := ih (i + 1) (q + ns.sum) T2 (.val (.ref b)) (.val (.int (Int32.ofNat 128))) hx1 (by omega) (by omega) h3 (by omega) (Or.inr ⟨_, rfl, rfl⟩) (Or.inr ⟨_, rfl, rfl⟩) X2 e2
      exact ⟨T3, sn, r, u, b, X3, e3, fun t k => st t (st2 t (st3 t k))⟩
theorem own_d15_93 : decode prog_18_method_6_code 93 = .ok (.aload_n 0, 1) := by decide +kernel
theorem own_d15_94 : decode prog_18_method_6_code 94 = .ok (.getfield 43, 3) := by decide +kernel
theorem own_d15_97 : decode prog_18_method_6_code 97 = .ok (.iload 6, 2) := by decide +kernel
theorem own_d15_99 : decode prog_18_method_6_code 99 = .ok (.iload 8, 2) := by decide +kernel
theorem own_pd_28II29J : parseMethodDescriptor "(II)J" = some ⟨[.int, .int], some .long⟩ := by decide +kernel
theorem own_d15_101 : decode prog_18_method_6_code 101 = .ok (.invokestatic 58, 3) := by decide +kernel
theorem own_d15_104 : decode prog_18_method_6_code 104 = .ok (.invokestatic 62, 3) := by decide +kernel
theorem own_d15_107 : decode prog_18_method_6_code 107 = .ok (.lreturn, 1) := by decide +kernel
theorem own_ef_pct (m : MethodId) (w : Addr) (pp : Int32) : entryFrame m #[(.ref w), (.int pp)] 9 = mkF m 0 #[.val (.ref w), .val (.int pp), .unset, .unset, .unset, .unset, .unset, .unset, .unset] [] := by first | (simp [entryFrame, mkF, argsToLocals, Value.category]; done) | rfl
set_option maxRecDepth 65536 in
set_option maxHeartbeats 40000000 in
theorem own_rm_pct (l : Launch) (Z : State) (a0 : Array Value) (hw : ∀ d ∈ tables_1, d.before a0 Z = true) (ws : List Jvm.Cond) (w : Addr) (rg : Addr) (cnt : Int64) (sm : UInt64) (mx : Int64) (pp : Int32) (rvs : List Value) (as : List Addr) (t : Nat) {rgk : ClassId} (h0 : Heap) (n0 : Nat) (Z0 : n0 ≤ h0.size) (E_w : Exa Z h0 w "millrace/DurationHistogram") (F_ranges_w : Fld Z h0 w "millrace/DurationHistogram" "ranges" "[[J" (.ref rg)) (F_count_w : Fld Z h0 w "millrace/DurationHistogram" "count" "J" (.long cnt)) (F_sum_w : Fld Z h0 w "millrace/DurationHistogram" "sum" "D" (.double sm)) (F_max_w : Fld Z h0 w "millrace/DurationHistogram" "max" "J" (.long mx)) (V_rg : Arv Z h0 rg rgk (.array .long) (57 : Int32) rvs (.null)) (O_rg : OvrA Z rgk .long "[J") (hl : rvs.length = 57) (BK : own_Bks Z h0 rvs as t) (ht : t < 4611686018427387904) (hr0 : 0 < (own_rank cnt pp).toInt) (hr1 : (own_rank cnt pp).toInt ≤ (t : Int)) :
    MetFree l (⟨"millrace/DurationHistogram", "percentile", "(I)J"⟩ : MethodName) (head1 (Jvm.Cond.code (⟨"millrace/DurationHistogram", "percentile", "(I)J"⟩ : MethodName) prog_18_method_6_code 9 (some .long) :: ws) ({ frames := 1, cells := 0, slots := 0, locals := 18 } : Room)) (fun a U => a = #[(.ref w), (.int pp)] ∧ Z.Warmed39 U.vm ∧ U.heap = h0) (fun _ _ _ _ _ => True) (fun _ U o U' => ∃ v L, o = .returned v ∧ own_QX h0 n0 v U'.heap L ∧ FrameEnd U o U' L ({ frames := 1, cells := 0, slots := 0, locals := 18 } : Room).cells ({ frames := 1, cells := 0, slots := 0, locals := 18 } : Room).slots) := by
  refine MetFree.of_bodySF (plainFor_of_name own_pn_millrace_DurationHistogram) hisR ?_
  intro p e s m args below meth c s₁ Bd hml0 hP hK
  obtain ⟨rfl, hZ, hh⟩ := hP
  have hx := Bd.exec
  have hby := Bd.bytes
  have hml : c.maxLocals = 9 := hml0
  have hown : s.vm.findClass "millrace/DurationHistogram" = some m.cls := findClass_of_methodNamed Bd.named
  have hnm := (name_of_methodNamed Bd.named Bd.method).1
  have X0 : Stand p l e ({ frames := 1, cells := 0, slots := 0, locals := 18 } : Room) s m #[(.ref w), (.int pp)] below meth c s₁ [] 0 0 := Stand.of_body Bd
  have e0 : s₁.heap = h0 := by rw [← hh, Bd.state]; rfl
  have N0 := Fr.nil n0
  have pre0 : ∀ t, Steps p.tables e below (s₁.setTop (mkF m 0 #[.val (.ref w), .val (.int pp), .unset, .unset, .unset, .unset, .unset, .unset, .unset] [])) t → Steps p.tables e below (s₁.setTop (entryFrame m #[(.ref w), (.int pp)] 9)) t := fun t k => castTop (own_ef_pct m w pp) k
  obtain ⟨Tpct1, Xpct1, epct1, stpct1⟩ := getF X0 hx hZ hown (host := "") (Or.inl (hw _ (List.mem_of_getElem? (i := 73) rfl))) Via.refl e0 F_count_w (g := (mkF m 1 #[.val (.ref w), .val (.int pp), .unset, .unset, .unset, .unset, .unset, .unset, .unset] [(.ref w)])) rfl rfl (hb hby own_d15_1)
  obtain ⟨Tpct2, Xpct2, epct2, stpct2⟩ := getF Xpct1 hx hZ hown (host := "") (Or.inl (hw _ (List.mem_of_getElem? (i := 73) rfl))) Via.refl epct1 F_count_w (g := (mkF m 12 #[.val (.ref w), .val (.int pp), .unset, .unset, .unset, .unset, .unset, .unset, .unset] [(.ref w), (.long ((cnt / (100 : Int64)) * (Int32.toInt64 pp)))])) rfl rfl (hb hby own_d15_12)
  obtain ⟨Tpct3, snpct3, rpct3, upct3, bkpct3, Xpct3, epct3, stpct3⟩ := own_outer (rk := own_rank cnt pp) (pp := pp) hx hZ hw hby hml hown E_w F_ranges_w V_rg O_rg hl BK 0 0 Tpct2 .unset .unset rfl (by decide) (by rw [Nat.zero_add]; exact ht) (by exact_mod_cast hr0) (by rw [Nat.zero_add]; exact hr1) (Or.inl rfl) (Or.inl rfl) Xpct2 epct2
  obtain ⟨Tpct4, Xpct4, epct4, stpct4⟩ := getF Xpct3 hx hZ hown (host := "") (Or.inl (hw _ (List.mem_of_getElem? (i := 77) rfl))) Via.refl epct3 F_max_w (g := (mkF m 94 #[.val (.ref w), .val (.int pp), .val (.long (own_rank cnt pp)), .second, .val (.long snpct3), .second, .val (.int rpct3), .val (.ref bkpct3), .val (.int upct3)] [(.ref w)])) rfl rfl (hb hby own_d15_94)
  obtain ⟨_, _, ⟨Tpct5, Lpct5, kpct5, npct5⟩, -, Xpct5, ⟨Lcpct5, hQpct5, lpct5, ypct5, zpct5⟩, stpct5⟩ := Jvm.LawKit.callS Xpct4 hx (y := (⟨"millrace/DurationHistogram", "middle", "(II)J"⟩ : MethodName)) hown (mvT hZ (hw _ (List.mem_of_getElem? (i := 93) rfl))) (mvT hZ (hw _ (List.mem_of_getElem? (i := 94) rfl))) (mvT hZ (hw _ (List.mem_of_getElem? (i := 30) rfl))) (mvT hZ (hw _ (List.mem_of_getElem? (i := 95) rfl))) (by decide) (backOf (W := 2) (own_rm_md l Z a0 hw [] rpct3 upct3 h0 n0 Z0 ) hZ (hw _ (List.mem_of_getElem? (i := 95) rfl)) (hw _ (List.mem_of_getElem? (i := 30) rfl)) (by decide) (by decide)) (g := (mkF m 101 #[.val (.ref w), .val (.int pp), .val (.long (own_rank cnt pp)), .second, .val (.long snpct3), .second, .val (.int rpct3), .val (.ref bkpct3), .val (.int upct3)] [(.int upct3), (.int rpct3), (.long mx)])) rfl (by rw [hml]; rfl) (argsL := [(.int rpct3), (.int upct3)]) (rest := [(.long mx)]) (lenOf own_pd_28II29J rfl) rfl (by show 2 * 0 + _ ≤ _; exact Nat.le_of_eq rfl) (hb hby own_d15_101) (fun _ _ => ⟨rfl, epct4, (by decide : 0 + 0 ≤ _), (by decide : 0 + 0 ≤ _)⟩)
  dsimp only [Pt.U, Pt.locs, Pt.cells, Pt.slots] at Xpct5 lpct5 ypct5 zpct5 stpct5 hQpct5
  rw [lpct5, ypct5, zpct5] at Xpct5
  obtain ⟨rfl, Npct5q, epct5⟩ := hQpct5
  have Npct5 := Fr.app N0 Npct5q
  obtain ⟨_, _, ⟨Tpct6, Lpct6, kpct6, npct6⟩, -, Xpct6, ⟨Lcpct6, hQpct6, lpct6, ypct6, zpct6⟩, stpct6⟩ := Jvm.LawKit.callS Xpct5 hx (y := (⟨"java/lang/Math", "min", "(JJ)J"⟩ : MethodName)) hown (mvT hZ (hw _ (List.mem_of_getElem? (i := 96) rfl))) (mvT hZ (hw _ (List.mem_of_getElem? (i := 97) rfl))) (mvT hZ (hw _ (List.mem_of_getElem? (i := 55) rfl))) (mvT hZ (hw _ (List.mem_of_getElem? (i := 98) rfl))) (by decide) (backOf (W := 0) (own_rm_mmin l Z a0 hw [] mx (own_mid rpct3 upct3) h0 n0 Z0 ) hZ (hw _ (List.mem_of_getElem? (i := 98) rfl)) (hw _ (List.mem_of_getElem? (i := 55) rfl)) (by decide) (by decide)) (g := (mkF m 104 #[.val (.ref w), .val (.int pp), .val (.long (own_rank cnt pp)), .second, .val (.long snpct3), .second, .val (.int rpct3), .val (.ref bkpct3), .val (.int upct3)] [(.long (own_mid rpct3 upct3)), (.long mx)])) rfl (by rw [hml]; rfl) (argsL := [(.long mx), (.long (own_mid rpct3 upct3))]) (rest := []) (lenOf own_pd_28JJ29J rfl) rfl (by show 2 * 0 + _ ≤ _; exact Nat.le_of_eq rfl) (hb hby own_d15_104) (fun _ _ => ⟨rfl, epct5, (by decide : 0 + 0 ≤ _), (by decide : 0 + 0 ≤ _)⟩)
  dsimp only [Pt.U, Pt.locs, Pt.cells, Pt.slots] at Xpct6 lpct6 ypct6 zpct6 stpct6 hQpct6
  rw [lpct6, ypct6, zpct6] at Xpct6
  obtain ⟨rfl, Npct6q, epct6⟩ := hQpct6
  have Npct6 := Fr.app Npct5 Npct6q
  obtain ⟨fs, hr, hrun, hended, hW, hsame⟩ := Xpct6.leave (v := some (.long (own_lmin mx (own_mid rpct3 upct3)))) (fun h => by rw [Bd.returns] at h; cases h)
  refine ⟨_, _, pre0 _ ?_, hrun, hended, _, _, rfl, ?_, ⟨_, rfl⟩, hW, hsame.mono (by decide) (by decide)⟩
  · refine own_s_aloadN X0.here hx (hb hby own_d15_0) (pc' := 1) rfl rfl rfl ?_
    refine stpct1 _ ?_
    show Steps p.tables e below (Tpct1.setTop (mkF m 4 #[.val (.ref w), .val (.int pp), .unset, .unset, .unset, .unset, .unset, .unset, .unset] [(.long cnt)])) _
    refine Xpct1.ldc2Long hx hown (mvT hZ (hw _ (List.mem_of_getElem? (i := 91) rfl))) (g := (mkF m 4 #[.val (.ref w), .val (.int pp), .unset, .unset, .unset, .unset, .unset, .unset, .unset] [(.long cnt)])) rfl (hb hby own_d15_4) _ ?_
    show Steps p.tables e below (Tpct1.setTop (mkF m 7 #[.val (.ref w), .val (.int pp), .unset, .unset, .unset, .unset, .unset, .unset, .unset] [(.long (100 : Int64)), (.long cnt)])) _
    refine own_s_ldiv Xpct1.here hx (hb hby own_d15_7) (pc' := 8) rfl (by decide) (v := (cnt / (100 : Int64))) rfl ?_
    refine own_s_iloadN Xpct1.here hx (hb hby own_d15_8) (pc' := 9) rfl rfl ?_
    refine own_s_i2l Xpct1.here hx (hb hby own_d15_9) (pc' := 10) rfl (v := (Int32.toInt64 pp)) rfl ?_
    refine own_s_lmul Xpct1.here hx (hb hby own_d15_10) (pc' := 11) rfl (v := ((cnt / (100 : Int64)) * (Int32.toInt64 pp))) rfl ?_
    refine own_s_aloadN Xpct1.here hx (hb hby own_d15_11) (pc' := 12) rfl rfl rfl ?_
    refine stpct2 _ ?_
    show Steps p.tables e below (Tpct2.setTop (mkF m 15 #[.val (.ref w), .val (.int pp), .unset, .unset, .unset, .unset, .unset, .unset, .unset] [(.long cnt), (.long ((cnt / (100 : Int64)) * (Int32.toInt64 pp)))])) _
    refine Xpct2.ldc2Long hx hown (mvT hZ (hw _ (List.mem_of_getElem? (i := 91) rfl))) (g := (mkF m 15 #[.val (.ref w), .val (.int pp), .unset, .unset, .unset, .unset, .unset, .unset, .unset] [(.long cnt), (.long ((cnt / (100 : Int64)) * (Int32.toInt64 pp)))])) rfl (hb hby own_d15_15) _ ?_
    show Steps p.tables e below (Tpct2.setTop (mkF m 18 #[.val (.ref w), .val (.int pp), .unset, .unset, .unset, .unset, .unset, .unset, .unset] [(.long (100 : Int64)), (.long cnt), (.long ((cnt / (100 : Int64)) * (Int32.toInt64 pp)))])) _
    refine own_s_lrem Xpct2.here hx (hb hby own_d15_18) (pc' := 19) rfl (by decide) (v := (cnt % (100 : Int64))) rfl ?_
    refine own_s_iloadN Xpct2.here hx (hb hby own_d15_19) (pc' := 20) rfl rfl ?_
    refine own_s_i2l Xpct2.here hx (hb hby own_d15_20) (pc' := 21) rfl (v := (Int32.toInt64 pp)) rfl ?_
    refine own_s_lmul Xpct2.here hx (hb hby own_d15_21) (pc' := 22) rfl (v := ((cnt % (100 : Int64)) * (Int32.toInt64 pp))) rfl ?_
    refine Xpct2.ldc2Long hx hown (mvT hZ (hw _ (List.mem_of_getElem? (i := 92) rfl))) (g := (mkF m 22 #[.val (.ref w), .val (.int pp), .unset, .unset, .unset, .unset, .unset, .unset, .unset] [(.long ((cnt % (100 : Int64)) * (Int32.toInt64 pp))), (.long ((cnt / (100 : Int64)) * (Int32.toInt64 pp)))])) rfl (hb hby own_d15_22) _ ?_
    show Steps p.tables e below (Tpct2.setTop (mkF m 25 #[.val (.ref w), .val (.int pp), .unset, .unset, .unset, .unset, .unset, .unset, .unset] [(.long (99 : Int64)), (.long ((cnt % (100 : Int64)) * (Int32.toInt64 pp))), (.long ((cnt / (100 : Int64)) * (Int32.toInt64 pp)))])) _
    refine own_s_ladd Xpct2.here hx (hb hby own_d15_25) (pc' := 26) rfl (v := (((cnt % (100 : Int64)) * (Int32.toInt64 pp)) + (99 : Int64))) rfl ?_
    refine Xpct2.ldc2Long hx hown (mvT hZ (hw _ (List.mem_of_getElem? (i := 91) rfl))) (g := (mkF m 26 #[.val (.ref w), .val (.int pp), .unset, .unset, .unset, .unset, .unset, .unset, .unset] [(.long (((cnt % (100 : Int64)) * (Int32.toInt64 pp)) + (99 : Int64))), (.long ((cnt / (100 : Int64)) * (Int32.toInt64 pp)))])) rfl (hb hby own_d15_26) _ ?_
    show Steps p.tables e below (Tpct2.setTop (mkF m 29 #[.val (.ref w), .val (.int pp), .unset, .unset, .unset, .unset, .unset, .unset, .unset] [(.long (100 : Int64)), (.long (((cnt % (100 : Int64)) * (Int32.toInt64 pp)) + (99 : Int64))), (.long ((cnt / (100 : Int64)) * (Int32.toInt64 pp)))])) _
    refine own_s_ldiv Xpct2.here hx (hb hby own_d15_29) (pc' := 30) rfl (by decide) (v := ((((cnt % (100 : Int64)) * (Int32.toInt64 pp)) + (99 : Int64)) / (100 : Int64))) rfl ?_
    refine own_s_ladd Xpct2.here hx (hb hby own_d15_30) (pc' := 31) rfl (v := (((cnt / (100 : Int64)) * (Int32.toInt64 pp)) + ((((cnt % (100 : Int64)) * (Int32.toInt64 pp)) + (99 : Int64)) / (100 : Int64)))) rfl ?_
    refine own_s_lstoreN Xpct2.here hx (hb hby own_d15_31) (pc' := 32) rfl (L' := #[.val (.ref w), .val (.int pp), .val (.long (((cnt / (100 : Int64)) * (Int32.toInt64 pp)) + ((((cnt % (100 : Int64)) * (Int32.toInt64 pp)) + (99 : Int64)) / (100 : Int64)))), .second, .unset, .unset, .unset, .unset, .unset]) rfl ?_
    refine own_s_lconst Xpct2.here hx (hb hby own_d15_32) (pc' := 33) rfl (v := (0 : Int64)) (by decide) ?_
    refine own_s_lstore Xpct2.here hx (hb hby own_d15_33) (pc' := 35) rfl (L' := #[.val (.ref w), .val (.int pp), .val (.long (((cnt / (100 : Int64)) * (Int32.toInt64 pp)) + ((((cnt % (100 : Int64)) * (Int32.toInt64 pp)) + (99 : Int64)) / (100 : Int64)))), .second, .val (.long (0 : Int64)), .second, .unset, .unset, .unset]) rfl ?_
    refine own_s_iconst Xpct2.here hx (hb hby own_d15_35) (pc' := 36) rfl (v := (0 : Int32)) (by decide) ?_
    refine own_s_istore Xpct2.here hx (hb hby own_d15_36) (pc' := 38) rfl (L' := #[.val (.ref w), .val (.int pp), .val (.long (((cnt / (100 : Int64)) * (Int32.toInt64 pp)) + ((((cnt % (100 : Int64)) * (Int32.toInt64 pp)) + (99 : Int64)) / (100 : Int64)))), .second, .val (.long (0 : Int64)), .second, .val (.int (0 : Int32)), .unset, .unset]) rfl ?_
    refine stpct3 _ ?_
    show Steps p.tables e below (Tpct3.setTop (mkF m 93 #[.val (.ref w), .val (.int pp), .val (.long (own_rank cnt pp)), .second, .val (.long snpct3), .second, .val (.int rpct3), .val (.ref bkpct3), .val (.int upct3)] [])) _
    refine own_s_aloadN Xpct3.here hx (hb hby own_d15_93) (pc' := 94) rfl rfl rfl ?_
    refine stpct4 _ ?_
    show Steps p.tables e below (Tpct4.setTop (mkF m 97 #[.val (.ref w), .val (.int pp), .val (.long (own_rank cnt pp)), .second, .val (.long snpct3), .second, .val (.int rpct3), .val (.ref bkpct3), .val (.int upct3)] [(.long mx)])) _
    refine own_s_iload Xpct4.here hx (hb hby own_d15_97) (pc' := 99) rfl rfl ?_
    refine own_s_iload Xpct4.here hx (hb hby own_d15_99) (pc' := 101) rfl rfl ?_
    refine stpct5 _ ?_
    show Steps p.tables e below (Tpct5.setTop (mkF m 104 #[.val (.ref w), .val (.int pp), .val (.long (own_rank cnt pp)), .second, .val (.long snpct3), .second, .val (.int rpct3), .val (.ref bkpct3), .val (.int upct3)] [(.long (own_mid rpct3 upct3)), (.long mx)])) _
    refine stpct6 _ ?_
    show Steps p.tables e below (Tpct6.setTop (mkF m 107 #[.val (.ref w), .val (.int pp), .val (.long (own_rank cnt pp)), .second, .val (.long snpct3), .second, .val (.int rpct3), .val (.ref bkpct3), .val (.int upct3)] [(.long (own_lmin mx (own_mid rpct3 upct3)))])) _
    exact own_retJ Xpct6 hx Bd.returns (hb hby own_d15_107) hr
  · show own_QX h0 n0 _ Tpct6.heap _
    rw [epct6]
    exact ⟨_, rfl, Npct6, rfl⟩
theorem own_d19_0 : decode jdk_30_method_1_code 0 = .ok (.aload_n 0, 1) := by decide +kernel
theorem own_d19_1 : decode jdk_30_method_1_code 1 = .ok (.invokespecial 1, 3) := by decide +kernel
theorem own_d19_4 : decode jdk_30_method_1_code 4 = .ok (.return_, 1) := by decide +kernel
theorem own_pn_java_lang_Record : plainName "java/lang/Record" = true := by first | (simp [plainName, overriddenIn]; done) | decide +kernel
theorem own_ef_rcinit (m : MethodId) (o0 : Addr) : entryFrame m #[(.ref o0)] 1 = mkF m 0 #[.val (.ref o0)] [] := by first | (simp [entryFrame, mkF, argsToLocals, Value.category]; done) | rfl
set_option maxRecDepth 65536 in
set_option maxHeartbeats 40000000 in
theorem own_rm_rcinit (l : Launch) (Z : State) (a0 : Array Value) (hw : ∀ d ∈ tables_1, d.before a0 Z = true) (ws : List Jvm.Cond) (o0 : Addr)  (h0 : Heap) (n0 : Nat) (Z0 : n0 ≤ h0.size)   :
    MetFree l (⟨"java/lang/Record", "<init>", "()V"⟩ : MethodName) (head1 (Jvm.Cond.code (⟨"java/lang/Record", "<init>", "()V"⟩ : MethodName) jdk_30_method_1_code 1 none :: ws) ({ frames := 1, cells := 0, slots := 0, locals := 12 } : Room)) (fun a U => a = #[(.ref o0)] ∧ Z.Warmed39 U.vm ∧ U.heap = h0) (fun _ _ _ _ _ => True) (fun _ U o U' => ∃ v L, o = .returned v ∧ own_QP (none) h0 n0 v U'.heap L ∧ FrameEnd U o U' L ({ frames := 1, cells := 0, slots := 0, locals := 12 } : Room).cells ({ frames := 1, cells := 0, slots := 0, locals := 12 } : Room).slots) := by
  refine MetFree.of_bodySF (plainFor_of_name own_pn_java_lang_Record) hisR ?_
  intro p e s m args below meth c s₁ Bd hml0 hP hK
  obtain ⟨rfl, hZ, hh⟩ := hP
  have hx := Bd.exec
  have hby := Bd.bytes
  have hml : c.maxLocals = 1 := hml0
  have hown : s.vm.findClass "java/lang/Record" = some m.cls := findClass_of_methodNamed Bd.named
  have hnm := (name_of_methodNamed Bd.named Bd.method).1
  have X0 : Stand p l e ({ frames := 1, cells := 0, slots := 0, locals := 12 } : Room) s m #[(.ref o0)] below meth c s₁ [] 0 0 := Stand.of_body Bd
  have e0 : s₁.heap = h0 := by rw [← hh, Bd.state]; rfl
  have N0 := Fr.nil n0
  have pre0 : ∀ t, Steps p.tables e below (s₁.setTop (mkF m 0 #[.val (.ref o0)] [])) t → Steps p.tables e below (s₁.setTop (entryFrame m #[(.ref o0)] 1)) t := fun t k => castTop (own_ef_rcinit m o0) k
  obtain ⟨Trcinit1, Xrcinit1, ercinit1, strcinit1⟩ := initO X0 hx hZ hown (hw _ (List.mem_of_getElem? (i := 107) rfl)) (hw _ (List.mem_of_getElem? (i := 7) rfl)) (hw _ (List.mem_of_getElem? (i := 8) rfl)) e0 (g := (mkF m 1 #[.val (.ref o0)] [(.ref o0)])) rfl (by rw [hml]; rfl) rfl (hb hby own_d19_1) (by decide) (W := 0) (by show 2 * 0 + _ ≤ _; exact Nat.le_of_eq rfl) (by decide)
  obtain ⟨fs, hr, hrun, hended, hW, hsame⟩ := Xrcinit1.leave (v := none) (fun _ => rfl)
  refine ⟨_, _, pre0 _ ?_, hrun, hended, _, _, rfl, ?_, ⟨_, rfl⟩, hW, hsame.mono (by decide) (by decide)⟩
  · refine own_s_aloadN X0.here hx (hb hby own_d19_0) (pc' := 1) rfl rfl rfl ?_
    refine strcinit1 _ ?_
    show Steps p.tables e below (Trcinit1.setTop (mkF m 4 #[.val (.ref o0)] [])) _
    exact Xrcinit1.returnOut hx Bd.returns (hb hby own_d19_4) hr
  · show own_QP (none) h0 n0 _ Trcinit1.heap _
    rw [ercinit1]
    exact ⟨rfl, N0, rfl⟩
theorem own_d18_0 : decode prog_33_method_1_code 0 = .ok (.aload_n 0, 1) := by decide +kernel
theorem own_pd_2829V : parseMethodDescriptor "()V" = some ⟨[], none⟩ := by decide +kernel
theorem own_d18_1 : decode prog_33_method_1_code 1 = .ok (.invokespecial 1, 3) := by decide +kernel
theorem own_d18_4 : decode prog_33_method_1_code 4 = .ok (.aload_n 0, 1) := by decide +kernel
theorem own_d18_5 : decode prog_33_method_1_code 5 = .ok (.lload_n 1, 1) := by decide +kernel
theorem own_d18_6 : decode prog_33_method_1_code 6 = .ok (.putfield 7, 3) := by decide +kernel
theorem own_d18_9 : decode prog_33_method_1_code 9 = .ok (.aload_n 0, 1) := by decide +kernel
theorem own_d18_10 : decode prog_33_method_1_code 10 = .ok (.dload_n 3, 1) := by decide +kernel
theorem own_d18_11 : decode prog_33_method_1_code 11 = .ok (.putfield 13, 3) := by decide +kernel
theorem own_d18_14 : decode prog_33_method_1_code 14 = .ok (.aload_n 0, 1) := by decide +kernel
theorem own_d18_15 : decode prog_33_method_1_code 15 = .ok (.lload 5, 2) := by decide +kernel
theorem own_d18_17 : decode prog_33_method_1_code 17 = .ok (.putfield 17, 3) := by decide +kernel
theorem own_d18_20 : decode prog_33_method_1_code 20 = .ok (.aload_n 0, 1) := by decide +kernel
theorem own_d18_21 : decode prog_33_method_1_code 21 = .ok (.lload 7, 2) := by decide +kernel
theorem own_d18_23 : decode prog_33_method_1_code 23 = .ok (.putfield 20, 3) := by decide +kernel
theorem own_d18_26 : decode prog_33_method_1_code 26 = .ok (.aload_n 0, 1) := by decide +kernel
theorem own_d18_27 : decode prog_33_method_1_code 27 = .ok (.lload 9, 2) := by decide +kernel
theorem own_d18_29 : decode prog_33_method_1_code 29 = .ok (.putfield 23, 3) := by decide +kernel
theorem own_d18_32 : decode prog_33_method_1_code 32 = .ok (.aload_n 0, 1) := by decide +kernel
theorem own_d18_33 : decode prog_33_method_1_code 33 = .ok (.lload 11, 2) := by decide +kernel
theorem own_d18_35 : decode prog_33_method_1_code 35 = .ok (.putfield 26, 3) := by decide +kernel
theorem own_d18_38 : decode prog_33_method_1_code 38 = .ok (.return_, 1) := by decide +kernel
theorem own_pn_millrace_PoolSnapshot_Timing : plainName "millrace/PoolSnapshot$Timing" = true := by first | (simp [plainName, overriddenIn]; done) | decide +kernel
theorem own_ef_tmi (m : MethodId) (o0 : Addr) (y0 : Int64) (y1 : UInt64) (y2 : Int64) (y3 : Int64) (y4 : Int64) (y5 : Int64) : entryFrame m #[(.ref o0), (.long y0), (.double y1), (.long y2), (.long y3), (.long y4), (.long y5)] 13 = mkF m 0 #[.val (.ref o0), .val (.long y0), .second, .val (.double y1), .second, .val (.long y2), .second, .val (.long y3), .second, .val (.long y4), .second, .val (.long y5), .second] [] := by first | (simp [entryFrame, mkF, argsToLocals, Value.category]; done) | rfl
def own_Q_tmi (Z : State) (o0 : Addr) (y0 : Int64) (y1 : UInt64) (y2 : Int64) (y3 : Int64) (y4 : Int64) (y5 : Int64) (h0 : Heap) (n0 : Nat) (v : Option Value) (h : Heap) (L : List Loc) : Prop := v = none ∧ Fr n0 L ∧ Keep h0 h [o0] ∧ Exa Z h o0 "millrace/PoolSnapshot$Timing" ∧ Fld Z h o0 "millrace/PoolSnapshot$Timing" "count" "J" (.long y0) ∧ Fld Z h o0 "millrace/PoolSnapshot$Timing" "meanNanos" "D" (.double y1) ∧ Fld Z h o0 "millrace/PoolSnapshot$Timing" "p50Nanos" "J" (.long y2) ∧ Fld Z h o0 "millrace/PoolSnapshot$Timing" "p95Nanos" "J" (.long y3) ∧ Fld Z h o0 "millrace/PoolSnapshot$Timing" "p99Nanos" "J" (.long y4) ∧ Fld Z h o0 "millrace/PoolSnapshot$Timing" "maxNanos" "J" (.long y5)
set_option maxRecDepth 65536 in
set_option maxHeartbeats 40000000 in
theorem own_rm_tmi (l : Launch) (Z : State) (a0 : Array Value) (hw : ∀ d ∈ tables_1, d.before a0 Z = true) (ws : List Jvm.Cond) (o0 : Addr) (y0 : Int64) (y1 : UInt64) (y2 : Int64) (y3 : Int64) (y4 : Int64) (y5 : Int64)  (h0 : Heap) (n0 : Nat) (Z0 : n0 ≤ h0.size) (E_o0 : Exa Z h0 o0 "millrace/PoolSnapshot$Timing") (F_count_o0 : Fld Z h0 o0 "millrace/PoolSnapshot$Timing" "count" "J" (.long (0 : Int64))) (F_meanNanos_o0 : Fld Z h0 o0 "millrace/PoolSnapshot$Timing" "meanNanos" "D" (.double 0)) (F_p50Nanos_o0 : Fld Z h0 o0 "millrace/PoolSnapshot$Timing" "p50Nanos" "J" (.long (0 : Int64))) (F_p95Nanos_o0 : Fld Z h0 o0 "millrace/PoolSnapshot$Timing" "p95Nanos" "J" (.long (0 : Int64))) (F_p99Nanos_o0 : Fld Z h0 o0 "millrace/PoolSnapshot$Timing" "p99Nanos" "J" (.long (0 : Int64))) (F_maxNanos_o0 : Fld Z h0 o0 "millrace/PoolSnapshot$Timing" "maxNanos" "J" (.long (0 : Int64))) (g_o0 : n0 ≤ o0)  :
    MetFree l (⟨"millrace/PoolSnapshot$Timing", "<init>", "(JDJJJJ)V"⟩ : MethodName) (head1 (Jvm.Cond.code (⟨"millrace/PoolSnapshot$Timing", "<init>", "(JDJJJJ)V"⟩ : MethodName) prog_33_method_1_code 13 none :: ws) ({ frames := 2, cells := 0, slots := 0, locals := 24 } : Room)) (fun a U => a = #[(.ref o0), (.long y0), (.double y1), (.long y2), (.long y3), (.long y4), (.long y5)] ∧ Z.Warmed39 U.vm ∧ U.heap = h0) (fun _ _ _ _ _ => True) (fun _ U o U' => ∃ v L, o = .returned v ∧ own_Q_tmi Z o0 y0 y1 y2 y3 y4 y5 h0 n0 v U'.heap L ∧ FrameEnd U o U' L ({ frames := 2, cells := 0, slots := 0, locals := 24 } : Room).cells ({ frames := 2, cells := 0, slots := 0, locals := 24 } : Room).slots) := by
  refine MetFree.of_bodySF (plainFor_of_name own_pn_millrace_PoolSnapshot_Timing) hisR ?_
  intro p e s m args below meth c s₁ Bd hml0 hP hK
  obtain ⟨rfl, hZ, hh⟩ := hP
  have hx := Bd.exec
  have hby := Bd.bytes
  have hml : c.maxLocals = 13 := hml0
  have hown : s.vm.findClass "millrace/PoolSnapshot$Timing" = some m.cls := findClass_of_methodNamed Bd.named
  have hnm := (name_of_methodNamed Bd.named Bd.method).1
  have X0 : Stand p l e ({ frames := 2, cells := 0, slots := 0, locals := 24 } : Room) s m #[(.ref o0), (.long y0), (.double y1), (.long y2), (.long y3), (.long y4), (.long y5)] below meth c s₁ [] 0 0 := Stand.of_body Bd
  have e0 : s₁.heap = h0 := by rw [← hh, Bd.state]; rfl
  have N0 := Fr.nil n0
  have pre0 : ∀ t, Steps p.tables e below (s₁.setTop (mkF m 0 #[.val (.ref o0), .val (.long y0), .second, .val (.double y1), .second, .val (.long y2), .second, .val (.long y3), .second, .val (.long y4), .second, .val (.long y5), .second] [])) t → Steps p.tables e below (s₁.setTop (entryFrame m #[(.ref o0), (.long y0), (.double y1), (.long y2), (.long y3), (.long y4), (.long y5)] 13)) t := fun t k => castTop (own_ef_tmi m o0 y0 y1 y2 y3 y4 y5) k
  obtain ⟨_, _, ⟨Ttmi1, Ltmi1, ktmi1, ntmi1⟩, -, Xtmi1, ⟨Lctmi1, hQtmi1, ltmi1, ytmi1, ztmi1⟩, sttmi1⟩ := X0.specialBack hx (y := (⟨"java/lang/Record", "<init>", "()V"⟩ : MethodName)) rfl hown (mvT hZ (hw _ (List.mem_of_getElem? (i := 102) rfl))) (mvT hZ (hw _ (List.mem_of_getElem? (i := 103) rfl))) (mvT hZ (hw _ (List.mem_of_getElem? (i := 106) rfl))) (by decide) (backOf (W := 0) (own_rm_rcinit l Z a0 hw [] o0 h0 n0 Z0 ) hZ (hw _ (List.mem_of_getElem? (i := 106) rfl)) (hw _ (List.mem_of_getElem? (i := 105) rfl)) (by decide) (by decide)) (g := (mkF m 1 #[.val (.ref o0), .val (.long y0), .second, .val (.double y1), .second, .val (.long y2), .second, .val (.long y3), .second, .val (.long y4), .second, .val (.long y5), .second] [(.ref o0)])) rfl (by rw [hml]; rfl) (Steps.refl _) (a := o0) (argsL := []) (rest := []) (lenOf own_pd_2829V rfl) rfl (by show 2 * 0 + _ ≤ _; exact Nat.le_of_eq rfl) (hb hby own_d18_1) (fun _ _ => ⟨rfl, e0, (by decide : 0 + 0 ≤ _), (by decide : 0 + 0 ≤ _)⟩)
  dsimp only [Pt.U, Pt.locs, Pt.cells, Pt.slots] at Xtmi1 ltmi1 ytmi1 ztmi1 sttmi1 hQtmi1
  rw [ltmi1, ytmi1, ztmi1] at Xtmi1
  obtain ⟨rfl, Ntmi1q, etmi1⟩ := hQtmi1
  have Ntmi1 := Fr.app N0 Ntmi1q
  obtain ⟨Ttmi2, htmi2, Xtmi2, etmi2, Wtmi2, sttmi2⟩ := putF Xtmi1 hx hZ hown (host := "") (Or.inl (hw _ (List.mem_of_getElem? (i := 108) rfl))) Via.refl etmi1 F_count_o0 E_o0 (Or.inr ⟨(hw _ (List.mem_of_getElem? (i := 109) rfl)), rfl, hnm⟩) (hw _ (List.mem_of_getElem? (i := 85) rfl)) (ty := .long) (by decide) rfl rfl (g := (mkF m 6 #[.val (.ref o0), .val (.long y0), .second, .val (.double y1), .second, .val (.long y2), .second, .val (.long y3), .second, .val (.long y4), .second, .val (.long y5), .second] [(.long y0), (.ref o0)])) rfl rfl (hb hby own_d18_6)
  have E_o0_tmi2 := E_o0.wr Wtmi2
  have Ztmi2 : n0 ≤ htmi2.size := Nat.le_trans Z0 (Nat.le_of_eq Wtmi2.size.symm)
  have KKtmi2 := (Keep.refl h0 [o0]).wr Wtmi2 (Or.inl (List.mem_of_getElem? (i := 0) rfl))
  have F_count_o0_tmi2 := F_count_o0.same Wtmi2
  have F_meanNanos_o0_tmi2 := F_meanNanos_o0.other Wtmi2 (Or.inr (slot_ne (Or.inr (hw _ (List.mem_of_getElem? (i := 111) rfl))) (Or.inr (hw _ (List.mem_of_getElem? (i := 109) rfl))) (by decide) (t := .double) (t' := .long) (by decide) (by decide)))
  have F_p50Nanos_o0_tmi2 := F_p50Nanos_o0.other Wtmi2 (Or.inr (slot_ne (Or.inr (hw _ (List.mem_of_getElem? (i := 113) rfl))) (Or.inr (hw _ (List.mem_of_getElem? (i := 109) rfl))) (by decide) (t := .long) (t' := .long) (by decide) (by decide)))
  have F_p95Nanos_o0_tmi2 := F_p95Nanos_o0.other Wtmi2 (Or.inr (slot_ne (Or.inr (hw _ (List.mem_of_getElem? (i := 115) rfl))) (Or.inr (hw _ (List.mem_of_getElem? (i := 109) rfl))) (by decide) (t := .long) (t' := .long) (by decide) (by decide)))
  have F_p99Nanos_o0_tmi2 := F_p99Nanos_o0.other Wtmi2 (Or.inr (slot_ne (Or.inr (hw _ (List.mem_of_getElem? (i := 117) rfl))) (Or.inr (hw _ (List.mem_of_getElem? (i := 109) rfl))) (by decide) (t := .long) (t' := .long) (by decide) (by decide)))
  have F_maxNanos_o0_tmi2 := F_maxNanos_o0.other Wtmi2 (Or.inr (slot_ne (Or.inr (hw _ (List.mem_of_getElem? (i := 119) rfl))) (Or.inr (hw _ (List.mem_of_getElem? (i := 109) rfl))) (by decide) (t := .long) (t' := .long) (by decide) (by decide)))
  have Ntmi2 := Fr.snoc Xtmi2 Ntmi1 g_o0
  obtain ⟨Ttmi3, htmi3, Xtmi3, etmi3, Wtmi3, sttmi3⟩ := putF Xtmi2 hx hZ hown (host := "") (Or.inl (hw _ (List.mem_of_getElem? (i := 110) rfl))) Via.refl etmi2 F_meanNanos_o0_tmi2 E_o0_tmi2 (Or.inr ⟨(hw _ (List.mem_of_getElem? (i := 111) rfl)), rfl, hnm⟩) (hw _ (List.mem_of_getElem? (i := 85) rfl)) (ty := .double) (by decide) rfl rfl (g := (mkF m 11 #[.val (.ref o0), .val (.long y0), .second, .val (.double y1), .second, .val (.long y2), .second, .val (.long y3), .second, .val (.long y4), .second, .val (.long y5), .second] [(.double y1), (.ref o0)])) rfl rfl (hb hby own_d18_11)
  have E_o0_tmi3 := E_o0_tmi2.wr Wtmi3
  have Ztmi3 : n0 ≤ htmi3.size := Nat.le_trans Ztmi2 (Nat.le_of_eq Wtmi3.size.symm)
  have KKtmi3 := KKtmi2.wr Wtmi3 (Or.inl (List.mem_of_getElem? (i := 0) rfl))
  have F_count_o0_tmi3 := F_count_o0_tmi2.other Wtmi3 (Or.inr (slot_ne (Or.inr (hw _ (List.mem_of_getElem? (i := 109) rfl))) (Or.inr (hw _ (List.mem_of_getElem? (i := 111) rfl))) (by decide) (t := .long) (t' := .double) (by decide) (by decide)))
  have F_meanNanos_o0_tmi3 := F_meanNanos_o0_tmi2.same Wtmi3
  have F_p50Nanos_o0_tmi3 := F_p50Nanos_o0_tmi2.other Wtmi3 (Or.inr (slot_ne (Or.inr (hw _ (List.mem_of_getElem? (i := 113) rfl))) (Or.inr (hw _ (List.mem_of_getElem? (i := 111) rfl))) (by decide) (t := .long) (t' := .double) (by decide) (by decide)))
  have F_p95Nanos_o0_tmi3 := F_p95Nanos_o0_tmi2.other Wtmi3 (Or.inr (slot_ne (Or.inr (hw _ (List.mem_of_getElem? (i := 115) rfl))) (Or.inr (hw _ (List.mem_of_getElem? (i := 111) rfl))) (by decide) (t := .long) (t' := .double) (by decide) (by decide)))
  have F_p99Nanos_o0_tmi3 := F_p99Nanos_o0_tmi2.other Wtmi3 (Or.inr (slot_ne (Or.inr (hw _ (List.mem_of_getElem? (i := 117) rfl))) (Or.inr (hw _ (List.mem_of_getElem? (i := 111) rfl))) (by decide) (t := .long) (t' := .double) (by decide) (by decide)))
  have F_maxNanos_o0_tmi3 := F_maxNanos_o0_tmi2.other Wtmi3 (Or.inr (slot_ne (Or.inr (hw _ (List.mem_of_getElem? (i := 119) rfl))) (Or.inr (hw _ (List.mem_of_getElem? (i := 111) rfl))) (by decide) (t := .long) (t' := .double) (by decide) (by decide)))
  have Ntmi3 := Fr.snoc Xtmi3 Ntmi2 g_o0
  obtain ⟨Ttmi4, htmi4, Xtmi4, etmi4, Wtmi4, sttmi4⟩ := putF Xtmi3 hx hZ hown (host := "") (Or.inl (hw _ (List.mem_of_getElem? (i := 112) rfl))) Via.refl etmi3 F_p50Nanos_o0_tmi3 E_o0_tmi3 (Or.inr ⟨(hw _ (List.mem_of_getElem? (i := 113) rfl)), rfl, hnm⟩) (hw _ (List.mem_of_getElem? (i := 85) rfl)) (ty := .long) (by decide) rfl rfl (g := (mkF m 17 #[.val (.ref o0), .val (.long y0), .second, .val (.double y1), .second, .val (.long y2), .second, .val (.long y3), .second, .val (.long y4), .second, .val (.long y5), .second] [(.long y2), (.ref o0)])) rfl rfl (hb hby own_d18_17)
  have E_o0_tmi4 := E_o0_tmi3.wr Wtmi4
  have Ztmi4 : n0 ≤ htmi4.size := Nat.le_trans Ztmi3 (Nat.le_of_eq Wtmi4.size.symm)
  have KKtmi4 := KKtmi3.wr Wtmi4 (Or.inl (List.mem_of_getElem? (i := 0) rfl))
  have F_count_o0_tmi4 := F_count_o0_tmi3.other Wtmi4 (Or.inr (slot_ne (Or.inr (hw _ (List.mem_of_getElem? (i := 109) rfl))) (Or.inr (hw _ (List.mem_of_getElem? (i := 113) rfl))) (by decide) (t := .long) (t' := .long) (by decide) (by decide)))
  have F_meanNanos_o0_tmi4 := F_meanNanos_o0_tmi3.other Wtmi4 (Or.inr (slot_ne (Or.inr (hw _ (List.mem_of_getElem? (i := 111) rfl))) (Or.inr (hw _ (List.mem_of_getElem? (i := 113) rfl))) (by decide) (t := .double) (t' := .long) (by decide) (by decide)))
  have F_p50Nanos_o0_tmi4 := F_p50Nanos_o0_tmi3.same Wtmi4
  have F_p95Nanos_o0_tmi4 := F_p95Nanos_o0_tmi3.other Wtmi4 (Or.inr (slot_ne (Or.inr (hw _ (List.mem_of_getElem? (i := 115) rfl))) (Or.inr (hw _ (List.mem_of_getElem? (i := 113) rfl))) (by decide) (t := .long) (t' := .long) (by decide) (by decide)))
  have F_p99Nanos_o0_tmi4 := F_p99Nanos_o0_tmi3.other Wtmi4 (Or.inr (slot_ne (Or.inr (hw _ (List.mem_of_getElem? (i := 117) rfl))) (Or.inr (hw _ (List.mem_of_getElem? (i := 113) rfl))) (by decide) (t := .long) (t' := .long) (by decide) (by decide)))
  have F_maxNanos_o0_tmi4 := F_maxNanos_o0_tmi3.other Wtmi4 (Or.inr (slot_ne (Or.inr (hw _ (List.mem_of_getElem? (i := 119) rfl))) (Or.inr (hw _ (List.mem_of_getElem? (i := 113) rfl))) (by decide) (t := .long) (t' := .long) (by decide) (by decide)))
  have Ntmi4 := Fr.snoc Xtmi4 Ntmi3 g_o0
  obtain ⟨Ttmi5, htmi5, Xtmi5, etmi5, Wtmi5, sttmi5⟩ := putF Xtmi4 hx hZ hown (host := "") (Or.inl (hw _ (List.mem_of_getElem? (i := 114) rfl))) Via.refl etmi4 F_p95Nanos_o0_tmi4 E_o0_tmi4 (Or.inr ⟨(hw _ (List.mem_of_getElem? (i := 115) rfl)), rfl, hnm⟩) (hw _ (List.mem_of_getElem? (i := 85) rfl)) (ty := .long) (by decide) rfl rfl (g := (mkF m 23 #[.val (.ref o0), .val (.long y0), .second, .val (.double y1), .second, .val (.long y2), .second, .val (.long y3), .second, .val (.long y4), .second, .val (.long y5), .second] [(.long y3), (.ref o0)])) rfl rfl (hb hby own_d18_23)
  have E_o0_tmi5 := E_o0_tmi4.wr Wtmi5
  have Ztmi5 : n0 ≤ htmi5.size := Nat.le_trans Ztmi4 (Nat.le_of_eq Wtmi5.size.symm)
  have KKtmi5 := KKtmi4.wr Wtmi5 (Or.inl (List.mem_of_getElem? (i := 0) rfl))
  have F_count_o0_tmi5 := F_count_o0_tmi4.other Wtmi5 (Or.inr (slot_ne (Or.inr (hw _ (List.mem_of_getElem? (i := 109) rfl))) (Or.inr (hw _ (List.mem_of_getElem? (i := 115) rfl))) (by decide) (t := .long) (t' := .long) (by decide) (by decide)))
  have F_meanNanos_o0_tmi5 := F_meanNanos_o0_tmi4.other Wtmi5 (Or.inr (slot_ne (Or.inr (hw _ (List.mem_of_getElem? (i := 111) rfl))) (Or.inr (hw _ (List.mem_of_getElem? (i := 115) rfl))) (by decide) (t := .double) (t' := .long) (by decide) (by decide)))
  have F_p50Nanos_o0_tmi5 := F_p50Nanos_o0_tmi4.other Wtmi5 (Or.inr (slot_ne (Or.inr (hw _ (List.mem_of_getElem? (i := 113) rfl))) (Or.inr (hw _ (List.mem_of_getElem? (i := 115) rfl))) (by decide) (t := .long) (t' := .long) (by decide) (by decide)))
  have F_p95Nanos_o0_tmi5 := F_p95Nanos_o0_tmi4.same Wtmi5
  have F_p99Nanos_o0_tmi5 := F_p99Nanos_o0_tmi4.other Wtmi5 (Or.inr (slot_ne (Or.inr (hw _ (List.mem_of_getElem? (i := 117) rfl))) (Or.inr (hw _ (List.mem_of_getElem? (i := 115) rfl))) (by decide) (t := .long) (t' := .long) (by decide) (by decide)))
  have F_maxNanos_o0_tmi5 := F_maxNanos_o0_tmi4.other Wtmi5 (Or.inr (slot_ne (Or.inr (hw _ (List.mem_of_getElem? (i := 119) rfl))) (Or.inr (hw _ (List.mem_of_getElem? (i := 115) rfl))) (by decide) (t := .long) (t' := .long) (by decide) (by decide)))
  have Ntmi5 := Fr.snoc Xtmi5 Ntmi4 g_o0
  obtain ⟨Ttmi6, htmi6, Xtmi6, etmi6, Wtmi6, sttmi6⟩ := putF Xtmi5 hx hZ hown (host := "") (Or.inl (hw _ (List.mem_of_getElem? (i := 116) rfl))) Via.refl etmi5 F_p99Nanos_o0_tmi5 E_o0_tmi5 (Or.inr ⟨(hw _ (List.mem_of_getElem? (i := 117) rfl)), rfl, hnm⟩) (hw _ (List.mem_of_getElem? (i := 85) rfl)) (ty := .long) (by decide) rfl rfl (g := (mkF m 29 #[.val (.ref o0), .val (.long y0), .second, .val (.double y1), .second, .val (.long y2), .second, .val (.long y3), .second, .val (.long y4), .second, .val (.long y5), .second] [(.long y4), (.ref o0)])) rfl rfl (hb hby own_d18_29)
  have E_o0_tmi6 := E_o0_tmi5.wr Wtmi6
  have Ztmi6 : n0 ≤ htmi6.size := Nat.le_trans Ztmi5 (Nat.le_of_eq Wtmi6.size.symm)
  have KKtmi6 := KKtmi5.wr Wtmi6 (Or.inl (List.mem_of_getElem? (i := 0) rfl))
  have F_count_o0_tmi6 := F_count_o0_tmi5.other Wtmi6 (Or.inr (slot_ne (Or.inr (hw _ (List.mem_of_getElem? (i := 109) rfl))) (Or.inr (hw _ (List.mem_of_getElem? (i := 117) rfl))) (by decide) (t := .long) (t' := .long) (by decide) (by decide)))
  have F_meanNanos_o0_tmi6 := F_meanNanos_o0_tmi5.other Wtmi6 (Or.inr (slot_ne (Or.inr (hw _ (List.mem_of_getElem? (i := 111) rfl))) (Or.inr (hw _ (List.mem_of_getElem? (i := 117) rfl))) (by decide) (t := .double) (t' := .long) (by decide) (by decide)))
  have F_p50Nanos_o0_tmi6 := F_p50Nanos_o0_tmi5.other Wtmi6 (Or.inr (slot_ne (Or.inr (hw _ (List.mem_of_getElem? (i := 113) rfl))) (Or.inr (hw _ (List.mem_of_getElem? (i := 117) rfl))) (by decide) (t := .long) (t' := .long) (by decide) (by decide)))
  have F_p95Nanos_o0_tmi6 := F_p95Nanos_o0_tmi5.other Wtmi6 (Or.inr (slot_ne (Or.inr (hw _ (List.mem_of_getElem? (i := 115) rfl))) (Or.inr (hw _ (List.mem_of_getElem? (i := 117) rfl))) (by decide) (t := .long) (t' := .long) (by decide) (by decide)))
  have F_p99Nanos_o0_tmi6 := F_p99Nanos_o0_tmi5.same Wtmi6
  have F_maxNanos_o0_tmi6 := F_maxNanos_o0_tmi5.other Wtmi6 (Or.inr (slot_ne (Or.inr (hw _ (List.mem_of_getElem? (i := 119) rfl))) (Or.inr (hw _ (List.mem_of_getElem? (i := 117) rfl))) (by decide) (t := .long) (t' := .long) (by decide) (by decide)))
  have Ntmi6 := Fr.snoc Xtmi6 Ntmi5 g_o0
  obtain ⟨Ttmi7, htmi7, Xtmi7, etmi7, Wtmi7, sttmi7⟩ := putF Xtmi6 hx hZ hown (host := "") (Or.inl (hw _ (List.mem_of_getElem? (i := 118) rfl))) Via.refl etmi6 F_maxNanos_o0_tmi6 E_o0_tmi6 (Or.inr ⟨(hw _ (List.mem_of_getElem? (i := 119) rfl)), rfl, hnm⟩) (hw _ (List.mem_of_getElem? (i := 85) rfl)) (ty := .long) (by decide) rfl rfl (g := (mkF m 35 #[.val (.ref o0), .val (.long y0), .second, .val (.double y1), .second, .val (.long y2), .second, .val (.long y3), .second, .val (.long y4), .second, .val (.long y5), .second] [(.long y5), (.ref o0)])) rfl rfl (hb hby own_d18_35)
  have E_o0_tmi7 := E_o0_tmi6.wr Wtmi7
  have Ztmi7 : n0 ≤ htmi7.size := Nat.le_trans Ztmi6 (Nat.le_of_eq Wtmi7.size.symm)
  have KKtmi7 := KKtmi6.wr Wtmi7 (Or.inl (List.mem_of_getElem? (i := 0) rfl))
  have F_count_o0_tmi7 := F_count_o0_tmi6.other Wtmi7 (Or.inr (slot_ne (Or.inr (hw _ (List.mem_of_getElem? (i := 109) rfl))) (Or.inr (hw _ (List.mem_of_getElem? (i := 119) rfl))) (by decide) (t := .long) (t' := .long) (by decide) (by decide)))
  have F_meanNanos_o0_tmi7 := F_meanNanos_o0_tmi6.other Wtmi7 (Or.inr (slot_ne (Or.inr (hw _ (List.mem_of_getElem? (i := 111) rfl))) (Or.inr (hw _ (List.mem_of_getElem? (i := 119) rfl))) (by decide) (t := .double) (t' := .long) (by decide) (by decide)))
  have F_p50Nanos_o0_tmi7 := F_p50Nanos_o0_tmi6.other Wtmi7 (Or.inr (slot_ne (Or.inr (hw _ (List.mem_of_getElem? (i := 113) rfl))) (Or.inr (hw _ (List.mem_of_getElem? (i := 119) rfl))) (by decide) (t := .long) (t' := .long) (by decide) (by decide)))
  have F_p95Nanos_o0_tmi7 := F_p95Nanos_o0_tmi6.other Wtmi7 (Or.inr (slot_ne (Or.inr (hw _ (List.mem_of_getElem? (i := 115) rfl))) (Or.inr (hw _ (List.mem_of_getElem? (i := 119) rfl))) (by decide) (t := .long) (t' := .long) (by decide) (by decide)))
  have F_p99Nanos_o0_tmi7 := F_p99Nanos_o0_tmi6.other Wtmi7 (Or.inr (slot_ne (Or.inr (hw _ (List.mem_of_getElem? (i := 117) rfl))) (Or.inr (hw _ (List.mem_of_getElem? (i := 119) rfl))) (by decide) (t := .long) (t' := .long) (by decide) (by decide)))
  have F_maxNanos_o0_tmi7 := F_maxNanos_o0_tmi6.same Wtmi7
  have Ntmi7 := Fr.snoc Xtmi7 Ntmi6 g_o0
  obtain ⟨fs, hr, hrun, hended, hW, hsame⟩ := Xtmi7.leave (v := none) (fun _ => rfl)
  refine ⟨_, _, pre0 _ ?_, hrun, hended, _, _, rfl, ?_, ⟨_, rfl⟩, hW, hsame.mono (by decide) (by decide)⟩
  · refine own_s_aloadN X0.here hx (hb hby own_d18_0) (pc' := 1) rfl rfl rfl ?_
    refine sttmi1.trans ?_
    show Steps p.tables e below (Ttmi1.setTop (mkF m 4 #[.val (.ref o0), .val (.long y0), .second, .val (.double y1), .second, .val (.long y2), .second, .val (.long y3), .second, .val (.long y4), .second, .val (.long y5), .second] [])) _
    refine own_s_aloadN Xtmi1.here hx (hb hby own_d18_4) (pc' := 5) rfl rfl rfl ?_
    refine own_s_lloadN Xtmi1.here hx (hb hby own_d18_5) (pc' := 6) rfl rfl ?_
    refine sttmi2 _ ?_
    show Steps p.tables e below (Ttmi2.setTop (mkF m 9 #[.val (.ref o0), .val (.long y0), .second, .val (.double y1), .second, .val (.long y2), .second, .val (.long y3), .second, .val (.long y4), .second, .val (.long y5), .second] [])) _
    refine own_s_aloadN Xtmi2.here hx (hb hby own_d18_9) (pc' := 10) rfl rfl rfl ?_
    refine own_s_dloadN Xtmi2.here hx (hb hby own_d18_10) (pc' := 11) rfl rfl ?_
    refine sttmi3 _ ?_
    show Steps p.tables e below (Ttmi3.setTop (mkF m 14 #[.val (.ref o0), .val (.long y0), .second, .val (.double y1), .second, .val (.long y2), .second, .val (.long y3), .second, .val (.long y4), .second, .val (.long y5), .second] [])) _
    refine own_s_aloadN Xtmi3.here hx (hb hby own_d18_14) (pc' := 15) rfl rfl rfl ?_
    refine own_s_lload Xtmi3.here hx (hb hby own_d18_15) (pc' := 17) rfl rfl ?_
    refine sttmi4 _ ?_
    show Steps p.tables e below (Ttmi4.setTop (mkF m 20 #[.val (.ref o0), .val (.long y0), .second, .val (.double y1), .second, .val (.long y2), .second, .val (.long y3), .second, .val (.long y4), .second, .val (.long y5), .second] [])) _
    refine own_s_aloadN Xtmi4.here hx (hb hby own_d18_20) (pc' := 21) rfl rfl rfl ?_
    refine own_s_lload Xtmi4.here hx (hb hby own_d18_21) (pc' := 23) rfl rfl ?_
    refine sttmi5 _ ?_
    show Steps p.tables e below (Ttmi5.setTop (mkF m 26 #[.val (.ref o0), .val (.long y0), .second, .val (.double y1), .second, .val (.long y2), .second, .val (.long y3), .second, .val (.long y4), .second, .val (.long y5), .second] [])) _
    refine own_s_aloadN Xtmi5.here hx (hb hby own_d18_26) (pc' := 27) rfl rfl rfl ?_
    refine own_s_lload Xtmi5.here hx (hb hby own_d18_27) (pc' := 29) rfl rfl ?_
    refine sttmi6 _ ?_
    show Steps p.tables e below (Ttmi6.setTop (mkF m 32 #[.val (.ref o0), .val (.long y0), .second, .val (.double y1), .second, .val (.long y2), .second, .val (.long y3), .second, .val (.long y4), .second, .val (.long y5), .second] [])) _
    refine own_s_aloadN Xtmi6.here hx (hb hby own_d18_32) (pc' := 33) rfl rfl rfl ?_
    refine own_s_lload Xtmi6.here hx (hb hby own_d18_33) (pc' := 35) rfl rfl ?_
    refine sttmi7 _ ?_
    show Steps p.tables e below (Ttmi7.setTop (mkF m 38 #[.val (.ref o0), .val (.long y0), .second, .val (.double y1), .second, .val (.long y2), .second, .val (.long y3), .second, .val (.long y4), .second, .val (.long y5), .second] [])) _
    exact Xtmi7.returnOut hx Bd.returns (hb hby own_d18_38) hr
  · show own_Q_tmi Z o0 y0 y1 y2 y3 y4 y5 h0 n0 _ Ttmi7.heap _
    rw [etmi7]
    exact ⟨rfl, Ntmi7, KKtmi7, E_o0_tmi7, F_count_o0_tmi7, F_meanNanos_o0_tmi7, F_p50Nanos_o0_tmi7, F_p95Nanos_o0_tmi7, F_p99Nanos_o0_tmi7, F_maxNanos_o0_tmi7⟩
theorem own_d20_0 : decode prog_33_method_5_code 0 = .ok (.aload_n 0, 1) := by decide +kernel
theorem own_d20_1 : decode prog_33_method_5_code 1 = .ok (.getfield 7, 3) := by decide +kernel
theorem own_d20_4 : decode prog_33_method_5_code 4 = .ok (.lreturn, 1) := by decide +kernel
theorem own_ef_tgcount (m : MethodId) (o0 : Addr) : entryFrame m #[(.ref o0)] 1 = mkF m 0 #[.val (.ref o0)] [] := by first | (simp [entryFrame, mkF, argsToLocals, Value.category]; done) | rfl
set_option maxRecDepth 65536 in
set_option maxHeartbeats 40000000 in
theorem own_rm_tgcount (l : Launch) (Z : State) (a0 : Array Value) (hw : ∀ d ∈ tables_1, d.before a0 Z = true) (ws : List Jvm.Cond) (o0 : Addr) (y0 : Int64)  (h0 : Heap) (n0 : Nat) (Z0 : n0 ≤ h0.size) (E_o0 : Exa Z h0 o0 "millrace/PoolSnapshot$Timing") (F_count_o0 : Fld Z h0 o0 "millrace/PoolSnapshot$Timing" "count" "J" (.long y0))  :
    MetFree l (⟨"millrace/PoolSnapshot$Timing", "count", "()J"⟩ : MethodName) (head1 (Jvm.Cond.code (⟨"millrace/PoolSnapshot$Timing", "count", "()J"⟩ : MethodName) prog_33_method_5_code 1 (some .long) :: ws) ({ frames := 0, cells := 0, slots := 0, locals := 0 } : Room)) (fun a U => a = #[(.ref o0)] ∧ Z.Warmed39 U.vm ∧ U.heap = h0) (fun _ _ _ _ _ => True) (fun _ U o U' => ∃ v L, o = .returned v ∧ own_QP (some (.long y0)) h0 n0 v U'.heap L ∧ FrameEnd U o U' L ({ frames := 0, cells := 0, slots := 0, locals := 0 } : Room).cells ({ frames := 0, cells := 0, slots := 0, locals := 0 } : Room).slots) := by
  refine MetFree.of_bodySF (plainFor_of_name own_pn_millrace_PoolSnapshot_Timing) hisR ?_
  intro p e s m args below meth c s₁ Bd hml0 hP hK
  obtain ⟨rfl, hZ, hh⟩ := hP
  have hx := Bd.exec
  have hby := Bd.bytes
  have hml : c.maxLocals = 1 := hml0
  have hown : s.vm.findClass "millrace/PoolSnapshot$Timing" = some m.cls := findClass_of_methodNamed Bd.named
  have hnm := (name_of_methodNamed Bd.named Bd.method).1
  have X0 : Stand p l e ({ frames := 0, cells := 0, slots := 0, locals := 0 } : Room) s m #[(.ref o0)] below meth c s₁ [] 0 0 := Stand.of_body Bd
  have e0 : s₁.heap = h0 := by rw [← hh, Bd.state]; rfl
  have N0 := Fr.nil n0
  have pre0 : ∀ t, Steps p.tables e below (s₁.setTop (mkF m 0 #[.val (.ref o0)] [])) t → Steps p.tables e below (s₁.setTop (entryFrame m #[(.ref o0)] 1)) t := fun t k => castTop (own_ef_tgcount m o0) k
  obtain ⟨Ttgcount1, Xtgcount1, etgcount1, sttgcount1⟩ := getF X0 hx hZ hown (host := "") (Or.inl (hw _ (List.mem_of_getElem? (i := 108) rfl))) Via.refl e0 F_count_o0 (g := (mkF m 1 #[.val (.ref o0)] [(.ref o0)])) rfl rfl (hb hby own_d20_1)
  obtain ⟨fs, hr, hrun, hended, hW, hsame⟩ := Xtgcount1.leave (v := some (.long y0)) (fun h => by rw [Bd.returns] at h; cases h)
  refine ⟨_, _, pre0 _ ?_, hrun, hended, _, _, rfl, ?_, ⟨_, rfl⟩, hW, hsame.mono (by decide) (by decide)⟩
  · refine own_s_aloadN X0.here hx (hb hby own_d20_0) (pc' := 1) rfl rfl rfl ?_
    refine sttgcount1 _ ?_
    show Steps p.tables e below (Ttgcount1.setTop (mkF m 4 #[.val (.ref o0)] [(.long y0)])) _
    exact own_retJ Xtgcount1 hx Bd.returns (hb hby own_d20_4) hr
  · show own_QP (some (.long y0)) h0 n0 _ Ttgcount1.heap _
    rw [etgcount1]
    exact ⟨rfl, N0, rfl⟩
theorem own_d21_0 : decode prog_33_method_10_code 0 = .ok (.aload_n 0, 1) := by decide +kernel
theorem own_d21_1 : decode prog_33_method_10_code 1 = .ok (.getfield 26, 3) := by decide +kernel
theorem own_d21_4 : decode prog_33_method_10_code 4 = .ok (.lreturn, 1) := by decide +kernel
theorem own_ef_tgmaxNanos (m : MethodId) (o0 : Addr) : entryFrame m #[(.ref o0)] 1 = mkF m 0 #[.val (.ref o0)] [] := by first | (simp [entryFrame, mkF, argsToLocals, Value.category]; done) | rfl
set_option maxRecDepth 65536 in
set_option maxHeartbeats 40000000 in
theorem own_rm_tgmaxNanos (l : Launch) (Z : State) (a0 : Array Value) (hw : ∀ d ∈ tables_1, d.before a0 Z = true) (ws : List Jvm.Cond) (o0 : Addr) (y5 : Int64)  (h0 : Heap) (n0 : Nat) (Z0 : n0 ≤ h0.size) (E_o0 : Exa Z h0 o0 "millrace/PoolSnapshot$Timing") (F_maxNanos_o0 : Fld Z h0 o0 "millrace/PoolSnapshot$Timing" "maxNanos" "J" (.long y5))  :
    MetFree l (⟨"millrace/PoolSnapshot$Timing", "maxNanos", "()J"⟩ : MethodName) (head1 (Jvm.Cond.code (⟨"millrace/PoolSnapshot$Timing", "maxNanos", "()J"⟩ : MethodName) prog_33_method_10_code 1 (some .long) :: ws) ({ frames := 0, cells := 0, slots := 0, locals := 0 } : Room)) (fun a U => a = #[(.ref o0)] ∧ Z.Warmed39 U.vm ∧ U.heap = h0) (fun _ _ _ _ _ => True) (fun _ U o U' => ∃ v L, o = .returned v ∧ own_QP (some (.long y5)) h0 n0 v U'.heap L ∧ FrameEnd U o U' L ({ frames := 0, cells := 0, slots := 0, locals := 0 } : Room).cells ({ frames := 0, cells := 0, slots := 0, locals := 0 } : Room).slots) := by
  refine MetFree.of_bodySF (plainFor_of_name own_pn_millrace_PoolSnapshot_Timing) hisR ?_
  intro p e s m args below meth c s₁ Bd hml0 hP hK
  obtain ⟨rfl, hZ, hh⟩ := hP
  have hx := Bd.exec
  have hby := Bd.bytes
  have hml : c.maxLocals = 1 := hml0
  have hown : s.vm.findClass "millrace/PoolSnapshot$Timing" = some m.cls := findClass_of_methodNamed Bd.named
  have hnm := (name_of_methodNamed Bd.named Bd.method).1
  have X0 : Stand p l e ({ frames := 0, cells := 0, slots := 0, locals := 0 } : Room) s m #[(.ref o0)] below meth c s₁ [] 0 0 := Stand.of_body Bd
  have e0 : s₁.heap = h0 := by rw [← hh, Bd.state]; rfl
  have N0 := Fr.nil n0
  have pre0 : ∀ t, Steps p.tables e below (s₁.setTop (mkF m 0 #[.val (.ref o0)] [])) t → Steps p.tables e below (s₁.setTop (entryFrame m #[(.ref o0)] 1)) t := fun t k => castTop (own_ef_tgmaxNanos m o0) k
  obtain ⟨TtgmaxNanos1, XtgmaxNanos1, etgmaxNanos1, sttgmaxNanos1⟩ := getF X0 hx hZ hown (host := "") (Or.inl (hw _ (List.mem_of_getElem? (i := 118) rfl))) Via.refl e0 F_maxNanos_o0 (g := (mkF m 1 #[.val (.ref o0)] [(.ref o0)])) rfl rfl (hb hby own_d21_1)
  obtain ⟨fs, hr, hrun, hended, hW, hsame⟩ := XtgmaxNanos1.leave (v := some (.long y5)) (fun h => by rw [Bd.returns] at h; cases h)
  refine ⟨_, _, pre0 _ ?_, hrun, hended, _, _, rfl, ?_, ⟨_, rfl⟩, hW, hsame.mono (by decide) (by decide)⟩
  · refine own_s_aloadN X0.here hx (hb hby own_d21_0) (pc' := 1) rfl rfl rfl ?_
    refine sttgmaxNanos1 _ ?_
    show Steps p.tables e below (TtgmaxNanos1.setTop (mkF m 4 #[.val (.ref o0)] [(.long y5)])) _
    exact own_retJ XtgmaxNanos1 hx Bd.returns (hb hby own_d21_4) hr
  · show own_QP (some (.long y5)) h0 n0 _ TtgmaxNanos1.heap _
    rw [etgmaxNanos1]
    exact ⟨rfl, N0, rfl⟩
theorem own_d22_0 : decode prog_33_method_6_code 0 = .ok (.aload_n 0, 1) := by decide +kernel
theorem own_d22_1 : decode prog_33_method_6_code 1 = .ok (.getfield 13, 3) := by decide +kernel
theorem own_d22_4 : decode prog_33_method_6_code 4 = .ok (.dreturn, 1) := by decide +kernel
theorem own_ef_tgmeanNanos (m : MethodId) (o0 : Addr) : entryFrame m #[(.ref o0)] 1 = mkF m 0 #[.val (.ref o0)] [] := by first | (simp [entryFrame, mkF, argsToLocals, Value.category]; done) | rfl
set_option maxRecDepth 65536 in
set_option maxHeartbeats 40000000 in
theorem own_rm_tgmeanNanos (l : Launch) (Z : State) (a0 : Array Value) (hw : ∀ d ∈ tables_1, d.before a0 Z = true) (ws : List Jvm.Cond) (o0 : Addr) (y1 : UInt64)  (h0 : Heap) (n0 : Nat) (Z0 : n0 ≤ h0.size) (E_o0 : Exa Z h0 o0 "millrace/PoolSnapshot$Timing") (F_meanNanos_o0 : Fld Z h0 o0 "millrace/PoolSnapshot$Timing" "meanNanos" "D" (.double y1))  :
    MetFree l (⟨"millrace/PoolSnapshot$Timing", "meanNanos", "()D"⟩ : MethodName) (head1 (Jvm.Cond.code (⟨"millrace/PoolSnapshot$Timing", "meanNanos", "()D"⟩ : MethodName) prog_33_method_6_code 1 (some .double) :: ws) ({ frames := 0, cells := 0, slots := 0, locals := 0 } : Room)) (fun a U => a = #[(.ref o0)] ∧ Z.Warmed39 U.vm ∧ U.heap = h0) (fun _ _ _ _ _ => True) (fun _ U o U' => ∃ v L, o = .returned v ∧ own_QP (some (.double y1)) h0 n0 v U'.heap L ∧ FrameEnd U o U' L ({ frames := 0, cells := 0, slots := 0, locals := 0 } : Room).cells ({ frames := 0, cells := 0, slots := 0, locals := 0 } : Room).slots) := by
  refine MetFree.of_bodySF (plainFor_of_name own_pn_millrace_PoolSnapshot_Timing) hisR ?_
  intro p e s m args below meth c s₁ Bd hml0 hP hK
  obtain ⟨rfl, hZ, hh⟩ := hP
  have hx := Bd.exec
  have hby := Bd.bytes
  have hml : c.maxLocals = 1 := hml0
  have hown : s.vm.findClass "millrace/PoolSnapshot$Timing" = some m.cls := findClass_of_methodNamed Bd.named
  have hnm := (name_of_methodNamed Bd.named Bd.method).1
  have X0 : Stand p l e ({ frames := 0, cells := 0, slots := 0, locals := 0 } : Room) s m #[(.ref o0)] below meth c s₁ [] 0 0 := Stand.of_body Bd
  have e0 : s₁.heap = h0 := by rw [← hh, Bd.state]; rfl
  have N0 := Fr.nil n0
  have pre0 : ∀ t, Steps p.tables e below (s₁.setTop (mkF m 0 #[.val (.ref o0)] [])) t → Steps p.tables e below (s₁.setTop (entryFrame m #[(.ref o0)] 1)) t := fun t k => castTop (own_ef_tgmeanNanos m o0) k
  obtain ⟨TtgmeanNanos1, XtgmeanNanos1, etgmeanNanos1, sttgmeanNanos1⟩ := getF X0 hx hZ hown (host := "") (Or.inl (hw _ (List.mem_of_getElem? (i := 110) rfl))) Via.refl e0 F_meanNanos_o0 (g := (mkF m 1 #[.val (.ref o0)] [(.ref o0)])) rfl rfl (hb hby own_d22_1)
  obtain ⟨fs, hr, hrun, hended, hW, hsame⟩ := XtgmeanNanos1.leave (v := some (.double y1)) (fun h => by rw [Bd.returns] at h; cases h)
  refine ⟨_, _, pre0 _ ?_, hrun, hended, _, _, rfl, ?_, ⟨_, rfl⟩, hW, hsame.mono (by decide) (by decide)⟩
  · refine own_s_aloadN X0.here hx (hb hby own_d22_0) (pc' := 1) rfl rfl rfl ?_
    refine sttgmeanNanos1 _ ?_
    show Steps p.tables e below (TtgmeanNanos1.setTop (mkF m 4 #[.val (.ref o0)] [(.double y1)])) _
    exact own_retD XtgmeanNanos1 hx Bd.returns (hb hby own_d22_4) hr
  · show own_QP (some (.double y1)) h0 n0 _ TtgmeanNanos1.heap _
    rw [etgmeanNanos1]
    exact ⟨rfl, N0, rfl⟩
theorem own_d1_0 : decode prog_51_method_1_code 0 = .ok (.aload_n 0, 1) := by decide +kernel
theorem own_d1_1 : decode prog_51_method_1_code 1 = .ok (.invokespecial 1, 3) := by decide +kernel
theorem own_d1_4 : decode prog_51_method_1_code 4 = .ok (.aload_n 0, 1) := by decide +kernel
theorem own_d1_5 : decode prog_51_method_1_code 5 = .ok (.bipush 64, 2) := by decide +kernel
theorem own_d1_7 : decode prog_51_method_1_code 7 = .ok (.newarray .long, 2) := by decide +kernel
theorem own_d1_9 : decode prog_51_method_1_code 9 = .ok (.putfield 9, 3) := by decide +kernel
theorem own_d1_12 : decode prog_51_method_1_code 12 = .ok (.aload_n 0, 1) := by decide +kernel
theorem own_d1_13 : decode prog_51_method_1_code 13 = .ok (.bipush 64, 2) := by decide +kernel
theorem own_d1_15 : decode prog_51_method_1_code 15 = .ok (.newarray .long, 2) := by decide +kernel
theorem own_d1_17 : decode prog_51_method_1_code 17 = .ok (.putfield 13, 3) := by decide +kernel
theorem own_d1_20 : decode prog_51_method_1_code 20 = .ok (.return_, 1) := by decide +kernel
theorem own_pn_millrace_TimingBuffer : plainName "millrace/TimingBuffer" = true := by first | (simp [plainName, overriddenIn]; done) | decide +kernel
theorem own_ef_tbi (m : MethodId) (tb : Addr) : entryFrame m #[(.ref tb)] 1 = mkF m 0 #[.val (.ref tb)] [] := by first | (simp [entryFrame, mkF, argsToLocals, Value.category]; done) | rfl
def own_Q_tbi (Z : State) (tb : Addr) (h0 : Heap) (n0 : Nat) (v : Option Value) (h : Heap) (L : List Loc) : Prop := ∃ (btbi4 : Addr) (ktbi4 : ClassId), ∃ (btbi2 : Addr) (ktbi2 : ClassId), v = none ∧ Fr n0 L ∧ Keep h0 h [tb] ∧ Exa Z h tb "millrace/TimingBuffer" ∧ Fld Z h tb "millrace/TimingBuffer" "waits" "[J" (.ref btbi2) ∧ Fld Z h tb "millrace/TimingBuffer" "waitCount" "I" (.int (0 : Int32)) ∧ Fld Z h tb "millrace/TimingBuffer" "runs" "[J" (.ref btbi4) ∧ Fld Z h tb "millrace/TimingBuffer" "runCount" "I" (.int (0 : Int32)) ∧ h0.size ≤ btbi2 ∧ Arv Z h btbi2 ktbi2 .long (64 : Int32) (List.replicate 64 (Value.long 0)) (.long 0) ∧ h0.size ≤ btbi4 ∧ Arv Z h btbi4 ktbi4 .long (64 : Int32) (List.replicate 64 (Value.long 0)) (.long 0) ∧ btbi2 ≠ btbi4
set_option maxRecDepth 65536 in
set_option maxHeartbeats 40000000 in
theorem own_rm_tbi (l : Launch) (Z : State) (a0 : Array Value) (hw : ∀ d ∈ tables_1, d.before a0 Z = true) (ws : List Jvm.Cond) (tb : Addr)  (h0 : Heap) (n0 : Nat) (Z0 : n0 ≤ h0.size) (E_tb : Exa Z h0 tb "millrace/TimingBuffer") (F_waits_tb : Fld Z h0 tb "millrace/TimingBuffer" "waits" "[J" .null) (F_waitCount_tb : Fld Z h0 tb "millrace/TimingBuffer" "waitCount" "I" (.int (0 : Int32))) (F_runs_tb : Fld Z h0 tb "millrace/TimingBuffer" "runs" "[J" .null) (F_runCount_tb : Fld Z h0 tb "millrace/TimingBuffer" "runCount" "I" (.int (0 : Int32))) (g_tb : n0 ≤ tb)  :
    MetFree l (⟨"millrace/TimingBuffer", "<init>", "()V"⟩ : MethodName) (head1 (Jvm.Cond.code (⟨"millrace/TimingBuffer", "<init>", "()V"⟩ : MethodName) prog_51_method_1_code 1 none :: ws) ({ frames := 1, cells := 2, slots := 128, locals := 12 } : Room)) (fun a U => a = #[(.ref tb)] ∧ Z.Warmed39 U.vm ∧ U.heap = h0) (fun _ _ _ _ _ => True) (fun _ U o U' => ∃ v L, o = .returned v ∧ own_Q_tbi Z tb h0 n0 v U'.heap L ∧ FrameEnd U o U' L ({ frames := 1, cells := 2, slots := 128, locals := 12 } : Room).cells ({ frames := 1, cells := 2, slots := 128, locals := 12 } : Room).slots) := by
  refine MetFree.of_bodySF (plainFor_of_name own_pn_millrace_TimingBuffer) hisR ?_
  intro p e s m args below meth c s₁ Bd hml0 hP hK
  obtain ⟨rfl, hZ, hh⟩ := hP
  have hx := Bd.exec
  have hby := Bd.bytes
  have hml : c.maxLocals = 1 := hml0
  have hown : s.vm.findClass "millrace/TimingBuffer" = some m.cls := findClass_of_methodNamed Bd.named
  have hnm := (name_of_methodNamed Bd.named Bd.method).1
  have X0 : Stand p l e ({ frames := 1, cells := 2, slots := 128, locals := 12 } : Room) s m #[(.ref tb)] below meth c s₁ [] 0 0 := Stand.of_body Bd
  have e0 : s₁.heap = h0 := by rw [← hh, Bd.state]; rfl
  have N0 := Fr.nil n0
  have pre0 : ∀ t, Steps p.tables e below (s₁.setTop (mkF m 0 #[.val (.ref tb)] [])) t → Steps p.tables e below (s₁.setTop (entryFrame m #[(.ref tb)] 1)) t := fun t k => castTop (own_ef_tbi m tb) k
  obtain ⟨Ttbi1, Xtbi1, etbi1, sttbi1⟩ := initO X0 hx hZ hown (hw _ (List.mem_of_getElem? (i := 6) rfl)) (hw _ (List.mem_of_getElem? (i := 7) rfl)) (hw _ (List.mem_of_getElem? (i := 8) rfl)) e0 (g := (mkF m 1 #[.val (.ref tb)] [(.ref tb)])) rfl (by rw [hml]; rfl) rfl (hb hby own_d1_1) (by decide) (W := 0) (by show 2 * 0 + _ ≤ _; exact Nat.le_of_eq rfl) (by decide)
  obtain ⟨Ttbi2, htbi2, ktbi2, btbi2, Xtbi2, etbi2, Etbi2, Gtbi2, Vtbi2, EXtbi2, sttbi2⟩ := own_newJE (L := #[.val (.ref tb)]) (S := [(.ref tb)]) Xtbi1 hx hZ (hw _ (List.mem_of_getElem? (i := 9) rfl)) etbi1 (z := (64 : Int32)) 64 (by decide) (by decide) (by decide) (by decide) (by decide) (hb hby own_d1_7) (pc' := 9) rfl
  have ne_tb_btbi2 : tb ≠ btbi2 := Nat.ne_of_lt (Nat.lt_of_lt_of_le E_tb.lt (Nat.le_of_eq Gtbi2.symm))
  have ne_btbi2_tb : btbi2 ≠ tb := Ne.symm ne_tb_btbi2
  have g_btbi2 : n0 ≤ btbi2 := Nat.le_trans Z0 (Nat.le_of_eq Gtbi2.symm)
  have sz_btbi2 : h0.size ≤ btbi2 := Nat.le_trans (Keep.refl h0 [tb]).1 (Nat.le_of_eq Gtbi2.symm)
  have E_tb_tbi2 := E_tb.ext Etbi2
  have F_waits_tb_tbi2 := F_waits_tb.ext Etbi2
  have F_waitCount_tb_tbi2 := F_waitCount_tb.ext Etbi2
  have F_runs_tb_tbi2 := F_runs_tb.ext Etbi2
  have F_runCount_tb_tbi2 := F_runCount_tb.ext Etbi2
  have Ztbi2 : n0 ≤ htbi2.size := Nat.le_trans Z0 Etbi2.1
  have KKtbi2 := (Keep.refl h0 [tb]).ext Etbi2
  have V_btbi2 : Arv Z htbi2 btbi2 ktbi2 .long (64 : Int32) (List.replicate 64 (Value.long 0)) (.long 0) := Vtbi2
  obtain ⟨Ttbi3, htbi3, Xtbi3, etbi3, Wtbi3, sttbi3⟩ := putF Xtbi2 hx hZ hown (host := "") (Or.inl (hw _ (List.mem_of_getElem? (i := 10) rfl))) Via.refl etbi2 F_waits_tb_tbi2 E_tb_tbi2 (Or.inr ⟨(hw _ (List.mem_of_getElem? (i := 11) rfl)), rfl, hnm⟩) (hw _ (List.mem_of_getElem? (i := 1) rfl)) (ty := (.array .long)) (by decide) rfl rfl (g := (mkF m 9 #[.val (.ref tb)] [(.ref btbi2), (.ref tb)])) rfl rfl (hb hby own_d1_9)
  have V_btbi2_tbi3 := V_btbi2.other Wtbi3 ne_btbi2_tb
  have E_tb_tbi3 := E_tb_tbi2.wr Wtbi3
  have Ztbi3 : n0 ≤ htbi3.size := Nat.le_trans Ztbi2 (Nat.le_of_eq Wtbi3.size.symm)
  have KKtbi3 := KKtbi2.wr Wtbi3 (Or.inl (List.mem_of_getElem? (i := 0) rfl))
  have F_waits_tb_tbi3 := F_waits_tb_tbi2.same Wtbi3
  have F_waitCount_tb_tbi3 := F_waitCount_tb_tbi2.other Wtbi3 (Or.inr (slot_ne (Or.inl (hw _ (List.mem_of_getElem? (i := 20) rfl))) (Or.inr (hw _ (List.mem_of_getElem? (i := 11) rfl))) (by decide) (t := .int) (t' := (.array .long)) (by decide) (by decide)))
  have F_runs_tb_tbi3 := F_runs_tb_tbi2.other Wtbi3 (Or.inr (slot_ne (Or.inr (hw _ (List.mem_of_getElem? (i := 13) rfl))) (Or.inr (hw _ (List.mem_of_getElem? (i := 11) rfl))) (by decide) (t := (.array .long)) (t' := (.array .long)) (by decide) (by decide)))
  have F_runCount_tb_tbi3 := F_runCount_tb_tbi2.other Wtbi3 (Or.inr (slot_ne (Or.inl (hw _ (List.mem_of_getElem? (i := 27) rfl))) (Or.inr (hw _ (List.mem_of_getElem? (i := 11) rfl))) (by decide) (t := .int) (t' := (.array .long)) (by decide) (by decide)))
  have Ntbi3 := Fr.snoc Xtbi3 N0 g_tb
  obtain ⟨Ttbi4, htbi4, ktbi4, btbi4, Xtbi4, etbi4, Etbi4, Gtbi4, Vtbi4, EXtbi4, sttbi4⟩ := own_newJE (L := #[.val (.ref tb)]) (S := [(.ref tb)]) Xtbi3 hx hZ (hw _ (List.mem_of_getElem? (i := 9) rfl)) etbi3 (z := (64 : Int32)) 64 (by decide) (by decide) (by decide) (by decide) (by decide) (hb hby own_d1_15) (pc' := 17) rfl
  have ne_btbi2_btbi4 : btbi2 ≠ btbi4 := Nat.ne_of_lt (Nat.lt_of_lt_of_le V_btbi2_tbi3.lt (Nat.le_of_eq Gtbi4.symm))
  have ne_btbi4_btbi2 : btbi4 ≠ btbi2 := Ne.symm ne_btbi2_btbi4
  have ne_tb_btbi4 : tb ≠ btbi4 := Nat.ne_of_lt (Nat.lt_of_lt_of_le E_tb_tbi3.lt (Nat.le_of_eq Gtbi4.symm))
  have ne_btbi4_tb : btbi4 ≠ tb := Ne.symm ne_tb_btbi4
  have g_btbi4 : n0 ≤ btbi4 := Nat.le_trans Ztbi3 (Nat.le_of_eq Gtbi4.symm)
  have sz_btbi4 : h0.size ≤ btbi4 := Nat.le_trans KKtbi3.1 (Nat.le_of_eq Gtbi4.symm)
  have V_btbi2_tbi4 := V_btbi2_tbi3.ext Etbi4
  have E_tb_tbi4 := E_tb_tbi3.ext Etbi4
  have F_waits_tb_tbi4 := F_waits_tb_tbi3.ext Etbi4
  have F_waitCount_tb_tbi4 := F_waitCount_tb_tbi3.ext Etbi4
  have F_runs_tb_tbi4 := F_runs_tb_tbi3.ext Etbi4
  have F_runCount_tb_tbi4 := F_runCount_tb_tbi3.ext Etbi4
  have Ztbi4 : n0 ≤ htbi4.size := Nat.le_trans Ztbi3 Etbi4.1
  have KKtbi4 := KKtbi3.ext Etbi4
  have V_btbi4 : Arv Z htbi4 btbi4 ktbi4 .long (64 : Int32) (List.replicate 64 (Value.long 0)) (.long 0) := Vtbi4
  obtain ⟨Ttbi5, htbi5, Xtbi5, etbi5, Wtbi5, sttbi5⟩ := putF Xtbi4 hx hZ hown (host := "") (Or.inl (hw _ (List.mem_of_getElem? (i := 12) rfl))) Via.refl etbi4 F_runs_tb_tbi4 E_tb_tbi4 (Or.inr ⟨(hw _ (List.mem_of_getElem? (i := 13) rfl)), rfl, hnm⟩) (hw _ (List.mem_of_getElem? (i := 1) rfl)) (ty := (.array .long)) (by decide) rfl rfl (g := (mkF m 17 #[.val (.ref tb)] [(.ref btbi4), (.ref tb)])) rfl rfl (hb hby own_d1_17)
  have V_btbi2_tbi5 := V_btbi2_tbi4.other Wtbi5 ne_btbi2_tb
  have V_btbi4_tbi5 := V_btbi4.other Wtbi5 ne_btbi4_tb
  have E_tb_tbi5 := E_tb_tbi4.wr Wtbi5
  have Ztbi5 : n0 ≤ htbi5.size := Nat.le_trans Ztbi4 (Nat.le_of_eq Wtbi5.size.symm)
  have KKtbi5 := KKtbi4.wr Wtbi5 (Or.inl (List.mem_of_getElem? (i := 0) rfl))
  have F_waits_tb_tbi5 := F_waits_tb_tbi4.other Wtbi5 (Or.inr (slot_ne (Or.inr (hw _ (List.mem_of_getElem? (i := 11) rfl))) (Or.inr (hw _ (List.mem_of_getElem? (i := 13) rfl))) (by decide) (t := (.array .long)) (t' := (.array .long)) (by decide) (by decide)))
  have F_waitCount_tb_tbi5 := F_waitCount_tb_tbi4.other Wtbi5 (Or.inr (slot_ne (Or.inl (hw _ (List.mem_of_getElem? (i := 20) rfl))) (Or.inr (hw _ (List.mem_of_getElem? (i := 13) rfl))) (by decide) (t := .int) (t' := (.array .long)) (by decide) (by decide)))
  have F_runs_tb_tbi5 := F_runs_tb_tbi4.same Wtbi5
  have F_runCount_tb_tbi5 := F_runCount_tb_tbi4.other Wtbi5 (Or.inr (slot_ne (Or.inl (hw _ (List.mem_of_getElem? (i := 27) rfl))) (Or.inr (hw _ (List.mem_of_getElem? (i := 13) rfl))) (by decide) (t := .int) (t' := (.array .long)) (by decide) (by decide)))
  have Ntbi5 := Fr.snoc Xtbi5 Ntbi3 g_tb
  obtain ⟨fs, hr, hrun, hended, hW, hsame⟩ := Xtbi5.leave (v := none) (fun _ => rfl)
  refine ⟨_, _, pre0 _ ?_, hrun, hended, _, _, rfl, ?_, ⟨_, rfl⟩, hW, hsame.mono (by decide) (by decide)⟩
  · refine own_s_aloadN X0.here hx (hb hby own_d1_0) (pc' := 1) rfl rfl rfl ?_
    refine sttbi1 _ ?_
    show Steps p.tables e below (Ttbi1.setTop (mkF m 4 #[.val (.ref tb)] [])) _
    refine own_s_aloadN Xtbi1.here hx (hb hby own_d1_4) (pc' := 5) rfl rfl rfl ?_
    refine own_s_bipush Xtbi1.here hx (hb hby own_d1_5) (pc' := 7) rfl (v := (64 : Int32)) (by decide) ?_
    refine sttbi2 _ ?_
    refine sttbi3 _ ?_
    show Steps p.tables e below (Ttbi3.setTop (mkF m 12 #[.val (.ref tb)] [])) _
    refine own_s_aloadN Xtbi3.here hx (hb hby own_d1_12) (pc' := 13) rfl rfl rfl ?_
    refine own_s_bipush Xtbi3.here hx (hb hby own_d1_13) (pc' := 15) rfl (v := (64 : Int32)) (by decide) ?_
    refine sttbi4 _ ?_
    refine sttbi5 _ ?_
    show Steps p.tables e below (Ttbi5.setTop (mkF m 20 #[.val (.ref tb)] [])) _
    exact Xtbi5.returnOut hx Bd.returns (hb hby own_d1_20) hr
  · show own_Q_tbi Z tb h0 n0 _ Ttbi5.heap _
    rw [etbi5]
    exact ⟨btbi4, ktbi4, btbi2, ktbi2, rfl, Ntbi5, KKtbi5, E_tb_tbi5, F_waits_tb_tbi5, F_waitCount_tb_tbi5, F_runs_tb_tbi5, F_runCount_tb_tbi5, sz_btbi2, V_btbi2_tbi5, sz_btbi4, V_btbi4_tbi5, ne_btbi2_btbi4⟩
theorem own_d5_0 : decode prog_18_method_1_code 0 = .ok (.aload_n 0, 1) := by decide +kernel
theorem own_d5_1 : decode prog_18_method_1_code 1 = .ok (.invokespecial 3, 3) := by decide +kernel
theorem own_d5_4 : decode prog_18_method_1_code 4 = .ok (.aload_n 0, 1) := by decide +kernel
theorem own_d5_5 : decode prog_18_method_1_code 5 = .ok (.bipush 57, 2) := by decide +kernel
theorem own_d5_7 : decode prog_18_method_1_code 7 = .ok (.anewarray 11, 3) := by decide +kernel
theorem own_d5_10 : decode prog_18_method_1_code 10 = .ok (.putfield 13, 3) := by decide +kernel
theorem own_d5_13 : decode prog_18_method_1_code 13 = .ok (.return_, 1) := by decide +kernel
theorem own_ef_dhi (m : MethodId) (w : Addr) : entryFrame m #[(.ref w)] 1 = mkF m 0 #[.val (.ref w)] [] := by first | (simp [entryFrame, mkF, argsToLocals, Value.category]; done) | rfl
def own_Q_dhi (Z : State) (w : Addr) (h0 : Heap) (n0 : Nat) (v : Option Value) (h : Heap) (L : List Loc) : Prop := ∃ (bdhi2 : Addr) (kdhi2 : ClassId), v = none ∧ Fr n0 L ∧ Keep h0 h [w] ∧ Unt h w ∧ Exa Z h w "millrace/DurationHistogram" ∧ Fld Z h w "millrace/DurationHistogram" "ranges" "[[J" (.ref bdhi2) ∧ Fld Z h w "millrace/DurationHistogram" "count" "J" (.long (0 : Int64)) ∧ Fld Z h w "millrace/DurationHistogram" "sum" "D" (.double 0) ∧ Fld Z h w "millrace/DurationHistogram" "max" "J" (.long (0 : Int64)) ∧ h0.size ≤ bdhi2 ∧ Arv Z h bdhi2 kdhi2 (.array .long) (57 : Int32) (List.replicate 57 Value.null) (.null) ∧ OvrA Z kdhi2 .long "[J"
set_option maxRecDepth 65536 in
set_option maxHeartbeats 40000000 in
theorem own_rm_dhi (l : Launch) (Z : State) (a0 : Array Value) (hw : ∀ d ∈ tables_1, d.before a0 Z = true) (ws : List Jvm.Cond) (w : Addr)  (h0 : Heap) (n0 : Nat) (Z0 : n0 ≤ h0.size) (E_w : Exa Z h0 w "millrace/DurationHistogram") (U_w : Unt h0 w) (F_ranges_w : Fld Z h0 w "millrace/DurationHistogram" "ranges" "[[J" .null) (F_count_w : Fld Z h0 w "millrace/DurationHistogram" "count" "J" (.long (0 : Int64))) (F_sum_w : Fld Z h0 w "millrace/DurationHistogram" "sum" "D" (.double 0)) (F_max_w : Fld Z h0 w "millrace/DurationHistogram" "max" "J" (.long (0 : Int64))) (g_w : n0 ≤ w)  :
    MetFree l (⟨"millrace/DurationHistogram", "<init>", "()V"⟩ : MethodName) (head1 (Jvm.Cond.code (⟨"millrace/DurationHistogram", "<init>", "()V"⟩ : MethodName) prog_18_method_1_code 1 none :: ws) ({ frames := 1, cells := 1, slots := 57, locals := 12 } : Room)) (fun a U => a = #[(.ref w)] ∧ Z.Warmed39 U.vm ∧ U.heap = h0) (fun _ _ _ _ _ => True) (fun _ U o U' => ∃ v L, o = .returned v ∧ own_Q_dhi Z w h0 n0 v U'.heap L ∧ FrameEnd U o U' L ({ frames := 1, cells := 1, slots := 57, locals := 12 } : Room).cells ({ frames := 1, cells := 1, slots := 57, locals := 12 } : Room).slots) := by
  refine MetFree.of_bodySF (plainFor_of_name own_pn_millrace_DurationHistogram) hisR ?_
  intro p e s m args below meth c s₁ Bd hml0 hP hK
  obtain ⟨rfl, hZ, hh⟩ := hP
  have hx := Bd.exec
  have hby := Bd.bytes
  have hml : c.maxLocals = 1 := hml0
  have hown : s.vm.findClass "millrace/DurationHistogram" = some m.cls := findClass_of_methodNamed Bd.named
  have hnm := (name_of_methodNamed Bd.named Bd.method).1
  have X0 : Stand p l e ({ frames := 1, cells := 1, slots := 57, locals := 12 } : Room) s m #[(.ref w)] below meth c s₁ [] 0 0 := Stand.of_body Bd
  have e0 : s₁.heap = h0 := by rw [← hh, Bd.state]; rfl
  have N0 := Fr.nil n0
  have pre0 : ∀ t, Steps p.tables e below (s₁.setTop (mkF m 0 #[.val (.ref w)] [])) t → Steps p.tables e below (s₁.setTop (entryFrame m #[(.ref w)] 1)) t := fun t k => castTop (own_ef_dhi m w) k
  obtain ⟨Tdhi1, Xdhi1, edhi1, stdhi1⟩ := initO X0 hx hZ hown (hw _ (List.mem_of_getElem? (i := 34) rfl)) (hw _ (List.mem_of_getElem? (i := 7) rfl)) (hw _ (List.mem_of_getElem? (i := 8) rfl)) e0 (g := (mkF m 1 #[.val (.ref w)] [(.ref w)])) rfl (by rw [hml]; rfl) rfl (hb hby own_d5_1) (by decide) (W := 0) (by show 2 * 0 + _ ≤ _; exact Nat.le_of_eq rfl) (by decide)
  obtain ⟨Tdhi2, hdhi2, kdhi2, bdhi2, Xdhi2, edhi2, Edhi2, Gdhi2, Vdhi2, Odhi2, EXdhi2, stdhi2⟩ := own_newRJ (L := #[.val (.ref w)]) (S := [(.ref w)]) Xdhi1 hx hZ hown (hw _ (List.mem_of_getElem? (i := 35) rfl)) (hw _ (List.mem_of_getElem? (i := 36) rfl)) edhi1 (z := (57 : Int32)) 57 (by decide) (by decide) (by decide) (by decide) (by decide) (hb hby own_d5_7) (pc' := 10) rfl
  have ne_w_bdhi2 : w ≠ bdhi2 := Nat.ne_of_lt (Nat.lt_of_lt_of_le E_w.lt (Nat.le_of_eq Gdhi2.symm))
  have ne_bdhi2_w : bdhi2 ≠ w := Ne.symm ne_w_bdhi2
  have g_bdhi2 : n0 ≤ bdhi2 := Nat.le_trans Z0 (Nat.le_of_eq Gdhi2.symm)
  have sz_bdhi2 : h0.size ≤ bdhi2 := Nat.le_trans (Keep.refl h0 [w]).1 (Nat.le_of_eq Gdhi2.symm)
  have E_w_dhi2 := E_w.ext Edhi2
  have U_w_dhi2 := Unt.ext Edhi2 U_w
  have F_ranges_w_dhi2 := F_ranges_w.ext Edhi2
  have F_count_w_dhi2 := F_count_w.ext Edhi2
  have F_sum_w_dhi2 := F_sum_w.ext Edhi2
  have F_max_w_dhi2 := F_max_w.ext Edhi2
  have Zdhi2 : n0 ≤ hdhi2.size := Nat.le_trans Z0 Edhi2.1
  have KKdhi2 := (Keep.refl h0 [w]).ext Edhi2
  have V_bdhi2 : Arv Z hdhi2 bdhi2 kdhi2 (.array .long) (57 : Int32) (List.replicate 57 Value.null) (.null) := Vdhi2
  obtain ⟨Tdhi3, hdhi3, Xdhi3, edhi3, Wdhi3, stdhi3⟩ := putF Xdhi2 hx hZ hown (host := "") (Or.inl (hw _ (List.mem_of_getElem? (i := 37) rfl))) Via.refl edhi2 F_ranges_w_dhi2 E_w_dhi2 (Or.inr ⟨(hw _ (List.mem_of_getElem? (i := 38) rfl)), rfl, hnm⟩) (hw _ (List.mem_of_getElem? (i := 29) rfl)) (ty := (.array (.array .long))) (by decide) rfl rfl (g := (mkF m 10 #[.val (.ref w)] [(.ref bdhi2), (.ref w)])) rfl rfl (hb hby own_d5_10)
  have V_bdhi2_dhi3 := V_bdhi2.other Wdhi3 ne_bdhi2_w
  have E_w_dhi3 := E_w_dhi2.wr Wdhi3
  have U_w_dhi3 := Unt.wr Wdhi3 U_w_dhi2
  have Zdhi3 : n0 ≤ hdhi3.size := Nat.le_trans Zdhi2 (Nat.le_of_eq Wdhi3.size.symm)
  have KKdhi3 := KKdhi2.wr Wdhi3 (Or.inl (List.mem_of_getElem? (i := 0) rfl))
  have F_ranges_w_dhi3 := F_ranges_w_dhi2.same Wdhi3
  have F_count_w_dhi3 := F_count_w_dhi2.other Wdhi3 (Or.inr (slot_ne (Or.inl (hw _ (List.mem_of_getElem? (i := 74) rfl))) (Or.inr (hw _ (List.mem_of_getElem? (i := 38) rfl))) (by decide) (t := .long) (t' := (.array (.array .long))) (by decide) (by decide)))
  have F_sum_w_dhi3 := F_sum_w_dhi2.other Wdhi3 (Or.inr (slot_ne (Or.inl (hw _ (List.mem_of_getElem? (i := 76) rfl))) (Or.inr (hw _ (List.mem_of_getElem? (i := 38) rfl))) (by decide) (t := .double) (t' := (.array (.array .long))) (by decide) (by decide)))
  have F_max_w_dhi3 := F_max_w_dhi2.other Wdhi3 (Or.inr (slot_ne (Or.inl (hw _ (List.mem_of_getElem? (i := 78) rfl))) (Or.inr (hw _ (List.mem_of_getElem? (i := 38) rfl))) (by decide) (t := .long) (t' := (.array (.array .long))) (by decide) (by decide)))
  have Ndhi3 := Fr.snoc Xdhi3 N0 g_w
  obtain ⟨fs, hr, hrun, hended, hW, hsame⟩ := Xdhi3.leave (v := none) (fun _ => rfl)
  refine ⟨_, _, pre0 _ ?_, hrun, hended, _, _, rfl, ?_, ⟨_, rfl⟩, hW, hsame.mono (by decide) (by decide)⟩
  · refine own_s_aloadN X0.here hx (hb hby own_d5_0) (pc' := 1) rfl rfl rfl ?_
    refine stdhi1 _ ?_
    show Steps p.tables e below (Tdhi1.setTop (mkF m 4 #[.val (.ref w)] [])) _
    refine own_s_aloadN Xdhi1.here hx (hb hby own_d5_4) (pc' := 5) rfl rfl rfl ?_
    refine own_s_bipush Xdhi1.here hx (hb hby own_d5_5) (pc' := 7) rfl (v := (57 : Int32)) (by decide) ?_
    refine stdhi2 _ ?_
    refine stdhi3 _ ?_
    show Steps p.tables e below (Tdhi3.setTop (mkF m 13 #[.val (.ref w)] [])) _
    exact Xdhi3.returnOut hx Bd.returns (hb hby own_d5_13) hr
  · show own_Q_dhi Z w h0 n0 _ Tdhi3.heap _
    rw [edhi3]
    exact ⟨bdhi2, kdhi2, rfl, Ndhi3, KKdhi3, U_w_dhi3, E_w_dhi3, F_ranges_w_dhi3, F_count_w_dhi3, F_sum_w_dhi3, F_max_w_dhi3, sz_bdhi2, V_bdhi2_dhi3, Odhi2⟩
theorem own_d3_0 : decode prog_51_method_2_code 0 = .ok (.aload_n 0, 1) := by decide +kernel
theorem own_d3_1 : decode prog_51_method_2_code 1 = .ok (.getfield 9, 3) := by decide +kernel
theorem own_d3_4 : decode prog_51_method_2_code 4 = .ok (.aload_n 0, 1) := by decide +kernel
theorem own_d3_5 : decode prog_51_method_2_code 5 = .ok (.dup, 1) := by decide +kernel
theorem own_d3_6 : decode prog_51_method_2_code 6 = .ok (.getfield 16, 3) := by decide +kernel
theorem own_d3_9 : decode prog_51_method_2_code 9 = .ok (.dup_x1, 1) := by decide +kernel
theorem own_d3_10 : decode prog_51_method_2_code 10 = .ok (.iconst 1, 1) := by decide +kernel
theorem own_d3_11 : decode prog_51_method_2_code 11 = .ok (.iadd, 1) := by decide +kernel
theorem own_d3_12 : decode prog_51_method_2_code 12 = .ok (.putfield 16, 3) := by decide +kernel
theorem own_d3_15 : decode prog_51_method_2_code 15 = .ok (.lload_n 1, 1) := by decide +kernel
theorem own_d3_16 : decode prog_51_method_2_code 16 = .ok (.lastore, 1) := by decide +kernel
theorem own_d3_17 : decode prog_51_method_2_code 17 = .ok (.return_, 1) := by decide +kernel
theorem own_ef_addwait0 (m : MethodId) (tb : Addr) (na : Int64) : entryFrame m #[(.ref tb), (.long na)] 3 = mkF m 0 #[.val (.ref tb), .val (.long na), .second] [] := by first | (simp [entryFrame, mkF, argsToLocals, Value.category]; done) | rfl
def own_Q_addwait0 (Z : State) (tb : Addr) (ra : Addr) (wb : Addr) (na : Int64) (rl : List Value) (rak : ClassId) (h0 : Heap) (n0 : Nat) (v : Option Value) (h : Heap) (L : List Loc) : Prop := v = none ∧ Fr n0 L ∧ Keep h0 h [tb, ra] ∧ Exa Z h tb "millrace/TimingBuffer" ∧ Fld Z h tb "millrace/TimingBuffer" "waits" "[J" (.ref ra) ∧ Fld Z h tb "millrace/TimingBuffer" "waitCount" "I" (.int (1 : Int32)) ∧ Fld Z h tb "millrace/TimingBuffer" "runs" "[J" (.ref wb) ∧ Fld Z h tb "millrace/TimingBuffer" "runCount" "I" (.int (0 : Int32)) ∧ Arv Z h ra rak .long (64 : Int32) (rl.set 0 (.long na)) (.long 0)
set_option maxRecDepth 65536 in
set_option maxHeartbeats 40000000 in
theorem own_rm_addwait0 (l : Launch) (Z : State) (a0 : Array Value) (hw : ∀ d ∈ tables_1, d.before a0 Z = true) (ws : List Jvm.Cond) (tb : Addr) (ra : Addr) (wb : Addr) (na : Int64) (rl : List Value) {rak : ClassId} (h0 : Heap) (n0 : Nat) (Z0 : n0 ≤ h0.size) (E_tb : Exa Z h0 tb "millrace/TimingBuffer") (F_waits_tb : Fld Z h0 tb "millrace/TimingBuffer" "waits" "[J" (.ref ra)) (F_waitCount_tb : Fld Z h0 tb "millrace/TimingBuffer" "waitCount" "I" (.int (0 : Int32))) (F_runs_tb : Fld Z h0 tb "millrace/TimingBuffer" "runs" "[J" (.ref wb)) (F_runCount_tb : Fld Z h0 tb "millrace/TimingBuffer" "runCount" "I" (.int (0 : Int32))) (V_ra : Arv Z h0 ra rak .long (64 : Int32) rl (.long 0)) (ne_tb_ra : tb ≠ ra) (g_tb : n0 ≤ tb) (g_ra : n0 ≤ ra) (addwait0_hle16 : 0 < rl.length) :
    MetFree l (⟨"millrace/TimingBuffer", "addWait", "(J)V"⟩ : MethodName) (head1 (Jvm.Cond.code (⟨"millrace/TimingBuffer", "addWait", "(J)V"⟩ : MethodName) prog_51_method_2_code 3 none :: ws) ({ frames := 0, cells := 0, slots := 0, locals := 0 } : Room)) (fun a U => a = #[(.ref tb), (.long na)] ∧ Z.Warmed39 U.vm ∧ U.heap = h0) (fun _ _ _ _ _ => True) (fun _ U o U' => ∃ v L, o = .returned v ∧ own_Q_addwait0 Z tb ra wb na rl rak h0 n0 v U'.heap L ∧ FrameEnd U o U' L ({ frames := 0, cells := 0, slots := 0, locals := 0 } : Room).cells ({ frames := 0, cells := 0, slots := 0, locals := 0 } : Room).slots) := by
  refine MetFree.of_bodySF (plainFor_of_name own_pn_millrace_TimingBuffer) hisR ?_
  intro p e s m args below meth c s₁ Bd hml0 hP hK
  obtain ⟨rfl, hZ, hh⟩ := hP
  have hx := Bd.exec
  have hby := Bd.bytes
  have hml : c.maxLocals = 3 := hml0
  have hown : s.vm.findClass "millrace/TimingBuffer" = some m.cls := findClass_of_methodNamed Bd.named
  have hnm := (name_of_methodNamed Bd.named Bd.method).1
  have X0 : Stand p l e ({ frames := 0, cells := 0, slots := 0, locals := 0 } : Room) s m #[(.ref tb), (.long na)] below meth c s₁ [] 0 0 := Stand.of_body Bd
  have e0 : s₁.heap = h0 := by rw [← hh, Bd.state]; rfl
  have N0 := Fr.nil n0
  have pre0 : ∀ t, Steps p.tables e below (s₁.setTop (mkF m 0 #[.val (.ref tb), .val (.long na), .second] [])) t → Steps p.tables e below (s₁.setTop (entryFrame m #[(.ref tb), (.long na)] 3)) t := fun t k => castTop (own_ef_addwait0 m tb na) k
  have ne_ra_tb : ra ≠ tb := Ne.symm ne_tb_ra
  obtain ⟨Taddwait01, Xaddwait01, eaddwait01, staddwait01⟩ := getF X0 hx hZ hown (host := "") (Or.inl (hw _ (List.mem_of_getElem? (i := 10) rfl))) Via.refl e0 F_waits_tb (g := (mkF m 1 #[.val (.ref tb), .val (.long na), .second] [(.ref tb)])) rfl rfl (hb hby own_d3_1)
  obtain ⟨Taddwait02, Xaddwait02, eaddwait02, staddwait02⟩ := getF Xaddwait01 hx hZ hown (host := "") (Or.inl (hw _ (List.mem_of_getElem? (i := 19) rfl))) Via.refl eaddwait01 F_waitCount_tb (g := (mkF m 6 #[.val (.ref tb), .val (.long na), .second] [(.ref tb), (.ref tb), (.ref ra)])) rfl rfl (hb hby own_d3_6)
  obtain ⟨Taddwait03, haddwait03, Xaddwait03, eaddwait03, Waddwait03, staddwait03⟩ := putF Xaddwait02 hx hZ hown (host := "") (Or.inl (hw _ (List.mem_of_getElem? (i := 19) rfl))) Via.refl eaddwait02 F_waitCount_tb E_tb (Or.inl (hw _ (List.mem_of_getElem? (i := 20) rfl))) (hw _ (List.mem_of_getElem? (i := 1) rfl)) (ty := .int) (by decide) rfl rfl (g := (mkF m 12 #[.val (.ref tb), .val (.long na), .second] [(.int (1 : Int32)), (.ref tb), (.int (0 : Int32)), (.ref ra)])) rfl rfl (hb hby own_d3_12)
  have V_ra_addwait03 := V_ra.other Waddwait03 ne_ra_tb
  have E_tb_addwait03 := E_tb.wr Waddwait03
  have Zaddwait03 : n0 ≤ haddwait03.size := Nat.le_trans Z0 (Nat.le_of_eq Waddwait03.size.symm)
  have KKaddwait03 := (Keep.refl h0 [tb, ra]).wr Waddwait03 (Or.inl (List.mem_of_getElem? (i := 0) rfl))
  have F_waits_tb_addwait03 := F_waits_tb.other Waddwait03 (Or.inr (slot_ne (Or.inr (hw _ (List.mem_of_getElem? (i := 11) rfl))) (Or.inl (hw _ (List.mem_of_getElem? (i := 20) rfl))) (by decide) (t := (.array .long)) (t' := .int) (by decide) (by decide)))
  have F_waitCount_tb_addwait03 := F_waitCount_tb.same Waddwait03
  have F_runs_tb_addwait03 := F_runs_tb.other Waddwait03 (Or.inr (slot_ne (Or.inr (hw _ (List.mem_of_getElem? (i := 13) rfl))) (Or.inl (hw _ (List.mem_of_getElem? (i := 20) rfl))) (by decide) (t := (.array .long)) (t' := .int) (by decide) (by decide)))
  have F_runCount_tb_addwait03 := F_runCount_tb.other Waddwait03 (Or.inr (slot_ne (Or.inl (hw _ (List.mem_of_getElem? (i := 27) rfl))) (Or.inl (hw _ (List.mem_of_getElem? (i := 20) rfl))) (by decide) (t := .int) (t' := .int) (by decide) (by decide)))
  have Naddwait03 := Fr.snoc Xaddwait03 N0 g_tb
  obtain ⟨Taddwait04, haddwait04, Xaddwait04, eaddwait04, Waddwait04, Vaddwait04, staddwait04⟩ := own_stJ (L := #[.val (.ref tb), .val (.long na), .second]) (S := []) Xaddwait03 hx hZ eaddwait03 V_ra_addwait03 (j := (0 : Int32)) (x := na) (by decide) 0 (by decide) addwait0_hle16 (hb hby own_d3_16) (pc' := 17) rfl
  have E_tb_addwait04 := E_tb_addwait03.wr Waddwait04
  have F_waits_tb_addwait04 := F_waits_tb_addwait03.other Waddwait04 (Or.inl ne_tb_ra)
  have F_waitCount_tb_addwait04 := F_waitCount_tb_addwait03.other Waddwait04 (Or.inl ne_tb_ra)
  have F_runs_tb_addwait04 := F_runs_tb_addwait03.other Waddwait04 (Or.inl ne_tb_ra)
  have F_runCount_tb_addwait04 := F_runCount_tb_addwait03.other Waddwait04 (Or.inl ne_tb_ra)
  have Zaddwait04 : n0 ≤ haddwait04.size := Nat.le_trans Zaddwait03 (Nat.le_of_eq Waddwait04.size.symm)
  have KKaddwait04 := KKaddwait03.wr Waddwait04 (Or.inl (List.mem_of_getElem? (i := 1) rfl))
  have V_ra_addwait04 : Arv Z haddwait04 ra rak .long (64 : Int32) (rl.set 0 (.long na)) (.long 0) := Vaddwait04
  have Naddwait04 := Fr.snoc Xaddwait04 Naddwait03 g_ra
  obtain ⟨fs, hr, hrun, hended, hW, hsame⟩ := Xaddwait04.leave (v := none) (fun _ => rfl)
  refine ⟨_, _, pre0 _ ?_, hrun, hended, _, _, rfl, ?_, ⟨_, rfl⟩, hW, hsame.mono (by decide) (by decide)⟩
  · refine own_s_aloadN X0.here hx (hb hby own_d3_0) (pc' := 1) rfl rfl rfl ?_
    refine staddwait01 _ ?_
    show Steps p.tables e below (Taddwait01.setTop (mkF m 4 #[.val (.ref tb), .val (.long na), .second] [(.ref ra)])) _
    refine own_s_aloadN Xaddwait01.here hx (hb hby own_d3_4) (pc' := 5) rfl rfl rfl ?_
    refine own_s_dup Xaddwait01.here hx (hb hby own_d3_5) (pc' := 6) rfl rfl ?_
    refine staddwait02 _ ?_
    show Steps p.tables e below (Taddwait02.setTop (mkF m 9 #[.val (.ref tb), .val (.long na), .second] [(.int (0 : Int32)), (.ref tb), (.ref ra)])) _
    refine own_s_dupX1 Xaddwait02.here hx (hb hby own_d3_9) (pc' := 10) rfl rfl rfl ?_
    refine own_s_iconst Xaddwait02.here hx (hb hby own_d3_10) (pc' := 11) rfl (v := (1 : Int32)) (by decide) ?_
    refine own_s_iadd Xaddwait02.here hx (hb hby own_d3_11) (pc' := 12) rfl (v := (1 : Int32)) (by decide) ?_
    refine staddwait03 _ ?_
    show Steps p.tables e below (Taddwait03.setTop (mkF m 15 #[.val (.ref tb), .val (.long na), .second] [(.int (0 : Int32)), (.ref ra)])) _
    refine own_s_lloadN Xaddwait03.here hx (hb hby own_d3_15) (pc' := 16) rfl rfl ?_
    refine staddwait04 _ ?_
    exact Xaddwait04.returnOut hx Bd.returns (hb hby own_d3_17) hr
  · show own_Q_addwait0 Z tb ra wb na rl rak h0 n0 _ Taddwait04.heap _
    rw [eaddwait04]
    exact ⟨rfl, Naddwait04, KKaddwait04, E_tb_addwait04, F_waits_tb_addwait04, F_waitCount_tb_addwait04, F_runs_tb_addwait04, F_runCount_tb_addwait04, V_ra_addwait04⟩
theorem own_ef_addwait1 (m : MethodId) (tb : Addr) (na : Int64) : entryFrame m #[(.ref tb), (.long na)] 3 = mkF m 0 #[.val (.ref tb), .val (.long na), .second] [] := by first | (simp [entryFrame, mkF, argsToLocals, Value.category]; done) | rfl
def own_Q_addwait1 (Z : State) (tb : Addr) (ra : Addr) (wb : Addr) (na : Int64) (rl : List Value) (rak : ClassId) (h0 : Heap) (n0 : Nat) (v : Option Value) (h : Heap) (L : List Loc) : Prop := v = none ∧ Fr n0 L ∧ Keep h0 h [tb, ra] ∧ Exa Z h tb "millrace/TimingBuffer" ∧ Fld Z h tb "millrace/TimingBuffer" "waits" "[J" (.ref ra) ∧ Fld Z h tb "millrace/TimingBuffer" "waitCount" "I" (.int (2 : Int32)) ∧ Fld Z h tb "millrace/TimingBuffer" "runs" "[J" (.ref wb) ∧ Fld Z h tb "millrace/TimingBuffer" "runCount" "I" (.int (0 : Int32)) ∧ Arv Z h ra rak .long (64 : Int32) (rl.set 1 (.long na)) (.long 0)
set_option maxRecDepth 65536 in
set_option maxHeartbeats 40000000 in
theorem own_rm_addwait1 (l : Launch) (Z : State) (a0 : Array Value) (hw : ∀ d ∈ tables_1, d.before a0 Z = true) (ws : List Jvm.Cond) (tb : Addr) (ra : Addr) (wb : Addr) (na : Int64) (rl : List Value) {rak : ClassId} (h0 : Heap) (n0 : Nat) (Z0 : n0 ≤ h0.size) (E_tb : Exa Z h0 tb "millrace/TimingBuffer") (F_waits_tb : Fld Z h0 tb "millrace/TimingBuffer" "waits" "[J" (.ref ra)) (F_waitCount_tb : Fld Z h0 tb "millrace/TimingBuffer" "waitCount" "I" (.int (1 : Int32))) (F_runs_tb : Fld Z h0 tb "millrace/TimingBuffer" "runs" "[J" (.ref wb)) (F_runCount_tb : Fld Z h0 tb "millrace/TimingBuffer" "runCount" "I" (.int (0 : Int32))) (V_ra : Arv Z h0 ra rak .long (64 : Int32) rl (.long 0)) (ne_tb_ra : tb ≠ ra) (g_tb : n0 ≤ tb) (g_ra : n0 ≤ ra) (addwait1_hle16 : 1 < rl.length) :
    MetFree l (⟨"millrace/TimingBuffer", "addWait", "(J)V"⟩ : MethodName) (head1 (Jvm.Cond.code (⟨"millrace/TimingBuffer", "addWait", "(J)V"⟩ : MethodName) prog_51_method_2_code 3 none :: ws) ({ frames := 0, cells := 0, slots := 0, locals := 0 } : Room)) (fun a U => a = #[(.ref tb), (.long na)] ∧ Z.Warmed39 U.vm ∧ U.heap = h0) (fun _ _ _ _ _ => True) (fun _ U o U' => ∃ v L, o = .returned v ∧ own_Q_addwait1 Z tb ra wb na rl rak h0 n0 v U'.heap L ∧ FrameEnd U o U' L ({ frames := 0, cells := 0, slots := 0, locals := 0 } : Room).cells ({ frames := 0, cells := 0, slots := 0, locals := 0 } : Room).slots) := by
  refine MetFree.of_bodySF (plainFor_of_name own_pn_millrace_TimingBuffer) hisR ?_
  intro p e s m args below meth c s₁ Bd hml0 hP hK
  obtain ⟨rfl, hZ, hh⟩ := hP
  have hx := Bd.exec
  have hby := Bd.bytes
  have hml : c.maxLocals = 3 := hml0
  have hown : s.vm.findClass "millrace/TimingBuffer" = some m.cls := findClass_of_methodNamed Bd.named
  have hnm := (name_of_methodNamed Bd.named Bd.method).1
  have X0 : Stand p l e ({ frames := 0, cells := 0, slots := 0, locals := 0 } : Room) s m #[(.ref tb), (.long na)] below meth c s₁ [] 0 0 := Stand.of_body Bd
  have e0 : s₁.heap = h0 := by rw [← hh, Bd.state]; rfl
  have N0 := Fr.nil n0
  have pre0 : ∀ t, Steps p.tables e below (s₁.setTop (mkF m 0 #[.val (.ref tb), .val (.long na), .second] [])) t → Steps p.tables e below (s₁.setTop (entryFrame m #[(.ref tb), (.long na)] 3)) t := fun t k => castTop (own_ef_addwait1 m tb na) k
  have ne_ra_tb : ra ≠ tb := Ne.symm ne_tb_ra
  obtain ⟨Taddwait11, Xaddwait11, eaddwait11, staddwait11⟩ := getF X0 hx hZ hown (host := "") (Or.inl (hw _ (List.mem_of_getElem? (i := 10) rfl))) Via.refl e0 F_waits_tb (g := (mkF m 1 #[.val (.ref tb), .val (.long na), .second] [(.ref tb)])) rfl rfl (hb hby own_d3_1)
  obtain ⟨Taddwait12, Xaddwait12, eaddwait12, staddwait12⟩ := getF Xaddwait11 hx hZ hown (host := "") (Or.inl (hw _ (List.mem_of_getElem? (i := 19) rfl))) Via.refl eaddwait11 F_waitCount_tb (g := (mkF m 6 #[.val (.ref tb), .val (.long na), .second] [(.ref tb), (.ref tb), (.ref ra)])) rfl rfl (hb hby own_d3_6)
  obtain ⟨Taddwait13, haddwait13, Xaddwait13, eaddwait13, Waddwait13, staddwait13⟩ := putF Xaddwait12 hx hZ hown (host := "") (Or.inl (hw _ (List.mem_of_getElem? (i := 19) rfl))) Via.refl eaddwait12 F_waitCount_tb E_tb (Or.inl (hw _ (List.mem_of_getElem? (i := 20) rfl))) (hw _ (List.mem_of_getElem? (i := 1) rfl)) (ty := .int) (by decide) rfl rfl (g := (mkF m 12 #[.val (.ref tb), .val (.long na), .second] [(.int (2 : Int32)), (.ref tb), (.int (1 : Int32)), (.ref ra)])) rfl rfl (hb hby own_d3_12)
  have V_ra_addwait13 := V_ra.other Waddwait13 ne_ra_tb
  have E_tb_addwait13 := E_tb.wr Waddwait13
  have Zaddwait13 : n0 ≤ haddwait13.size := Nat.le_trans Z0 (Nat.le_of_eq Waddwait13.size.symm)
  have KKaddwait13 := (Keep.refl h0 [tb, ra]).wr Waddwait13 (Or.inl (List.mem_of_getElem? (i := 0) rfl))
  have F_waits_tb_addwait13 := F_waits_tb.other Waddwait13 (Or.inr (slot_ne (Or.inr (hw _ (List.mem_of_getElem? (i := 11) rfl))) (Or.inl (hw _ (List.mem_of_getElem? (i := 20) rfl))) (by decide) (t := (.array .long)) (t' := .int) (by decide) (by decide)))
  have F_waitCount_tb_addwait13 := F_waitCount_tb.same Waddwait13
  have F_runs_tb_addwait13 := F_runs_tb.other Waddwait13 (Or.inr (slot_ne (Or.inr (hw _ (List.mem_of_getElem? (i := 13) rfl))) (Or.inl (hw _ (List.mem_of_getElem? (i := 20) rfl))) (by decide) (t := (.array .long)) (t' := .int) (by decide) (by decide)))
  have F_runCount_tb_addwait13 := F_runCount_tb.other Waddwait13 (Or.inr (slot_ne (Or.inl (hw _ (List.mem_of_getElem? (i := 27) rfl))) (Or.inl (hw _ (List.mem_of_getElem? (i := 20) rfl))) (by decide) (t := .int) (t' := .int) (by decide) (by decide)))
  have Naddwait13 := Fr.snoc Xaddwait13 N0 g_tb
  obtain ⟨Taddwait14, haddwait14, Xaddwait14, eaddwait14, Waddwait14, Vaddwait14, staddwait14⟩ := own_stJ (L := #[.val (.ref tb), .val (.long na), .second]) (S := []) Xaddwait13 hx hZ eaddwait13 V_ra_addwait13 (j := (1 : Int32)) (x := na) (by decide) 1 (by decide) addwait1_hle16 (hb hby own_d3_16) (pc' := 17) rfl
  have E_tb_addwait14 := E_tb_addwait13.wr Waddwait14
  have F_waits_tb_addwait14 := F_waits_tb_addwait13.other Waddwait14 (Or.inl ne_tb_ra)
  have F_waitCount_tb_addwait14 := F_waitCount_tb_addwait13.other Waddwait14 (Or.inl ne_tb_ra)
  have F_runs_tb_addwait14 := F_runs_tb_addwait13.other Waddwait14 (Or.inl ne_tb_ra)
  have F_runCount_tb_addwait14 := F_runCount_tb_addwait13.other Waddwait14 (Or.inl ne_tb_ra)
  have Zaddwait14 : n0 ≤ haddwait14.size := Nat.le_trans Zaddwait13 (Nat.le_of_eq Waddwait14.size.symm)
  have KKaddwait14 := KKaddwait13.wr Waddwait14 (Or.inl (List.mem_of_getElem? (i := 1) rfl))
  have V_ra_addwait14 : Arv Z haddwait14 ra rak .long (64 : Int32) (rl.set 1 (.long na)) (.long 0) := Vaddwait14
  have Naddwait14 := Fr.snoc Xaddwait14 Naddwait13 g_ra
  obtain ⟨fs, hr, hrun, hended, hW, hsame⟩ := Xaddwait14.leave (v := none) (fun _ => rfl)
  refine ⟨_, _, pre0 _ ?_, hrun, hended, _, _, rfl, ?_, ⟨_, rfl⟩, hW, hsame.mono (by decide) (by decide)⟩
  · refine own_s_aloadN X0.here hx (hb hby own_d3_0) (pc' := 1) rfl rfl rfl ?_
    refine staddwait11 _ ?_
    show Steps p.tables e below (Taddwait11.setTop (mkF m 4 #[.val (.ref tb), .val (.long na), .second] [(.ref ra)])) _
    refine own_s_aloadN Xaddwait11.here hx (hb hby own_d3_4) (pc' := 5) rfl rfl rfl ?_
    refine own_s_dup Xaddwait11.here hx (hb hby own_d3_5) (pc' := 6) rfl rfl ?_
    refine staddwait12 _ ?_
    show Steps p.tables e below (Taddwait12.setTop (mkF m 9 #[.val (.ref tb), .val (.long na), .second] [(.int (1 : Int32)), (.ref tb), (.ref ra)])) _
    refine own_s_dupX1 Xaddwait12.here hx (hb hby own_d3_9) (pc' := 10) rfl rfl rfl ?_
    refine own_s_iconst Xaddwait12.here hx (hb hby own_d3_10) (pc' := 11) rfl (v := (1 : Int32)) (by decide) ?_
    refine own_s_iadd Xaddwait12.here hx (hb hby own_d3_11) (pc' := 12) rfl (v := (2 : Int32)) (by decide) ?_
    refine staddwait13 _ ?_
    show Steps p.tables e below (Taddwait13.setTop (mkF m 15 #[.val (.ref tb), .val (.long na), .second] [(.int (1 : Int32)), (.ref ra)])) _
    refine own_s_lloadN Xaddwait13.here hx (hb hby own_d3_15) (pc' := 16) rfl rfl ?_
    refine staddwait14 _ ?_
    exact Xaddwait14.returnOut hx Bd.returns (hb hby own_d3_17) hr
  · show own_Q_addwait1 Z tb ra wb na rl rak h0 n0 _ Taddwait14.heap _
    rw [eaddwait14]
    exact ⟨rfl, Naddwait14, KKaddwait14, E_tb_addwait14, F_waits_tb_addwait14, F_waitCount_tb_addwait14, F_runs_tb_addwait14, F_runCount_tb_addwait14, V_ra_addwait14⟩
theorem own_ef_addwait2 (m : MethodId) (tb : Addr) (na : Int64) : entryFrame m #[(.ref tb), (.long na)] 3 = mkF m 0 #[.val (.ref tb), .val (.long na), .second] [] := by first | (simp [entryFrame, mkF, argsToLocals, Value.category]; done) | rfl
def own_Q_addwait2 (Z : State) (tb : Addr) (ra : Addr) (wb : Addr) (na : Int64) (rl : List Value) (rak : ClassId) (h0 : Heap) (n0 : Nat) (v : Option Value) (h : Heap) (L : List Loc) : Prop := v = none ∧ Fr n0 L ∧ Keep h0 h [tb, ra] ∧ Exa Z h tb "millrace/TimingBuffer" ∧ Fld Z h tb "millrace/TimingBuffer" "waits" "[J" (.ref ra) ∧ Fld Z h tb "millrace/TimingBuffer" "waitCount" "I" (.int (3 : Int32)) ∧ Fld Z h tb "millrace/TimingBuffer" "runs" "[J" (.ref wb) ∧ Fld Z h tb "millrace/TimingBuffer" "runCount" "I" (.int (0 : Int32)) ∧ Arv Z h ra rak .long (64 : Int32) (rl.set 2 (.long na)) (.long 0)
set_option maxRecDepth 65536 in
set_option maxHeartbeats 40000000 in
theorem own_rm_addwait2 (l : Launch) (Z : State) (a0 : Array Value) (hw : ∀ d ∈ tables_1, d.before a0 Z = true) (ws : List Jvm.Cond) (tb : Addr) (ra : Addr) (wb : Addr) (na : Int64) (rl : List Value) {rak : ClassId} (h0 : Heap) (n0 : Nat) (Z0 : n0 ≤ h0.size) (E_tb : Exa Z h0 tb "millrace/TimingBuffer") (F_waits_tb : Fld Z h0 tb "millrace/TimingBuffer" "waits" "[J" (.ref ra)) (F_waitCount_tb : Fld Z h0 tb "millrace/TimingBuffer" "waitCount" "I" (.int (2 : Int32))) (F_runs_tb : Fld Z h0 tb "millrace/TimingBuffer" "runs" "[J" (.ref wb)) (F_runCount_tb : Fld Z h0 tb "millrace/TimingBuffer" "runCount" "I" (.int (0 : Int32))) (V_ra : Arv Z h0 ra rak .long (64 : Int32) rl (.long 0)) (ne_tb_ra : tb ≠ ra) (g_tb : n0 ≤ tb) (g_ra : n0 ≤ ra) (addwait2_hle16 : 2 < rl.length) :
    MetFree l (⟨"millrace/TimingBuffer", "addWait", "(J)V"⟩ : MethodName) (head1 (Jvm.Cond.code (⟨"millrace/TimingBuffer", "addWait", "(J)V"⟩ : MethodName) prog_51_method_2_code 3 none :: ws) ({ frames := 0, cells := 0, slots := 0, locals := 0 } : Room)) (fun a U => a = #[(.ref tb), (.long na)] ∧ Z.Warmed39 U.vm ∧ U.heap = h0) (fun _ _ _ _ _ => True) (fun _ U o U' => ∃ v L, o = .returned v ∧ own_Q_addwait2 Z tb ra wb na rl rak h0 n0 v U'.heap L ∧ FrameEnd U o U' L ({ frames := 0, cells := 0, slots := 0, locals := 0 } : Room).cells ({ frames := 0, cells := 0, slots := 0, locals := 0 } : Room).slots) := by
  refine MetFree.of_bodySF (plainFor_of_name own_pn_millrace_TimingBuffer) hisR ?_
  intro p e s m args below meth c s₁ Bd hml0 hP hK
  obtain ⟨rfl, hZ, hh⟩ := hP
  have hx := Bd.exec
  have hby := Bd.bytes
  have hml : c.maxLocals = 3 := hml0
  have hown : s.vm.findClass "millrace/TimingBuffer" = some m.cls := findClass_of_methodNamed Bd.named
  have hnm := (name_of_methodNamed Bd.named Bd.method).1
  have X0 : Stand p l e ({ frames := 0, cells := 0, slots := 0, locals := 0 } : Room) s m #[(.ref tb), (.long na)] below meth c s₁ [] 0 0 := Stand.of_body Bd
  have e0 : s₁.heap = h0 := by rw [← hh, Bd.state]; rfl
  have N0 := Fr.nil n0
  have pre0 : ∀ t, Steps p.tables e below (s₁.setTop (mkF m 0 #[.val (.ref tb), .val (.long na), .second] [])) t → Steps p.tables e below (s₁.setTop (entryFrame m #[(.ref tb), (.long na)] 3)) t := fun t k => castTop (own_ef_addwait2 m tb na) k
  have ne_ra_tb : ra ≠ tb := Ne.symm ne_tb_ra
  obtain ⟨Taddwait21, Xaddwait21, eaddwait21, staddwait21⟩ := getF X0 hx hZ hown (host := "") (Or.inl (hw _ (List.mem_of_getElem? (i := 10) rfl))) Via.refl e0 F_waits_tb (g := (mkF m 1 #[.val (.ref tb), .val (.long na), .second] [(.ref tb)])) rfl rfl (hb hby own_d3_1)
  obtain ⟨Taddwait22, Xaddwait22, eaddwait22, staddwait22⟩ := getF Xaddwait21 hx hZ hown (host := "") (Or.inl (hw _ (List.mem_of_getElem? (i := 19) rfl))) Via.refl eaddwait21 F_waitCount_tb (g := (mkF m 6 #[.val (.ref tb), .val (.long na), .second] [(.ref tb), (.ref tb), (.ref ra)])) rfl rfl (hb hby own_d3_6)
  obtain ⟨Taddwait23, haddwait23, Xaddwait23, eaddwait23, Waddwait23, staddwait23⟩ := putF Xaddwait22 hx hZ hown (host := "") (Or.inl (hw _ (List.mem_of_getElem? (i := 19) rfl))) Via.refl eaddwait22 F_waitCount_tb E_tb (Or.inl (hw _ (List.mem_of_getElem? (i := 20) rfl))) (hw _ (List.mem_of_getElem? (i := 1) rfl)) (ty := .int) (by decide) rfl rfl (g := (mkF m 12 #[.val (.ref tb), .val (.long na), .second] [(.int (3 : Int32)), (.ref tb), (.int (2 : Int32)), (.ref ra)])) rfl rfl (hb hby own_d3_12)
  have V_ra_addwait23 := V_ra.other Waddwait23 ne_ra_tb
  have E_tb_addwait23 := E_tb.wr Waddwait23
  have Zaddwait23 : n0 ≤ haddwait23.size := Nat.le_trans Z0 (Nat.le_of_eq Waddwait23.size.symm)
  have KKaddwait23 := (Keep.refl h0 [tb, ra]).wr Waddwait23 (Or.inl (List.mem_of_getElem? (i := 0) rfl))
  have F_waits_tb_addwait23 := F_waits_tb.other Waddwait23 (Or.inr (slot_ne (Or.inr (hw _ (List.mem_of_getElem? (i := 11) rfl))) (Or.inl (hw _ (List.mem_of_getElem? (i := 20) rfl))) (by decide) (t := (.array .long)) (t' := .int) (by decide) (by decide)))
  have F_waitCount_tb_addwait23 := F_waitCount_tb.same Waddwait23
  have F_runs_tb_addwait23 := F_runs_tb.other Waddwait23 (Or.inr (slot_ne (Or.inr (hw _ (List.mem_of_getElem? (i := 13) rfl))) (Or.inl (hw _ (List.mem_of_getElem? (i := 20) rfl))) (by decide) (t := (.array .long)) (t' := .int) (by decide) (by decide)))
  have F_runCount_tb_addwait23 := F_runCount_tb.other Waddwait23 (Or.inr (slot_ne (Or.inl (hw _ (List.mem_of_getElem? (i := 27) rfl))) (Or.inl (hw _ (List.mem_of_getElem? (i := 20) rfl))) (by decide) (t := .int) (t' := .int) (by decide) (by decide)))
  have Naddwait23 := Fr.snoc Xaddwait23 N0 g_tb
  obtain ⟨Taddwait24, haddwait24, Xaddwait24, eaddwait24, Waddwait24, Vaddwait24, staddwait24⟩ := own_stJ (L := #[.val (.ref tb), .val (.long na), .second]) (S := []) Xaddwait23 hx hZ eaddwait23 V_ra_addwait23 (j := (2 : Int32)) (x := na) (by decide) 2 (by decide) addwait2_hle16 (hb hby own_d3_16) (pc' := 17) rfl
  have E_tb_addwait24 := E_tb_addwait23.wr Waddwait24
  have F_waits_tb_addwait24 := F_waits_tb_addwait23.other Waddwait24 (Or.inl ne_tb_ra)
  have F_waitCount_tb_addwait24 := F_waitCount_tb_addwait23.other Waddwait24 (Or.inl ne_tb_ra)
  have F_runs_tb_addwait24 := F_runs_tb_addwait23.other Waddwait24 (Or.inl ne_tb_ra)
  have F_runCount_tb_addwait24 := F_runCount_tb_addwait23.other Waddwait24 (Or.inl ne_tb_ra)
  have Zaddwait24 : n0 ≤ haddwait24.size := Nat.le_trans Zaddwait23 (Nat.le_of_eq Waddwait24.size.symm)
  have KKaddwait24 := KKaddwait23.wr Waddwait24 (Or.inl (List.mem_of_getElem? (i := 1) rfl))
  have V_ra_addwait24 : Arv Z haddwait24 ra rak .long (64 : Int32) (rl.set 2 (.long na)) (.long 0) := Vaddwait24
  have Naddwait24 := Fr.snoc Xaddwait24 Naddwait23 g_ra
  obtain ⟨fs, hr, hrun, hended, hW, hsame⟩ := Xaddwait24.leave (v := none) (fun _ => rfl)
  refine ⟨_, _, pre0 _ ?_, hrun, hended, _, _, rfl, ?_, ⟨_, rfl⟩, hW, hsame.mono (by decide) (by decide)⟩
  · refine own_s_aloadN X0.here hx (hb hby own_d3_0) (pc' := 1) rfl rfl rfl ?_
    refine staddwait21 _ ?_
    show Steps p.tables e below (Taddwait21.setTop (mkF m 4 #[.val (.ref tb), .val (.long na), .second] [(.ref ra)])) _
    refine own_s_aloadN Xaddwait21.here hx (hb hby own_d3_4) (pc' := 5) rfl rfl rfl ?_
    refine own_s_dup Xaddwait21.here hx (hb hby own_d3_5) (pc' := 6) rfl rfl ?_
    refine staddwait22 _ ?_
    show Steps p.tables e below (Taddwait22.setTop (mkF m 9 #[.val (.ref tb), .val (.long na), .second] [(.int (2 : Int32)), (.ref tb), (.ref ra)])) _
    refine own_s_dupX1 Xaddwait22.here hx (hb hby own_d3_9) (pc' := 10) rfl rfl rfl ?_
    refine own_s_iconst Xaddwait22.here hx (hb hby own_d3_10) (pc' := 11) rfl (v := (1 : Int32)) (by decide) ?_
    refine own_s_iadd Xaddwait22.here hx (hb hby own_d3_11) (pc' := 12) rfl (v := (3 : Int32)) (by decide) ?_
    refine staddwait23 _ ?_
    show Steps p.tables e below (Taddwait23.setTop (mkF m 15 #[.val (.ref tb), .val (.long na), .second] [(.int (2 : Int32)), (.ref ra)])) _
    refine own_s_lloadN Xaddwait23.here hx (hb hby own_d3_15) (pc' := 16) rfl rfl ?_
    refine staddwait24 _ ?_
    exact Xaddwait24.returnOut hx Bd.returns (hb hby own_d3_17) hr
  · show own_Q_addwait2 Z tb ra wb na rl rak h0 n0 _ Taddwait24.heap _
    rw [eaddwait24]
    exact ⟨rfl, Naddwait24, KKaddwait24, E_tb_addwait24, F_waits_tb_addwait24, F_waitCount_tb_addwait24, F_runs_tb_addwait24, F_runCount_tb_addwait24, V_ra_addwait24⟩
theorem own_d4_0 : decode prog_51_method_4_code 0 = .ok (.aload_n 0, 1) := by decide +kernel
theorem own_d4_1 : decode prog_51_method_4_code 1 = .ok (.getfield 16, 3) := by decide +kernel
theorem own_d4_4 : decode prog_51_method_4_code 4 = .ok (.bipush 64, 2) := by decide +kernel
theorem own_d4_6 : decode prog_51_method_4_code 6 = .ok (.if_icmp .eq 12, 3) := by decide +kernel
theorem own_d4_9 : decode prog_51_method_4_code 9 = .ok (.aload_n 0, 1) := by decide +kernel
theorem own_d4_10 : decode prog_51_method_4_code 10 = .ok (.getfield 20, 3) := by decide +kernel
theorem own_d4_13 : decode prog_51_method_4_code 13 = .ok (.bipush 64, 2) := by decide +kernel
theorem own_d4_15 : decode prog_51_method_4_code 15 = .ok (.if_icmp .ne 7, 3) := by decide +kernel
theorem own_d4_22 : decode prog_51_method_4_code 22 = .ok (.iconst 0, 1) := by decide +kernel
theorem own_d4_23 : decode prog_51_method_4_code 23 = .ok (.ireturn, 1) := by decide +kernel
theorem own_ef_full00 (m : MethodId) (tb : Addr) : entryFrame m #[(.ref tb)] 1 = mkF m 0 #[.val (.ref tb)] [] := by first | (simp [entryFrame, mkF, argsToLocals, Value.category]; done) | rfl
set_option maxRecDepth 65536 in
set_option maxHeartbeats 40000000 in
theorem own_rm_full00 (l : Launch) (Z : State) (a0 : Array Value) (hw : ∀ d ∈ tables_1, d.before a0 Z = true) (ws : List Jvm.Cond) (tb : Addr)  (h0 : Heap) (n0 : Nat) (Z0 : n0 ≤ h0.size) (E_tb : Exa Z h0 tb "millrace/TimingBuffer") (F_waitCount_tb : Fld Z h0 tb "millrace/TimingBuffer" "waitCount" "I" (.int (0 : Int32))) (F_runCount_tb : Fld Z h0 tb "millrace/TimingBuffer" "runCount" "I" (.int (0 : Int32)))  :
    MetFree l (⟨"millrace/TimingBuffer", "full", "()Z"⟩ : MethodName) (head1 (Jvm.Cond.code (⟨"millrace/TimingBuffer", "full", "()Z"⟩ : MethodName) prog_51_method_4_code 1 (some .boolean) :: ws) ({ frames := 0, cells := 0, slots := 0, locals := 0 } : Room)) (fun a U => a = #[(.ref tb)] ∧ Z.Warmed39 U.vm ∧ U.heap = h0) (fun _ _ _ _ _ => True) (fun _ U o U' => ∃ v L, o = .returned v ∧ own_QP (some (.int (0 : Int32))) h0 n0 v U'.heap L ∧ FrameEnd U o U' L ({ frames := 0, cells := 0, slots := 0, locals := 0 } : Room).cells ({ frames := 0, cells := 0, slots := 0, locals := 0 } : Room).slots) := by
  refine MetFree.of_bodySF (plainFor_of_name own_pn_millrace_TimingBuffer) hisR ?_
  intro p e s m args below meth c s₁ Bd hml0 hP hK
  obtain ⟨rfl, hZ, hh⟩ := hP
  have hx := Bd.exec
  have hby := Bd.bytes
  have hml : c.maxLocals = 1 := hml0
  have hown : s.vm.findClass "millrace/TimingBuffer" = some m.cls := findClass_of_methodNamed Bd.named
  have hnm := (name_of_methodNamed Bd.named Bd.method).1
  have X0 : Stand p l e ({ frames := 0, cells := 0, slots := 0, locals := 0 } : Room) s m #[(.ref tb)] below meth c s₁ [] 0 0 := Stand.of_body Bd
  have e0 : s₁.heap = h0 := by rw [← hh, Bd.state]; rfl
  have N0 := Fr.nil n0
  have pre0 : ∀ t, Steps p.tables e below (s₁.setTop (mkF m 0 #[.val (.ref tb)] [])) t → Steps p.tables e below (s₁.setTop (entryFrame m #[(.ref tb)] 1)) t := fun t k => castTop (own_ef_full00 m tb) k
  obtain ⟨Tfull001, Xfull001, efull001, stfull001⟩ := getF X0 hx hZ hown (host := "") (Or.inl (hw _ (List.mem_of_getElem? (i := 19) rfl))) Via.refl e0 F_waitCount_tb (g := (mkF m 1 #[.val (.ref tb)] [(.ref tb)])) rfl rfl (hb hby own_d4_1)
  obtain ⟨Tfull002, Xfull002, efull002, stfull002⟩ := getF Xfull001 hx hZ hown (host := "") (Or.inl (hw _ (List.mem_of_getElem? (i := 26) rfl))) Via.refl efull001 F_runCount_tb (g := (mkF m 10 #[.val (.ref tb)] [(.ref tb)])) rfl rfl (hb hby own_d4_10)
  obtain ⟨fs, hr, hrun, hended, hW, hsame⟩ := Xfull002.leave (v := some (.int (0 : Int32))) (fun h => by rw [Bd.returns] at h; cases h)
  refine ⟨_, _, pre0 _ ?_, hrun, hended, _, _, rfl, ?_, ⟨_, rfl⟩, hW, hsame.mono (by decide) (by decide)⟩
  · refine own_s_aloadN X0.here hx (hb hby own_d4_0) (pc' := 1) rfl rfl rfl ?_
    refine stfull001 _ ?_
    show Steps p.tables e below (Tfull001.setTop (mkF m 4 #[.val (.ref tb)] [(.int (0 : Int32))])) _
    refine own_s_bipush Xfull001.here hx (hb hby own_d4_4) (pc' := 6) rfl (v := (64 : Int32)) (by decide) ?_
    refine own_s_icmpNo Xfull001.here hx (hb hby own_d4_6) (pc' := 9) rfl (by decide) ?_
    refine own_s_aloadN Xfull001.here hx (hb hby own_d4_9) (pc' := 10) rfl rfl rfl ?_
    refine stfull002 _ ?_
    show Steps p.tables e below (Tfull002.setTop (mkF m 13 #[.val (.ref tb)] [(.int (0 : Int32))])) _
    refine own_s_bipush Xfull002.here hx (hb hby own_d4_13) (pc' := 15) rfl (v := (64 : Int32)) (by decide) ?_
    refine own_s_icmpYes Xfull002.here hx (hb hby own_d4_15) (by decide) (pc' := 22) (by decide) (by decide) ?_
    refine own_s_iconst Xfull002.here hx (hb hby own_d4_22) (pc' := 23) rfl (v := (0 : Int32)) (by decide) ?_
    exact retN Xfull002 hx (t := .boolean) Bd.returns (by simp) (hb hby own_d4_23) hr
  · show own_QP (some (.int (0 : Int32))) h0 n0 _ Tfull002.heap _
    rw [efull002]
    exact ⟨rfl, N0, rfl⟩
theorem own_ef_full01 (m : MethodId) (tb : Addr) : entryFrame m #[(.ref tb)] 1 = mkF m 0 #[.val (.ref tb)] [] := by first | (simp [entryFrame, mkF, argsToLocals, Value.category]; done) | rfl
set_option maxRecDepth 65536 in
set_option maxHeartbeats 40000000 in
theorem own_rm_full01 (l : Launch) (Z : State) (a0 : Array Value) (hw : ∀ d ∈ tables_1, d.before a0 Z = true) (ws : List Jvm.Cond) (tb : Addr)  (h0 : Heap) (n0 : Nat) (Z0 : n0 ≤ h0.size) (E_tb : Exa Z h0 tb "millrace/TimingBuffer") (F_waitCount_tb : Fld Z h0 tb "millrace/TimingBuffer" "waitCount" "I" (.int (0 : Int32))) (F_runCount_tb : Fld Z h0 tb "millrace/TimingBuffer" "runCount" "I" (.int (1 : Int32)))  :
    MetFree l (⟨"millrace/TimingBuffer", "full", "()Z"⟩ : MethodName) (head1 (Jvm.Cond.code (⟨"millrace/TimingBuffer", "full", "()Z"⟩ : MethodName) prog_51_method_4_code 1 (some .boolean) :: ws) ({ frames := 0, cells := 0, slots := 0, locals := 0 } : Room)) (fun a U => a = #[(.ref tb)] ∧ Z.Warmed39 U.vm ∧ U.heap = h0) (fun _ _ _ _ _ => True) (fun _ U o U' => ∃ v L, o = .returned v ∧ own_QP (some (.int (0 : Int32))) h0 n0 v U'.heap L ∧ FrameEnd U o U' L ({ frames := 0, cells := 0, slots := 0, locals := 0 } : Room).cells ({ frames := 0, cells := 0, slots := 0, locals := 0 } : Room).slots) := by
  refine MetFree.of_bodySF (plainFor_of_name own_pn_millrace_TimingBuffer) hisR ?_
  intro p e s m args below meth c s₁ Bd hml0 hP hK
  obtain ⟨rfl, hZ, hh⟩ := hP
  have hx := Bd.exec
  have hby := Bd.bytes
  have hml : c.maxLocals = 1 := hml0
  have hown : s.vm.findClass "millrace/TimingBuffer" = some m.cls := findClass_of_methodNamed Bd.named
  have hnm := (name_of_methodNamed Bd.named Bd.method).1
  have X0 : Stand p l e ({ frames := 0, cells := 0, slots := 0, locals := 0 } : Room) s m #[(.ref tb)] below meth c s₁ [] 0 0 := Stand.of_body Bd
  have e0 : s₁.heap = h0 := by rw [← hh, Bd.state]; rfl
  have N0 := Fr.nil n0
  have pre0 : ∀ t, Steps p.tables e below (s₁.setTop (mkF m 0 #[.val (.ref tb)] [])) t → Steps p.tables e below (s₁.setTop (entryFrame m #[(.ref tb)] 1)) t := fun t k => castTop (own_ef_full01 m tb) k
  obtain ⟨Tfull011, Xfull011, efull011, stfull011⟩ := getF X0 hx hZ hown (host := "") (Or.inl (hw _ (List.mem_of_getElem? (i := 19) rfl))) Via.refl e0 F_waitCount_tb (g := (mkF m 1 #[.val (.ref tb)] [(.ref tb)])) rfl rfl (hb hby own_d4_1)
  obtain ⟨Tfull012, Xfull012, efull012, stfull012⟩ := getF Xfull011 hx hZ hown (host := "") (Or.inl (hw _ (List.mem_of_getElem? (i := 26) rfl))) Via.refl efull011 F_runCount_tb (g := (mkF m 10 #[.val (.ref tb)] [(.ref tb)])) rfl rfl (hb hby own_d4_10)
  obtain ⟨fs, hr, hrun, hended, hW, hsame⟩ := Xfull012.leave (v := some (.int (0 : Int32))) (fun h => by rw [Bd.returns] at h; cases h)
  refine ⟨_, _, pre0 _ ?_, hrun, hended, _, _, rfl, ?_, ⟨_, rfl⟩, hW, hsame.mono (by decide) (by decide)⟩
  · refine own_s_aloadN X0.here hx (hb hby own_d4_0) (pc' := 1) rfl rfl rfl ?_
    refine stfull011 _ ?_
    show Steps p.tables e below (Tfull011.setTop (mkF m 4 #[.val (.ref tb)] [(.int (0 : Int32))])) _
    refine own_s_bipush Xfull011.here hx (hb hby own_d4_4) (pc' := 6) rfl (v := (64 : Int32)) (by decide) ?_
    refine own_s_icmpNo Xfull011.here hx (hb hby own_d4_6) (pc' := 9) rfl (by decide) ?_
    refine own_s_aloadN Xfull011.here hx (hb hby own_d4_9) (pc' := 10) rfl rfl rfl ?_
    refine stfull012 _ ?_
    show Steps p.tables e below (Tfull012.setTop (mkF m 13 #[.val (.ref tb)] [(.int (1 : Int32))])) _
    refine own_s_bipush Xfull012.here hx (hb hby own_d4_13) (pc' := 15) rfl (v := (64 : Int32)) (by decide) ?_
    refine own_s_icmpYes Xfull012.here hx (hb hby own_d4_15) (by decide) (pc' := 22) (by decide) (by decide) ?_
    refine own_s_iconst Xfull012.here hx (hb hby own_d4_22) (pc' := 23) rfl (v := (0 : Int32)) (by decide) ?_
    exact retN Xfull012 hx (t := .boolean) Bd.returns (by simp) (hb hby own_d4_23) hr
  · show own_QP (some (.int (0 : Int32))) h0 n0 _ Tfull012.heap _
    rw [efull012]
    exact ⟨rfl, N0, rfl⟩
theorem own_ef_full02 (m : MethodId) (tb : Addr) : entryFrame m #[(.ref tb)] 1 = mkF m 0 #[.val (.ref tb)] [] := by first | (simp [entryFrame, mkF, argsToLocals, Value.category]; done) | rfl
set_option maxRecDepth 65536 in
set_option maxHeartbeats 40000000 in
theorem own_rm_full02 (l : Launch) (Z : State) (a0 : Array Value) (hw : ∀ d ∈ tables_1, d.before a0 Z = true) (ws : List Jvm.Cond) (tb : Addr)  (h0 : Heap) (n0 : Nat) (Z0 : n0 ≤ h0.size) (E_tb : Exa Z h0 tb "millrace/TimingBuffer") (F_waitCount_tb : Fld Z h0 tb "millrace/TimingBuffer" "waitCount" "I" (.int (0 : Int32))) (F_runCount_tb : Fld Z h0 tb "millrace/TimingBuffer" "runCount" "I" (.int (2 : Int32)))  :
    MetFree l (⟨"millrace/TimingBuffer", "full", "()Z"⟩ : MethodName) (head1 (Jvm.Cond.code (⟨"millrace/TimingBuffer", "full", "()Z"⟩ : MethodName) prog_51_method_4_code 1 (some .boolean) :: ws) ({ frames := 0, cells := 0, slots := 0, locals := 0 } : Room)) (fun a U => a = #[(.ref tb)] ∧ Z.Warmed39 U.vm ∧ U.heap = h0) (fun _ _ _ _ _ => True) (fun _ U o U' => ∃ v L, o = .returned v ∧ own_QP (some (.int (0 : Int32))) h0 n0 v U'.heap L ∧ FrameEnd U o U' L ({ frames := 0, cells := 0, slots := 0, locals := 0 } : Room).cells ({ frames := 0, cells := 0, slots := 0, locals := 0 } : Room).slots) := by
  refine MetFree.of_bodySF (plainFor_of_name own_pn_millrace_TimingBuffer) hisR ?_
  intro p e s m args below meth c s₁ Bd hml0 hP hK
  obtain ⟨rfl, hZ, hh⟩ := hP
  have hx := Bd.exec
  have hby := Bd.bytes
  have hml : c.maxLocals = 1 := hml0
  have hown : s.vm.findClass "millrace/TimingBuffer" = some m.cls := findClass_of_methodNamed Bd.named
  have hnm := (name_of_methodNamed Bd.named Bd.method).1
  have X0 : Stand p l e ({ frames := 0, cells := 0, slots := 0, locals := 0 } : Room) s m #[(.ref tb)] below meth c s₁ [] 0 0 := Stand.of_body Bd
  have e0 : s₁.heap = h0 := by rw [← hh, Bd.state]; rfl
  have N0 := Fr.nil n0
  have pre0 : ∀ t, Steps p.tables e below (s₁.setTop (mkF m 0 #[.val (.ref tb)] [])) t → Steps p.tables e below (s₁.setTop (entryFrame m #[(.ref tb)] 1)) t := fun t k => castTop (own_ef_full02 m tb) k
  obtain ⟨Tfull021, Xfull021, efull021, stfull021⟩ := getF X0 hx hZ hown (host := "") (Or.inl (hw _ (List.mem_of_getElem? (i := 19) rfl))) Via.refl e0 F_waitCount_tb (g := (mkF m 1 #[.val (.ref tb)] [(.ref tb)])) rfl rfl (hb hby own_d4_1)
  obtain ⟨Tfull022, Xfull022, efull022, stfull022⟩ := getF Xfull021 hx hZ hown (host := "") (Or.inl (hw _ (List.mem_of_getElem? (i := 26) rfl))) Via.refl efull021 F_runCount_tb (g := (mkF m 10 #[.val (.ref tb)] [(.ref tb)])) rfl rfl (hb hby own_d4_10)
  obtain ⟨fs, hr, hrun, hended, hW, hsame⟩ := Xfull022.leave (v := some (.int (0 : Int32))) (fun h => by rw [Bd.returns] at h; cases h)
  refine ⟨_, _, pre0 _ ?_, hrun, hended, _, _, rfl, ?_, ⟨_, rfl⟩, hW, hsame.mono (by decide) (by decide)⟩
  · refine own_s_aloadN X0.here hx (hb hby own_d4_0) (pc' := 1) rfl rfl rfl ?_
    refine stfull021 _ ?_
    show Steps p.tables e below (Tfull021.setTop (mkF m 4 #[.val (.ref tb)] [(.int (0 : Int32))])) _
    refine own_s_bipush Xfull021.here hx (hb hby own_d4_4) (pc' := 6) rfl (v := (64 : Int32)) (by decide) ?_
    refine own_s_icmpNo Xfull021.here hx (hb hby own_d4_6) (pc' := 9) rfl (by decide) ?_
    refine own_s_aloadN Xfull021.here hx (hb hby own_d4_9) (pc' := 10) rfl rfl rfl ?_
    refine stfull022 _ ?_
    show Steps p.tables e below (Tfull022.setTop (mkF m 13 #[.val (.ref tb)] [(.int (2 : Int32))])) _
    refine own_s_bipush Xfull022.here hx (hb hby own_d4_13) (pc' := 15) rfl (v := (64 : Int32)) (by decide) ?_
    refine own_s_icmpYes Xfull022.here hx (hb hby own_d4_15) (by decide) (pc' := 22) (by decide) (by decide) ?_
    refine own_s_iconst Xfull022.here hx (hb hby own_d4_22) (pc' := 23) rfl (v := (0 : Int32)) (by decide) ?_
    exact retN Xfull022 hx (t := .boolean) Bd.returns (by simp) (hb hby own_d4_23) hr
  · show own_QP (some (.int (0 : Int32))) h0 n0 _ Tfull022.heap _
    rw [efull022]
    exact ⟨rfl, N0, rfl⟩
theorem own_ef_full03 (m : MethodId) (tb : Addr) : entryFrame m #[(.ref tb)] 1 = mkF m 0 #[.val (.ref tb)] [] := by first | (simp [entryFrame, mkF, argsToLocals, Value.category]; done) | rfl
set_option maxRecDepth 65536 in
set_option maxHeartbeats 40000000 in
theorem own_rm_full03 (l : Launch) (Z : State) (a0 : Array Value) (hw : ∀ d ∈ tables_1, d.before a0 Z = true) (ws : List Jvm.Cond) (tb : Addr)  (h0 : Heap) (n0 : Nat) (Z0 : n0 ≤ h0.size) (E_tb : Exa Z h0 tb "millrace/TimingBuffer") (F_waitCount_tb : Fld Z h0 tb "millrace/TimingBuffer" "waitCount" "I" (.int (0 : Int32))) (F_runCount_tb : Fld Z h0 tb "millrace/TimingBuffer" "runCount" "I" (.int (3 : Int32)))  :
    MetFree l (⟨"millrace/TimingBuffer", "full", "()Z"⟩ : MethodName) (head1 (Jvm.Cond.code (⟨"millrace/TimingBuffer", "full", "()Z"⟩ : MethodName) prog_51_method_4_code 1 (some .boolean) :: ws) ({ frames := 0, cells := 0, slots := 0, locals := 0 } : Room)) (fun a U => a = #[(.ref tb)] ∧ Z.Warmed39 U.vm ∧ U.heap = h0) (fun _ _ _ _ _ => True) (fun _ U o U' => ∃ v L, o = .returned v ∧ own_QP (some (.int (0 : Int32))) h0 n0 v U'.heap L ∧ FrameEnd U o U' L ({ frames := 0, cells := 0, slots := 0, locals := 0 } : Room).cells ({ frames := 0, cells := 0, slots := 0, locals := 0 } : Room).slots) := by
  refine MetFree.of_bodySF (plainFor_of_name own_pn_millrace_TimingBuffer) hisR ?_
  intro p e s m args below meth c s₁ Bd hml0 hP hK
  obtain ⟨rfl, hZ, hh⟩ := hP
  have hx := Bd.exec
  have hby := Bd.bytes
  have hml : c.maxLocals = 1 := hml0
  have hown : s.vm.findClass "millrace/TimingBuffer" = some m.cls := findClass_of_methodNamed Bd.named
  have hnm := (name_of_methodNamed Bd.named Bd.method).1
  have X0 : Stand p l e ({ frames := 0, cells := 0, slots := 0, locals := 0 } : Room) s m #[(.ref tb)] below meth c s₁ [] 0 0 := Stand.of_body Bd
  have e0 : s₁.heap = h0 := by rw [← hh, Bd.state]; rfl
  have N0 := Fr.nil n0
  have pre0 : ∀ t, Steps p.tables e below (s₁.setTop (mkF m 0 #[.val (.ref tb)] [])) t → Steps p.tables e below (s₁.setTop (entryFrame m #[(.ref tb)] 1)) t := fun t k => castTop (own_ef_full03 m tb) k
  obtain ⟨Tfull031, Xfull031, efull031, stfull031⟩ := getF X0 hx hZ hown (host := "") (Or.inl (hw _ (List.mem_of_getElem? (i := 19) rfl))) Via.refl e0 F_waitCount_tb (g := (mkF m 1 #[.val (.ref tb)] [(.ref tb)])) rfl rfl (hb hby own_d4_1)
  obtain ⟨Tfull032, Xfull032, efull032, stfull032⟩ := getF Xfull031 hx hZ hown (host := "") (Or.inl (hw _ (List.mem_of_getElem? (i := 26) rfl))) Via.refl efull031 F_runCount_tb (g := (mkF m 10 #[.val (.ref tb)] [(.ref tb)])) rfl rfl (hb hby own_d4_10)
  obtain ⟨fs, hr, hrun, hended, hW, hsame⟩ := Xfull032.leave (v := some (.int (0 : Int32))) (fun h => by rw [Bd.returns] at h; cases h)
  refine ⟨_, _, pre0 _ ?_, hrun, hended, _, _, rfl, ?_, ⟨_, rfl⟩, hW, hsame.mono (by decide) (by decide)⟩
  · refine own_s_aloadN X0.here hx (hb hby own_d4_0) (pc' := 1) rfl rfl rfl ?_
    refine stfull031 _ ?_
    show Steps p.tables e below (Tfull031.setTop (mkF m 4 #[.val (.ref tb)] [(.int (0 : Int32))])) _
    refine own_s_bipush Xfull031.here hx (hb hby own_d4_4) (pc' := 6) rfl (v := (64 : Int32)) (by decide) ?_
    refine own_s_icmpNo Xfull031.here hx (hb hby own_d4_6) (pc' := 9) rfl (by decide) ?_
    refine own_s_aloadN Xfull031.here hx (hb hby own_d4_9) (pc' := 10) rfl rfl rfl ?_
    refine stfull032 _ ?_
    show Steps p.tables e below (Tfull032.setTop (mkF m 13 #[.val (.ref tb)] [(.int (3 : Int32))])) _
    refine own_s_bipush Xfull032.here hx (hb hby own_d4_13) (pc' := 15) rfl (v := (64 : Int32)) (by decide) ?_
    refine own_s_icmpYes Xfull032.here hx (hb hby own_d4_15) (by decide) (pc' := 22) (by decide) (by decide) ?_
    refine own_s_iconst Xfull032.here hx (hb hby own_d4_22) (pc' := 23) rfl (v := (0 : Int32)) (by decide) ?_
    exact retN Xfull032 hx (t := .boolean) Bd.returns (by simp) (hb hby own_d4_23) hr
  · show own_QP (some (.int (0 : Int32))) h0 n0 _ Tfull032.heap _
    rw [efull032]
    exact ⟨rfl, N0, rfl⟩
theorem own_ef_full10 (m : MethodId) (tb : Addr) : entryFrame m #[(.ref tb)] 1 = mkF m 0 #[.val (.ref tb)] [] := by first | (simp [entryFrame, mkF, argsToLocals, Value.category]; done) | rfl
set_option maxRecDepth 65536 in
set_option maxHeartbeats 40000000 in
theorem own_rm_full10 (l : Launch) (Z : State) (a0 : Array Value) (hw : ∀ d ∈ tables_1, d.before a0 Z = true) (ws : List Jvm.Cond) (tb : Addr)  (h0 : Heap) (n0 : Nat) (Z0 : n0 ≤ h0.size) (E_tb : Exa Z h0 tb "millrace/TimingBuffer") (F_waitCount_tb : Fld Z h0 tb "millrace/TimingBuffer" "waitCount" "I" (.int (1 : Int32))) (F_runCount_tb : Fld Z h0 tb "millrace/TimingBuffer" "runCount" "I" (.int (0 : Int32)))  :
    MetFree l (⟨"millrace/TimingBuffer", "full", "()Z"⟩ : MethodName) (head1 (Jvm.Cond.code (⟨"millrace/TimingBuffer", "full", "()Z"⟩ : MethodName) prog_51_method_4_code 1 (some .boolean) :: ws) ({ frames := 0, cells := 0, slots := 0, locals := 0 } : Room)) (fun a U => a = #[(.ref tb)] ∧ Z.Warmed39 U.vm ∧ U.heap = h0) (fun _ _ _ _ _ => True) (fun _ U o U' => ∃ v L, o = .returned v ∧ own_QP (some (.int (0 : Int32))) h0 n0 v U'.heap L ∧ FrameEnd U o U' L ({ frames := 0, cells := 0, slots := 0, locals := 0 } : Room).cells ({ frames := 0, cells := 0, slots := 0, locals := 0 } : Room).slots) := by
  refine MetFree.of_bodySF (plainFor_of_name own_pn_millrace_TimingBuffer) hisR ?_
  intro p e s m args below meth c s₁ Bd hml0 hP hK
  obtain ⟨rfl, hZ, hh⟩ := hP
  have hx := Bd.exec
  have hby := Bd.bytes
  have hml : c.maxLocals = 1 := hml0
  have hown : s.vm.findClass "millrace/TimingBuffer" = some m.cls := findClass_of_methodNamed Bd.named
  have hnm := (name_of_methodNamed Bd.named Bd.method).1
  have X0 : Stand p l e ({ frames := 0, cells := 0, slots := 0, locals := 0 } : Room) s m #[(.ref tb)] below meth c s₁ [] 0 0 := Stand.of_body Bd
  have e0 : s₁.heap = h0 := by rw [← hh, Bd.state]; rfl
  have N0 := Fr.nil n0
  have pre0 : ∀ t, Steps p.tables e below (s₁.setTop (mkF m 0 #[.val (.ref tb)] [])) t → Steps p.tables e below (s₁.setTop (entryFrame m #[(.ref tb)] 1)) t := fun t k => castTop (own_ef_full10 m tb) k
  obtain ⟨Tfull101, Xfull101, efull101, stfull101⟩ := getF X0 hx hZ hown (host := "") (Or.inl (hw _ (List.mem_of_getElem? (i := 19) rfl))) Via.refl e0 F_waitCount_tb (g := (mkF m 1 #[.val (.ref tb)] [(.ref tb)])) rfl rfl (hb hby own_d4_1)
  obtain ⟨Tfull102, Xfull102, efull102, stfull102⟩ := getF Xfull101 hx hZ hown (host := "") (Or.inl (hw _ (List.mem_of_getElem? (i := 26) rfl))) Via.refl efull101 F_runCount_tb (g := (mkF m 10 #[.val (.ref tb)] [(.ref tb)])) rfl rfl (hb hby own_d4_10)
  obtain ⟨fs, hr, hrun, hended, hW, hsame⟩ := Xfull102.leave (v := some (.int (0 : Int32))) (fun h => by rw [Bd.returns] at h; cases h)
  refine ⟨_, _, pre0 _ ?_, hrun, hended, _, _, rfl, ?_, ⟨_, rfl⟩, hW, hsame.mono (by decide) (by decide)⟩
  · refine own_s_aloadN X0.here hx (hb hby own_d4_0) (pc' := 1) rfl rfl rfl ?_
    refine stfull101 _ ?_
    show Steps p.tables e below (Tfull101.setTop (mkF m 4 #[.val (.ref tb)] [(.int (1 : Int32))])) _
    refine own_s_bipush Xfull101.here hx (hb hby own_d4_4) (pc' := 6) rfl (v := (64 : Int32)) (by decide) ?_
    refine own_s_icmpNo Xfull101.here hx (hb hby own_d4_6) (pc' := 9) rfl (by decide) ?_
    refine own_s_aloadN Xfull101.here hx (hb hby own_d4_9) (pc' := 10) rfl rfl rfl ?_
    refine stfull102 _ ?_
    show Steps p.tables e below (Tfull102.setTop (mkF m 13 #[.val (.ref tb)] [(.int (0 : Int32))])) _
    refine own_s_bipush Xfull102.here hx (hb hby own_d4_13) (pc' := 15) rfl (v := (64 : Int32)) (by decide) ?_
    refine own_s_icmpYes Xfull102.here hx (hb hby own_d4_15) (by decide) (pc' := 22) (by decide) (by decide) ?_
    refine own_s_iconst Xfull102.here hx (hb hby own_d4_22) (pc' := 23) rfl (v := (0 : Int32)) (by decide) ?_
    exact retN Xfull102 hx (t := .boolean) Bd.returns (by simp) (hb hby own_d4_23) hr
  · show own_QP (some (.int (0 : Int32))) h0 n0 _ Tfull102.heap _
    rw [efull102]
    exact ⟨rfl, N0, rfl⟩
theorem own_ef_full20 (m : MethodId) (tb : Addr) : entryFrame m #[(.ref tb)] 1 = mkF m 0 #[.val (.ref tb)] [] := by first | (simp [entryFrame, mkF, argsToLocals, Value.category]; done) | rfl
set_option maxRecDepth 65536 in
set_option maxHeartbeats 40000000 in
theorem own_rm_full20 (l : Launch) (Z : State) (a0 : Array Value) (hw : ∀ d ∈ tables_1, d.before a0 Z = true) (ws : List Jvm.Cond) (tb : Addr)  (h0 : Heap) (n0 : Nat) (Z0 : n0 ≤ h0.size) (E_tb : Exa Z h0 tb "millrace/TimingBuffer") (F_waitCount_tb : Fld Z h0 tb "millrace/TimingBuffer" "waitCount" "I" (.int (2 : Int32))) (F_runCount_tb : Fld Z h0 tb "millrace/TimingBuffer" "runCount" "I" (.int (0 : Int32)))  :
    MetFree l (⟨"millrace/TimingBuffer", "full", "()Z"⟩ : MethodName) (head1 (Jvm.Cond.code (⟨"millrace/TimingBuffer", "full", "()Z"⟩ : MethodName) prog_51_method_4_code 1 (some .boolean) :: ws) ({ frames := 0, cells := 0, slots := 0, locals := 0 } : Room)) (fun a U => a = #[(.ref tb)] ∧ Z.Warmed39 U.vm ∧ U.heap = h0) (fun _ _ _ _ _ => True) (fun _ U o U' => ∃ v L, o = .returned v ∧ own_QP (some (.int (0 : Int32))) h0 n0 v U'.heap L ∧ FrameEnd U o U' L ({ frames := 0, cells := 0, slots := 0, locals := 0 } : Room).cells ({ frames := 0, cells := 0, slots := 0, locals := 0 } : Room).slots) := by
  refine MetFree.of_bodySF (plainFor_of_name own_pn_millrace_TimingBuffer) hisR ?_
  intro p e s m args below meth c s₁ Bd hml0 hP hK
  obtain ⟨rfl, hZ, hh⟩ := hP
  have hx := Bd.exec
  have hby := Bd.bytes
  have hml : c.maxLocals = 1 := hml0
  have hown : s.vm.findClass "millrace/TimingBuffer" = some m.cls := findClass_of_methodNamed Bd.named
  have hnm := (name_of_methodNamed Bd.named Bd.method).1
  have X0 : Stand p l e ({ frames := 0, cells := 0, slots := 0, locals := 0 } : Room) s m #[(.ref tb)] below meth c s₁ [] 0 0 := Stand.of_body Bd
  have e0 : s₁.heap = h0 := by rw [← hh, Bd.state]; rfl
  have N0 := Fr.nil n0
  have pre0 : ∀ t, Steps p.tables e below (s₁.setTop (mkF m 0 #[.val (.ref tb)] [])) t → Steps p.tables e below (s₁.setTop (entryFrame m #[(.ref tb)] 1)) t := fun t k => castTop (own_ef_full20 m tb) k
  obtain ⟨Tfull201, Xfull201, efull201, stfull201⟩ := getF X0 hx hZ hown (host := "") (Or.inl (hw _ (List.mem_of_getElem? (i := 19) rfl))) Via.refl e0 F_waitCount_tb (g := (mkF m 1 #[.val (.ref tb)] [(.ref tb)])) rfl rfl (hb hby own_d4_1)
  obtain ⟨Tfull202, Xfull202, efull202, stfull202⟩ := getF Xfull201 hx hZ hown (host := "") (Or.inl (hw _ (List.mem_of_getElem? (i := 26) rfl))) Via.refl efull201 F_runCount_tb (g := (mkF m 10 #[.val (.ref tb)] [(.ref tb)])) rfl rfl (hb hby own_d4_10)
  obtain ⟨fs, hr, hrun, hended, hW, hsame⟩ := Xfull202.leave (v := some (.int (0 : Int32))) (fun h => by rw [Bd.returns] at h; cases h)
  refine ⟨_, _, pre0 _ ?_, hrun, hended, _, _, rfl, ?_, ⟨_, rfl⟩, hW, hsame.mono (by decide) (by decide)⟩
  · refine own_s_aloadN X0.here hx (hb hby own_d4_0) (pc' := 1) rfl rfl rfl ?_
    refine stfull201 _ ?_
    show Steps p.tables e below (Tfull201.setTop (mkF m 4 #[.val (.ref tb)] [(.int (2 : Int32))])) _
    refine own_s_bipush Xfull201.here hx (hb hby own_d4_4) (pc' := 6) rfl (v := (64 : Int32)) (by decide) ?_
    refine own_s_icmpNo Xfull201.here hx (hb hby own_d4_6) (pc' := 9) rfl (by decide) ?_
    refine own_s_aloadN Xfull201.here hx (hb hby own_d4_9) (pc' := 10) rfl rfl rfl ?_
    refine stfull202 _ ?_
    show Steps p.tables e below (Tfull202.setTop (mkF m 13 #[.val (.ref tb)] [(.int (0 : Int32))])) _
    refine own_s_bipush Xfull202.here hx (hb hby own_d4_13) (pc' := 15) rfl (v := (64 : Int32)) (by decide) ?_
    refine own_s_icmpYes Xfull202.here hx (hb hby own_d4_15) (by decide) (pc' := 22) (by decide) (by decide) ?_
    refine own_s_iconst Xfull202.here hx (hb hby own_d4_22) (pc' := 23) rfl (v := (0 : Int32)) (by decide) ?_
    exact retN Xfull202 hx (t := .boolean) Bd.returns (by simp) (hb hby own_d4_23) hr
  · show own_QP (some (.int (0 : Int32))) h0 n0 _ Tfull202.heap _
    rw [efull202]
    exact ⟨rfl, N0, rfl⟩
theorem own_ef_full30 (m : MethodId) (tb : Addr) : entryFrame m #[(.ref tb)] 1 = mkF m 0 #[.val (.ref tb)] [] := by first | (simp [entryFrame, mkF, argsToLocals, Value.category]; done) | rfl
set_option maxRecDepth 65536 in
set_option maxHeartbeats 40000000 in
theorem own_rm_full30 (l : Launch) (Z : State) (a0 : Array Value) (hw : ∀ d ∈ tables_1, d.before a0 Z = true) (ws : List Jvm.Cond) (tb : Addr)  (h0 : Heap) (n0 : Nat) (Z0 : n0 ≤ h0.size) (E_tb : Exa Z h0 tb "millrace/TimingBuffer") (F_waitCount_tb : Fld Z h0 tb "millrace/TimingBuffer" "waitCount" "I" (.int (3 : Int32))) (F_runCount_tb : Fld Z h0 tb "millrace/TimingBuffer" "runCount" "I" (.int (0 : Int32)))  :
    MetFree l (⟨"millrace/TimingBuffer", "full", "()Z"⟩ : MethodName) (head1 (Jvm.Cond.code (⟨"millrace/TimingBuffer", "full", "()Z"⟩ : MethodName) prog_51_method_4_code 1 (some .boolean) :: ws) ({ frames := 0, cells := 0, slots := 0, locals := 0 } : Room)) (fun a U => a = #[(.ref tb)] ∧ Z.Warmed39 U.vm ∧ U.heap = h0) (fun _ _ _ _ _ => True) (fun _ U o U' => ∃ v L, o = .returned v ∧ own_QP (some (.int (0 : Int32))) h0 n0 v U'.heap L ∧ FrameEnd U o U' L ({ frames := 0, cells := 0, slots := 0, locals := 0 } : Room).cells ({ frames := 0, cells := 0, slots := 0, locals := 0 } : Room).slots) := by
  refine MetFree.of_bodySF (plainFor_of_name own_pn_millrace_TimingBuffer) hisR ?_
  intro p e s m args below meth c s₁ Bd hml0 hP hK
  obtain ⟨rfl, hZ, hh⟩ := hP
  have hx := Bd.exec
  have hby := Bd.bytes
  have hml : c.maxLocals = 1 := hml0
  have hown : s.vm.findClass "millrace/TimingBuffer" = some m.cls := findClass_of_methodNamed Bd.named
  have hnm := (name_of_methodNamed Bd.named Bd.method).1
  have X0 : Stand p l e ({ frames := 0, cells := 0, slots := 0, locals := 0 } : Room) s m #[(.ref tb)] below meth c s₁ [] 0 0 := Stand.of_body Bd
  have e0 : s₁.heap = h0 := by rw [← hh, Bd.state]; rfl
  have N0 := Fr.nil n0
  have pre0 : ∀ t, Steps p.tables e below (s₁.setTop (mkF m 0 #[.val (.ref tb)] [])) t → Steps p.tables e below (s₁.setTop (entryFrame m #[(.ref tb)] 1)) t := fun t k => castTop (own_ef_full30 m tb) k
  obtain ⟨Tfull301, Xfull301, efull301, stfull301⟩ := getF X0 hx hZ hown (host := "") (Or.inl (hw _ (List.mem_of_getElem? (i := 19) rfl))) Via.refl e0 F_waitCount_tb (g := (mkF m 1 #[.val (.ref tb)] [(.ref tb)])) rfl rfl (hb hby own_d4_1)
  obtain ⟨Tfull302, Xfull302, efull302, stfull302⟩ := getF Xfull301 hx hZ hown (host := "") (Or.inl (hw _ (List.mem_of_getElem? (i := 26) rfl))) Via.refl efull301 F_runCount_tb (g := (mkF m 10 #[.val (.ref tb)] [(.ref tb)])) rfl rfl (hb hby own_d4_10)
  obtain ⟨fs, hr, hrun, hended, hW, hsame⟩ := Xfull302.leave (v := some (.int (0 : Int32))) (fun h => by rw [Bd.returns] at h; cases h)
  refine ⟨_, _, pre0 _ ?_, hrun, hended, _, _, rfl, ?_, ⟨_, rfl⟩, hW, hsame.mono (by decide) (by decide)⟩
  · refine own_s_aloadN X0.here hx (hb hby own_d4_0) (pc' := 1) rfl rfl rfl ?_
    refine stfull301 _ ?_
    show Steps p.tables e below (Tfull301.setTop (mkF m 4 #[.val (.ref tb)] [(.int (3 : Int32))])) _
    refine own_s_bipush Xfull301.here hx (hb hby own_d4_4) (pc' := 6) rfl (v := (64 : Int32)) (by decide) ?_
    refine own_s_icmpNo Xfull301.here hx (hb hby own_d4_6) (pc' := 9) rfl (by decide) ?_
    refine own_s_aloadN Xfull301.here hx (hb hby own_d4_9) (pc' := 10) rfl rfl rfl ?_
    refine stfull302 _ ?_
    show Steps p.tables e below (Tfull302.setTop (mkF m 13 #[.val (.ref tb)] [(.int (0 : Int32))])) _
    refine own_s_bipush Xfull302.here hx (hb hby own_d4_13) (pc' := 15) rfl (v := (64 : Int32)) (by decide) ?_
    refine own_s_icmpYes Xfull302.here hx (hb hby own_d4_15) (by decide) (pc' := 22) (by decide) (by decide) ?_
    refine own_s_iconst Xfull302.here hx (hb hby own_d4_22) (pc' := 23) rfl (v := (0 : Int32)) (by decide) ?_
    exact retN Xfull302 hx (t := .boolean) Bd.returns (by simp) (hb hby own_d4_23) hr
  · show own_QP (some (.int (0 : Int32))) h0 n0 _ Tfull302.heap _
    rw [efull302]
    exact ⟨rfl, N0, rfl⟩
def own_QR0 (Z : State) (w rg : Addr) (h0 : Heap) (n0 : Nat) (v : Option Value) (h : Heap) (L : List Loc) : Prop := v = none ∧ Fr n0 L ∧ Keep h0 h [w, rg] ∧ Unt h w ∧ ∃ as, own_Hist Z h w rg as 0 0 0 0 ∧ ∀ x ∈ as, h0.size ≤ x
theorem own_d7_0 : decode prog_18_method_3_code 0 = .ok (.iconst 0, 1) := by decide +kernel
theorem own_d7_1 : decode prog_18_method_3_code 1 = .ok (.istore_n 3, 1) := by decide +kernel
theorem own_d7_2 : decode prog_18_method_3_code 2 = .ok (.iload_n 3, 1) := by decide +kernel
theorem own_d7_3 : decode prog_18_method_3_code 3 = .ok (.iload_n 2, 1) := by decide +kernel
theorem own_d7_4 : decode prog_18_method_3_code 4 = .ok (.if_icmp .ge 16, 3) := by decide +kernel
theorem own_d7_20 : decode prog_18_method_3_code 20 = .ok (.return_, 1) := by decide +kernel
set_option maxRecDepth 65536 in
set_option maxHeartbeats 40000000 in
theorem own_rm_rec0 (l : Launch) (Z : State) (a0 : Array Value) (hw : ∀ d ∈ tables_1, d.before a0 Z = true) {ws : List Jvm.Cond} (hin : Jvm.Cond.instanceMethod (⟨"millrace/DurationHistogram", "record", "([JI)V"⟩ : MethodName) ∈ ws) (w rg ds : Addr) (dl : List Value) {dsk : ClassId} (h00 : Heap) (n0 : Nat) (Z00 : n0 ≤ h00.size) (H00 : own_Hist Z h00 w rg [] 0 0 0 0) (U00 : Unt h00 w) (V00 : Arv Z h00 ds dsk .long (64 : Int32) dl (.long 0)) (ne_ds_w : ds ≠ w) (ne_ds_rg : ds ≠ rg) (G0 : own_G n0 w rg [])  :
    MetFree l (⟨"millrace/DurationHistogram", "record", "([JI)V"⟩ : MethodName) (head1 (Jvm.Cond.codeSync (⟨"millrace/DurationHistogram", "record", "([JI)V"⟩ : MethodName) prog_18_method_3_code 4 none :: ws) ({ frames := 0, cells := 0, slots := 0, locals := 0 } : Room)) (fun a U => a = #[(.ref w), (.ref ds), (.int (0 : Int32))] ∧ Z.Warmed39 U.vm ∧ U.heap = h00 ∧ ∃ cell : Cell, h00[w]? = some cell ∧ cell.enterable U.cur) (fun _ _ _ _ _ => True) (fun _ U o U' => ∃ v L, o = .returned v ∧ own_QR0 Z w rg  h00 n0 v U'.heap L ∧ FrameEnd U o U' L ({ frames := 0, cells := 0, slots := 0, locals := 0 } : Room).cells ({ frames := 0, cells := 0, slots := 0, locals := 0 } : Room).slots) := by
  refine MetFree.of_bodySync (plainFor_of_name own_pn_millrace_DurationHistogram) (hisS hin) (fun _ s _ ⟨h1, _, h2, cl, h3, h4⟩ => ⟨w, cl, by rw [h1]; rfl, by rw [h2]; exact h3, h4⟩) ?_
  intro p e s0 m args below meth c a' cell s₁ Bd hml0 hP _
  obtain ⟨rfl, hZ0, hh0, -⟩ := hP
  cases Bd.receiver
  subst hh0
  have hx := Bd.exec
  have hby : c.code = prog_18_method_3_code := Bd.bytes
  have hml : c.maxLocals = 4 := hml0
  have X0 : Stand p l e ({ frames := 0, cells := 0, slots := 0, locals := 0 } : Room) (s0.setCell w (cell.withEntry s0.cur)) m #[(.ref w), (.ref ds), (.int (0 : Int32))] below meth c s₁ [] 0 0 := Stand.of_bodySync Bd
  have hZ : Z.Warmed39 (s0.setCell w (cell.withEntry s0.cur)).vm := hZ0
  have hown : (s0.setCell w (cell.withEntry s0.cur)).vm.findClass "millrace/DurationHistogram" = some m.cls := (findClass_of_methodNamed Bd.named :)
  have M0 : Mon s0.heap s₁.heap := by rw [Bd.state]; exact mon_set Bd.object _
  have KM0 : Keep s0.heap s₁.heap [w] := by rw [Bd.state]; exact own_keep_set Bd.object _
  obtain ⟨h0, e0⟩ : ∃ h, s₁.heap = h := ⟨_, rfl⟩
  rw [e0] at M0 KM0
  have Z0 : n0 ≤ h0.size := Nat.le_trans Z00 KM0.1
  have N0 := Fr.nil n0
  have pre0 : ∀ t, Steps p.tables e below (s₁.setTop (mkL w m 0 #[.val (.ref w), .val (.ref ds), .val (.int (0 : Int32)), .unset] [])) t → Steps p.tables e below (s₁.setTop (entryFrameSync m #[(.ref w), (.ref ds), (.int (0 : Int32))] 4 w)) t := fun t k => k
  have H0 := H00.mon M0
  have V_ds := own_Arv_mon M0 V00
  have lt_ds := V_ds.lt
  have GA0 : ∀ x ∈ ([] : List Addr), h0.size ≤ x := fun _ q => nomatch q
  obtain ⟨V, hr, hrun, hended, M1, KM1, hW, hsame⟩ := own_leaveS X0 Bd.object Bd.enterable Bd.synchronized (v := none) (fun _ => rfl)
  rw [e0] at M1 KM1
  refine ⟨V, _, pre0 _ ?_, hrun, hended, _, _, rfl, ?_, ⟨_, rfl⟩, hW, hsame.mono (by decide) (by decide)⟩
  · refine own_y_iconst X0.here hx (hb hby own_d7_0) (pc' := 1) rfl (v := (0 : Int32)) (by decide) ?_
    refine own_y_istoreN X0.here hx (hb hby own_d7_1) (pc' := 2) rfl (L' := #[.val (.ref w), .val (.ref ds), .val (.int (0 : Int32)), .val (.int (0 : Int32))]) rfl ?_
    refine own_y_iloadN X0.here hx (hb hby own_d7_2) (pc' := 3) rfl rfl ?_
    refine own_y_iloadN X0.here hx (hb hby own_d7_3) (pc' := 4) rfl rfl ?_
    refine own_y_icmpYes X0.here hx (hb hby own_d7_4) (by decide) (pc' := 20) (by decide) (by decide) ?_
    exact retS0 X0 hx Bd.returns (hb hby own_d7_20) hr
  · show own_QR0 Z w rg  s0.heap n0 _ V.heap _
    exact ⟨rfl, N0, (own_Keep_in KM0 (by simp)).trans (Keep.refl h0 [w, rg]) (fun x hx => Or.inl hx) |>.trans KM1 (fun x hx => Or.inl (by cases List.mem_singleton.mp hx; exact List.mem_cons_self ..)), own_unt_end U00 hsame, [], H0.mon M1, fun x hx => Nat.le_trans KM0.1 (GA0 x hx)⟩
def own_QR1 (Z : State) (w rg : Addr) (rc1_v10 : Int64) (h0 : Heap) (n0 : Nat) (v : Option Value) (h : Heap) (L : List Loc) : Prop := v = none ∧ Fr n0 L ∧ Keep h0 h [w, rg] ∧ Unt h w ∧ ∃ as, own_Hist Z h w rg as (0 + 1) (0 + 1) (FP.dadd 0 (FP.l2d (own_lmax (0 : Int64) rc1_v10))) (own_lmax 0 (own_lmax (0 : Int64) rc1_v10)) ∧ ∀ x ∈ as, h0.size ≤ x
theorem own_d7_7 : decode prog_18_method_3_code 7 = .ok (.aload_n 0, 1) := by decide +kernel
theorem own_d7_8 : decode prog_18_method_3_code 8 = .ok (.aload_n 1, 1) := by decide +kernel
theorem own_d7_9 : decode prog_18_method_3_code 9 = .ok (.iload_n 3, 1) := by decide +kernel
theorem own_d7_10 : decode prog_18_method_3_code 10 = .ok (.laload, 1) := by decide +kernel
theorem own_pd_28J29V : parseMethodDescriptor "(J)V" = some ⟨[.long], none⟩ := by decide +kernel
theorem own_d7_11 : decode prog_18_method_3_code 11 = .ok (.invokevirtual 17, 3) := by decide +kernel
theorem own_d7_14 : decode prog_18_method_3_code 14 = .ok (.iinc 3 1, 3) := by decide +kernel
theorem own_d7_17 : decode prog_18_method_3_code 17 = .ok (.goto (-15), 3) := by decide +kernel
set_option maxRecDepth 65536 in
set_option maxHeartbeats 40000000 in
theorem own_rm_rec1 (l : Launch) (Z : State) (a0 : Array Value) (hw : ∀ d ∈ tables_1, d.before a0 Z = true) {ws : List Jvm.Cond} (hin : Jvm.Cond.instanceMethod (⟨"millrace/DurationHistogram", "record", "([JI)V"⟩ : MethodName) ∈ ws) (w rg ds : Addr) (dl : List Value) {dsk : ClassId} {rc1_v10 : Int64} (h00 : Heap) (n0 : Nat) (Z00 : n0 ≤ h00.size) (H00 : own_Hist Z h00 w rg [] 0 0 0 0) (U00 : Unt h00 w) (V00 : Arv Z h00 ds dsk .long (64 : Int32) dl (.long 0)) (ne_ds_w : ds ≠ w) (ne_ds_rg : ds ≠ rg) (G0 : own_G n0 w rg []) (rc1_hel10 : dl.getD (Int32.toNatClampNeg (0 : Int32)) (.long 0) = (.long rc1_v10)) (rc1_hn11 : Jvm.Free.Fl.NoNaN64 (FP.dadd 0 (FP.l2d (own_lmax (0 : Int64) rc1_v10)))) :
    MetFree l (⟨"millrace/DurationHistogram", "record", "([JI)V"⟩ : MethodName) (head1 (Jvm.Cond.codeSync (⟨"millrace/DurationHistogram", "record", "([JI)V"⟩ : MethodName) prog_18_method_3_code 4 none :: ws) ({ frames := 4, cells := 1, slots := 128, locals := 79 } : Room)) (fun a U => a = #[(.ref w), (.ref ds), (.int (1 : Int32))] ∧ Z.Warmed39 U.vm ∧ U.heap = h00 ∧ ∃ cell : Cell, h00[w]? = some cell ∧ cell.enterable U.cur) (fun _ _ _ _ _ => True) (fun _ U o U' => ∃ v L, o = .returned v ∧ own_QR1 Z w rg rc1_v10 h00 n0 v U'.heap L ∧ FrameEnd U o U' L ({ frames := 4, cells := 1, slots := 128, locals := 79 } : Room).cells ({ frames := 4, cells := 1, slots := 128, locals := 79 } : Room).slots) := by
  refine MetFree.of_bodySync (plainFor_of_name own_pn_millrace_DurationHistogram) (hisS hin) (fun _ s _ ⟨h1, _, h2, cl, h3, h4⟩ => ⟨w, cl, by rw [h1]; rfl, by rw [h2]; exact h3, h4⟩) ?_
  intro p e s0 m args below meth c a' cell s₁ Bd hml0 hP _
  obtain ⟨rfl, hZ0, hh0, -⟩ := hP
  cases Bd.receiver
  subst hh0
  have hx := Bd.exec
  have hby : c.code = prog_18_method_3_code := Bd.bytes
  have hml : c.maxLocals = 4 := hml0
  have X0 : Stand p l e ({ frames := 4, cells := 1, slots := 128, locals := 79 } : Room) (s0.setCell w (cell.withEntry s0.cur)) m #[(.ref w), (.ref ds), (.int (1 : Int32))] below meth c s₁ [] 0 0 := Stand.of_bodySync Bd
  have hZ : Z.Warmed39 (s0.setCell w (cell.withEntry s0.cur)).vm := hZ0
  have hown : (s0.setCell w (cell.withEntry s0.cur)).vm.findClass "millrace/DurationHistogram" = some m.cls := (findClass_of_methodNamed Bd.named :)
  have M0 : Mon s0.heap s₁.heap := by rw [Bd.state]; exact mon_set Bd.object _
  have KM0 : Keep s0.heap s₁.heap [w] := by rw [Bd.state]; exact own_keep_set Bd.object _
  obtain ⟨h0, e0⟩ : ∃ h, s₁.heap = h := ⟨_, rfl⟩
  rw [e0] at M0 KM0
  have Z0 : n0 ≤ h0.size := Nat.le_trans Z00 KM0.1
  have N0 := Fr.nil n0
  have pre0 : ∀ t, Steps p.tables e below (s₁.setTop (mkL w m 0 #[.val (.ref w), .val (.ref ds), .val (.int (1 : Int32)), .unset] [])) t → Steps p.tables e below (s₁.setTop (entryFrameSync m #[(.ref w), (.ref ds), (.int (1 : Int32))] 4 w)) t := fun t k => k
  have H0 := H00.mon M0
  have V_ds := own_Arv_mon M0 V00
  have lt_ds := V_ds.lt
  have GA0 : ∀ x ∈ ([] : List Addr), h0.size ≤ x := fun _ q => nomatch q
  obtain ⟨cqrc11, qrc11, qrc11'⟩ := H0.exa.cell
  obtain ⟨_, _, ⟨Trc11, Lrc11, krc11, nrc11⟩, -, Xrc11, ⟨Lcrc11, hQrc11, lrc11, yrc11, zrc11⟩, strc11⟩ := X0.privateBack hx (y := (⟨"millrace/DurationHistogram", "add", "(J)V"⟩ : MethodName)) hown (mvT hZ (hw _ (List.mem_of_getElem? (i := 49) rfl))) (mvT hZ (hw _ (List.mem_of_getElem? (i := 50) rfl))) (own_selP (y := (⟨"millrace/DurationHistogram", "add", "(J)V"⟩ : MethodName)) (y' := (⟨"millrace/DurationHistogram", "record", "([JI)V"⟩ : MethodName)) rfl (mvT hZ (hw _ (List.mem_of_getElem? (i := 47) rfl))) (Cond.privateMethod_at (mvP hZ (hw _ (List.mem_of_getElem? (i := 51) rfl)) (args := #[]))) (mvT hZ (hw _ (List.mem_of_getElem? (i := 50) rfl))) (by decide)) (Cond.privateMethod_at (mvP hZ (hw _ (List.mem_of_getElem? (i := 51) rfl)) (args := #[]))) (mvT hZ (hw _ (List.mem_of_getElem? (i := 52) rfl))) (by decide) (backOf (W := 2) (own_rm_add l Z a0 hw [] w rg [] 0 0 0 0 rc1_v10 h0 n0 Z0 H0 G0 rc1_hn11) hZ (hw _ (List.mem_of_getElem? (i := 52) rfl)) (hw _ (List.mem_of_getElem? (i := 30) rfl)) (by decide) (by decide)) (g := (mkL w m 11 #[.val (.ref w), .val (.ref ds), .val (.int (1 : Int32)), .val (.int (0 : Int32))] [(.long rc1_v10), (.ref w)])) rfl (by rw [hml]; rfl) (Steps.refl _) (a := w) (by rw [e0]; exact qrc11) qrc11' (argsL := [(.long rc1_v10)]) (rest := []) (lenOf own_pd_28J29V rfl) rfl (by show 2 * 1 + _ ≤ _; exact Nat.le_of_eq rfl) (hb hby own_d7_11) (fun _ _ => ⟨rfl, e0, (by decide : 0 + 1 ≤ _), (by decide : 0 + 128 ≤ _)⟩)
  dsimp only [Pt.U, Pt.locs, Pt.cells, Pt.slots] at Xrc11 lrc11 yrc11 zrc11 strc11 hQrc11
  rw [lrc11, yrc11, zrc11] at Xrc11
  obtain ⟨rfl, Nrc11q, Krc11, asrc11, Hrc11, Qrc11⟩ := hQrc11
  have Zrc11 : n0 ≤ Trc11.heap.size := Nat.le_trans Z0 Krc11.1
  have V_ds_rc11 := V_ds.keep Krc11 (own_nin3 ne_ds_w ne_ds_rg lt_ds GA0)
  have GArc11 : ∀ x ∈ asrc11, h0.size ≤ x := fun x hx => (Qrc11 x hx).elim (GA0 x) (fun z => Nat.le_trans (Keep.refl h0 [w, rg]).1 z)
  have KKrc11 := (Keep.refl h0 [w, rg]).trans Krc11 (own_in3 GA0)
  have Grc11 : own_G n0 w rg asrc11 := ⟨G0.1, G0.2.1, fun x hx => Nat.le_trans Z0 (GArc11 x hx)⟩
  have Nrc11 := Fr.app N0 Nrc11q
  obtain ⟨V, hr, hrun, hended, M1, KM1, hW, hsame⟩ := own_leaveS Xrc11 Bd.object Bd.enterable Bd.synchronized (v := none) (fun _ => rfl)
  refine ⟨V, _, pre0 _ ?_, hrun, hended, _, _, rfl, ?_, ⟨_, rfl⟩, hW, hsame.mono (by decide) (by decide)⟩
  · refine own_y_iconst X0.here hx (hb hby own_d7_0) (pc' := 1) rfl (v := (0 : Int32)) (by decide) ?_
    refine own_y_istoreN X0.here hx (hb hby own_d7_1) (pc' := 2) rfl (L' := #[.val (.ref w), .val (.ref ds), .val (.int (1 : Int32)), .val (.int (0 : Int32))]) rfl ?_
    refine own_y_iloadN X0.here hx (hb hby own_d7_2) (pc' := 3) rfl rfl ?_
    refine own_y_iloadN X0.here hx (hb hby own_d7_3) (pc' := 4) rfl rfl ?_
    refine own_y_icmpNo X0.here hx (hb hby own_d7_4) (pc' := 7) rfl (by decide) ?_
    refine own_y_aloadN X0.here hx (hb hby own_d7_7) (pc' := 8) rfl rfl rfl ?_
    refine own_y_aloadN X0.here hx (hb hby own_d7_8) (pc' := 9) rfl rfl rfl ?_
    refine own_y_iloadN X0.here hx (hb hby own_d7_9) (pc' := 10) rfl rfl ?_
    refine own_ldJL X0 hx hZ e0 V_ds (j := (0 : Int32)) (x := rc1_v10) (by decide) rc1_hel10 (hb hby own_d7_10) (pc' := 11) rfl ?_
    refine strc11.trans ?_
    show Steps p.tables e below (Trc11.setTop (mkL w m 14 #[.val (.ref w), .val (.ref ds), .val (.int (1 : Int32)), .val (.int (0 : Int32))] [])) _
    refine own_y_iinc Xrc11.here hx (hb hby own_d7_14) (pc' := 17) rfl rfl (v := (1 : Int32)) (by decide) (L' := #[.val (.ref w), .val (.ref ds), .val (.int (1 : Int32)), .val (.int (1 : Int32))]) rfl ?_
    refine own_y_goto Xrc11.here hx (hb hby own_d7_17) (by decide) (pc' := 2) (by decide) ?_
    refine own_y_iloadN Xrc11.here hx (hb hby own_d7_2) (pc' := 3) rfl rfl ?_
    refine own_y_iloadN Xrc11.here hx (hb hby own_d7_3) (pc' := 4) rfl rfl ?_
    refine own_y_icmpYes Xrc11.here hx (hb hby own_d7_4) (by decide) (pc' := 20) (by decide) (by decide) ?_
    exact retS0 Xrc11 hx Bd.returns (hb hby own_d7_20) hr
  · show own_QR1 Z w rg rc1_v10 s0.heap n0 _ V.heap _
    exact ⟨rfl, Nrc11, (own_Keep_in KM0 (by simp)).trans KKrc11 (fun x hx => Or.inl hx) |>.trans KM1 (fun x hx => Or.inl (by cases List.mem_singleton.mp hx; exact List.mem_cons_self ..)), own_unt_end U00 hsame, asrc11, Hrc11.mon M1, fun x hx => Nat.le_trans KM0.1 (GArc11 x hx)⟩
def own_QR2 (Z : State) (w rg : Addr) (rc2_v10 : Int64) (rc2_v10_2 : Int64) (h0 : Heap) (n0 : Nat) (v : Option Value) (h : Heap) (L : List Loc) : Prop := v = none ∧ Fr n0 L ∧ Keep h0 h [w, rg] ∧ Unt h w ∧ ∃ as, own_Hist Z h w rg as ((0 + 1) + 1) ((0 + 1) + 1) (FP.dadd (FP.dadd 0 (FP.l2d (own_lmax (0 : Int64) rc2_v10))) (FP.l2d (own_lmax (0 : Int64) rc2_v10_2))) (own_lmax (own_lmax 0 (own_lmax (0 : Int64) rc2_v10)) (own_lmax (0 : Int64) rc2_v10_2)) ∧ ∀ x ∈ as, h0.size ≤ x
set_option maxRecDepth 65536 in
set_option maxHeartbeats 40000000 in
theorem own_rm_rec2 (l : Launch) (Z : State) (a0 : Array Value) (hw : ∀ d ∈ tables_1, d.before a0 Z = true) {ws : List Jvm.Cond} (hin : Jvm.Cond.instanceMethod (⟨"millrace/DurationHistogram", "record", "([JI)V"⟩ : MethodName) ∈ ws) (w rg ds : Addr) (dl : List Value) {dsk : ClassId} {rc2_v10 : Int64} {rc2_v10_2 : Int64} (h00 : Heap) (n0 : Nat) (Z00 : n0 ≤ h00.size) (H00 : own_Hist Z h00 w rg [] 0 0 0 0) (U00 : Unt h00 w) (V00 : Arv Z h00 ds dsk .long (64 : Int32) dl (.long 0)) (ne_ds_w : ds ≠ w) (ne_ds_rg : ds ≠ rg) (G0 : own_G n0 w rg []) (rc2_hel10 : dl.getD (Int32.toNatClampNeg (0 : Int32)) (.long 0) = (.long rc2_v10)) (rc2_hn11 : Jvm.Free.Fl.NoNaN64 (FP.dadd 0 (FP.l2d (own_lmax (0 : Int64) rc2_v10)))) (rc2_hel10_2 : dl.getD (Int32.toNatClampNeg (1 : Int32)) (.long 0) = (.long rc2_v10_2)) (rc2_hn11_2 : Jvm.Free.Fl.NoNaN64 (FP.dadd (FP.dadd 0 (FP.l2d (own_lmax (0 : Int64) rc2_v10))) (FP.l2d (own_lmax (0 : Int64) rc2_v10_2)))) :
    MetFree l (⟨"millrace/DurationHistogram", "record", "([JI)V"⟩ : MethodName) (head1 (Jvm.Cond.codeSync (⟨"millrace/DurationHistogram", "record", "([JI)V"⟩ : MethodName) prog_18_method_3_code 4 none :: ws) ({ frames := 4, cells := 2, slots := 256, locals := 79 } : Room)) (fun a U => a = #[(.ref w), (.ref ds), (.int (2 : Int32))] ∧ Z.Warmed39 U.vm ∧ U.heap = h00 ∧ ∃ cell : Cell, h00[w]? = some cell ∧ cell.enterable U.cur) (fun _ _ _ _ _ => True) (fun _ U o U' => ∃ v L, o = .returned v ∧ own_QR2 Z w rg rc2_v10 rc2_v10_2 h00 n0 v U'.heap L ∧ FrameEnd U o U' L ({ frames := 4, cells := 2, slots := 256, locals := 79 } : Room).cells ({ frames := 4, cells := 2, slots := 256, locals := 79 } : Room).slots) := by
  refine MetFree.of_bodySync (plainFor_of_name own_pn_millrace_DurationHistogram) (hisS hin) (fun _ s _ ⟨h1, _, h2, cl, h3, h4⟩ => ⟨w, cl, by rw [h1]; rfl, by rw [h2]; exact h3, h4⟩) ?_
  intro p e s0 m args below meth c a' cell s₁ Bd hml0 hP _
  obtain ⟨rfl, hZ0, hh0, -⟩ := hP
  cases Bd.receiver
  subst hh0
  have hx := Bd.exec
  have hby : c.code = prog_18_method_3_code := Bd.bytes
  have hml : c.maxLocals = 4 := hml0
  have X0 : Stand p l e ({ frames := 4, cells := 2, slots := 256, locals := 79 } : Room) (s0.setCell w (cell.withEntry s0.cur)) m #[(.ref w), (.ref ds), (.int (2 : Int32))] below meth c s₁ [] 0 0 := Stand.of_bodySync Bd
  have hZ : Z.Warmed39 (s0.setCell w (cell.withEntry s0.cur)).vm := hZ0
  have hown : (s0.setCell w (cell.withEntry s0.cur)).vm.findClass "millrace/DurationHistogram" = some m.cls := (findClass_of_methodNamed Bd.named :)
  have M0 : Mon s0.heap s₁.heap := by rw [Bd.state]; exact mon_set Bd.object _
  have KM0 : Keep s0.heap s₁.heap [w] := by rw [Bd.state]; exact own_keep_set Bd.object _
  obtain ⟨h0, e0⟩ : ∃ h, s₁.heap = h := ⟨_, rfl⟩
  rw [e0] at M0 KM0
  have Z0 : n0 ≤ h0.size := Nat.le_trans Z00 KM0.1
  have N0 := Fr.nil n0
  have pre0 : ∀ t, Steps p.tables e below (s₁.setTop (mkL w m 0 #[.val (.ref w), .val (.ref ds), .val (.int (2 : Int32)), .unset] [])) t → Steps p.tables e below (s₁.setTop (entryFrameSync m #[(.ref w), (.ref ds), (.int (2 : Int32))] 4 w)) t := fun t k => k
  have H0 := H00.mon M0
  have V_ds := own_Arv_mon M0 V00
  have lt_ds := V_ds.lt
  have GA0 : ∀ x ∈ ([] : List Addr), h0.size ≤ x := fun _ q => nomatch q
  obtain ⟨cqrc21, qrc21, qrc21'⟩ := H0.exa.cell
  obtain ⟨_, _, ⟨Trc21, Lrc21, krc21, nrc21⟩, -, Xrc21, ⟨Lcrc21, hQrc21, lrc21, yrc21, zrc21⟩, strc21⟩ := X0.privateBack hx (y := (⟨"millrace/DurationHistogram", "add", "(J)V"⟩ : MethodName)) hown (mvT hZ (hw _ (List.mem_of_getElem? (i := 49) rfl))) (mvT hZ (hw _ (List.mem_of_getElem? (i := 50) rfl))) (own_selP (y := (⟨"millrace/DurationHistogram", "add", "(J)V"⟩ : MethodName)) (y' := (⟨"millrace/DurationHistogram", "record", "([JI)V"⟩ : MethodName)) rfl (mvT hZ (hw _ (List.mem_of_getElem? (i := 47) rfl))) (Cond.privateMethod_at (mvP hZ (hw _ (List.mem_of_getElem? (i := 51) rfl)) (args := #[]))) (mvT hZ (hw _ (List.mem_of_getElem? (i := 50) rfl))) (by decide)) (Cond.privateMethod_at (mvP hZ (hw _ (List.mem_of_getElem? (i := 51) rfl)) (args := #[]))) (mvT hZ (hw _ (List.mem_of_getElem? (i := 52) rfl))) (by decide) (backOf (W := 2) (own_rm_add l Z a0 hw [] w rg [] 0 0 0 0 rc2_v10 h0 n0 Z0 H0 G0 rc2_hn11) hZ (hw _ (List.mem_of_getElem? (i := 52) rfl)) (hw _ (List.mem_of_getElem? (i := 30) rfl)) (by decide) (by decide)) (g := (mkL w m 11 #[.val (.ref w), .val (.ref ds), .val (.int (2 : Int32)), .val (.int (0 : Int32))] [(.long rc2_v10), (.ref w)])) rfl (by rw [hml]; rfl) (Steps.refl _) (a := w) (by rw [e0]; exact qrc21) qrc21' (argsL := [(.long rc2_v10)]) (rest := []) (lenOf own_pd_28J29V rfl) rfl (by show 2 * 1 + _ ≤ _; exact Nat.le_of_eq rfl) (hb hby own_d7_11) (fun _ _ => ⟨rfl, e0, (by decide : 0 + 1 ≤ _), (by decide : 0 + 128 ≤ _)⟩)
  dsimp only [Pt.U, Pt.locs, Pt.cells, Pt.slots] at Xrc21 lrc21 yrc21 zrc21 strc21 hQrc21
  rw [lrc21, yrc21, zrc21] at Xrc21
  obtain ⟨rfl, Nrc21q, Krc21, asrc21, Hrc21, Qrc21⟩ := hQrc21
  have Zrc21 : n0 ≤ Trc21.heap.size := Nat.le_trans Z0 Krc21.1
  have V_ds_rc21 := V_ds.keep Krc21 (own_nin3 ne_ds_w ne_ds_rg lt_ds GA0)
  have GArc21 : ∀ x ∈ asrc21, h0.size ≤ x := fun x hx => (Qrc21 x hx).elim (GA0 x) (fun z => Nat.le_trans (Keep.refl h0 [w, rg]).1 z)
  have KKrc21 := (Keep.refl h0 [w, rg]).trans Krc21 (own_in3 GA0)
  have Grc21 : own_G n0 w rg asrc21 := ⟨G0.1, G0.2.1, fun x hx => Nat.le_trans Z0 (GArc21 x hx)⟩
  have Nrc21 := Fr.app N0 Nrc21q
  obtain ⟨cqrc22, qrc22, qrc22'⟩ := Hrc21.exa.cell
  obtain ⟨_, _, ⟨Trc22, Lrc22, krc22, nrc22⟩, -, Xrc22, ⟨Lcrc22, hQrc22, lrc22, yrc22, zrc22⟩, strc22⟩ := Xrc21.privateBack hx (y := (⟨"millrace/DurationHistogram", "add", "(J)V"⟩ : MethodName)) hown (mvT hZ (hw _ (List.mem_of_getElem? (i := 49) rfl))) (mvT hZ (hw _ (List.mem_of_getElem? (i := 50) rfl))) (own_selP (y := (⟨"millrace/DurationHistogram", "add", "(J)V"⟩ : MethodName)) (y' := (⟨"millrace/DurationHistogram", "record", "([JI)V"⟩ : MethodName)) rfl (mvT hZ (hw _ (List.mem_of_getElem? (i := 47) rfl))) (Cond.privateMethod_at (mvP hZ (hw _ (List.mem_of_getElem? (i := 51) rfl)) (args := #[]))) (mvT hZ (hw _ (List.mem_of_getElem? (i := 50) rfl))) (by decide)) (Cond.privateMethod_at (mvP hZ (hw _ (List.mem_of_getElem? (i := 51) rfl)) (args := #[]))) (mvT hZ (hw _ (List.mem_of_getElem? (i := 52) rfl))) (by decide) (backOf (W := 2) (own_rm_add l Z a0 hw [] w rg asrc21 (0 + 1) (0 + 1) (FP.dadd 0 (FP.l2d (own_lmax (0 : Int64) rc2_v10))) (own_lmax 0 (own_lmax (0 : Int64) rc2_v10)) rc2_v10_2 Trc21.heap n0 Zrc21 Hrc21 Grc21 rc2_hn11_2) hZ (hw _ (List.mem_of_getElem? (i := 52) rfl)) (hw _ (List.mem_of_getElem? (i := 30) rfl)) (by decide) (by decide)) (g := (mkL w m 11 #[.val (.ref w), .val (.ref ds), .val (.int (2 : Int32)), .val (.int (1 : Int32))] [(.long rc2_v10_2), (.ref w)])) rfl (by rw [hml]; rfl) (Steps.refl _) (a := w) qrc22 qrc22' (argsL := [(.long rc2_v10_2)]) (rest := []) (lenOf own_pd_28J29V rfl) rfl (by show 2 * 1 + _ ≤ _; exact Nat.le_of_eq rfl) (hb hby own_d7_11) (fun _ _ => ⟨rfl, rfl, (by decide : 1 + 1 ≤ _), (by decide : 128 + 128 ≤ _)⟩)
  dsimp only [Pt.U, Pt.locs, Pt.cells, Pt.slots] at Xrc22 lrc22 yrc22 zrc22 strc22 hQrc22
  rw [lrc22, yrc22, zrc22] at Xrc22
  obtain ⟨rfl, Nrc22q, Krc22, asrc22, Hrc22, Qrc22⟩ := hQrc22
  have Zrc22 : n0 ≤ Trc22.heap.size := Nat.le_trans Zrc21 Krc22.1
  have V_ds_rc22 := V_ds_rc21.keep Krc22 (own_nin3 ne_ds_w ne_ds_rg lt_ds GArc21)
  have GArc22 : ∀ x ∈ asrc22, h0.size ≤ x := fun x hx => (Qrc22 x hx).elim (GArc21 x) (fun z => Nat.le_trans KKrc21.1 z)
  have KKrc22 := KKrc21.trans Krc22 (own_in3 GArc21)
  have Grc22 : own_G n0 w rg asrc22 := ⟨Grc21.1, Grc21.2.1, fun x hx => Nat.le_trans Z0 (GArc22 x hx)⟩
  have Nrc22 := Fr.app Nrc21 Nrc22q
  obtain ⟨V, hr, hrun, hended, M1, KM1, hW, hsame⟩ := own_leaveS Xrc22 Bd.object Bd.enterable Bd.synchronized (v := none) (fun _ => rfl)
  refine ⟨V, _, pre0 _ ?_, hrun, hended, _, _, rfl, ?_, ⟨_, rfl⟩, hW, hsame.mono (by decide) (by decide)⟩
  · refine own_y_iconst X0.here hx (hb hby own_d7_0) (pc' := 1) rfl (v := (0 : Int32)) (by decide) ?_
    refine own_y_istoreN X0.here hx (hb hby own_d7_1) (pc' := 2) rfl (L' := #[.val (.ref w), .val (.ref ds), .val (.int (2 : Int32)), .val (.int (0 : Int32))]) rfl ?_
    refine own_y_iloadN X0.here hx (hb hby own_d7_2) (pc' := 3) rfl rfl ?_
    refine own_y_iloadN X0.here hx (hb hby own_d7_3) (pc' := 4) rfl rfl ?_
    refine own_y_icmpNo X0.here hx (hb hby own_d7_4) (pc' := 7) rfl (by decide) ?_
    refine own_y_aloadN X0.here hx (hb hby own_d7_7) (pc' := 8) rfl rfl rfl ?_
    refine own_y_aloadN X0.here hx (hb hby own_d7_8) (pc' := 9) rfl rfl rfl ?_
    refine own_y_iloadN X0.here hx (hb hby own_d7_9) (pc' := 10) rfl rfl ?_
    refine own_ldJL X0 hx hZ e0 V_ds (j := (0 : Int32)) (x := rc2_v10) (by decide) rc2_hel10 (hb hby own_d7_10) (pc' := 11) rfl ?_
    refine strc21.trans ?_
    show Steps p.tables e below (Trc21.setTop (mkL w m 14 #[.val (.ref w), .val (.ref ds), .val (.int (2 : Int32)), .val (.int (0 : Int32))] [])) _
    refine own_y_iinc Xrc21.here hx (hb hby own_d7_14) (pc' := 17) rfl rfl (v := (1 : Int32)) (by decide) (L' := #[.val (.ref w), .val (.ref ds), .val (.int (2 : Int32)), .val (.int (1 : Int32))]) rfl ?_
    refine own_y_goto Xrc21.here hx (hb hby own_d7_17) (by decide) (pc' := 2) (by decide) ?_
    refine own_y_iloadN Xrc21.here hx (hb hby own_d7_2) (pc' := 3) rfl rfl ?_
    refine own_y_iloadN Xrc21.here hx (hb hby own_d7_3) (pc' := 4) rfl rfl ?_
    refine own_y_icmpNo Xrc21.here hx (hb hby own_d7_4) (pc' := 7) rfl (by decide) ?_
    refine own_y_aloadN Xrc21.here hx (hb hby own_d7_7) (pc' := 8) rfl rfl rfl ?_
    refine own_y_aloadN Xrc21.here hx (hb hby own_d7_8) (pc' := 9) rfl rfl rfl ?_
    refine own_y_iloadN Xrc21.here hx (hb hby own_d7_9) (pc' := 10) rfl rfl ?_
    refine own_ldJL Xrc21 hx hZ rfl V_ds_rc21 (j := (1 : Int32)) (x := rc2_v10_2) (by decide) rc2_hel10_2 (hb hby own_d7_10) (pc' := 11) rfl ?_
    refine strc22.trans ?_
    show Steps p.tables e below (Trc22.setTop (mkL w m 14 #[.val (.ref w), .val (.ref ds), .val (.int (2 : Int32)), .val (.int (1 : Int32))] [])) _
    refine own_y_iinc Xrc22.here hx (hb hby own_d7_14) (pc' := 17) rfl rfl (v := (2 : Int32)) (by decide) (L' := #[.val (.ref w), .val (.ref ds), .val (.int (2 : Int32)), .val (.int (2 : Int32))]) rfl ?_
    refine own_y_goto Xrc22.here hx (hb hby own_d7_17) (by decide) (pc' := 2) (by decide) ?_
    refine own_y_iloadN Xrc22.here hx (hb hby own_d7_2) (pc' := 3) rfl rfl ?_
    refine own_y_iloadN Xrc22.here hx (hb hby own_d7_3) (pc' := 4) rfl rfl ?_
    refine own_y_icmpYes Xrc22.here hx (hb hby own_d7_4) (by decide) (pc' := 20) (by decide) (by decide) ?_
    exact retS0 Xrc22 hx Bd.returns (hb hby own_d7_20) hr
  · show own_QR2 Z w rg rc2_v10 rc2_v10_2 s0.heap n0 _ V.heap _
    exact ⟨rfl, Nrc22, (own_Keep_in KM0 (by simp)).trans KKrc22 (fun x hx => Or.inl hx) |>.trans KM1 (fun x hx => Or.inl (by cases List.mem_singleton.mp hx; exact List.mem_cons_self ..)), own_unt_end U00 hsame, asrc22, Hrc22.mon M1, fun x hx => Nat.le_trans KM0.1 (GArc22 x hx)⟩
def own_QR3 (Z : State) (w rg : Addr) (rc3_v10 : Int64) (rc3_v10_2 : Int64) (rc3_v10_3 : Int64) (h0 : Heap) (n0 : Nat) (v : Option Value) (h : Heap) (L : List Loc) : Prop := v = none ∧ Fr n0 L ∧ Keep h0 h [w, rg] ∧ Unt h w ∧ ∃ as, own_Hist Z h w rg as (((0 + 1) + 1) + 1) (((0 + 1) + 1) + 1) (FP.dadd (FP.dadd (FP.dadd 0 (FP.l2d (own_lmax (0 : Int64) rc3_v10))) (FP.l2d (own_lmax (0 : Int64) rc3_v10_2))) (FP.l2d (own_lmax (0 : Int64) rc3_v10_3))) (own_lmax (own_lmax (own_lmax 0 (own_lmax (0 : Int64) rc3_v10)) (own_lmax (0 : Int64) rc3_v10_2)) (own_lmax (0 : Int64) rc3_v10_3)) ∧ ∀ x ∈ as, h0.size ≤ x
set_option maxRecDepth 65536 in
set_option maxHeartbeats 40000000 in
theorem own_rm_rec3 (l : Launch) (Z : State) (a0 : Array Value) (hw : ∀ d ∈ tables_1, d.before a0 Z = true) {ws : List Jvm.Cond} (hin : Jvm.Cond.instanceMethod (⟨"millrace/DurationHistogram", "record", "([JI)V"⟩ : MethodName) ∈ ws) (w rg ds : Addr) (dl : List Value) {dsk : ClassId} {rc3_v10 : Int64} {rc3_v10_2 : Int64} {rc3_v10_3 : Int64} (h00 : Heap) (n0 : Nat) (Z00 : n0 ≤ h00.size) (H00 : own_Hist Z h00 w rg [] 0 0 0 0) (U00 : Unt h00 w) (V00 : Arv Z h00 ds dsk .long (64 : Int32) dl (.long 0)) (ne_ds_w : ds ≠ w) (ne_ds_rg : ds ≠ rg) (G0 : own_G n0 w rg []) (rc3_hel10 : dl.getD (Int32.toNatClampNeg (0 : Int32)) (.long 0) = (.long rc3_v10)) (rc3_hn11 : Jvm.Free.Fl.NoNaN64 (FP.dadd 0 (FP.l2d (own_lmax (0 : Int64) rc3_v10)))) (rc3_hel10_2 : dl.getD (Int32.toNatClampNeg (1 : Int32)) (.long 0) = (.long rc3_v10_2)) (rc3_hn11_2 : Jvm.Free.Fl.NoNaN64 (FP.dadd (FP.dadd 0 (FP.l2d (own_lmax (0 : Int64) rc3_v10))) (FP.l2d (own_lmax (0 : Int64) rc3_v10_2)))) (rc3_hel10_3 : dl.getD (Int32.toNatClampNeg (2 : Int32)) (.long 0) = (.long rc3_v10_3)) (rc3_hn11_3 : Jvm.Free.Fl.NoNaN64 (FP.dadd (FP.dadd (FP.dadd 0 (FP.l2d (own_lmax (0 : Int64) rc3_v10))) (FP.l2d (own_lmax (0 : Int64) rc3_v10_2))) (FP.l2d (own_lmax (0 : Int64) rc3_v10_3)))) :
    MetFree l (⟨"millrace/DurationHistogram", "record", "([JI)V"⟩ : MethodName) (head1 (Jvm.Cond.codeSync (⟨"millrace/DurationHistogram", "record", "([JI)V"⟩ : MethodName) prog_18_method_3_code 4 none :: ws) ({ frames := 4, cells := 3, slots := 384, locals := 79 } : Room)) (fun a U => a = #[(.ref w), (.ref ds), (.int (3 : Int32))] ∧ Z.Warmed39 U.vm ∧ U.heap = h00 ∧ ∃ cell : Cell, h00[w]? = some cell ∧ cell.enterable U.cur) (fun _ _ _ _ _ => True) (fun _ U o U' => ∃ v L, o = .returned v ∧ own_QR3 Z w rg rc3_v10 rc3_v10_2 rc3_v10_3 h00 n0 v U'.heap L ∧ FrameEnd U o U' L ({ frames := 4, cells := 3, slots := 384, locals := 79 } : Room).cells ({ frames := 4, cells := 3, slots := 384, locals := 79 } : Room).slots) := by
  refine MetFree.of_bodySync (plainFor_of_name own_pn_millrace_DurationHistogram) (hisS hin) (fun _ s _ ⟨h1, _, h2, cl, h3, h4⟩ => ⟨w, cl, by rw [h1]; rfl, by rw [h2]; exact h3, h4⟩) ?_
  intro p e s0 m args below meth c a' cell s₁ Bd hml0 hP _
  obtain ⟨rfl, hZ0, hh0, -⟩ := hP
  cases Bd.receiver
  subst hh0
  have hx := Bd.exec
  have hby : c.code = prog_18_method_3_code := Bd.bytes
  have hml : c.maxLocals = 4 := hml0
  have X0 : Stand p l e ({ frames := 4, cells := 3, slots := 384, locals := 79 } : Room) (s0.setCell w (cell.withEntry s0.cur)) m #[(.ref w), (.ref ds), (.int (3 : Int32))] below meth c s₁ [] 0 0 := Stand.of_bodySync Bd
  have hZ : Z.Warmed39 (s0.setCell w (cell.withEntry s0.cur)).vm := hZ0
  have hown : (s0.setCell w (cell.withEntry s0.cur)).vm.findClass "millrace/DurationHistogram" = some m.cls := (findClass_of_methodNamed Bd.named :)
  have M0 : Mon s0.heap s₁.heap := by rw [Bd.state]; exact mon_set Bd.object _
  have KM0 : Keep s0.heap s₁.heap [w] := by rw [Bd.state]; exact own_keep_set Bd.object _
  obtain ⟨h0, e0⟩ : ∃ h, s₁.heap = h := ⟨_, rfl⟩
  rw [e0] at M0 KM0
  have Z0 : n0 ≤ h0.size := Nat.le_trans Z00 KM0.1
  have N0 := Fr.nil n0
  have pre0 : ∀ t, Steps p.tables e below (s₁.setTop (mkL w m 0 #[.val (.ref w), .val (.ref ds), .val (.int (3 : Int32)), .unset] [])) t → Steps p.tables e below (s₁.setTop (entryFrameSync m #[(.ref w), (.ref ds), (.int (3 : Int32))] 4 w)) t := fun t k => k
  have H0 := H00.mon M0
  have V_ds := own_Arv_mon M0 V00
  have lt_ds := V_ds.lt
  have GA0 : ∀ x ∈ ([] : List Addr), h0.size ≤ x := fun _ q => nomatch q
  obtain ⟨cqrc31, qrc31, qrc31'⟩ := H0.exa.cell
  obtain ⟨_, _, ⟨Trc31, Lrc31, krc31, nrc31⟩, -, Xrc31, ⟨Lcrc31, hQrc31, lrc31, yrc31, zrc31⟩, strc31⟩ := X0.privateBack hx (y := (⟨"millrace/DurationHistogram", "add", "(J)V"⟩ : MethodName)) hown (mvT hZ (hw _ (List.mem_of_getElem? (i := 49) rfl))) (mvT hZ (hw _ (List.mem_of_getElem? (i := 50) rfl))) (own_selP (y := (⟨"millrace/DurationHistogram", "add", "(J)V"⟩ : MethodName)) (y' := (⟨"millrace/DurationHistogram", "record", "([JI)V"⟩ : MethodName)) rfl (mvT hZ (hw _ (List.mem_of_getElem? (i := 47) rfl))) (Cond.privateMethod_at (mvP hZ (hw _ (List.mem_of_getElem? (i := 51) rfl)) (args := #[]))) (mvT hZ (hw _ (List.mem_of_getElem? (i := 50) rfl))) (by decide)) (Cond.privateMethod_at (mvP hZ (hw _ (List.mem_of_getElem? (i := 51) rfl)) (args := #[]))) (mvT hZ (hw _ (List.mem_of_getElem? (i := 52) rfl))) (by decide) (backOf (W := 2) (own_rm_add l Z a0 hw [] w rg [] 0 0 0 0 rc3_v10 h0 n0 Z0 H0 G0 rc3_hn11) hZ (hw _ (List.mem_of_getElem? (i := 52) rfl)) (hw _ (List.mem_of_getElem? (i := 30) rfl)) (by decide) (by decide)) (g := (mkL w m 11 #[.val (.ref w), .val (.ref ds), .val (.int (3 : Int32)), .val (.int (0 : Int32))] [(.long rc3_v10), (.ref w)])) rfl (by rw [hml]; rfl) (Steps.refl _) (a := w) (by rw [e0]; exact qrc31) qrc31' (argsL := [(.long rc3_v10)]) (rest := []) (lenOf own_pd_28J29V rfl) rfl (by show 2 * 1 + _ ≤ _; exact Nat.le_of_eq rfl) (hb hby own_d7_11) (fun _ _ => ⟨rfl, e0, (by decide : 0 + 1 ≤ _), (by decide : 0 + 128 ≤ _)⟩)
  dsimp only [Pt.U, Pt.locs, Pt.cells, Pt.slots] at Xrc31 lrc31 yrc31 zrc31 strc31 hQrc31
  rw [lrc31, yrc31, zrc31] at Xrc31
  obtain ⟨rfl, Nrc31q, Krc31, asrc31, Hrc31, Qrc31⟩ := hQrc31
  have Zrc31 : n0 ≤ Trc31.heap.size := Nat.le_trans Z0 Krc31.1
  have V_ds_rc31 := V_ds.keep Krc31 (own_nin3 ne_ds_w ne_ds_rg lt_ds GA0)
  have GArc31 : ∀ x ∈ asrc31, h0.size ≤ x := fun x hx => (Qrc31 x hx).elim (GA0 x) (fun z => Nat.le_trans (Keep.refl h0 [w, rg]).1 z)
  have KKrc31 := (Keep.refl h0 [w, rg]).trans Krc31 (own_in3 GA0)
  have Grc31 : own_G n0 w rg asrc31 := ⟨G0.1, G0.2.1, fun x hx => Nat.le_trans Z0 (GArc31 x hx)⟩
  have Nrc31 := Fr.app N0 Nrc31q
  obtain ⟨cqrc32, qrc32, qrc32'⟩ := Hrc31.exa.cell
  obtain ⟨_, _, ⟨Trc32, Lrc32, krc32, nrc32⟩, -, Xrc32, ⟨Lcrc32, hQrc32, lrc32, yrc32, zrc32⟩, strc32⟩ := Xrc31.privateBack hx (y := (⟨"millrace/DurationHistogram", "add", "(J)V"⟩ : MethodName)) hown (mvT hZ (hw _ (List.mem_of_getElem? (i := 49) rfl))) (mvT hZ (hw _ (List.mem_of_getElem? (i := 50) rfl))) (own_selP (y := (⟨"millrace/DurationHistogram", "add", "(J)V"⟩ : MethodName)) (y' := (⟨"millrace/DurationHistogram", "record", "([JI)V"⟩ : MethodName)) rfl (mvT hZ (hw _ (List.mem_of_getElem? (i := 47) rfl))) (Cond.privateMethod_at (mvP hZ (hw _ (List.mem_of_getElem? (i := 51) rfl)) (args := #[]))) (mvT hZ (hw _ (List.mem_of_getElem? (i := 50) rfl))) (by decide)) (Cond.privateMethod_at (mvP hZ (hw _ (List.mem_of_getElem? (i := 51) rfl)) (args := #[]))) (mvT hZ (hw _ (List.mem_of_getElem? (i := 52) rfl))) (by decide) (backOf (W := 2) (own_rm_add l Z a0 hw [] w rg asrc31 (0 + 1) (0 + 1) (FP.dadd 0 (FP.l2d (own_lmax (0 : Int64) rc3_v10))) (own_lmax 0 (own_lmax (0 : Int64) rc3_v10)) rc3_v10_2 Trc31.heap n0 Zrc31 Hrc31 Grc31 rc3_hn11_2) hZ (hw _ (List.mem_of_getElem? (i := 52) rfl)) (hw _ (List.mem_of_getElem? (i := 30) rfl)) (by decide) (by decide)) (g := (mkL w m 11 #[.val (.ref w), .val (.ref ds), .val (.int (3 : Int32)), .val (.int (1 : Int32))] [(.long rc3_v10_2), (.ref w)])) rfl (by rw [hml]; rfl) (Steps.refl _) (a := w) qrc32 qrc32' (argsL := [(.long rc3_v10_2)]) (rest := []) (lenOf own_pd_28J29V rfl) rfl (by show 2 * 1 + _ ≤ _; exact Nat.le_of_eq rfl) (hb hby own_d7_11) (fun _ _ => ⟨rfl, rfl, (by decide : 1 + 1 ≤ _), (by decide : 128 + 128 ≤ _)⟩)
  dsimp only [Pt.U, Pt.locs, Pt.cells, Pt.slots] at Xrc32 lrc32 yrc32 zrc32 strc32 hQrc32
  rw [lrc32, yrc32, zrc32] at Xrc32
  obtain ⟨rfl, Nrc32q, Krc32, asrc32, Hrc32, Qrc32⟩ := hQrc32
  have Zrc32 : n0 ≤ Trc32.heap.size := Nat.le_trans Zrc31 Krc32.1
  have V_ds_rc32 := V_ds_rc31.keep Krc32 (own_nin3 ne_ds_w ne_ds_rg lt_ds GArc31)
  have GArc32 : ∀ x ∈ asrc32, h0.size ≤ x := fun x hx => (Qrc32 x hx).elim (GArc31 x) (fun z => Nat.le_trans KKrc31.1 z)
  have KKrc32 := KKrc31.trans Krc32 (own_in3 GArc31)
  have Grc32 : own_G n0 w rg asrc32 := ⟨Grc31.1, Grc31.2.1, fun x hx => Nat.le_trans Z0 (GArc32 x hx)⟩
  have Nrc32 := Fr.app Nrc31 Nrc32q
  obtain ⟨cqrc33, qrc33, qrc33'⟩ := Hrc32.exa.cell
  obtain ⟨_, _, ⟨Trc33, Lrc33, krc33, nrc33⟩, -, Xrc33, ⟨Lcrc33, hQrc33, lrc33, yrc33, zrc33⟩, strc33⟩ := Xrc32.privateBack hx (y := (⟨"millrace/DurationHistogram", "add", "(J)V"⟩ : MethodName)) hown (mvT hZ (hw _ (List.mem_of_getElem? (i := 49) rfl))) (mvT hZ (hw _ (List.mem_of_getElem? (i := 50) rfl))) (own_selP (y := (⟨"millrace/DurationHistogram", "add", "(J)V"⟩ : MethodName)) (y' := (⟨"millrace/DurationHistogram", "record", "([JI)V"⟩ : MethodName)) rfl (mvT hZ (hw _ (List.mem_of_getElem? (i := 47) rfl))) (Cond.privateMethod_at (mvP hZ (hw _ (List.mem_of_getElem? (i := 51) rfl)) (args := #[]))) (mvT hZ (hw _ (List.mem_of_getElem? (i := 50) rfl))) (by decide)) (Cond.privateMethod_at (mvP hZ (hw _ (List.mem_of_getElem? (i := 51) rfl)) (args := #[]))) (mvT hZ (hw _ (List.mem_of_getElem? (i := 52) rfl))) (by decide) (backOf (W := 2) (own_rm_add l Z a0 hw [] w rg asrc32 ((0 + 1) + 1) ((0 + 1) + 1) (FP.dadd (FP.dadd 0 (FP.l2d (own_lmax (0 : Int64) rc3_v10))) (FP.l2d (own_lmax (0 : Int64) rc3_v10_2))) (own_lmax (own_lmax 0 (own_lmax (0 : Int64) rc3_v10)) (own_lmax (0 : Int64) rc3_v10_2)) rc3_v10_3 Trc32.heap n0 Zrc32 Hrc32 Grc32 rc3_hn11_3) hZ (hw _ (List.mem_of_getElem? (i := 52) rfl)) (hw _ (List.mem_of_getElem? (i := 30) rfl)) (by decide) (by decide)) (g := (mkL w m 11 #[.val (.ref w), .val (.ref ds), .val (.int (3 : Int32)), .val (.int (2 : Int32))] [(.long rc3_v10_3), (.ref w)])) rfl (by rw [hml]; rfl) (Steps.refl _) (a := w) qrc33 qrc33' (argsL := [(.long rc3_v10_3)]) (rest := []) (lenOf own_pd_28J29V rfl) rfl (by show 2 * 1 + _ ≤ _; exact Nat.le_of_eq rfl) (hb hby own_d7_11) (fun _ _ => ⟨rfl, rfl, (by decide : 2 + 1 ≤ _), (by decide : 256 + 128 ≤ _)⟩)
  dsimp only [Pt.U, Pt.locs, Pt.cells, Pt.slots] at Xrc33 lrc33 yrc33 zrc33 strc33 hQrc33
  rw [lrc33, yrc33, zrc33] at Xrc33
  obtain ⟨rfl, Nrc33q, Krc33, asrc33, Hrc33, Qrc33⟩ := hQrc33
  have Zrc33 : n0 ≤ Trc33.heap.size := Nat.le_trans Zrc32 Krc33.1
  have V_ds_rc33 := V_ds_rc32.keep Krc33 (own_nin3 ne_ds_w ne_ds_rg lt_ds GArc32)
  have GArc33 : ∀ x ∈ asrc33, h0.size ≤ x := fun x hx => (Qrc33 x hx).elim (GArc32 x) (fun z => Nat.le_trans KKrc32.1 z)
  have KKrc33 := KKrc32.trans Krc33 (own_in3 GArc32)
  have Grc33 : own_G n0 w rg asrc33 := ⟨Grc32.1, Grc32.2.1, fun x hx => Nat.le_trans Z0 (GArc33 x hx)⟩
  have Nrc33 := Fr.app Nrc32 Nrc33q
  obtain ⟨V, hr, hrun, hended, M1, KM1, hW, hsame⟩ := own_leaveS Xrc33 Bd.object Bd.enterable Bd.synchronized (v := none) (fun _ => rfl)
  refine ⟨V, _, pre0 _ ?_, hrun, hended, _, _, rfl, ?_, ⟨_, rfl⟩, hW, hsame.mono (by decide) (by decide)⟩
  · refine own_y_iconst X0.here hx (hb hby own_d7_0) (pc' := 1) rfl (v := (0 : Int32)) (by decide) ?_
    refine own_y_istoreN X0.here hx (hb hby own_d7_1) (pc' := 2) rfl (L' := #[.val (.ref w), .val (.ref ds), .val (.int (3 : Int32)), .val (.int (0 : Int32))]) rfl ?_
    refine own_y_iloadN X0.here hx (hb hby own_d7_2) (pc' := 3) rfl rfl ?_
    refine own_y_iloadN X0.here hx (hb hby own_d7_3) (pc' := 4) rfl rfl ?_
    refine own_y_icmpNo X0.here hx (hb hby own_d7_4) (pc' := 7) rfl (by decide) ?_
    refine own_y_aloadN X0.here hx (hb hby own_d7_7) (pc' := 8) rfl rfl rfl ?_
    refine own_y_aloadN X0.here hx (hb hby own_d7_8) (pc' := 9) rfl rfl rfl ?_
    refine own_y_iloadN X0.here hx (hb hby own_d7_9) (pc' := 10) rfl rfl ?_
    refine own_ldJL X0 hx hZ e0 V_ds (j := (0 : Int32)) (x := rc3_v10) (by decide) rc3_hel10 (hb hby own_d7_10) (pc' := 11) rfl ?_
    refine strc31.trans ?_
    show Steps p.tables e below (Trc31.setTop (mkL w m 14 #[.val (.ref w), .val (.ref ds), .val (.int (3 : Int32)), .val (.int (0 : Int32))] [])) _
    refine own_y_iinc Xrc31.here hx (hb hby own_d7_14) (pc' := 17) rfl rfl (v := (1 : Int32)) (by decide) (L' := #[.val (.ref w), .val (.ref ds), .val (.int (3 : Int32)), .val (.int (1 : Int32))]) rfl ?_
    refine own_y_goto Xrc31.here hx (hb hby own_d7_17) (by decide) (pc' := 2) (by decide) ?_
    refine own_y_iloadN Xrc31.here hx (hb hby own_d7_2) (pc' := 3) rfl rfl ?_
    refine own_y_iloadN Xrc31.here hx (hb hby own_d7_3) (pc' := 4) rfl rfl ?_
    refine own_y_icmpNo Xrc31.here hx (hb hby own_d7_4) (pc' := 7) rfl (by decide) ?_
    refine own_y_aloadN Xrc31.here hx (hb hby own_d7_7) (pc' := 8) rfl rfl rfl ?_
    refine own_y_aloadN Xrc31.here hx (hb hby own_d7_8) (pc' := 9) rfl rfl rfl ?_
    refine own_y_iloadN Xrc31.here hx (hb hby own_d7_9) (pc' := 10) rfl rfl ?_
    refine own_ldJL Xrc31 hx hZ rfl V_ds_rc31 (j := (1 : Int32)) (x := rc3_v10_2) (by decide) rc3_hel10_2 (hb hby own_d7_10) (pc' := 11) rfl ?_
    refine strc32.trans ?_
    show Steps p.tables e below (Trc32.setTop (mkL w m 14 #[.val (.ref w), .val (.ref ds), .val (.int (3 : Int32)), .val (.int (1 : Int32))] [])) _
    refine own_y_iinc Xrc32.here hx (hb hby own_d7_14) (pc' := 17) rfl rfl (v := (2 : Int32)) (by decide) (L' := #[.val (.ref w), .val (.ref ds), .val (.int (3 : Int32)), .val (.int (2 : Int32))]) rfl ?_
    refine own_y_goto Xrc32.here hx (hb hby own_d7_17) (by decide) (pc' := 2) (by decide) ?_
    refine own_y_iloadN Xrc32.here hx (hb hby own_d7_2) (pc' := 3) rfl rfl ?_
    refine own_y_iloadN Xrc32.here hx (hb hby own_d7_3) (pc' := 4) rfl rfl ?_
    refine own_y_icmpNo Xrc32.here hx (hb hby own_d7_4) (pc' := 7) rfl (by decide) ?_
    refine own_y_aloadN Xrc32.here hx (hb hby own_d7_7) (pc' := 8) rfl rfl rfl ?_
    refine own_y_aloadN Xrc32.here hx (hb hby own_d7_8) (pc' := 9) rfl rfl rfl ?_
    refine own_y_iloadN Xrc32.here hx (hb hby own_d7_9) (pc' := 10) rfl rfl ?_
    refine own_ldJL Xrc32 hx hZ rfl V_ds_rc32 (j := (2 : Int32)) (x := rc3_v10_3) (by decide) rc3_hel10_3 (hb hby own_d7_10) (pc' := 11) rfl ?_
    refine strc33.trans ?_
    show Steps p.tables e below (Trc33.setTop (mkL w m 14 #[.val (.ref w), .val (.ref ds), .val (.int (3 : Int32)), .val (.int (2 : Int32))] [])) _
    refine own_y_iinc Xrc33.here hx (hb hby own_d7_14) (pc' := 17) rfl rfl (v := (3 : Int32)) (by decide) (L' := #[.val (.ref w), .val (.ref ds), .val (.int (3 : Int32)), .val (.int (3 : Int32))]) rfl ?_
    refine own_y_goto Xrc33.here hx (hb hby own_d7_17) (by decide) (pc' := 2) (by decide) ?_
    refine own_y_iloadN Xrc33.here hx (hb hby own_d7_2) (pc' := 3) rfl rfl ?_
    refine own_y_iloadN Xrc33.here hx (hb hby own_d7_3) (pc' := 4) rfl rfl ?_
    refine own_y_icmpYes Xrc33.here hx (hb hby own_d7_4) (by decide) (pc' := 20) (by decide) (by decide) ?_
    exact retS0 Xrc33 hx Bd.returns (hb hby own_d7_20) hr
  · show own_QR3 Z w rg rc3_v10 rc3_v10_2 rc3_v10_3 s0.heap n0 _ V.heap _
    exact ⟨rfl, Nrc33, (own_Keep_in KM0 (by simp)).trans KKrc33 (fun x hx => Or.inl hx) |>.trans KM1 (fun x hx => Or.inl (by cases List.mem_singleton.mp hx; exact List.mem_cons_self ..)), own_unt_end U00 hsame, asrc33, Hrc33.mon M1, fun x hx => Nat.le_trans KM0.1 (GArc33 x hx)⟩
def own_QS (Z : State) (w : Addr) (cnt : Int64) (mean : UInt64) (mx : Int64) (h0 : Heap) (n0 : Nat) (v : Option Value) (h : Heap) (L : List Loc) : Prop := ∃ b : Addr, v = some (.ref b) ∧ Fr n0 L ∧ Keep h0 h [w] ∧ h0.size ≤ b ∧ Exa Z h b "millrace/PoolSnapshot$Timing" ∧ Fld Z h b "millrace/PoolSnapshot$Timing" "count" "J" (.long cnt) ∧ Fld Z h b "millrace/PoolSnapshot$Timing" "meanNanos" "D" (.double mean) ∧ Fld Z h b "millrace/PoolSnapshot$Timing" "maxNanos" "J" (.long mx)
theorem own_d14_0 : decode prog_18_method_5_code 0 = .ok (.aload_n 0, 1) := by decide +kernel
theorem own_d14_1 : decode prog_18_method_5_code 1 = .ok (.getfield 35, 3) := by decide +kernel
theorem own_d14_4 : decode prog_18_method_5_code 4 = .ok (.lconst 0, 1) := by decide +kernel
theorem own_d14_5 : decode prog_18_method_5_code 5 = .ok (.lcmp, 1) := by decide +kernel
theorem own_d14_6 : decode prog_18_method_5_code 6 = .ok (.ifCond .ne 17, 3) := by decide +kernel
theorem own_d14_9 : decode prog_18_method_5_code 9 = .ok (.new 45, 3) := by decide +kernel
theorem own_d14_12 : decode prog_18_method_5_code 12 = .ok (.dup, 1) := by decide +kernel
theorem own_d14_13 : decode prog_18_method_5_code 13 = .ok (.lconst 0, 1) := by decide +kernel
theorem own_d14_14 : decode prog_18_method_5_code 14 = .ok (.dconst 0, 1) := by decide +kernel
theorem own_d14_15 : decode prog_18_method_5_code 15 = .ok (.lconst 0, 1) := by decide +kernel
theorem own_d14_16 : decode prog_18_method_5_code 16 = .ok (.lconst 0, 1) := by decide +kernel
theorem own_d14_17 : decode prog_18_method_5_code 17 = .ok (.lconst 0, 1) := by decide +kernel
theorem own_d14_18 : decode prog_18_method_5_code 18 = .ok (.lconst 0, 1) := by decide +kernel
theorem own_pd_28JDJJJJ29V : parseMethodDescriptor "(JDJJJJ)V" = some ⟨[.long, .double, .long, .long, .long, .long], none⟩ := by decide +kernel
theorem own_d14_19 : decode prog_18_method_5_code 19 = .ok (.invokespecial 47, 3) := by decide +kernel
theorem own_d14_22 : decode prog_18_method_5_code 22 = .ok (.areturn, 1) := by decide +kernel
set_option maxRecDepth 65536 in
set_option maxHeartbeats 40000000 in
theorem own_rm_sum0 (l : Launch) (Z : State) (a0 : Array Value) (hw : ∀ d ∈ tables_1, d.before a0 Z = true) {ws : List Jvm.Cond} (hin : Jvm.Cond.instanceMethod (⟨"millrace/DurationHistogram", "summary", "()Lmillrace/PoolSnapshot$Timing;"⟩ : MethodName) ∈ ws) (w rg : Addr) (as : List Addr) (t : Nat) (sm : UInt64) (mx : Int64)  (h00 : Heap) (n0 : Nat) (Z00 : n0 ≤ h00.size) (H00 : own_Hist Z h00 w rg as t 0 sm mx) (U00 : Unt h00 w)  :
    MetFree l (⟨"millrace/DurationHistogram", "summary", "()Lmillrace/PoolSnapshot$Timing;"⟩ : MethodName) (head1 (Jvm.Cond.codeSync (⟨"millrace/DurationHistogram", "summary", "()Lmillrace/PoolSnapshot$Timing;"⟩ : MethodName) prog_18_method_5_code 1 (some (.object "millrace/PoolSnapshot$Timing")) :: ws) ({ frames := 3, cells := 1, slots := 6, locals := 51 } : Room)) (fun a U => a = #[(.ref w)] ∧ Z.Warmed39 U.vm ∧ U.heap = h00 ∧ ∃ cell : Cell, h00[w]? = some cell ∧ cell.enterable U.cur) (fun _ _ _ _ _ => True) (fun _ U o U' => ∃ v L, o = .returned v ∧ own_QS Z w 0 0 0 h00 n0 v U'.heap L ∧ FrameEnd U o U' L ({ frames := 3, cells := 1, slots := 6, locals := 51 } : Room).cells ({ frames := 3, cells := 1, slots := 6, locals := 51 } : Room).slots) := by
  refine MetFree.of_bodySync (plainFor_of_name own_pn_millrace_DurationHistogram) (hisS hin) (fun _ s _ ⟨h1, _, h2, cl, h3, h4⟩ => ⟨w, cl, by rw [h1]; rfl, by rw [h2]; exact h3, h4⟩) ?_
  intro p e s0 m args below meth c a' cell s₁ Bd hml0 hP _
  obtain ⟨rfl, hZ0, hh0, -⟩ := hP
  cases Bd.receiver
  subst hh0
  have hx := Bd.exec
  have hby : c.code = prog_18_method_5_code := Bd.bytes
  have hml : c.maxLocals = 1 := hml0
  have X0 : Stand p l e ({ frames := 3, cells := 1, slots := 6, locals := 51 } : Room) (s0.setCell w (cell.withEntry s0.cur)) m #[(.ref w)] below meth c s₁ [] 0 0 := Stand.of_bodySync Bd
  have hZ : Z.Warmed39 (s0.setCell w (cell.withEntry s0.cur)).vm := hZ0
  have hown : (s0.setCell w (cell.withEntry s0.cur)).vm.findClass "millrace/DurationHistogram" = some m.cls := (findClass_of_methodNamed Bd.named :)
  have M0 : Mon s0.heap s₁.heap := by rw [Bd.state]; exact mon_set Bd.object _
  have KM0 : Keep s0.heap s₁.heap [w] := by rw [Bd.state]; exact own_keep_set Bd.object _
  obtain ⟨h0, e0⟩ : ∃ h, s₁.heap = h := ⟨_, rfl⟩
  rw [e0] at M0 KM0
  have Z0 : n0 ≤ h0.size := Nat.le_trans Z00 KM0.1
  have N0 := Fr.nil n0
  have pre0 : ∀ t, Steps p.tables e below (s₁.setTop (mkL w m 0 #[.val (.ref w)] [])) t → Steps p.tables e below (s₁.setTop (entryFrameSync m #[(.ref w)] 1 w)) t := fun t k => k
  have H0 := H00.mon M0
  have E_w := H0.exa
  have F_count_w := H0.fc
  obtain ⟨Tsm01, Xsm01, esm01, stsm01⟩ := getF X0 hx hZ hown (host := "") (Or.inl (hw _ (List.mem_of_getElem? (i := 73) rfl))) Via.refl e0 F_count_w (g := (mkL w m 1 #[.val (.ref w)] [(.ref w)])) rfl rfl (hb hby own_d14_1)
  obtain ⟨Tsm02, hsm02, Xsm02, esm02, Esm02, Asm02, Dsm02, UTsm02, stsm02⟩ := newO Xsm01 hx hZ hown (hw _ (List.mem_of_getElem? (i := 84) rfl)) (hw _ (List.mem_of_getElem? (i := 85) rfl)) (hw _ (List.mem_of_getElem? (i := 86) rfl)) esm01 (g := (mkL w m 9 #[.val (.ref w)] [])) rfl (hb hby own_d14_9) (by decide) (by decide)
  obtain ⟨bsm02, Gsm02⟩ : ∃ z, z = h0.size := ⟨_, rfl⟩
  rw [← Gsm02] at Asm02 Dsm02 UTsm02 stsm02
  have ne_w_bsm02 : w ≠ bsm02 := Nat.ne_of_lt (Nat.lt_of_lt_of_le E_w.lt (Nat.le_of_eq Gsm02.symm))
  have ne_bsm02_w : bsm02 ≠ w := Ne.symm ne_w_bsm02
  have g_bsm02 : n0 ≤ bsm02 := Nat.le_trans Z0 (Nat.le_of_eq Gsm02.symm)
  have sz_bsm02 : h0.size ≤ bsm02 := Nat.le_trans (Keep.refl h0 []).1 (Nat.le_of_eq Gsm02.symm)
  have E_w_sm02 := E_w.ext Esm02
  have F_count_w_sm02 := F_count_w.ext Esm02
  have Zsm02 : n0 ≤ hsm02.size := Nat.le_trans Z0 Esm02.1
  have KKsm02 := (Keep.refl h0 []).ext Esm02
  have F_count_bsm02 : Fld Z hsm02 bsm02 "millrace/PoolSnapshot$Timing" "count" "J" (.long (0 : Int64)) := Dsm02 (Or.inr (hw _ (List.mem_of_getElem? (i := 109) rfl))) (ty := .long) (by decide)
  have F_meanNanos_bsm02 : Fld Z hsm02 bsm02 "millrace/PoolSnapshot$Timing" "meanNanos" "D" (.double 0) := Dsm02 (Or.inr (hw _ (List.mem_of_getElem? (i := 111) rfl))) (ty := .double) (by decide)
  have F_p50Nanos_bsm02 : Fld Z hsm02 bsm02 "millrace/PoolSnapshot$Timing" "p50Nanos" "J" (.long (0 : Int64)) := Dsm02 (Or.inr (hw _ (List.mem_of_getElem? (i := 113) rfl))) (ty := .long) (by decide)
  have F_p95Nanos_bsm02 : Fld Z hsm02 bsm02 "millrace/PoolSnapshot$Timing" "p95Nanos" "J" (.long (0 : Int64)) := Dsm02 (Or.inr (hw _ (List.mem_of_getElem? (i := 115) rfl))) (ty := .long) (by decide)
  have F_p99Nanos_bsm02 : Fld Z hsm02 bsm02 "millrace/PoolSnapshot$Timing" "p99Nanos" "J" (.long (0 : Int64)) := Dsm02 (Or.inr (hw _ (List.mem_of_getElem? (i := 117) rfl))) (ty := .long) (by decide)
  have F_maxNanos_bsm02 : Fld Z hsm02 bsm02 "millrace/PoolSnapshot$Timing" "maxNanos" "J" (.long (0 : Int64)) := Dsm02 (Or.inr (hw _ (List.mem_of_getElem? (i := 119) rfl))) (ty := .long) (by decide)
  obtain ⟨_, _, ⟨Tsm03, Lsm03, ksm03, nsm03⟩, -, Xsm03, ⟨Lcsm03, hQsm03, lsm03, ysm03, zsm03⟩, stsm03⟩ := Xsm02.specialBack hx (y := (⟨"millrace/PoolSnapshot$Timing", "<init>", "(JDJJJJ)V"⟩ : MethodName)) rfl hown (mvT hZ (hw _ (List.mem_of_getElem? (i := 99) rfl))) (mvT hZ (hw _ (List.mem_of_getElem? (i := 100) rfl))) (mvT hZ (hw _ (List.mem_of_getElem? (i := 101) rfl))) (by decide) (backOf (W := 3) (own_rm_tmi l Z a0 hw [] bsm02 (0 : Int64) 0 (0 : Int64) (0 : Int64) (0 : Int64) (0 : Int64) hsm02 n0 Zsm02 Asm02 F_count_bsm02 F_meanNanos_bsm02 F_p50Nanos_bsm02 F_p95Nanos_bsm02 F_p99Nanos_bsm02 F_maxNanos_bsm02 g_bsm02) hZ (hw _ (List.mem_of_getElem? (i := 101) rfl)) (hw _ (List.mem_of_getElem? (i := 86) rfl)) (by decide) (by decide)) (g := (mkL w m 19 #[.val (.ref w)] [(.long (0 : Int64)), (.long (0 : Int64)), (.long (0 : Int64)), (.long (0 : Int64)), (.double 0), (.long (0 : Int64)), (.ref bsm02), (.ref bsm02)])) rfl (by rw [hml]; rfl) (Steps.refl _) (a := bsm02) (argsL := [(.long (0 : Int64)), (.double 0), (.long (0 : Int64)), (.long (0 : Int64)), (.long (0 : Int64)), (.long (0 : Int64))]) (rest := [(.ref bsm02)]) (lenOf own_pd_28JDJJJJ29V rfl) rfl (by show 2 * 1 + _ ≤ _; exact Nat.le_of_eq rfl) (hb hby own_d14_19) (fun _ _ => ⟨rfl, esm02, (by decide : 1 + 0 ≤ _), (by decide : 6 + 0 ≤ _)⟩)
  dsimp only [Pt.U, Pt.locs, Pt.cells, Pt.slots] at Xsm03 lsm03 ysm03 zsm03 stsm03 hQsm03
  rw [lsm03, ysm03, zsm03] at Xsm03
  obtain ⟨rfl, Nsm03q, Ksm03, qsm03_0, qsm03_1, qsm03_2, qsm03_3, qsm03_4, qsm03_5, qsm03_6⟩ := hQsm03
  have E_w_sm03 := E_w_sm02.keep Ksm03
  have F_count_w_sm03 := F_count_w_sm02.keep Ksm03 (by simp only [List.mem_cons, List.not_mem_nil, or_false, not_or]; exact ne_w_bsm02)
  have Zsm03 : n0 ≤ Tsm03.heap.size := Nat.le_trans Zsm02 Ksm03.1
  have KKsm03 := KKsm02.trans Ksm03 (fun q hq => by simp only [List.mem_cons, List.not_mem_nil, or_false] at hq; rcases hq with rfl; exact Or.inr sz_bsm02)
  have Nsm03 := Fr.app N0 Nsm03q
  obtain ⟨V, hr, hrun, hended, M1, KM1, hW, hsame⟩ := own_leaveS Xsm03 Bd.object Bd.enterable Bd.synchronized (v := some (.ref bsm02)) (fun h => by rw [Bd.returns] at h; cases h)
  refine ⟨V, _, pre0 _ ?_, hrun, hended, _, _, rfl, ?_, ⟨_, rfl⟩, hW, hsame.mono (by decide) (by decide)⟩
  · refine own_y_aloadN X0.here hx (hb hby own_d14_0) (pc' := 1) rfl rfl rfl ?_
    refine stsm01 _ ?_
    show Steps p.tables e below (Tsm01.setTop (mkL w m 4 #[.val (.ref w)] [(.long (0 : Int64))])) _
    refine own_y_lconst Xsm01.here hx (hb hby own_d14_4) (pc' := 5) rfl (v := (0 : Int64)) (by decide) ?_
    refine own_y_lcmp Xsm01.here hx (hb hby own_d14_5) (pc' := 6) rfl (v := (0 : Int32)) (by decide) ?_
    refine own_y_ifNo Xsm01.here hx (hb hby own_d14_6) (pc' := 9) rfl (by decide) ?_
    refine stsm02 _ ?_
    show Steps p.tables e below (Tsm02.setTop (mkL w m 12 #[.val (.ref w)] [(.ref bsm02)])) _
    refine own_y_dup Xsm02.here hx (hb hby own_d14_12) (pc' := 13) rfl rfl ?_
    refine own_y_lconst Xsm02.here hx (hb hby own_d14_13) (pc' := 14) rfl (v := (0 : Int64)) (by decide) ?_
    refine own_y_dconst0 Xsm02.here hx (hb hby own_d14_14) (pc' := 15) rfl  ?_
    refine own_y_lconst Xsm02.here hx (hb hby own_d14_15) (pc' := 16) rfl (v := (0 : Int64)) (by decide) ?_
    refine own_y_lconst Xsm02.here hx (hb hby own_d14_16) (pc' := 17) rfl (v := (0 : Int64)) (by decide) ?_
    refine own_y_lconst Xsm02.here hx (hb hby own_d14_17) (pc' := 18) rfl (v := (0 : Int64)) (by decide) ?_
    refine own_y_lconst Xsm02.here hx (hb hby own_d14_18) (pc' := 19) rfl (v := (0 : Int64)) (by decide) ?_
    refine stsm03.trans ?_
    show Steps p.tables e below (Tsm03.setTop (mkL w m 22 #[.val (.ref w)] [(.ref bsm02)])) _
    exact retS Xsm03 hx Bd.returns rfl (Or.inr (Or.inr (Or.inr (Or.inr ⟨rfl, rfl, rfl⟩)))) (hb hby own_d14_22) hr
  · show own_QS Z w 0 0 0 s0.heap n0 _ V.heap _
    exact ⟨bsm02, rfl, Nsm03, (KM0.trans KKsm03 (fun _ q => nomatch q)).trans KM1 (fun x hx => Or.inl hx), Nat.le_trans KM0.1 sz_bsm02, qsm03_0.mon M1, qsm03_1.mon M1, qsm03_2.mon M1, qsm03_6.mon M1⟩
theorem own_d14_23 : decode prog_18_method_5_code 23 = .ok (.new 45, 3) := by decide +kernel
theorem own_d14_26 : decode prog_18_method_5_code 26 = .ok (.dup, 1) := by decide +kernel
theorem own_d14_27 : decode prog_18_method_5_code 27 = .ok (.aload_n 0, 1) := by decide +kernel
theorem own_d14_28 : decode prog_18_method_5_code 28 = .ok (.getfield 35, 3) := by decide +kernel
theorem own_d14_31 : decode prog_18_method_5_code 31 = .ok (.aload_n 0, 1) := by decide +kernel
theorem own_d14_32 : decode prog_18_method_5_code 32 = .ok (.getfield 39, 3) := by decide +kernel
theorem own_d14_35 : decode prog_18_method_5_code 35 = .ok (.aload_n 0, 1) := by decide +kernel
theorem own_d14_36 : decode prog_18_method_5_code 36 = .ok (.getfield 35, 3) := by decide +kernel
theorem own_d14_39 : decode prog_18_method_5_code 39 = .ok (.l2d, 1) := by decide +kernel
theorem own_d14_40 : decode prog_18_method_5_code 40 = .ok (.ddiv, 1) := by decide +kernel
theorem own_d14_41 : decode prog_18_method_5_code 41 = .ok (.aload_n 0, 1) := by decide +kernel
theorem own_d14_42 : decode prog_18_method_5_code 42 = .ok (.bipush 50, 2) := by decide +kernel
theorem own_pd_28I29J : parseMethodDescriptor "(I)J" = some ⟨[.int], some .long⟩ := by decide +kernel
theorem own_d14_44 : decode prog_18_method_5_code 44 = .ok (.invokevirtual 50, 3) := by decide +kernel
theorem own_d14_47 : decode prog_18_method_5_code 47 = .ok (.aload_n 0, 1) := by decide +kernel
theorem own_d14_48 : decode prog_18_method_5_code 48 = .ok (.bipush 95, 2) := by decide +kernel
theorem own_d14_50 : decode prog_18_method_5_code 50 = .ok (.invokevirtual 50, 3) := by decide +kernel
theorem own_d14_53 : decode prog_18_method_5_code 53 = .ok (.aload_n 0, 1) := by decide +kernel
theorem own_d14_54 : decode prog_18_method_5_code 54 = .ok (.bipush 99, 2) := by decide +kernel
theorem own_d14_56 : decode prog_18_method_5_code 56 = .ok (.invokevirtual 50, 3) := by decide +kernel
theorem own_d14_59 : decode prog_18_method_5_code 59 = .ok (.aload_n 0, 1) := by decide +kernel
theorem own_d14_60 : decode prog_18_method_5_code 60 = .ok (.getfield 43, 3) := by decide +kernel
theorem own_d14_63 : decode prog_18_method_5_code 63 = .ok (.invokespecial 47, 3) := by decide +kernel
theorem own_d14_66 : decode prog_18_method_5_code 66 = .ok (.areturn, 1) := by decide +kernel
set_option maxRecDepth 65536 in
set_option maxHeartbeats 40000000 in
theorem own_rm_sumN (l : Launch) (Z : State) (a0 : Array Value) (hw : ∀ d ∈ tables_1, d.before a0 Z = true) {ws : List Jvm.Cond} (hin : Jvm.Cond.instanceMethod (⟨"millrace/DurationHistogram", "summary", "()Lmillrace/PoolSnapshot$Timing;"⟩ : MethodName) ∈ ws) (w rg : Addr) (as : List Addr) (t : Nat) (cnt : Int64) (sm : UInt64) (mx : Int64) {smn_v40 : UInt64} (h00 : Heap) (n0 : Nat) (Z00 : n0 ≤ h00.size) (H00 : own_Hist Z h00 w rg as t cnt sm mx) (U00 : Unt h00 w) (smn_hb6 : ifCond.holds .ne (lcmpW cnt (0 : Int64)) = true) (ht : t < 4611686018427387904) (smn_hn40 : Jvm.Free.Fl.NoNaN64 (FP.ddiv sm (FP.l2d cnt))) (smn_hv40 : FP.ddiv sm (FP.l2d cnt) = smn_v40) (smn_hr044 : 0 < (own_rank cnt (50 : Int32)).toInt) (smn_hr144 : (own_rank cnt (50 : Int32)).toInt ≤ (t : Int)) (smn_hr050 : 0 < (own_rank cnt (95 : Int32)).toInt) (smn_hr150 : (own_rank cnt (95 : Int32)).toInt ≤ (t : Int)) (smn_hr056 : 0 < (own_rank cnt (99 : Int32)).toInt) (smn_hr156 : (own_rank cnt (99 : Int32)).toInt ≤ (t : Int)) :
    MetFree l (⟨"millrace/DurationHistogram", "summary", "()Lmillrace/PoolSnapshot$Timing;"⟩ : MethodName) (head1 (Jvm.Cond.codeSync (⟨"millrace/DurationHistogram", "summary", "()Lmillrace/PoolSnapshot$Timing;"⟩ : MethodName) prog_18_method_5_code 1 (some (.object "millrace/PoolSnapshot$Timing")) :: ws) ({ frames := 3, cells := 1, slots := 6, locals := 51 } : Room)) (fun a U => a = #[(.ref w)] ∧ Z.Warmed39 U.vm ∧ U.heap = h00 ∧ ∃ cell : Cell, h00[w]? = some cell ∧ cell.enterable U.cur) (fun _ _ _ _ _ => True) (fun _ U o U' => ∃ v L, o = .returned v ∧ own_QS Z w cnt smn_v40 mx h00 n0 v U'.heap L ∧ FrameEnd U o U' L ({ frames := 3, cells := 1, slots := 6, locals := 51 } : Room).cells ({ frames := 3, cells := 1, slots := 6, locals := 51 } : Room).slots) := by
  refine MetFree.of_bodySync (plainFor_of_name own_pn_millrace_DurationHistogram) (hisS hin) (fun _ s _ ⟨h1, _, h2, cl, h3, h4⟩ => ⟨w, cl, by rw [h1]; rfl, by rw [h2]; exact h3, h4⟩) ?_
  intro p e s0 m args below meth c a' cell s₁ Bd hml0 hP _
  obtain ⟨rfl, hZ0, hh0, -⟩ := hP
  cases Bd.receiver
  subst hh0
  have hx := Bd.exec
  have hby : c.code = prog_18_method_5_code := Bd.bytes
  have hml : c.maxLocals = 1 := hml0
  have X0 : Stand p l e ({ frames := 3, cells := 1, slots := 6, locals := 51 } : Room) (s0.setCell w (cell.withEntry s0.cur)) m #[(.ref w)] below meth c s₁ [] 0 0 := Stand.of_bodySync Bd
  have hZ : Z.Warmed39 (s0.setCell w (cell.withEntry s0.cur)).vm := hZ0
  have hown : (s0.setCell w (cell.withEntry s0.cur)).vm.findClass "millrace/DurationHistogram" = some m.cls := (findClass_of_methodNamed Bd.named :)
  have M0 : Mon s0.heap s₁.heap := by rw [Bd.state]; exact mon_set Bd.object _
  have KM0 : Keep s0.heap s₁.heap [w] := by rw [Bd.state]; exact own_keep_set Bd.object _
  obtain ⟨h0, e0⟩ : ∃ h, s₁.heap = h := ⟨_, rfl⟩
  rw [e0] at M0 KM0
  have Z0 : n0 ≤ h0.size := Nat.le_trans Z00 KM0.1
  have N0 := Fr.nil n0
  have pre0 : ∀ t, Steps p.tables e below (s₁.setTop (mkL w m 0 #[.val (.ref w)] [])) t → Steps p.tables e below (s₁.setTop (entryFrameSync m #[(.ref w)] 1 w)) t := fun t k => k
  have H0 := H00.mon M0
  have E_w := H0.exa
  have F_count_w := H0.fc
  obtain ⟨rgk, rvs, V_rg, O_rg, hl, BK⟩ := H0.bk
  have F_ranges_w := H0.fr
  have F_sum_w := H0.fs
  have F_max_w := H0.fm
  have ne_w_rg := H0.n1
  obtain ⟨Tsmn1, Xsmn1, esmn1, stsmn1⟩ := getF X0 hx hZ hown (host := "") (Or.inl (hw _ (List.mem_of_getElem? (i := 73) rfl))) Via.refl e0 F_count_w (g := (mkL w m 1 #[.val (.ref w)] [(.ref w)])) rfl rfl (hb hby own_d14_1)
  obtain ⟨Tsmn2, hsmn2, Xsmn2, esmn2, Esmn2, Asmn2, Dsmn2, UTsmn2, stsmn2⟩ := newO Xsmn1 hx hZ hown (hw _ (List.mem_of_getElem? (i := 84) rfl)) (hw _ (List.mem_of_getElem? (i := 85) rfl)) (hw _ (List.mem_of_getElem? (i := 86) rfl)) esmn1 (g := (mkL w m 23 #[.val (.ref w)] [])) rfl (hb hby own_d14_23) (by decide) (by decide)
  obtain ⟨bsmn2, Gsmn2⟩ : ∃ z, z = h0.size := ⟨_, rfl⟩
  rw [← Gsmn2] at Asmn2 Dsmn2 UTsmn2 stsmn2
  have ne_rg_bsmn2 : rg ≠ bsmn2 := Nat.ne_of_lt (Nat.lt_of_lt_of_le V_rg.lt (Nat.le_of_eq Gsmn2.symm))
  have ne_bsmn2_rg : bsmn2 ≠ rg := Ne.symm ne_rg_bsmn2
  have ne_w_bsmn2 : w ≠ bsmn2 := Nat.ne_of_lt (Nat.lt_of_lt_of_le E_w.lt (Nat.le_of_eq Gsmn2.symm))
  have ne_bsmn2_w : bsmn2 ≠ w := Ne.symm ne_w_bsmn2
  have g_bsmn2 : n0 ≤ bsmn2 := Nat.le_trans Z0 (Nat.le_of_eq Gsmn2.symm)
  have sz_bsmn2 : h0.size ≤ bsmn2 := Nat.le_trans (Keep.refl h0 []).1 (Nat.le_of_eq Gsmn2.symm)
  have V_rg_smn2 := V_rg.ext Esmn2
  have E_w_smn2 := E_w.ext Esmn2
  have F_ranges_w_smn2 := F_ranges_w.ext Esmn2
  have F_count_w_smn2 := F_count_w.ext Esmn2
  have F_sum_w_smn2 := F_sum_w.ext Esmn2
  have F_max_w_smn2 := F_max_w.ext Esmn2
  have Zsmn2 : n0 ≤ hsmn2.size := Nat.le_trans Z0 Esmn2.1
  have KKsmn2 := (Keep.refl h0 []).ext Esmn2
  have F_count_bsmn2 : Fld Z hsmn2 bsmn2 "millrace/PoolSnapshot$Timing" "count" "J" (.long (0 : Int64)) := Dsmn2 (Or.inr (hw _ (List.mem_of_getElem? (i := 109) rfl))) (ty := .long) (by decide)
  have F_meanNanos_bsmn2 : Fld Z hsmn2 bsmn2 "millrace/PoolSnapshot$Timing" "meanNanos" "D" (.double 0) := Dsmn2 (Or.inr (hw _ (List.mem_of_getElem? (i := 111) rfl))) (ty := .double) (by decide)
  have F_p50Nanos_bsmn2 : Fld Z hsmn2 bsmn2 "millrace/PoolSnapshot$Timing" "p50Nanos" "J" (.long (0 : Int64)) := Dsmn2 (Or.inr (hw _ (List.mem_of_getElem? (i := 113) rfl))) (ty := .long) (by decide)
  have F_p95Nanos_bsmn2 : Fld Z hsmn2 bsmn2 "millrace/PoolSnapshot$Timing" "p95Nanos" "J" (.long (0 : Int64)) := Dsmn2 (Or.inr (hw _ (List.mem_of_getElem? (i := 115) rfl))) (ty := .long) (by decide)
  have F_p99Nanos_bsmn2 : Fld Z hsmn2 bsmn2 "millrace/PoolSnapshot$Timing" "p99Nanos" "J" (.long (0 : Int64)) := Dsmn2 (Or.inr (hw _ (List.mem_of_getElem? (i := 117) rfl))) (ty := .long) (by decide)
  have F_maxNanos_bsmn2 : Fld Z hsmn2 bsmn2 "millrace/PoolSnapshot$Timing" "maxNanos" "J" (.long (0 : Int64)) := Dsmn2 (Or.inr (hw _ (List.mem_of_getElem? (i := 119) rfl))) (ty := .long) (by decide)
  have BK1 := BK.map (fun _ _ _ _ A => A.ext Esmn2)
  obtain ⟨Tsmn3, Xsmn3, esmn3, stsmn3⟩ := getF Xsmn2 hx hZ hown (host := "") (Or.inl (hw _ (List.mem_of_getElem? (i := 73) rfl))) Via.refl esmn2 F_count_w_smn2 (g := (mkL w m 28 #[.val (.ref w)] [(.ref w), (.ref bsmn2), (.ref bsmn2)])) rfl rfl (hb hby own_d14_28)
  obtain ⟨Tsmn4, Xsmn4, esmn4, stsmn4⟩ := getF Xsmn3 hx hZ hown (host := "") (Or.inl (hw _ (List.mem_of_getElem? (i := 75) rfl))) Via.refl esmn3 F_sum_w_smn2 (g := (mkL w m 32 #[.val (.ref w)] [(.ref w), (.long cnt), (.ref bsmn2), (.ref bsmn2)])) rfl rfl (hb hby own_d14_32)
  obtain ⟨Tsmn5, Xsmn5, esmn5, stsmn5⟩ := getF Xsmn4 hx hZ hown (host := "") (Or.inl (hw _ (List.mem_of_getElem? (i := 73) rfl))) Via.refl esmn4 F_count_w_smn2 (g := (mkL w m 36 #[.val (.ref w)] [(.ref w), (.double sm), (.long cnt), (.ref bsmn2), (.ref bsmn2)])) rfl rfl (hb hby own_d14_36)
  obtain ⟨cqsmn6, qsmn6, qsmn6'⟩ := E_w_smn2.cell
  obtain ⟨_, _, ⟨Tsmn6, Lsmn6, ksmn6, nsmn6⟩, -, Xsmn6, ⟨Lcsmn6, hQsmn6, lsmn6, ysmn6, zsmn6⟩, stsmn6⟩ := Xsmn5.privateBack hx (y := (⟨"millrace/DurationHistogram", "percentile", "(I)J"⟩ : MethodName)) hown (mvT hZ (hw _ (List.mem_of_getElem? (i := 87) rfl))) (mvT hZ (hw _ (List.mem_of_getElem? (i := 88) rfl))) (own_selP (y := (⟨"millrace/DurationHistogram", "percentile", "(I)J"⟩ : MethodName)) (y' := (⟨"millrace/DurationHistogram", "record", "([JI)V"⟩ : MethodName)) rfl (mvT hZ (hw _ (List.mem_of_getElem? (i := 47) rfl))) (Cond.privateMethod_at (mvP hZ (hw _ (List.mem_of_getElem? (i := 89) rfl)) (args := #[]))) (mvT hZ (hw _ (List.mem_of_getElem? (i := 88) rfl))) (by decide)) (Cond.privateMethod_at (mvP hZ (hw _ (List.mem_of_getElem? (i := 89) rfl)) (args := #[]))) (mvT hZ (hw _ (List.mem_of_getElem? (i := 90) rfl))) (by decide) (backOf (W := 8) (own_rm_pct l Z a0 hw [] w rg cnt sm mx (50 : Int32) rvs as t hsmn2 n0 Zsmn2 E_w_smn2 F_ranges_w_smn2 F_count_w_smn2 F_sum_w_smn2 F_max_w_smn2 V_rg_smn2 O_rg hl BK1 ht smn_hr044 smn_hr144) hZ (hw _ (List.mem_of_getElem? (i := 90) rfl)) (hw _ (List.mem_of_getElem? (i := 30) rfl)) (by decide) (by decide)) (g := (mkL w m 44 #[.val (.ref w)] [(.int (50 : Int32)), (.ref w), (.double smn_v40), (.long cnt), (.ref bsmn2), (.ref bsmn2)])) rfl (by rw [hml]; rfl) (Steps.refl _) (a := w) (by rw [esmn5]; exact qsmn6) qsmn6' (argsL := [(.int (50 : Int32))]) (rest := [(.double smn_v40), (.long cnt), (.ref bsmn2), (.ref bsmn2)]) (lenOf own_pd_28I29J rfl) rfl (by show 2 * 1 + _ ≤ _; exact Nat.le_of_eq rfl) (hb hby own_d14_44) (fun _ _ => ⟨rfl, esmn5, (by decide : 1 + 0 ≤ _), (by decide : 6 + 0 ≤ _)⟩)
  dsimp only [Pt.U, Pt.locs, Pt.cells, Pt.slots] at Xsmn6 lsmn6 ysmn6 zsmn6 stsmn6 hQsmn6
  rw [lsmn6, ysmn6, zsmn6] at Xsmn6
  obtain ⟨rsmn6, rfl, Nsmn6q, esmn6⟩ := hQsmn6
  have Nsmn6 := Fr.app N0 Nsmn6q
  obtain ⟨cqsmn7, qsmn7, qsmn7'⟩ := E_w_smn2.cell
  obtain ⟨_, _, ⟨Tsmn7, Lsmn7, ksmn7, nsmn7⟩, -, Xsmn7, ⟨Lcsmn7, hQsmn7, lsmn7, ysmn7, zsmn7⟩, stsmn7⟩ := Xsmn6.privateBack hx (y := (⟨"millrace/DurationHistogram", "percentile", "(I)J"⟩ : MethodName)) hown (mvT hZ (hw _ (List.mem_of_getElem? (i := 87) rfl))) (mvT hZ (hw _ (List.mem_of_getElem? (i := 88) rfl))) (own_selP (y := (⟨"millrace/DurationHistogram", "percentile", "(I)J"⟩ : MethodName)) (y' := (⟨"millrace/DurationHistogram", "record", "([JI)V"⟩ : MethodName)) rfl (mvT hZ (hw _ (List.mem_of_getElem? (i := 47) rfl))) (Cond.privateMethod_at (mvP hZ (hw _ (List.mem_of_getElem? (i := 89) rfl)) (args := #[]))) (mvT hZ (hw _ (List.mem_of_getElem? (i := 88) rfl))) (by decide)) (Cond.privateMethod_at (mvP hZ (hw _ (List.mem_of_getElem? (i := 89) rfl)) (args := #[]))) (mvT hZ (hw _ (List.mem_of_getElem? (i := 90) rfl))) (by decide) (backOf (W := 10) (own_rm_pct l Z a0 hw [] w rg cnt sm mx (95 : Int32) rvs as t hsmn2 n0 Zsmn2 E_w_smn2 F_ranges_w_smn2 F_count_w_smn2 F_sum_w_smn2 F_max_w_smn2 V_rg_smn2 O_rg hl BK1 ht smn_hr050 smn_hr150) hZ (hw _ (List.mem_of_getElem? (i := 90) rfl)) (hw _ (List.mem_of_getElem? (i := 30) rfl)) (by decide) (by decide)) (g := (mkL w m 50 #[.val (.ref w)] [(.int (95 : Int32)), (.ref w), (.long rsmn6), (.double smn_v40), (.long cnt), (.ref bsmn2), (.ref bsmn2)])) rfl (by rw [hml]; rfl) (Steps.refl _) (a := w) (by rw [esmn6]; exact qsmn7) qsmn7' (argsL := [(.int (95 : Int32))]) (rest := [(.long rsmn6), (.double smn_v40), (.long cnt), (.ref bsmn2), (.ref bsmn2)]) (lenOf own_pd_28I29J rfl) rfl (by show 2 * 1 + _ ≤ _; exact Nat.le_of_eq rfl) (hb hby own_d14_50) (fun _ _ => ⟨rfl, esmn6, (by decide : 1 + 0 ≤ _), (by decide : 6 + 0 ≤ _)⟩)
  dsimp only [Pt.U, Pt.locs, Pt.cells, Pt.slots] at Xsmn7 lsmn7 ysmn7 zsmn7 stsmn7 hQsmn7
  rw [lsmn7, ysmn7, zsmn7] at Xsmn7
  obtain ⟨rsmn7, rfl, Nsmn7q, esmn7⟩ := hQsmn7
  have Nsmn7 := Fr.app Nsmn6 Nsmn7q
  obtain ⟨cqsmn8, qsmn8, qsmn8'⟩ := E_w_smn2.cell
  obtain ⟨_, _, ⟨Tsmn8, Lsmn8, ksmn8, nsmn8⟩, -, Xsmn8, ⟨Lcsmn8, hQsmn8, lsmn8, ysmn8, zsmn8⟩, stsmn8⟩ := Xsmn7.privateBack hx (y := (⟨"millrace/DurationHistogram", "percentile", "(I)J"⟩ : MethodName)) hown (mvT hZ (hw _ (List.mem_of_getElem? (i := 87) rfl))) (mvT hZ (hw _ (List.mem_of_getElem? (i := 88) rfl))) (own_selP (y := (⟨"millrace/DurationHistogram", "percentile", "(I)J"⟩ : MethodName)) (y' := (⟨"millrace/DurationHistogram", "record", "([JI)V"⟩ : MethodName)) rfl (mvT hZ (hw _ (List.mem_of_getElem? (i := 47) rfl))) (Cond.privateMethod_at (mvP hZ (hw _ (List.mem_of_getElem? (i := 89) rfl)) (args := #[]))) (mvT hZ (hw _ (List.mem_of_getElem? (i := 88) rfl))) (by decide)) (Cond.privateMethod_at (mvP hZ (hw _ (List.mem_of_getElem? (i := 89) rfl)) (args := #[]))) (mvT hZ (hw _ (List.mem_of_getElem? (i := 90) rfl))) (by decide) (backOf (W := 12) (own_rm_pct l Z a0 hw [] w rg cnt sm mx (99 : Int32) rvs as t hsmn2 n0 Zsmn2 E_w_smn2 F_ranges_w_smn2 F_count_w_smn2 F_sum_w_smn2 F_max_w_smn2 V_rg_smn2 O_rg hl BK1 ht smn_hr056 smn_hr156) hZ (hw _ (List.mem_of_getElem? (i := 90) rfl)) (hw _ (List.mem_of_getElem? (i := 30) rfl)) (by decide) (by decide)) (g := (mkL w m 56 #[.val (.ref w)] [(.int (99 : Int32)), (.ref w), (.long rsmn7), (.long rsmn6), (.double smn_v40), (.long cnt), (.ref bsmn2), (.ref bsmn2)])) rfl (by rw [hml]; rfl) (Steps.refl _) (a := w) (by rw [esmn7]; exact qsmn8) qsmn8' (argsL := [(.int (99 : Int32))]) (rest := [(.long rsmn7), (.long rsmn6), (.double smn_v40), (.long cnt), (.ref bsmn2), (.ref bsmn2)]) (lenOf own_pd_28I29J rfl) rfl (by show 2 * 1 + _ ≤ _; exact Nat.le_of_eq rfl) (hb hby own_d14_56) (fun _ _ => ⟨rfl, esmn7, (by decide : 1 + 0 ≤ _), (by decide : 6 + 0 ≤ _)⟩)
  dsimp only [Pt.U, Pt.locs, Pt.cells, Pt.slots] at Xsmn8 lsmn8 ysmn8 zsmn8 stsmn8 hQsmn8
  rw [lsmn8, ysmn8, zsmn8] at Xsmn8
  obtain ⟨rsmn8, rfl, Nsmn8q, esmn8⟩ := hQsmn8
  have Nsmn8 := Fr.app Nsmn7 Nsmn8q
  obtain ⟨Tsmn9, Xsmn9, esmn9, stsmn9⟩ := getF Xsmn8 hx hZ hown (host := "") (Or.inl (hw _ (List.mem_of_getElem? (i := 77) rfl))) Via.refl esmn8 F_max_w_smn2 (g := (mkL w m 60 #[.val (.ref w)] [(.ref w), (.long rsmn8), (.long rsmn7), (.long rsmn6), (.double smn_v40), (.long cnt), (.ref bsmn2), (.ref bsmn2)])) rfl rfl (hb hby own_d14_60)
  obtain ⟨_, _, ⟨Tsmn10, Lsmn10, ksmn10, nsmn10⟩, -, Xsmn10, ⟨Lcsmn10, hQsmn10, lsmn10, ysmn10, zsmn10⟩, stsmn10⟩ := Xsmn9.specialBack hx (y := (⟨"millrace/PoolSnapshot$Timing", "<init>", "(JDJJJJ)V"⟩ : MethodName)) rfl hown (mvT hZ (hw _ (List.mem_of_getElem? (i := 99) rfl))) (mvT hZ (hw _ (List.mem_of_getElem? (i := 100) rfl))) (mvT hZ (hw _ (List.mem_of_getElem? (i := 101) rfl))) (by decide) (backOf (W := 3) (own_rm_tmi l Z a0 hw [] bsmn2 cnt smn_v40 rsmn6 rsmn7 rsmn8 mx hsmn2 n0 Zsmn2 Asmn2 F_count_bsmn2 F_meanNanos_bsmn2 F_p50Nanos_bsmn2 F_p95Nanos_bsmn2 F_p99Nanos_bsmn2 F_maxNanos_bsmn2 g_bsmn2) hZ (hw _ (List.mem_of_getElem? (i := 101) rfl)) (hw _ (List.mem_of_getElem? (i := 86) rfl)) (by decide) (by decide)) (g := (mkL w m 63 #[.val (.ref w)] [(.long mx), (.long rsmn8), (.long rsmn7), (.long rsmn6), (.double smn_v40), (.long cnt), (.ref bsmn2), (.ref bsmn2)])) rfl (by rw [hml]; rfl) (Steps.refl _) (a := bsmn2) (argsL := [(.long cnt), (.double smn_v40), (.long rsmn6), (.long rsmn7), (.long rsmn8), (.long mx)]) (rest := [(.ref bsmn2)]) (lenOf own_pd_28JDJJJJ29V rfl) rfl (by show 2 * 1 + _ ≤ _; exact Nat.le_of_eq rfl) (hb hby own_d14_63) (fun _ _ => ⟨rfl, esmn9, (by decide : 1 + 0 ≤ _), (by decide : 6 + 0 ≤ _)⟩)
  dsimp only [Pt.U, Pt.locs, Pt.cells, Pt.slots] at Xsmn10 lsmn10 ysmn10 zsmn10 stsmn10 hQsmn10
  rw [lsmn10, ysmn10, zsmn10] at Xsmn10
  obtain ⟨rfl, Nsmn10q, Ksmn10, qsmn10_0, qsmn10_1, qsmn10_2, qsmn10_3, qsmn10_4, qsmn10_5, qsmn10_6⟩ := hQsmn10
  have V_rg_smn10 := V_rg_smn2.keep Ksmn10 (by simp only [List.mem_cons, List.not_mem_nil, or_false, not_or]; exact ne_rg_bsmn2)
  have E_w_smn10 := E_w_smn2.keep Ksmn10
  have F_ranges_w_smn10 := F_ranges_w_smn2.keep Ksmn10 (by simp only [List.mem_cons, List.not_mem_nil, or_false, not_or]; exact ne_w_bsmn2)
  have F_count_w_smn10 := F_count_w_smn2.keep Ksmn10 (by simp only [List.mem_cons, List.not_mem_nil, or_false, not_or]; exact ne_w_bsmn2)
  have F_sum_w_smn10 := F_sum_w_smn2.keep Ksmn10 (by simp only [List.mem_cons, List.not_mem_nil, or_false, not_or]; exact ne_w_bsmn2)
  have F_max_w_smn10 := F_max_w_smn2.keep Ksmn10 (by simp only [List.mem_cons, List.not_mem_nil, or_false, not_or]; exact ne_w_bsmn2)
  have Zsmn10 : n0 ≤ Tsmn10.heap.size := Nat.le_trans Zsmn2 Ksmn10.1
  have KKsmn10 := KKsmn2.trans Ksmn10 (fun q hq => by simp only [List.mem_cons, List.not_mem_nil, or_false] at hq; rcases hq with rfl; exact Or.inr sz_bsmn2)
  have Nsmn10 := Fr.app Nsmn8 Nsmn10q
  obtain ⟨V, hr, hrun, hended, M1, KM1, hW, hsame⟩ := own_leaveS Xsmn10 Bd.object Bd.enterable Bd.synchronized (v := some (.ref bsmn2)) (fun h => by rw [Bd.returns] at h; cases h)
  refine ⟨V, _, pre0 _ ?_, hrun, hended, _, _, rfl, ?_, ⟨_, rfl⟩, hW, hsame.mono (by decide) (by decide)⟩
  · refine own_y_aloadN X0.here hx (hb hby own_d14_0) (pc' := 1) rfl rfl rfl ?_
    refine stsmn1 _ ?_
    show Steps p.tables e below (Tsmn1.setTop (mkL w m 4 #[.val (.ref w)] [(.long cnt)])) _
    refine own_y_lconst Xsmn1.here hx (hb hby own_d14_4) (pc' := 5) rfl (v := (0 : Int64)) (by decide) ?_
    refine own_y_lcmp Xsmn1.here hx (hb hby own_d14_5) (pc' := 6) rfl (v := (lcmpW cnt (0 : Int64))) rfl ?_
    refine own_y_ifYes Xsmn1.here hx (hb hby own_d14_6) (by decide) (pc' := 23) (by decide) smn_hb6 ?_
    refine stsmn2 _ ?_
    show Steps p.tables e below (Tsmn2.setTop (mkL w m 26 #[.val (.ref w)] [(.ref bsmn2)])) _
    refine own_y_dup Xsmn2.here hx (hb hby own_d14_26) (pc' := 27) rfl rfl ?_
    refine own_y_aloadN Xsmn2.here hx (hb hby own_d14_27) (pc' := 28) rfl rfl rfl ?_
    refine stsmn3 _ ?_
    show Steps p.tables e below (Tsmn3.setTop (mkL w m 31 #[.val (.ref w)] [(.long cnt), (.ref bsmn2), (.ref bsmn2)])) _
    refine own_y_aloadN Xsmn3.here hx (hb hby own_d14_31) (pc' := 32) rfl rfl rfl ?_
    refine stsmn4 _ ?_
    show Steps p.tables e below (Tsmn4.setTop (mkL w m 35 #[.val (.ref w)] [(.double sm), (.long cnt), (.ref bsmn2), (.ref bsmn2)])) _
    refine own_y_aloadN Xsmn4.here hx (hb hby own_d14_35) (pc' := 36) rfl rfl rfl ?_
    refine stsmn5 _ ?_
    show Steps p.tables e below (Tsmn5.setTop (mkL w m 39 #[.val (.ref w)] [(.long cnt), (.double sm), (.long cnt), (.ref bsmn2), (.ref bsmn2)])) _
    refine own_y_l2d Xsmn5.here hx (hb hby own_d14_39) (pc' := 40) rfl (v := (FP.l2d cnt)) rfl ?_
    refine own_y_ddiv Xsmn5.here hx (hb hby own_d14_40) (pc' := 41) rfl smn_hn40 (v := smn_v40) smn_hv40 ?_
    refine own_y_aloadN Xsmn5.here hx (hb hby own_d14_41) (pc' := 42) rfl rfl rfl ?_
    refine own_y_bipush Xsmn5.here hx (hb hby own_d14_42) (pc' := 44) rfl (v := (50 : Int32)) (by decide) ?_
    refine stsmn6.trans ?_
    show Steps p.tables e below (Tsmn6.setTop (mkL w m 47 #[.val (.ref w)] [(.long rsmn6), (.double smn_v40), (.long cnt), (.ref bsmn2), (.ref bsmn2)])) _
    refine own_y_aloadN Xsmn6.here hx (hb hby own_d14_47) (pc' := 48) rfl rfl rfl ?_
    refine own_y_bipush Xsmn6.here hx (hb hby own_d14_48) (pc' := 50) rfl (v := (95 : Int32)) (by decide) ?_
    refine stsmn7.trans ?_
    show Steps p.tables e below (Tsmn7.setTop (mkL w m 53 #[.val (.ref w)] [(.long rsmn7), (.long rsmn6), (.double smn_v40), (.long cnt), (.ref bsmn2), (.ref bsmn2)])) _
    refine own_y_aloadN Xsmn7.here hx (hb hby own_d14_53) (pc' := 54) rfl rfl rfl ?_
    refine own_y_bipush Xsmn7.here hx (hb hby own_d14_54) (pc' := 56) rfl (v := (99 : Int32)) (by decide) ?_
    refine stsmn8.trans ?_
    show Steps p.tables e below (Tsmn8.setTop (mkL w m 59 #[.val (.ref w)] [(.long rsmn8), (.long rsmn7), (.long rsmn6), (.double smn_v40), (.long cnt), (.ref bsmn2), (.ref bsmn2)])) _
    refine own_y_aloadN Xsmn8.here hx (hb hby own_d14_59) (pc' := 60) rfl rfl rfl ?_
    refine stsmn9 _ ?_
    show Steps p.tables e below (Tsmn9.setTop (mkL w m 63 #[.val (.ref w)] [(.long mx), (.long rsmn8), (.long rsmn7), (.long rsmn6), (.double smn_v40), (.long cnt), (.ref bsmn2), (.ref bsmn2)])) _
    refine stsmn10.trans ?_
    show Steps p.tables e below (Tsmn10.setTop (mkL w m 66 #[.val (.ref w)] [(.ref bsmn2)])) _
    exact retS Xsmn10 hx Bd.returns rfl (Or.inr (Or.inr (Or.inr (Or.inr ⟨rfl, rfl, rfl⟩)))) (hb hby own_d14_66) hr
  · show own_QS Z w cnt smn_v40 mx s0.heap n0 _ V.heap _
    exact ⟨bsmn2, rfl, Nsmn10, (KM0.trans KKsmn10 (fun _ q => nomatch q)).trans KM1 (fun x hx => Or.inl hx), Nat.le_trans KM0.1 sz_bsmn2, qsmn10_0.mon M1, qsmn10_1.mon M1, qsmn10_2.mon M1, qsmn10_6.mon M1⟩
def own_QF0 (Z : State) (wa ra w1 rg1 w2 rg2 tb : Addr) (h0 : Heap) (n0 : Nat) (v : Option Value) (h : Heap) (L : List Loc) : Prop := v = none ∧ Fr n0 L ∧ Keep h0 h [w1, rg1, w2, rg2, tb] ∧ ∃ as1 as2 : List Addr, own_Hist Z h w1 rg1 as1 0 0 0 0 ∧ Unt h w1 ∧ (∀ x ∈ as1, h0.size ≤ x) ∧ own_Hist Z h w2 rg2 as2 0 0 0 0 ∧ Unt h w2 ∧ (∀ x ∈ as2, h0.size ≤ x)
theorem own_d6_0 : decode prog_51_method_5_code 0 = .ok (.aload_n 1, 1) := by decide +kernel
theorem own_d6_1 : decode prog_51_method_5_code 1 = .ok (.aload_n 0, 1) := by decide +kernel
theorem own_d6_2 : decode prog_51_method_5_code 2 = .ok (.getfield 9, 3) := by decide +kernel
theorem own_d6_5 : decode prog_51_method_5_code 5 = .ok (.aload_n 0, 1) := by decide +kernel
theorem own_d6_6 : decode prog_51_method_5_code 6 = .ok (.getfield 16, 3) := by decide +kernel
theorem own_pd_285bJI29V : parseMethodDescriptor "([JI)V" = some ⟨[(.array .long), .int], none⟩ := by decide +kernel
theorem own_d6_9 : decode prog_51_method_5_code 9 = .ok (.invokevirtual 23, 3) := by decide +kernel
theorem own_d6_12 : decode prog_51_method_5_code 12 = .ok (.aload_n 2, 1) := by decide +kernel
theorem own_d6_13 : decode prog_51_method_5_code 13 = .ok (.aload_n 0, 1) := by decide +kernel
theorem own_d6_14 : decode prog_51_method_5_code 14 = .ok (.getfield 13, 3) := by decide +kernel
theorem own_d6_17 : decode prog_51_method_5_code 17 = .ok (.aload_n 0, 1) := by decide +kernel
theorem own_d6_18 : decode prog_51_method_5_code 18 = .ok (.getfield 20, 3) := by decide +kernel
theorem own_d6_21 : decode prog_51_method_5_code 21 = .ok (.invokevirtual 23, 3) := by decide +kernel
theorem own_d6_24 : decode prog_51_method_5_code 24 = .ok (.aload_n 0, 1) := by decide +kernel
theorem own_d6_25 : decode prog_51_method_5_code 25 = .ok (.iconst 0, 1) := by decide +kernel
theorem own_d6_26 : decode prog_51_method_5_code 26 = .ok (.putfield 16, 3) := by decide +kernel
theorem own_d6_29 : decode prog_51_method_5_code 29 = .ok (.aload_n 0, 1) := by decide +kernel
theorem own_d6_30 : decode prog_51_method_5_code 30 = .ok (.iconst 0, 1) := by decide +kernel
theorem own_d6_31 : decode prog_51_method_5_code 31 = .ok (.putfield 20, 3) := by decide +kernel
theorem own_d6_34 : decode prog_51_method_5_code 34 = .ok (.return_, 1) := by decide +kernel
theorem own_ef_fl0 (m : MethodId) (tb : Addr) (w1 : Addr) (w2 : Addr) : entryFrame m #[(.ref tb), (.ref w1), (.ref w2)] 3 = mkF m 0 #[.val (.ref tb), .val (.ref w1), .val (.ref w2)] [] := by first | (simp [entryFrame, mkF, argsToLocals, Value.category]; done) | rfl
set_option maxRecDepth 65536 in
set_option maxHeartbeats 40000000 in
theorem own_rm_fl0 (l : Launch) (Z : State) (a0 : Array Value) (hw : ∀ d ∈ tables_1, d.before a0 Z = true) (ws : List Jvm.Cond) (tb : Addr) (wa : Addr) (ra : Addr) (w1 : Addr) (w2 : Addr) (wl : List Value) (rl : List Value) (rg1 : Addr) (rg2 : Addr) {wak : ClassId} {rak : ClassId} (h0 : Heap) (n0 : Nat) (Z0 : n0 ≤ h0.size) (E_tb : Exa Z h0 tb "millrace/TimingBuffer") (F_waits_tb : Fld Z h0 tb "millrace/TimingBuffer" "waits" "[J" (.ref wa)) (F_waitCount_tb : Fld Z h0 tb "millrace/TimingBuffer" "waitCount" "I" (.int (0 : Int32))) (F_runs_tb : Fld Z h0 tb "millrace/TimingBuffer" "runs" "[J" (.ref ra)) (F_runCount_tb : Fld Z h0 tb "millrace/TimingBuffer" "runCount" "I" (.int (0 : Int32))) (E_w1 : Exa Z h0 w1 "millrace/DurationHistogram") (E_w2 : Exa Z h0 w2 "millrace/DurationHistogram") (V_wa : Arv Z h0 wa wak .long (64 : Int32) wl (.long 0)) (V_ra : Arv Z h0 ra rak .long (64 : Int32) rl (.long 0)) (ne_tb_wa : tb ≠ wa) (ne_tb_ra : tb ≠ ra) (ne_tb_w1 : tb ≠ w1) (ne_tb_rg1 : tb ≠ rg1) (ne_tb_w2 : tb ≠ w2) (ne_tb_rg2 : tb ≠ rg2) (ne_wa_w1 : wa ≠ w1) (ne_wa_rg1 : wa ≠ rg1) (ne_wa_w2 : wa ≠ w2) (ne_wa_rg2 : wa ≠ rg2) (ne_ra_w1 : ra ≠ w1) (ne_ra_rg1 : ra ≠ rg1) (ne_ra_w2 : ra ≠ w2) (ne_ra_rg2 : ra ≠ rg2) (ne_w1_w2 : w1 ≠ w2) (ne_w1_rg2 : w1 ≠ rg2) (ne_rg1_w2 : rg1 ≠ w2) (ne_rg1_rg2 : rg1 ≠ rg2) (g_tb : n0 ≤ tb) (HH1 : own_Hist Z h0 w1 rg1 [] 0 0 0 0) (HU1 : Unt h0 w1) (HH2 : own_Hist Z h0 w2 rg2 [] 0 0 0 0) (HU2 : Unt h0 w2) (HG1 : own_G n0 w1 rg1 []) (HG2 : own_G n0 w2 rg2 [])  :
    MetFree l (⟨"millrace/TimingBuffer", "flush", "(Lmillrace/DurationHistogram;Lmillrace/DurationHistogram;)V"⟩ : MethodName) (head1 (Jvm.Cond.code (⟨"millrace/TimingBuffer", "flush", "(Lmillrace/DurationHistogram;Lmillrace/DurationHistogram;)V"⟩ : MethodName) prog_51_method_5_code 3 none :: ws) ({ frames := 1, cells := 0, slots := 0, locals := 15 } : Room)) (fun a U => a = #[(.ref tb), (.ref w1), (.ref w2)] ∧ Z.Warmed39 U.vm ∧ U.heap = h0) (fun _ _ _ _ _ => True) (fun _ U o U' => ∃ v L, o = .returned v ∧ own_QF0 Z wa ra w1 rg1 w2 rg2 tb  h0 n0 v U'.heap L ∧ FrameEnd U o U' L ({ frames := 1, cells := 0, slots := 0, locals := 15 } : Room).cells ({ frames := 1, cells := 0, slots := 0, locals := 15 } : Room).slots) := by
  refine MetFree.of_bodySF (plainFor_of_name own_pn_millrace_TimingBuffer) hisR ?_
  intro p e s m args below meth c s₁ Bd hml0 hP hK
  obtain ⟨rfl, hZ, hh⟩ := hP
  have hx := Bd.exec
  have hby := Bd.bytes
  have hml : c.maxLocals = 3 := hml0
  have hown : s.vm.findClass "millrace/TimingBuffer" = some m.cls := findClass_of_methodNamed Bd.named
  have hnm := (name_of_methodNamed Bd.named Bd.method).1
  have X0 : Stand p l e ({ frames := 1, cells := 0, slots := 0, locals := 15 } : Room) s m #[(.ref tb), (.ref w1), (.ref w2)] below meth c s₁ [] 0 0 := Stand.of_body Bd
  have e0 : s₁.heap = h0 := by rw [← hh, Bd.state]; rfl
  have N0 := Fr.nil n0
  have pre0 : ∀ t, Steps p.tables e below (s₁.setTop (mkF m 0 #[.val (.ref tb), .val (.ref w1), .val (.ref w2)] [])) t → Steps p.tables e below (s₁.setTop (entryFrame m #[(.ref tb), (.ref w1), (.ref w2)] 3)) t := fun t k => castTop (own_ef_fl0 m tb w1 w2) k
  have lt_tb := E_tb.lt
  have lt_w1 := E_w1.lt
  have lt_w2 := E_w2.lt
  have lt_rg1 := HH1.lt.2.1
  have lt_rg2 := HH2.lt.2.1
  have ne_wa_tb : wa ≠ tb := Ne.symm ne_tb_wa
  have ne_ra_tb : ra ≠ tb := Ne.symm ne_tb_ra
  have ne_w1_tb : w1 ≠ tb := Ne.symm ne_tb_w1
  have ne_rg1_tb : rg1 ≠ tb := Ne.symm ne_tb_rg1
  have ne_w2_tb : w2 ≠ tb := Ne.symm ne_tb_w2
  have ne_rg2_tb : rg2 ≠ tb := Ne.symm ne_tb_rg2
  have ne_w1_wa : w1 ≠ wa := Ne.symm ne_wa_w1
  have ne_rg1_wa : rg1 ≠ wa := Ne.symm ne_wa_rg1
  have ne_w2_wa : w2 ≠ wa := Ne.symm ne_wa_w2
  have ne_rg2_wa : rg2 ≠ wa := Ne.symm ne_wa_rg2
  have ne_w1_ra : w1 ≠ ra := Ne.symm ne_ra_w1
  have ne_rg1_ra : rg1 ≠ ra := Ne.symm ne_ra_rg1
  have ne_w2_ra : w2 ≠ ra := Ne.symm ne_ra_w2
  have ne_rg2_ra : rg2 ≠ ra := Ne.symm ne_ra_rg2
  have ne_w2_w1 : w2 ≠ w1 := Ne.symm ne_w1_w2
  have ne_rg2_w1 : rg2 ≠ w1 := Ne.symm ne_w1_rg2
  have ne_w2_rg1 : w2 ≠ rg1 := Ne.symm ne_rg1_w2
  have ne_rg2_rg1 : rg2 ≠ rg1 := Ne.symm ne_rg1_rg2
  obtain ⟨Tfl01, Xfl01, efl01, stfl01⟩ := getF X0 hx hZ hown (host := "") (Or.inl (hw _ (List.mem_of_getElem? (i := 10) rfl))) Via.refl e0 F_waits_tb (g := (mkF m 2 #[.val (.ref tb), .val (.ref w1), .val (.ref w2)] [(.ref tb), (.ref w1)])) rfl rfl (hb hby own_d6_2)
  obtain ⟨Tfl02, Xfl02, efl02, stfl02⟩ := getF Xfl01 hx hZ hown (host := "") (Or.inl (hw _ (List.mem_of_getElem? (i := 19) rfl))) Via.refl efl01 F_waitCount_tb (g := (mkF m 6 #[.val (.ref tb), .val (.ref w1), .val (.ref w2)] [(.ref tb), (.ref wa), (.ref w1)])) rfl rfl (hb hby own_d6_6)
  obtain ⟨cqfl03, kqfl03, qfl03a, qfl03b, qfl03c⟩ := isOf hZ efl02 E_w1
  obtain ⟨_, _, ⟨Tfl03, Lfl03, kfl03, nfl03⟩, -, Xfl03, ⟨Lcfl03, hQfl03, lfl03, yfl03, zfl03⟩, stfl03⟩ := Xfl02.virtualBack hx (y := (⟨"millrace/DurationHistogram", "record", "([JI)V"⟩ : MethodName)) (z := (⟨"millrace/DurationHistogram", "record", "([JI)V"⟩ : MethodName)) hown (mvT hZ (hw _ (List.mem_of_getElem? (i := 44) rfl))) (mvT hZ (hw _ (List.mem_of_getElem? (i := 45) rfl))) (notFace_of_selects (args := #[]) (mvT hZ (hw _ (List.mem_of_getElem? (i := 47) rfl)))) (mvT hZ (hw _ (List.mem_of_getElem? (i := 47) rfl))) (mvT hZ (hw _ (List.mem_of_getElem? (i := 46) rfl))) (by decide) (own_backS (W := 0) (own_rm_rec0 l Z a0 hw (ws := [Jvm.Cond.instanceMethod (⟨"millrace/DurationHistogram", "record", "([JI)V"⟩ : MethodName)]) (List.mem_cons_self ..) w1 rg1 wa wl h0 n0 Z0 HH1 HU1 V_wa ne_wa_w1 ne_wa_rg1 HG1 ) HU1 hZ (hw _ (List.mem_of_getElem? (i := 48) rfl)) (hw _ (List.mem_of_getElem? (i := 46) rfl)) (hw _ (List.mem_of_getElem? (i := 30) rfl)) (by decide) (by decide)) qfl03a qfl03c (g := (mkF m 9 #[.val (.ref tb), .val (.ref w1), .val (.ref w2)] [(.int (0 : Int32)), (.ref wa), (.ref w1)])) rfl (by rw [hml]; rfl) (Steps.refl _) (argsL := [(.ref wa), (.int (0 : Int32))]) (rest := []) (lenOf own_pd_285bJI29V rfl) rfl (by show 2 * 0 + _ ≤ _; exact Nat.le_of_eq rfl) (hb hby own_d6_9) (fun _ _ => ⟨rfl, efl02, (by decide : 0 + 0 ≤ _), (by decide : 0 + 0 ≤ _)⟩)
  dsimp only [Pt.U, Pt.locs, Pt.cells, Pt.slots] at Xfl03 lfl03 yfl03 zfl03 stfl03 hQfl03
  rw [lfl03, yfl03, zfl03] at Xfl03
  obtain ⟨rfl, Nfl03q, Kfl03, Ufl03, asfl03, Hfl03, Qfl03⟩ := hQfl03
  have GAfl03 : ∀ x ∈ asfl03, h0.size ≤ x := fun x hx => Nat.le_trans (Keep.refl h0 [w1, rg1, w2, rg2, tb]).1 (Qfl03 x hx)
  have V_wa_fl03 := V_wa.keep Kfl03 (by simp only [List.mem_cons, List.not_mem_nil, or_false, not_or]; exact ⟨ne_wa_w1, ne_wa_rg1⟩)
  have V_ra_fl03 := V_ra.keep Kfl03 (by simp only [List.mem_cons, List.not_mem_nil, or_false, not_or]; exact ⟨ne_ra_w1, ne_ra_rg1⟩)
  have E_tb_fl03 := E_tb.keep Kfl03
  have F_waits_tb_fl03 := F_waits_tb.keep Kfl03 (by simp only [List.mem_cons, List.not_mem_nil, or_false, not_or]; exact ⟨ne_tb_w1, ne_tb_rg1⟩)
  have F_waitCount_tb_fl03 := F_waitCount_tb.keep Kfl03 (by simp only [List.mem_cons, List.not_mem_nil, or_false, not_or]; exact ⟨ne_tb_w1, ne_tb_rg1⟩)
  have F_runs_tb_fl03 := F_runs_tb.keep Kfl03 (by simp only [List.mem_cons, List.not_mem_nil, or_false, not_or]; exact ⟨ne_tb_w1, ne_tb_rg1⟩)
  have F_runCount_tb_fl03 := F_runCount_tb.keep Kfl03 (by simp only [List.mem_cons, List.not_mem_nil, or_false, not_or]; exact ⟨ne_tb_w1, ne_tb_rg1⟩)
  have E_w2_fl03 := E_w2.keep Kfl03
  have H_w2_fl03 := HH2.keep Kfl03 (by simp only [List.mem_cons, List.not_mem_nil, or_false, not_or]; exact ⟨ne_w2_w1, ne_w2_rg1⟩) (by simp only [List.mem_cons, List.not_mem_nil, or_false, not_or]; exact ⟨ne_rg2_w1, ne_rg2_rg1⟩) (fun x hx => nomatch hx)
  have HU_w2_fl03 := Unt.keep Kfl03 (by simp only [List.mem_cons, List.not_mem_nil, or_false, not_or]; exact ⟨ne_w2_w1, ne_w2_rg1⟩) HU2
  have Zfl03 : n0 ≤ Tfl03.heap.size := Nat.le_trans Z0 Kfl03.1
  have KKfl03 := (Keep.refl h0 [w1, rg1, w2, rg2, tb]).trans Kfl03 (fun q hq => by simp only [List.mem_cons, List.not_mem_nil, or_false] at hq; rcases hq with rfl | rfl <;> first | exact Or.inl (List.mem_of_getElem? (i := 0) rfl) | exact Or.inl (List.mem_of_getElem? (i := 1) rfl))
  have Nfl03 := Fr.app N0 Nfl03q
  obtain ⟨Tfl04, Xfl04, efl04, stfl04⟩ := getF Xfl03 hx hZ hown (host := "") (Or.inl (hw _ (List.mem_of_getElem? (i := 12) rfl))) Via.refl rfl F_runs_tb_fl03 (g := (mkF m 14 #[.val (.ref tb), .val (.ref w1), .val (.ref w2)] [(.ref tb), (.ref w2)])) rfl rfl (hb hby own_d6_14)
  obtain ⟨Tfl05, Xfl05, efl05, stfl05⟩ := getF Xfl04 hx hZ hown (host := "") (Or.inl (hw _ (List.mem_of_getElem? (i := 26) rfl))) Via.refl efl04 F_runCount_tb_fl03 (g := (mkF m 18 #[.val (.ref tb), .val (.ref w1), .val (.ref w2)] [(.ref tb), (.ref ra), (.ref w2)])) rfl rfl (hb hby own_d6_18)
  obtain ⟨cqfl06, kqfl06, qfl06a, qfl06b, qfl06c⟩ := isOf hZ efl05 E_w2_fl03
  obtain ⟨_, _, ⟨Tfl06, Lfl06, kfl06, nfl06⟩, -, Xfl06, ⟨Lcfl06, hQfl06, lfl06, yfl06, zfl06⟩, stfl06⟩ := Xfl05.virtualBack hx (y := (⟨"millrace/DurationHistogram", "record", "([JI)V"⟩ : MethodName)) (z := (⟨"millrace/DurationHistogram", "record", "([JI)V"⟩ : MethodName)) hown (mvT hZ (hw _ (List.mem_of_getElem? (i := 44) rfl))) (mvT hZ (hw _ (List.mem_of_getElem? (i := 45) rfl))) (notFace_of_selects (args := #[]) (mvT hZ (hw _ (List.mem_of_getElem? (i := 47) rfl)))) (mvT hZ (hw _ (List.mem_of_getElem? (i := 47) rfl))) (mvT hZ (hw _ (List.mem_of_getElem? (i := 46) rfl))) (by decide) (own_backS (W := 0) (own_rm_rec0 l Z a0 hw (ws := [Jvm.Cond.instanceMethod (⟨"millrace/DurationHistogram", "record", "([JI)V"⟩ : MethodName)]) (List.mem_cons_self ..) w2 rg2 ra rl Tfl03.heap n0 Zfl03 H_w2_fl03 HU_w2_fl03 V_ra_fl03 ne_ra_w2 ne_ra_rg2 HG2 ) HU_w2_fl03 hZ (hw _ (List.mem_of_getElem? (i := 48) rfl)) (hw _ (List.mem_of_getElem? (i := 46) rfl)) (hw _ (List.mem_of_getElem? (i := 30) rfl)) (by decide) (by decide)) qfl06a qfl06c (g := (mkF m 21 #[.val (.ref tb), .val (.ref w1), .val (.ref w2)] [(.int (0 : Int32)), (.ref ra), (.ref w2)])) rfl (by rw [hml]; rfl) (Steps.refl _) (argsL := [(.ref ra), (.int (0 : Int32))]) (rest := []) (lenOf own_pd_285bJI29V rfl) rfl (by show 2 * 0 + _ ≤ _; exact Nat.le_of_eq rfl) (hb hby own_d6_21) (fun _ _ => ⟨rfl, efl05, (by decide : 0 + 0 ≤ _), (by decide : 0 + 0 ≤ _)⟩)
  dsimp only [Pt.U, Pt.locs, Pt.cells, Pt.slots] at Xfl06 lfl06 yfl06 zfl06 stfl06 hQfl06
  rw [lfl06, yfl06, zfl06] at Xfl06
  obtain ⟨rfl, Nfl06q, Kfl06, Ufl06, asfl06, Hfl06, Qfl06⟩ := hQfl06
  have GAfl06 : ∀ x ∈ asfl06, h0.size ≤ x := fun x hx => Nat.le_trans KKfl03.1 (Qfl06 x hx)
  have V_wa_fl06 := V_wa_fl03.keep Kfl06 (by simp only [List.mem_cons, List.not_mem_nil, or_false, not_or]; exact ⟨ne_wa_w2, ne_wa_rg2⟩)
  have V_ra_fl06 := V_ra_fl03.keep Kfl06 (by simp only [List.mem_cons, List.not_mem_nil, or_false, not_or]; exact ⟨ne_ra_w2, ne_ra_rg2⟩)
  have E_tb_fl06 := E_tb_fl03.keep Kfl06
  have F_waits_tb_fl06 := F_waits_tb_fl03.keep Kfl06 (by simp only [List.mem_cons, List.not_mem_nil, or_false, not_or]; exact ⟨ne_tb_w2, ne_tb_rg2⟩)
  have F_waitCount_tb_fl06 := F_waitCount_tb_fl03.keep Kfl06 (by simp only [List.mem_cons, List.not_mem_nil, or_false, not_or]; exact ⟨ne_tb_w2, ne_tb_rg2⟩)
  have F_runs_tb_fl06 := F_runs_tb_fl03.keep Kfl06 (by simp only [List.mem_cons, List.not_mem_nil, or_false, not_or]; exact ⟨ne_tb_w2, ne_tb_rg2⟩)
  have F_runCount_tb_fl06 := F_runCount_tb_fl03.keep Kfl06 (by simp only [List.mem_cons, List.not_mem_nil, or_false, not_or]; exact ⟨ne_tb_w2, ne_tb_rg2⟩)
  have E_w1_fl06 := Hfl03.exa.keep Kfl06
  have H_w1_fl06 := Hfl03.keep Kfl06 (by simp only [List.mem_cons, List.not_mem_nil, or_false, not_or]; exact ⟨ne_w1_w2, ne_w1_rg2⟩) (by simp only [List.mem_cons, List.not_mem_nil, or_false, not_or]; exact ⟨ne_rg1_w2, ne_rg1_rg2⟩) (fun x hx => by simp only [List.mem_cons, List.not_mem_nil, or_false, not_or]; exact ⟨fun e => absurd lt_w2 (Nat.not_lt.mpr (GAfl03 w2 (e ▸ hx))), fun e => absurd lt_rg2 (Nat.not_lt.mpr (GAfl03 rg2 (e ▸ hx)))⟩)
  have HU_w1_fl06 := Unt.keep Kfl06 (by simp only [List.mem_cons, List.not_mem_nil, or_false, not_or]; exact ⟨ne_w1_w2, ne_w1_rg2⟩) Ufl03
  have Zfl06 : n0 ≤ Tfl06.heap.size := Nat.le_trans Zfl03 Kfl06.1
  have KKfl06 := KKfl03.trans Kfl06 (fun q hq => by simp only [List.mem_cons, List.not_mem_nil, or_false] at hq; rcases hq with rfl | rfl <;> first | exact Or.inl (List.mem_of_getElem? (i := 2) rfl) | exact Or.inl (List.mem_of_getElem? (i := 3) rfl))
  have Nfl06 := Fr.app Nfl03 Nfl06q
  obtain ⟨Tfl07, hfl07, Xfl07, efl07, Wfl07, stfl07⟩ := putF Xfl06 hx hZ hown (host := "") (Or.inl (hw _ (List.mem_of_getElem? (i := 19) rfl))) Via.refl rfl F_waitCount_tb_fl06 E_tb_fl06 (Or.inl (hw _ (List.mem_of_getElem? (i := 20) rfl))) (hw _ (List.mem_of_getElem? (i := 1) rfl)) (ty := .int) (by decide) rfl rfl (g := (mkF m 26 #[.val (.ref tb), .val (.ref w1), .val (.ref w2)] [(.int (0 : Int32)), (.ref tb)])) rfl rfl (hb hby own_d6_26)
  have V_wa_fl07 := V_wa_fl06.other Wfl07 ne_wa_tb
  have V_ra_fl07 := V_ra_fl06.other Wfl07 ne_ra_tb
  have E_tb_fl07 := E_tb_fl06.wr Wfl07
  have E_w1_fl07 := E_w1_fl06.wr Wfl07
  have E_w2_fl07 := Hfl06.exa.wr Wfl07
  have H_w1_fl07 := H_w1_fl06.wr Wfl07 ne_w1_tb ne_rg1_tb (fun q => absurd lt_tb (Nat.not_lt.mpr (GAfl03 tb q)))
  have HU_w1_fl07 := Unt.wr Wfl07 HU_w1_fl06
  have H_w2_fl07 := Hfl06.wr Wfl07 ne_w2_tb ne_rg2_tb (fun q => absurd lt_tb (Nat.not_lt.mpr (GAfl06 tb q)))
  have HU_w2_fl07 := Unt.wr Wfl07 Ufl06
  have Zfl07 : n0 ≤ hfl07.size := Nat.le_trans Zfl06 (Nat.le_of_eq Wfl07.size.symm)
  have KKfl07 := KKfl06.wr Wfl07 (Or.inl (List.mem_of_getElem? (i := 4) rfl))
  have F_waits_tb_fl07 := F_waits_tb_fl06.other Wfl07 (Or.inr (slot_ne (Or.inr (hw _ (List.mem_of_getElem? (i := 11) rfl))) (Or.inl (hw _ (List.mem_of_getElem? (i := 20) rfl))) (by decide) (t := (.array .long)) (t' := .int) (by decide) (by decide)))
  have F_waitCount_tb_fl07 := F_waitCount_tb_fl06.same Wfl07
  have F_runs_tb_fl07 := F_runs_tb_fl06.other Wfl07 (Or.inr (slot_ne (Or.inr (hw _ (List.mem_of_getElem? (i := 13) rfl))) (Or.inl (hw _ (List.mem_of_getElem? (i := 20) rfl))) (by decide) (t := (.array .long)) (t' := .int) (by decide) (by decide)))
  have F_runCount_tb_fl07 := F_runCount_tb_fl06.other Wfl07 (Or.inr (slot_ne (Or.inl (hw _ (List.mem_of_getElem? (i := 27) rfl))) (Or.inl (hw _ (List.mem_of_getElem? (i := 20) rfl))) (by decide) (t := .int) (t' := .int) (by decide) (by decide)))
  have Nfl07 := Fr.snoc Xfl07 Nfl06 g_tb
  obtain ⟨Tfl08, hfl08, Xfl08, efl08, Wfl08, stfl08⟩ := putF Xfl07 hx hZ hown (host := "") (Or.inl (hw _ (List.mem_of_getElem? (i := 26) rfl))) Via.refl efl07 F_runCount_tb_fl07 E_tb_fl07 (Or.inl (hw _ (List.mem_of_getElem? (i := 27) rfl))) (hw _ (List.mem_of_getElem? (i := 1) rfl)) (ty := .int) (by decide) rfl rfl (g := (mkF m 31 #[.val (.ref tb), .val (.ref w1), .val (.ref w2)] [(.int (0 : Int32)), (.ref tb)])) rfl rfl (hb hby own_d6_31)
  have V_wa_fl08 := V_wa_fl07.other Wfl08 ne_wa_tb
  have V_ra_fl08 := V_ra_fl07.other Wfl08 ne_ra_tb
  have E_tb_fl08 := E_tb_fl07.wr Wfl08
  have E_w1_fl08 := E_w1_fl07.wr Wfl08
  have E_w2_fl08 := E_w2_fl07.wr Wfl08
  have H_w1_fl08 := H_w1_fl07.wr Wfl08 ne_w1_tb ne_rg1_tb (fun q => absurd lt_tb (Nat.not_lt.mpr (GAfl03 tb q)))
  have HU_w1_fl08 := Unt.wr Wfl08 HU_w1_fl07
  have H_w2_fl08 := H_w2_fl07.wr Wfl08 ne_w2_tb ne_rg2_tb (fun q => absurd lt_tb (Nat.not_lt.mpr (GAfl06 tb q)))
  have HU_w2_fl08 := Unt.wr Wfl08 HU_w2_fl07
  have Zfl08 : n0 ≤ hfl08.size := Nat.le_trans Zfl07 (Nat.le_of_eq Wfl08.size.symm)
  have KKfl08 := KKfl07.wr Wfl08 (Or.inl (List.mem_of_getElem? (i := 4) rfl))
  have F_waits_tb_fl08 := F_waits_tb_fl07.other Wfl08 (Or.inr (slot_ne (Or.inr (hw _ (List.mem_of_getElem? (i := 11) rfl))) (Or.inl (hw _ (List.mem_of_getElem? (i := 27) rfl))) (by decide) (t := (.array .long)) (t' := .int) (by decide) (by decide)))
  have F_waitCount_tb_fl08 := F_waitCount_tb_fl07.other Wfl08 (Or.inr (slot_ne (Or.inl (hw _ (List.mem_of_getElem? (i := 20) rfl))) (Or.inl (hw _ (List.mem_of_getElem? (i := 27) rfl))) (by decide) (t := .int) (t' := .int) (by decide) (by decide)))
  have F_runs_tb_fl08 := F_runs_tb_fl07.other Wfl08 (Or.inr (slot_ne (Or.inr (hw _ (List.mem_of_getElem? (i := 13) rfl))) (Or.inl (hw _ (List.mem_of_getElem? (i := 27) rfl))) (by decide) (t := (.array .long)) (t' := .int) (by decide) (by decide)))
  have F_runCount_tb_fl08 := F_runCount_tb_fl07.same Wfl08
  have Nfl08 := Fr.snoc Xfl08 Nfl07 g_tb
  obtain ⟨fs, hr, hrun, hended, hW, hsame⟩ := Xfl08.leave (v := none) (fun _ => rfl)
  refine ⟨_, _, pre0 _ ?_, hrun, hended, _, _, rfl, ?_, ⟨_, rfl⟩, hW, hsame.mono (by decide) (by decide)⟩
  · refine own_s_aloadN X0.here hx (hb hby own_d6_0) (pc' := 1) rfl rfl rfl ?_
    refine own_s_aloadN X0.here hx (hb hby own_d6_1) (pc' := 2) rfl rfl rfl ?_
    refine stfl01 _ ?_
    show Steps p.tables e below (Tfl01.setTop (mkF m 5 #[.val (.ref tb), .val (.ref w1), .val (.ref w2)] [(.ref wa), (.ref w1)])) _
    refine own_s_aloadN Xfl01.here hx (hb hby own_d6_5) (pc' := 6) rfl rfl rfl ?_
    refine stfl02 _ ?_
    show Steps p.tables e below (Tfl02.setTop (mkF m 9 #[.val (.ref tb), .val (.ref w1), .val (.ref w2)] [(.int (0 : Int32)), (.ref wa), (.ref w1)])) _
    refine stfl03.trans ?_
    show Steps p.tables e below (Tfl03.setTop (mkF m 12 #[.val (.ref tb), .val (.ref w1), .val (.ref w2)] [])) _
    refine own_s_aloadN Xfl03.here hx (hb hby own_d6_12) (pc' := 13) rfl rfl rfl ?_
    refine own_s_aloadN Xfl03.here hx (hb hby own_d6_13) (pc' := 14) rfl rfl rfl ?_
    refine stfl04 _ ?_
    show Steps p.tables e below (Tfl04.setTop (mkF m 17 #[.val (.ref tb), .val (.ref w1), .val (.ref w2)] [(.ref ra), (.ref w2)])) _
    refine own_s_aloadN Xfl04.here hx (hb hby own_d6_17) (pc' := 18) rfl rfl rfl ?_
    refine stfl05 _ ?_
    show Steps p.tables e below (Tfl05.setTop (mkF m 21 #[.val (.ref tb), .val (.ref w1), .val (.ref w2)] [(.int (0 : Int32)), (.ref ra), (.ref w2)])) _
    refine stfl06.trans ?_
    show Steps p.tables e below (Tfl06.setTop (mkF m 24 #[.val (.ref tb), .val (.ref w1), .val (.ref w2)] [])) _
    refine own_s_aloadN Xfl06.here hx (hb hby own_d6_24) (pc' := 25) rfl rfl rfl ?_
    refine own_s_iconst Xfl06.here hx (hb hby own_d6_25) (pc' := 26) rfl (v := (0 : Int32)) (by decide) ?_
    refine stfl07 _ ?_
    show Steps p.tables e below (Tfl07.setTop (mkF m 29 #[.val (.ref tb), .val (.ref w1), .val (.ref w2)] [])) _
    refine own_s_aloadN Xfl07.here hx (hb hby own_d6_29) (pc' := 30) rfl rfl rfl ?_
    refine own_s_iconst Xfl07.here hx (hb hby own_d6_30) (pc' := 31) rfl (v := (0 : Int32)) (by decide) ?_
    refine stfl08 _ ?_
    show Steps p.tables e below (Tfl08.setTop (mkF m 34 #[.val (.ref tb), .val (.ref w1), .val (.ref w2)] [])) _
    exact Xfl08.returnOut hx Bd.returns (hb hby own_d6_34) hr
  · show own_QF0 Z wa ra w1 rg1 w2 rg2 tb  h0 n0 _ Tfl08.heap _
    rw [efl08]
    exact ⟨rfl, Nfl08, KKfl08, asfl03, asfl06, H_w1_fl08, HU_w1_fl08, GAfl03, H_w2_fl08, HU_w2_fl08, GAfl06⟩
def own_QF1 (Z : State) (wa ra w1 rg1 w2 rg2 tb : Addr) (fl1_c9_rc1_v10 : Int64) (h0 : Heap) (n0 : Nat) (v : Option Value) (h : Heap) (L : List Loc) : Prop := v = none ∧ Fr n0 L ∧ Keep h0 h [w1, rg1, w2, rg2, tb] ∧ ∃ as1 as2 : List Addr, own_Hist Z h w1 rg1 as1 (0 + 1) (0 + 1) (FP.dadd 0 (FP.l2d (own_lmax (0 : Int64) fl1_c9_rc1_v10))) (own_lmax 0 (own_lmax (0 : Int64) fl1_c9_rc1_v10)) ∧ Unt h w1 ∧ (∀ x ∈ as1, h0.size ≤ x) ∧ own_Hist Z h w2 rg2 as2 0 0 0 0 ∧ Unt h w2 ∧ (∀ x ∈ as2, h0.size ≤ x)
theorem own_ef_fl1 (m : MethodId) (tb : Addr) (w1 : Addr) (w2 : Addr) : entryFrame m #[(.ref tb), (.ref w1), (.ref w2)] 3 = mkF m 0 #[.val (.ref tb), .val (.ref w1), .val (.ref w2)] [] := by first | (simp [entryFrame, mkF, argsToLocals, Value.category]; done) | rfl
set_option maxRecDepth 65536 in
set_option maxHeartbeats 40000000 in
theorem own_rm_fl1 (l : Launch) (Z : State) (a0 : Array Value) (hw : ∀ d ∈ tables_1, d.before a0 Z = true) (ws : List Jvm.Cond) (tb : Addr) (wa : Addr) (ra : Addr) (w1 : Addr) (w2 : Addr) (wl : List Value) (rl : List Value) (rg1 : Addr) (rg2 : Addr) {wak : ClassId} {rak : ClassId} {fl1_c9_rc1_v10 : Int64} (h0 : Heap) (n0 : Nat) (Z0 : n0 ≤ h0.size) (E_tb : Exa Z h0 tb "millrace/TimingBuffer") (F_waits_tb : Fld Z h0 tb "millrace/TimingBuffer" "waits" "[J" (.ref wa)) (F_waitCount_tb : Fld Z h0 tb "millrace/TimingBuffer" "waitCount" "I" (.int (1 : Int32))) (F_runs_tb : Fld Z h0 tb "millrace/TimingBuffer" "runs" "[J" (.ref ra)) (F_runCount_tb : Fld Z h0 tb "millrace/TimingBuffer" "runCount" "I" (.int (0 : Int32))) (E_w1 : Exa Z h0 w1 "millrace/DurationHistogram") (E_w2 : Exa Z h0 w2 "millrace/DurationHistogram") (V_wa : Arv Z h0 wa wak .long (64 : Int32) wl (.long 0)) (V_ra : Arv Z h0 ra rak .long (64 : Int32) rl (.long 0)) (ne_tb_wa : tb ≠ wa) (ne_tb_ra : tb ≠ ra) (ne_tb_w1 : tb ≠ w1) (ne_tb_rg1 : tb ≠ rg1) (ne_tb_w2 : tb ≠ w2) (ne_tb_rg2 : tb ≠ rg2) (ne_wa_w1 : wa ≠ w1) (ne_wa_rg1 : wa ≠ rg1) (ne_wa_w2 : wa ≠ w2) (ne_wa_rg2 : wa ≠ rg2) (ne_ra_w1 : ra ≠ w1) (ne_ra_rg1 : ra ≠ rg1) (ne_ra_w2 : ra ≠ w2) (ne_ra_rg2 : ra ≠ rg2) (ne_w1_w2 : w1 ≠ w2) (ne_w1_rg2 : w1 ≠ rg2) (ne_rg1_w2 : rg1 ≠ w2) (ne_rg1_rg2 : rg1 ≠ rg2) (g_tb : n0 ≤ tb) (HH1 : own_Hist Z h0 w1 rg1 [] 0 0 0 0) (HU1 : Unt h0 w1) (HH2 : own_Hist Z h0 w2 rg2 [] 0 0 0 0) (HU2 : Unt h0 w2) (HG1 : own_G n0 w1 rg1 []) (HG2 : own_G n0 w2 rg2 []) (fl1_c9_rc1_hel10 : wl.getD (Int32.toNatClampNeg (0 : Int32)) (.long 0) = (.long fl1_c9_rc1_v10)) :
    MetFree l (⟨"millrace/TimingBuffer", "flush", "(Lmillrace/DurationHistogram;Lmillrace/DurationHistogram;)V"⟩ : MethodName) (head1 (Jvm.Cond.code (⟨"millrace/TimingBuffer", "flush", "(Lmillrace/DurationHistogram;Lmillrace/DurationHistogram;)V"⟩ : MethodName) prog_51_method_5_code 3 none :: ws) ({ frames := 5, cells := 1, slots := 128, locals := 94 } : Room)) (fun a U => a = #[(.ref tb), (.ref w1), (.ref w2)] ∧ Z.Warmed39 U.vm ∧ U.heap = h0) (fun _ _ _ _ _ => True) (fun _ U o U' => ∃ v L, o = .returned v ∧ own_QF1 Z wa ra w1 rg1 w2 rg2 tb fl1_c9_rc1_v10 h0 n0 v U'.heap L ∧ FrameEnd U o U' L ({ frames := 5, cells := 1, slots := 128, locals := 94 } : Room).cells ({ frames := 5, cells := 1, slots := 128, locals := 94 } : Room).slots) := by
  refine MetFree.of_bodySF (plainFor_of_name own_pn_millrace_TimingBuffer) hisR ?_
  intro p e s m args below meth c s₁ Bd hml0 hP hK
  obtain ⟨rfl, hZ, hh⟩ := hP
  have hx := Bd.exec
  have hby := Bd.bytes
  have hml : c.maxLocals = 3 := hml0
  have hown : s.vm.findClass "millrace/TimingBuffer" = some m.cls := findClass_of_methodNamed Bd.named
  have hnm := (name_of_methodNamed Bd.named Bd.method).1
  have X0 : Stand p l e ({ frames := 5, cells := 1, slots := 128, locals := 94 } : Room) s m #[(.ref tb), (.ref w1), (.ref w2)] below meth c s₁ [] 0 0 := Stand.of_body Bd
  have e0 : s₁.heap = h0 := by rw [← hh, Bd.state]; rfl
  have N0 := Fr.nil n0
  have pre0 : ∀ t, Steps p.tables e below (s₁.setTop (mkF m 0 #[.val (.ref tb), .val (.ref w1), .val (.ref w2)] [])) t → Steps p.tables e below (s₁.setTop (entryFrame m #[(.ref tb), (.ref w1), (.ref w2)] 3)) t := fun t k => castTop (own_ef_fl1 m tb w1 w2) k
  have lt_tb := E_tb.lt
  have lt_w1 := E_w1.lt
  have lt_w2 := E_w2.lt
  have lt_rg1 := HH1.lt.2.1
  have lt_rg2 := HH2.lt.2.1
  have ne_wa_tb : wa ≠ tb := Ne.symm ne_tb_wa
  have ne_ra_tb : ra ≠ tb := Ne.symm ne_tb_ra
  have ne_w1_tb : w1 ≠ tb := Ne.symm ne_tb_w1
  have ne_rg1_tb : rg1 ≠ tb := Ne.symm ne_tb_rg1
  have ne_w2_tb : w2 ≠ tb := Ne.symm ne_tb_w2
  have ne_rg2_tb : rg2 ≠ tb := Ne.symm ne_tb_rg2
  have ne_w1_wa : w1 ≠ wa := Ne.symm ne_wa_w1
  have ne_rg1_wa : rg1 ≠ wa := Ne.symm ne_wa_rg1
  have ne_w2_wa : w2 ≠ wa := Ne.symm ne_wa_w2
  have ne_rg2_wa : rg2 ≠ wa := Ne.symm ne_wa_rg2
  have ne_w1_ra : w1 ≠ ra := Ne.symm ne_ra_w1
  have ne_rg1_ra : rg1 ≠ ra := Ne.symm ne_ra_rg1
  have ne_w2_ra : w2 ≠ ra := Ne.symm ne_ra_w2
  have ne_rg2_ra : rg2 ≠ ra := Ne.symm ne_ra_rg2
  have ne_w2_w1 : w2 ≠ w1 := Ne.symm ne_w1_w2
  have ne_rg2_w1 : rg2 ≠ w1 := Ne.symm ne_w1_rg2
  have ne_w2_rg1 : w2 ≠ rg1 := Ne.symm ne_rg1_w2
  have ne_rg2_rg1 : rg2 ≠ rg1 := Ne.symm ne_rg1_rg2
  obtain ⟨Tfl11, Xfl11, efl11, stfl11⟩ := getF X0 hx hZ hown (host := "") (Or.inl (hw _ (List.mem_of_getElem? (i := 10) rfl))) Via.refl e0 F_waits_tb (g := (mkF m 2 #[.val (.ref tb), .val (.ref w1), .val (.ref w2)] [(.ref tb), (.ref w1)])) rfl rfl (hb hby own_d6_2)
  obtain ⟨Tfl12, Xfl12, efl12, stfl12⟩ := getF Xfl11 hx hZ hown (host := "") (Or.inl (hw _ (List.mem_of_getElem? (i := 19) rfl))) Via.refl efl11 F_waitCount_tb (g := (mkF m 6 #[.val (.ref tb), .val (.ref w1), .val (.ref w2)] [(.ref tb), (.ref wa), (.ref w1)])) rfl rfl (hb hby own_d6_6)
  obtain ⟨cqfl13, kqfl13, qfl13a, qfl13b, qfl13c⟩ := isOf hZ efl12 E_w1
  obtain ⟨_, _, ⟨Tfl13, Lfl13, kfl13, nfl13⟩, -, Xfl13, ⟨Lcfl13, hQfl13, lfl13, yfl13, zfl13⟩, stfl13⟩ := Xfl12.virtualBack hx (y := (⟨"millrace/DurationHistogram", "record", "([JI)V"⟩ : MethodName)) (z := (⟨"millrace/DurationHistogram", "record", "([JI)V"⟩ : MethodName)) hown (mvT hZ (hw _ (List.mem_of_getElem? (i := 44) rfl))) (mvT hZ (hw _ (List.mem_of_getElem? (i := 45) rfl))) (notFace_of_selects (args := #[]) (mvT hZ (hw _ (List.mem_of_getElem? (i := 47) rfl)))) (mvT hZ (hw _ (List.mem_of_getElem? (i := 47) rfl))) (mvT hZ (hw _ (List.mem_of_getElem? (i := 46) rfl))) (by decide) (own_backS (W := 0) (own_rm_rec1 l Z a0 hw (ws := [Jvm.Cond.instanceMethod (⟨"millrace/DurationHistogram", "record", "([JI)V"⟩ : MethodName)]) (List.mem_cons_self ..) w1 rg1 wa wl h0 n0 Z0 HH1 HU1 V_wa ne_wa_w1 ne_wa_rg1 HG1 fl1_c9_rc1_hel10 (own_nnA own_nn0 _)) HU1 hZ (hw _ (List.mem_of_getElem? (i := 48) rfl)) (hw _ (List.mem_of_getElem? (i := 46) rfl)) (hw _ (List.mem_of_getElem? (i := 30) rfl)) (by decide) (by decide)) qfl13a qfl13c (g := (mkF m 9 #[.val (.ref tb), .val (.ref w1), .val (.ref w2)] [(.int (1 : Int32)), (.ref wa), (.ref w1)])) rfl (by rw [hml]; rfl) (Steps.refl _) (argsL := [(.ref wa), (.int (1 : Int32))]) (rest := []) (lenOf own_pd_285bJI29V rfl) rfl (by show 2 * 0 + _ ≤ _; exact Nat.le_of_eq rfl) (hb hby own_d6_9) (fun _ _ => ⟨rfl, efl12, (by decide : 0 + 1 ≤ _), (by decide : 0 + 128 ≤ _)⟩)
  dsimp only [Pt.U, Pt.locs, Pt.cells, Pt.slots] at Xfl13 lfl13 yfl13 zfl13 stfl13 hQfl13
  rw [lfl13, yfl13, zfl13] at Xfl13
  obtain ⟨rfl, Nfl13q, Kfl13, Ufl13, asfl13, Hfl13, Qfl13⟩ := hQfl13
  have GAfl13 : ∀ x ∈ asfl13, h0.size ≤ x := fun x hx => Nat.le_trans (Keep.refl h0 [w1, rg1, w2, rg2, tb]).1 (Qfl13 x hx)
  have V_wa_fl13 := V_wa.keep Kfl13 (by simp only [List.mem_cons, List.not_mem_nil, or_false, not_or]; exact ⟨ne_wa_w1, ne_wa_rg1⟩)
  have V_ra_fl13 := V_ra.keep Kfl13 (by simp only [List.mem_cons, List.not_mem_nil, or_false, not_or]; exact ⟨ne_ra_w1, ne_ra_rg1⟩)
  have E_tb_fl13 := E_tb.keep Kfl13
  have F_waits_tb_fl13 := F_waits_tb.keep Kfl13 (by simp only [List.mem_cons, List.not_mem_nil, or_false, not_or]; exact ⟨ne_tb_w1, ne_tb_rg1⟩)
  have F_waitCount_tb_fl13 := F_waitCount_tb.keep Kfl13 (by simp only [List.mem_cons, List.not_mem_nil, or_false, not_or]; exact ⟨ne_tb_w1, ne_tb_rg1⟩)
  have F_runs_tb_fl13 := F_runs_tb.keep Kfl13 (by simp only [List.mem_cons, List.not_mem_nil, or_false, not_or]; exact ⟨ne_tb_w1, ne_tb_rg1⟩)
  have F_runCount_tb_fl13 := F_runCount_tb.keep Kfl13 (by simp only [List.mem_cons, List.not_mem_nil, or_false, not_or]; exact ⟨ne_tb_w1, ne_tb_rg1⟩)
  have E_w2_fl13 := E_w2.keep Kfl13
  have H_w2_fl13 := HH2.keep Kfl13 (by simp only [List.mem_cons, List.not_mem_nil, or_false, not_or]; exact ⟨ne_w2_w1, ne_w2_rg1⟩) (by simp only [List.mem_cons, List.not_mem_nil, or_false, not_or]; exact ⟨ne_rg2_w1, ne_rg2_rg1⟩) (fun x hx => nomatch hx)
  have HU_w2_fl13 := Unt.keep Kfl13 (by simp only [List.mem_cons, List.not_mem_nil, or_false, not_or]; exact ⟨ne_w2_w1, ne_w2_rg1⟩) HU2
  have Zfl13 : n0 ≤ Tfl13.heap.size := Nat.le_trans Z0 Kfl13.1
  have KKfl13 := (Keep.refl h0 [w1, rg1, w2, rg2, tb]).trans Kfl13 (fun q hq => by simp only [List.mem_cons, List.not_mem_nil, or_false] at hq; rcases hq with rfl | rfl <;> first | exact Or.inl (List.mem_of_getElem? (i := 0) rfl) | exact Or.inl (List.mem_of_getElem? (i := 1) rfl))
  have Nfl13 := Fr.app N0 Nfl13q
  obtain ⟨Tfl14, Xfl14, efl14, stfl14⟩ := getF Xfl13 hx hZ hown (host := "") (Or.inl (hw _ (List.mem_of_getElem? (i := 12) rfl))) Via.refl rfl F_runs_tb_fl13 (g := (mkF m 14 #[.val (.ref tb), .val (.ref w1), .val (.ref w2)] [(.ref tb), (.ref w2)])) rfl rfl (hb hby own_d6_14)
  obtain ⟨Tfl15, Xfl15, efl15, stfl15⟩ := getF Xfl14 hx hZ hown (host := "") (Or.inl (hw _ (List.mem_of_getElem? (i := 26) rfl))) Via.refl efl14 F_runCount_tb_fl13 (g := (mkF m 18 #[.val (.ref tb), .val (.ref w1), .val (.ref w2)] [(.ref tb), (.ref ra), (.ref w2)])) rfl rfl (hb hby own_d6_18)
  obtain ⟨cqfl16, kqfl16, qfl16a, qfl16b, qfl16c⟩ := isOf hZ efl15 E_w2_fl13
  obtain ⟨_, _, ⟨Tfl16, Lfl16, kfl16, nfl16⟩, -, Xfl16, ⟨Lcfl16, hQfl16, lfl16, yfl16, zfl16⟩, stfl16⟩ := Xfl15.virtualBack hx (y := (⟨"millrace/DurationHistogram", "record", "([JI)V"⟩ : MethodName)) (z := (⟨"millrace/DurationHistogram", "record", "([JI)V"⟩ : MethodName)) hown (mvT hZ (hw _ (List.mem_of_getElem? (i := 44) rfl))) (mvT hZ (hw _ (List.mem_of_getElem? (i := 45) rfl))) (notFace_of_selects (args := #[]) (mvT hZ (hw _ (List.mem_of_getElem? (i := 47) rfl)))) (mvT hZ (hw _ (List.mem_of_getElem? (i := 47) rfl))) (mvT hZ (hw _ (List.mem_of_getElem? (i := 46) rfl))) (by decide) (own_backS (W := 0) (own_rm_rec0 l Z a0 hw (ws := [Jvm.Cond.instanceMethod (⟨"millrace/DurationHistogram", "record", "([JI)V"⟩ : MethodName)]) (List.mem_cons_self ..) w2 rg2 ra rl Tfl13.heap n0 Zfl13 H_w2_fl13 HU_w2_fl13 V_ra_fl13 ne_ra_w2 ne_ra_rg2 HG2 ) HU_w2_fl13 hZ (hw _ (List.mem_of_getElem? (i := 48) rfl)) (hw _ (List.mem_of_getElem? (i := 46) rfl)) (hw _ (List.mem_of_getElem? (i := 30) rfl)) (by decide) (by decide)) qfl16a qfl16c (g := (mkF m 21 #[.val (.ref tb), .val (.ref w1), .val (.ref w2)] [(.int (0 : Int32)), (.ref ra), (.ref w2)])) rfl (by rw [hml]; rfl) (Steps.refl _) (argsL := [(.ref ra), (.int (0 : Int32))]) (rest := []) (lenOf own_pd_285bJI29V rfl) rfl (by show 2 * 0 + _ ≤ _; exact Nat.le_of_eq rfl) (hb hby own_d6_21) (fun _ _ => ⟨rfl, efl15, (by decide : 1 + 0 ≤ _), (by decide : 128 + 0 ≤ _)⟩)
  dsimp only [Pt.U, Pt.locs, Pt.cells, Pt.slots] at Xfl16 lfl16 yfl16 zfl16 stfl16 hQfl16
  rw [lfl16, yfl16, zfl16] at Xfl16
  obtain ⟨rfl, Nfl16q, Kfl16, Ufl16, asfl16, Hfl16, Qfl16⟩ := hQfl16
  have GAfl16 : ∀ x ∈ asfl16, h0.size ≤ x := fun x hx => Nat.le_trans KKfl13.1 (Qfl16 x hx)
  have V_wa_fl16 := V_wa_fl13.keep Kfl16 (by simp only [List.mem_cons, List.not_mem_nil, or_false, not_or]; exact ⟨ne_wa_w2, ne_wa_rg2⟩)
  have V_ra_fl16 := V_ra_fl13.keep Kfl16 (by simp only [List.mem_cons, List.not_mem_nil, or_false, not_or]; exact ⟨ne_ra_w2, ne_ra_rg2⟩)
  have E_tb_fl16 := E_tb_fl13.keep Kfl16
  have F_waits_tb_fl16 := F_waits_tb_fl13.keep Kfl16 (by simp only [List.mem_cons, List.not_mem_nil, or_false, not_or]; exact ⟨ne_tb_w2, ne_tb_rg2⟩)
  have F_waitCount_tb_fl16 := F_waitCount_tb_fl13.keep Kfl16 (by simp only [List.mem_cons, List.not_mem_nil, or_false, not_or]; exact ⟨ne_tb_w2, ne_tb_rg2⟩)
  have F_runs_tb_fl16 := F_runs_tb_fl13.keep Kfl16 (by simp only [List.mem_cons, List.not_mem_nil, or_false, not_or]; exact ⟨ne_tb_w2, ne_tb_rg2⟩)
  have F_runCount_tb_fl16 := F_runCount_tb_fl13.keep Kfl16 (by simp only [List.mem_cons, List.not_mem_nil, or_false, not_or]; exact ⟨ne_tb_w2, ne_tb_rg2⟩)
  have E_w1_fl16 := Hfl13.exa.keep Kfl16
  have H_w1_fl16 := Hfl13.keep Kfl16 (by simp only [List.mem_cons, List.not_mem_nil, or_false, not_or]; exact ⟨ne_w1_w2, ne_w1_rg2⟩) (by simp only [List.mem_cons, List.not_mem_nil, or_false, not_or]; exact ⟨ne_rg1_w2, ne_rg1_rg2⟩) (fun x hx => by simp only [List.mem_cons, List.not_mem_nil, or_false, not_or]; exact ⟨fun e => absurd lt_w2 (Nat.not_lt.mpr (GAfl13 w2 (e ▸ hx))), fun e => absurd lt_rg2 (Nat.not_lt.mpr (GAfl13 rg2 (e ▸ hx)))⟩)
  have HU_w1_fl16 := Unt.keep Kfl16 (by simp only [List.mem_cons, List.not_mem_nil, or_false, not_or]; exact ⟨ne_w1_w2, ne_w1_rg2⟩) Ufl13
  have Zfl16 : n0 ≤ Tfl16.heap.size := Nat.le_trans Zfl13 Kfl16.1
  have KKfl16 := KKfl13.trans Kfl16 (fun q hq => by simp only [List.mem_cons, List.not_mem_nil, or_false] at hq; rcases hq with rfl | rfl <;> first | exact Or.inl (List.mem_of_getElem? (i := 2) rfl) | exact Or.inl (List.mem_of_getElem? (i := 3) rfl))
  have Nfl16 := Fr.app Nfl13 Nfl16q
  obtain ⟨Tfl17, hfl17, Xfl17, efl17, Wfl17, stfl17⟩ := putF Xfl16 hx hZ hown (host := "") (Or.inl (hw _ (List.mem_of_getElem? (i := 19) rfl))) Via.refl rfl F_waitCount_tb_fl16 E_tb_fl16 (Or.inl (hw _ (List.mem_of_getElem? (i := 20) rfl))) (hw _ (List.mem_of_getElem? (i := 1) rfl)) (ty := .int) (by decide) rfl rfl (g := (mkF m 26 #[.val (.ref tb), .val (.ref w1), .val (.ref w2)] [(.int (0 : Int32)), (.ref tb)])) rfl rfl (hb hby own_d6_26)
  have V_wa_fl17 := V_wa_fl16.other Wfl17 ne_wa_tb
  have V_ra_fl17 := V_ra_fl16.other Wfl17 ne_ra_tb
  have E_tb_fl17 := E_tb_fl16.wr Wfl17
  have E_w1_fl17 := E_w1_fl16.wr Wfl17
  have E_w2_fl17 := Hfl16.exa.wr Wfl17
  have H_w1_fl17 := H_w1_fl16.wr Wfl17 ne_w1_tb ne_rg1_tb (fun q => absurd lt_tb (Nat.not_lt.mpr (GAfl13 tb q)))
  have HU_w1_fl17 := Unt.wr Wfl17 HU_w1_fl16
  have H_w2_fl17 := Hfl16.wr Wfl17 ne_w2_tb ne_rg2_tb (fun q => absurd lt_tb (Nat.not_lt.mpr (GAfl16 tb q)))
  have HU_w2_fl17 := Unt.wr Wfl17 Ufl16
  have Zfl17 : n0 ≤ hfl17.size := Nat.le_trans Zfl16 (Nat.le_of_eq Wfl17.size.symm)
  have KKfl17 := KKfl16.wr Wfl17 (Or.inl (List.mem_of_getElem? (i := 4) rfl))
  have F_waits_tb_fl17 := F_waits_tb_fl16.other Wfl17 (Or.inr (slot_ne (Or.inr (hw _ (List.mem_of_getElem? (i := 11) rfl))) (Or.inl (hw _ (List.mem_of_getElem? (i := 20) rfl))) (by decide) (t := (.array .long)) (t' := .int) (by decide) (by decide)))
  have F_waitCount_tb_fl17 := F_waitCount_tb_fl16.same Wfl17
  have F_runs_tb_fl17 := F_runs_tb_fl16.other Wfl17 (Or.inr (slot_ne (Or.inr (hw _ (List.mem_of_getElem? (i := 13) rfl))) (Or.inl (hw _ (List.mem_of_getElem? (i := 20) rfl))) (by decide) (t := (.array .long)) (t' := .int) (by decide) (by decide)))
  have F_runCount_tb_fl17 := F_runCount_tb_fl16.other Wfl17 (Or.inr (slot_ne (Or.inl (hw _ (List.mem_of_getElem? (i := 27) rfl))) (Or.inl (hw _ (List.mem_of_getElem? (i := 20) rfl))) (by decide) (t := .int) (t' := .int) (by decide) (by decide)))
  have Nfl17 := Fr.snoc Xfl17 Nfl16 g_tb
  obtain ⟨Tfl18, hfl18, Xfl18, efl18, Wfl18, stfl18⟩ := putF Xfl17 hx hZ hown (host := "") (Or.inl (hw _ (List.mem_of_getElem? (i := 26) rfl))) Via.refl efl17 F_runCount_tb_fl17 E_tb_fl17 (Or.inl (hw _ (List.mem_of_getElem? (i := 27) rfl))) (hw _ (List.mem_of_getElem? (i := 1) rfl)) (ty := .int) (by decide) rfl rfl (g := (mkF m 31 #[.val (.ref tb), .val (.ref w1), .val (.ref w2)] [(.int (0 : Int32)), (.ref tb)])) rfl rfl (hb hby own_d6_31)
  have V_wa_fl18 := V_wa_fl17.other Wfl18 ne_wa_tb
  have V_ra_fl18 := V_ra_fl17.other Wfl18 ne_ra_tb
  have E_tb_fl18 := E_tb_fl17.wr Wfl18
  have E_w1_fl18 := E_w1_fl17.wr Wfl18
  have E_w2_fl18 := E_w2_fl17.wr Wfl18
  have H_w1_fl18 := H_w1_fl17.wr Wfl18 ne_w1_tb ne_rg1_tb (fun q => absurd lt_tb (Nat.not_lt.mpr (GAfl13 tb q)))
  have HU_w1_fl18 := Unt.wr Wfl18 HU_w1_fl17
  have H_w2_fl18 := H_w2_fl17.wr Wfl18 ne_w2_tb ne_rg2_tb (fun q => absurd lt_tb (Nat.not_lt.mpr (GAfl16 tb q)))
  have HU_w2_fl18 := Unt.wr Wfl18 HU_w2_fl17
  have Zfl18 : n0 ≤ hfl18.size := Nat.le_trans Zfl17 (Nat.le_of_eq Wfl18.size.symm)
  have KKfl18 := KKfl17.wr Wfl18 (Or.inl (List.mem_of_getElem? (i := 4) rfl))
  have F_waits_tb_fl18 := F_waits_tb_fl17.other Wfl18 (Or.inr (slot_ne (Or.inr (hw _ (List.mem_of_getElem? (i := 11) rfl))) (Or.inl (hw _ (List.mem_of_getElem? (i := 27) rfl))) (by decide) (t := (.array .long)) (t' := .int) (by decide) (by decide)))
  have F_waitCount_tb_fl18 := F_waitCount_tb_fl17.other Wfl18 (Or.inr (slot_ne (Or.inl (hw _ (List.mem_of_getElem? (i := 20) rfl))) (Or.inl (hw _ (List.mem_of_getElem? (i := 27) rfl))) (by decide) (t := .int) (t' := .int) (by decide) (by decide)))
  have F_runs_tb_fl18 := F_runs_tb_fl17.other Wfl18 (Or.inr (slot_ne (Or.inr (hw _ (List.mem_of_getElem? (i := 13) rfl))) (Or.inl (hw _ (List.mem_of_getElem? (i := 27) rfl))) (by decide) (t := (.array .long)) (t' := .int) (by decide) (by decide)))
  have F_runCount_tb_fl18 := F_runCount_tb_fl17.same Wfl18
  have Nfl18 := Fr.snoc Xfl18 Nfl17 g_tb
  obtain ⟨fs, hr, hrun, hended, hW, hsame⟩ := Xfl18.leave (v := none) (fun _ => rfl)
  refine ⟨_, _, pre0 _ ?_, hrun, hended, _, _, rfl, ?_, ⟨_, rfl⟩, hW, hsame.mono (by decide) (by decide)⟩
  · refine own_s_aloadN X0.here hx (hb hby own_d6_0) (pc' := 1) rfl rfl rfl ?_
    refine own_s_aloadN X0.here hx (hb hby own_d6_1) (pc' := 2) rfl rfl rfl ?_
    refine stfl11 _ ?_
    show Steps p.tables e below (Tfl11.setTop (mkF m 5 #[.val (.ref tb), .val (.ref w1), .val (.ref w2)] [(.ref wa), (.ref w1)])) _
    refine own_s_aloadN Xfl11.here hx (hb hby own_d6_5) (pc' := 6) rfl rfl rfl ?_
    refine stfl12 _ ?_
    show Steps p.tables e below (Tfl12.setTop (mkF m 9 #[.val (.ref tb), .val (.ref w1), .val (.ref w2)] [(.int (1 : Int32)), (.ref wa), (.ref w1)])) _
    refine stfl13.trans ?_
    show Steps p.tables e below (Tfl13.setTop (mkF m 12 #[.val (.ref tb), .val (.ref w1), .val (.ref w2)] [])) _
    refine own_s_aloadN Xfl13.here hx (hb hby own_d6_12) (pc' := 13) rfl rfl rfl ?_
    refine own_s_aloadN Xfl13.here hx (hb hby own_d6_13) (pc' := 14) rfl rfl rfl ?_
    refine stfl14 _ ?_
    show Steps p.tables e below (Tfl14.setTop (mkF m 17 #[.val (.ref tb), .val (.ref w1), .val (.ref w2)] [(.ref ra), (.ref w2)])) _
    refine own_s_aloadN Xfl14.here hx (hb hby own_d6_17) (pc' := 18) rfl rfl rfl ?_
    refine stfl15 _ ?_
    show Steps p.tables e below (Tfl15.setTop (mkF m 21 #[.val (.ref tb), .val (.ref w1), .val (.ref w2)] [(.int (0 : Int32)), (.ref ra), (.ref w2)])) _
    refine stfl16.trans ?_
    show Steps p.tables e below (Tfl16.setTop (mkF m 24 #[.val (.ref tb), .val (.ref w1), .val (.ref w2)] [])) _
    refine own_s_aloadN Xfl16.here hx (hb hby own_d6_24) (pc' := 25) rfl rfl rfl ?_
    refine own_s_iconst Xfl16.here hx (hb hby own_d6_25) (pc' := 26) rfl (v := (0 : Int32)) (by decide) ?_
    refine stfl17 _ ?_
    show Steps p.tables e below (Tfl17.setTop (mkF m 29 #[.val (.ref tb), .val (.ref w1), .val (.ref w2)] [])) _
    refine own_s_aloadN Xfl17.here hx (hb hby own_d6_29) (pc' := 30) rfl rfl rfl ?_
    refine own_s_iconst Xfl17.here hx (hb hby own_d6_30) (pc' := 31) rfl (v := (0 : Int32)) (by decide) ?_
    refine stfl18 _ ?_
    show Steps p.tables e below (Tfl18.setTop (mkF m 34 #[.val (.ref tb), .val (.ref w1), .val (.ref w2)] [])) _
    exact Xfl18.returnOut hx Bd.returns (hb hby own_d6_34) hr
  · show own_QF1 Z wa ra w1 rg1 w2 rg2 tb fl1_c9_rc1_v10 h0 n0 _ Tfl18.heap _
    rw [efl18]
    exact ⟨rfl, Nfl18, KKfl18, asfl13, asfl16, H_w1_fl18, HU_w1_fl18, GAfl13, H_w2_fl18, HU_w2_fl18, GAfl16⟩
def own_QF2 (Z : State) (wa ra w1 rg1 w2 rg2 tb : Addr) (fl2_c9_rc2_v10 : Int64) (fl2_c9_rc2_v10_2 : Int64) (h0 : Heap) (n0 : Nat) (v : Option Value) (h : Heap) (L : List Loc) : Prop := v = none ∧ Fr n0 L ∧ Keep h0 h [w1, rg1, w2, rg2, tb] ∧ ∃ as1 as2 : List Addr, own_Hist Z h w1 rg1 as1 ((0 + 1) + 1) ((0 + 1) + 1) (FP.dadd (FP.dadd 0 (FP.l2d (own_lmax (0 : Int64) fl2_c9_rc2_v10))) (FP.l2d (own_lmax (0 : Int64) fl2_c9_rc2_v10_2))) (own_lmax (own_lmax 0 (own_lmax (0 : Int64) fl2_c9_rc2_v10)) (own_lmax (0 : Int64) fl2_c9_rc2_v10_2)) ∧ Unt h w1 ∧ (∀ x ∈ as1, h0.size ≤ x) ∧ own_Hist Z h w2 rg2 as2 0 0 0 0 ∧ Unt h w2 ∧ (∀ x ∈ as2, h0.size ≤ x)
theorem own_ef_fl2 (m : MethodId) (tb : Addr) (w1 : Addr) (w2 : Addr) : entryFrame m #[(.ref tb), (.ref w1), (.ref w2)] 3 = mkF m 0 #[.val (.ref tb), .val (.ref w1), .val (.ref w2)] [] := by first | (simp [entryFrame, mkF, argsToLocals, Value.category]; done) | rfl
set_option maxRecDepth 65536 in
set_option maxHeartbeats 40000000 in
theorem own_rm_fl2 (l : Launch) (Z : State) (a0 : Array Value) (hw : ∀ d ∈ tables_1, d.before a0 Z = true) (ws : List Jvm.Cond) (tb : Addr) (wa : Addr) (ra : Addr) (w1 : Addr) (w2 : Addr) (wl : List Value) (rl : List Value) (rg1 : Addr) (rg2 : Addr) {wak : ClassId} {rak : ClassId} {fl2_c9_rc2_v10 : Int64} {fl2_c9_rc2_v10_2 : Int64} (h0 : Heap) (n0 : Nat) (Z0 : n0 ≤ h0.size) (E_tb : Exa Z h0 tb "millrace/TimingBuffer") (F_waits_tb : Fld Z h0 tb "millrace/TimingBuffer" "waits" "[J" (.ref wa)) (F_waitCount_tb : Fld Z h0 tb "millrace/TimingBuffer" "waitCount" "I" (.int (2 : Int32))) (F_runs_tb : Fld Z h0 tb "millrace/TimingBuffer" "runs" "[J" (.ref ra)) (F_runCount_tb : Fld Z h0 tb "millrace/TimingBuffer" "runCount" "I" (.int (0 : Int32))) (E_w1 : Exa Z h0 w1 "millrace/DurationHistogram") (E_w2 : Exa Z h0 w2 "millrace/DurationHistogram") (V_wa : Arv Z h0 wa wak .long (64 : Int32) wl (.long 0)) (V_ra : Arv Z h0 ra rak .long (64 : Int32) rl (.long 0)) (ne_tb_wa : tb ≠ wa) (ne_tb_ra : tb ≠ ra) (ne_tb_w1 : tb ≠ w1) (ne_tb_rg1 : tb ≠ rg1) (ne_tb_w2 : tb ≠ w2) (ne_tb_rg2 : tb ≠ rg2) (ne_wa_w1 : wa ≠ w1) (ne_wa_rg1 : wa ≠ rg1) (ne_wa_w2 : wa ≠ w2) (ne_wa_rg2 : wa ≠ rg2) (ne_ra_w1 : ra ≠ w1) (ne_ra_rg1 : ra ≠ rg1) (ne_ra_w2 : ra ≠ w2) (ne_ra_rg2 : ra ≠ rg2) (ne_w1_w2 : w1 ≠ w2) (ne_w1_rg2 : w1 ≠ rg2) (ne_rg1_w2 : rg1 ≠ w2) (ne_rg1_rg2 : rg1 ≠ rg2) (g_tb : n0 ≤ tb) (HH1 : own_Hist Z h0 w1 rg1 [] 0 0 0 0) (HU1 : Unt h0 w1) (HH2 : own_Hist Z h0 w2 rg2 [] 0 0 0 0) (HU2 : Unt h0 w2) (HG1 : own_G n0 w1 rg1 []) (HG2 : own_G n0 w2 rg2 []) (fl2_c9_rc2_hel10 : wl.getD (Int32.toNatClampNeg (0 : Int32)) (.long 0) = (.long fl2_c9_rc2_v10)) (fl2_c9_rc2_hel10_2 : wl.getD (Int32.toNatClampNeg (1 : Int32)) (.long 0) = (.long fl2_c9_rc2_v10_2)) :
    MetFree l (⟨"millrace/TimingBuffer", "flush", "(Lmillrace/DurationHistogram;Lmillrace/DurationHistogram;)V"⟩ : MethodName) (head1 (Jvm.Cond.code (⟨"millrace/TimingBuffer", "flush", "(Lmillrace/DurationHistogram;Lmillrace/DurationHistogram;)V"⟩ : MethodName) prog_51_method_5_code 3 none :: ws) ({ frames := 5, cells := 2, slots := 256, locals := 94 } : Room)) (fun a U => a = #[(.ref tb), (.ref w1), (.ref w2)] ∧ Z.Warmed39 U.vm ∧ U.heap = h0) (fun _ _ _ _ _ => True) (fun _ U o U' => ∃ v L, o = .returned v ∧ own_QF2 Z wa ra w1 rg1 w2 rg2 tb fl2_c9_rc2_v10 fl2_c9_rc2_v10_2 h0 n0 v U'.heap L ∧ FrameEnd U o U' L ({ frames := 5, cells := 2, slots := 256, locals := 94 } : Room).cells ({ frames := 5, cells := 2, slots := 256, locals := 94 } : Room).slots) := by
  refine MetFree.of_bodySF (plainFor_of_name own_pn_millrace_TimingBuffer) hisR ?_
  intro p e s m args below meth c s₁ Bd hml0 hP hK
  obtain ⟨rfl, hZ, hh⟩ := hP
  have hx := Bd.exec
  have hby := Bd.bytes
  have hml : c.maxLocals = 3 := hml0
  have hown : s.vm.findClass "millrace/TimingBuffer" = some m.cls := findClass_of_methodNamed Bd.named
  have hnm := (name_of_methodNamed Bd.named Bd.method).1
  have X0 : Stand p l e ({ frames := 5, cells := 2, slots := 256, locals := 94 } : Room) s m #[(.ref tb), (.ref w1), (.ref w2)] below meth c s₁ [] 0 0 := Stand.of_body Bd
  have e0 : s₁.heap = h0 := by rw [← hh, Bd.state]; rfl
  have N0 := Fr.nil n0
  have pre0 : ∀ t, Steps p.tables e below (s₁.setTop (mkF m 0 #[.val (.ref tb), .val (.ref w1), .val (.ref w2)] [])) t → Steps p.tables e below (s₁.setTop (entryFrame m #[(.ref tb), (.ref w1), (.ref w2)] 3)) t := fun t k => castTop (own_ef_fl2 m tb w1 w2) k
  have lt_tb := E_tb.lt
  have lt_w1 := E_w1.lt
  have lt_w2 := E_w2.lt
  have lt_rg1 := HH1.lt.2.1
  have lt_rg2 := HH2.lt.2.1
  have ne_wa_tb : wa ≠ tb := Ne.symm ne_tb_wa
  have ne_ra_tb : ra ≠ tb := Ne.symm ne_tb_ra
  have ne_w1_tb : w1 ≠ tb := Ne.symm ne_tb_w1
  have ne_rg1_tb : rg1 ≠ tb := Ne.symm ne_tb_rg1
  have ne_w2_tb : w2 ≠ tb := Ne.symm ne_tb_w2
  have ne_rg2_tb : rg2 ≠ tb := Ne.symm ne_tb_rg2
  have ne_w1_wa : w1 ≠ wa := Ne.symm ne_wa_w1
  have ne_rg1_wa : rg1 ≠ wa := Ne.symm ne_wa_rg1
  have ne_w2_wa : w2 ≠ wa := Ne.symm ne_wa_w2
  have ne_rg2_wa : rg2 ≠ wa := Ne.symm ne_wa_rg2
  have ne_w1_ra : w1 ≠ ra := Ne.symm ne_ra_w1
  have ne_rg1_ra : rg1 ≠ ra := Ne.symm ne_ra_rg1
  have ne_w2_ra : w2 ≠ ra := Ne.symm ne_ra_w2
  have ne_rg2_ra : rg2 ≠ ra := Ne.symm ne_ra_rg2
  have ne_w2_w1 : w2 ≠ w1 := Ne.symm ne_w1_w2
  have ne_rg2_w1 : rg2 ≠ w1 := Ne.symm ne_w1_rg2
  have ne_w2_rg1 : w2 ≠ rg1 := Ne.symm ne_rg1_w2
  have ne_rg2_rg1 : rg2 ≠ rg1 := Ne.symm ne_rg1_rg2
  obtain ⟨Tfl21, Xfl21, efl21, stfl21⟩ := getF X0 hx hZ hown (host := "") (Or.inl (hw _ (List.mem_of_getElem? (i := 10) rfl))) Via.refl e0 F_waits_tb (g := (mkF m 2 #[.val (.ref tb), .val (.ref w1), .val (.ref w2)] [(.ref tb), (.ref w1)])) rfl rfl (hb hby own_d6_2)
  obtain ⟨Tfl22, Xfl22, efl22, stfl22⟩ := getF Xfl21 hx hZ hown (host := "") (Or.inl (hw _ (List.mem_of_getElem? (i := 19) rfl))) Via.refl efl21 F_waitCount_tb (g := (mkF m 6 #[.val (.ref tb), .val (.ref w1), .val (.ref w2)] [(.ref tb), (.ref wa), (.ref w1)])) rfl rfl (hb hby own_d6_6)
  obtain ⟨cqfl23, kqfl23, qfl23a, qfl23b, qfl23c⟩ := isOf hZ efl22 E_w1
  obtain ⟨_, _, ⟨Tfl23, Lfl23, kfl23, nfl23⟩, -, Xfl23, ⟨Lcfl23, hQfl23, lfl23, yfl23, zfl23⟩, stfl23⟩ := Xfl22.virtualBack hx (y := (⟨"millrace/DurationHistogram", "record", "([JI)V"⟩ : MethodName)) (z := (⟨"millrace/DurationHistogram", "record", "([JI)V"⟩ : MethodName)) hown (mvT hZ (hw _ (List.mem_of_getElem? (i := 44) rfl))) (mvT hZ (hw _ (List.mem_of_getElem? (i := 45) rfl))) (notFace_of_selects (args := #[]) (mvT hZ (hw _ (List.mem_of_getElem? (i := 47) rfl)))) (mvT hZ (hw _ (List.mem_of_getElem? (i := 47) rfl))) (mvT hZ (hw _ (List.mem_of_getElem? (i := 46) rfl))) (by decide) (own_backS (W := 0) (own_rm_rec2 l Z a0 hw (ws := [Jvm.Cond.instanceMethod (⟨"millrace/DurationHistogram", "record", "([JI)V"⟩ : MethodName)]) (List.mem_cons_self ..) w1 rg1 wa wl h0 n0 Z0 HH1 HU1 V_wa ne_wa_w1 ne_wa_rg1 HG1 fl2_c9_rc2_hel10 (own_nnA own_nn0 _) fl2_c9_rc2_hel10_2 (own_nnA (own_nnA own_nn0 _) _)) HU1 hZ (hw _ (List.mem_of_getElem? (i := 48) rfl)) (hw _ (List.mem_of_getElem? (i := 46) rfl)) (hw _ (List.mem_of_getElem? (i := 30) rfl)) (by decide) (by decide)) qfl23a qfl23c (g := (mkF m 9 #[.val (.ref tb), .val (.ref w1), .val (.ref w2)] [(.int (2 : Int32)), (.ref wa), (.ref w1)])) rfl (by rw [hml]; rfl) (Steps.refl _) (argsL := [(.ref wa), (.int (2 : Int32))]) (rest := []) (lenOf own_pd_285bJI29V rfl) rfl (by show 2 * 0 + _ ≤ _; exact Nat.le_of_eq rfl) (hb hby own_d6_9) (fun _ _ => ⟨rfl, efl22, (by decide : 0 + 2 ≤ _), (by decide : 0 + 256 ≤ _)⟩)
  dsimp only [Pt.U, Pt.locs, Pt.cells, Pt.slots] at Xfl23 lfl23 yfl23 zfl23 stfl23 hQfl23
  rw [lfl23, yfl23, zfl23] at Xfl23
  obtain ⟨rfl, Nfl23q, Kfl23, Ufl23, asfl23, Hfl23, Qfl23⟩ := hQfl23
  have GAfl23 : ∀ x ∈ asfl23, h0.size ≤ x := fun x hx => Nat.le_trans (Keep.refl h0 [w1, rg1, w2, rg2, tb]).1 (Qfl23 x hx)
  have V_wa_fl23 := V_wa.keep Kfl23 (by simp only [List.mem_cons, List.not_mem_nil, or_false, not_or]; exact ⟨ne_wa_w1, ne_wa_rg1⟩)
  have V_ra_fl23 := V_ra.keep Kfl23 (by simp only [List.mem_cons, List.not_mem_nil, or_false, not_or]; exact ⟨ne_ra_w1, ne_ra_rg1⟩)
  have E_tb_fl23 := E_tb.keep Kfl23
  have F_waits_tb_fl23 := F_waits_tb.keep Kfl23 (by simp only [List.mem_cons, List.not_mem_nil, or_false, not_or]; exact ⟨ne_tb_w1, ne_tb_rg1⟩)
  have F_waitCount_tb_fl23 := F_waitCount_tb.keep Kfl23 (by simp only [List.mem_cons, List.not_mem_nil, or_false, not_or]; exact ⟨ne_tb_w1, ne_tb_rg1⟩)
  have F_runs_tb_fl23 := F_runs_tb.keep Kfl23 (by simp only [List.mem_cons, List.not_mem_nil, or_false, not_or]; exact ⟨ne_tb_w1, ne_tb_rg1⟩)
  have F_runCount_tb_fl23 := F_runCount_tb.keep Kfl23 (by simp only [List.mem_cons, List.not_mem_nil, or_false, not_or]; exact ⟨ne_tb_w1, ne_tb_rg1⟩)
  have E_w2_fl23 := E_w2.keep Kfl23
  have H_w2_fl23 := HH2.keep Kfl23 (by simp only [List.mem_cons, List.not_mem_nil, or_false, not_or]; exact ⟨ne_w2_w1, ne_w2_rg1⟩) (by simp only [List.mem_cons, List.not_mem_nil, or_false, not_or]; exact ⟨ne_rg2_w1, ne_rg2_rg1⟩) (fun x hx => nomatch hx)
  have HU_w2_fl23 := Unt.keep Kfl23 (by simp only [List.mem_cons, List.not_mem_nil, or_false, not_or]; exact ⟨ne_w2_w1, ne_w2_rg1⟩) HU2
  have Zfl23 : n0 ≤ Tfl23.heap.size := Nat.le_trans Z0 Kfl23.1
  have KKfl23 := (Keep.refl h0 [w1, rg1, w2, rg2, tb]).trans Kfl23 (fun q hq => by simp only [List.mem_cons, List.not_mem_nil, or_false] at hq; rcases hq with rfl | rfl <;> first | exact Or.inl (List.mem_of_getElem? (i := 0) rfl) | exact Or.inl (List.mem_of_getElem? (i := 1) rfl))
  have Nfl23 := Fr.app N0 Nfl23q
  obtain ⟨Tfl24, Xfl24, efl24, stfl24⟩ := getF Xfl23 hx hZ hown (host := "") (Or.inl (hw _ (List.mem_of_getElem? (i := 12) rfl))) Via.refl rfl F_runs_tb_fl23 (g := (mkF m 14 #[.val (.ref tb), .val (.ref w1), .val (.ref w2)] [(.ref tb), (.ref w2)])) rfl rfl (hb hby own_d6_14)
  obtain ⟨Tfl25, Xfl25, efl25, stfl25⟩ := getF Xfl24 hx hZ hown (host := "") (Or.inl (hw _ (List.mem_of_getElem? (i := 26) rfl))) Via.refl efl24 F_runCount_tb_fl23 (g := (mkF m 18 #[.val (.ref tb), .val (.ref w1), .val (.ref w2)] [(.ref tb), (.ref ra), (.ref w2)])) rfl rfl (hb hby own_d6_18)
  obtain ⟨cqfl26, kqfl26, qfl26a, qfl26b, qfl26c⟩ := isOf hZ efl25 E_w2_fl23
  obtain ⟨_, _, ⟨Tfl26, Lfl26, kfl26, nfl26⟩, -, Xfl26, ⟨Lcfl26, hQfl26, lfl26, yfl26, zfl26⟩, stfl26⟩ := Xfl25.virtualBack hx (y := (⟨"millrace/DurationHistogram", "record", "([JI)V"⟩ : MethodName)) (z := (⟨"millrace/DurationHistogram", "record", "([JI)V"⟩ : MethodName)) hown (mvT hZ (hw _ (List.mem_of_getElem? (i := 44) rfl))) (mvT hZ (hw _ (List.mem_of_getElem? (i := 45) rfl))) (notFace_of_selects (args := #[]) (mvT hZ (hw _ (List.mem_of_getElem? (i := 47) rfl)))) (mvT hZ (hw _ (List.mem_of_getElem? (i := 47) rfl))) (mvT hZ (hw _ (List.mem_of_getElem? (i := 46) rfl))) (by decide) (own_backS (W := 0) (own_rm_rec0 l Z a0 hw (ws := [Jvm.Cond.instanceMethod (⟨"millrace/DurationHistogram", "record", "([JI)V"⟩ : MethodName)]) (List.mem_cons_self ..) w2 rg2 ra rl Tfl23.heap n0 Zfl23 H_w2_fl23 HU_w2_fl23 V_ra_fl23 ne_ra_w2 ne_ra_rg2 HG2 ) HU_w2_fl23 hZ (hw _ (List.mem_of_getElem? (i := 48) rfl)) (hw _ (List.mem_of_getElem? (i := 46) rfl)) (hw _ (List.mem_of_getElem? (i := 30) rfl)) (by decide) (by decide)) qfl26a qfl26c (g := (mkF m 21 #[.val (.ref tb), .val (.ref w1), .val (.ref w2)] [(.int (0 : Int32)), (.ref ra), (.ref w2)])) rfl (by rw [hml]; rfl) (Steps.refl _) (argsL := [(.ref ra), (.int (0 : Int32))]) (rest := []) (lenOf own_pd_285bJI29V rfl) rfl (by show 2 * 0 + _ ≤ _; exact Nat.le_of_eq rfl) (hb hby own_d6_21) (fun _ _ => ⟨rfl, efl25, (by decide : 2 + 0 ≤ _), (by decide : 256 + 0 ≤ _)⟩)
  dsimp only [Pt.U, Pt.locs, Pt.cells, Pt.slots] at Xfl26 lfl26 yfl26 zfl26 stfl26 hQfl26
  rw [lfl26, yfl26, zfl26] at Xfl26
  obtain ⟨rfl, Nfl26q, Kfl26, Ufl26, asfl26, Hfl26, Qfl26⟩ := hQfl26
  have GAfl26 : ∀ x ∈ asfl26, h0.size ≤ x := fun x hx => Nat.le_trans KKfl23.1 (Qfl26 x hx)
  have V_wa_fl26 := V_wa_fl23.keep Kfl26 (by simp only [List.mem_cons, List.not_mem_nil, or_false, not_or]; exact ⟨ne_wa_w2, ne_wa_rg2⟩)
  have V_ra_fl26 := V_ra_fl23.keep Kfl26 (by simp only [List.mem_cons, List.not_mem_nil, or_false, not_or]; exact ⟨ne_ra_w2, ne_ra_rg2⟩)
  have E_tb_fl26 := E_tb_fl23.keep Kfl26
  have F_waits_tb_fl26 := F_waits_tb_fl23.keep Kfl26 (by simp only [List.mem_cons, List.not_mem_nil, or_false, not_or]; exact ⟨ne_tb_w2, ne_tb_rg2⟩)
  have F_waitCount_tb_fl26 := F_waitCount_tb_fl23.keep Kfl26 (by simp only [List.mem_cons, List.not_mem_nil, or_false, not_or]; exact ⟨ne_tb_w2, ne_tb_rg2⟩)
  have F_runs_tb_fl26 := F_runs_tb_fl23.keep Kfl26 (by simp only [List.mem_cons, List.not_mem_nil, or_false, not_or]; exact ⟨ne_tb_w2, ne_tb_rg2⟩)
  have F_runCount_tb_fl26 := F_runCount_tb_fl23.keep Kfl26 (by simp only [List.mem_cons, List.not_mem_nil, or_false, not_or]; exact ⟨ne_tb_w2, ne_tb_rg2⟩)
  have E_w1_fl26 := Hfl23.exa.keep Kfl26
  have H_w1_fl26 := Hfl23.keep Kfl26 (by simp only [List.mem_cons, List.not_mem_nil, or_false, not_or]; exact ⟨ne_w1_w2, ne_w1_rg2⟩) (by simp only [List.mem_cons, List.not_mem_nil, or_false, not_or]; exact ⟨ne_rg1_w2, ne_rg1_rg2⟩) (fun x hx => by simp only [List.mem_cons, List.not_mem_nil, or_false, not_or]; exact ⟨fun e => absurd lt_w2 (Nat.not_lt.mpr (GAfl23 w2 (e ▸ hx))), fun e => absurd lt_rg2 (Nat.not_lt.mpr (GAfl23 rg2 (e ▸ hx)))⟩)
  have HU_w1_fl26 := Unt.keep Kfl26 (by simp only [List.mem_cons, List.not_mem_nil, or_false, not_or]; exact ⟨ne_w1_w2, ne_w1_rg2⟩) Ufl23
  have Zfl26 : n0 ≤ Tfl26.heap.size := Nat.le_trans Zfl23 Kfl26.1
  have KKfl26 := KKfl23.trans Kfl26 (fun q hq => by simp only [List.mem_cons, List.not_mem_nil, or_false] at hq; rcases hq with rfl | rfl <;> first | exact Or.inl (List.mem_of_getElem? (i := 2) rfl) | exact Or.inl (List.mem_of_getElem? (i := 3) rfl))
  have Nfl26 := Fr.app Nfl23 Nfl26q
  obtain ⟨Tfl27, hfl27, Xfl27, efl27, Wfl27, stfl27⟩ := putF Xfl26 hx hZ hown (host := "") (Or.inl (hw _ (List.mem_of_getElem? (i := 19) rfl))) Via.refl rfl F_waitCount_tb_fl26 E_tb_fl26 (Or.inl (hw _ (List.mem_of_getElem? (i := 20) rfl))) (hw _ (List.mem_of_getElem? (i := 1) rfl)) (ty := .int) (by decide) rfl rfl (g := (mkF m 26 #[.val (.ref tb), .val (.ref w1), .val (.ref w2)] [(.int (0 : Int32)), (.ref tb)])) rfl rfl (hb hby own_d6_26)
  have V_wa_fl27 := V_wa_fl26.other Wfl27 ne_wa_tb
  have V_ra_fl27 := V_ra_fl26.other Wfl27 ne_ra_tb
  have E_tb_fl27 := E_tb_fl26.wr Wfl27
  have E_w1_fl27 := E_w1_fl26.wr Wfl27
  have E_w2_fl27 := Hfl26.exa.wr Wfl27
  have H_w1_fl27 := H_w1_fl26.wr Wfl27 ne_w1_tb ne_rg1_tb (fun q => absurd lt_tb (Nat.not_lt.mpr (GAfl23 tb q)))
  have HU_w1_fl27 := Unt.wr Wfl27 HU_w1_fl26
  have H_w2_fl27 := Hfl26.wr Wfl27 ne_w2_tb ne_rg2_tb (fun q => absurd lt_tb (Nat.not_lt.mpr (GAfl26 tb q)))
  have HU_w2_fl27 := Unt.wr Wfl27 Ufl26
  have Zfl27 : n0 ≤ hfl27.size := Nat.le_trans Zfl26 (Nat.le_of_eq Wfl27.size.symm)
  have KKfl27 := KKfl26.wr Wfl27 (Or.inl (List.mem_of_getElem? (i := 4) rfl))
  have F_waits_tb_fl27 := F_waits_tb_fl26.other Wfl27 (Or.inr (slot_ne (Or.inr (hw _ (List.mem_of_getElem? (i := 11) rfl))) (Or.inl (hw _ (List.mem_of_getElem? (i := 20) rfl))) (by decide) (t := (.array .long)) (t' := .int) (by decide) (by decide)))
  have F_waitCount_tb_fl27 := F_waitCount_tb_fl26.same Wfl27
  have F_runs_tb_fl27 := F_runs_tb_fl26.other Wfl27 (Or.inr (slot_ne (Or.inr (hw _ (List.mem_of_getElem? (i := 13) rfl))) (Or.inl (hw _ (List.mem_of_getElem? (i := 20) rfl))) (by decide) (t := (.array .long)) (t' := .int) (by decide) (by decide)))
  have F_runCount_tb_fl27 := F_runCount_tb_fl26.other Wfl27 (Or.inr (slot_ne (Or.inl (hw _ (List.mem_of_getElem? (i := 27) rfl))) (Or.inl (hw _ (List.mem_of_getElem? (i := 20) rfl))) (by decide) (t := .int) (t' := .int) (by decide) (by decide)))
  have Nfl27 := Fr.snoc Xfl27 Nfl26 g_tb
  obtain ⟨Tfl28, hfl28, Xfl28, efl28, Wfl28, stfl28⟩ := putF Xfl27 hx hZ hown (host := "") (Or.inl (hw _ (List.mem_of_getElem? (i := 26) rfl))) Via.refl efl27 F_runCount_tb_fl27 E_tb_fl27 (Or.inl (hw _ (List.mem_of_getElem? (i := 27) rfl))) (hw _ (List.mem_of_getElem? (i := 1) rfl)) (ty := .int) (by decide) rfl rfl (g := (mkF m 31 #[.val (.ref tb), .val (.ref w1), .val (.ref w2)] [(.int (0 : Int32)), (.ref tb)])) rfl rfl (hb hby own_d6_31)
  have V_wa_fl28 := V_wa_fl27.other Wfl28 ne_wa_tb
  have V_ra_fl28 := V_ra_fl27.other Wfl28 ne_ra_tb
  have E_tb_fl28 := E_tb_fl27.wr Wfl28
  have E_w1_fl28 := E_w1_fl27.wr Wfl28
  have E_w2_fl28 := E_w2_fl27.wr Wfl28
  have H_w1_fl28 := H_w1_fl27.wr Wfl28 ne_w1_tb ne_rg1_tb (fun q => absurd lt_tb (Nat.not_lt.mpr (GAfl23 tb q)))
  have HU_w1_fl28 := Unt.wr Wfl28 HU_w1_fl27
  have H_w2_fl28 := H_w2_fl27.wr Wfl28 ne_w2_tb ne_rg2_tb (fun q => absurd lt_tb (Nat.not_lt.mpr (GAfl26 tb q)))
  have HU_w2_fl28 := Unt.wr Wfl28 HU_w2_fl27
  have Zfl28 : n0 ≤ hfl28.size := Nat.le_trans Zfl27 (Nat.le_of_eq Wfl28.size.symm)
  have KKfl28 := KKfl27.wr Wfl28 (Or.inl (List.mem_of_getElem? (i := 4) rfl))
  have F_waits_tb_fl28 := F_waits_tb_fl27.other Wfl28 (Or.inr (slot_ne (Or.inr (hw _ (List.mem_of_getElem? (i := 11) rfl))) (Or.inl (hw _ (List.mem_of_getElem? (i := 27) rfl))) (by decide) (t := (.array .long)) (t' := .int) (by decide) (by decide)))
  have F_waitCount_tb_fl28 := F_waitCount_tb_fl27.other Wfl28 (Or.inr (slot_ne (Or.inl (hw _ (List.mem_of_getElem? (i := 20) rfl))) (Or.inl (hw _ (List.mem_of_getElem? (i := 27) rfl))) (by decide) (t := .int) (t' := .int) (by decide) (by decide)))
  have F_runs_tb_fl28 := F_runs_tb_fl27.other Wfl28 (Or.inr (slot_ne (Or.inr (hw _ (List.mem_of_getElem? (i := 13) rfl))) (Or.inl (hw _ (List.mem_of_getElem? (i := 27) rfl))) (by decide) (t := (.array .long)) (t' := .int) (by decide) (by decide)))
  have F_runCount_tb_fl28 := F_runCount_tb_fl27.same Wfl28
  have Nfl28 := Fr.snoc Xfl28 Nfl27 g_tb
  obtain ⟨fs, hr, hrun, hended, hW, hsame⟩ := Xfl28.leave (v := none) (fun _ => rfl)
  refine ⟨_, _, pre0 _ ?_, hrun, hended, _, _, rfl, ?_, ⟨_, rfl⟩, hW, hsame.mono (by decide) (by decide)⟩
  · refine own_s_aloadN X0.here hx (hb hby own_d6_0) (pc' := 1) rfl rfl rfl ?_
    refine own_s_aloadN X0.here hx (hb hby own_d6_1) (pc' := 2) rfl rfl rfl ?_
    refine stfl21 _ ?_
    show Steps p.tables e below (Tfl21.setTop (mkF m 5 #[.val (.ref tb), .val (.ref w1), .val (.ref w2)] [(.ref wa), (.ref w1)])) _
    refine own_s_aloadN Xfl21.here hx (hb hby own_d6_5) (pc' := 6) rfl rfl rfl ?_
    refine stfl22 _ ?_
    show Steps p.tables e below (Tfl22.setTop (mkF m 9 #[.val (.ref tb), .val (.ref w1), .val (.ref w2)] [(.int (2 : Int32)), (.ref wa), (.ref w1)])) _
    refine stfl23.trans ?_
    show Steps p.tables e below (Tfl23.setTop (mkF m 12 #[.val (.ref tb), .val (.ref w1), .val (.ref w2)] [])) _
    refine own_s_aloadN Xfl23.here hx (hb hby own_d6_12) (pc' := 13) rfl rfl rfl ?_
    refine own_s_aloadN Xfl23.here hx (hb hby own_d6_13) (pc' := 14) rfl rfl rfl ?_
    refine stfl24 _ ?_
    show Steps p.tables e below (Tfl24.setTop (mkF m 17 #[.val (.ref tb), .val (.ref w1), .val (.ref w2)] [(.ref ra), (.ref w2)])) _
    refine own_s_aloadN Xfl24.here hx (hb hby own_d6_17) (pc' := 18) rfl rfl rfl ?_
    refine stfl25 _ ?_
    show Steps p.tables e below (Tfl25.setTop (mkF m 21 #[.val (.ref tb), .val (.ref w1), .val (.ref w2)] [(.int (0 : Int32)), (.ref ra), (.ref w2)])) _
    refine stfl26.trans ?_
    show Steps p.tables e below (Tfl26.setTop (mkF m 24 #[.val (.ref tb), .val (.ref w1), .val (.ref w2)] [])) _
    refine own_s_aloadN Xfl26.here hx (hb hby own_d6_24) (pc' := 25) rfl rfl rfl ?_
    refine own_s_iconst Xfl26.here hx (hb hby own_d6_25) (pc' := 26) rfl (v := (0 : Int32)) (by decide) ?_
    refine stfl27 _ ?_
    show Steps p.tables e below (Tfl27.setTop (mkF m 29 #[.val (.ref tb), .val (.ref w1), .val (.ref w2)] [])) _
    refine own_s_aloadN Xfl27.here hx (hb hby own_d6_29) (pc' := 30) rfl rfl rfl ?_
    refine own_s_iconst Xfl27.here hx (hb hby own_d6_30) (pc' := 31) rfl (v := (0 : Int32)) (by decide) ?_
    refine stfl28 _ ?_
    show Steps p.tables e below (Tfl28.setTop (mkF m 34 #[.val (.ref tb), .val (.ref w1), .val (.ref w2)] [])) _
    exact Xfl28.returnOut hx Bd.returns (hb hby own_d6_34) hr
  · show own_QF2 Z wa ra w1 rg1 w2 rg2 tb fl2_c9_rc2_v10 fl2_c9_rc2_v10_2 h0 n0 _ Tfl28.heap _
    rw [efl28]
    exact ⟨rfl, Nfl28, KKfl28, asfl23, asfl26, H_w1_fl28, HU_w1_fl28, GAfl23, H_w2_fl28, HU_w2_fl28, GAfl26⟩
def own_QF3 (Z : State) (wa ra w1 rg1 w2 rg2 tb : Addr) (fl3_c9_rc3_v10 : Int64) (fl3_c9_rc3_v10_2 : Int64) (fl3_c9_rc3_v10_3 : Int64) (h0 : Heap) (n0 : Nat) (v : Option Value) (h : Heap) (L : List Loc) : Prop := v = none ∧ Fr n0 L ∧ Keep h0 h [w1, rg1, w2, rg2, tb] ∧ ∃ as1 as2 : List Addr, own_Hist Z h w1 rg1 as1 (((0 + 1) + 1) + 1) (((0 + 1) + 1) + 1) (FP.dadd (FP.dadd (FP.dadd 0 (FP.l2d (own_lmax (0 : Int64) fl3_c9_rc3_v10))) (FP.l2d (own_lmax (0 : Int64) fl3_c9_rc3_v10_2))) (FP.l2d (own_lmax (0 : Int64) fl3_c9_rc3_v10_3))) (own_lmax (own_lmax (own_lmax 0 (own_lmax (0 : Int64) fl3_c9_rc3_v10)) (own_lmax (0 : Int64) fl3_c9_rc3_v10_2)) (own_lmax (0 : Int64) fl3_c9_rc3_v10_3)) ∧ Unt h w1 ∧ (∀ x ∈ as1, h0.size ≤ x) ∧ own_Hist Z h w2 rg2 as2 0 0 0 0 ∧ Unt h w2 ∧ (∀ x ∈ as2, h0.size ≤ x)
theorem own_ef_fl3 (m : MethodId) (tb : Addr) (w1 : Addr) (w2 : Addr) : entryFrame m #[(.ref tb), (.ref w1), (.ref w2)] 3 = mkF m 0 #[.val (.ref tb), .val (.ref w1), .val (.ref w2)] [] := by first | (simp [entryFrame, mkF, argsToLocals, Value.category]; done) | rfl
set_option maxRecDepth 65536 in
set_option maxHeartbeats 40000000 in
theorem own_rm_fl3 (l : Launch) (Z : State) (a0 : Array Value) (hw : ∀ d ∈ tables_1, d.before a0 Z = true) (ws : List Jvm.Cond) (tb : Addr) (wa : Addr) (ra : Addr) (w1 : Addr) (w2 : Addr) (wl : List Value) (rl : List Value) (rg1 : Addr) (rg2 : Addr) {wak : ClassId} {rak : ClassId} {fl3_c9_rc3_v10 : Int64} {fl3_c9_rc3_v10_2 : Int64} {fl3_c9_rc3_v10_3 : Int64} (h0 : Heap) (n0 : Nat) (Z0 : n0 ≤ h0.size) (E_tb : Exa Z h0 tb "millrace/TimingBuffer") (F_waits_tb : Fld Z h0 tb "millrace/TimingBuffer" "waits" "[J" (.ref wa)) (F_waitCount_tb : Fld Z h0 tb "millrace/TimingBuffer" "waitCount" "I" (.int (3 : Int32))) (F_runs_tb : Fld Z h0 tb "millrace/TimingBuffer" "runs" "[J" (.ref ra)) (F_runCount_tb : Fld Z h0 tb "millrace/TimingBuffer" "runCount" "I" (.int (0 : Int32))) (E_w1 : Exa Z h0 w1 "millrace/DurationHistogram") (E_w2 : Exa Z h0 w2 "millrace/DurationHistogram") (V_wa : Arv Z h0 wa wak .long (64 : Int32) wl (.long 0)) (V_ra : Arv Z h0 ra rak .long (64 : Int32) rl (.long 0)) (ne_tb_wa : tb ≠ wa) (ne_tb_ra : tb ≠ ra) (ne_tb_w1 : tb ≠ w1) (ne_tb_rg1 : tb ≠ rg1) (ne_tb_w2 : tb ≠ w2) (ne_tb_rg2 : tb ≠ rg2) (ne_wa_w1 : wa ≠ w1) (ne_wa_rg1 : wa ≠ rg1) (ne_wa_w2 : wa ≠ w2) (ne_wa_rg2 : wa ≠ rg2) (ne_ra_w1 : ra ≠ w1) (ne_ra_rg1 : ra ≠ rg1) (ne_ra_w2 : ra ≠ w2) (ne_ra_rg2 : ra ≠ rg2) (ne_w1_w2 : w1 ≠ w2) (ne_w1_rg2 : w1 ≠ rg2) (ne_rg1_w2 : rg1 ≠ w2) (ne_rg1_rg2 : rg1 ≠ rg2) (g_tb : n0 ≤ tb) (HH1 : own_Hist Z h0 w1 rg1 [] 0 0 0 0) (HU1 : Unt h0 w1) (HH2 : own_Hist Z h0 w2 rg2 [] 0 0 0 0) (HU2 : Unt h0 w2) (HG1 : own_G n0 w1 rg1 []) (HG2 : own_G n0 w2 rg2 []) (fl3_c9_rc3_hel10 : wl.getD (Int32.toNatClampNeg (0 : Int32)) (.long 0) = (.long fl3_c9_rc3_v10)) (fl3_c9_rc3_hel10_2 : wl.getD (Int32.toNatClampNeg (1 : Int32)) (.long 0) = (.long fl3_c9_rc3_v10_2)) (fl3_c9_rc3_hel10_3 : wl.getD (Int32.toNatClampNeg (2 : Int32)) (.long 0) = (.long fl3_c9_rc3_v10_3)) :
    MetFree l (⟨"millrace/TimingBuffer", "flush", "(Lmillrace/DurationHistogram;Lmillrace/DurationHistogram;)V"⟩ : MethodName) (head1 (Jvm.Cond.code (⟨"millrace/TimingBuffer", "flush", "(Lmillrace/DurationHistogram;Lmillrace/DurationHistogram;)V"⟩ : MethodName) prog_51_method_5_code 3 none :: ws) ({ frames := 5, cells := 3, slots := 384, locals := 94 } : Room)) (fun a U => a = #[(.ref tb), (.ref w1), (.ref w2)] ∧ Z.Warmed39 U.vm ∧ U.heap = h0) (fun _ _ _ _ _ => True) (fun _ U o U' => ∃ v L, o = .returned v ∧ own_QF3 Z wa ra w1 rg1 w2 rg2 tb fl3_c9_rc3_v10 fl3_c9_rc3_v10_2 fl3_c9_rc3_v10_3 h0 n0 v U'.heap L ∧ FrameEnd U o U' L ({ frames := 5, cells := 3, slots := 384, locals := 94 } : Room).cells ({ frames := 5, cells := 3, slots := 384, locals := 94 } : Room).slots) := by
  refine MetFree.of_bodySF (plainFor_of_name own_pn_millrace_TimingBuffer) hisR ?_
  intro p e s m args below meth c s₁ Bd hml0 hP hK
  obtain ⟨rfl, hZ, hh⟩ := hP
  have hx := Bd.exec
  have hby := Bd.bytes
  have hml : c.maxLocals = 3 := hml0
  have hown : s.vm.findClass "millrace/TimingBuffer" = some m.cls := findClass_of_methodNamed Bd.named
  have hnm := (name_of_methodNamed Bd.named Bd.method).1
  have X0 : Stand p l e ({ frames := 5, cells := 3, slots := 384, locals := 94 } : Room) s m #[(.ref tb), (.ref w1), (.ref w2)] below meth c s₁ [] 0 0 := Stand.of_body Bd
  have e0 : s₁.heap = h0 := by rw [← hh, Bd.state]; rfl
  have N0 := Fr.nil n0
  have pre0 : ∀ t, Steps p.tables e below (s₁.setTop (mkF m 0 #[.val (.ref tb), .val (.ref w1), .val (.ref w2)] [])) t → Steps p.tables e below (s₁.setTop (entryFrame m #[(.ref tb), (.ref w1), (.ref w2)] 3)) t := fun t k => castTop (own_ef_fl3 m tb w1 w2) k
  have lt_tb := E_tb.lt
  have lt_w1 := E_w1.lt
  have lt_w2 := E_w2.lt
  have lt_rg1 := HH1.lt.2.1
  have lt_rg2 := HH2.lt.2.1
  have ne_wa_tb : wa ≠ tb := Ne.symm ne_tb_wa
  have ne_ra_tb : ra ≠ tb := Ne.symm ne_tb_ra
  have ne_w1_tb : w1 ≠ tb := Ne.symm ne_tb_w1
  have ne_rg1_tb : rg1 ≠ tb := Ne.symm ne_tb_rg1
  have ne_w2_tb : w2 ≠ tb := Ne.symm ne_tb_w2
  have ne_rg2_tb : rg2 ≠ tb := Ne.symm ne_tb_rg2
  have ne_w1_wa : w1 ≠ wa := Ne.symm ne_wa_w1
  have ne_rg1_wa : rg1 ≠ wa := Ne.symm ne_wa_rg1
  have ne_w2_wa : w2 ≠ wa := Ne.symm ne_wa_w2
  have ne_rg2_wa : rg2 ≠ wa := Ne.symm ne_wa_rg2
  have ne_w1_ra : w1 ≠ ra := Ne.symm ne_ra_w1
  have ne_rg1_ra : rg1 ≠ ra := Ne.symm ne_ra_rg1
  have ne_w2_ra : w2 ≠ ra := Ne.symm ne_ra_w2
  have ne_rg2_ra : rg2 ≠ ra := Ne.symm ne_ra_rg2
  have ne_w2_w1 : w2 ≠ w1 := Ne.symm ne_w1_w2
  have ne_rg2_w1 : rg2 ≠ w1 := Ne.symm ne_w1_rg2
  have ne_w2_rg1 : w2 ≠ rg1 := Ne.symm ne_rg1_w2
  have ne_rg2_rg1 : rg2 ≠ rg1 := Ne.symm ne_rg1_rg2
  obtain ⟨Tfl31, Xfl31, efl31, stfl31⟩ := getF X0 hx hZ hown (host := "") (Or.inl (hw _ (List.mem_of_getElem? (i := 10) rfl))) Via.refl e0 F_waits_tb (g := (mkF m 2 #[.val (.ref tb), .val (.ref w1), .val (.ref w2)] [(.ref tb), (.ref w1)])) rfl rfl (hb hby own_d6_2)
  obtain ⟨Tfl32, Xfl32, efl32, stfl32⟩ := getF Xfl31 hx hZ hown (host := "") (Or.inl (hw _ (List.mem_of_getElem? (i := 19) rfl))) Via.refl efl31 F_waitCount_tb (g := (mkF m 6 #[.val (.ref tb), .val (.ref w1), .val (.ref w2)] [(.ref tb), (.ref wa), (.ref w1)])) rfl rfl (hb hby own_d6_6)
  obtain ⟨cqfl33, kqfl33, qfl33a, qfl33b, qfl33c⟩ := isOf hZ efl32 E_w1
  obtain ⟨_, _, ⟨Tfl33, Lfl33, kfl33, nfl33⟩, -, Xfl33, ⟨Lcfl33, hQfl33, lfl33, yfl33, zfl33⟩, stfl33⟩ := Xfl32.virtualBack hx (y := (⟨"millrace/DurationHistogram", "record", "([JI)V"⟩ : MethodName)) (z := (⟨"millrace/DurationHistogram", "record", "([JI)V"⟩ : MethodName)) hown (mvT hZ (hw _ (List.mem_of_getElem? (i := 44) rfl))) (mvT hZ (hw _ (List.mem_of_getElem? (i := 45) rfl))) (notFace_of_selects (args := #[]) (mvT hZ (hw _ (List.mem_of_getElem? (i := 47) rfl)))) (mvT hZ (hw _ (List.mem_of_getElem? (i := 47) rfl))) (mvT hZ (hw _ (List.mem_of_getElem? (i := 46) rfl))) (by decide) (own_backS (W := 0) (own_rm_rec3 l Z a0 hw (ws := [Jvm.Cond.instanceMethod (⟨"millrace/DurationHistogram", "record", "([JI)V"⟩ : MethodName)]) (List.mem_cons_self ..) w1 rg1 wa wl h0 n0 Z0 HH1 HU1 V_wa ne_wa_w1 ne_wa_rg1 HG1 fl3_c9_rc3_hel10 (own_nnA own_nn0 _) fl3_c9_rc3_hel10_2 (own_nnA (own_nnA own_nn0 _) _) fl3_c9_rc3_hel10_3 (own_nnA (own_nnA (own_nnA own_nn0 _) _) _)) HU1 hZ (hw _ (List.mem_of_getElem? (i := 48) rfl)) (hw _ (List.mem_of_getElem? (i := 46) rfl)) (hw _ (List.mem_of_getElem? (i := 30) rfl)) (by decide) (by decide)) qfl33a qfl33c (g := (mkF m 9 #[.val (.ref tb), .val (.ref w1), .val (.ref w2)] [(.int (3 : Int32)), (.ref wa), (.ref w1)])) rfl (by rw [hml]; rfl) (Steps.refl _) (argsL := [(.ref wa), (.int (3 : Int32))]) (rest := []) (lenOf own_pd_285bJI29V rfl) rfl (by show 2 * 0 + _ ≤ _; exact Nat.le_of_eq rfl) (hb hby own_d6_9) (fun _ _ => ⟨rfl, efl32, (by decide : 0 + 3 ≤ _), (by decide : 0 + 384 ≤ _)⟩)
  dsimp only [Pt.U, Pt.locs, Pt.cells, Pt.slots] at Xfl33 lfl33 yfl33 zfl33 stfl33 hQfl33
  rw [lfl33, yfl33, zfl33] at Xfl33
  obtain ⟨rfl, Nfl33q, Kfl33, Ufl33, asfl33, Hfl33, Qfl33⟩ := hQfl33
  have GAfl33 : ∀ x ∈ asfl33, h0.size ≤ x := fun x hx => Nat.le_trans (Keep.refl h0 [w1, rg1, w2, rg2, tb]).1 (Qfl33 x hx)
  have V_wa_fl33 := V_wa.keep Kfl33 (by simp only [List.mem_cons, List.not_mem_nil, or_false, not_or]; exact ⟨ne_wa_w1, ne_wa_rg1⟩)
  have V_ra_fl33 := V_ra.keep Kfl33 (by simp only [List.mem_cons, List.not_mem_nil, or_false, not_or]; exact ⟨ne_ra_w1, ne_ra_rg1⟩)
  have E_tb_fl33 := E_tb.keep Kfl33
  have F_waits_tb_fl33 := F_waits_tb.keep Kfl33 (by simp only [List.mem_cons, List.not_mem_nil, or_false, not_or]; exact ⟨ne_tb_w1, ne_tb_rg1⟩)
  have F_waitCount_tb_fl33 := F_waitCount_tb.keep Kfl33 (by simp only [List.mem_cons, List.not_mem_nil, or_false, not_or]; exact ⟨ne_tb_w1, ne_tb_rg1⟩)
  have F_runs_tb_fl33 := F_runs_tb.keep Kfl33 (by simp only [List.mem_cons, List.not_mem_nil, or_false, not_or]; exact ⟨ne_tb_w1, ne_tb_rg1⟩)
  have F_runCount_tb_fl33 := F_runCount_tb.keep Kfl33 (by simp only [List.mem_cons, List.not_mem_nil, or_false, not_or]; exact ⟨ne_tb_w1, ne_tb_rg1⟩)
  have E_w2_fl33 := E_w2.keep Kfl33
  have H_w2_fl33 := HH2.keep Kfl33 (by simp only [List.mem_cons, List.not_mem_nil, or_false, not_or]; exact ⟨ne_w2_w1, ne_w2_rg1⟩) (by simp only [List.mem_cons, List.not_mem_nil, or_false, not_or]; exact ⟨ne_rg2_w1, ne_rg2_rg1⟩) (fun x hx => nomatch hx)
  have HU_w2_fl33 := Unt.keep Kfl33 (by simp only [List.mem_cons, List.not_mem_nil, or_false, not_or]; exact ⟨ne_w2_w1, ne_w2_rg1⟩) HU2
  have Zfl33 : n0 ≤ Tfl33.heap.size := Nat.le_trans Z0 Kfl33.1
  have KKfl33 := (Keep.refl h0 [w1, rg1, w2, rg2, tb]).trans Kfl33 (fun q hq => by simp only [List.mem_cons, List.not_mem_nil, or_false] at hq; rcases hq with rfl | rfl <;> first | exact Or.inl (List.mem_of_getElem? (i := 0) rfl) | exact Or.inl (List.mem_of_getElem? (i := 1) rfl))
  have Nfl33 := Fr.app N0 Nfl33q
  obtain ⟨Tfl34, Xfl34, efl34, stfl34⟩ := getF Xfl33 hx hZ hown (host := "") (Or.inl (hw _ (List.mem_of_getElem? (i := 12) rfl))) Via.refl rfl F_runs_tb_fl33 (g := (mkF m 14 #[.val (.ref tb), .val (.ref w1), .val (.ref w2)] [(.ref tb), (.ref w2)])) rfl rfl (hb hby own_d6_14)
  obtain ⟨Tfl35, Xfl35, efl35, stfl35⟩ := getF Xfl34 hx hZ hown (host := "") (Or.inl (hw _ (List.mem_of_getElem? (i := 26) rfl))) Via.refl efl34 F_runCount_tb_fl33 (g := (mkF m 18 #[.val (.ref tb), .val (.ref w1), .val (.ref w2)] [(.ref tb), (.ref ra), (.ref w2)])) rfl rfl (hb hby own_d6_18)
  obtain ⟨cqfl36, kqfl36, qfl36a, qfl36b, qfl36c⟩ := isOf hZ efl35 E_w2_fl33
  obtain ⟨_, _, ⟨Tfl36, Lfl36, kfl36, nfl36⟩, -, Xfl36, ⟨Lcfl36, hQfl36, lfl36, yfl36, zfl36⟩, stfl36⟩ := Xfl35.virtualBack hx (y := (⟨"millrace/DurationHistogram", "record", "([JI)V"⟩ : MethodName)) (z := (⟨"millrace/DurationHistogram", "record", "([JI)V"⟩ : MethodName)) hown (mvT hZ (hw _ (List.mem_of_getElem? (i := 44) rfl))) (mvT hZ (hw _ (List.mem_of_getElem? (i := 45) rfl))) (notFace_of_selects (args := #[]) (mvT hZ (hw _ (List.mem_of_getElem? (i := 47) rfl)))) (mvT hZ (hw _ (List.mem_of_getElem? (i := 47) rfl))) (mvT hZ (hw _ (List.mem_of_getElem? (i := 46) rfl))) (by decide) (own_backS (W := 0) (own_rm_rec0 l Z a0 hw (ws := [Jvm.Cond.instanceMethod (⟨"millrace/DurationHistogram", "record", "([JI)V"⟩ : MethodName)]) (List.mem_cons_self ..) w2 rg2 ra rl Tfl33.heap n0 Zfl33 H_w2_fl33 HU_w2_fl33 V_ra_fl33 ne_ra_w2 ne_ra_rg2 HG2 ) HU_w2_fl33 hZ (hw _ (List.mem_of_getElem? (i := 48) rfl)) (hw _ (List.mem_of_getElem? (i := 46) rfl)) (hw _ (List.mem_of_getElem? (i := 30) rfl)) (by decide) (by decide)) qfl36a qfl36c (g := (mkF m 21 #[.val (.ref tb), .val (.ref w1), .val (.ref w2)] [(.int (0 : Int32)), (.ref ra), (.ref w2)])) rfl (by rw [hml]; rfl) (Steps.refl _) (argsL := [(.ref ra), (.int (0 : Int32))]) (rest := []) (lenOf own_pd_285bJI29V rfl) rfl (by show 2 * 0 + _ ≤ _; exact Nat.le_of_eq rfl) (hb hby own_d6_21) (fun _ _ => ⟨rfl, efl35, (by decide : 3 + 0 ≤ _), (by decide : 384 + 0 ≤ _)⟩)
  dsimp only [Pt.U, Pt.locs, Pt.cells, Pt.slots] at Xfl36 lfl36 yfl36 zfl36 stfl36 hQfl36
  rw [lfl36, yfl36, zfl36] at Xfl36
  obtain ⟨rfl, Nfl36q, Kfl36, Ufl36, asfl36, Hfl36, Qfl36⟩ := hQfl36
  have GAfl36 : ∀ x ∈ asfl36, h0.size ≤ x := fun x hx => Nat.le_trans KKfl33.1 (Qfl36 x hx)
  have V_wa_fl36 := V_wa_fl33.keep Kfl36 (by simp only [List.mem_cons, List.not_mem_nil, or_false, not_or]; exact ⟨ne_wa_w2, ne_wa_rg2⟩)
  have V_ra_fl36 := V_ra_fl33.keep Kfl36 (by simp only [List.mem_cons, List.not_mem_nil, or_false, not_or]; exact ⟨ne_ra_w2, ne_ra_rg2⟩)
  have E_tb_fl36 := E_tb_fl33.keep Kfl36
  have F_waits_tb_fl36 := F_waits_tb_fl33.keep Kfl36 (by simp only [List.mem_cons, List.not_mem_nil, or_false, not_or]; exact ⟨ne_tb_w2, ne_tb_rg2⟩)
  have F_waitCount_tb_fl36 := F_waitCount_tb_fl33.keep Kfl36 (by simp only [List.mem_cons, List.not_mem_nil, or_false, not_or]; exact ⟨ne_tb_w2, ne_tb_rg2⟩)
  have F_runs_tb_fl36 := F_runs_tb_fl33.keep Kfl36 (by simp only [List.mem_cons, List.not_mem_nil, or_false, not_or]; exact ⟨ne_tb_w2, ne_tb_rg2⟩)
  have F_runCount_tb_fl36 := F_runCount_tb_fl33.keep Kfl36 (by simp only [List.mem_cons, List.not_mem_nil, or_false, not_or]; exact ⟨ne_tb_w2, ne_tb_rg2⟩)
  have E_w1_fl36 := Hfl33.exa.keep Kfl36
  have H_w1_fl36 := Hfl33.keep Kfl36 (by simp only [List.mem_cons, List.not_mem_nil, or_false, not_or]; exact ⟨ne_w1_w2, ne_w1_rg2⟩) (by simp only [List.mem_cons, List.not_mem_nil, or_false, not_or]; exact ⟨ne_rg1_w2, ne_rg1_rg2⟩) (fun x hx => by simp only [List.mem_cons, List.not_mem_nil, or_false, not_or]; exact ⟨fun e => absurd lt_w2 (Nat.not_lt.mpr (GAfl33 w2 (e ▸ hx))), fun e => absurd lt_rg2 (Nat.not_lt.mpr (GAfl33 rg2 (e ▸ hx)))⟩)
  have HU_w1_fl36 := Unt.keep Kfl36 (by simp only [List.mem_cons, List.not_mem_nil, or_false, not_or]; exact ⟨ne_w1_w2, ne_w1_rg2⟩) Ufl33
  have Zfl36 : n0 ≤ Tfl36.heap.size := Nat.le_trans Zfl33 Kfl36.1
  have KKfl36 := KKfl33.trans Kfl36 (fun q hq => by simp only [List.mem_cons, List.not_mem_nil, or_false] at hq; rcases hq with rfl | rfl <;> first | exact Or.inl (List.mem_of_getElem? (i := 2) rfl) | exact Or.inl (List.mem_of_getElem? (i := 3) rfl))
  have Nfl36 := Fr.app Nfl33 Nfl36q
  obtain ⟨Tfl37, hfl37, Xfl37, efl37, Wfl37, stfl37⟩ := putF Xfl36 hx hZ hown (host := "") (Or.inl (hw _ (List.mem_of_getElem? (i := 19) rfl))) Via.refl rfl F_waitCount_tb_fl36 E_tb_fl36 (Or.inl (hw _ (List.mem_of_getElem? (i := 20) rfl))) (hw _ (List.mem_of_getElem? (i := 1) rfl)) (ty := .int) (by decide) rfl rfl (g := (mkF m 26 #[.val (.ref tb), .val (.ref w1), .val (.ref w2)] [(.int (0 : Int32)), (.ref tb)])) rfl rfl (hb hby own_d6_26)
  have V_wa_fl37 := V_wa_fl36.other Wfl37 ne_wa_tb
  have V_ra_fl37 := V_ra_fl36.other Wfl37 ne_ra_tb
  have E_tb_fl37 := E_tb_fl36.wr Wfl37
  have E_w1_fl37 := E_w1_fl36.wr Wfl37
  have E_w2_fl37 := Hfl36.exa.wr Wfl37
  have H_w1_fl37 := H_w1_fl36.wr Wfl37 ne_w1_tb ne_rg1_tb (fun q => absurd lt_tb (Nat.not_lt.mpr (GAfl33 tb q)))
  have HU_w1_fl37 := Unt.wr Wfl37 HU_w1_fl36
  have H_w2_fl37 := Hfl36.wr Wfl37 ne_w2_tb ne_rg2_tb (fun q => absurd lt_tb (Nat.not_lt.mpr (GAfl36 tb q)))
  have HU_w2_fl37 := Unt.wr Wfl37 Ufl36
  have Zfl37 : n0 ≤ hfl37.size := Nat.le_trans Zfl36 (Nat.le_of_eq Wfl37.size.symm)
  have KKfl37 := KKfl36.wr Wfl37 (Or.inl (List.mem_of_getElem? (i := 4) rfl))
  have F_waits_tb_fl37 := F_waits_tb_fl36.other Wfl37 (Or.inr (slot_ne (Or.inr (hw _ (List.mem_of_getElem? (i := 11) rfl))) (Or.inl (hw _ (List.mem_of_getElem? (i := 20) rfl))) (by decide) (t := (.array .long)) (t' := .int) (by decide) (by decide)))
  have F_waitCount_tb_fl37 := F_waitCount_tb_fl36.same Wfl37
  have F_runs_tb_fl37 := F_runs_tb_fl36.other Wfl37 (Or.inr (slot_ne (Or.inr (hw _ (List.mem_of_getElem? (i := 13) rfl))) (Or.inl (hw _ (List.mem_of_getElem? (i := 20) rfl))) (by decide) (t := (.array .long)) (t' := .int) (by decide) (by decide)))
  have F_runCount_tb_fl37 := F_runCount_tb_fl36.other Wfl37 (Or.inr (slot_ne (Or.inl (hw _ (List.mem_of_getElem? (i := 27) rfl))) (Or.inl (hw _ (List.mem_of_getElem? (i := 20) rfl))) (by decide) (t := .int) (t' := .int) (by decide) (by decide)))
  have Nfl37 := Fr.snoc Xfl37 Nfl36 g_tb
  obtain ⟨Tfl38, hfl38, Xfl38, efl38, Wfl38, stfl38⟩ := putF Xfl37 hx hZ hown (host := "") (Or.inl (hw _ (List.mem_of_getElem? (i := 26) rfl))) Via.refl efl37 F_runCount_tb_fl37 E_tb_fl37 (Or.inl (hw _ (List.mem_of_getElem? (i := 27) rfl))) (hw _ (List.mem_of_getElem? (i := 1) rfl)) (ty := .int) (by decide) rfl rfl (g := (mkF m 31 #[.val (.ref tb), .val (.ref w1), .val (.ref w2)] [(.int (0 : Int32)), (.ref tb)])) rfl rfl (hb hby own_d6_31)
  have V_wa_fl38 := V_wa_fl37.other Wfl38 ne_wa_tb
  have V_ra_fl38 := V_ra_fl37.other Wfl38 ne_ra_tb
  have E_tb_fl38 := E_tb_fl37.wr Wfl38
  have E_w1_fl38 := E_w1_fl37.wr Wfl38
  have E_w2_fl38 := E_w2_fl37.wr Wfl38
  have H_w1_fl38 := H_w1_fl37.wr Wfl38 ne_w1_tb ne_rg1_tb (fun q => absurd lt_tb (Nat.not_lt.mpr (GAfl33 tb q)))
  have HU_w1_fl38 := Unt.wr Wfl38 HU_w1_fl37
  have H_w2_fl38 := H_w2_fl37.wr Wfl38 ne_w2_tb ne_rg2_tb (fun q => absurd lt_tb (Nat.not_lt.mpr (GAfl36 tb q)))
  have HU_w2_fl38 := Unt.wr Wfl38 HU_w2_fl37
  have Zfl38 : n0 ≤ hfl38.size := Nat.le_trans Zfl37 (Nat.le_of_eq Wfl38.size.symm)
  have KKfl38 := KKfl37.wr Wfl38 (Or.inl (List.mem_of_getElem? (i := 4) rfl))
  have F_waits_tb_fl38 := F_waits_tb_fl37.other Wfl38 (Or.inr (slot_ne (Or.inr (hw _ (List.mem_of_getElem? (i := 11) rfl))) (Or.inl (hw _ (List.mem_of_getElem? (i := 27) rfl))) (by decide) (t := (.array .long)) (t' := .int) (by decide) (by decide)))
  have F_waitCount_tb_fl38 := F_waitCount_tb_fl37.other Wfl38 (Or.inr (slot_ne (Or.inl (hw _ (List.mem_of_getElem? (i := 20) rfl))) (Or.inl (hw _ (List.mem_of_getElem? (i := 27) rfl))) (by decide) (t := .int) (t' := .int) (by decide) (by decide)))
  have F_runs_tb_fl38 := F_runs_tb_fl37.other Wfl38 (Or.inr (slot_ne (Or.inr (hw _ (List.mem_of_getElem? (i := 13) rfl))) (Or.inl (hw _ (List.mem_of_getElem? (i := 27) rfl))) (by decide) (t := (.array .long)) (t' := .int) (by decide) (by decide)))
  have F_runCount_tb_fl38 := F_runCount_tb_fl37.same Wfl38
  have Nfl38 := Fr.snoc Xfl38 Nfl37 g_tb
  obtain ⟨fs, hr, hrun, hended, hW, hsame⟩ := Xfl38.leave (v := none) (fun _ => rfl)
  refine ⟨_, _, pre0 _ ?_, hrun, hended, _, _, rfl, ?_, ⟨_, rfl⟩, hW, hsame.mono (by decide) (by decide)⟩
  · refine own_s_aloadN X0.here hx (hb hby own_d6_0) (pc' := 1) rfl rfl rfl ?_
    refine own_s_aloadN X0.here hx (hb hby own_d6_1) (pc' := 2) rfl rfl rfl ?_
    refine stfl31 _ ?_
    show Steps p.tables e below (Tfl31.setTop (mkF m 5 #[.val (.ref tb), .val (.ref w1), .val (.ref w2)] [(.ref wa), (.ref w1)])) _
    refine own_s_aloadN Xfl31.here hx (hb hby own_d6_5) (pc' := 6) rfl rfl rfl ?_
    refine stfl32 _ ?_
    show Steps p.tables e below (Tfl32.setTop (mkF m 9 #[.val (.ref tb), .val (.ref w1), .val (.ref w2)] [(.int (3 : Int32)), (.ref wa), (.ref w1)])) _
    refine stfl33.trans ?_
    show Steps p.tables e below (Tfl33.setTop (mkF m 12 #[.val (.ref tb), .val (.ref w1), .val (.ref w2)] [])) _
    refine own_s_aloadN Xfl33.here hx (hb hby own_d6_12) (pc' := 13) rfl rfl rfl ?_
    refine own_s_aloadN Xfl33.here hx (hb hby own_d6_13) (pc' := 14) rfl rfl rfl ?_
    refine stfl34 _ ?_
    show Steps p.tables e below (Tfl34.setTop (mkF m 17 #[.val (.ref tb), .val (.ref w1), .val (.ref w2)] [(.ref ra), (.ref w2)])) _
    refine own_s_aloadN Xfl34.here hx (hb hby own_d6_17) (pc' := 18) rfl rfl rfl ?_
    refine stfl35 _ ?_
    show Steps p.tables e below (Tfl35.setTop (mkF m 21 #[.val (.ref tb), .val (.ref w1), .val (.ref w2)] [(.int (0 : Int32)), (.ref ra), (.ref w2)])) _
    refine stfl36.trans ?_
    show Steps p.tables e below (Tfl36.setTop (mkF m 24 #[.val (.ref tb), .val (.ref w1), .val (.ref w2)] [])) _
    refine own_s_aloadN Xfl36.here hx (hb hby own_d6_24) (pc' := 25) rfl rfl rfl ?_
    refine own_s_iconst Xfl36.here hx (hb hby own_d6_25) (pc' := 26) rfl (v := (0 : Int32)) (by decide) ?_
    refine stfl37 _ ?_
    show Steps p.tables e below (Tfl37.setTop (mkF m 29 #[.val (.ref tb), .val (.ref w1), .val (.ref w2)] [])) _
    refine own_s_aloadN Xfl37.here hx (hb hby own_d6_29) (pc' := 30) rfl rfl rfl ?_
    refine own_s_iconst Xfl37.here hx (hb hby own_d6_30) (pc' := 31) rfl (v := (0 : Int32)) (by decide) ?_
    refine stfl38 _ ?_
    show Steps p.tables e below (Tfl38.setTop (mkF m 34 #[.val (.ref tb), .val (.ref w1), .val (.ref w2)] [])) _
    exact Xfl38.returnOut hx Bd.returns (hb hby own_d6_34) hr
  · show own_QF3 Z wa ra w1 rg1 w2 rg2 tb fl3_c9_rc3_v10 fl3_c9_rc3_v10_2 fl3_c9_rc3_v10_3 h0 n0 _ Tfl38.heap _
    rw [efl38]
    exact ⟨rfl, Nfl38, KKfl38, asfl33, asfl36, H_w1_fl38, HU_w1_fl38, GAfl33, H_w2_fl38, HU_w2_fl38, GAfl36⟩
theorem own_lcE {x y : Int64} (h : x = y) : lcmpW x y = 0 := Int32.toInt_inj.mp ((c_lcmp x y).2.1 (congrArg _ h))
theorem own_lmx {m x : Int64} (h : 0 ≤ m.toInt) : own_lmax m (own_lmax 0 x) = own_lmax m x := by
  have z : (0 : Int64).toInt = 0 := rfl
  unfold own_lmax
  by_cases h0 : (0 : Int64) < x
  · rw [if_pos h0]
  · rw [if_neg h0, if_neg (fun q => by have := Int64.lt_iff_toInt_lt.mp q; rw [z] at this; omega), if_neg (fun q => h0 (by have := Int64.lt_iff_toInt_lt.mp q; exact Int64.lt_iff_toInt_lt.mpr (by rw [z]; omega)))]
theorem own_lmg {m x : Int64} (h : 0 ≤ m.toInt) : 0 ≤ (own_lmax m x).toInt := by
  unfold own_lmax
  by_cases h0 : m < x
  · rw [if_pos h0]; have := Int64.lt_iff_toInt_lt.mp h0; omega
  · rw [if_neg h0]; exact h
theorem own_lm0 : 0 ≤ (0 : Int64).toInt := by decide
theorem own_mask3 (x : Int32) : x &&& 3 = 0 ∨ x &&& 3 = 1 ∨ x &&& 3 = 2 ∨ x &&& 3 = 3 := by
  have h1 := c_mask x 3 2 (by decide) (by decide)
  have e : ∀ k : Int32, x &&& 3 = k ↔ (x &&& 3).toInt = k.toInt := fun k => Int32.toInt_inj.symm
  simp only [e, show (0 : Int32).toInt = 0 from rfl, show (1 : Int32).toInt = 1 from rfl, show (2 : Int32).toInt = 2 from rfl, show (3 : Int32).toInt = 3 from rfl]
  omega
theorem own_dcE {x y : UInt64} (h : x = y) (hx : Jvm.Free.Fl.NoNaN64 x) (o : ClassFile.CmpOp) : Op.cmpValue (Jvm.FP.dcmp x y) o = 0 := by
  subst h
  have hn := (Jvm.FP.Core.notNaN_iff _).mp (Jvm.Free.Fl.noNaN64_no.mp hx)
  show Op.cmpValue (Jvm.FP.Core.dcmp x x) o = 0
  rw [Jvm.FP.Core.dcmp_zval hn hn, (Jvm.FP.Core.compare_eq_iff _ _).mpr rfl]; cases o <;> rfl
theorem own_pd_2829Z : parseMethodDescriptor "()Z" = some ⟨[], some .boolean⟩ := by decide +kernel
theorem own_pd_28Lmillrace2fDurationHistogram3bLmillrace2fDurationHistogram3b29V : parseMethodDescriptor "(Lmillrace/DurationHistogram;Lmillrace/DurationHistogram;)V" = some ⟨[(.object "millrace/DurationHistogram"), (.object "millrace/DurationHistogram")], none⟩ := by decide +kernel
theorem own_pd_2829Lmillrace2fPoolSnapshot24Timing3b : parseMethodDescriptor "()Lmillrace/PoolSnapshot$Timing;" = some ⟨[], some (.object "millrace/PoolSnapshot$Timing")⟩ := by decide +kernel
theorem own_pd_2829J : parseMethodDescriptor "()J" = some ⟨[], some .long⟩ := by decide +kernel
theorem own_pd_2829D : parseMethodDescriptor "()D" = some ⟨[], some .double⟩ := by decide +kernel
theorem own_pn_millrace_TimingBufferAddWaitPinLaw : plainName "millrace/TimingBufferAddWaitPinLaw" = true := by first | (simp [plainName, overriddenIn]; done) | decide +kernel
theorem own_ef_lw0 (m : MethodId) (p0 : Int64) (p1 : Int64) (p2 : Int64) (p3 : Int32) : entryFrame m #[(.long p0), (.long p1), (.long p2), (.int p3)] maxLocals = mkF m 0 #[.val (.long p0), .second, .val (.long p1), .second, .val (.long p2), .second, .val (.int p3), .unset, .unset, .unset, .unset, .unset, .unset, .unset, .unset, .unset, .unset, .unset, .unset, .unset] [] := by first | (simp [entryFrame, mkF, argsToLocals, Value.category, maxLocals]; done) | rfl
set_option maxRecDepth 65536 in
set_option maxHeartbeats 40000000 in
theorem own_rm_lw0 (l : Launch) (Z : State) (a0 : Array Value) (hw : ∀ d ∈ tables_1, d.before a0 Z = true) (ws : List Jvm.Cond) (p0 : Int64) (p1 : Int64) (p2 : Int64) (p3 : Int32)  (h0 : Heap) (n0 : Nat) (Z0 : n0 ≤ h0.size)  (lw0_hv3 : p3 &&& (3 : Int32) = (0 : Int32)) (lw0_hc235 : lcmpW (0 : Int64) (0 : Int64) = (0 : Int32)) (lw0_hc246 : lcmpW (0 : Int64) (0 : Int64) = (0 : Int32)) (lw0_hc257 : Op.cmpValue (FP.dcmp 0 0) .l = (0 : Int32)) (lw0_hc267 : lcmpW (0 : Int64) (0 : Int64) = (0 : Int32)) :
    MetFree l x (head1 (Jvm.Cond.code x code maxLocals ret :: ws) room_1) (fun a U => a = #[(.long p0), (.long p1), (.long p2), (.int p3)] ∧ Z.Warmed39 U.vm ∧ U.heap = h0) (fun _ _ _ _ _ => True) (fun _ U o U' => ∃ v L, o = .returned v ∧ own_Q0 n0 v U'.heap L ∧ FrameEnd U o U' L room_1.cells room_1.slots) := by
  refine MetFree.of_bodySF (plainFor_of_name own_pn_millrace_TimingBufferAddWaitPinLaw) hisR ?_
  intro p e s m args below meth c s₁ Bd hml0 hP hK
  obtain ⟨rfl, hZ, hh⟩ := hP
  have hx := Bd.exec
  have hby := Bd.bytes
  have hml : c.maxLocals = 20 := hml0
  have hown : s.vm.findClass "millrace/TimingBufferAddWaitPinLaw" = some m.cls := findClass_of_methodNamed Bd.named
  have hnm := (name_of_methodNamed Bd.named Bd.method).1
  have X0 : Stand p l e room_1 s m #[(.long p0), (.long p1), (.long p2), (.int p3)] below meth c s₁ [] 0 0 := Stand.of_body Bd
  have e0 : s₁.heap = h0 := by rw [← hh, Bd.state]; rfl
  have N0 := Fr.nil n0
  have pre0 : ∀ t, Steps p.tables e below (s₁.setTop (mkF m 0 #[.val (.long p0), .second, .val (.long p1), .second, .val (.long p2), .second, .val (.int p3), .unset, .unset, .unset, .unset, .unset, .unset, .unset, .unset, .unset, .unset, .unset, .unset, .unset] [])) t → Steps p.tables e below (s₁.setTop (entryFrame m #[(.long p0), (.long p1), (.long p2), (.int p3)] maxLocals)) t := fun t k => castTop (own_ef_lw0 m p0 p1 p2 p3) k
  obtain ⟨Tlw01, hlw01, Xlw01, elw01, Elw01, Alw01, Dlw01, UTlw01, stlw01⟩ := newO X0 hx hZ hown (hw _ (List.mem_of_getElem? (i := 0) rfl)) (hw _ (List.mem_of_getElem? (i := 1) rfl)) (hw _ (List.mem_of_getElem? (i := 2) rfl)) e0 (g := (mkF m 6 #[.val (.long p0), .second, .val (.long p1), .second, .val (.long p2), .second, .val (.int p3), .val (.int (0 : Int32)), .unset, .unset, .unset, .unset, .unset, .unset, .unset, .unset, .unset, .unset, .unset, .unset] [])) rfl (hb hby at_6) (by decide) (by decide)
  obtain ⟨blw01, Glw01⟩ : ∃ z, z = h0.size := ⟨_, rfl⟩
  rw [← Glw01] at Alw01 Dlw01 UTlw01 stlw01
  have g_blw01 : n0 ≤ blw01 := Nat.le_trans Z0 (Nat.le_of_eq Glw01.symm)
  have sz_blw01 : h0.size ≤ blw01 := Nat.le_trans (Keep.refl h0 []).1 (Nat.le_of_eq Glw01.symm)
  have Zlw01 : n0 ≤ hlw01.size := Nat.le_trans Z0 Elw01.1
  have KKlw01 := (Keep.refl h0 []).ext Elw01
  have F_waits_blw01 : Fld Z hlw01 blw01 "millrace/TimingBuffer" "waits" "[J" .null := Dlw01 (Or.inr (hw _ (List.mem_of_getElem? (i := 11) rfl))) (ty := (.array .long)) (by decide)
  have F_runs_blw01 : Fld Z hlw01 blw01 "millrace/TimingBuffer" "runs" "[J" .null := Dlw01 (Or.inr (hw _ (List.mem_of_getElem? (i := 13) rfl))) (ty := (.array .long)) (by decide)
  have F_waitCount_blw01 : Fld Z hlw01 blw01 "millrace/TimingBuffer" "waitCount" "I" (.int (0 : Int32)) := Dlw01 (Or.inl (hw _ (List.mem_of_getElem? (i := 20) rfl))) (ty := .int) (by decide)
  have F_runCount_blw01 : Fld Z hlw01 blw01 "millrace/TimingBuffer" "runCount" "I" (.int (0 : Int32)) := Dlw01 (Or.inl (hw _ (List.mem_of_getElem? (i := 27) rfl))) (ty := .int) (by decide)
  obtain ⟨_, _, ⟨Tlw02, Llw02, klw02, nlw02⟩, -, Xlw02, ⟨Lclw02, hQlw02, llw02, ylw02, zlw02⟩, stlw02⟩ := Xlw01.specialBack hx (y := (⟨"millrace/TimingBuffer", "<init>", "()V"⟩ : MethodName)) rfl hown (mvT hZ (hw _ (List.mem_of_getElem? (i := 3) rfl))) (mvT hZ (hw _ (List.mem_of_getElem? (i := 4) rfl))) (mvT hZ (hw _ (List.mem_of_getElem? (i := 5) rfl))) (by decide) (backOf (W := 1) (own_rm_tbi l Z a0 hw [] blw01 hlw01 n0 Zlw01 Alw01 F_waits_blw01 F_waitCount_blw01 F_runs_blw01 F_runCount_blw01 g_blw01) hZ (hw _ (List.mem_of_getElem? (i := 5) rfl)) (hw _ (List.mem_of_getElem? (i := 2) rfl)) (by decide) (by decide)) (g := (mkF m 10 #[.val (.long p0), .second, .val (.long p1), .second, .val (.long p2), .second, .val (.int p3), .val (.int (0 : Int32)), .unset, .unset, .unset, .unset, .unset, .unset, .unset, .unset, .unset, .unset, .unset, .unset] [(.ref blw01), (.ref blw01)])) rfl (by rw [hml]; rfl) (Steps.refl _) (a := blw01) (argsL := []) (rest := [(.ref blw01)]) (lenOf own_pd_2829V rfl) rfl (by show 2 * 0 + _ ≤ _; exact Nat.le_of_eq rfl) (hb hby at_10) (fun _ _ => ⟨rfl, elw01, (by decide : 1 + 2 ≤ _), (by decide : 4 + 128 ≤ _)⟩)
  dsimp only [Pt.U, Pt.locs, Pt.cells, Pt.slots] at Xlw02 llw02 ylw02 zlw02 stlw02 hQlw02
  rw [llw02, ylw02, zlw02] at Xlw02
  obtain ⟨blw02_1, klw02_1, blw02_0, klw02_0, rfl, Nlw02q, Klw02, qlw02_0, qlw02_1, qlw02_2, qlw02_3, qlw02_4, Glw02_0, Vlw02_0, Glw02_1, Vlw02_1, ne_blw02_0_blw02_1⟩ := hQlw02
  have ne_blw02_1_blw02_0 : blw02_1 ≠ blw02_0 := Ne.symm ne_blw02_0_blw02_1
  have ne_blw01_blw02_0 : blw01 ≠ blw02_0 := Nat.ne_of_lt (Nat.lt_of_lt_of_le Alw01.lt Glw02_0)
  have ne_blw02_0_blw01 : blw02_0 ≠ blw01 := Ne.symm ne_blw01_blw02_0
  have g_blw02_0 : n0 ≤ blw02_0 := Nat.le_trans Zlw01 Glw02_0
  have sz_blw02_0 : h0.size ≤ blw02_0 := Nat.le_trans KKlw01.1 Glw02_0
  have ne_blw01_blw02_1 : blw01 ≠ blw02_1 := Nat.ne_of_lt (Nat.lt_of_lt_of_le Alw01.lt Glw02_1)
  have ne_blw02_1_blw01 : blw02_1 ≠ blw01 := Ne.symm ne_blw01_blw02_1
  have g_blw02_1 : n0 ≤ blw02_1 := Nat.le_trans Zlw01 Glw02_1
  have sz_blw02_1 : h0.size ≤ blw02_1 := Nat.le_trans KKlw01.1 Glw02_1
  have Zlw02 : n0 ≤ Tlw02.heap.size := Nat.le_trans Zlw01 Klw02.1
  have KKlw02 := KKlw01.trans Klw02 (fun q hq => by simp only [List.mem_cons, List.not_mem_nil, or_false] at hq; rcases hq with rfl; exact Or.inr sz_blw01)
  have Nlw02 := Fr.app N0 Nlw02q
  obtain ⟨cqlw03, kqlw03, qlw03a, qlw03b, qlw03c⟩ := isOf hZ rfl qlw02_0
  obtain ⟨_, _, ⟨Tlw03, Llw03, klw03, nlw03⟩, -, Xlw03, ⟨Lclw03, hQlw03, llw03, ylw03, zlw03⟩, stlw03⟩ := Xlw02.virtualBack hx (y := (⟨"millrace/TimingBuffer", "full", "()Z"⟩ : MethodName)) (z := (⟨"millrace/TimingBuffer", "full", "()Z"⟩ : MethodName)) hown (mvT hZ (hw _ (List.mem_of_getElem? (i := 21) rfl))) (mvT hZ (hw _ (List.mem_of_getElem? (i := 22) rfl))) (notFace_of_selects (args := #[]) (mvT hZ (hw _ (List.mem_of_getElem? (i := 24) rfl)))) (mvT hZ (hw _ (List.mem_of_getElem? (i := 24) rfl))) (mvT hZ (hw _ (List.mem_of_getElem? (i := 23) rfl))) (by decide) (backOf (W := 0) (own_rm_full00 l Z a0 hw [] blw01 Tlw02.heap n0 Zlw02 qlw02_0 qlw02_2 qlw02_4) hZ (hw _ (List.mem_of_getElem? (i := 25) rfl)) (hw _ (List.mem_of_getElem? (i := 2) rfl)) (by decide) (by decide)) qlw03a qlw03c (g := (mkF m 54 #[.val (.long p0), .second, .val (.long p1), .second, .val (.long p2), .second, .val (.int p3), .val (.int (0 : Int32)), .val (.ref blw01), .unset, .unset, .unset, .unset, .unset, .unset, .unset, .unset, .unset, .unset, .unset] [(.ref blw01)])) rfl (by rw [hml]; rfl) (Steps.refl _) (argsL := []) (rest := []) (lenOf own_pd_2829Z rfl) rfl (by show 2 * 0 + _ ≤ _; exact Nat.le_of_eq rfl) (hb hby at_54) (fun _ _ => ⟨rfl, rfl, (by decide : 3 + 0 ≤ _), (by decide : 132 + 0 ≤ _)⟩)
  dsimp only [Pt.U, Pt.locs, Pt.cells, Pt.slots] at Xlw03 llw03 ylw03 zlw03 stlw03 hQlw03
  rw [llw03, ylw03, zlw03] at Xlw03
  obtain ⟨rfl, Nlw03q, elw03⟩ := hQlw03
  have Nlw03 := Fr.app Nlw02 Nlw03q
  obtain ⟨Tlw04, hlw04, Xlw04, elw04, Elw04, Alw04, Dlw04, UTlw04, stlw04⟩ := newO Xlw03 hx hZ hown (hw _ (List.mem_of_getElem? (i := 28) rfl)) (hw _ (List.mem_of_getElem? (i := 29) rfl)) (hw _ (List.mem_of_getElem? (i := 30) rfl)) elw03 (g := (mkF m 67 #[.val (.long p0), .second, .val (.long p1), .second, .val (.long p2), .second, .val (.int p3), .val (.int (0 : Int32)), .val (.ref blw01), .val (.int (1 : Int32)), .unset, .unset, .unset, .unset, .unset, .unset, .unset, .unset, .unset, .unset] [])) rfl (hb hby at_67) (by decide) (by decide)
  obtain ⟨blw04, Glw04⟩ : ∃ z, z = Tlw02.heap.size := ⟨_, rfl⟩
  rw [← Glw04] at Alw04 Dlw04 UTlw04 stlw04
  have ne_blw02_0_blw04 : blw02_0 ≠ blw04 := Nat.ne_of_lt (Nat.lt_of_lt_of_le Vlw02_0.lt (Nat.le_of_eq Glw04.symm))
  have ne_blw04_blw02_0 : blw04 ≠ blw02_0 := Ne.symm ne_blw02_0_blw04
  have ne_blw02_1_blw04 : blw02_1 ≠ blw04 := Nat.ne_of_lt (Nat.lt_of_lt_of_le Vlw02_1.lt (Nat.le_of_eq Glw04.symm))
  have ne_blw04_blw02_1 : blw04 ≠ blw02_1 := Ne.symm ne_blw02_1_blw04
  have ne_blw01_blw04 : blw01 ≠ blw04 := Nat.ne_of_lt (Nat.lt_of_lt_of_le qlw02_0.lt (Nat.le_of_eq Glw04.symm))
  have ne_blw04_blw01 : blw04 ≠ blw01 := Ne.symm ne_blw01_blw04
  have g_blw04 : n0 ≤ blw04 := Nat.le_trans Zlw02 (Nat.le_of_eq Glw04.symm)
  have sz_blw04 : h0.size ≤ blw04 := Nat.le_trans KKlw02.1 (Nat.le_of_eq Glw04.symm)
  have V_blw02_0_lw04 := Vlw02_0.ext Elw04
  have V_blw02_1_lw04 := Vlw02_1.ext Elw04
  have E_blw01_lw04 := qlw02_0.ext Elw04
  have F_waits_blw01_lw04 := qlw02_1.ext Elw04
  have F_runs_blw01_lw04 := qlw02_3.ext Elw04
  have F_waitCount_blw01_lw04 := qlw02_2.ext Elw04
  have F_runCount_blw01_lw04 := qlw02_4.ext Elw04
  have Zlw04 : n0 ≤ hlw04.size := Nat.le_trans Zlw02 Elw04.1
  have KKlw04 := KKlw02.ext Elw04
  have F_ranges_blw04 : Fld Z hlw04 blw04 "millrace/DurationHistogram" "ranges" "[[J" .null := Dlw04 (Or.inr (hw _ (List.mem_of_getElem? (i := 38) rfl))) (ty := (.array (.array .long))) (by decide)
  have F_count_blw04 : Fld Z hlw04 blw04 "millrace/DurationHistogram" "count" "J" (.long (0 : Int64)) := Dlw04 (Or.inl (hw _ (List.mem_of_getElem? (i := 74) rfl))) (ty := .long) (by decide)
  have F_sum_blw04 : Fld Z hlw04 blw04 "millrace/DurationHistogram" "sum" "D" (.double 0) := Dlw04 (Or.inl (hw _ (List.mem_of_getElem? (i := 76) rfl))) (ty := .double) (by decide)
  have F_max_blw04 : Fld Z hlw04 blw04 "millrace/DurationHistogram" "max" "J" (.long (0 : Int64)) := Dlw04 (Or.inl (hw _ (List.mem_of_getElem? (i := 78) rfl))) (ty := .long) (by decide)
  obtain ⟨_, _, ⟨Tlw05, Llw05, klw05, nlw05⟩, -, Xlw05, ⟨Lclw05, hQlw05, llw05, ylw05, zlw05⟩, stlw05⟩ := Xlw04.specialBack hx (y := (⟨"millrace/DurationHistogram", "<init>", "()V"⟩ : MethodName)) rfl hown (mvT hZ (hw _ (List.mem_of_getElem? (i := 31) rfl))) (mvT hZ (hw _ (List.mem_of_getElem? (i := 32) rfl))) (mvT hZ (hw _ (List.mem_of_getElem? (i := 33) rfl))) (by decide) (backOf (W := 1) (own_rm_dhi l Z a0 hw [] blw04 hlw04 n0 Zlw04 Alw04 UTlw04 F_ranges_blw04 F_count_blw04 F_sum_blw04 F_max_blw04 g_blw04) hZ (hw _ (List.mem_of_getElem? (i := 33) rfl)) (hw _ (List.mem_of_getElem? (i := 30) rfl)) (by decide) (by decide)) (g := (mkF m 71 #[.val (.long p0), .second, .val (.long p1), .second, .val (.long p2), .second, .val (.int p3), .val (.int (0 : Int32)), .val (.ref blw01), .val (.int (1 : Int32)), .unset, .unset, .unset, .unset, .unset, .unset, .unset, .unset, .unset, .unset] [(.ref blw04), (.ref blw04)])) rfl (by rw [hml]; rfl) (Steps.refl _) (a := blw04) (argsL := []) (rest := [(.ref blw04)]) (lenOf own_pd_2829V rfl) rfl (by show 2 * 0 + _ ≤ _; exact Nat.le_of_eq rfl) (hb hby at_71) (fun _ _ => ⟨rfl, elw04, (by decide : 4 + 1 ≤ _), (by decide : 136 + 57 ≤ _)⟩)
  dsimp only [Pt.U, Pt.locs, Pt.cells, Pt.slots] at Xlw05 llw05 ylw05 zlw05 stlw05 hQlw05
  rw [llw05, ylw05, zlw05] at Xlw05
  obtain ⟨blw05_0, klw05_0, rfl, Nlw05q, Klw05, qlw05_0, qlw05_1, qlw05_2, qlw05_3, qlw05_4, qlw05_5, Glw05_0, Vlw05_0, Olw05_0⟩ := hQlw05
  have ne_blw02_0_blw05_0 : blw02_0 ≠ blw05_0 := Nat.ne_of_lt (Nat.lt_of_lt_of_le V_blw02_0_lw04.lt Glw05_0)
  have ne_blw05_0_blw02_0 : blw05_0 ≠ blw02_0 := Ne.symm ne_blw02_0_blw05_0
  have ne_blw02_1_blw05_0 : blw02_1 ≠ blw05_0 := Nat.ne_of_lt (Nat.lt_of_lt_of_le V_blw02_1_lw04.lt Glw05_0)
  have ne_blw05_0_blw02_1 : blw05_0 ≠ blw02_1 := Ne.symm ne_blw02_1_blw05_0
  have ne_blw01_blw05_0 : blw01 ≠ blw05_0 := Nat.ne_of_lt (Nat.lt_of_lt_of_le E_blw01_lw04.lt Glw05_0)
  have ne_blw05_0_blw01 : blw05_0 ≠ blw01 := Ne.symm ne_blw01_blw05_0
  have ne_blw04_blw05_0 : blw04 ≠ blw05_0 := Nat.ne_of_lt (Nat.lt_of_lt_of_le Alw04.lt Glw05_0)
  have ne_blw05_0_blw04 : blw05_0 ≠ blw04 := Ne.symm ne_blw04_blw05_0
  have g_blw05_0 : n0 ≤ blw05_0 := Nat.le_trans Zlw04 Glw05_0
  have sz_blw05_0 : h0.size ≤ blw05_0 := Nat.le_trans KKlw04.1 Glw05_0
  have V_blw02_0_lw05 := V_blw02_0_lw04.keep Klw05 (by simp only [List.mem_cons, List.not_mem_nil, or_false, not_or]; exact ne_blw02_0_blw04)
  have V_blw02_1_lw05 := V_blw02_1_lw04.keep Klw05 (by simp only [List.mem_cons, List.not_mem_nil, or_false, not_or]; exact ne_blw02_1_blw04)
  have E_blw01_lw05 := E_blw01_lw04.keep Klw05
  have F_waits_blw01_lw05 := F_waits_blw01_lw04.keep Klw05 (by simp only [List.mem_cons, List.not_mem_nil, or_false, not_or]; exact ne_blw01_blw04)
  have F_runs_blw01_lw05 := F_runs_blw01_lw04.keep Klw05 (by simp only [List.mem_cons, List.not_mem_nil, or_false, not_or]; exact ne_blw01_blw04)
  have F_waitCount_blw01_lw05 := F_waitCount_blw01_lw04.keep Klw05 (by simp only [List.mem_cons, List.not_mem_nil, or_false, not_or]; exact ne_blw01_blw04)
  have F_runCount_blw01_lw05 := F_runCount_blw01_lw04.keep Klw05 (by simp only [List.mem_cons, List.not_mem_nil, or_false, not_or]; exact ne_blw01_blw04)
  have Zlw05 : n0 ≤ Tlw05.heap.size := Nat.le_trans Zlw04 Klw05.1
  have KKlw05 := KKlw04.trans Klw05 (fun q hq => by simp only [List.mem_cons, List.not_mem_nil, or_false] at hq; rcases hq with rfl; exact Or.inr sz_blw04)
  have Nlw05 := Fr.app Nlw03 Nlw05q
  obtain ⟨Tlw06, hlw06, Xlw06, elw06, Elw06, Alw06, Dlw06, UTlw06, stlw06⟩ := newO Xlw05 hx hZ hown (hw _ (List.mem_of_getElem? (i := 28) rfl)) (hw _ (List.mem_of_getElem? (i := 29) rfl)) (hw _ (List.mem_of_getElem? (i := 30) rfl)) rfl (g := (mkF m 76 #[.val (.long p0), .second, .val (.long p1), .second, .val (.long p2), .second, .val (.int p3), .val (.int (0 : Int32)), .val (.ref blw01), .val (.int (1 : Int32)), .val (.ref blw04), .unset, .unset, .unset, .unset, .unset, .unset, .unset, .unset, .unset] [])) rfl (hb hby at_76) (by decide) (by decide)
  obtain ⟨blw06, Glw06⟩ : ∃ z, z = Tlw05.heap.size := ⟨_, rfl⟩
  rw [← Glw06] at Alw06 Dlw06 UTlw06 stlw06
  have ne_blw02_0_blw06 : blw02_0 ≠ blw06 := Nat.ne_of_lt (Nat.lt_of_lt_of_le V_blw02_0_lw05.lt (Nat.le_of_eq Glw06.symm))
  have ne_blw06_blw02_0 : blw06 ≠ blw02_0 := Ne.symm ne_blw02_0_blw06
  have ne_blw02_1_blw06 : blw02_1 ≠ blw06 := Nat.ne_of_lt (Nat.lt_of_lt_of_le V_blw02_1_lw05.lt (Nat.le_of_eq Glw06.symm))
  have ne_blw06_blw02_1 : blw06 ≠ blw02_1 := Ne.symm ne_blw02_1_blw06
  have ne_blw05_0_blw06 : blw05_0 ≠ blw06 := Nat.ne_of_lt (Nat.lt_of_lt_of_le Vlw05_0.lt (Nat.le_of_eq Glw06.symm))
  have ne_blw06_blw05_0 : blw06 ≠ blw05_0 := Ne.symm ne_blw05_0_blw06
  have ne_blw01_blw06 : blw01 ≠ blw06 := Nat.ne_of_lt (Nat.lt_of_lt_of_le E_blw01_lw05.lt (Nat.le_of_eq Glw06.symm))
  have ne_blw06_blw01 : blw06 ≠ blw01 := Ne.symm ne_blw01_blw06
  have ne_blw04_blw06 : blw04 ≠ blw06 := Nat.ne_of_lt (Nat.lt_of_lt_of_le qlw05_1.lt (Nat.le_of_eq Glw06.symm))
  have ne_blw06_blw04 : blw06 ≠ blw04 := Ne.symm ne_blw04_blw06
  have g_blw06 : n0 ≤ blw06 := Nat.le_trans Zlw05 (Nat.le_of_eq Glw06.symm)
  have sz_blw06 : h0.size ≤ blw06 := Nat.le_trans KKlw05.1 (Nat.le_of_eq Glw06.symm)
  have V_blw02_0_lw06 := V_blw02_0_lw05.ext Elw06
  have V_blw02_1_lw06 := V_blw02_1_lw05.ext Elw06
  have V_blw05_0_lw06 := Vlw05_0.ext Elw06
  have E_blw01_lw06 := E_blw01_lw05.ext Elw06
  have F_waits_blw01_lw06 := F_waits_blw01_lw05.ext Elw06
  have F_runs_blw01_lw06 := F_runs_blw01_lw05.ext Elw06
  have F_waitCount_blw01_lw06 := F_waitCount_blw01_lw05.ext Elw06
  have F_runCount_blw01_lw06 := F_runCount_blw01_lw05.ext Elw06
  have E_blw04_lw06 := qlw05_1.ext Elw06
  have U_blw04_lw06 := Unt.ext Elw06 qlw05_0
  have F_ranges_blw04_lw06 := qlw05_2.ext Elw06
  have F_count_blw04_lw06 := qlw05_3.ext Elw06
  have F_sum_blw04_lw06 := qlw05_4.ext Elw06
  have F_max_blw04_lw06 := qlw05_5.ext Elw06
  have Zlw06 : n0 ≤ hlw06.size := Nat.le_trans Zlw05 Elw06.1
  have KKlw06 := KKlw05.ext Elw06
  have F_ranges_blw06 : Fld Z hlw06 blw06 "millrace/DurationHistogram" "ranges" "[[J" .null := Dlw06 (Or.inr (hw _ (List.mem_of_getElem? (i := 38) rfl))) (ty := (.array (.array .long))) (by decide)
  have F_count_blw06 : Fld Z hlw06 blw06 "millrace/DurationHistogram" "count" "J" (.long (0 : Int64)) := Dlw06 (Or.inl (hw _ (List.mem_of_getElem? (i := 74) rfl))) (ty := .long) (by decide)
  have F_sum_blw06 : Fld Z hlw06 blw06 "millrace/DurationHistogram" "sum" "D" (.double 0) := Dlw06 (Or.inl (hw _ (List.mem_of_getElem? (i := 76) rfl))) (ty := .double) (by decide)
  have F_max_blw06 : Fld Z hlw06 blw06 "millrace/DurationHistogram" "max" "J" (.long (0 : Int64)) := Dlw06 (Or.inl (hw _ (List.mem_of_getElem? (i := 78) rfl))) (ty := .long) (by decide)
  obtain ⟨_, _, ⟨Tlw07, Llw07, klw07, nlw07⟩, -, Xlw07, ⟨Lclw07, hQlw07, llw07, ylw07, zlw07⟩, stlw07⟩ := Xlw06.specialBack hx (y := (⟨"millrace/DurationHistogram", "<init>", "()V"⟩ : MethodName)) rfl hown (mvT hZ (hw _ (List.mem_of_getElem? (i := 31) rfl))) (mvT hZ (hw _ (List.mem_of_getElem? (i := 32) rfl))) (mvT hZ (hw _ (List.mem_of_getElem? (i := 33) rfl))) (by decide) (backOf (W := 1) (own_rm_dhi l Z a0 hw [] blw06 hlw06 n0 Zlw06 Alw06 UTlw06 F_ranges_blw06 F_count_blw06 F_sum_blw06 F_max_blw06 g_blw06) hZ (hw _ (List.mem_of_getElem? (i := 33) rfl)) (hw _ (List.mem_of_getElem? (i := 30) rfl)) (by decide) (by decide)) (g := (mkF m 80 #[.val (.long p0), .second, .val (.long p1), .second, .val (.long p2), .second, .val (.int p3), .val (.int (0 : Int32)), .val (.ref blw01), .val (.int (1 : Int32)), .val (.ref blw04), .unset, .unset, .unset, .unset, .unset, .unset, .unset, .unset, .unset] [(.ref blw06), (.ref blw06)])) rfl (by rw [hml]; rfl) (Steps.refl _) (a := blw06) (argsL := []) (rest := [(.ref blw06)]) (lenOf own_pd_2829V rfl) rfl (by show 2 * 0 + _ ≤ _; exact Nat.le_of_eq rfl) (hb hby at_80) (fun _ _ => ⟨rfl, elw06, (by decide : 6 + 1 ≤ _), (by decide : 197 + 57 ≤ _)⟩)
  dsimp only [Pt.U, Pt.locs, Pt.cells, Pt.slots] at Xlw07 llw07 ylw07 zlw07 stlw07 hQlw07
  rw [llw07, ylw07, zlw07] at Xlw07
  obtain ⟨blw07_0, klw07_0, rfl, Nlw07q, Klw07, qlw07_0, qlw07_1, qlw07_2, qlw07_3, qlw07_4, qlw07_5, Glw07_0, Vlw07_0, Olw07_0⟩ := hQlw07
  have ne_blw02_0_blw07_0 : blw02_0 ≠ blw07_0 := Nat.ne_of_lt (Nat.lt_of_lt_of_le V_blw02_0_lw06.lt Glw07_0)
  have ne_blw07_0_blw02_0 : blw07_0 ≠ blw02_0 := Ne.symm ne_blw02_0_blw07_0
  have ne_blw02_1_blw07_0 : blw02_1 ≠ blw07_0 := Nat.ne_of_lt (Nat.lt_of_lt_of_le V_blw02_1_lw06.lt Glw07_0)
  have ne_blw07_0_blw02_1 : blw07_0 ≠ blw02_1 := Ne.symm ne_blw02_1_blw07_0
  have ne_blw05_0_blw07_0 : blw05_0 ≠ blw07_0 := Nat.ne_of_lt (Nat.lt_of_lt_of_le V_blw05_0_lw06.lt Glw07_0)
  have ne_blw07_0_blw05_0 : blw07_0 ≠ blw05_0 := Ne.symm ne_blw05_0_blw07_0
  have ne_blw01_blw07_0 : blw01 ≠ blw07_0 := Nat.ne_of_lt (Nat.lt_of_lt_of_le E_blw01_lw06.lt Glw07_0)
  have ne_blw07_0_blw01 : blw07_0 ≠ blw01 := Ne.symm ne_blw01_blw07_0
  have ne_blw04_blw07_0 : blw04 ≠ blw07_0 := Nat.ne_of_lt (Nat.lt_of_lt_of_le E_blw04_lw06.lt Glw07_0)
  have ne_blw07_0_blw04 : blw07_0 ≠ blw04 := Ne.symm ne_blw04_blw07_0
  have ne_blw06_blw07_0 : blw06 ≠ blw07_0 := Nat.ne_of_lt (Nat.lt_of_lt_of_le Alw06.lt Glw07_0)
  have ne_blw07_0_blw06 : blw07_0 ≠ blw06 := Ne.symm ne_blw06_blw07_0
  have g_blw07_0 : n0 ≤ blw07_0 := Nat.le_trans Zlw06 Glw07_0
  have sz_blw07_0 : h0.size ≤ blw07_0 := Nat.le_trans KKlw06.1 Glw07_0
  have V_blw02_0_lw07 := V_blw02_0_lw06.keep Klw07 (by simp only [List.mem_cons, List.not_mem_nil, or_false, not_or]; exact ne_blw02_0_blw06)
  have V_blw02_1_lw07 := V_blw02_1_lw06.keep Klw07 (by simp only [List.mem_cons, List.not_mem_nil, or_false, not_or]; exact ne_blw02_1_blw06)
  have V_blw05_0_lw07 := V_blw05_0_lw06.keep Klw07 (by simp only [List.mem_cons, List.not_mem_nil, or_false, not_or]; exact ne_blw05_0_blw06)
  have E_blw01_lw07 := E_blw01_lw06.keep Klw07
  have F_waits_blw01_lw07 := F_waits_blw01_lw06.keep Klw07 (by simp only [List.mem_cons, List.not_mem_nil, or_false, not_or]; exact ne_blw01_blw06)
  have F_runs_blw01_lw07 := F_runs_blw01_lw06.keep Klw07 (by simp only [List.mem_cons, List.not_mem_nil, or_false, not_or]; exact ne_blw01_blw06)
  have F_waitCount_blw01_lw07 := F_waitCount_blw01_lw06.keep Klw07 (by simp only [List.mem_cons, List.not_mem_nil, or_false, not_or]; exact ne_blw01_blw06)
  have F_runCount_blw01_lw07 := F_runCount_blw01_lw06.keep Klw07 (by simp only [List.mem_cons, List.not_mem_nil, or_false, not_or]; exact ne_blw01_blw06)
  have E_blw04_lw07 := E_blw04_lw06.keep Klw07
  have U_blw04_lw07 := Unt.keep Klw07 (by simp only [List.mem_cons, List.not_mem_nil, or_false, not_or]; exact ne_blw04_blw06) U_blw04_lw06
  have F_ranges_blw04_lw07 := F_ranges_blw04_lw06.keep Klw07 (by simp only [List.mem_cons, List.not_mem_nil, or_false, not_or]; exact ne_blw04_blw06)
  have F_count_blw04_lw07 := F_count_blw04_lw06.keep Klw07 (by simp only [List.mem_cons, List.not_mem_nil, or_false, not_or]; exact ne_blw04_blw06)
  have F_sum_blw04_lw07 := F_sum_blw04_lw06.keep Klw07 (by simp only [List.mem_cons, List.not_mem_nil, or_false, not_or]; exact ne_blw04_blw06)
  have F_max_blw04_lw07 := F_max_blw04_lw06.keep Klw07 (by simp only [List.mem_cons, List.not_mem_nil, or_false, not_or]; exact ne_blw04_blw06)
  have Zlw07 : n0 ≤ Tlw07.heap.size := Nat.le_trans Zlw06 Klw07.1
  have KKlw07 := KKlw06.trans Klw07 (fun q hq => by simp only [List.mem_cons, List.not_mem_nil, or_false] at hq; rcases hq with rfl; exact Or.inr sz_blw06)
  have Nlw07 := Fr.app Nlw05 Nlw07q
  have HH1 : own_Hist Z Tlw07.heap blw04 blw05_0 [] 0 0 0 0 := ⟨E_blw04_lw07, F_ranges_blw04_lw07, F_count_blw04_lw07, F_sum_blw04_lw07, F_max_blw04_lw07, ⟨_, _, V_blw05_0_lw07, Olw05_0, List.length_replicate, own_Bks.nulls 57⟩, ne_blw04_blw05_0, (fun q => nomatch q), (fun q => nomatch q)⟩
  have HG1 : own_G n0 blw04 blw05_0 [] := ⟨g_blw04, g_blw05_0, fun _ q => nomatch q⟩
  have lt_blw04 := E_blw04_lw07.lt
  have HH2 : own_Hist Z Tlw07.heap blw06 blw07_0 [] 0 0 0 0 := ⟨qlw07_1, qlw07_2, qlw07_3, qlw07_4, qlw07_5, ⟨_, _, Vlw07_0, Olw07_0, List.length_replicate, own_Bks.nulls 57⟩, ne_blw06_blw07_0, (fun q => nomatch q), (fun q => nomatch q)⟩
  have HG2 : own_G n0 blw06 blw07_0 [] := ⟨g_blw06, g_blw07_0, fun _ q => nomatch q⟩
  have lt_blw06 := qlw07_1.lt
  obtain ⟨cqlw08, kqlw08, qlw08a, qlw08b, qlw08c⟩ := isOf hZ rfl E_blw01_lw07
  obtain ⟨_, _, ⟨Tlw08, Llw08, klw08, nlw08⟩, -, Xlw08, ⟨Lclw08, hQlw08, llw08, ylw08, zlw08⟩, stlw08⟩ := Xlw07.virtualBack hx (y := (⟨"millrace/TimingBuffer", "flush", "(Lmillrace/DurationHistogram;Lmillrace/DurationHistogram;)V"⟩ : MethodName)) (z := (⟨"millrace/TimingBuffer", "flush", "(Lmillrace/DurationHistogram;Lmillrace/DurationHistogram;)V"⟩ : MethodName)) hown (mvT hZ (hw _ (List.mem_of_getElem? (i := 39) rfl))) (mvT hZ (hw _ (List.mem_of_getElem? (i := 40) rfl))) (notFace_of_selects (args := #[]) (mvT hZ (hw _ (List.mem_of_getElem? (i := 42) rfl)))) (mvT hZ (hw _ (List.mem_of_getElem? (i := 42) rfl))) (mvT hZ (hw _ (List.mem_of_getElem? (i := 41) rfl))) (by decide) (backOf (W := 0) (own_rm_fl0 l Z a0 hw [] blw01 blw02_0 blw02_1 blw04 blw06 (List.replicate 64 (Value.long 0)) (List.replicate 64 (Value.long 0)) blw05_0 blw07_0 Tlw07.heap n0 Zlw07 E_blw01_lw07 F_waits_blw01_lw07 F_waitCount_blw01_lw07 F_runs_blw01_lw07 F_runCount_blw01_lw07 E_blw04_lw07 qlw07_1 V_blw02_0_lw07 V_blw02_1_lw07 ne_blw01_blw02_0 ne_blw01_blw02_1 ne_blw01_blw04 ne_blw01_blw05_0 ne_blw01_blw06 ne_blw01_blw07_0 ne_blw02_0_blw04 ne_blw02_0_blw05_0 ne_blw02_0_blw06 ne_blw02_0_blw07_0 ne_blw02_1_blw04 ne_blw02_1_blw05_0 ne_blw02_1_blw06 ne_blw02_1_blw07_0 ne_blw04_blw06 ne_blw04_blw07_0 ne_blw05_0_blw06 ne_blw05_0_blw07_0 g_blw01 HH1 U_blw04_lw07 HH2 qlw07_0 HG1 HG2 ) hZ (hw _ (List.mem_of_getElem? (i := 43) rfl)) (hw _ (List.mem_of_getElem? (i := 2) rfl)) (by decide) (by decide)) qlw08a qlw08c (g := (mkF m 91 #[.val (.long p0), .second, .val (.long p1), .second, .val (.long p2), .second, .val (.int p3), .val (.int (0 : Int32)), .val (.ref blw01), .val (.int (1 : Int32)), .val (.ref blw04), .val (.ref blw06), .unset, .unset, .unset, .unset, .unset, .unset, .unset, .unset] [(.ref blw06), (.ref blw04), (.ref blw01)])) rfl (by rw [hml]; rfl) (Steps.refl _) (argsL := [(.ref blw04), (.ref blw06)]) (rest := []) (lenOf own_pd_28Lmillrace2fDurationHistogram3bLmillrace2fDurationHistogram3b29V rfl) rfl (by show 2 * 0 + _ ≤ _; exact Nat.le_of_eq rfl) (hb hby at_91) (fun _ _ => ⟨rfl, rfl, (by decide : 7 + 0 ≤ _), (by decide : 254 + 0 ≤ _)⟩)
  dsimp only [Pt.U, Pt.locs, Pt.cells, Pt.slots] at Xlw08 llw08 ylw08 zlw08 stlw08 hQlw08
  rw [llw08, ylw08, zlw08] at Xlw08
  obtain ⟨rfl, Nlw08q, Klw08, aslw08_1, aslw08_2, Hlw08_1, Ulw08_1, GAlw08_1, Hlw08_2, Ulw08_2, GAlw08_2⟩ := hQlw08
  have Zlw08 : n0 ≤ Tlw08.heap.size := Nat.le_trans Zlw07 Klw08.1
  have KKlw08 := KKlw07.trans Klw08 (fun q hq => by simp only [List.mem_cons, List.not_mem_nil, or_false] at hq; rcases hq with rfl | rfl | rfl | rfl | rfl <;> first | exact Or.inr sz_blw04 | exact Or.inr sz_blw05_0 | exact Or.inr sz_blw06 | exact Or.inr sz_blw07_0 | exact Or.inr sz_blw01)
  have Nlw08 := Fr.app Nlw07 Nlw08q
  obtain ⟨cqlw09, kqlw09, qlw09a, qlw09b, qlw09c⟩ := isOf hZ rfl Hlw08_1.exa
  obtain ⟨_, _, ⟨Tlw09, Llw09, klw09, nlw09⟩, -, Xlw09, ⟨Lclw09, hQlw09, llw09, ylw09, zlw09⟩, stlw09⟩ := Xlw08.virtualBack hx (y := (⟨"millrace/DurationHistogram", "summary", "()Lmillrace/PoolSnapshot$Timing;"⟩ : MethodName)) (z := (⟨"millrace/DurationHistogram", "summary", "()Lmillrace/PoolSnapshot$Timing;"⟩ : MethodName)) hown (mvT hZ (hw _ (List.mem_of_getElem? (i := 79) rfl))) (mvT hZ (hw _ (List.mem_of_getElem? (i := 80) rfl))) (notFace_of_selects (args := #[]) (mvT hZ (hw _ (List.mem_of_getElem? (i := 82) rfl)))) (mvT hZ (hw _ (List.mem_of_getElem? (i := 82) rfl))) (mvT hZ (hw _ (List.mem_of_getElem? (i := 81) rfl))) (by decide) (own_backS (W := 0) (own_rm_sum0 l Z a0 hw (ws := [Jvm.Cond.instanceMethod (⟨"millrace/DurationHistogram", "summary", "()Lmillrace/PoolSnapshot$Timing;"⟩ : MethodName)]) (List.mem_cons_self ..) blw04 blw05_0 aslw08_1 0 0 0 Tlw08.heap n0 Zlw08 Hlw08_1 Ulw08_1 ) Ulw08_1 hZ (hw _ (List.mem_of_getElem? (i := 83) rfl)) (hw _ (List.mem_of_getElem? (i := 81) rfl)) (hw _ (List.mem_of_getElem? (i := 30) rfl)) (by decide) (by decide)) qlw09a qlw09c (g := (mkF m 96 #[.val (.long p0), .second, .val (.long p1), .second, .val (.long p2), .second, .val (.int p3), .val (.int (0 : Int32)), .val (.ref blw01), .val (.int (1 : Int32)), .val (.ref blw04), .val (.ref blw06), .unset, .unset, .unset, .unset, .unset, .unset, .unset, .unset] [(.ref blw04)])) rfl (by rw [hml]; rfl) (Steps.refl _) (argsL := []) (rest := []) (lenOf own_pd_2829Lmillrace2fPoolSnapshot24Timing3b rfl) rfl (by show 2 * 0 + _ ≤ _; exact Nat.le_of_eq rfl) (hb hby at_96) (fun _ _ => ⟨rfl, rfl, (by decide : 7 + 1 ≤ _), (by decide : 254 + 6 ≤ _)⟩)
  dsimp only [Pt.U, Pt.locs, Pt.cells, Pt.slots] at Xlw09 llw09 ylw09 zlw09 stlw09 hQlw09
  rw [llw09, ylw09, zlw09] at Xlw09
  obtain ⟨blw09, rfl, Nlw09q, Klw09, Glw09, EXlw09, Flw09_1, Flw09_2, Flw09_3⟩ := hQlw09
  have ne_blw04_blw09 : blw04 ≠ blw09 := Nat.ne_of_lt (Nat.lt_of_lt_of_le Hlw08_1.exa.lt Glw09)
  have ne_blw09_blw04 : blw09 ≠ blw04 := Ne.symm ne_blw04_blw09
  have ne_blw06_blw09 : blw06 ≠ blw09 := Nat.ne_of_lt (Nat.lt_of_lt_of_le Hlw08_2.exa.lt Glw09)
  have ne_blw09_blw06 : blw09 ≠ blw06 := Ne.symm ne_blw06_blw09
  have g_blw09 : n0 ≤ blw09 := Nat.le_trans Zlw08 Glw09
  have sz_blw09 : h0.size ≤ blw09 := Nat.le_trans KKlw08.1 Glw09
  have E_blw06_lw09 := Hlw08_2.exa.keep Klw09
  have H_blw06_lw09 := Hlw08_2.keep Klw09 (by simp only [List.mem_cons, List.not_mem_nil, or_false, not_or]; exact ne_blw06_blw04) (by simp only [List.mem_cons, List.not_mem_nil, or_false, not_or]; exact ne_blw07_0_blw04) (fun x hx => by simp only [List.mem_cons, List.not_mem_nil, or_false, not_or]; exact fun e => absurd lt_blw04 (Nat.not_lt.mpr (GAlw08_2 blw04 (e ▸ hx))))
  have HU_blw06_lw09 := Unt.keep Klw09 (by simp only [List.mem_cons, List.not_mem_nil, or_false, not_or]; exact ne_blw06_blw04) Ulw08_2
  have Zlw09 : n0 ≤ Tlw09.heap.size := Nat.le_trans Zlw08 Klw09.1
  have KKlw09 := KKlw08.trans Klw09 (fun q hq => by simp only [List.mem_cons, List.not_mem_nil, or_false] at hq; rcases hq with rfl; exact Or.inr sz_blw04)
  have Nlw09 := Fr.app Nlw08 Nlw09q
  obtain ⟨cqlw010, kqlw010, qlw010a, qlw010b, qlw010c⟩ := isOf hZ rfl E_blw06_lw09
  obtain ⟨_, _, ⟨Tlw010, Llw010, klw010, nlw010⟩, -, Xlw010, ⟨Lclw010, hQlw010, llw010, ylw010, zlw010⟩, stlw010⟩ := Xlw09.virtualBack hx (y := (⟨"millrace/DurationHistogram", "summary", "()Lmillrace/PoolSnapshot$Timing;"⟩ : MethodName)) (z := (⟨"millrace/DurationHistogram", "summary", "()Lmillrace/PoolSnapshot$Timing;"⟩ : MethodName)) hown (mvT hZ (hw _ (List.mem_of_getElem? (i := 79) rfl))) (mvT hZ (hw _ (List.mem_of_getElem? (i := 80) rfl))) (notFace_of_selects (args := #[]) (mvT hZ (hw _ (List.mem_of_getElem? (i := 82) rfl)))) (mvT hZ (hw _ (List.mem_of_getElem? (i := 82) rfl))) (mvT hZ (hw _ (List.mem_of_getElem? (i := 81) rfl))) (by decide) (own_backS (W := 0) (own_rm_sum0 l Z a0 hw (ws := [Jvm.Cond.instanceMethod (⟨"millrace/DurationHistogram", "summary", "()Lmillrace/PoolSnapshot$Timing;"⟩ : MethodName)]) (List.mem_cons_self ..) blw06 blw07_0 aslw08_2 0 0 0 Tlw09.heap n0 Zlw09 H_blw06_lw09 HU_blw06_lw09 ) HU_blw06_lw09 hZ (hw _ (List.mem_of_getElem? (i := 83) rfl)) (hw _ (List.mem_of_getElem? (i := 81) rfl)) (hw _ (List.mem_of_getElem? (i := 30) rfl)) (by decide) (by decide)) qlw010a qlw010c (g := (mkF m 103 #[.val (.long p0), .second, .val (.long p1), .second, .val (.long p2), .second, .val (.int p3), .val (.int (0 : Int32)), .val (.ref blw01), .val (.int (1 : Int32)), .val (.ref blw04), .val (.ref blw06), .val (.ref blw09), .unset, .unset, .unset, .unset, .unset, .unset, .unset] [(.ref blw06)])) rfl (by rw [hml]; rfl) (Steps.refl _) (argsL := []) (rest := []) (lenOf own_pd_2829Lmillrace2fPoolSnapshot24Timing3b rfl) rfl (by show 2 * 0 + _ ≤ _; exact Nat.le_of_eq rfl) (hb hby at_103) (fun _ _ => ⟨rfl, rfl, (by decide : 8 + 1 ≤ _), (by decide : 260 + 6 ≤ _)⟩)
  dsimp only [Pt.U, Pt.locs, Pt.cells, Pt.slots] at Xlw010 llw010 ylw010 zlw010 stlw010 hQlw010
  rw [llw010, ylw010, zlw010] at Xlw010
  obtain ⟨blw010, rfl, Nlw010q, Klw010, Glw010, EXlw010, Flw010_1, Flw010_2, Flw010_3⟩ := hQlw010
  have ne_blw06_blw010 : blw06 ≠ blw010 := Nat.ne_of_lt (Nat.lt_of_lt_of_le E_blw06_lw09.lt Glw010)
  have ne_blw010_blw06 : blw010 ≠ blw06 := Ne.symm ne_blw06_blw010
  have ne_blw09_blw010 : blw09 ≠ blw010 := Nat.ne_of_lt (Nat.lt_of_lt_of_le EXlw09.lt Glw010)
  have ne_blw010_blw09 : blw010 ≠ blw09 := Ne.symm ne_blw09_blw010
  have g_blw010 : n0 ≤ blw010 := Nat.le_trans Zlw09 Glw010
  have sz_blw010 : h0.size ≤ blw010 := Nat.le_trans KKlw09.1 Glw010
  have E_blw09_lw010 := EXlw09.keep Klw010
  have F_count_blw09_lw010 := Flw09_1.keep Klw010 (by simp only [List.mem_cons, List.not_mem_nil, or_false, not_or]; exact ne_blw09_blw06)
  have F_meanNanos_blw09_lw010 := Flw09_2.keep Klw010 (by simp only [List.mem_cons, List.not_mem_nil, or_false, not_or]; exact ne_blw09_blw06)
  have F_maxNanos_blw09_lw010 := Flw09_3.keep Klw010 (by simp only [List.mem_cons, List.not_mem_nil, or_false, not_or]; exact ne_blw09_blw06)
  have Zlw010 : n0 ≤ Tlw010.heap.size := Nat.le_trans Zlw09 Klw010.1
  have KKlw010 := KKlw09.trans Klw010 (fun q hq => by simp only [List.mem_cons, List.not_mem_nil, or_false] at hq; rcases hq with rfl; exact Or.inr sz_blw06)
  have Nlw010 := Fr.app Nlw09 Nlw010q
  obtain ⟨cqlw011, kqlw011, qlw011a, qlw011b, qlw011c⟩ := isOf hZ rfl E_blw09_lw010
  obtain ⟨_, _, ⟨Tlw011, Llw011, klw011, nlw011⟩, -, Xlw011, ⟨Lclw011, hQlw011, llw011, ylw011, zlw011⟩, stlw011⟩ := Xlw010.virtualBack hx (y := (⟨"millrace/PoolSnapshot$Timing", "count", "()J"⟩ : MethodName)) (z := (⟨"millrace/PoolSnapshot$Timing", "count", "()J"⟩ : MethodName)) hown (mvT hZ (hw _ (List.mem_of_getElem? (i := 121) rfl))) (mvT hZ (hw _ (List.mem_of_getElem? (i := 122) rfl))) (notFace_of_selects (args := #[]) (mvT hZ (hw _ (List.mem_of_getElem? (i := 124) rfl)))) (mvT hZ (hw _ (List.mem_of_getElem? (i := 124) rfl))) (mvT hZ (hw _ (List.mem_of_getElem? (i := 123) rfl))) (by decide) (backOf (W := 0) (own_rm_tgcount l Z a0 hw [] blw09 (0 : Int64) Tlw010.heap n0 Zlw010 E_blw09_lw010 F_count_blw09_lw010) hZ (hw _ (List.mem_of_getElem? (i := 125) rfl)) (hw _ (List.mem_of_getElem? (i := 86) rfl)) (by decide) (by decide)) qlw011a qlw011c (g := (mkF m 229 #[.val (.long p0), .second, .val (.long p1), .second, .val (.long p2), .second, .val (.int p3), .val (.int (0 : Int32)), .val (.ref blw01), .val (.int (1 : Int32)), .val (.ref blw04), .val (.ref blw06), .val (.ref blw09), .val (.ref blw010), .val (.long (0 : Int64)), .second, .val (.double 0), .second, .val (.double 0), .second] [(.ref blw09)])) rfl (by rw [hml]; rfl) (Steps.refl _) (argsL := []) (rest := []) (lenOf own_pd_2829J rfl) rfl (by show 2 * 0 + _ ≤ _; exact Nat.le_of_eq rfl) (hb hby at_229) (fun _ _ => ⟨rfl, rfl, (by decide : 9 + 0 ≤ _), (by decide : 266 + 0 ≤ _)⟩)
  dsimp only [Pt.U, Pt.locs, Pt.cells, Pt.slots] at Xlw011 llw011 ylw011 zlw011 stlw011 hQlw011
  rw [llw011, ylw011, zlw011] at Xlw011
  obtain ⟨rfl, Nlw011q, elw011⟩ := hQlw011
  have Nlw011 := Fr.app Nlw010 Nlw011q
  obtain ⟨cqlw012, kqlw012, qlw012a, qlw012b, qlw012c⟩ := isOf hZ elw011 E_blw09_lw010
  obtain ⟨_, _, ⟨Tlw012, Llw012, klw012, nlw012⟩, -, Xlw012, ⟨Lclw012, hQlw012, llw012, ylw012, zlw012⟩, stlw012⟩ := Xlw011.virtualBack hx (y := (⟨"millrace/PoolSnapshot$Timing", "maxNanos", "()J"⟩ : MethodName)) (z := (⟨"millrace/PoolSnapshot$Timing", "maxNanos", "()J"⟩ : MethodName)) hown (mvT hZ (hw _ (List.mem_of_getElem? (i := 126) rfl))) (mvT hZ (hw _ (List.mem_of_getElem? (i := 127) rfl))) (notFace_of_selects (args := #[]) (mvT hZ (hw _ (List.mem_of_getElem? (i := 129) rfl)))) (mvT hZ (hw _ (List.mem_of_getElem? (i := 129) rfl))) (mvT hZ (hw _ (List.mem_of_getElem? (i := 128) rfl))) (by decide) (backOf (W := 0) (own_rm_tgmaxNanos l Z a0 hw [] blw09 (0 : Int64) Tlw010.heap n0 Zlw010 E_blw09_lw010 F_maxNanos_blw09_lw010) hZ (hw _ (List.mem_of_getElem? (i := 130) rfl)) (hw _ (List.mem_of_getElem? (i := 86) rfl)) (by decide) (by decide)) qlw012a qlw012c (g := (mkF m 241 #[.val (.long p0), .second, .val (.long p1), .second, .val (.long p2), .second, .val (.int p3), .val (.int (0 : Int32)), .val (.ref blw01), .val (.int (1 : Int32)), .val (.ref blw04), .val (.ref blw06), .val (.ref blw09), .val (.ref blw010), .val (.long (0 : Int64)), .second, .val (.double 0), .second, .val (.double 0), .second] [(.ref blw09)])) rfl (by rw [hml]; rfl) (Steps.refl _) (argsL := []) (rest := []) (lenOf own_pd_2829J rfl) rfl (by show 2 * 0 + _ ≤ _; exact Nat.le_of_eq rfl) (hb hby at_241) (fun _ _ => ⟨rfl, elw011, (by decide : 9 + 0 ≤ _), (by decide : 266 + 0 ≤ _)⟩)
  dsimp only [Pt.U, Pt.locs, Pt.cells, Pt.slots] at Xlw012 llw012 ylw012 zlw012 stlw012 hQlw012
  rw [llw012, ylw012, zlw012] at Xlw012
  obtain ⟨rfl, Nlw012q, elw012⟩ := hQlw012
  have Nlw012 := Fr.app Nlw011 Nlw012q
  obtain ⟨cqlw013, kqlw013, qlw013a, qlw013b, qlw013c⟩ := isOf hZ elw012 E_blw09_lw010
  obtain ⟨_, _, ⟨Tlw013, Llw013, klw013, nlw013⟩, -, Xlw013, ⟨Lclw013, hQlw013, llw013, ylw013, zlw013⟩, stlw013⟩ := Xlw012.virtualBack hx (y := (⟨"millrace/PoolSnapshot$Timing", "meanNanos", "()D"⟩ : MethodName)) (z := (⟨"millrace/PoolSnapshot$Timing", "meanNanos", "()D"⟩ : MethodName)) hown (mvT hZ (hw _ (List.mem_of_getElem? (i := 131) rfl))) (mvT hZ (hw _ (List.mem_of_getElem? (i := 132) rfl))) (notFace_of_selects (args := #[]) (mvT hZ (hw _ (List.mem_of_getElem? (i := 134) rfl)))) (mvT hZ (hw _ (List.mem_of_getElem? (i := 134) rfl))) (mvT hZ (hw _ (List.mem_of_getElem? (i := 133) rfl))) (by decide) (backOf (W := 0) (own_rm_tgmeanNanos l Z a0 hw [] blw09 0 Tlw010.heap n0 Zlw010 E_blw09_lw010 F_meanNanos_blw09_lw010) hZ (hw _ (List.mem_of_getElem? (i := 135) rfl)) (hw _ (List.mem_of_getElem? (i := 86) rfl)) (by decide) (by decide)) qlw013a qlw013c (g := (mkF m 252 #[.val (.long p0), .second, .val (.long p1), .second, .val (.long p2), .second, .val (.int p3), .val (.int (0 : Int32)), .val (.ref blw01), .val (.int (1 : Int32)), .val (.ref blw04), .val (.ref blw06), .val (.ref blw09), .val (.ref blw010), .val (.long (0 : Int64)), .second, .val (.double 0), .second, .val (.double 0), .second] [(.ref blw09)])) rfl (by rw [hml]; rfl) (Steps.refl _) (argsL := []) (rest := []) (lenOf own_pd_2829D rfl) rfl (by show 2 * 0 + _ ≤ _; exact Nat.le_of_eq rfl) (hb hby at_252) (fun _ _ => ⟨rfl, elw012, (by decide : 9 + 0 ≤ _), (by decide : 266 + 0 ≤ _)⟩)
  dsimp only [Pt.U, Pt.locs, Pt.cells, Pt.slots] at Xlw013 llw013 ylw013 zlw013 stlw013 hQlw013
  rw [llw013, ylw013, zlw013] at Xlw013
  obtain ⟨rfl, Nlw013q, elw013⟩ := hQlw013
  have Nlw013 := Fr.app Nlw012 Nlw013q
  obtain ⟨cqlw014, kqlw014, qlw014a, qlw014b, qlw014c⟩ := isOf hZ elw013 EXlw010
  obtain ⟨_, _, ⟨Tlw014, Llw014, klw014, nlw014⟩, -, Xlw014, ⟨Lclw014, hQlw014, llw014, ylw014, zlw014⟩, stlw014⟩ := Xlw013.virtualBack hx (y := (⟨"millrace/PoolSnapshot$Timing", "count", "()J"⟩ : MethodName)) (z := (⟨"millrace/PoolSnapshot$Timing", "count", "()J"⟩ : MethodName)) hown (mvT hZ (hw _ (List.mem_of_getElem? (i := 121) rfl))) (mvT hZ (hw _ (List.mem_of_getElem? (i := 122) rfl))) (notFace_of_selects (args := #[]) (mvT hZ (hw _ (List.mem_of_getElem? (i := 124) rfl)))) (mvT hZ (hw _ (List.mem_of_getElem? (i := 124) rfl))) (mvT hZ (hw _ (List.mem_of_getElem? (i := 123) rfl))) (by decide) (backOf (W := 0) (own_rm_tgcount l Z a0 hw [] blw010 (0 : Int64) Tlw010.heap n0 Zlw010 EXlw010 Flw010_1) hZ (hw _ (List.mem_of_getElem? (i := 125) rfl)) (hw _ (List.mem_of_getElem? (i := 86) rfl)) (by decide) (by decide)) qlw014a qlw014c (g := (mkF m 263 #[.val (.long p0), .second, .val (.long p1), .second, .val (.long p2), .second, .val (.int p3), .val (.int (0 : Int32)), .val (.ref blw01), .val (.int (1 : Int32)), .val (.ref blw04), .val (.ref blw06), .val (.ref blw09), .val (.ref blw010), .val (.long (0 : Int64)), .second, .val (.double 0), .second, .val (.double 0), .second] [(.ref blw010)])) rfl (by rw [hml]; rfl) (Steps.refl _) (argsL := []) (rest := []) (lenOf own_pd_2829J rfl) rfl (by show 2 * 0 + _ ≤ _; exact Nat.le_of_eq rfl) (hb hby at_263) (fun _ _ => ⟨rfl, elw013, (by decide : 9 + 0 ≤ _), (by decide : 266 + 0 ≤ _)⟩)
  dsimp only [Pt.U, Pt.locs, Pt.cells, Pt.slots] at Xlw014 llw014 ylw014 zlw014 stlw014 hQlw014
  rw [llw014, ylw014, zlw014] at Xlw014
  obtain ⟨rfl, Nlw014q, elw014⟩ := hQlw014
  have Nlw014 := Fr.app Nlw013 Nlw014q
  obtain ⟨fs, hr, hrun, hended, hW, hsame⟩ := Xlw014.leave (v := some (.int (1 : Int32))) (fun h => by rw [Bd.returns] at h; cases h)
  refine ⟨_, _, pre0 _ ?_, hrun, hended, _, _, rfl, ?_, ⟨_, rfl⟩, hW, hsame.mono (by decide) (by decide)⟩
  · refine own_s_iload X0.here hx (hb hby at_0) (pc' := 2) rfl rfl ?_
    refine own_s_iconst X0.here hx (hb hby at_2) (pc' := 3) rfl (v := (3 : Int32)) (by decide) ?_
    refine own_s_iand X0.here hx (hb hby at_3) (pc' := 4) rfl (v := (0 : Int32)) lw0_hv3 ?_
    refine own_s_istore X0.here hx (hb hby at_4) (pc' := 6) rfl (L' := #[.val (.long p0), .second, .val (.long p1), .second, .val (.long p2), .second, .val (.int p3), .val (.int (0 : Int32)), .unset, .unset, .unset, .unset, .unset, .unset, .unset, .unset, .unset, .unset, .unset, .unset]) rfl ?_
    refine stlw01 _ ?_
    show Steps p.tables e below (Tlw01.setTop (mkF m 9 #[.val (.long p0), .second, .val (.long p1), .second, .val (.long p2), .second, .val (.int p3), .val (.int (0 : Int32)), .unset, .unset, .unset, .unset, .unset, .unset, .unset, .unset, .unset, .unset, .unset, .unset] [(.ref blw01)])) _
    refine own_s_dup Xlw01.here hx (hb hby at_9) (pc' := 10) rfl rfl ?_
    refine stlw02.trans ?_
    show Steps p.tables e below (Tlw02.setTop (mkF m 13 #[.val (.long p0), .second, .val (.long p1), .second, .val (.long p2), .second, .val (.int p3), .val (.int (0 : Int32)), .unset, .unset, .unset, .unset, .unset, .unset, .unset, .unset, .unset, .unset, .unset, .unset] [(.ref blw01)])) _
    refine own_s_astore Xlw02.here hx (hb hby at_13) (pc' := 15) rfl rfl (L' := #[.val (.long p0), .second, .val (.long p1), .second, .val (.long p2), .second, .val (.int p3), .val (.int (0 : Int32)), .val (.ref blw01), .unset, .unset, .unset, .unset, .unset, .unset, .unset, .unset, .unset, .unset, .unset]) rfl ?_
    refine own_s_iload Xlw02.here hx (hb hby at_15) (pc' := 17) rfl rfl ?_
    refine own_s_iconst Xlw02.here hx (hb hby at_17) (pc' := 18) rfl (v := (1 : Int32)) (by decide) ?_
    refine own_s_icmpYes Xlw02.here hx (hb hby at_18) (by decide) (pc' := 27) (by decide) (by decide) ?_
    refine own_s_iload Xlw02.here hx (hb hby at_27) (pc' := 29) rfl rfl ?_
    refine own_s_iconst Xlw02.here hx (hb hby at_29) (pc' := 30) rfl (v := (2 : Int32)) (by decide) ?_
    refine own_s_icmpYes Xlw02.here hx (hb hby at_30) (by decide) (pc' := 39) (by decide) (by decide) ?_
    refine own_s_iload Xlw02.here hx (hb hby at_39) (pc' := 41) rfl rfl ?_
    refine own_s_iconst Xlw02.here hx (hb hby at_41) (pc' := 42) rfl (v := (3 : Int32)) (by decide) ?_
    refine own_s_icmpYes Xlw02.here hx (hb hby at_42) (by decide) (pc' := 52) (by decide) (by decide) ?_
    refine own_s_aload Xlw02.here hx (hb hby at_52) (pc' := 54) rfl rfl rfl ?_
    refine stlw03.trans ?_
    show Steps p.tables e below (Tlw03.setTop (mkF m 57 #[.val (.long p0), .second, .val (.long p1), .second, .val (.long p2), .second, .val (.int p3), .val (.int (0 : Int32)), .val (.ref blw01), .unset, .unset, .unset, .unset, .unset, .unset, .unset, .unset, .unset, .unset, .unset] [(.int (0 : Int32))])) _
    refine own_s_ifNo Xlw03.here hx (hb hby at_57) (pc' := 60) rfl (by decide) ?_
    refine own_s_iconst Xlw03.here hx (hb hby at_60) (pc' := 61) rfl (v := (1 : Int32)) (by decide) ?_
    refine own_s_goto Xlw03.here hx (hb hby at_61) (by decide) (pc' := 65) (by decide) ?_
    refine own_s_istore Xlw03.here hx (hb hby at_65) (pc' := 67) rfl (L' := #[.val (.long p0), .second, .val (.long p1), .second, .val (.long p2), .second, .val (.int p3), .val (.int (0 : Int32)), .val (.ref blw01), .val (.int (1 : Int32)), .unset, .unset, .unset, .unset, .unset, .unset, .unset, .unset, .unset, .unset]) rfl ?_
    refine stlw04 _ ?_
    show Steps p.tables e below (Tlw04.setTop (mkF m 70 #[.val (.long p0), .second, .val (.long p1), .second, .val (.long p2), .second, .val (.int p3), .val (.int (0 : Int32)), .val (.ref blw01), .val (.int (1 : Int32)), .unset, .unset, .unset, .unset, .unset, .unset, .unset, .unset, .unset, .unset] [(.ref blw04)])) _
    refine own_s_dup Xlw04.here hx (hb hby at_70) (pc' := 71) rfl rfl ?_
    refine stlw05.trans ?_
    show Steps p.tables e below (Tlw05.setTop (mkF m 74 #[.val (.long p0), .second, .val (.long p1), .second, .val (.long p2), .second, .val (.int p3), .val (.int (0 : Int32)), .val (.ref blw01), .val (.int (1 : Int32)), .unset, .unset, .unset, .unset, .unset, .unset, .unset, .unset, .unset, .unset] [(.ref blw04)])) _
    refine own_s_astore Xlw05.here hx (hb hby at_74) (pc' := 76) rfl rfl (L' := #[.val (.long p0), .second, .val (.long p1), .second, .val (.long p2), .second, .val (.int p3), .val (.int (0 : Int32)), .val (.ref blw01), .val (.int (1 : Int32)), .val (.ref blw04), .unset, .unset, .unset, .unset, .unset, .unset, .unset, .unset, .unset]) rfl ?_
    refine stlw06 _ ?_
    show Steps p.tables e below (Tlw06.setTop (mkF m 79 #[.val (.long p0), .second, .val (.long p1), .second, .val (.long p2), .second, .val (.int p3), .val (.int (0 : Int32)), .val (.ref blw01), .val (.int (1 : Int32)), .val (.ref blw04), .unset, .unset, .unset, .unset, .unset, .unset, .unset, .unset, .unset] [(.ref blw06)])) _
    refine own_s_dup Xlw06.here hx (hb hby at_79) (pc' := 80) rfl rfl ?_
    refine stlw07.trans ?_
    show Steps p.tables e below (Tlw07.setTop (mkF m 83 #[.val (.long p0), .second, .val (.long p1), .second, .val (.long p2), .second, .val (.int p3), .val (.int (0 : Int32)), .val (.ref blw01), .val (.int (1 : Int32)), .val (.ref blw04), .unset, .unset, .unset, .unset, .unset, .unset, .unset, .unset, .unset] [(.ref blw06)])) _
    refine own_s_astore Xlw07.here hx (hb hby at_83) (pc' := 85) rfl rfl (L' := #[.val (.long p0), .second, .val (.long p1), .second, .val (.long p2), .second, .val (.int p3), .val (.int (0 : Int32)), .val (.ref blw01), .val (.int (1 : Int32)), .val (.ref blw04), .val (.ref blw06), .unset, .unset, .unset, .unset, .unset, .unset, .unset, .unset]) rfl ?_
    refine own_s_aload Xlw07.here hx (hb hby at_85) (pc' := 87) rfl rfl rfl ?_
    refine own_s_aload Xlw07.here hx (hb hby at_87) (pc' := 89) rfl rfl rfl ?_
    refine own_s_aload Xlw07.here hx (hb hby at_89) (pc' := 91) rfl rfl rfl ?_
    refine stlw08.trans ?_
    show Steps p.tables e below (Tlw08.setTop (mkF m 94 #[.val (.long p0), .second, .val (.long p1), .second, .val (.long p2), .second, .val (.int p3), .val (.int (0 : Int32)), .val (.ref blw01), .val (.int (1 : Int32)), .val (.ref blw04), .val (.ref blw06), .unset, .unset, .unset, .unset, .unset, .unset, .unset, .unset] [])) _
    refine own_s_aload Xlw08.here hx (hb hby at_94) (pc' := 96) rfl rfl rfl ?_
    refine stlw09.trans ?_
    show Steps p.tables e below (Tlw09.setTop (mkF m 99 #[.val (.long p0), .second, .val (.long p1), .second, .val (.long p2), .second, .val (.int p3), .val (.int (0 : Int32)), .val (.ref blw01), .val (.int (1 : Int32)), .val (.ref blw04), .val (.ref blw06), .unset, .unset, .unset, .unset, .unset, .unset, .unset, .unset] [(.ref blw09)])) _
    refine own_s_astore Xlw09.here hx (hb hby at_99) (pc' := 101) rfl rfl (L' := #[.val (.long p0), .second, .val (.long p1), .second, .val (.long p2), .second, .val (.int p3), .val (.int (0 : Int32)), .val (.ref blw01), .val (.int (1 : Int32)), .val (.ref blw04), .val (.ref blw06), .val (.ref blw09), .unset, .unset, .unset, .unset, .unset, .unset, .unset]) rfl ?_
    refine own_s_aload Xlw09.here hx (hb hby at_101) (pc' := 103) rfl rfl rfl ?_
    refine stlw010.trans ?_
    show Steps p.tables e below (Tlw010.setTop (mkF m 106 #[.val (.long p0), .second, .val (.long p1), .second, .val (.long p2), .second, .val (.int p3), .val (.int (0 : Int32)), .val (.ref blw01), .val (.int (1 : Int32)), .val (.ref blw04), .val (.ref blw06), .val (.ref blw09), .unset, .unset, .unset, .unset, .unset, .unset, .unset] [(.ref blw010)])) _
    refine own_s_astore Xlw010.here hx (hb hby at_106) (pc' := 108) rfl rfl (L' := #[.val (.long p0), .second, .val (.long p1), .second, .val (.long p2), .second, .val (.int p3), .val (.int (0 : Int32)), .val (.ref blw01), .val (.int (1 : Int32)), .val (.ref blw04), .val (.ref blw06), .val (.ref blw09), .val (.ref blw010), .unset, .unset, .unset, .unset, .unset, .unset]) rfl ?_
    refine own_s_lconst Xlw010.here hx (hb hby at_108) (pc' := 109) rfl (v := (0 : Int64)) (by decide) ?_
    refine own_s_lstore Xlw010.here hx (hb hby at_109) (pc' := 111) rfl (L' := #[.val (.long p0), .second, .val (.long p1), .second, .val (.long p2), .second, .val (.int p3), .val (.int (0 : Int32)), .val (.ref blw01), .val (.int (1 : Int32)), .val (.ref blw04), .val (.ref blw06), .val (.ref blw09), .val (.ref blw010), .val (.long (0 : Int64)), .second, .unset, .unset, .unset, .unset]) rfl ?_
    refine own_s_dconst0 Xlw010.here hx (hb hby at_111) (pc' := 112) rfl  ?_
    refine own_s_dstore Xlw010.here hx (hb hby at_112) (pc' := 114) rfl (L' := #[.val (.long p0), .second, .val (.long p1), .second, .val (.long p2), .second, .val (.int p3), .val (.int (0 : Int32)), .val (.ref blw01), .val (.int (1 : Int32)), .val (.ref blw04), .val (.ref blw06), .val (.ref blw09), .val (.ref blw010), .val (.long (0 : Int64)), .second, .val (.double 0), .second, .unset, .unset]) rfl ?_
    refine own_s_iload Xlw010.here hx (hb hby at_114) (pc' := 116) rfl rfl ?_
    refine own_s_iconst Xlw010.here hx (hb hby at_116) (pc' := 117) rfl (v := (1 : Int32)) (by decide) ?_
    refine own_s_icmpYes Xlw010.here hx (hb hby at_117) (by decide) (pc' := 144) (by decide) (by decide) ?_
    refine own_s_iload Xlw010.here hx (hb hby at_144) (pc' := 146) rfl rfl ?_
    refine own_s_iconst Xlw010.here hx (hb hby at_146) (pc' := 147) rfl (v := (2 : Int32)) (by decide) ?_
    refine own_s_icmpYes Xlw010.here hx (hb hby at_147) (by decide) (pc' := 174) (by decide) (by decide) ?_
    refine own_s_iload Xlw010.here hx (hb hby at_174) (pc' := 176) rfl rfl ?_
    refine own_s_iconst Xlw010.here hx (hb hby at_176) (pc' := 177) rfl (v := (3 : Int32)) (by decide) ?_
    refine own_s_icmpYes Xlw010.here hx (hb hby at_177) (by decide) (pc' := 205) (by decide) (by decide) ?_
    refine own_s_iload Xlw010.here hx (hb hby at_205) (pc' := 207) rfl rfl ?_
    refine own_s_ifNo Xlw010.here hx (hb hby at_207) (pc' := 210) rfl (by decide) ?_
    refine own_s_dconst0 Xlw010.here hx (hb hby at_210) (pc' := 211) rfl  ?_
    refine own_s_goto Xlw010.here hx (hb hby at_211) (by decide) (pc' := 220) (by decide) ?_
    refine own_s_dstore Xlw010.here hx (hb hby at_220) (pc' := 222) rfl (L' := #[.val (.long p0), .second, .val (.long p1), .second, .val (.long p2), .second, .val (.int p3), .val (.int (0 : Int32)), .val (.ref blw01), .val (.int (1 : Int32)), .val (.ref blw04), .val (.ref blw06), .val (.ref blw09), .val (.ref blw010), .val (.long (0 : Int64)), .second, .val (.double 0), .second, .val (.double 0), .second]) rfl ?_
    refine own_s_iload Xlw010.here hx (hb hby at_222) (pc' := 224) rfl rfl ?_
    refine own_s_ifNo Xlw010.here hx (hb hby at_224) (pc' := 227) rfl (by decide) ?_
    refine own_s_aload Xlw010.here hx (hb hby at_227) (pc' := 229) rfl rfl rfl ?_
    refine stlw011.trans ?_
    show Steps p.tables e below (Tlw011.setTop (mkF m 232 #[.val (.long p0), .second, .val (.long p1), .second, .val (.long p2), .second, .val (.int p3), .val (.int (0 : Int32)), .val (.ref blw01), .val (.int (1 : Int32)), .val (.ref blw04), .val (.ref blw06), .val (.ref blw09), .val (.ref blw010), .val (.long (0 : Int64)), .second, .val (.double 0), .second, .val (.double 0), .second] [(.long (0 : Int64))])) _
    refine own_s_iload Xlw011.here hx (hb hby at_232) (pc' := 234) rfl rfl ?_
    refine own_s_i2l Xlw011.here hx (hb hby at_234) (pc' := 235) rfl (v := (0 : Int64)) (by decide) ?_
    refine own_s_lcmp Xlw011.here hx (hb hby at_235) (pc' := 236) rfl (v := (0 : Int32)) lw0_hc235 ?_
    refine own_s_ifNo Xlw011.here hx (hb hby at_236) (pc' := 239) rfl (by decide) ?_
    refine own_s_aload Xlw011.here hx (hb hby at_239) (pc' := 241) rfl rfl rfl ?_
    refine stlw012.trans ?_
    show Steps p.tables e below (Tlw012.setTop (mkF m 244 #[.val (.long p0), .second, .val (.long p1), .second, .val (.long p2), .second, .val (.int p3), .val (.int (0 : Int32)), .val (.ref blw01), .val (.int (1 : Int32)), .val (.ref blw04), .val (.ref blw06), .val (.ref blw09), .val (.ref blw010), .val (.long (0 : Int64)), .second, .val (.double 0), .second, .val (.double 0), .second] [(.long (0 : Int64))])) _
    refine own_s_lload Xlw012.here hx (hb hby at_244) (pc' := 246) rfl rfl ?_
    refine own_s_lcmp Xlw012.here hx (hb hby at_246) (pc' := 247) rfl (v := (0 : Int32)) lw0_hc246 ?_
    refine own_s_ifNo Xlw012.here hx (hb hby at_247) (pc' := 250) rfl (by decide) ?_
    refine own_s_aload Xlw012.here hx (hb hby at_250) (pc' := 252) rfl rfl rfl ?_
    refine stlw013.trans ?_
    show Steps p.tables e below (Tlw013.setTop (mkF m 255 #[.val (.long p0), .second, .val (.long p1), .second, .val (.long p2), .second, .val (.int p3), .val (.int (0 : Int32)), .val (.ref blw01), .val (.int (1 : Int32)), .val (.ref blw04), .val (.ref blw06), .val (.ref blw09), .val (.ref blw010), .val (.long (0 : Int64)), .second, .val (.double 0), .second, .val (.double 0), .second] [(.double 0)])) _
    refine own_s_dload Xlw013.here hx (hb hby at_255) (pc' := 257) rfl rfl ?_
    refine own_s_dcmp Xlw013.here hx (hb hby at_257) (pc' := 258) rfl (v := (0 : Int32)) lw0_hc257 ?_
    refine own_s_ifNo Xlw013.here hx (hb hby at_258) (pc' := 261) rfl (by decide) ?_
    refine own_s_aload Xlw013.here hx (hb hby at_261) (pc' := 263) rfl rfl rfl ?_
    refine stlw014.trans ?_
    show Steps p.tables e below (Tlw014.setTop (mkF m 266 #[.val (.long p0), .second, .val (.long p1), .second, .val (.long p2), .second, .val (.int p3), .val (.int (0 : Int32)), .val (.ref blw01), .val (.int (1 : Int32)), .val (.ref blw04), .val (.ref blw06), .val (.ref blw09), .val (.ref blw010), .val (.long (0 : Int64)), .second, .val (.double 0), .second, .val (.double 0), .second] [(.long (0 : Int64))])) _
    refine own_s_lconst Xlw014.here hx (hb hby at_266) (pc' := 267) rfl (v := (0 : Int64)) (by decide) ?_
    refine own_s_lcmp Xlw014.here hx (hb hby at_267) (pc' := 268) rfl (v := (0 : Int32)) lw0_hc267 ?_
    refine own_s_ifNo Xlw014.here hx (hb hby at_268) (pc' := 271) rfl (by decide) ?_
    refine own_s_iconst Xlw014.here hx (hb hby at_271) (pc' := 272) rfl (v := (1 : Int32)) (by decide) ?_
    refine own_s_goto Xlw014.here hx (hb hby at_272) (by decide) (pc' := 276) (by decide) ?_
    exact retN Xlw014 hx (t := .boolean) Bd.returns (by simp) (hb hby at_276) hr
  · show own_Q0 n0 _ Tlw014.heap _
    rw [elw014]
    exact ⟨rfl, Nlw014⟩
theorem own_ef_lw1 (m : MethodId) (p0 : Int64) (p1 : Int64) (p2 : Int64) (p3 : Int32) : entryFrame m #[(.long p0), (.long p1), (.long p2), (.int p3)] maxLocals = mkF m 0 #[.val (.long p0), .second, .val (.long p1), .second, .val (.long p2), .second, .val (.int p3), .unset, .unset, .unset, .unset, .unset, .unset, .unset, .unset, .unset, .unset, .unset, .unset, .unset] [] := by first | (simp [entryFrame, mkF, argsToLocals, Value.category, maxLocals]; done) | rfl
set_option maxRecDepth 65536 in
set_option maxHeartbeats 40000000 in
theorem own_rm_lw1 (l : Launch) (Z : State) (a0 : Array Value) (hw : ∀ d ∈ tables_1, d.before a0 Z = true) (ws : List Jvm.Cond) (p0 : Int64) (p1 : Int64) (p2 : Int64) (p3 : Int32) {lw1_v141 : UInt64} {lw1_v219 : UInt64} (h0 : Heap) (n0 : Nat) (Z0 : n0 ≤ h0.size)  (lw1_hv3 : p3 &&& (3 : Int32) = (1 : Int32)) (lw1_c24_addwait0_hle16 : 0 < (List.replicate 64 (Value.long 0)).length) (lw1_hn141 : Jvm.Free.Fl.NoNaN64 (FP.dadd 0 (FP.l2d (own_lmax (0 : Int64) p0)))) (lw1_hv141 : FP.dadd 0 (FP.l2d (own_lmax (0 : Int64) p0)) = lw1_v141) (lw1_hn219 : Jvm.Free.Fl.NoNaN64 (FP.ddiv lw1_v141 (FP.i2d (1 : Int32)))) (lw1_hv219 : FP.ddiv lw1_v141 (FP.i2d (1 : Int32)) = lw1_v219) (lw1_hc235 : lcmpW (0 + 1) (1 : Int64) = (0 : Int32)) (lw1_hc246 : lcmpW (own_lmax 0 (own_lmax (0 : Int64) p0)) (own_lmax (0 : Int64) (own_lmax (0 : Int64) p0)) = (0 : Int32)) (lw1_hc257 : Op.cmpValue (FP.dcmp (FP.ddiv (FP.dadd 0 (FP.l2d (own_lmax (0 : Int64) p0))) (FP.l2d (0 + 1))) lw1_v219) .l = (0 : Int32)) (lw1_hc267 : lcmpW (0 : Int64) (0 : Int64) = (0 : Int32)) :
    MetFree l x (head1 (Jvm.Cond.code x code maxLocals ret :: ws) room_1) (fun a U => a = #[(.long p0), (.long p1), (.long p2), (.int p3)] ∧ Z.Warmed39 U.vm ∧ U.heap = h0) (fun _ _ _ _ _ => True) (fun _ U o U' => ∃ v L, o = .returned v ∧ own_Q0 n0 v U'.heap L ∧ FrameEnd U o U' L room_1.cells room_1.slots) := by
  refine MetFree.of_bodySF (plainFor_of_name own_pn_millrace_TimingBufferAddWaitPinLaw) hisR ?_
  intro p e s m args below meth c s₁ Bd hml0 hP hK
  obtain ⟨rfl, hZ, hh⟩ := hP
  have hx := Bd.exec
  have hby := Bd.bytes
  have hml : c.maxLocals = 20 := hml0
  have hown : s.vm.findClass "millrace/TimingBufferAddWaitPinLaw" = some m.cls := findClass_of_methodNamed Bd.named
  have hnm := (name_of_methodNamed Bd.named Bd.method).1
  have X0 : Stand p l e room_1 s m #[(.long p0), (.long p1), (.long p2), (.int p3)] below meth c s₁ [] 0 0 := Stand.of_body Bd
  have e0 : s₁.heap = h0 := by rw [← hh, Bd.state]; rfl
  have N0 := Fr.nil n0
  have pre0 : ∀ t, Steps p.tables e below (s₁.setTop (mkF m 0 #[.val (.long p0), .second, .val (.long p1), .second, .val (.long p2), .second, .val (.int p3), .unset, .unset, .unset, .unset, .unset, .unset, .unset, .unset, .unset, .unset, .unset, .unset, .unset] [])) t → Steps p.tables e below (s₁.setTop (entryFrame m #[(.long p0), (.long p1), (.long p2), (.int p3)] maxLocals)) t := fun t k => castTop (own_ef_lw1 m p0 p1 p2 p3) k
  obtain ⟨Tlw11, hlw11, Xlw11, elw11, Elw11, Alw11, Dlw11, UTlw11, stlw11⟩ := newO X0 hx hZ hown (hw _ (List.mem_of_getElem? (i := 0) rfl)) (hw _ (List.mem_of_getElem? (i := 1) rfl)) (hw _ (List.mem_of_getElem? (i := 2) rfl)) e0 (g := (mkF m 6 #[.val (.long p0), .second, .val (.long p1), .second, .val (.long p2), .second, .val (.int p3), .val (.int (1 : Int32)), .unset, .unset, .unset, .unset, .unset, .unset, .unset, .unset, .unset, .unset, .unset, .unset] [])) rfl (hb hby at_6) (by decide) (by decide)
  obtain ⟨blw11, Glw11⟩ : ∃ z, z = h0.size := ⟨_, rfl⟩
  rw [← Glw11] at Alw11 Dlw11 UTlw11 stlw11
  have g_blw11 : n0 ≤ blw11 := Nat.le_trans Z0 (Nat.le_of_eq Glw11.symm)
  have sz_blw11 : h0.size ≤ blw11 := Nat.le_trans (Keep.refl h0 []).1 (Nat.le_of_eq Glw11.symm)
  have Zlw11 : n0 ≤ hlw11.size := Nat.le_trans Z0 Elw11.1
  have KKlw11 := (Keep.refl h0 []).ext Elw11
  have F_waits_blw11 : Fld Z hlw11 blw11 "millrace/TimingBuffer" "waits" "[J" .null := Dlw11 (Or.inr (hw _ (List.mem_of_getElem? (i := 11) rfl))) (ty := (.array .long)) (by decide)
  have F_runs_blw11 : Fld Z hlw11 blw11 "millrace/TimingBuffer" "runs" "[J" .null := Dlw11 (Or.inr (hw _ (List.mem_of_getElem? (i := 13) rfl))) (ty := (.array .long)) (by decide)
  have F_waitCount_blw11 : Fld Z hlw11 blw11 "millrace/TimingBuffer" "waitCount" "I" (.int (0 : Int32)) := Dlw11 (Or.inl (hw _ (List.mem_of_getElem? (i := 20) rfl))) (ty := .int) (by decide)
  have F_runCount_blw11 : Fld Z hlw11 blw11 "millrace/TimingBuffer" "runCount" "I" (.int (0 : Int32)) := Dlw11 (Or.inl (hw _ (List.mem_of_getElem? (i := 27) rfl))) (ty := .int) (by decide)
  obtain ⟨_, _, ⟨Tlw12, Llw12, klw12, nlw12⟩, -, Xlw12, ⟨Lclw12, hQlw12, llw12, ylw12, zlw12⟩, stlw12⟩ := Xlw11.specialBack hx (y := (⟨"millrace/TimingBuffer", "<init>", "()V"⟩ : MethodName)) rfl hown (mvT hZ (hw _ (List.mem_of_getElem? (i := 3) rfl))) (mvT hZ (hw _ (List.mem_of_getElem? (i := 4) rfl))) (mvT hZ (hw _ (List.mem_of_getElem? (i := 5) rfl))) (by decide) (backOf (W := 1) (own_rm_tbi l Z a0 hw [] blw11 hlw11 n0 Zlw11 Alw11 F_waits_blw11 F_waitCount_blw11 F_runs_blw11 F_runCount_blw11 g_blw11) hZ (hw _ (List.mem_of_getElem? (i := 5) rfl)) (hw _ (List.mem_of_getElem? (i := 2) rfl)) (by decide) (by decide)) (g := (mkF m 10 #[.val (.long p0), .second, .val (.long p1), .second, .val (.long p2), .second, .val (.int p3), .val (.int (1 : Int32)), .unset, .unset, .unset, .unset, .unset, .unset, .unset, .unset, .unset, .unset, .unset, .unset] [(.ref blw11), (.ref blw11)])) rfl (by rw [hml]; rfl) (Steps.refl _) (a := blw11) (argsL := []) (rest := [(.ref blw11)]) (lenOf own_pd_2829V rfl) rfl (by show 2 * 0 + _ ≤ _; exact Nat.le_of_eq rfl) (hb hby at_10) (fun _ _ => ⟨rfl, elw11, (by decide : 1 + 2 ≤ _), (by decide : 4 + 128 ≤ _)⟩)
  dsimp only [Pt.U, Pt.locs, Pt.cells, Pt.slots] at Xlw12 llw12 ylw12 zlw12 stlw12 hQlw12
  rw [llw12, ylw12, zlw12] at Xlw12
  obtain ⟨blw12_1, klw12_1, blw12_0, klw12_0, rfl, Nlw12q, Klw12, qlw12_0, qlw12_1, qlw12_2, qlw12_3, qlw12_4, Glw12_0, Vlw12_0, Glw12_1, Vlw12_1, ne_blw12_0_blw12_1⟩ := hQlw12
  have ne_blw12_1_blw12_0 : blw12_1 ≠ blw12_0 := Ne.symm ne_blw12_0_blw12_1
  have ne_blw11_blw12_0 : blw11 ≠ blw12_0 := Nat.ne_of_lt (Nat.lt_of_lt_of_le Alw11.lt Glw12_0)
  have ne_blw12_0_blw11 : blw12_0 ≠ blw11 := Ne.symm ne_blw11_blw12_0
  have g_blw12_0 : n0 ≤ blw12_0 := Nat.le_trans Zlw11 Glw12_0
  have sz_blw12_0 : h0.size ≤ blw12_0 := Nat.le_trans KKlw11.1 Glw12_0
  have ne_blw11_blw12_1 : blw11 ≠ blw12_1 := Nat.ne_of_lt (Nat.lt_of_lt_of_le Alw11.lt Glw12_1)
  have ne_blw12_1_blw11 : blw12_1 ≠ blw11 := Ne.symm ne_blw11_blw12_1
  have g_blw12_1 : n0 ≤ blw12_1 := Nat.le_trans Zlw11 Glw12_1
  have sz_blw12_1 : h0.size ≤ blw12_1 := Nat.le_trans KKlw11.1 Glw12_1
  have Zlw12 : n0 ≤ Tlw12.heap.size := Nat.le_trans Zlw11 Klw12.1
  have KKlw12 := KKlw11.trans Klw12 (fun q hq => by simp only [List.mem_cons, List.not_mem_nil, or_false] at hq; rcases hq with rfl; exact Or.inr sz_blw11)
  have Nlw12 := Fr.app N0 Nlw12q
  obtain ⟨cqlw13, kqlw13, qlw13a, qlw13b, qlw13c⟩ := isOf hZ rfl qlw12_0
  obtain ⟨_, _, ⟨Tlw13, Llw13, klw13, nlw13⟩, -, Xlw13, ⟨Lclw13, hQlw13, llw13, ylw13, zlw13⟩, stlw13⟩ := Xlw12.virtualBack hx (y := (⟨"millrace/TimingBuffer", "addWait", "(J)V"⟩ : MethodName)) (z := (⟨"millrace/TimingBuffer", "addWait", "(J)V"⟩ : MethodName)) hown (mvT hZ (hw _ (List.mem_of_getElem? (i := 14) rfl))) (mvT hZ (hw _ (List.mem_of_getElem? (i := 15) rfl))) (notFace_of_selects (args := #[]) (mvT hZ (hw _ (List.mem_of_getElem? (i := 17) rfl)))) (mvT hZ (hw _ (List.mem_of_getElem? (i := 17) rfl))) (mvT hZ (hw _ (List.mem_of_getElem? (i := 16) rfl))) (by decide) (backOf (W := 0) (own_rm_addwait0 l Z a0 hw [] blw11 blw12_0 blw12_1 p0 (List.replicate 64 (Value.long 0)) Tlw12.heap n0 Zlw12 qlw12_0 qlw12_1 qlw12_2 qlw12_3 qlw12_4 Vlw12_0 ne_blw11_blw12_0 g_blw11 g_blw12_0 lw1_c24_addwait0_hle16) hZ (hw _ (List.mem_of_getElem? (i := 18) rfl)) (hw _ (List.mem_of_getElem? (i := 2) rfl)) (by decide) (by decide)) qlw13a qlw13c (g := (mkF m 24 #[.val (.long p0), .second, .val (.long p1), .second, .val (.long p2), .second, .val (.int p3), .val (.int (1 : Int32)), .val (.ref blw11), .unset, .unset, .unset, .unset, .unset, .unset, .unset, .unset, .unset, .unset, .unset] [(.long p0), (.ref blw11)])) rfl (by rw [hml]; rfl) (Steps.refl _) (argsL := [(.long p0)]) (rest := []) (lenOf own_pd_28J29V rfl) rfl (by show 2 * 0 + _ ≤ _; exact Nat.le_of_eq rfl) (hb hby at_24) (fun _ _ => ⟨rfl, rfl, (by decide : 3 + 0 ≤ _), (by decide : 132 + 0 ≤ _)⟩)
  dsimp only [Pt.U, Pt.locs, Pt.cells, Pt.slots] at Xlw13 llw13 ylw13 zlw13 stlw13 hQlw13
  rw [llw13, ylw13, zlw13] at Xlw13
  obtain ⟨rfl, Nlw13q, Klw13, qlw13_0, qlw13_1, qlw13_2, qlw13_3, qlw13_4, qlw13_5⟩ := hQlw13
  have V_blw12_1_lw13 := Vlw12_1.keep Klw13 (by simp only [List.mem_cons, List.not_mem_nil, or_false, not_or]; exact ⟨ne_blw12_1_blw11, ne_blw12_1_blw12_0⟩)
  have Zlw13 : n0 ≤ Tlw13.heap.size := Nat.le_trans Zlw12 Klw13.1
  have KKlw13 := KKlw12.trans Klw13 (fun q hq => by simp only [List.mem_cons, List.not_mem_nil, or_false] at hq; rcases hq with rfl | rfl <;> first | exact Or.inr sz_blw11 | exact Or.inr sz_blw12_0)
  have Nlw13 := Fr.app Nlw12 Nlw13q
  obtain ⟨cqlw14, kqlw14, qlw14a, qlw14b, qlw14c⟩ := isOf hZ rfl qlw13_0
  obtain ⟨_, _, ⟨Tlw14, Llw14, klw14, nlw14⟩, -, Xlw14, ⟨Lclw14, hQlw14, llw14, ylw14, zlw14⟩, stlw14⟩ := Xlw13.virtualBack hx (y := (⟨"millrace/TimingBuffer", "full", "()Z"⟩ : MethodName)) (z := (⟨"millrace/TimingBuffer", "full", "()Z"⟩ : MethodName)) hown (mvT hZ (hw _ (List.mem_of_getElem? (i := 21) rfl))) (mvT hZ (hw _ (List.mem_of_getElem? (i := 22) rfl))) (notFace_of_selects (args := #[]) (mvT hZ (hw _ (List.mem_of_getElem? (i := 24) rfl)))) (mvT hZ (hw _ (List.mem_of_getElem? (i := 24) rfl))) (mvT hZ (hw _ (List.mem_of_getElem? (i := 23) rfl))) (by decide) (backOf (W := 0) (own_rm_full10 l Z a0 hw [] blw11 Tlw13.heap n0 Zlw13 qlw13_0 qlw13_2 qlw13_4) hZ (hw _ (List.mem_of_getElem? (i := 25) rfl)) (hw _ (List.mem_of_getElem? (i := 2) rfl)) (by decide) (by decide)) qlw14a qlw14c (g := (mkF m 54 #[.val (.long p0), .second, .val (.long p1), .second, .val (.long p2), .second, .val (.int p3), .val (.int (1 : Int32)), .val (.ref blw11), .unset, .unset, .unset, .unset, .unset, .unset, .unset, .unset, .unset, .unset, .unset] [(.ref blw11)])) rfl (by rw [hml]; rfl) (Steps.refl _) (argsL := []) (rest := []) (lenOf own_pd_2829Z rfl) rfl (by show 2 * 0 + _ ≤ _; exact Nat.le_of_eq rfl) (hb hby at_54) (fun _ _ => ⟨rfl, rfl, (by decide : 3 + 0 ≤ _), (by decide : 132 + 0 ≤ _)⟩)
  dsimp only [Pt.U, Pt.locs, Pt.cells, Pt.slots] at Xlw14 llw14 ylw14 zlw14 stlw14 hQlw14
  rw [llw14, ylw14, zlw14] at Xlw14
  obtain ⟨rfl, Nlw14q, elw14⟩ := hQlw14
  have Nlw14 := Fr.app Nlw13 Nlw14q
  obtain ⟨Tlw15, hlw15, Xlw15, elw15, Elw15, Alw15, Dlw15, UTlw15, stlw15⟩ := newO Xlw14 hx hZ hown (hw _ (List.mem_of_getElem? (i := 28) rfl)) (hw _ (List.mem_of_getElem? (i := 29) rfl)) (hw _ (List.mem_of_getElem? (i := 30) rfl)) elw14 (g := (mkF m 67 #[.val (.long p0), .second, .val (.long p1), .second, .val (.long p2), .second, .val (.int p3), .val (.int (1 : Int32)), .val (.ref blw11), .val (.int (1 : Int32)), .unset, .unset, .unset, .unset, .unset, .unset, .unset, .unset, .unset, .unset] [])) rfl (hb hby at_67) (by decide) (by decide)
  obtain ⟨blw15, Glw15⟩ : ∃ z, z = Tlw13.heap.size := ⟨_, rfl⟩
  rw [← Glw15] at Alw15 Dlw15 UTlw15 stlw15
  have ne_blw12_0_blw15 : blw12_0 ≠ blw15 := Nat.ne_of_lt (Nat.lt_of_lt_of_le qlw13_5.lt (Nat.le_of_eq Glw15.symm))
  have ne_blw15_blw12_0 : blw15 ≠ blw12_0 := Ne.symm ne_blw12_0_blw15
  have ne_blw12_1_blw15 : blw12_1 ≠ blw15 := Nat.ne_of_lt (Nat.lt_of_lt_of_le V_blw12_1_lw13.lt (Nat.le_of_eq Glw15.symm))
  have ne_blw15_blw12_1 : blw15 ≠ blw12_1 := Ne.symm ne_blw12_1_blw15
  have ne_blw11_blw15 : blw11 ≠ blw15 := Nat.ne_of_lt (Nat.lt_of_lt_of_le qlw13_0.lt (Nat.le_of_eq Glw15.symm))
  have ne_blw15_blw11 : blw15 ≠ blw11 := Ne.symm ne_blw11_blw15
  have g_blw15 : n0 ≤ blw15 := Nat.le_trans Zlw13 (Nat.le_of_eq Glw15.symm)
  have sz_blw15 : h0.size ≤ blw15 := Nat.le_trans KKlw13.1 (Nat.le_of_eq Glw15.symm)
  have V_blw12_0_lw15 := qlw13_5.ext Elw15
  have V_blw12_1_lw15 := V_blw12_1_lw13.ext Elw15
  have E_blw11_lw15 := qlw13_0.ext Elw15
  have F_waits_blw11_lw15 := qlw13_1.ext Elw15
  have F_runs_blw11_lw15 := qlw13_3.ext Elw15
  have F_waitCount_blw11_lw15 := qlw13_2.ext Elw15
  have F_runCount_blw11_lw15 := qlw13_4.ext Elw15
  have Zlw15 : n0 ≤ hlw15.size := Nat.le_trans Zlw13 Elw15.1
  have KKlw15 := KKlw13.ext Elw15
  have F_ranges_blw15 : Fld Z hlw15 blw15 "millrace/DurationHistogram" "ranges" "[[J" .null := Dlw15 (Or.inr (hw _ (List.mem_of_getElem? (i := 38) rfl))) (ty := (.array (.array .long))) (by decide)
  have F_count_blw15 : Fld Z hlw15 blw15 "millrace/DurationHistogram" "count" "J" (.long (0 : Int64)) := Dlw15 (Or.inl (hw _ (List.mem_of_getElem? (i := 74) rfl))) (ty := .long) (by decide)
  have F_sum_blw15 : Fld Z hlw15 blw15 "millrace/DurationHistogram" "sum" "D" (.double 0) := Dlw15 (Or.inl (hw _ (List.mem_of_getElem? (i := 76) rfl))) (ty := .double) (by decide)
  have F_max_blw15 : Fld Z hlw15 blw15 "millrace/DurationHistogram" "max" "J" (.long (0 : Int64)) := Dlw15 (Or.inl (hw _ (List.mem_of_getElem? (i := 78) rfl))) (ty := .long) (by decide)
  obtain ⟨_, _, ⟨Tlw16, Llw16, klw16, nlw16⟩, -, Xlw16, ⟨Lclw16, hQlw16, llw16, ylw16, zlw16⟩, stlw16⟩ := Xlw15.specialBack hx (y := (⟨"millrace/DurationHistogram", "<init>", "()V"⟩ : MethodName)) rfl hown (mvT hZ (hw _ (List.mem_of_getElem? (i := 31) rfl))) (mvT hZ (hw _ (List.mem_of_getElem? (i := 32) rfl))) (mvT hZ (hw _ (List.mem_of_getElem? (i := 33) rfl))) (by decide) (backOf (W := 1) (own_rm_dhi l Z a0 hw [] blw15 hlw15 n0 Zlw15 Alw15 UTlw15 F_ranges_blw15 F_count_blw15 F_sum_blw15 F_max_blw15 g_blw15) hZ (hw _ (List.mem_of_getElem? (i := 33) rfl)) (hw _ (List.mem_of_getElem? (i := 30) rfl)) (by decide) (by decide)) (g := (mkF m 71 #[.val (.long p0), .second, .val (.long p1), .second, .val (.long p2), .second, .val (.int p3), .val (.int (1 : Int32)), .val (.ref blw11), .val (.int (1 : Int32)), .unset, .unset, .unset, .unset, .unset, .unset, .unset, .unset, .unset, .unset] [(.ref blw15), (.ref blw15)])) rfl (by rw [hml]; rfl) (Steps.refl _) (a := blw15) (argsL := []) (rest := [(.ref blw15)]) (lenOf own_pd_2829V rfl) rfl (by show 2 * 0 + _ ≤ _; exact Nat.le_of_eq rfl) (hb hby at_71) (fun _ _ => ⟨rfl, elw15, (by decide : 4 + 1 ≤ _), (by decide : 136 + 57 ≤ _)⟩)
  dsimp only [Pt.U, Pt.locs, Pt.cells, Pt.slots] at Xlw16 llw16 ylw16 zlw16 stlw16 hQlw16
  rw [llw16, ylw16, zlw16] at Xlw16
  obtain ⟨blw16_0, klw16_0, rfl, Nlw16q, Klw16, qlw16_0, qlw16_1, qlw16_2, qlw16_3, qlw16_4, qlw16_5, Glw16_0, Vlw16_0, Olw16_0⟩ := hQlw16
  have ne_blw12_0_blw16_0 : blw12_0 ≠ blw16_0 := Nat.ne_of_lt (Nat.lt_of_lt_of_le V_blw12_0_lw15.lt Glw16_0)
  have ne_blw16_0_blw12_0 : blw16_0 ≠ blw12_0 := Ne.symm ne_blw12_0_blw16_0
  have ne_blw12_1_blw16_0 : blw12_1 ≠ blw16_0 := Nat.ne_of_lt (Nat.lt_of_lt_of_le V_blw12_1_lw15.lt Glw16_0)
  have ne_blw16_0_blw12_1 : blw16_0 ≠ blw12_1 := Ne.symm ne_blw12_1_blw16_0
  have ne_blw11_blw16_0 : blw11 ≠ blw16_0 := Nat.ne_of_lt (Nat.lt_of_lt_of_le E_blw11_lw15.lt Glw16_0)
  have ne_blw16_0_blw11 : blw16_0 ≠ blw11 := Ne.symm ne_blw11_blw16_0
  have ne_blw15_blw16_0 : blw15 ≠ blw16_0 := Nat.ne_of_lt (Nat.lt_of_lt_of_le Alw15.lt Glw16_0)
  have ne_blw16_0_blw15 : blw16_0 ≠ blw15 := Ne.symm ne_blw15_blw16_0
  have g_blw16_0 : n0 ≤ blw16_0 := Nat.le_trans Zlw15 Glw16_0
  have sz_blw16_0 : h0.size ≤ blw16_0 := Nat.le_trans KKlw15.1 Glw16_0
  have V_blw12_0_lw16 := V_blw12_0_lw15.keep Klw16 (by simp only [List.mem_cons, List.not_mem_nil, or_false, not_or]; exact ne_blw12_0_blw15)
  have V_blw12_1_lw16 := V_blw12_1_lw15.keep Klw16 (by simp only [List.mem_cons, List.not_mem_nil, or_false, not_or]; exact ne_blw12_1_blw15)
  have E_blw11_lw16 := E_blw11_lw15.keep Klw16
  have F_waits_blw11_lw16 := F_waits_blw11_lw15.keep Klw16 (by simp only [List.mem_cons, List.not_mem_nil, or_false, not_or]; exact ne_blw11_blw15)
  have F_runs_blw11_lw16 := F_runs_blw11_lw15.keep Klw16 (by simp only [List.mem_cons, List.not_mem_nil, or_false, not_or]; exact ne_blw11_blw15)
  have F_waitCount_blw11_lw16 := F_waitCount_blw11_lw15.keep Klw16 (by simp only [List.mem_cons, List.not_mem_nil, or_false, not_or]; exact ne_blw11_blw15)
  have F_runCount_blw11_lw16 := F_runCount_blw11_lw15.keep Klw16 (by simp only [List.mem_cons, List.not_mem_nil, or_false, not_or]; exact ne_blw11_blw15)
  have Zlw16 : n0 ≤ Tlw16.heap.size := Nat.le_trans Zlw15 Klw16.1
  have KKlw16 := KKlw15.trans Klw16 (fun q hq => by simp only [List.mem_cons, List.not_mem_nil, or_false] at hq; rcases hq with rfl; exact Or.inr sz_blw15)
  have Nlw16 := Fr.app Nlw14 Nlw16q
  obtain ⟨Tlw17, hlw17, Xlw17, elw17, Elw17, Alw17, Dlw17, UTlw17, stlw17⟩ := newO Xlw16 hx hZ hown (hw _ (List.mem_of_getElem? (i := 28) rfl)) (hw _ (List.mem_of_getElem? (i := 29) rfl)) (hw _ (List.mem_of_getElem? (i := 30) rfl)) rfl (g := (mkF m 76 #[.val (.long p0), .second, .val (.long p1), .second, .val (.long p2), .second, .val (.int p3), .val (.int (1 : Int32)), .val (.ref blw11), .val (.int (1 : Int32)), .val (.ref blw15), .unset, .unset, .unset, .unset, .unset, .unset, .unset, .unset, .unset] [])) rfl (hb hby at_76) (by decide) (by decide)
  obtain ⟨blw17, Glw17⟩ : ∃ z, z = Tlw16.heap.size := ⟨_, rfl⟩
  rw [← Glw17] at Alw17 Dlw17 UTlw17 stlw17
  have ne_blw12_0_blw17 : blw12_0 ≠ blw17 := Nat.ne_of_lt (Nat.lt_of_lt_of_le V_blw12_0_lw16.lt (Nat.le_of_eq Glw17.symm))
  have ne_blw17_blw12_0 : blw17 ≠ blw12_0 := Ne.symm ne_blw12_0_blw17
  have ne_blw12_1_blw17 : blw12_1 ≠ blw17 := Nat.ne_of_lt (Nat.lt_of_lt_of_le V_blw12_1_lw16.lt (Nat.le_of_eq Glw17.symm))
  have ne_blw17_blw12_1 : blw17 ≠ blw12_1 := Ne.symm ne_blw12_1_blw17
  have ne_blw16_0_blw17 : blw16_0 ≠ blw17 := Nat.ne_of_lt (Nat.lt_of_lt_of_le Vlw16_0.lt (Nat.le_of_eq Glw17.symm))
  have ne_blw17_blw16_0 : blw17 ≠ blw16_0 := Ne.symm ne_blw16_0_blw17
  have ne_blw11_blw17 : blw11 ≠ blw17 := Nat.ne_of_lt (Nat.lt_of_lt_of_le E_blw11_lw16.lt (Nat.le_of_eq Glw17.symm))
  have ne_blw17_blw11 : blw17 ≠ blw11 := Ne.symm ne_blw11_blw17
  have ne_blw15_blw17 : blw15 ≠ blw17 := Nat.ne_of_lt (Nat.lt_of_lt_of_le qlw16_1.lt (Nat.le_of_eq Glw17.symm))
  have ne_blw17_blw15 : blw17 ≠ blw15 := Ne.symm ne_blw15_blw17
  have g_blw17 : n0 ≤ blw17 := Nat.le_trans Zlw16 (Nat.le_of_eq Glw17.symm)
  have sz_blw17 : h0.size ≤ blw17 := Nat.le_trans KKlw16.1 (Nat.le_of_eq Glw17.symm)
  have V_blw12_0_lw17 := V_blw12_0_lw16.ext Elw17
  have V_blw12_1_lw17 := V_blw12_1_lw16.ext Elw17
  have V_blw16_0_lw17 := Vlw16_0.ext Elw17
  have E_blw11_lw17 := E_blw11_lw16.ext Elw17
  have F_waits_blw11_lw17 := F_waits_blw11_lw16.ext Elw17
  have F_runs_blw11_lw17 := F_runs_blw11_lw16.ext Elw17
  have F_waitCount_blw11_lw17 := F_waitCount_blw11_lw16.ext Elw17
  have F_runCount_blw11_lw17 := F_runCount_blw11_lw16.ext Elw17
  have E_blw15_lw17 := qlw16_1.ext Elw17
  have U_blw15_lw17 := Unt.ext Elw17 qlw16_0
  have F_ranges_blw15_lw17 := qlw16_2.ext Elw17
  have F_count_blw15_lw17 := qlw16_3.ext Elw17
  have F_sum_blw15_lw17 := qlw16_4.ext Elw17
  have F_max_blw15_lw17 := qlw16_5.ext Elw17
  have Zlw17 : n0 ≤ hlw17.size := Nat.le_trans Zlw16 Elw17.1
  have KKlw17 := KKlw16.ext Elw17
  have F_ranges_blw17 : Fld Z hlw17 blw17 "millrace/DurationHistogram" "ranges" "[[J" .null := Dlw17 (Or.inr (hw _ (List.mem_of_getElem? (i := 38) rfl))) (ty := (.array (.array .long))) (by decide)
  have F_count_blw17 : Fld Z hlw17 blw17 "millrace/DurationHistogram" "count" "J" (.long (0 : Int64)) := Dlw17 (Or.inl (hw _ (List.mem_of_getElem? (i := 74) rfl))) (ty := .long) (by decide)
  have F_sum_blw17 : Fld Z hlw17 blw17 "millrace/DurationHistogram" "sum" "D" (.double 0) := Dlw17 (Or.inl (hw _ (List.mem_of_getElem? (i := 76) rfl))) (ty := .double) (by decide)
  have F_max_blw17 : Fld Z hlw17 blw17 "millrace/DurationHistogram" "max" "J" (.long (0 : Int64)) := Dlw17 (Or.inl (hw _ (List.mem_of_getElem? (i := 78) rfl))) (ty := .long) (by decide)
  obtain ⟨_, _, ⟨Tlw18, Llw18, klw18, nlw18⟩, -, Xlw18, ⟨Lclw18, hQlw18, llw18, ylw18, zlw18⟩, stlw18⟩ := Xlw17.specialBack hx (y := (⟨"millrace/DurationHistogram", "<init>", "()V"⟩ : MethodName)) rfl hown (mvT hZ (hw _ (List.mem_of_getElem? (i := 31) rfl))) (mvT hZ (hw _ (List.mem_of_getElem? (i := 32) rfl))) (mvT hZ (hw _ (List.mem_of_getElem? (i := 33) rfl))) (by decide) (backOf (W := 1) (own_rm_dhi l Z a0 hw [] blw17 hlw17 n0 Zlw17 Alw17 UTlw17 F_ranges_blw17 F_count_blw17 F_sum_blw17 F_max_blw17 g_blw17) hZ (hw _ (List.mem_of_getElem? (i := 33) rfl)) (hw _ (List.mem_of_getElem? (i := 30) rfl)) (by decide) (by decide)) (g := (mkF m 80 #[.val (.long p0), .second, .val (.long p1), .second, .val (.long p2), .second, .val (.int p3), .val (.int (1 : Int32)), .val (.ref blw11), .val (.int (1 : Int32)), .val (.ref blw15), .unset, .unset, .unset, .unset, .unset, .unset, .unset, .unset, .unset] [(.ref blw17), (.ref blw17)])) rfl (by rw [hml]; rfl) (Steps.refl _) (a := blw17) (argsL := []) (rest := [(.ref blw17)]) (lenOf own_pd_2829V rfl) rfl (by show 2 * 0 + _ ≤ _; exact Nat.le_of_eq rfl) (hb hby at_80) (fun _ _ => ⟨rfl, elw17, (by decide : 6 + 1 ≤ _), (by decide : 197 + 57 ≤ _)⟩)
  dsimp only [Pt.U, Pt.locs, Pt.cells, Pt.slots] at Xlw18 llw18 ylw18 zlw18 stlw18 hQlw18
  rw [llw18, ylw18, zlw18] at Xlw18
  obtain ⟨blw18_0, klw18_0, rfl, Nlw18q, Klw18, qlw18_0, qlw18_1, qlw18_2, qlw18_3, qlw18_4, qlw18_5, Glw18_0, Vlw18_0, Olw18_0⟩ := hQlw18
  have ne_blw12_0_blw18_0 : blw12_0 ≠ blw18_0 := Nat.ne_of_lt (Nat.lt_of_lt_of_le V_blw12_0_lw17.lt Glw18_0)
  have ne_blw18_0_blw12_0 : blw18_0 ≠ blw12_0 := Ne.symm ne_blw12_0_blw18_0
  have ne_blw12_1_blw18_0 : blw12_1 ≠ blw18_0 := Nat.ne_of_lt (Nat.lt_of_lt_of_le V_blw12_1_lw17.lt Glw18_0)
  have ne_blw18_0_blw12_1 : blw18_0 ≠ blw12_1 := Ne.symm ne_blw12_1_blw18_0
  have ne_blw16_0_blw18_0 : blw16_0 ≠ blw18_0 := Nat.ne_of_lt (Nat.lt_of_lt_of_le V_blw16_0_lw17.lt Glw18_0)
  have ne_blw18_0_blw16_0 : blw18_0 ≠ blw16_0 := Ne.symm ne_blw16_0_blw18_0
  have ne_blw11_blw18_0 : blw11 ≠ blw18_0 := Nat.ne_of_lt (Nat.lt_of_lt_of_le E_blw11_lw17.lt Glw18_0)
  have ne_blw18_0_blw11 : blw18_0 ≠ blw11 := Ne.symm ne_blw11_blw18_0
  have ne_blw15_blw18_0 : blw15 ≠ blw18_0 := Nat.ne_of_lt (Nat.lt_of_lt_of_le E_blw15_lw17.lt Glw18_0)
  have ne_blw18_0_blw15 : blw18_0 ≠ blw15 := Ne.symm ne_blw15_blw18_0
  have ne_blw17_blw18_0 : blw17 ≠ blw18_0 := Nat.ne_of_lt (Nat.lt_of_lt_of_le Alw17.lt Glw18_0)
  have ne_blw18_0_blw17 : blw18_0 ≠ blw17 := Ne.symm ne_blw17_blw18_0
  have g_blw18_0 : n0 ≤ blw18_0 := Nat.le_trans Zlw17 Glw18_0
  have sz_blw18_0 : h0.size ≤ blw18_0 := Nat.le_trans KKlw17.1 Glw18_0
  have V_blw12_0_lw18 := V_blw12_0_lw17.keep Klw18 (by simp only [List.mem_cons, List.not_mem_nil, or_false, not_or]; exact ne_blw12_0_blw17)
  have V_blw12_1_lw18 := V_blw12_1_lw17.keep Klw18 (by simp only [List.mem_cons, List.not_mem_nil, or_false, not_or]; exact ne_blw12_1_blw17)
  have V_blw16_0_lw18 := V_blw16_0_lw17.keep Klw18 (by simp only [List.mem_cons, List.not_mem_nil, or_false, not_or]; exact ne_blw16_0_blw17)
  have E_blw11_lw18 := E_blw11_lw17.keep Klw18
  have F_waits_blw11_lw18 := F_waits_blw11_lw17.keep Klw18 (by simp only [List.mem_cons, List.not_mem_nil, or_false, not_or]; exact ne_blw11_blw17)
  have F_runs_blw11_lw18 := F_runs_blw11_lw17.keep Klw18 (by simp only [List.mem_cons, List.not_mem_nil, or_false, not_or]; exact ne_blw11_blw17)
  have F_waitCount_blw11_lw18 := F_waitCount_blw11_lw17.keep Klw18 (by simp only [List.mem_cons, List.not_mem_nil, or_false, not_or]; exact ne_blw11_blw17)
  have F_runCount_blw11_lw18 := F_runCount_blw11_lw17.keep Klw18 (by simp only [List.mem_cons, List.not_mem_nil, or_false, not_or]; exact ne_blw11_blw17)
  have E_blw15_lw18 := E_blw15_lw17.keep Klw18
  have U_blw15_lw18 := Unt.keep Klw18 (by simp only [List.mem_cons, List.not_mem_nil, or_false, not_or]; exact ne_blw15_blw17) U_blw15_lw17
  have F_ranges_blw15_lw18 := F_ranges_blw15_lw17.keep Klw18 (by simp only [List.mem_cons, List.not_mem_nil, or_false, not_or]; exact ne_blw15_blw17)
  have F_count_blw15_lw18 := F_count_blw15_lw17.keep Klw18 (by simp only [List.mem_cons, List.not_mem_nil, or_false, not_or]; exact ne_blw15_blw17)
  have F_sum_blw15_lw18 := F_sum_blw15_lw17.keep Klw18 (by simp only [List.mem_cons, List.not_mem_nil, or_false, not_or]; exact ne_blw15_blw17)
  have F_max_blw15_lw18 := F_max_blw15_lw17.keep Klw18 (by simp only [List.mem_cons, List.not_mem_nil, or_false, not_or]; exact ne_blw15_blw17)
  have Zlw18 : n0 ≤ Tlw18.heap.size := Nat.le_trans Zlw17 Klw18.1
  have KKlw18 := KKlw17.trans Klw18 (fun q hq => by simp only [List.mem_cons, List.not_mem_nil, or_false] at hq; rcases hq with rfl; exact Or.inr sz_blw17)
  have Nlw18 := Fr.app Nlw16 Nlw18q
  have HH1 : own_Hist Z Tlw18.heap blw15 blw16_0 [] 0 0 0 0 := ⟨E_blw15_lw18, F_ranges_blw15_lw18, F_count_blw15_lw18, F_sum_blw15_lw18, F_max_blw15_lw18, ⟨_, _, V_blw16_0_lw18, Olw16_0, List.length_replicate, own_Bks.nulls 57⟩, ne_blw15_blw16_0, (fun q => nomatch q), (fun q => nomatch q)⟩
  have HG1 : own_G n0 blw15 blw16_0 [] := ⟨g_blw15, g_blw16_0, fun _ q => nomatch q⟩
  have lt_blw15 := E_blw15_lw18.lt
  have HH2 : own_Hist Z Tlw18.heap blw17 blw18_0 [] 0 0 0 0 := ⟨qlw18_1, qlw18_2, qlw18_3, qlw18_4, qlw18_5, ⟨_, _, Vlw18_0, Olw18_0, List.length_replicate, own_Bks.nulls 57⟩, ne_blw17_blw18_0, (fun q => nomatch q), (fun q => nomatch q)⟩
  have HG2 : own_G n0 blw17 blw18_0 [] := ⟨g_blw17, g_blw18_0, fun _ q => nomatch q⟩
  have lt_blw17 := qlw18_1.lt
  obtain ⟨cqlw19, kqlw19, qlw19a, qlw19b, qlw19c⟩ := isOf hZ rfl E_blw11_lw18
  obtain ⟨_, _, ⟨Tlw19, Llw19, klw19, nlw19⟩, -, Xlw19, ⟨Lclw19, hQlw19, llw19, ylw19, zlw19⟩, stlw19⟩ := Xlw18.virtualBack hx (y := (⟨"millrace/TimingBuffer", "flush", "(Lmillrace/DurationHistogram;Lmillrace/DurationHistogram;)V"⟩ : MethodName)) (z := (⟨"millrace/TimingBuffer", "flush", "(Lmillrace/DurationHistogram;Lmillrace/DurationHistogram;)V"⟩ : MethodName)) hown (mvT hZ (hw _ (List.mem_of_getElem? (i := 39) rfl))) (mvT hZ (hw _ (List.mem_of_getElem? (i := 40) rfl))) (notFace_of_selects (args := #[]) (mvT hZ (hw _ (List.mem_of_getElem? (i := 42) rfl)))) (mvT hZ (hw _ (List.mem_of_getElem? (i := 42) rfl))) (mvT hZ (hw _ (List.mem_of_getElem? (i := 41) rfl))) (by decide) (backOf (W := 0) (own_rm_fl1 l Z a0 hw [] blw11 blw12_0 blw12_1 blw15 blw17 ((List.replicate 64 (Value.long 0)).set 0 (.long p0)) (List.replicate 64 (Value.long 0)) blw16_0 blw18_0 (fl1_c9_rc1_v10 := p0) Tlw18.heap n0 Zlw18 E_blw11_lw18 F_waits_blw11_lw18 F_waitCount_blw11_lw18 F_runs_blw11_lw18 F_runCount_blw11_lw18 E_blw15_lw18 qlw18_1 V_blw12_0_lw18 V_blw12_1_lw18 ne_blw11_blw12_0 ne_blw11_blw12_1 ne_blw11_blw15 ne_blw11_blw16_0 ne_blw11_blw17 ne_blw11_blw18_0 ne_blw12_0_blw15 ne_blw12_0_blw16_0 ne_blw12_0_blw17 ne_blw12_0_blw18_0 ne_blw12_1_blw15 ne_blw12_1_blw16_0 ne_blw12_1_blw17 ne_blw12_1_blw18_0 ne_blw15_blw17 ne_blw15_blw18_0 ne_blw16_0_blw17 ne_blw16_0_blw18_0 g_blw11 HH1 U_blw15_lw18 HH2 qlw18_0 HG1 HG2 (by rfl)) hZ (hw _ (List.mem_of_getElem? (i := 43) rfl)) (hw _ (List.mem_of_getElem? (i := 2) rfl)) (by decide) (by decide)) qlw19a qlw19c (g := (mkF m 91 #[.val (.long p0), .second, .val (.long p1), .second, .val (.long p2), .second, .val (.int p3), .val (.int (1 : Int32)), .val (.ref blw11), .val (.int (1 : Int32)), .val (.ref blw15), .val (.ref blw17), .unset, .unset, .unset, .unset, .unset, .unset, .unset, .unset] [(.ref blw17), (.ref blw15), (.ref blw11)])) rfl (by rw [hml]; rfl) (Steps.refl _) (argsL := [(.ref blw15), (.ref blw17)]) (rest := []) (lenOf own_pd_28Lmillrace2fDurationHistogram3bLmillrace2fDurationHistogram3b29V rfl) rfl (by show 2 * 0 + _ ≤ _; exact Nat.le_of_eq rfl) (hb hby at_91) (fun _ _ => ⟨rfl, rfl, (by decide : 7 + 1 ≤ _), (by decide : 254 + 128 ≤ _)⟩)
  dsimp only [Pt.U, Pt.locs, Pt.cells, Pt.slots] at Xlw19 llw19 ylw19 zlw19 stlw19 hQlw19
  rw [llw19, ylw19, zlw19] at Xlw19
  obtain ⟨rfl, Nlw19q, Klw19, aslw19_1, aslw19_2, Hlw19_1, Ulw19_1, GAlw19_1, Hlw19_2, Ulw19_2, GAlw19_2⟩ := hQlw19
  have Zlw19 : n0 ≤ Tlw19.heap.size := Nat.le_trans Zlw18 Klw19.1
  have KKlw19 := KKlw18.trans Klw19 (fun q hq => by simp only [List.mem_cons, List.not_mem_nil, or_false] at hq; rcases hq with rfl | rfl | rfl | rfl | rfl <;> first | exact Or.inr sz_blw15 | exact Or.inr sz_blw16_0 | exact Or.inr sz_blw17 | exact Or.inr sz_blw18_0 | exact Or.inr sz_blw11)
  have Nlw19 := Fr.app Nlw18 Nlw19q
  obtain ⟨cqlw110, kqlw110, qlw110a, qlw110b, qlw110c⟩ := isOf hZ rfl Hlw19_1.exa
  obtain ⟨_, _, ⟨Tlw110, Llw110, klw110, nlw110⟩, -, Xlw110, ⟨Lclw110, hQlw110, llw110, ylw110, zlw110⟩, stlw110⟩ := Xlw19.virtualBack hx (y := (⟨"millrace/DurationHistogram", "summary", "()Lmillrace/PoolSnapshot$Timing;"⟩ : MethodName)) (z := (⟨"millrace/DurationHistogram", "summary", "()Lmillrace/PoolSnapshot$Timing;"⟩ : MethodName)) hown (mvT hZ (hw _ (List.mem_of_getElem? (i := 79) rfl))) (mvT hZ (hw _ (List.mem_of_getElem? (i := 80) rfl))) (notFace_of_selects (args := #[]) (mvT hZ (hw _ (List.mem_of_getElem? (i := 82) rfl)))) (mvT hZ (hw _ (List.mem_of_getElem? (i := 82) rfl))) (mvT hZ (hw _ (List.mem_of_getElem? (i := 81) rfl))) (by decide) (own_backS (W := 0) (own_rm_sumN l Z a0 hw (ws := [Jvm.Cond.instanceMethod (⟨"millrace/DurationHistogram", "summary", "()Lmillrace/PoolSnapshot$Timing;"⟩ : MethodName)]) (List.mem_cons_self ..) blw15 blw16_0 aslw19_1 (0 + 1) (0 + 1) (FP.dadd 0 (FP.l2d (own_lmax (0 : Int64) p0))) (own_lmax 0 (own_lmax (0 : Int64) p0)) Tlw19.heap n0 Zlw19 Hlw19_1 Ulw19_1 (smn_hb6 := by decide +kernel) (ht := by decide +kernel) (smn_hn40 := own_nnD (own_nnA own_nn0 _) (by decide)) (smn_hv40 := rfl) (smn_hr044 := by decide +kernel) (smn_hr144 := by decide +kernel) (smn_hr050 := by decide +kernel) (smn_hr150 := by decide +kernel) (smn_hr056 := by decide +kernel) (smn_hr156 := by decide +kernel)) Ulw19_1 hZ (hw _ (List.mem_of_getElem? (i := 83) rfl)) (hw _ (List.mem_of_getElem? (i := 81) rfl)) (hw _ (List.mem_of_getElem? (i := 30) rfl)) (by decide) (by decide)) qlw110a qlw110c (g := (mkF m 96 #[.val (.long p0), .second, .val (.long p1), .second, .val (.long p2), .second, .val (.int p3), .val (.int (1 : Int32)), .val (.ref blw11), .val (.int (1 : Int32)), .val (.ref blw15), .val (.ref blw17), .unset, .unset, .unset, .unset, .unset, .unset, .unset, .unset] [(.ref blw15)])) rfl (by rw [hml]; rfl) (Steps.refl _) (argsL := []) (rest := []) (lenOf own_pd_2829Lmillrace2fPoolSnapshot24Timing3b rfl) rfl (by show 2 * 0 + _ ≤ _; exact Nat.le_of_eq rfl) (hb hby at_96) (fun _ _ => ⟨rfl, rfl, (by decide : 8 + 1 ≤ _), (by decide : 382 + 6 ≤ _)⟩)
  dsimp only [Pt.U, Pt.locs, Pt.cells, Pt.slots] at Xlw110 llw110 ylw110 zlw110 stlw110 hQlw110
  rw [llw110, ylw110, zlw110] at Xlw110
  obtain ⟨blw110, rfl, Nlw110q, Klw110, Glw110, EXlw110, Flw110_1, Flw110_2, Flw110_3⟩ := hQlw110
  have ne_blw15_blw110 : blw15 ≠ blw110 := Nat.ne_of_lt (Nat.lt_of_lt_of_le Hlw19_1.exa.lt Glw110)
  have ne_blw110_blw15 : blw110 ≠ blw15 := Ne.symm ne_blw15_blw110
  have ne_blw17_blw110 : blw17 ≠ blw110 := Nat.ne_of_lt (Nat.lt_of_lt_of_le Hlw19_2.exa.lt Glw110)
  have ne_blw110_blw17 : blw110 ≠ blw17 := Ne.symm ne_blw17_blw110
  have g_blw110 : n0 ≤ blw110 := Nat.le_trans Zlw19 Glw110
  have sz_blw110 : h0.size ≤ blw110 := Nat.le_trans KKlw19.1 Glw110
  have E_blw17_lw110 := Hlw19_2.exa.keep Klw110
  have H_blw17_lw110 := Hlw19_2.keep Klw110 (by simp only [List.mem_cons, List.not_mem_nil, or_false, not_or]; exact ne_blw17_blw15) (by simp only [List.mem_cons, List.not_mem_nil, or_false, not_or]; exact ne_blw18_0_blw15) (fun x hx => by simp only [List.mem_cons, List.not_mem_nil, or_false, not_or]; exact fun e => absurd lt_blw15 (Nat.not_lt.mpr (GAlw19_2 blw15 (e ▸ hx))))
  have HU_blw17_lw110 := Unt.keep Klw110 (by simp only [List.mem_cons, List.not_mem_nil, or_false, not_or]; exact ne_blw17_blw15) Ulw19_2
  have Zlw110 : n0 ≤ Tlw110.heap.size := Nat.le_trans Zlw19 Klw110.1
  have KKlw110 := KKlw19.trans Klw110 (fun q hq => by simp only [List.mem_cons, List.not_mem_nil, or_false] at hq; rcases hq with rfl; exact Or.inr sz_blw15)
  have Nlw110 := Fr.app Nlw19 Nlw110q
  obtain ⟨cqlw111, kqlw111, qlw111a, qlw111b, qlw111c⟩ := isOf hZ rfl E_blw17_lw110
  obtain ⟨_, _, ⟨Tlw111, Llw111, klw111, nlw111⟩, -, Xlw111, ⟨Lclw111, hQlw111, llw111, ylw111, zlw111⟩, stlw111⟩ := Xlw110.virtualBack hx (y := (⟨"millrace/DurationHistogram", "summary", "()Lmillrace/PoolSnapshot$Timing;"⟩ : MethodName)) (z := (⟨"millrace/DurationHistogram", "summary", "()Lmillrace/PoolSnapshot$Timing;"⟩ : MethodName)) hown (mvT hZ (hw _ (List.mem_of_getElem? (i := 79) rfl))) (mvT hZ (hw _ (List.mem_of_getElem? (i := 80) rfl))) (notFace_of_selects (args := #[]) (mvT hZ (hw _ (List.mem_of_getElem? (i := 82) rfl)))) (mvT hZ (hw _ (List.mem_of_getElem? (i := 82) rfl))) (mvT hZ (hw _ (List.mem_of_getElem? (i := 81) rfl))) (by decide) (own_backS (W := 0) (own_rm_sum0 l Z a0 hw (ws := [Jvm.Cond.instanceMethod (⟨"millrace/DurationHistogram", "summary", "()Lmillrace/PoolSnapshot$Timing;"⟩ : MethodName)]) (List.mem_cons_self ..) blw17 blw18_0 aslw19_2 0 0 0 Tlw110.heap n0 Zlw110 H_blw17_lw110 HU_blw17_lw110 ) HU_blw17_lw110 hZ (hw _ (List.mem_of_getElem? (i := 83) rfl)) (hw _ (List.mem_of_getElem? (i := 81) rfl)) (hw _ (List.mem_of_getElem? (i := 30) rfl)) (by decide) (by decide)) qlw111a qlw111c (g := (mkF m 103 #[.val (.long p0), .second, .val (.long p1), .second, .val (.long p2), .second, .val (.int p3), .val (.int (1 : Int32)), .val (.ref blw11), .val (.int (1 : Int32)), .val (.ref blw15), .val (.ref blw17), .val (.ref blw110), .unset, .unset, .unset, .unset, .unset, .unset, .unset] [(.ref blw17)])) rfl (by rw [hml]; rfl) (Steps.refl _) (argsL := []) (rest := []) (lenOf own_pd_2829Lmillrace2fPoolSnapshot24Timing3b rfl) rfl (by show 2 * 0 + _ ≤ _; exact Nat.le_of_eq rfl) (hb hby at_103) (fun _ _ => ⟨rfl, rfl, (by decide : 9 + 1 ≤ _), (by decide : 388 + 6 ≤ _)⟩)
  dsimp only [Pt.U, Pt.locs, Pt.cells, Pt.slots] at Xlw111 llw111 ylw111 zlw111 stlw111 hQlw111
  rw [llw111, ylw111, zlw111] at Xlw111
  obtain ⟨blw111, rfl, Nlw111q, Klw111, Glw111, EXlw111, Flw111_1, Flw111_2, Flw111_3⟩ := hQlw111
  have ne_blw17_blw111 : blw17 ≠ blw111 := Nat.ne_of_lt (Nat.lt_of_lt_of_le E_blw17_lw110.lt Glw111)
  have ne_blw111_blw17 : blw111 ≠ blw17 := Ne.symm ne_blw17_blw111
  have ne_blw110_blw111 : blw110 ≠ blw111 := Nat.ne_of_lt (Nat.lt_of_lt_of_le EXlw110.lt Glw111)
  have ne_blw111_blw110 : blw111 ≠ blw110 := Ne.symm ne_blw110_blw111
  have g_blw111 : n0 ≤ blw111 := Nat.le_trans Zlw110 Glw111
  have sz_blw111 : h0.size ≤ blw111 := Nat.le_trans KKlw110.1 Glw111
  have E_blw110_lw111 := EXlw110.keep Klw111
  have F_count_blw110_lw111 := Flw110_1.keep Klw111 (by simp only [List.mem_cons, List.not_mem_nil, or_false, not_or]; exact ne_blw110_blw17)
  have F_meanNanos_blw110_lw111 := Flw110_2.keep Klw111 (by simp only [List.mem_cons, List.not_mem_nil, or_false, not_or]; exact ne_blw110_blw17)
  have F_maxNanos_blw110_lw111 := Flw110_3.keep Klw111 (by simp only [List.mem_cons, List.not_mem_nil, or_false, not_or]; exact ne_blw110_blw17)
  have Zlw111 : n0 ≤ Tlw111.heap.size := Nat.le_trans Zlw110 Klw111.1
  have KKlw111 := KKlw110.trans Klw111 (fun q hq => by simp only [List.mem_cons, List.not_mem_nil, or_false] at hq; rcases hq with rfl; exact Or.inr sz_blw17)
  have Nlw111 := Fr.app Nlw110 Nlw111q
  obtain ⟨_, _, ⟨Tlw112, Llw112, klw112, nlw112⟩, -, Xlw112, ⟨Lclw112, hQlw112, llw112, ylw112, zlw112⟩, stlw112⟩ := Jvm.LawKit.callS Xlw111 hx (y := (⟨"java/lang/Math", "max", "(JJ)J"⟩ : MethodName)) hown (mvT hZ (hw _ (List.mem_of_getElem? (i := 120) rfl))) (mvT hZ (hw _ (List.mem_of_getElem? (i := 54) rfl))) (mvT hZ (hw _ (List.mem_of_getElem? (i := 55) rfl))) (mvT hZ (hw _ (List.mem_of_getElem? (i := 56) rfl))) (by decide) (backOf (W := 0) (own_rm_mmax l Z a0 hw [] (0 : Int64) p0 Tlw111.heap n0 Zlw111 ) hZ (hw _ (List.mem_of_getElem? (i := 56) rfl)) (hw _ (List.mem_of_getElem? (i := 55) rfl)) (by decide) (by decide)) (g := (mkF m 122 #[.val (.long p0), .second, .val (.long p1), .second, .val (.long p2), .second, .val (.int p3), .val (.int (1 : Int32)), .val (.ref blw11), .val (.int (1 : Int32)), .val (.ref blw15), .val (.ref blw17), .val (.ref blw110), .val (.ref blw111), .val (.long (0 : Int64)), .second, .val (.double 0), .second, .unset, .unset] [(.long p0), (.long (0 : Int64))])) rfl (by rw [hml]; rfl) (argsL := [(.long (0 : Int64)), (.long p0)]) (rest := []) (lenOf own_pd_28JJ29J rfl) rfl (by show 2 * 0 + _ ≤ _; exact Nat.le_of_eq rfl) (hb hby at_122) (fun _ _ => ⟨rfl, rfl, (by decide : 10 + 0 ≤ _), (by decide : 394 + 0 ≤ _)⟩)
  dsimp only [Pt.U, Pt.locs, Pt.cells, Pt.slots] at Xlw112 llw112 ylw112 zlw112 stlw112 hQlw112
  rw [llw112, ylw112, zlw112] at Xlw112
  obtain ⟨rfl, Nlw112q, elw112⟩ := hQlw112
  have Nlw112 := Fr.app Nlw111 Nlw112q
  obtain ⟨_, _, ⟨Tlw113, Llw113, klw113, nlw113⟩, -, Xlw113, ⟨Lclw113, hQlw113, llw113, ylw113, zlw113⟩, stlw113⟩ := Jvm.LawKit.callS Xlw112 hx (y := (⟨"java/lang/Math", "max", "(JJ)J"⟩ : MethodName)) hown (mvT hZ (hw _ (List.mem_of_getElem? (i := 120) rfl))) (mvT hZ (hw _ (List.mem_of_getElem? (i := 54) rfl))) (mvT hZ (hw _ (List.mem_of_getElem? (i := 55) rfl))) (mvT hZ (hw _ (List.mem_of_getElem? (i := 56) rfl))) (by decide) (backOf (W := 0) (own_rm_mmax l Z a0 hw [] (0 : Int64) (own_lmax (0 : Int64) p0) Tlw111.heap n0 Zlw111 ) hZ (hw _ (List.mem_of_getElem? (i := 56) rfl)) (hw _ (List.mem_of_getElem? (i := 55) rfl)) (by decide) (by decide)) (g := (mkF m 131 #[.val (.long p0), .second, .val (.long p1), .second, .val (.long p2), .second, .val (.int p3), .val (.int (1 : Int32)), .val (.ref blw11), .val (.int (1 : Int32)), .val (.ref blw15), .val (.ref blw17), .val (.ref blw110), .val (.ref blw111), .val (.long (0 : Int64)), .second, .val (.double 0), .second, .val (.long (own_lmax (0 : Int64) p0)), .second] [(.long (own_lmax (0 : Int64) p0)), (.long (0 : Int64))])) rfl (by rw [hml]; rfl) (argsL := [(.long (0 : Int64)), (.long (own_lmax (0 : Int64) p0))]) (rest := []) (lenOf own_pd_28JJ29J rfl) rfl (by show 2 * 0 + _ ≤ _; exact Nat.le_of_eq rfl) (hb hby at_131) (fun _ _ => ⟨rfl, elw112, (by decide : 10 + 0 ≤ _), (by decide : 394 + 0 ≤ _)⟩)
  dsimp only [Pt.U, Pt.locs, Pt.cells, Pt.slots] at Xlw113 llw113 ylw113 zlw113 stlw113 hQlw113
  rw [llw113, ylw113, zlw113] at Xlw113
  obtain ⟨rfl, Nlw113q, elw113⟩ := hQlw113
  have Nlw113 := Fr.app Nlw112 Nlw113q
  obtain ⟨cqlw114, kqlw114, qlw114a, qlw114b, qlw114c⟩ := isOf hZ elw113 E_blw110_lw111
  obtain ⟨_, _, ⟨Tlw114, Llw114, klw114, nlw114⟩, -, Xlw114, ⟨Lclw114, hQlw114, llw114, ylw114, zlw114⟩, stlw114⟩ := Xlw113.virtualBack hx (y := (⟨"millrace/PoolSnapshot$Timing", "count", "()J"⟩ : MethodName)) (z := (⟨"millrace/PoolSnapshot$Timing", "count", "()J"⟩ : MethodName)) hown (mvT hZ (hw _ (List.mem_of_getElem? (i := 121) rfl))) (mvT hZ (hw _ (List.mem_of_getElem? (i := 122) rfl))) (notFace_of_selects (args := #[]) (mvT hZ (hw _ (List.mem_of_getElem? (i := 124) rfl)))) (mvT hZ (hw _ (List.mem_of_getElem? (i := 124) rfl))) (mvT hZ (hw _ (List.mem_of_getElem? (i := 123) rfl))) (by decide) (backOf (W := 0) (own_rm_tgcount l Z a0 hw [] blw110 (0 + 1) Tlw111.heap n0 Zlw111 E_blw110_lw111 F_count_blw110_lw111) hZ (hw _ (List.mem_of_getElem? (i := 125) rfl)) (hw _ (List.mem_of_getElem? (i := 86) rfl)) (by decide) (by decide)) qlw114a qlw114c (g := (mkF m 229 #[.val (.long p0), .second, .val (.long p1), .second, .val (.long p2), .second, .val (.int p3), .val (.int (1 : Int32)), .val (.ref blw11), .val (.int (1 : Int32)), .val (.ref blw15), .val (.ref blw17), .val (.ref blw110), .val (.ref blw111), .val (.long (own_lmax (0 : Int64) (own_lmax (0 : Int64) p0))), .second, .val (.double lw1_v141), .second, .val (.double lw1_v219), .second] [(.ref blw110)])) rfl (by rw [hml]; rfl) (Steps.refl _) (argsL := []) (rest := []) (lenOf own_pd_2829J rfl) rfl (by show 2 * 0 + _ ≤ _; exact Nat.le_of_eq rfl) (hb hby at_229) (fun _ _ => ⟨rfl, elw113, (by decide : 10 + 0 ≤ _), (by decide : 394 + 0 ≤ _)⟩)
  dsimp only [Pt.U, Pt.locs, Pt.cells, Pt.slots] at Xlw114 llw114 ylw114 zlw114 stlw114 hQlw114
  rw [llw114, ylw114, zlw114] at Xlw114
  obtain ⟨rfl, Nlw114q, elw114⟩ := hQlw114
  have Nlw114 := Fr.app Nlw113 Nlw114q
  obtain ⟨cqlw115, kqlw115, qlw115a, qlw115b, qlw115c⟩ := isOf hZ elw114 E_blw110_lw111
  obtain ⟨_, _, ⟨Tlw115, Llw115, klw115, nlw115⟩, -, Xlw115, ⟨Lclw115, hQlw115, llw115, ylw115, zlw115⟩, stlw115⟩ := Xlw114.virtualBack hx (y := (⟨"millrace/PoolSnapshot$Timing", "maxNanos", "()J"⟩ : MethodName)) (z := (⟨"millrace/PoolSnapshot$Timing", "maxNanos", "()J"⟩ : MethodName)) hown (mvT hZ (hw _ (List.mem_of_getElem? (i := 126) rfl))) (mvT hZ (hw _ (List.mem_of_getElem? (i := 127) rfl))) (notFace_of_selects (args := #[]) (mvT hZ (hw _ (List.mem_of_getElem? (i := 129) rfl)))) (mvT hZ (hw _ (List.mem_of_getElem? (i := 129) rfl))) (mvT hZ (hw _ (List.mem_of_getElem? (i := 128) rfl))) (by decide) (backOf (W := 0) (own_rm_tgmaxNanos l Z a0 hw [] blw110 (own_lmax 0 (own_lmax (0 : Int64) p0)) Tlw111.heap n0 Zlw111 E_blw110_lw111 F_maxNanos_blw110_lw111) hZ (hw _ (List.mem_of_getElem? (i := 130) rfl)) (hw _ (List.mem_of_getElem? (i := 86) rfl)) (by decide) (by decide)) qlw115a qlw115c (g := (mkF m 241 #[.val (.long p0), .second, .val (.long p1), .second, .val (.long p2), .second, .val (.int p3), .val (.int (1 : Int32)), .val (.ref blw11), .val (.int (1 : Int32)), .val (.ref blw15), .val (.ref blw17), .val (.ref blw110), .val (.ref blw111), .val (.long (own_lmax (0 : Int64) (own_lmax (0 : Int64) p0))), .second, .val (.double lw1_v141), .second, .val (.double lw1_v219), .second] [(.ref blw110)])) rfl (by rw [hml]; rfl) (Steps.refl _) (argsL := []) (rest := []) (lenOf own_pd_2829J rfl) rfl (by show 2 * 0 + _ ≤ _; exact Nat.le_of_eq rfl) (hb hby at_241) (fun _ _ => ⟨rfl, elw114, (by decide : 10 + 0 ≤ _), (by decide : 394 + 0 ≤ _)⟩)
  dsimp only [Pt.U, Pt.locs, Pt.cells, Pt.slots] at Xlw115 llw115 ylw115 zlw115 stlw115 hQlw115
  rw [llw115, ylw115, zlw115] at Xlw115
  obtain ⟨rfl, Nlw115q, elw115⟩ := hQlw115
  have Nlw115 := Fr.app Nlw114 Nlw115q
  obtain ⟨cqlw116, kqlw116, qlw116a, qlw116b, qlw116c⟩ := isOf hZ elw115 E_blw110_lw111
  obtain ⟨_, _, ⟨Tlw116, Llw116, klw116, nlw116⟩, -, Xlw116, ⟨Lclw116, hQlw116, llw116, ylw116, zlw116⟩, stlw116⟩ := Xlw115.virtualBack hx (y := (⟨"millrace/PoolSnapshot$Timing", "meanNanos", "()D"⟩ : MethodName)) (z := (⟨"millrace/PoolSnapshot$Timing", "meanNanos", "()D"⟩ : MethodName)) hown (mvT hZ (hw _ (List.mem_of_getElem? (i := 131) rfl))) (mvT hZ (hw _ (List.mem_of_getElem? (i := 132) rfl))) (notFace_of_selects (args := #[]) (mvT hZ (hw _ (List.mem_of_getElem? (i := 134) rfl)))) (mvT hZ (hw _ (List.mem_of_getElem? (i := 134) rfl))) (mvT hZ (hw _ (List.mem_of_getElem? (i := 133) rfl))) (by decide) (backOf (W := 0) (own_rm_tgmeanNanos l Z a0 hw [] blw110 (FP.ddiv (FP.dadd 0 (FP.l2d (own_lmax (0 : Int64) p0))) (FP.l2d (0 + 1))) Tlw111.heap n0 Zlw111 E_blw110_lw111 F_meanNanos_blw110_lw111) hZ (hw _ (List.mem_of_getElem? (i := 135) rfl)) (hw _ (List.mem_of_getElem? (i := 86) rfl)) (by decide) (by decide)) qlw116a qlw116c (g := (mkF m 252 #[.val (.long p0), .second, .val (.long p1), .second, .val (.long p2), .second, .val (.int p3), .val (.int (1 : Int32)), .val (.ref blw11), .val (.int (1 : Int32)), .val (.ref blw15), .val (.ref blw17), .val (.ref blw110), .val (.ref blw111), .val (.long (own_lmax (0 : Int64) (own_lmax (0 : Int64) p0))), .second, .val (.double lw1_v141), .second, .val (.double lw1_v219), .second] [(.ref blw110)])) rfl (by rw [hml]; rfl) (Steps.refl _) (argsL := []) (rest := []) (lenOf own_pd_2829D rfl) rfl (by show 2 * 0 + _ ≤ _; exact Nat.le_of_eq rfl) (hb hby at_252) (fun _ _ => ⟨rfl, elw115, (by decide : 10 + 0 ≤ _), (by decide : 394 + 0 ≤ _)⟩)
  dsimp only [Pt.U, Pt.locs, Pt.cells, Pt.slots] at Xlw116 llw116 ylw116 zlw116 stlw116 hQlw116
  rw [llw116, ylw116, zlw116] at Xlw116
  obtain ⟨rfl, Nlw116q, elw116⟩ := hQlw116
  have Nlw116 := Fr.app Nlw115 Nlw116q
  obtain ⟨cqlw117, kqlw117, qlw117a, qlw117b, qlw117c⟩ := isOf hZ elw116 EXlw111
  obtain ⟨_, _, ⟨Tlw117, Llw117, klw117, nlw117⟩, -, Xlw117, ⟨Lclw117, hQlw117, llw117, ylw117, zlw117⟩, stlw117⟩ := Xlw116.virtualBack hx (y := (⟨"millrace/PoolSnapshot$Timing", "count", "()J"⟩ : MethodName)) (z := (⟨"millrace/PoolSnapshot$Timing", "count", "()J"⟩ : MethodName)) hown (mvT hZ (hw _ (List.mem_of_getElem? (i := 121) rfl))) (mvT hZ (hw _ (List.mem_of_getElem? (i := 122) rfl))) (notFace_of_selects (args := #[]) (mvT hZ (hw _ (List.mem_of_getElem? (i := 124) rfl)))) (mvT hZ (hw _ (List.mem_of_getElem? (i := 124) rfl))) (mvT hZ (hw _ (List.mem_of_getElem? (i := 123) rfl))) (by decide) (backOf (W := 0) (own_rm_tgcount l Z a0 hw [] blw111 (0 : Int64) Tlw111.heap n0 Zlw111 EXlw111 Flw111_1) hZ (hw _ (List.mem_of_getElem? (i := 125) rfl)) (hw _ (List.mem_of_getElem? (i := 86) rfl)) (by decide) (by decide)) qlw117a qlw117c (g := (mkF m 263 #[.val (.long p0), .second, .val (.long p1), .second, .val (.long p2), .second, .val (.int p3), .val (.int (1 : Int32)), .val (.ref blw11), .val (.int (1 : Int32)), .val (.ref blw15), .val (.ref blw17), .val (.ref blw110), .val (.ref blw111), .val (.long (own_lmax (0 : Int64) (own_lmax (0 : Int64) p0))), .second, .val (.double lw1_v141), .second, .val (.double lw1_v219), .second] [(.ref blw111)])) rfl (by rw [hml]; rfl) (Steps.refl _) (argsL := []) (rest := []) (lenOf own_pd_2829J rfl) rfl (by show 2 * 0 + _ ≤ _; exact Nat.le_of_eq rfl) (hb hby at_263) (fun _ _ => ⟨rfl, elw116, (by decide : 10 + 0 ≤ _), (by decide : 394 + 0 ≤ _)⟩)
  dsimp only [Pt.U, Pt.locs, Pt.cells, Pt.slots] at Xlw117 llw117 ylw117 zlw117 stlw117 hQlw117
  rw [llw117, ylw117, zlw117] at Xlw117
  obtain ⟨rfl, Nlw117q, elw117⟩ := hQlw117
  have Nlw117 := Fr.app Nlw116 Nlw117q
  obtain ⟨fs, hr, hrun, hended, hW, hsame⟩ := Xlw117.leave (v := some (.int (1 : Int32))) (fun h => by rw [Bd.returns] at h; cases h)
  refine ⟨_, _, pre0 _ ?_, hrun, hended, _, _, rfl, ?_, ⟨_, rfl⟩, hW, hsame.mono (by decide) (by decide)⟩
  · refine own_s_iload X0.here hx (hb hby at_0) (pc' := 2) rfl rfl ?_
    refine own_s_iconst X0.here hx (hb hby at_2) (pc' := 3) rfl (v := (3 : Int32)) (by decide) ?_
    refine own_s_iand X0.here hx (hb hby at_3) (pc' := 4) rfl (v := (1 : Int32)) lw1_hv3 ?_
    refine own_s_istore X0.here hx (hb hby at_4) (pc' := 6) rfl (L' := #[.val (.long p0), .second, .val (.long p1), .second, .val (.long p2), .second, .val (.int p3), .val (.int (1 : Int32)), .unset, .unset, .unset, .unset, .unset, .unset, .unset, .unset, .unset, .unset, .unset, .unset]) rfl ?_
    refine stlw11 _ ?_
    show Steps p.tables e below (Tlw11.setTop (mkF m 9 #[.val (.long p0), .second, .val (.long p1), .second, .val (.long p2), .second, .val (.int p3), .val (.int (1 : Int32)), .unset, .unset, .unset, .unset, .unset, .unset, .unset, .unset, .unset, .unset, .unset, .unset] [(.ref blw11)])) _
    refine own_s_dup Xlw11.here hx (hb hby at_9) (pc' := 10) rfl rfl ?_
    refine stlw12.trans ?_
    show Steps p.tables e below (Tlw12.setTop (mkF m 13 #[.val (.long p0), .second, .val (.long p1), .second, .val (.long p2), .second, .val (.int p3), .val (.int (1 : Int32)), .unset, .unset, .unset, .unset, .unset, .unset, .unset, .unset, .unset, .unset, .unset, .unset] [(.ref blw11)])) _
    refine own_s_astore Xlw12.here hx (hb hby at_13) (pc' := 15) rfl rfl (L' := #[.val (.long p0), .second, .val (.long p1), .second, .val (.long p2), .second, .val (.int p3), .val (.int (1 : Int32)), .val (.ref blw11), .unset, .unset, .unset, .unset, .unset, .unset, .unset, .unset, .unset, .unset, .unset]) rfl ?_
    refine own_s_iload Xlw12.here hx (hb hby at_15) (pc' := 17) rfl rfl ?_
    refine own_s_iconst Xlw12.here hx (hb hby at_17) (pc' := 18) rfl (v := (1 : Int32)) (by decide) ?_
    refine own_s_icmpNo Xlw12.here hx (hb hby at_18) (pc' := 21) rfl (by decide) ?_
    refine own_s_aload Xlw12.here hx (hb hby at_21) (pc' := 23) rfl rfl rfl ?_
    refine own_s_lloadN Xlw12.here hx (hb hby at_23) (pc' := 24) rfl rfl ?_
    refine stlw13.trans ?_
    show Steps p.tables e below (Tlw13.setTop (mkF m 27 #[.val (.long p0), .second, .val (.long p1), .second, .val (.long p2), .second, .val (.int p3), .val (.int (1 : Int32)), .val (.ref blw11), .unset, .unset, .unset, .unset, .unset, .unset, .unset, .unset, .unset, .unset, .unset] [])) _
    refine own_s_iload Xlw13.here hx (hb hby at_27) (pc' := 29) rfl rfl ?_
    refine own_s_iconst Xlw13.here hx (hb hby at_29) (pc' := 30) rfl (v := (2 : Int32)) (by decide) ?_
    refine own_s_icmpYes Xlw13.here hx (hb hby at_30) (by decide) (pc' := 39) (by decide) (by decide) ?_
    refine own_s_iload Xlw13.here hx (hb hby at_39) (pc' := 41) rfl rfl ?_
    refine own_s_iconst Xlw13.here hx (hb hby at_41) (pc' := 42) rfl (v := (3 : Int32)) (by decide) ?_
    refine own_s_icmpYes Xlw13.here hx (hb hby at_42) (by decide) (pc' := 52) (by decide) (by decide) ?_
    refine own_s_aload Xlw13.here hx (hb hby at_52) (pc' := 54) rfl rfl rfl ?_
    refine stlw14.trans ?_
    show Steps p.tables e below (Tlw14.setTop (mkF m 57 #[.val (.long p0), .second, .val (.long p1), .second, .val (.long p2), .second, .val (.int p3), .val (.int (1 : Int32)), .val (.ref blw11), .unset, .unset, .unset, .unset, .unset, .unset, .unset, .unset, .unset, .unset, .unset] [(.int (0 : Int32))])) _
    refine own_s_ifNo Xlw14.here hx (hb hby at_57) (pc' := 60) rfl (by decide) ?_
    refine own_s_iconst Xlw14.here hx (hb hby at_60) (pc' := 61) rfl (v := (1 : Int32)) (by decide) ?_
    refine own_s_goto Xlw14.here hx (hb hby at_61) (by decide) (pc' := 65) (by decide) ?_
    refine own_s_istore Xlw14.here hx (hb hby at_65) (pc' := 67) rfl (L' := #[.val (.long p0), .second, .val (.long p1), .second, .val (.long p2), .second, .val (.int p3), .val (.int (1 : Int32)), .val (.ref blw11), .val (.int (1 : Int32)), .unset, .unset, .unset, .unset, .unset, .unset, .unset, .unset, .unset, .unset]) rfl ?_
    refine stlw15 _ ?_
    show Steps p.tables e below (Tlw15.setTop (mkF m 70 #[.val (.long p0), .second, .val (.long p1), .second, .val (.long p2), .second, .val (.int p3), .val (.int (1 : Int32)), .val (.ref blw11), .val (.int (1 : Int32)), .unset, .unset, .unset, .unset, .unset, .unset, .unset, .unset, .unset, .unset] [(.ref blw15)])) _
    refine own_s_dup Xlw15.here hx (hb hby at_70) (pc' := 71) rfl rfl ?_
    refine stlw16.trans ?_
    show Steps p.tables e below (Tlw16.setTop (mkF m 74 #[.val (.long p0), .second, .val (.long p1), .second, .val (.long p2), .second, .val (.int p3), .val (.int (1 : Int32)), .val (.ref blw11), .val (.int (1 : Int32)), .unset, .unset, .unset, .unset, .unset, .unset, .unset, .unset, .unset, .unset] [(.ref blw15)])) _
    refine own_s_astore Xlw16.here hx (hb hby at_74) (pc' := 76) rfl rfl (L' := #[.val (.long p0), .second, .val (.long p1), .second, .val (.long p2), .second, .val (.int p3), .val (.int (1 : Int32)), .val (.ref blw11), .val (.int (1 : Int32)), .val (.ref blw15), .unset, .unset, .unset, .unset, .unset, .unset, .unset, .unset, .unset]) rfl ?_
    refine stlw17 _ ?_
    show Steps p.tables e below (Tlw17.setTop (mkF m 79 #[.val (.long p0), .second, .val (.long p1), .second, .val (.long p2), .second, .val (.int p3), .val (.int (1 : Int32)), .val (.ref blw11), .val (.int (1 : Int32)), .val (.ref blw15), .unset, .unset, .unset, .unset, .unset, .unset, .unset, .unset, .unset] [(.ref blw17)])) _
    refine own_s_dup Xlw17.here hx (hb hby at_79) (pc' := 80) rfl rfl ?_
    refine stlw18.trans ?_
    show Steps p.tables e below (Tlw18.setTop (mkF m 83 #[.val (.long p0), .second, .val (.long p1), .second, .val (.long p2), .second, .val (.int p3), .val (.int (1 : Int32)), .val (.ref blw11), .val (.int (1 : Int32)), .val (.ref blw15), .unset, .unset, .unset, .unset, .unset, .unset, .unset, .unset, .unset] [(.ref blw17)])) _
    refine own_s_astore Xlw18.here hx (hb hby at_83) (pc' := 85) rfl rfl (L' := #[.val (.long p0), .second, .val (.long p1), .second, .val (.long p2), .second, .val (.int p3), .val (.int (1 : Int32)), .val (.ref blw11), .val (.int (1 : Int32)), .val (.ref blw15), .val (.ref blw17), .unset, .unset, .unset, .unset, .unset, .unset, .unset, .unset]) rfl ?_
    refine own_s_aload Xlw18.here hx (hb hby at_85) (pc' := 87) rfl rfl rfl ?_
    refine own_s_aload Xlw18.here hx (hb hby at_87) (pc' := 89) rfl rfl rfl ?_
    refine own_s_aload Xlw18.here hx (hb hby at_89) (pc' := 91) rfl rfl rfl ?_
    refine stlw19.trans ?_
    show Steps p.tables e below (Tlw19.setTop (mkF m 94 #[.val (.long p0), .second, .val (.long p1), .second, .val (.long p2), .second, .val (.int p3), .val (.int (1 : Int32)), .val (.ref blw11), .val (.int (1 : Int32)), .val (.ref blw15), .val (.ref blw17), .unset, .unset, .unset, .unset, .unset, .unset, .unset, .unset] [])) _
    refine own_s_aload Xlw19.here hx (hb hby at_94) (pc' := 96) rfl rfl rfl ?_
    refine stlw110.trans ?_
    show Steps p.tables e below (Tlw110.setTop (mkF m 99 #[.val (.long p0), .second, .val (.long p1), .second, .val (.long p2), .second, .val (.int p3), .val (.int (1 : Int32)), .val (.ref blw11), .val (.int (1 : Int32)), .val (.ref blw15), .val (.ref blw17), .unset, .unset, .unset, .unset, .unset, .unset, .unset, .unset] [(.ref blw110)])) _
    refine own_s_astore Xlw110.here hx (hb hby at_99) (pc' := 101) rfl rfl (L' := #[.val (.long p0), .second, .val (.long p1), .second, .val (.long p2), .second, .val (.int p3), .val (.int (1 : Int32)), .val (.ref blw11), .val (.int (1 : Int32)), .val (.ref blw15), .val (.ref blw17), .val (.ref blw110), .unset, .unset, .unset, .unset, .unset, .unset, .unset]) rfl ?_
    refine own_s_aload Xlw110.here hx (hb hby at_101) (pc' := 103) rfl rfl rfl ?_
    refine stlw111.trans ?_
    show Steps p.tables e below (Tlw111.setTop (mkF m 106 #[.val (.long p0), .second, .val (.long p1), .second, .val (.long p2), .second, .val (.int p3), .val (.int (1 : Int32)), .val (.ref blw11), .val (.int (1 : Int32)), .val (.ref blw15), .val (.ref blw17), .val (.ref blw110), .unset, .unset, .unset, .unset, .unset, .unset, .unset] [(.ref blw111)])) _
    refine own_s_astore Xlw111.here hx (hb hby at_106) (pc' := 108) rfl rfl (L' := #[.val (.long p0), .second, .val (.long p1), .second, .val (.long p2), .second, .val (.int p3), .val (.int (1 : Int32)), .val (.ref blw11), .val (.int (1 : Int32)), .val (.ref blw15), .val (.ref blw17), .val (.ref blw110), .val (.ref blw111), .unset, .unset, .unset, .unset, .unset, .unset]) rfl ?_
    refine own_s_lconst Xlw111.here hx (hb hby at_108) (pc' := 109) rfl (v := (0 : Int64)) (by decide) ?_
    refine own_s_lstore Xlw111.here hx (hb hby at_109) (pc' := 111) rfl (L' := #[.val (.long p0), .second, .val (.long p1), .second, .val (.long p2), .second, .val (.int p3), .val (.int (1 : Int32)), .val (.ref blw11), .val (.int (1 : Int32)), .val (.ref blw15), .val (.ref blw17), .val (.ref blw110), .val (.ref blw111), .val (.long (0 : Int64)), .second, .unset, .unset, .unset, .unset]) rfl ?_
    refine own_s_dconst0 Xlw111.here hx (hb hby at_111) (pc' := 112) rfl  ?_
    refine own_s_dstore Xlw111.here hx (hb hby at_112) (pc' := 114) rfl (L' := #[.val (.long p0), .second, .val (.long p1), .second, .val (.long p2), .second, .val (.int p3), .val (.int (1 : Int32)), .val (.ref blw11), .val (.int (1 : Int32)), .val (.ref blw15), .val (.ref blw17), .val (.ref blw110), .val (.ref blw111), .val (.long (0 : Int64)), .second, .val (.double 0), .second, .unset, .unset]) rfl ?_
    refine own_s_iload Xlw111.here hx (hb hby at_114) (pc' := 116) rfl rfl ?_
    refine own_s_iconst Xlw111.here hx (hb hby at_116) (pc' := 117) rfl (v := (1 : Int32)) (by decide) ?_
    refine own_s_icmpNo Xlw111.here hx (hb hby at_117) (pc' := 120) rfl (by decide) ?_
    refine own_s_lconst Xlw111.here hx (hb hby at_120) (pc' := 121) rfl (v := (0 : Int64)) (by decide) ?_
    refine own_s_lloadN Xlw111.here hx (hb hby at_121) (pc' := 122) rfl rfl ?_
    refine stlw112 _ ?_
    show Steps p.tables e below (Tlw112.setTop (mkF m 125 #[.val (.long p0), .second, .val (.long p1), .second, .val (.long p2), .second, .val (.int p3), .val (.int (1 : Int32)), .val (.ref blw11), .val (.int (1 : Int32)), .val (.ref blw15), .val (.ref blw17), .val (.ref blw110), .val (.ref blw111), .val (.long (0 : Int64)), .second, .val (.double 0), .second, .unset, .unset] [(.long (own_lmax (0 : Int64) p0))])) _
    refine own_s_lstore Xlw112.here hx (hb hby at_125) (pc' := 127) rfl (L' := #[.val (.long p0), .second, .val (.long p1), .second, .val (.long p2), .second, .val (.int p3), .val (.int (1 : Int32)), .val (.ref blw11), .val (.int (1 : Int32)), .val (.ref blw15), .val (.ref blw17), .val (.ref blw110), .val (.ref blw111), .val (.long (0 : Int64)), .second, .val (.double 0), .second, .val (.long (own_lmax (0 : Int64) p0)), .second]) rfl ?_
    refine own_s_lload Xlw112.here hx (hb hby at_127) (pc' := 129) rfl rfl ?_
    refine own_s_lload Xlw112.here hx (hb hby at_129) (pc' := 131) rfl rfl ?_
    refine stlw113 _ ?_
    show Steps p.tables e below (Tlw113.setTop (mkF m 134 #[.val (.long p0), .second, .val (.long p1), .second, .val (.long p2), .second, .val (.int p3), .val (.int (1 : Int32)), .val (.ref blw11), .val (.int (1 : Int32)), .val (.ref blw15), .val (.ref blw17), .val (.ref blw110), .val (.ref blw111), .val (.long (0 : Int64)), .second, .val (.double 0), .second, .val (.long (own_lmax (0 : Int64) p0)), .second] [(.long (own_lmax (0 : Int64) (own_lmax (0 : Int64) p0)))])) _
    refine own_s_lstore Xlw113.here hx (hb hby at_134) (pc' := 136) rfl (L' := #[.val (.long p0), .second, .val (.long p1), .second, .val (.long p2), .second, .val (.int p3), .val (.int (1 : Int32)), .val (.ref blw11), .val (.int (1 : Int32)), .val (.ref blw15), .val (.ref blw17), .val (.ref blw110), .val (.ref blw111), .val (.long (own_lmax (0 : Int64) (own_lmax (0 : Int64) p0))), .second, .val (.double 0), .second, .val (.long (own_lmax (0 : Int64) p0)), .second]) rfl ?_
    refine own_s_dload Xlw113.here hx (hb hby at_136) (pc' := 138) rfl rfl ?_
    refine own_s_lload Xlw113.here hx (hb hby at_138) (pc' := 140) rfl rfl ?_
    refine own_s_l2d Xlw113.here hx (hb hby at_140) (pc' := 141) rfl (v := (FP.l2d (own_lmax (0 : Int64) p0))) rfl ?_
    refine own_s_dadd Xlw113.here hx (hb hby at_141) (pc' := 142) rfl lw1_hn141 (v := lw1_v141) lw1_hv141 ?_
    refine own_s_dstore Xlw113.here hx (hb hby at_142) (pc' := 144) rfl (L' := #[.val (.long p0), .second, .val (.long p1), .second, .val (.long p2), .second, .val (.int p3), .val (.int (1 : Int32)), .val (.ref blw11), .val (.int (1 : Int32)), .val (.ref blw15), .val (.ref blw17), .val (.ref blw110), .val (.ref blw111), .val (.long (own_lmax (0 : Int64) (own_lmax (0 : Int64) p0))), .second, .val (.double lw1_v141), .second, .val (.long (own_lmax (0 : Int64) p0)), .second]) rfl ?_
    refine own_s_iload Xlw113.here hx (hb hby at_144) (pc' := 146) rfl rfl ?_
    refine own_s_iconst Xlw113.here hx (hb hby at_146) (pc' := 147) rfl (v := (2 : Int32)) (by decide) ?_
    refine own_s_icmpYes Xlw113.here hx (hb hby at_147) (by decide) (pc' := 174) (by decide) (by decide) ?_
    refine own_s_iload Xlw113.here hx (hb hby at_174) (pc' := 176) rfl rfl ?_
    refine own_s_iconst Xlw113.here hx (hb hby at_176) (pc' := 177) rfl (v := (3 : Int32)) (by decide) ?_
    refine own_s_icmpYes Xlw113.here hx (hb hby at_177) (by decide) (pc' := 205) (by decide) (by decide) ?_
    refine own_s_iload Xlw113.here hx (hb hby at_205) (pc' := 207) rfl rfl ?_
    refine own_s_ifYes Xlw113.here hx (hb hby at_207) (by decide) (pc' := 214) (by decide) (by decide) ?_
    refine own_s_dload Xlw113.here hx (hb hby at_214) (pc' := 216) rfl rfl ?_
    refine own_s_iload Xlw113.here hx (hb hby at_216) (pc' := 218) rfl rfl ?_
    refine own_s_i2d Xlw113.here hx (hb hby at_218) (pc' := 219) rfl (v := (FP.i2d (1 : Int32))) rfl ?_
    refine own_s_ddiv Xlw113.here hx (hb hby at_219) (pc' := 220) rfl lw1_hn219 (v := lw1_v219) lw1_hv219 ?_
    refine own_s_dstore Xlw113.here hx (hb hby at_220) (pc' := 222) rfl (L' := #[.val (.long p0), .second, .val (.long p1), .second, .val (.long p2), .second, .val (.int p3), .val (.int (1 : Int32)), .val (.ref blw11), .val (.int (1 : Int32)), .val (.ref blw15), .val (.ref blw17), .val (.ref blw110), .val (.ref blw111), .val (.long (own_lmax (0 : Int64) (own_lmax (0 : Int64) p0))), .second, .val (.double lw1_v141), .second, .val (.double lw1_v219), .second]) rfl ?_
    refine own_s_iload Xlw113.here hx (hb hby at_222) (pc' := 224) rfl rfl ?_
    refine own_s_ifNo Xlw113.here hx (hb hby at_224) (pc' := 227) rfl (by decide) ?_
    refine own_s_aload Xlw113.here hx (hb hby at_227) (pc' := 229) rfl rfl rfl ?_
    refine stlw114.trans ?_
    show Steps p.tables e below (Tlw114.setTop (mkF m 232 #[.val (.long p0), .second, .val (.long p1), .second, .val (.long p2), .second, .val (.int p3), .val (.int (1 : Int32)), .val (.ref blw11), .val (.int (1 : Int32)), .val (.ref blw15), .val (.ref blw17), .val (.ref blw110), .val (.ref blw111), .val (.long (own_lmax (0 : Int64) (own_lmax (0 : Int64) p0))), .second, .val (.double lw1_v141), .second, .val (.double lw1_v219), .second] [(.long (0 + 1))])) _
    refine own_s_iload Xlw114.here hx (hb hby at_232) (pc' := 234) rfl rfl ?_
    refine own_s_i2l Xlw114.here hx (hb hby at_234) (pc' := 235) rfl (v := (1 : Int64)) (by decide) ?_
    refine own_s_lcmp Xlw114.here hx (hb hby at_235) (pc' := 236) rfl (v := (0 : Int32)) lw1_hc235 ?_
    refine own_s_ifNo Xlw114.here hx (hb hby at_236) (pc' := 239) rfl (by decide) ?_
    refine own_s_aload Xlw114.here hx (hb hby at_239) (pc' := 241) rfl rfl rfl ?_
    refine stlw115.trans ?_
    show Steps p.tables e below (Tlw115.setTop (mkF m 244 #[.val (.long p0), .second, .val (.long p1), .second, .val (.long p2), .second, .val (.int p3), .val (.int (1 : Int32)), .val (.ref blw11), .val (.int (1 : Int32)), .val (.ref blw15), .val (.ref blw17), .val (.ref blw110), .val (.ref blw111), .val (.long (own_lmax (0 : Int64) (own_lmax (0 : Int64) p0))), .second, .val (.double lw1_v141), .second, .val (.double lw1_v219), .second] [(.long (own_lmax 0 (own_lmax (0 : Int64) p0)))])) _
    refine own_s_lload Xlw115.here hx (hb hby at_244) (pc' := 246) rfl rfl ?_
    refine own_s_lcmp Xlw115.here hx (hb hby at_246) (pc' := 247) rfl (v := (0 : Int32)) lw1_hc246 ?_
    refine own_s_ifNo Xlw115.here hx (hb hby at_247) (pc' := 250) rfl (by decide) ?_
    refine own_s_aload Xlw115.here hx (hb hby at_250) (pc' := 252) rfl rfl rfl ?_
    refine stlw116.trans ?_
    show Steps p.tables e below (Tlw116.setTop (mkF m 255 #[.val (.long p0), .second, .val (.long p1), .second, .val (.long p2), .second, .val (.int p3), .val (.int (1 : Int32)), .val (.ref blw11), .val (.int (1 : Int32)), .val (.ref blw15), .val (.ref blw17), .val (.ref blw110), .val (.ref blw111), .val (.long (own_lmax (0 : Int64) (own_lmax (0 : Int64) p0))), .second, .val (.double lw1_v141), .second, .val (.double lw1_v219), .second] [(.double (FP.ddiv (FP.dadd 0 (FP.l2d (own_lmax (0 : Int64) p0))) (FP.l2d (0 + 1))))])) _
    refine own_s_dload Xlw116.here hx (hb hby at_255) (pc' := 257) rfl rfl ?_
    refine own_s_dcmp Xlw116.here hx (hb hby at_257) (pc' := 258) rfl (v := (0 : Int32)) lw1_hc257 ?_
    refine own_s_ifNo Xlw116.here hx (hb hby at_258) (pc' := 261) rfl (by decide) ?_
    refine own_s_aload Xlw116.here hx (hb hby at_261) (pc' := 263) rfl rfl rfl ?_
    refine stlw117.trans ?_
    show Steps p.tables e below (Tlw117.setTop (mkF m 266 #[.val (.long p0), .second, .val (.long p1), .second, .val (.long p2), .second, .val (.int p3), .val (.int (1 : Int32)), .val (.ref blw11), .val (.int (1 : Int32)), .val (.ref blw15), .val (.ref blw17), .val (.ref blw110), .val (.ref blw111), .val (.long (own_lmax (0 : Int64) (own_lmax (0 : Int64) p0))), .second, .val (.double lw1_v141), .second, .val (.double lw1_v219), .second] [(.long (0 : Int64))])) _
    refine own_s_lconst Xlw117.here hx (hb hby at_266) (pc' := 267) rfl (v := (0 : Int64)) (by decide) ?_
    refine own_s_lcmp Xlw117.here hx (hb hby at_267) (pc' := 268) rfl (v := (0 : Int32)) lw1_hc267 ?_
    refine own_s_ifNo Xlw117.here hx (hb hby at_268) (pc' := 271) rfl (by decide) ?_
    refine own_s_iconst Xlw117.here hx (hb hby at_271) (pc' := 272) rfl (v := (1 : Int32)) (by decide) ?_
    refine own_s_goto Xlw117.here hx (hb hby at_272) (by decide) (pc' := 276) (by decide) ?_
    exact retN Xlw117 hx (t := .boolean) Bd.returns (by simp) (hb hby at_276) hr
  · show own_Q0 n0 _ Tlw117.heap _
    rw [elw117]
    exact ⟨rfl, Nlw117⟩
theorem own_il1 : FP.l2d (0 + 1) = FP.i2d (1 : Int32) := by decide +kernel
theorem own_ef_lw2 (m : MethodId) (p0 : Int64) (p1 : Int64) (p2 : Int64) (p3 : Int32) : entryFrame m #[(.long p0), (.long p1), (.long p2), (.int p3)] maxLocals = mkF m 0 #[.val (.long p0), .second, .val (.long p1), .second, .val (.long p2), .second, .val (.int p3), .unset, .unset, .unset, .unset, .unset, .unset, .unset, .unset, .unset, .unset, .unset, .unset, .unset] [] := by first | (simp [entryFrame, mkF, argsToLocals, Value.category, maxLocals]; done) | rfl
set_option maxRecDepth 65536 in
set_option maxHeartbeats 40000000 in
theorem own_rm_lw2 (l : Launch) (Z : State) (a0 : Array Value) (hw : ∀ d ∈ tables_1, d.before a0 Z = true) (ws : List Jvm.Cond) (p0 : Int64) (p1 : Int64) (p2 : Int64) (p3 : Int32) {lw2_v141 : UInt64} {lw2_v171 : UInt64} {lw2_v219 : UInt64} (h0 : Heap) (n0 : Nat) (Z0 : n0 ≤ h0.size)  (lw2_hv3 : p3 &&& (3 : Int32) = (2 : Int32)) (lw2_c24_addwait0_hle16 : 0 < (List.replicate 64 (Value.long 0)).length) (lw2_c36_addwait1_hle16 : 1 < ((List.replicate 64 (Value.long 0)).set 0 (.long p0)).length) (lw2_hn141 : Jvm.Free.Fl.NoNaN64 (FP.dadd 0 (FP.l2d (own_lmax (0 : Int64) p0)))) (lw2_hv141 : FP.dadd 0 (FP.l2d (own_lmax (0 : Int64) p0)) = lw2_v141) (lw2_hn171 : Jvm.Free.Fl.NoNaN64 (FP.dadd lw2_v141 (FP.l2d (own_lmax (0 : Int64) p1)))) (lw2_hv171 : FP.dadd lw2_v141 (FP.l2d (own_lmax (0 : Int64) p1)) = lw2_v171) (lw2_hn219 : Jvm.Free.Fl.NoNaN64 (FP.ddiv lw2_v171 (FP.i2d (2 : Int32)))) (lw2_hv219 : FP.ddiv lw2_v171 (FP.i2d (2 : Int32)) = lw2_v219) (lw2_hc235 : lcmpW ((0 + 1) + 1) (2 : Int64) = (0 : Int32)) (lw2_hc246 : lcmpW (own_lmax (own_lmax 0 (own_lmax (0 : Int64) p0)) (own_lmax (0 : Int64) p1)) (own_lmax (own_lmax (0 : Int64) (own_lmax (0 : Int64) p0)) (own_lmax (0 : Int64) p1)) = (0 : Int32)) (lw2_hc257 : Op.cmpValue (FP.dcmp (FP.ddiv (FP.dadd (FP.dadd 0 (FP.l2d (own_lmax (0 : Int64) p0))) (FP.l2d (own_lmax (0 : Int64) p1))) (FP.l2d ((0 + 1) + 1))) lw2_v219) .l = (0 : Int32)) (lw2_hc267 : lcmpW (0 : Int64) (0 : Int64) = (0 : Int32)) :
    MetFree l x (head1 (Jvm.Cond.code x code maxLocals ret :: ws) room_1) (fun a U => a = #[(.long p0), (.long p1), (.long p2), (.int p3)] ∧ Z.Warmed39 U.vm ∧ U.heap = h0) (fun _ _ _ _ _ => True) (fun _ U o U' => ∃ v L, o = .returned v ∧ own_Q0 n0 v U'.heap L ∧ FrameEnd U o U' L room_1.cells room_1.slots) := by
  refine MetFree.of_bodySF (plainFor_of_name own_pn_millrace_TimingBufferAddWaitPinLaw) hisR ?_
  intro p e s m args below meth c s₁ Bd hml0 hP hK
  obtain ⟨rfl, hZ, hh⟩ := hP
  have hx := Bd.exec
  have hby := Bd.bytes
  have hml : c.maxLocals = 20 := hml0
  have hown : s.vm.findClass "millrace/TimingBufferAddWaitPinLaw" = some m.cls := findClass_of_methodNamed Bd.named
  have hnm := (name_of_methodNamed Bd.named Bd.method).1
  have X0 : Stand p l e room_1 s m #[(.long p0), (.long p1), (.long p2), (.int p3)] below meth c s₁ [] 0 0 := Stand.of_body Bd
  have e0 : s₁.heap = h0 := by rw [← hh, Bd.state]; rfl
  have N0 := Fr.nil n0
  have pre0 : ∀ t, Steps p.tables e below (s₁.setTop (mkF m 0 #[.val (.long p0), .second, .val (.long p1), .second, .val (.long p2), .second, .val (.int p3), .unset, .unset, .unset, .unset, .unset, .unset, .unset, .unset, .unset, .unset, .unset, .unset, .unset] [])) t → Steps p.tables e below (s₁.setTop (entryFrame m #[(.long p0), (.long p1), (.long p2), (.int p3)] maxLocals)) t := fun t k => castTop (own_ef_lw2 m p0 p1 p2 p3) k
  obtain ⟨Tlw21, hlw21, Xlw21, elw21, Elw21, Alw21, Dlw21, UTlw21, stlw21⟩ := newO X0 hx hZ hown (hw _ (List.mem_of_getElem? (i := 0) rfl)) (hw _ (List.mem_of_getElem? (i := 1) rfl)) (hw _ (List.mem_of_getElem? (i := 2) rfl)) e0 (g := (mkF m 6 #[.val (.long p0), .second, .val (.long p1), .second, .val (.long p2), .second, .val (.int p3), .val (.int (2 : Int32)), .unset, .unset, .unset, .unset, .unset, .unset, .unset, .unset, .unset, .unset, .unset, .unset] [])) rfl (hb hby at_6) (by decide) (by decide)
  obtain ⟨blw21, Glw21⟩ : ∃ z, z = h0.size := ⟨_, rfl⟩
  rw [← Glw21] at Alw21 Dlw21 UTlw21 stlw21
  have g_blw21 : n0 ≤ blw21 := Nat.le_trans Z0 (Nat.le_of_eq Glw21.symm)
  have sz_blw21 : h0.size ≤ blw21 := Nat.le_trans (Keep.refl h0 []).1 (Nat.le_of_eq Glw21.symm)
  have Zlw21 : n0 ≤ hlw21.size := Nat.le_trans Z0 Elw21.1
  have KKlw21 := (Keep.refl h0 []).ext Elw21
  have F_waits_blw21 : Fld Z hlw21 blw21 "millrace/TimingBuffer" "waits" "[J" .null := Dlw21 (Or.inr (hw _ (List.mem_of_getElem? (i := 11) rfl))) (ty := (.array .long)) (by decide)
  have F_runs_blw21 : Fld Z hlw21 blw21 "millrace/TimingBuffer" "runs" "[J" .null := Dlw21 (Or.inr (hw _ (List.mem_of_getElem? (i := 13) rfl))) (ty := (.array .long)) (by decide)
  have F_waitCount_blw21 : Fld Z hlw21 blw21 "millrace/TimingBuffer" "waitCount" "I" (.int (0 : Int32)) := Dlw21 (Or.inl (hw _ (List.mem_of_getElem? (i := 20) rfl))) (ty := .int) (by decide)
  have F_runCount_blw21 : Fld Z hlw21 blw21 "millrace/TimingBuffer" "runCount" "I" (.int (0 : Int32)) := Dlw21 (Or.inl (hw _ (List.mem_of_getElem? (i := 27) rfl))) (ty := .int) (by decide)
  obtain ⟨_, _, ⟨Tlw22, Llw22, klw22, nlw22⟩, -, Xlw22, ⟨Lclw22, hQlw22, llw22, ylw22, zlw22⟩, stlw22⟩ := Xlw21.specialBack hx (y := (⟨"millrace/TimingBuffer", "<init>", "()V"⟩ : MethodName)) rfl hown (mvT hZ (hw _ (List.mem_of_getElem? (i := 3) rfl))) (mvT hZ (hw _ (List.mem_of_getElem? (i := 4) rfl))) (mvT hZ (hw _ (List.mem_of_getElem? (i := 5) rfl))) (by decide) (backOf (W := 1) (own_rm_tbi l Z a0 hw [] blw21 hlw21 n0 Zlw21 Alw21 F_waits_blw21 F_waitCount_blw21 F_runs_blw21 F_runCount_blw21 g_blw21) hZ (hw _ (List.mem_of_getElem? (i := 5) rfl)) (hw _ (List.mem_of_getElem? (i := 2) rfl)) (by decide) (by decide)) (g := (mkF m 10 #[.val (.long p0), .second, .val (.long p1), .second, .val (.long p2), .second, .val (.int p3), .val (.int (2 : Int32)), .unset, .unset, .unset, .unset, .unset, .unset, .unset, .unset, .unset, .unset, .unset, .unset] [(.ref blw21), (.ref blw21)])) rfl (by rw [hml]; rfl) (Steps.refl _) (a := blw21) (argsL := []) (rest := [(.ref blw21)]) (lenOf own_pd_2829V rfl) rfl (by show 2 * 0 + _ ≤ _; exact Nat.le_of_eq rfl) (hb hby at_10) (fun _ _ => ⟨rfl, elw21, (by decide : 1 + 2 ≤ _), (by decide : 4 + 128 ≤ _)⟩)
  dsimp only [Pt.U, Pt.locs, Pt.cells, Pt.slots] at Xlw22 llw22 ylw22 zlw22 stlw22 hQlw22
  rw [llw22, ylw22, zlw22] at Xlw22
  obtain ⟨blw22_1, klw22_1, blw22_0, klw22_0, rfl, Nlw22q, Klw22, qlw22_0, qlw22_1, qlw22_2, qlw22_3, qlw22_4, Glw22_0, Vlw22_0, Glw22_1, Vlw22_1, ne_blw22_0_blw22_1⟩ := hQlw22
  have ne_blw22_1_blw22_0 : blw22_1 ≠ blw22_0 := Ne.symm ne_blw22_0_blw22_1
  have ne_blw21_blw22_0 : blw21 ≠ blw22_0 := Nat.ne_of_lt (Nat.lt_of_lt_of_le Alw21.lt Glw22_0)
  have ne_blw22_0_blw21 : blw22_0 ≠ blw21 := Ne.symm ne_blw21_blw22_0
  have g_blw22_0 : n0 ≤ blw22_0 := Nat.le_trans Zlw21 Glw22_0
  have sz_blw22_0 : h0.size ≤ blw22_0 := Nat.le_trans KKlw21.1 Glw22_0
  have ne_blw21_blw22_1 : blw21 ≠ blw22_1 := Nat.ne_of_lt (Nat.lt_of_lt_of_le Alw21.lt Glw22_1)
  have ne_blw22_1_blw21 : blw22_1 ≠ blw21 := Ne.symm ne_blw21_blw22_1
  have g_blw22_1 : n0 ≤ blw22_1 := Nat.le_trans Zlw21 Glw22_1
  have sz_blw22_1 : h0.size ≤ blw22_1 := Nat.le_trans KKlw21.1 Glw22_1
  have Zlw22 : n0 ≤ Tlw22.heap.size := Nat.le_trans Zlw21 Klw22.1
  have KKlw22 := KKlw21.trans Klw22 (fun q hq => by simp only [List.mem_cons, List.not_mem_nil, or_false] at hq; rcases hq with rfl; exact Or.inr sz_blw21)
  have Nlw22 := Fr.app N0 Nlw22q
  obtain ⟨cqlw23, kqlw23, qlw23a, qlw23b, qlw23c⟩ := isOf hZ rfl qlw22_0
  obtain ⟨_, _, ⟨Tlw23, Llw23, klw23, nlw23⟩, -, Xlw23, ⟨Lclw23, hQlw23, llw23, ylw23, zlw23⟩, stlw23⟩ := Xlw22.virtualBack hx (y := (⟨"millrace/TimingBuffer", "addWait", "(J)V"⟩ : MethodName)) (z := (⟨"millrace/TimingBuffer", "addWait", "(J)V"⟩ : MethodName)) hown (mvT hZ (hw _ (List.mem_of_getElem? (i := 14) rfl))) (mvT hZ (hw _ (List.mem_of_getElem? (i := 15) rfl))) (notFace_of_selects (args := #[]) (mvT hZ (hw _ (List.mem_of_getElem? (i := 17) rfl)))) (mvT hZ (hw _ (List.mem_of_getElem? (i := 17) rfl))) (mvT hZ (hw _ (List.mem_of_getElem? (i := 16) rfl))) (by decide) (backOf (W := 0) (own_rm_addwait0 l Z a0 hw [] blw21 blw22_0 blw22_1 p0 (List.replicate 64 (Value.long 0)) Tlw22.heap n0 Zlw22 qlw22_0 qlw22_1 qlw22_2 qlw22_3 qlw22_4 Vlw22_0 ne_blw21_blw22_0 g_blw21 g_blw22_0 lw2_c24_addwait0_hle16) hZ (hw _ (List.mem_of_getElem? (i := 18) rfl)) (hw _ (List.mem_of_getElem? (i := 2) rfl)) (by decide) (by decide)) qlw23a qlw23c (g := (mkF m 24 #[.val (.long p0), .second, .val (.long p1), .second, .val (.long p2), .second, .val (.int p3), .val (.int (2 : Int32)), .val (.ref blw21), .unset, .unset, .unset, .unset, .unset, .unset, .unset, .unset, .unset, .unset, .unset] [(.long p0), (.ref blw21)])) rfl (by rw [hml]; rfl) (Steps.refl _) (argsL := [(.long p0)]) (rest := []) (lenOf own_pd_28J29V rfl) rfl (by show 2 * 0 + _ ≤ _; exact Nat.le_of_eq rfl) (hb hby at_24) (fun _ _ => ⟨rfl, rfl, (by decide : 3 + 0 ≤ _), (by decide : 132 + 0 ≤ _)⟩)
  dsimp only [Pt.U, Pt.locs, Pt.cells, Pt.slots] at Xlw23 llw23 ylw23 zlw23 stlw23 hQlw23
  rw [llw23, ylw23, zlw23] at Xlw23
  obtain ⟨rfl, Nlw23q, Klw23, qlw23_0, qlw23_1, qlw23_2, qlw23_3, qlw23_4, qlw23_5⟩ := hQlw23
  have V_blw22_1_lw23 := Vlw22_1.keep Klw23 (by simp only [List.mem_cons, List.not_mem_nil, or_false, not_or]; exact ⟨ne_blw22_1_blw21, ne_blw22_1_blw22_0⟩)
  have Zlw23 : n0 ≤ Tlw23.heap.size := Nat.le_trans Zlw22 Klw23.1
  have KKlw23 := KKlw22.trans Klw23 (fun q hq => by simp only [List.mem_cons, List.not_mem_nil, or_false] at hq; rcases hq with rfl | rfl <;> first | exact Or.inr sz_blw21 | exact Or.inr sz_blw22_0)
  have Nlw23 := Fr.app Nlw22 Nlw23q
  obtain ⟨cqlw24, kqlw24, qlw24a, qlw24b, qlw24c⟩ := isOf hZ rfl qlw23_0
  obtain ⟨_, _, ⟨Tlw24, Llw24, klw24, nlw24⟩, -, Xlw24, ⟨Lclw24, hQlw24, llw24, ylw24, zlw24⟩, stlw24⟩ := Xlw23.virtualBack hx (y := (⟨"millrace/TimingBuffer", "addWait", "(J)V"⟩ : MethodName)) (z := (⟨"millrace/TimingBuffer", "addWait", "(J)V"⟩ : MethodName)) hown (mvT hZ (hw _ (List.mem_of_getElem? (i := 14) rfl))) (mvT hZ (hw _ (List.mem_of_getElem? (i := 15) rfl))) (notFace_of_selects (args := #[]) (mvT hZ (hw _ (List.mem_of_getElem? (i := 17) rfl)))) (mvT hZ (hw _ (List.mem_of_getElem? (i := 17) rfl))) (mvT hZ (hw _ (List.mem_of_getElem? (i := 16) rfl))) (by decide) (backOf (W := 0) (own_rm_addwait1 l Z a0 hw [] blw21 blw22_0 blw22_1 p1 ((List.replicate 64 (Value.long 0)).set 0 (.long p0)) Tlw23.heap n0 Zlw23 qlw23_0 qlw23_1 qlw23_2 qlw23_3 qlw23_4 qlw23_5 ne_blw21_blw22_0 g_blw21 g_blw22_0 lw2_c36_addwait1_hle16) hZ (hw _ (List.mem_of_getElem? (i := 18) rfl)) (hw _ (List.mem_of_getElem? (i := 2) rfl)) (by decide) (by decide)) qlw24a qlw24c (g := (mkF m 36 #[.val (.long p0), .second, .val (.long p1), .second, .val (.long p2), .second, .val (.int p3), .val (.int (2 : Int32)), .val (.ref blw21), .unset, .unset, .unset, .unset, .unset, .unset, .unset, .unset, .unset, .unset, .unset] [(.long p1), (.ref blw21)])) rfl (by rw [hml]; rfl) (Steps.refl _) (argsL := [(.long p1)]) (rest := []) (lenOf own_pd_28J29V rfl) rfl (by show 2 * 0 + _ ≤ _; exact Nat.le_of_eq rfl) (hb hby at_36) (fun _ _ => ⟨rfl, rfl, (by decide : 3 + 0 ≤ _), (by decide : 132 + 0 ≤ _)⟩)
  dsimp only [Pt.U, Pt.locs, Pt.cells, Pt.slots] at Xlw24 llw24 ylw24 zlw24 stlw24 hQlw24
  rw [llw24, ylw24, zlw24] at Xlw24
  obtain ⟨rfl, Nlw24q, Klw24, qlw24_0, qlw24_1, qlw24_2, qlw24_3, qlw24_4, qlw24_5⟩ := hQlw24
  have V_blw22_1_lw24 := V_blw22_1_lw23.keep Klw24 (by simp only [List.mem_cons, List.not_mem_nil, or_false, not_or]; exact ⟨ne_blw22_1_blw21, ne_blw22_1_blw22_0⟩)
  have Zlw24 : n0 ≤ Tlw24.heap.size := Nat.le_trans Zlw23 Klw24.1
  have KKlw24 := KKlw23.trans Klw24 (fun q hq => by simp only [List.mem_cons, List.not_mem_nil, or_false] at hq; rcases hq with rfl | rfl <;> first | exact Or.inr sz_blw21 | exact Or.inr sz_blw22_0)
  have Nlw24 := Fr.app Nlw23 Nlw24q
  obtain ⟨cqlw25, kqlw25, qlw25a, qlw25b, qlw25c⟩ := isOf hZ rfl qlw24_0
  obtain ⟨_, _, ⟨Tlw25, Llw25, klw25, nlw25⟩, -, Xlw25, ⟨Lclw25, hQlw25, llw25, ylw25, zlw25⟩, stlw25⟩ := Xlw24.virtualBack hx (y := (⟨"millrace/TimingBuffer", "full", "()Z"⟩ : MethodName)) (z := (⟨"millrace/TimingBuffer", "full", "()Z"⟩ : MethodName)) hown (mvT hZ (hw _ (List.mem_of_getElem? (i := 21) rfl))) (mvT hZ (hw _ (List.mem_of_getElem? (i := 22) rfl))) (notFace_of_selects (args := #[]) (mvT hZ (hw _ (List.mem_of_getElem? (i := 24) rfl)))) (mvT hZ (hw _ (List.mem_of_getElem? (i := 24) rfl))) (mvT hZ (hw _ (List.mem_of_getElem? (i := 23) rfl))) (by decide) (backOf (W := 0) (own_rm_full20 l Z a0 hw [] blw21 Tlw24.heap n0 Zlw24 qlw24_0 qlw24_2 qlw24_4) hZ (hw _ (List.mem_of_getElem? (i := 25) rfl)) (hw _ (List.mem_of_getElem? (i := 2) rfl)) (by decide) (by decide)) qlw25a qlw25c (g := (mkF m 54 #[.val (.long p0), .second, .val (.long p1), .second, .val (.long p2), .second, .val (.int p3), .val (.int (2 : Int32)), .val (.ref blw21), .unset, .unset, .unset, .unset, .unset, .unset, .unset, .unset, .unset, .unset, .unset] [(.ref blw21)])) rfl (by rw [hml]; rfl) (Steps.refl _) (argsL := []) (rest := []) (lenOf own_pd_2829Z rfl) rfl (by show 2 * 0 + _ ≤ _; exact Nat.le_of_eq rfl) (hb hby at_54) (fun _ _ => ⟨rfl, rfl, (by decide : 3 + 0 ≤ _), (by decide : 132 + 0 ≤ _)⟩)
  dsimp only [Pt.U, Pt.locs, Pt.cells, Pt.slots] at Xlw25 llw25 ylw25 zlw25 stlw25 hQlw25
  rw [llw25, ylw25, zlw25] at Xlw25
  obtain ⟨rfl, Nlw25q, elw25⟩ := hQlw25
  have Nlw25 := Fr.app Nlw24 Nlw25q
  obtain ⟨Tlw26, hlw26, Xlw26, elw26, Elw26, Alw26, Dlw26, UTlw26, stlw26⟩ := newO Xlw25 hx hZ hown (hw _ (List.mem_of_getElem? (i := 28) rfl)) (hw _ (List.mem_of_getElem? (i := 29) rfl)) (hw _ (List.mem_of_getElem? (i := 30) rfl)) elw25 (g := (mkF m 67 #[.val (.long p0), .second, .val (.long p1), .second, .val (.long p2), .second, .val (.int p3), .val (.int (2 : Int32)), .val (.ref blw21), .val (.int (1 : Int32)), .unset, .unset, .unset, .unset, .unset, .unset, .unset, .unset, .unset, .unset] [])) rfl (hb hby at_67) (by decide) (by decide)
  obtain ⟨blw26, Glw26⟩ : ∃ z, z = Tlw24.heap.size := ⟨_, rfl⟩
  rw [← Glw26] at Alw26 Dlw26 UTlw26 stlw26
  have ne_blw22_0_blw26 : blw22_0 ≠ blw26 := Nat.ne_of_lt (Nat.lt_of_lt_of_le qlw24_5.lt (Nat.le_of_eq Glw26.symm))
  have ne_blw26_blw22_0 : blw26 ≠ blw22_0 := Ne.symm ne_blw22_0_blw26
  have ne_blw22_1_blw26 : blw22_1 ≠ blw26 := Nat.ne_of_lt (Nat.lt_of_lt_of_le V_blw22_1_lw24.lt (Nat.le_of_eq Glw26.symm))
  have ne_blw26_blw22_1 : blw26 ≠ blw22_1 := Ne.symm ne_blw22_1_blw26
  have ne_blw21_blw26 : blw21 ≠ blw26 := Nat.ne_of_lt (Nat.lt_of_lt_of_le qlw24_0.lt (Nat.le_of_eq Glw26.symm))
  have ne_blw26_blw21 : blw26 ≠ blw21 := Ne.symm ne_blw21_blw26
  have g_blw26 : n0 ≤ blw26 := Nat.le_trans Zlw24 (Nat.le_of_eq Glw26.symm)
  have sz_blw26 : h0.size ≤ blw26 := Nat.le_trans KKlw24.1 (Nat.le_of_eq Glw26.symm)
  have V_blw22_0_lw26 := qlw24_5.ext Elw26
  have V_blw22_1_lw26 := V_blw22_1_lw24.ext Elw26
  have E_blw21_lw26 := qlw24_0.ext Elw26
  have F_waits_blw21_lw26 := qlw24_1.ext Elw26
  have F_runs_blw21_lw26 := qlw24_3.ext Elw26
  have F_waitCount_blw21_lw26 := qlw24_2.ext Elw26
  have F_runCount_blw21_lw26 := qlw24_4.ext Elw26
  have Zlw26 : n0 ≤ hlw26.size := Nat.le_trans Zlw24 Elw26.1
  have KKlw26 := KKlw24.ext Elw26
  have F_ranges_blw26 : Fld Z hlw26 blw26 "millrace/DurationHistogram" "ranges" "[[J" .null := Dlw26 (Or.inr (hw _ (List.mem_of_getElem? (i := 38) rfl))) (ty := (.array (.array .long))) (by decide)
  have F_count_blw26 : Fld Z hlw26 blw26 "millrace/DurationHistogram" "count" "J" (.long (0 : Int64)) := Dlw26 (Or.inl (hw _ (List.mem_of_getElem? (i := 74) rfl))) (ty := .long) (by decide)
  have F_sum_blw26 : Fld Z hlw26 blw26 "millrace/DurationHistogram" "sum" "D" (.double 0) := Dlw26 (Or.inl (hw _ (List.mem_of_getElem? (i := 76) rfl))) (ty := .double) (by decide)
  have F_max_blw26 : Fld Z hlw26 blw26 "millrace/DurationHistogram" "max" "J" (.long (0 : Int64)) := Dlw26 (Or.inl (hw _ (List.mem_of_getElem? (i := 78) rfl))) (ty := .long) (by decide)
  obtain ⟨_, _, ⟨Tlw27, Llw27, klw27, nlw27⟩, -, Xlw27, ⟨Lclw27, hQlw27, llw27, ylw27, zlw27⟩, stlw27⟩ := Xlw26.specialBack hx (y := (⟨"millrace/DurationHistogram", "<init>", "()V"⟩ : MethodName)) rfl hown (mvT hZ (hw _ (List.mem_of_getElem? (i := 31) rfl))) (mvT hZ (hw _ (List.mem_of_getElem? (i := 32) rfl))) (mvT hZ (hw _ (List.mem_of_getElem? (i := 33) rfl))) (by decide) (backOf (W := 1) (own_rm_dhi l Z a0 hw [] blw26 hlw26 n0 Zlw26 Alw26 UTlw26 F_ranges_blw26 F_count_blw26 F_sum_blw26 F_max_blw26 g_blw26) hZ (hw _ (List.mem_of_getElem? (i := 33) rfl)) (hw _ (List.mem_of_getElem? (i := 30) rfl)) (by decide) (by decide)) (g := (mkF m 71 #[.val (.long p0), .second, .val (.long p1), .second, .val (.long p2), .second, .val (.int p3), .val (.int (2 : Int32)), .val (.ref blw21), .val (.int (1 : Int32)), .unset, .unset, .unset, .unset, .unset, .unset, .unset, .unset, .unset, .unset] [(.ref blw26), (.ref blw26)])) rfl (by rw [hml]; rfl) (Steps.refl _) (a := blw26) (argsL := []) (rest := [(.ref blw26)]) (lenOf own_pd_2829V rfl) rfl (by show 2 * 0 + _ ≤ _; exact Nat.le_of_eq rfl) (hb hby at_71) (fun _ _ => ⟨rfl, elw26, (by decide : 4 + 1 ≤ _), (by decide : 136 + 57 ≤ _)⟩)
  dsimp only [Pt.U, Pt.locs, Pt.cells, Pt.slots] at Xlw27 llw27 ylw27 zlw27 stlw27 hQlw27
  rw [llw27, ylw27, zlw27] at Xlw27
  obtain ⟨blw27_0, klw27_0, rfl, Nlw27q, Klw27, qlw27_0, qlw27_1, qlw27_2, qlw27_3, qlw27_4, qlw27_5, Glw27_0, Vlw27_0, Olw27_0⟩ := hQlw27
  have ne_blw22_0_blw27_0 : blw22_0 ≠ blw27_0 := Nat.ne_of_lt (Nat.lt_of_lt_of_le V_blw22_0_lw26.lt Glw27_0)
  have ne_blw27_0_blw22_0 : blw27_0 ≠ blw22_0 := Ne.symm ne_blw22_0_blw27_0
  have ne_blw22_1_blw27_0 : blw22_1 ≠ blw27_0 := Nat.ne_of_lt (Nat.lt_of_lt_of_le V_blw22_1_lw26.lt Glw27_0)
  have ne_blw27_0_blw22_1 : blw27_0 ≠ blw22_1 := Ne.symm ne_blw22_1_blw27_0
  have ne_blw21_blw27_0 : blw21 ≠ blw27_0 := Nat.ne_of_lt (Nat.lt_of_lt_of_le E_blw21_lw26.lt Glw27_0)
  have ne_blw27_0_blw21 : blw27_0 ≠ blw21 := Ne.symm ne_blw21_blw27_0
  have ne_blw26_blw27_0 : blw26 ≠ blw27_0 := Nat.ne_of_lt (Nat.lt_of_lt_of_le Alw26.lt Glw27_0)
  have ne_blw27_0_blw26 : blw27_0 ≠ blw26 := Ne.symm ne_blw26_blw27_0
  have g_blw27_0 : n0 ≤ blw27_0 := Nat.le_trans Zlw26 Glw27_0
  have sz_blw27_0 : h0.size ≤ blw27_0 := Nat.le_trans KKlw26.1 Glw27_0
  have V_blw22_0_lw27 := V_blw22_0_lw26.keep Klw27 (by simp only [List.mem_cons, List.not_mem_nil, or_false, not_or]; exact ne_blw22_0_blw26)
  have V_blw22_1_lw27 := V_blw22_1_lw26.keep Klw27 (by simp only [List.mem_cons, List.not_mem_nil, or_false, not_or]; exact ne_blw22_1_blw26)
  have E_blw21_lw27 := E_blw21_lw26.keep Klw27
  have F_waits_blw21_lw27 := F_waits_blw21_lw26.keep Klw27 (by simp only [List.mem_cons, List.not_mem_nil, or_false, not_or]; exact ne_blw21_blw26)
  have F_runs_blw21_lw27 := F_runs_blw21_lw26.keep Klw27 (by simp only [List.mem_cons, List.not_mem_nil, or_false, not_or]; exact ne_blw21_blw26)
  have F_waitCount_blw21_lw27 := F_waitCount_blw21_lw26.keep Klw27 (by simp only [List.mem_cons, List.not_mem_nil, or_false, not_or]; exact ne_blw21_blw26)
  have F_runCount_blw21_lw27 := F_runCount_blw21_lw26.keep Klw27 (by simp only [List.mem_cons, List.not_mem_nil, or_false, not_or]; exact ne_blw21_blw26)
  have Zlw27 : n0 ≤ Tlw27.heap.size := Nat.le_trans Zlw26 Klw27.1
  have KKlw27 := KKlw26.trans Klw27 (fun q hq => by simp only [List.mem_cons, List.not_mem_nil, or_false] at hq; rcases hq with rfl; exact Or.inr sz_blw26)
  have Nlw27 := Fr.app Nlw25 Nlw27q
  obtain ⟨Tlw28, hlw28, Xlw28, elw28, Elw28, Alw28, Dlw28, UTlw28, stlw28⟩ := newO Xlw27 hx hZ hown (hw _ (List.mem_of_getElem? (i := 28) rfl)) (hw _ (List.mem_of_getElem? (i := 29) rfl)) (hw _ (List.mem_of_getElem? (i := 30) rfl)) rfl (g := (mkF m 76 #[.val (.long p0), .second, .val (.long p1), .second, .val (.long p2), .second, .val (.int p3), .val (.int (2 : Int32)), .val (.ref blw21), .val (.int (1 : Int32)), .val (.ref blw26), .unset, .unset, .unset, .unset, .unset, .unset, .unset, .unset, .unset] [])) rfl (hb hby at_76) (by decide) (by decide)
  obtain ⟨blw28, Glw28⟩ : ∃ z, z = Tlw27.heap.size := ⟨_, rfl⟩
  rw [← Glw28] at Alw28 Dlw28 UTlw28 stlw28
  have ne_blw22_0_blw28 : blw22_0 ≠ blw28 := Nat.ne_of_lt (Nat.lt_of_lt_of_le V_blw22_0_lw27.lt (Nat.le_of_eq Glw28.symm))
  have ne_blw28_blw22_0 : blw28 ≠ blw22_0 := Ne.symm ne_blw22_0_blw28
  have ne_blw22_1_blw28 : blw22_1 ≠ blw28 := Nat.ne_of_lt (Nat.lt_of_lt_of_le V_blw22_1_lw27.lt (Nat.le_of_eq Glw28.symm))
  have ne_blw28_blw22_1 : blw28 ≠ blw22_1 := Ne.symm ne_blw22_1_blw28
  have ne_blw27_0_blw28 : blw27_0 ≠ blw28 := Nat.ne_of_lt (Nat.lt_of_lt_of_le Vlw27_0.lt (Nat.le_of_eq Glw28.symm))
  have ne_blw28_blw27_0 : blw28 ≠ blw27_0 := Ne.symm ne_blw27_0_blw28
  have ne_blw21_blw28 : blw21 ≠ blw28 := Nat.ne_of_lt (Nat.lt_of_lt_of_le E_blw21_lw27.lt (Nat.le_of_eq Glw28.symm))
  have ne_blw28_blw21 : blw28 ≠ blw21 := Ne.symm ne_blw21_blw28
  have ne_blw26_blw28 : blw26 ≠ blw28 := Nat.ne_of_lt (Nat.lt_of_lt_of_le qlw27_1.lt (Nat.le_of_eq Glw28.symm))
  have ne_blw28_blw26 : blw28 ≠ blw26 := Ne.symm ne_blw26_blw28
  have g_blw28 : n0 ≤ blw28 := Nat.le_trans Zlw27 (Nat.le_of_eq Glw28.symm)
  have sz_blw28 : h0.size ≤ blw28 := Nat.le_trans KKlw27.1 (Nat.le_of_eq Glw28.symm)
  have V_blw22_0_lw28 := V_blw22_0_lw27.ext Elw28
  have V_blw22_1_lw28 := V_blw22_1_lw27.ext Elw28
  have V_blw27_0_lw28 := Vlw27_0.ext Elw28
  have E_blw21_lw28 := E_blw21_lw27.ext Elw28
  have F_waits_blw21_lw28 := F_waits_blw21_lw27.ext Elw28
  have F_runs_blw21_lw28 := F_runs_blw21_lw27.ext Elw28
  have F_waitCount_blw21_lw28 := F_waitCount_blw21_lw27.ext Elw28
  have F_runCount_blw21_lw28 := F_runCount_blw21_lw27.ext Elw28
  have E_blw26_lw28 := qlw27_1.ext Elw28
  have U_blw26_lw28 := Unt.ext Elw28 qlw27_0
  have F_ranges_blw26_lw28 := qlw27_2.ext Elw28
  have F_count_blw26_lw28 := qlw27_3.ext Elw28
  have F_sum_blw26_lw28 := qlw27_4.ext Elw28
  have F_max_blw26_lw28 := qlw27_5.ext Elw28
  have Zlw28 : n0 ≤ hlw28.size := Nat.le_trans Zlw27 Elw28.1
  have KKlw28 := KKlw27.ext Elw28
  have F_ranges_blw28 : Fld Z hlw28 blw28 "millrace/DurationHistogram" "ranges" "[[J" .null := Dlw28 (Or.inr (hw _ (List.mem_of_getElem? (i := 38) rfl))) (ty := (.array (.array .long))) (by decide)
  have F_count_blw28 : Fld Z hlw28 blw28 "millrace/DurationHistogram" "count" "J" (.long (0 : Int64)) := Dlw28 (Or.inl (hw _ (List.mem_of_getElem? (i := 74) rfl))) (ty := .long) (by decide)
  have F_sum_blw28 : Fld Z hlw28 blw28 "millrace/DurationHistogram" "sum" "D" (.double 0) := Dlw28 (Or.inl (hw _ (List.mem_of_getElem? (i := 76) rfl))) (ty := .double) (by decide)
  have F_max_blw28 : Fld Z hlw28 blw28 "millrace/DurationHistogram" "max" "J" (.long (0 : Int64)) := Dlw28 (Or.inl (hw _ (List.mem_of_getElem? (i := 78) rfl))) (ty := .long) (by decide)
  obtain ⟨_, _, ⟨Tlw29, Llw29, klw29, nlw29⟩, -, Xlw29, ⟨Lclw29, hQlw29, llw29, ylw29, zlw29⟩, stlw29⟩ := Xlw28.specialBack hx (y := (⟨"millrace/DurationHistogram", "<init>", "()V"⟩ : MethodName)) rfl hown (mvT hZ (hw _ (List.mem_of_getElem? (i := 31) rfl))) (mvT hZ (hw _ (List.mem_of_getElem? (i := 32) rfl))) (mvT hZ (hw _ (List.mem_of_getElem? (i := 33) rfl))) (by decide) (backOf (W := 1) (own_rm_dhi l Z a0 hw [] blw28 hlw28 n0 Zlw28 Alw28 UTlw28 F_ranges_blw28 F_count_blw28 F_sum_blw28 F_max_blw28 g_blw28) hZ (hw _ (List.mem_of_getElem? (i := 33) rfl)) (hw _ (List.mem_of_getElem? (i := 30) rfl)) (by decide) (by decide)) (g := (mkF m 80 #[.val (.long p0), .second, .val (.long p1), .second, .val (.long p2), .second, .val (.int p3), .val (.int (2 : Int32)), .val (.ref blw21), .val (.int (1 : Int32)), .val (.ref blw26), .unset, .unset, .unset, .unset, .unset, .unset, .unset, .unset, .unset] [(.ref blw28), (.ref blw28)])) rfl (by rw [hml]; rfl) (Steps.refl _) (a := blw28) (argsL := []) (rest := [(.ref blw28)]) (lenOf own_pd_2829V rfl) rfl (by show 2 * 0 + _ ≤ _; exact Nat.le_of_eq rfl) (hb hby at_80) (fun _ _ => ⟨rfl, elw28, (by decide : 6 + 1 ≤ _), (by decide : 197 + 57 ≤ _)⟩)
  dsimp only [Pt.U, Pt.locs, Pt.cells, Pt.slots] at Xlw29 llw29 ylw29 zlw29 stlw29 hQlw29
  rw [llw29, ylw29, zlw29] at Xlw29
  obtain ⟨blw29_0, klw29_0, rfl, Nlw29q, Klw29, qlw29_0, qlw29_1, qlw29_2, qlw29_3, qlw29_4, qlw29_5, Glw29_0, Vlw29_0, Olw29_0⟩ := hQlw29
  have ne_blw22_0_blw29_0 : blw22_0 ≠ blw29_0 := Nat.ne_of_lt (Nat.lt_of_lt_of_le V_blw22_0_lw28.lt Glw29_0)
  have ne_blw29_0_blw22_0 : blw29_0 ≠ blw22_0 := Ne.symm ne_blw22_0_blw29_0
  have ne_blw22_1_blw29_0 : blw22_1 ≠ blw29_0 := Nat.ne_of_lt (Nat.lt_of_lt_of_le V_blw22_1_lw28.lt Glw29_0)
  have ne_blw29_0_blw22_1 : blw29_0 ≠ blw22_1 := Ne.symm ne_blw22_1_blw29_0
  have ne_blw27_0_blw29_0 : blw27_0 ≠ blw29_0 := Nat.ne_of_lt (Nat.lt_of_lt_of_le V_blw27_0_lw28.lt Glw29_0)
  have ne_blw29_0_blw27_0 : blw29_0 ≠ blw27_0 := Ne.symm ne_blw27_0_blw29_0
  have ne_blw21_blw29_0 : blw21 ≠ blw29_0 := Nat.ne_of_lt (Nat.lt_of_lt_of_le E_blw21_lw28.lt Glw29_0)
  have ne_blw29_0_blw21 : blw29_0 ≠ blw21 := Ne.symm ne_blw21_blw29_0
  have ne_blw26_blw29_0 : blw26 ≠ blw29_0 := Nat.ne_of_lt (Nat.lt_of_lt_of_le E_blw26_lw28.lt Glw29_0)
  have ne_blw29_0_blw26 : blw29_0 ≠ blw26 := Ne.symm ne_blw26_blw29_0
  have ne_blw28_blw29_0 : blw28 ≠ blw29_0 := Nat.ne_of_lt (Nat.lt_of_lt_of_le Alw28.lt Glw29_0)
  have ne_blw29_0_blw28 : blw29_0 ≠ blw28 := Ne.symm ne_blw28_blw29_0
  have g_blw29_0 : n0 ≤ blw29_0 := Nat.le_trans Zlw28 Glw29_0
  have sz_blw29_0 : h0.size ≤ blw29_0 := Nat.le_trans KKlw28.1 Glw29_0
  have V_blw22_0_lw29 := V_blw22_0_lw28.keep Klw29 (by simp only [List.mem_cons, List.not_mem_nil, or_false, not_or]; exact ne_blw22_0_blw28)
  have V_blw22_1_lw29 := V_blw22_1_lw28.keep Klw29 (by simp only [List.mem_cons, List.not_mem_nil, or_false, not_or]; exact ne_blw22_1_blw28)
  have V_blw27_0_lw29 := V_blw27_0_lw28.keep Klw29 (by simp only [List.mem_cons, List.not_mem_nil, or_false, not_or]; exact ne_blw27_0_blw28)
  have E_blw21_lw29 := E_blw21_lw28.keep Klw29
  have F_waits_blw21_lw29 := F_waits_blw21_lw28.keep Klw29 (by simp only [List.mem_cons, List.not_mem_nil, or_false, not_or]; exact ne_blw21_blw28)
  have F_runs_blw21_lw29 := F_runs_blw21_lw28.keep Klw29 (by simp only [List.mem_cons, List.not_mem_nil, or_false, not_or]; exact ne_blw21_blw28)
  have F_waitCount_blw21_lw29 := F_waitCount_blw21_lw28.keep Klw29 (by simp only [List.mem_cons, List.not_mem_nil, or_false, not_or]; exact ne_blw21_blw28)
  have F_runCount_blw21_lw29 := F_runCount_blw21_lw28.keep Klw29 (by simp only [List.mem_cons, List.not_mem_nil, or_false, not_or]; exact ne_blw21_blw28)
  have E_blw26_lw29 := E_blw26_lw28.keep Klw29
  have U_blw26_lw29 := Unt.keep Klw29 (by simp only [List.mem_cons, List.not_mem_nil, or_false, not_or]; exact ne_blw26_blw28) U_blw26_lw28
  have F_ranges_blw26_lw29 := F_ranges_blw26_lw28.keep Klw29 (by simp only [List.mem_cons, List.not_mem_nil, or_false, not_or]; exact ne_blw26_blw28)
  have F_count_blw26_lw29 := F_count_blw26_lw28.keep Klw29 (by simp only [List.mem_cons, List.not_mem_nil, or_false, not_or]; exact ne_blw26_blw28)
  have F_sum_blw26_lw29 := F_sum_blw26_lw28.keep Klw29 (by simp only [List.mem_cons, List.not_mem_nil, or_false, not_or]; exact ne_blw26_blw28)
  have F_max_blw26_lw29 := F_max_blw26_lw28.keep Klw29 (by simp only [List.mem_cons, List.not_mem_nil, or_false, not_or]; exact ne_blw26_blw28)
  have Zlw29 : n0 ≤ Tlw29.heap.size := Nat.le_trans Zlw28 Klw29.1
  have KKlw29 := KKlw28.trans Klw29 (fun q hq => by simp only [List.mem_cons, List.not_mem_nil, or_false] at hq; rcases hq with rfl; exact Or.inr sz_blw28)
  have Nlw29 := Fr.app Nlw27 Nlw29q
  have HH1 : own_Hist Z Tlw29.heap blw26 blw27_0 [] 0 0 0 0 := ⟨E_blw26_lw29, F_ranges_blw26_lw29, F_count_blw26_lw29, F_sum_blw26_lw29, F_max_blw26_lw29, ⟨_, _, V_blw27_0_lw29, Olw27_0, List.length_replicate, own_Bks.nulls 57⟩, ne_blw26_blw27_0, (fun q => nomatch q), (fun q => nomatch q)⟩
  have HG1 : own_G n0 blw26 blw27_0 [] := ⟨g_blw26, g_blw27_0, fun _ q => nomatch q⟩
  have lt_blw26 := E_blw26_lw29.lt
  have HH2 : own_Hist Z Tlw29.heap blw28 blw29_0 [] 0 0 0 0 := ⟨qlw29_1, qlw29_2, qlw29_3, qlw29_4, qlw29_5, ⟨_, _, Vlw29_0, Olw29_0, List.length_replicate, own_Bks.nulls 57⟩, ne_blw28_blw29_0, (fun q => nomatch q), (fun q => nomatch q)⟩
  have HG2 : own_G n0 blw28 blw29_0 [] := ⟨g_blw28, g_blw29_0, fun _ q => nomatch q⟩
  have lt_blw28 := qlw29_1.lt
  obtain ⟨cqlw210, kqlw210, qlw210a, qlw210b, qlw210c⟩ := isOf hZ rfl E_blw21_lw29
  obtain ⟨_, _, ⟨Tlw210, Llw210, klw210, nlw210⟩, -, Xlw210, ⟨Lclw210, hQlw210, llw210, ylw210, zlw210⟩, stlw210⟩ := Xlw29.virtualBack hx (y := (⟨"millrace/TimingBuffer", "flush", "(Lmillrace/DurationHistogram;Lmillrace/DurationHistogram;)V"⟩ : MethodName)) (z := (⟨"millrace/TimingBuffer", "flush", "(Lmillrace/DurationHistogram;Lmillrace/DurationHistogram;)V"⟩ : MethodName)) hown (mvT hZ (hw _ (List.mem_of_getElem? (i := 39) rfl))) (mvT hZ (hw _ (List.mem_of_getElem? (i := 40) rfl))) (notFace_of_selects (args := #[]) (mvT hZ (hw _ (List.mem_of_getElem? (i := 42) rfl)))) (mvT hZ (hw _ (List.mem_of_getElem? (i := 42) rfl))) (mvT hZ (hw _ (List.mem_of_getElem? (i := 41) rfl))) (by decide) (backOf (W := 0) (own_rm_fl2 l Z a0 hw [] blw21 blw22_0 blw22_1 blw26 blw28 (((List.replicate 64 (Value.long 0)).set 0 (.long p0)).set 1 (.long p1)) (List.replicate 64 (Value.long 0)) blw27_0 blw29_0 (fl2_c9_rc2_v10 := p0) (fl2_c9_rc2_v10_2 := p1) Tlw29.heap n0 Zlw29 E_blw21_lw29 F_waits_blw21_lw29 F_waitCount_blw21_lw29 F_runs_blw21_lw29 F_runCount_blw21_lw29 E_blw26_lw29 qlw29_1 V_blw22_0_lw29 V_blw22_1_lw29 ne_blw21_blw22_0 ne_blw21_blw22_1 ne_blw21_blw26 ne_blw21_blw27_0 ne_blw21_blw28 ne_blw21_blw29_0 ne_blw22_0_blw26 ne_blw22_0_blw27_0 ne_blw22_0_blw28 ne_blw22_0_blw29_0 ne_blw22_1_blw26 ne_blw22_1_blw27_0 ne_blw22_1_blw28 ne_blw22_1_blw29_0 ne_blw26_blw28 ne_blw26_blw29_0 ne_blw27_0_blw28 ne_blw27_0_blw29_0 g_blw21 HH1 U_blw26_lw29 HH2 qlw29_0 HG1 HG2 (by rfl) (by rfl)) hZ (hw _ (List.mem_of_getElem? (i := 43) rfl)) (hw _ (List.mem_of_getElem? (i := 2) rfl)) (by decide) (by decide)) qlw210a qlw210c (g := (mkF m 91 #[.val (.long p0), .second, .val (.long p1), .second, .val (.long p2), .second, .val (.int p3), .val (.int (2 : Int32)), .val (.ref blw21), .val (.int (1 : Int32)), .val (.ref blw26), .val (.ref blw28), .unset, .unset, .unset, .unset, .unset, .unset, .unset, .unset] [(.ref blw28), (.ref blw26), (.ref blw21)])) rfl (by rw [hml]; rfl) (Steps.refl _) (argsL := [(.ref blw26), (.ref blw28)]) (rest := []) (lenOf own_pd_28Lmillrace2fDurationHistogram3bLmillrace2fDurationHistogram3b29V rfl) rfl (by show 2 * 0 + _ ≤ _; exact Nat.le_of_eq rfl) (hb hby at_91) (fun _ _ => ⟨rfl, rfl, (by decide : 7 + 2 ≤ _), (by decide : 254 + 256 ≤ _)⟩)
  dsimp only [Pt.U, Pt.locs, Pt.cells, Pt.slots] at Xlw210 llw210 ylw210 zlw210 stlw210 hQlw210
  rw [llw210, ylw210, zlw210] at Xlw210
  obtain ⟨rfl, Nlw210q, Klw210, aslw210_1, aslw210_2, Hlw210_1, Ulw210_1, GAlw210_1, Hlw210_2, Ulw210_2, GAlw210_2⟩ := hQlw210
  have Zlw210 : n0 ≤ Tlw210.heap.size := Nat.le_trans Zlw29 Klw210.1
  have KKlw210 := KKlw29.trans Klw210 (fun q hq => by simp only [List.mem_cons, List.not_mem_nil, or_false] at hq; rcases hq with rfl | rfl | rfl | rfl | rfl <;> first | exact Or.inr sz_blw26 | exact Or.inr sz_blw27_0 | exact Or.inr sz_blw28 | exact Or.inr sz_blw29_0 | exact Or.inr sz_blw21)
  have Nlw210 := Fr.app Nlw29 Nlw210q
  obtain ⟨cqlw211, kqlw211, qlw211a, qlw211b, qlw211c⟩ := isOf hZ rfl Hlw210_1.exa
  obtain ⟨_, _, ⟨Tlw211, Llw211, klw211, nlw211⟩, -, Xlw211, ⟨Lclw211, hQlw211, llw211, ylw211, zlw211⟩, stlw211⟩ := Xlw210.virtualBack hx (y := (⟨"millrace/DurationHistogram", "summary", "()Lmillrace/PoolSnapshot$Timing;"⟩ : MethodName)) (z := (⟨"millrace/DurationHistogram", "summary", "()Lmillrace/PoolSnapshot$Timing;"⟩ : MethodName)) hown (mvT hZ (hw _ (List.mem_of_getElem? (i := 79) rfl))) (mvT hZ (hw _ (List.mem_of_getElem? (i := 80) rfl))) (notFace_of_selects (args := #[]) (mvT hZ (hw _ (List.mem_of_getElem? (i := 82) rfl)))) (mvT hZ (hw _ (List.mem_of_getElem? (i := 82) rfl))) (mvT hZ (hw _ (List.mem_of_getElem? (i := 81) rfl))) (by decide) (own_backS (W := 0) (own_rm_sumN l Z a0 hw (ws := [Jvm.Cond.instanceMethod (⟨"millrace/DurationHistogram", "summary", "()Lmillrace/PoolSnapshot$Timing;"⟩ : MethodName)]) (List.mem_cons_self ..) blw26 blw27_0 aslw210_1 ((0 + 1) + 1) ((0 + 1) + 1) (FP.dadd (FP.dadd 0 (FP.l2d (own_lmax (0 : Int64) p0))) (FP.l2d (own_lmax (0 : Int64) p1))) (own_lmax (own_lmax 0 (own_lmax (0 : Int64) p0)) (own_lmax (0 : Int64) p1)) Tlw210.heap n0 Zlw210 Hlw210_1 Ulw210_1 (smn_hb6 := by decide +kernel) (ht := by decide +kernel) (smn_hn40 := own_nnD (own_nnA (own_nnA own_nn0 _) _) (by decide)) (smn_hv40 := rfl) (smn_hr044 := by decide +kernel) (smn_hr144 := by decide +kernel) (smn_hr050 := by decide +kernel) (smn_hr150 := by decide +kernel) (smn_hr056 := by decide +kernel) (smn_hr156 := by decide +kernel)) Ulw210_1 hZ (hw _ (List.mem_of_getElem? (i := 83) rfl)) (hw _ (List.mem_of_getElem? (i := 81) rfl)) (hw _ (List.mem_of_getElem? (i := 30) rfl)) (by decide) (by decide)) qlw211a qlw211c (g := (mkF m 96 #[.val (.long p0), .second, .val (.long p1), .second, .val (.long p2), .second, .val (.int p3), .val (.int (2 : Int32)), .val (.ref blw21), .val (.int (1 : Int32)), .val (.ref blw26), .val (.ref blw28), .unset, .unset, .unset, .unset, .unset, .unset, .unset, .unset] [(.ref blw26)])) rfl (by rw [hml]; rfl) (Steps.refl _) (argsL := []) (rest := []) (lenOf own_pd_2829Lmillrace2fPoolSnapshot24Timing3b rfl) rfl (by show 2 * 0 + _ ≤ _; exact Nat.le_of_eq rfl) (hb hby at_96) (fun _ _ => ⟨rfl, rfl, (by decide : 9 + 1 ≤ _), (by decide : 510 + 6 ≤ _)⟩)
  dsimp only [Pt.U, Pt.locs, Pt.cells, Pt.slots] at Xlw211 llw211 ylw211 zlw211 stlw211 hQlw211
  rw [llw211, ylw211, zlw211] at Xlw211
  obtain ⟨blw211, rfl, Nlw211q, Klw211, Glw211, EXlw211, Flw211_1, Flw211_2, Flw211_3⟩ := hQlw211
  have ne_blw26_blw211 : blw26 ≠ blw211 := Nat.ne_of_lt (Nat.lt_of_lt_of_le Hlw210_1.exa.lt Glw211)
  have ne_blw211_blw26 : blw211 ≠ blw26 := Ne.symm ne_blw26_blw211
  have ne_blw28_blw211 : blw28 ≠ blw211 := Nat.ne_of_lt (Nat.lt_of_lt_of_le Hlw210_2.exa.lt Glw211)
  have ne_blw211_blw28 : blw211 ≠ blw28 := Ne.symm ne_blw28_blw211
  have g_blw211 : n0 ≤ blw211 := Nat.le_trans Zlw210 Glw211
  have sz_blw211 : h0.size ≤ blw211 := Nat.le_trans KKlw210.1 Glw211
  have E_blw28_lw211 := Hlw210_2.exa.keep Klw211
  have H_blw28_lw211 := Hlw210_2.keep Klw211 (by simp only [List.mem_cons, List.not_mem_nil, or_false, not_or]; exact ne_blw28_blw26) (by simp only [List.mem_cons, List.not_mem_nil, or_false, not_or]; exact ne_blw29_0_blw26) (fun x hx => by simp only [List.mem_cons, List.not_mem_nil, or_false, not_or]; exact fun e => absurd lt_blw26 (Nat.not_lt.mpr (GAlw210_2 blw26 (e ▸ hx))))
  have HU_blw28_lw211 := Unt.keep Klw211 (by simp only [List.mem_cons, List.not_mem_nil, or_false, not_or]; exact ne_blw28_blw26) Ulw210_2
  have Zlw211 : n0 ≤ Tlw211.heap.size := Nat.le_trans Zlw210 Klw211.1
  have KKlw211 := KKlw210.trans Klw211 (fun q hq => by simp only [List.mem_cons, List.not_mem_nil, or_false] at hq; rcases hq with rfl; exact Or.inr sz_blw26)
  have Nlw211 := Fr.app Nlw210 Nlw211q
  obtain ⟨cqlw212, kqlw212, qlw212a, qlw212b, qlw212c⟩ := isOf hZ rfl E_blw28_lw211
  obtain ⟨_, _, ⟨Tlw212, Llw212, klw212, nlw212⟩, -, Xlw212, ⟨Lclw212, hQlw212, llw212, ylw212, zlw212⟩, stlw212⟩ := Xlw211.virtualBack hx (y := (⟨"millrace/DurationHistogram", "summary", "()Lmillrace/PoolSnapshot$Timing;"⟩ : MethodName)) (z := (⟨"millrace/DurationHistogram", "summary", "()Lmillrace/PoolSnapshot$Timing;"⟩ : MethodName)) hown (mvT hZ (hw _ (List.mem_of_getElem? (i := 79) rfl))) (mvT hZ (hw _ (List.mem_of_getElem? (i := 80) rfl))) (notFace_of_selects (args := #[]) (mvT hZ (hw _ (List.mem_of_getElem? (i := 82) rfl)))) (mvT hZ (hw _ (List.mem_of_getElem? (i := 82) rfl))) (mvT hZ (hw _ (List.mem_of_getElem? (i := 81) rfl))) (by decide) (own_backS (W := 0) (own_rm_sum0 l Z a0 hw (ws := [Jvm.Cond.instanceMethod (⟨"millrace/DurationHistogram", "summary", "()Lmillrace/PoolSnapshot$Timing;"⟩ : MethodName)]) (List.mem_cons_self ..) blw28 blw29_0 aslw210_2 0 0 0 Tlw211.heap n0 Zlw211 H_blw28_lw211 HU_blw28_lw211 ) HU_blw28_lw211 hZ (hw _ (List.mem_of_getElem? (i := 83) rfl)) (hw _ (List.mem_of_getElem? (i := 81) rfl)) (hw _ (List.mem_of_getElem? (i := 30) rfl)) (by decide) (by decide)) qlw212a qlw212c (g := (mkF m 103 #[.val (.long p0), .second, .val (.long p1), .second, .val (.long p2), .second, .val (.int p3), .val (.int (2 : Int32)), .val (.ref blw21), .val (.int (1 : Int32)), .val (.ref blw26), .val (.ref blw28), .val (.ref blw211), .unset, .unset, .unset, .unset, .unset, .unset, .unset] [(.ref blw28)])) rfl (by rw [hml]; rfl) (Steps.refl _) (argsL := []) (rest := []) (lenOf own_pd_2829Lmillrace2fPoolSnapshot24Timing3b rfl) rfl (by show 2 * 0 + _ ≤ _; exact Nat.le_of_eq rfl) (hb hby at_103) (fun _ _ => ⟨rfl, rfl, (by decide : 10 + 1 ≤ _), (by decide : 516 + 6 ≤ _)⟩)
  dsimp only [Pt.U, Pt.locs, Pt.cells, Pt.slots] at Xlw212 llw212 ylw212 zlw212 stlw212 hQlw212
  rw [llw212, ylw212, zlw212] at Xlw212
  obtain ⟨blw212, rfl, Nlw212q, Klw212, Glw212, EXlw212, Flw212_1, Flw212_2, Flw212_3⟩ := hQlw212
  have ne_blw28_blw212 : blw28 ≠ blw212 := Nat.ne_of_lt (Nat.lt_of_lt_of_le E_blw28_lw211.lt Glw212)
  have ne_blw212_blw28 : blw212 ≠ blw28 := Ne.symm ne_blw28_blw212
  have ne_blw211_blw212 : blw211 ≠ blw212 := Nat.ne_of_lt (Nat.lt_of_lt_of_le EXlw211.lt Glw212)
  have ne_blw212_blw211 : blw212 ≠ blw211 := Ne.symm ne_blw211_blw212
  have g_blw212 : n0 ≤ blw212 := Nat.le_trans Zlw211 Glw212
  have sz_blw212 : h0.size ≤ blw212 := Nat.le_trans KKlw211.1 Glw212
  have E_blw211_lw212 := EXlw211.keep Klw212
  have F_count_blw211_lw212 := Flw211_1.keep Klw212 (by simp only [List.mem_cons, List.not_mem_nil, or_false, not_or]; exact ne_blw211_blw28)
  have F_meanNanos_blw211_lw212 := Flw211_2.keep Klw212 (by simp only [List.mem_cons, List.not_mem_nil, or_false, not_or]; exact ne_blw211_blw28)
  have F_maxNanos_blw211_lw212 := Flw211_3.keep Klw212 (by simp only [List.mem_cons, List.not_mem_nil, or_false, not_or]; exact ne_blw211_blw28)
  have Zlw212 : n0 ≤ Tlw212.heap.size := Nat.le_trans Zlw211 Klw212.1
  have KKlw212 := KKlw211.trans Klw212 (fun q hq => by simp only [List.mem_cons, List.not_mem_nil, or_false] at hq; rcases hq with rfl; exact Or.inr sz_blw28)
  have Nlw212 := Fr.app Nlw211 Nlw212q
  obtain ⟨_, _, ⟨Tlw213, Llw213, klw213, nlw213⟩, -, Xlw213, ⟨Lclw213, hQlw213, llw213, ylw213, zlw213⟩, stlw213⟩ := Jvm.LawKit.callS Xlw212 hx (y := (⟨"java/lang/Math", "max", "(JJ)J"⟩ : MethodName)) hown (mvT hZ (hw _ (List.mem_of_getElem? (i := 120) rfl))) (mvT hZ (hw _ (List.mem_of_getElem? (i := 54) rfl))) (mvT hZ (hw _ (List.mem_of_getElem? (i := 55) rfl))) (mvT hZ (hw _ (List.mem_of_getElem? (i := 56) rfl))) (by decide) (backOf (W := 0) (own_rm_mmax l Z a0 hw [] (0 : Int64) p0 Tlw212.heap n0 Zlw212 ) hZ (hw _ (List.mem_of_getElem? (i := 56) rfl)) (hw _ (List.mem_of_getElem? (i := 55) rfl)) (by decide) (by decide)) (g := (mkF m 122 #[.val (.long p0), .second, .val (.long p1), .second, .val (.long p2), .second, .val (.int p3), .val (.int (2 : Int32)), .val (.ref blw21), .val (.int (1 : Int32)), .val (.ref blw26), .val (.ref blw28), .val (.ref blw211), .val (.ref blw212), .val (.long (0 : Int64)), .second, .val (.double 0), .second, .unset, .unset] [(.long p0), (.long (0 : Int64))])) rfl (by rw [hml]; rfl) (argsL := [(.long (0 : Int64)), (.long p0)]) (rest := []) (lenOf own_pd_28JJ29J rfl) rfl (by show 2 * 0 + _ ≤ _; exact Nat.le_of_eq rfl) (hb hby at_122) (fun _ _ => ⟨rfl, rfl, (by decide : 11 + 0 ≤ _), (by decide : 522 + 0 ≤ _)⟩)
  dsimp only [Pt.U, Pt.locs, Pt.cells, Pt.slots] at Xlw213 llw213 ylw213 zlw213 stlw213 hQlw213
  rw [llw213, ylw213, zlw213] at Xlw213
  obtain ⟨rfl, Nlw213q, elw213⟩ := hQlw213
  have Nlw213 := Fr.app Nlw212 Nlw213q
  obtain ⟨_, _, ⟨Tlw214, Llw214, klw214, nlw214⟩, -, Xlw214, ⟨Lclw214, hQlw214, llw214, ylw214, zlw214⟩, stlw214⟩ := Jvm.LawKit.callS Xlw213 hx (y := (⟨"java/lang/Math", "max", "(JJ)J"⟩ : MethodName)) hown (mvT hZ (hw _ (List.mem_of_getElem? (i := 120) rfl))) (mvT hZ (hw _ (List.mem_of_getElem? (i := 54) rfl))) (mvT hZ (hw _ (List.mem_of_getElem? (i := 55) rfl))) (mvT hZ (hw _ (List.mem_of_getElem? (i := 56) rfl))) (by decide) (backOf (W := 0) (own_rm_mmax l Z a0 hw [] (0 : Int64) (own_lmax (0 : Int64) p0) Tlw212.heap n0 Zlw212 ) hZ (hw _ (List.mem_of_getElem? (i := 56) rfl)) (hw _ (List.mem_of_getElem? (i := 55) rfl)) (by decide) (by decide)) (g := (mkF m 131 #[.val (.long p0), .second, .val (.long p1), .second, .val (.long p2), .second, .val (.int p3), .val (.int (2 : Int32)), .val (.ref blw21), .val (.int (1 : Int32)), .val (.ref blw26), .val (.ref blw28), .val (.ref blw211), .val (.ref blw212), .val (.long (0 : Int64)), .second, .val (.double 0), .second, .val (.long (own_lmax (0 : Int64) p0)), .second] [(.long (own_lmax (0 : Int64) p0)), (.long (0 : Int64))])) rfl (by rw [hml]; rfl) (argsL := [(.long (0 : Int64)), (.long (own_lmax (0 : Int64) p0))]) (rest := []) (lenOf own_pd_28JJ29J rfl) rfl (by show 2 * 0 + _ ≤ _; exact Nat.le_of_eq rfl) (hb hby at_131) (fun _ _ => ⟨rfl, elw213, (by decide : 11 + 0 ≤ _), (by decide : 522 + 0 ≤ _)⟩)
  dsimp only [Pt.U, Pt.locs, Pt.cells, Pt.slots] at Xlw214 llw214 ylw214 zlw214 stlw214 hQlw214
  rw [llw214, ylw214, zlw214] at Xlw214
  obtain ⟨rfl, Nlw214q, elw214⟩ := hQlw214
  have Nlw214 := Fr.app Nlw213 Nlw214q
  obtain ⟨_, _, ⟨Tlw215, Llw215, klw215, nlw215⟩, -, Xlw215, ⟨Lclw215, hQlw215, llw215, ylw215, zlw215⟩, stlw215⟩ := Jvm.LawKit.callS Xlw214 hx (y := (⟨"java/lang/Math", "max", "(JJ)J"⟩ : MethodName)) hown (mvT hZ (hw _ (List.mem_of_getElem? (i := 120) rfl))) (mvT hZ (hw _ (List.mem_of_getElem? (i := 54) rfl))) (mvT hZ (hw _ (List.mem_of_getElem? (i := 55) rfl))) (mvT hZ (hw _ (List.mem_of_getElem? (i := 56) rfl))) (by decide) (backOf (W := 0) (own_rm_mmax l Z a0 hw [] (0 : Int64) p1 Tlw212.heap n0 Zlw212 ) hZ (hw _ (List.mem_of_getElem? (i := 56) rfl)) (hw _ (List.mem_of_getElem? (i := 55) rfl)) (by decide) (by decide)) (g := (mkF m 152 #[.val (.long p0), .second, .val (.long p1), .second, .val (.long p2), .second, .val (.int p3), .val (.int (2 : Int32)), .val (.ref blw21), .val (.int (1 : Int32)), .val (.ref blw26), .val (.ref blw28), .val (.ref blw211), .val (.ref blw212), .val (.long (own_lmax (0 : Int64) (own_lmax (0 : Int64) p0))), .second, .val (.double lw2_v141), .second, .val (.long (own_lmax (0 : Int64) p0)), .second] [(.long p1), (.long (0 : Int64))])) rfl (by rw [hml]; rfl) (argsL := [(.long (0 : Int64)), (.long p1)]) (rest := []) (lenOf own_pd_28JJ29J rfl) rfl (by show 2 * 0 + _ ≤ _; exact Nat.le_of_eq rfl) (hb hby at_152) (fun _ _ => ⟨rfl, elw214, (by decide : 11 + 0 ≤ _), (by decide : 522 + 0 ≤ _)⟩)
  dsimp only [Pt.U, Pt.locs, Pt.cells, Pt.slots] at Xlw215 llw215 ylw215 zlw215 stlw215 hQlw215
  rw [llw215, ylw215, zlw215] at Xlw215
  obtain ⟨rfl, Nlw215q, elw215⟩ := hQlw215
  have Nlw215 := Fr.app Nlw214 Nlw215q
  obtain ⟨_, _, ⟨Tlw216, Llw216, klw216, nlw216⟩, -, Xlw216, ⟨Lclw216, hQlw216, llw216, ylw216, zlw216⟩, stlw216⟩ := Jvm.LawKit.callS Xlw215 hx (y := (⟨"java/lang/Math", "max", "(JJ)J"⟩ : MethodName)) hown (mvT hZ (hw _ (List.mem_of_getElem? (i := 120) rfl))) (mvT hZ (hw _ (List.mem_of_getElem? (i := 54) rfl))) (mvT hZ (hw _ (List.mem_of_getElem? (i := 55) rfl))) (mvT hZ (hw _ (List.mem_of_getElem? (i := 56) rfl))) (by decide) (backOf (W := 0) (own_rm_mmax l Z a0 hw [] (own_lmax (0 : Int64) (own_lmax (0 : Int64) p0)) (own_lmax (0 : Int64) p1) Tlw212.heap n0 Zlw212 ) hZ (hw _ (List.mem_of_getElem? (i := 56) rfl)) (hw _ (List.mem_of_getElem? (i := 55) rfl)) (by decide) (by decide)) (g := (mkF m 161 #[.val (.long p0), .second, .val (.long p1), .second, .val (.long p2), .second, .val (.int p3), .val (.int (2 : Int32)), .val (.ref blw21), .val (.int (1 : Int32)), .val (.ref blw26), .val (.ref blw28), .val (.ref blw211), .val (.ref blw212), .val (.long (own_lmax (0 : Int64) (own_lmax (0 : Int64) p0))), .second, .val (.double lw2_v141), .second, .val (.long (own_lmax (0 : Int64) p1)), .second] [(.long (own_lmax (0 : Int64) p1)), (.long (own_lmax (0 : Int64) (own_lmax (0 : Int64) p0)))])) rfl (by rw [hml]; rfl) (argsL := [(.long (own_lmax (0 : Int64) (own_lmax (0 : Int64) p0))), (.long (own_lmax (0 : Int64) p1))]) (rest := []) (lenOf own_pd_28JJ29J rfl) rfl (by show 2 * 0 + _ ≤ _; exact Nat.le_of_eq rfl) (hb hby at_161) (fun _ _ => ⟨rfl, elw215, (by decide : 11 + 0 ≤ _), (by decide : 522 + 0 ≤ _)⟩)
  dsimp only [Pt.U, Pt.locs, Pt.cells, Pt.slots] at Xlw216 llw216 ylw216 zlw216 stlw216 hQlw216
  rw [llw216, ylw216, zlw216] at Xlw216
  obtain ⟨rfl, Nlw216q, elw216⟩ := hQlw216
  have Nlw216 := Fr.app Nlw215 Nlw216q
  obtain ⟨cqlw217, kqlw217, qlw217a, qlw217b, qlw217c⟩ := isOf hZ elw216 E_blw211_lw212
  obtain ⟨_, _, ⟨Tlw217, Llw217, klw217, nlw217⟩, -, Xlw217, ⟨Lclw217, hQlw217, llw217, ylw217, zlw217⟩, stlw217⟩ := Xlw216.virtualBack hx (y := (⟨"millrace/PoolSnapshot$Timing", "count", "()J"⟩ : MethodName)) (z := (⟨"millrace/PoolSnapshot$Timing", "count", "()J"⟩ : MethodName)) hown (mvT hZ (hw _ (List.mem_of_getElem? (i := 121) rfl))) (mvT hZ (hw _ (List.mem_of_getElem? (i := 122) rfl))) (notFace_of_selects (args := #[]) (mvT hZ (hw _ (List.mem_of_getElem? (i := 124) rfl)))) (mvT hZ (hw _ (List.mem_of_getElem? (i := 124) rfl))) (mvT hZ (hw _ (List.mem_of_getElem? (i := 123) rfl))) (by decide) (backOf (W := 0) (own_rm_tgcount l Z a0 hw [] blw211 ((0 + 1) + 1) Tlw212.heap n0 Zlw212 E_blw211_lw212 F_count_blw211_lw212) hZ (hw _ (List.mem_of_getElem? (i := 125) rfl)) (hw _ (List.mem_of_getElem? (i := 86) rfl)) (by decide) (by decide)) qlw217a qlw217c (g := (mkF m 229 #[.val (.long p0), .second, .val (.long p1), .second, .val (.long p2), .second, .val (.int p3), .val (.int (2 : Int32)), .val (.ref blw21), .val (.int (1 : Int32)), .val (.ref blw26), .val (.ref blw28), .val (.ref blw211), .val (.ref blw212), .val (.long (own_lmax (own_lmax (0 : Int64) (own_lmax (0 : Int64) p0)) (own_lmax (0 : Int64) p1))), .second, .val (.double lw2_v171), .second, .val (.double lw2_v219), .second] [(.ref blw211)])) rfl (by rw [hml]; rfl) (Steps.refl _) (argsL := []) (rest := []) (lenOf own_pd_2829J rfl) rfl (by show 2 * 0 + _ ≤ _; exact Nat.le_of_eq rfl) (hb hby at_229) (fun _ _ => ⟨rfl, elw216, (by decide : 11 + 0 ≤ _), (by decide : 522 + 0 ≤ _)⟩)
  dsimp only [Pt.U, Pt.locs, Pt.cells, Pt.slots] at Xlw217 llw217 ylw217 zlw217 stlw217 hQlw217
  rw [llw217, ylw217, zlw217] at Xlw217
  obtain ⟨rfl, Nlw217q, elw217⟩ := hQlw217
  have Nlw217 := Fr.app Nlw216 Nlw217q
  obtain ⟨cqlw218, kqlw218, qlw218a, qlw218b, qlw218c⟩ := isOf hZ elw217 E_blw211_lw212
  obtain ⟨_, _, ⟨Tlw218, Llw218, klw218, nlw218⟩, -, Xlw218, ⟨Lclw218, hQlw218, llw218, ylw218, zlw218⟩, stlw218⟩ := Xlw217.virtualBack hx (y := (⟨"millrace/PoolSnapshot$Timing", "maxNanos", "()J"⟩ : MethodName)) (z := (⟨"millrace/PoolSnapshot$Timing", "maxNanos", "()J"⟩ : MethodName)) hown (mvT hZ (hw _ (List.mem_of_getElem? (i := 126) rfl))) (mvT hZ (hw _ (List.mem_of_getElem? (i := 127) rfl))) (notFace_of_selects (args := #[]) (mvT hZ (hw _ (List.mem_of_getElem? (i := 129) rfl)))) (mvT hZ (hw _ (List.mem_of_getElem? (i := 129) rfl))) (mvT hZ (hw _ (List.mem_of_getElem? (i := 128) rfl))) (by decide) (backOf (W := 0) (own_rm_tgmaxNanos l Z a0 hw [] blw211 (own_lmax (own_lmax 0 (own_lmax (0 : Int64) p0)) (own_lmax (0 : Int64) p1)) Tlw212.heap n0 Zlw212 E_blw211_lw212 F_maxNanos_blw211_lw212) hZ (hw _ (List.mem_of_getElem? (i := 130) rfl)) (hw _ (List.mem_of_getElem? (i := 86) rfl)) (by decide) (by decide)) qlw218a qlw218c (g := (mkF m 241 #[.val (.long p0), .second, .val (.long p1), .second, .val (.long p2), .second, .val (.int p3), .val (.int (2 : Int32)), .val (.ref blw21), .val (.int (1 : Int32)), .val (.ref blw26), .val (.ref blw28), .val (.ref blw211), .val (.ref blw212), .val (.long (own_lmax (own_lmax (0 : Int64) (own_lmax (0 : Int64) p0)) (own_lmax (0 : Int64) p1))), .second, .val (.double lw2_v171), .second, .val (.double lw2_v219), .second] [(.ref blw211)])) rfl (by rw [hml]; rfl) (Steps.refl _) (argsL := []) (rest := []) (lenOf own_pd_2829J rfl) rfl (by show 2 * 0 + _ ≤ _; exact Nat.le_of_eq rfl) (hb hby at_241) (fun _ _ => ⟨rfl, elw217, (by decide : 11 + 0 ≤ _), (by decide : 522 + 0 ≤ _)⟩)
  dsimp only [Pt.U, Pt.locs, Pt.cells, Pt.slots] at Xlw218 llw218 ylw218 zlw218 stlw218 hQlw218
  rw [llw218, ylw218, zlw218] at Xlw218
  obtain ⟨rfl, Nlw218q, elw218⟩ := hQlw218
  have Nlw218 := Fr.app Nlw217 Nlw218q
  obtain ⟨cqlw219, kqlw219, qlw219a, qlw219b, qlw219c⟩ := isOf hZ elw218 E_blw211_lw212
  obtain ⟨_, _, ⟨Tlw219, Llw219, klw219, nlw219⟩, -, Xlw219, ⟨Lclw219, hQlw219, llw219, ylw219, zlw219⟩, stlw219⟩ := Xlw218.virtualBack hx (y := (⟨"millrace/PoolSnapshot$Timing", "meanNanos", "()D"⟩ : MethodName)) (z := (⟨"millrace/PoolSnapshot$Timing", "meanNanos", "()D"⟩ : MethodName)) hown (mvT hZ (hw _ (List.mem_of_getElem? (i := 131) rfl))) (mvT hZ (hw _ (List.mem_of_getElem? (i := 132) rfl))) (notFace_of_selects (args := #[]) (mvT hZ (hw _ (List.mem_of_getElem? (i := 134) rfl)))) (mvT hZ (hw _ (List.mem_of_getElem? (i := 134) rfl))) (mvT hZ (hw _ (List.mem_of_getElem? (i := 133) rfl))) (by decide) (backOf (W := 0) (own_rm_tgmeanNanos l Z a0 hw [] blw211 (FP.ddiv (FP.dadd (FP.dadd 0 (FP.l2d (own_lmax (0 : Int64) p0))) (FP.l2d (own_lmax (0 : Int64) p1))) (FP.l2d ((0 + 1) + 1))) Tlw212.heap n0 Zlw212 E_blw211_lw212 F_meanNanos_blw211_lw212) hZ (hw _ (List.mem_of_getElem? (i := 135) rfl)) (hw _ (List.mem_of_getElem? (i := 86) rfl)) (by decide) (by decide)) qlw219a qlw219c (g := (mkF m 252 #[.val (.long p0), .second, .val (.long p1), .second, .val (.long p2), .second, .val (.int p3), .val (.int (2 : Int32)), .val (.ref blw21), .val (.int (1 : Int32)), .val (.ref blw26), .val (.ref blw28), .val (.ref blw211), .val (.ref blw212), .val (.long (own_lmax (own_lmax (0 : Int64) (own_lmax (0 : Int64) p0)) (own_lmax (0 : Int64) p1))), .second, .val (.double lw2_v171), .second, .val (.double lw2_v219), .second] [(.ref blw211)])) rfl (by rw [hml]; rfl) (Steps.refl _) (argsL := []) (rest := []) (lenOf own_pd_2829D rfl) rfl (by show 2 * 0 + _ ≤ _; exact Nat.le_of_eq rfl) (hb hby at_252) (fun _ _ => ⟨rfl, elw218, (by decide : 11 + 0 ≤ _), (by decide : 522 + 0 ≤ _)⟩)
  dsimp only [Pt.U, Pt.locs, Pt.cells, Pt.slots] at Xlw219 llw219 ylw219 zlw219 stlw219 hQlw219
  rw [llw219, ylw219, zlw219] at Xlw219
  obtain ⟨rfl, Nlw219q, elw219⟩ := hQlw219
  have Nlw219 := Fr.app Nlw218 Nlw219q
  obtain ⟨cqlw220, kqlw220, qlw220a, qlw220b, qlw220c⟩ := isOf hZ elw219 EXlw212
  obtain ⟨_, _, ⟨Tlw220, Llw220, klw220, nlw220⟩, -, Xlw220, ⟨Lclw220, hQlw220, llw220, ylw220, zlw220⟩, stlw220⟩ := Xlw219.virtualBack hx (y := (⟨"millrace/PoolSnapshot$Timing", "count", "()J"⟩ : MethodName)) (z := (⟨"millrace/PoolSnapshot$Timing", "count", "()J"⟩ : MethodName)) hown (mvT hZ (hw _ (List.mem_of_getElem? (i := 121) rfl))) (mvT hZ (hw _ (List.mem_of_getElem? (i := 122) rfl))) (notFace_of_selects (args := #[]) (mvT hZ (hw _ (List.mem_of_getElem? (i := 124) rfl)))) (mvT hZ (hw _ (List.mem_of_getElem? (i := 124) rfl))) (mvT hZ (hw _ (List.mem_of_getElem? (i := 123) rfl))) (by decide) (backOf (W := 0) (own_rm_tgcount l Z a0 hw [] blw212 (0 : Int64) Tlw212.heap n0 Zlw212 EXlw212 Flw212_1) hZ (hw _ (List.mem_of_getElem? (i := 125) rfl)) (hw _ (List.mem_of_getElem? (i := 86) rfl)) (by decide) (by decide)) qlw220a qlw220c (g := (mkF m 263 #[.val (.long p0), .second, .val (.long p1), .second, .val (.long p2), .second, .val (.int p3), .val (.int (2 : Int32)), .val (.ref blw21), .val (.int (1 : Int32)), .val (.ref blw26), .val (.ref blw28), .val (.ref blw211), .val (.ref blw212), .val (.long (own_lmax (own_lmax (0 : Int64) (own_lmax (0 : Int64) p0)) (own_lmax (0 : Int64) p1))), .second, .val (.double lw2_v171), .second, .val (.double lw2_v219), .second] [(.ref blw212)])) rfl (by rw [hml]; rfl) (Steps.refl _) (argsL := []) (rest := []) (lenOf own_pd_2829J rfl) rfl (by show 2 * 0 + _ ≤ _; exact Nat.le_of_eq rfl) (hb hby at_263) (fun _ _ => ⟨rfl, elw219, (by decide : 11 + 0 ≤ _), (by decide : 522 + 0 ≤ _)⟩)
  dsimp only [Pt.U, Pt.locs, Pt.cells, Pt.slots] at Xlw220 llw220 ylw220 zlw220 stlw220 hQlw220
  rw [llw220, ylw220, zlw220] at Xlw220
  obtain ⟨rfl, Nlw220q, elw220⟩ := hQlw220
  have Nlw220 := Fr.app Nlw219 Nlw220q
  obtain ⟨fs, hr, hrun, hended, hW, hsame⟩ := Xlw220.leave (v := some (.int (1 : Int32))) (fun h => by rw [Bd.returns] at h; cases h)
  refine ⟨_, _, pre0 _ ?_, hrun, hended, _, _, rfl, ?_, ⟨_, rfl⟩, hW, hsame.mono (by decide) (by decide)⟩
  · refine own_s_iload X0.here hx (hb hby at_0) (pc' := 2) rfl rfl ?_
    refine own_s_iconst X0.here hx (hb hby at_2) (pc' := 3) rfl (v := (3 : Int32)) (by decide) ?_
    refine own_s_iand X0.here hx (hb hby at_3) (pc' := 4) rfl (v := (2 : Int32)) lw2_hv3 ?_
    refine own_s_istore X0.here hx (hb hby at_4) (pc' := 6) rfl (L' := #[.val (.long p0), .second, .val (.long p1), .second, .val (.long p2), .second, .val (.int p3), .val (.int (2 : Int32)), .unset, .unset, .unset, .unset, .unset, .unset, .unset, .unset, .unset, .unset, .unset, .unset]) rfl ?_
    refine stlw21 _ ?_
    show Steps p.tables e below (Tlw21.setTop (mkF m 9 #[.val (.long p0), .second, .val (.long p1), .second, .val (.long p2), .second, .val (.int p3), .val (.int (2 : Int32)), .unset, .unset, .unset, .unset, .unset, .unset, .unset, .unset, .unset, .unset, .unset, .unset] [(.ref blw21)])) _
    refine own_s_dup Xlw21.here hx (hb hby at_9) (pc' := 10) rfl rfl ?_
    refine stlw22.trans ?_
    show Steps p.tables e below (Tlw22.setTop (mkF m 13 #[.val (.long p0), .second, .val (.long p1), .second, .val (.long p2), .second, .val (.int p3), .val (.int (2 : Int32)), .unset, .unset, .unset, .unset, .unset, .unset, .unset, .unset, .unset, .unset, .unset, .unset] [(.ref blw21)])) _
    refine own_s_astore Xlw22.here hx (hb hby at_13) (pc' := 15) rfl rfl (L' := #[.val (.long p0), .second, .val (.long p1), .second, .val (.long p2), .second, .val (.int p3), .val (.int (2 : Int32)), .val (.ref blw21), .unset, .unset, .unset, .unset, .unset, .unset, .unset, .unset, .unset, .unset, .unset]) rfl ?_
    refine own_s_iload Xlw22.here hx (hb hby at_15) (pc' := 17) rfl rfl ?_
    refine own_s_iconst Xlw22.here hx (hb hby at_17) (pc' := 18) rfl (v := (1 : Int32)) (by decide) ?_
    refine own_s_icmpNo Xlw22.here hx (hb hby at_18) (pc' := 21) rfl (by decide) ?_
    refine own_s_aload Xlw22.here hx (hb hby at_21) (pc' := 23) rfl rfl rfl ?_
    refine own_s_lloadN Xlw22.here hx (hb hby at_23) (pc' := 24) rfl rfl ?_
    refine stlw23.trans ?_
    show Steps p.tables e below (Tlw23.setTop (mkF m 27 #[.val (.long p0), .second, .val (.long p1), .second, .val (.long p2), .second, .val (.int p3), .val (.int (2 : Int32)), .val (.ref blw21), .unset, .unset, .unset, .unset, .unset, .unset, .unset, .unset, .unset, .unset, .unset] [])) _
    refine own_s_iload Xlw23.here hx (hb hby at_27) (pc' := 29) rfl rfl ?_
    refine own_s_iconst Xlw23.here hx (hb hby at_29) (pc' := 30) rfl (v := (2 : Int32)) (by decide) ?_
    refine own_s_icmpNo Xlw23.here hx (hb hby at_30) (pc' := 33) rfl (by decide) ?_
    refine own_s_aload Xlw23.here hx (hb hby at_33) (pc' := 35) rfl rfl rfl ?_
    refine own_s_lloadN Xlw23.here hx (hb hby at_35) (pc' := 36) rfl rfl ?_
    refine stlw24.trans ?_
    show Steps p.tables e below (Tlw24.setTop (mkF m 39 #[.val (.long p0), .second, .val (.long p1), .second, .val (.long p2), .second, .val (.int p3), .val (.int (2 : Int32)), .val (.ref blw21), .unset, .unset, .unset, .unset, .unset, .unset, .unset, .unset, .unset, .unset, .unset] [])) _
    refine own_s_iload Xlw24.here hx (hb hby at_39) (pc' := 41) rfl rfl ?_
    refine own_s_iconst Xlw24.here hx (hb hby at_41) (pc' := 42) rfl (v := (3 : Int32)) (by decide) ?_
    refine own_s_icmpYes Xlw24.here hx (hb hby at_42) (by decide) (pc' := 52) (by decide) (by decide) ?_
    refine own_s_aload Xlw24.here hx (hb hby at_52) (pc' := 54) rfl rfl rfl ?_
    refine stlw25.trans ?_
    show Steps p.tables e below (Tlw25.setTop (mkF m 57 #[.val (.long p0), .second, .val (.long p1), .second, .val (.long p2), .second, .val (.int p3), .val (.int (2 : Int32)), .val (.ref blw21), .unset, .unset, .unset, .unset, .unset, .unset, .unset, .unset, .unset, .unset, .unset] [(.int (0 : Int32))])) _
    refine own_s_ifNo Xlw25.here hx (hb hby at_57) (pc' := 60) rfl (by decide) ?_
    refine own_s_iconst Xlw25.here hx (hb hby at_60) (pc' := 61) rfl (v := (1 : Int32)) (by decide) ?_
    refine own_s_goto Xlw25.here hx (hb hby at_61) (by decide) (pc' := 65) (by decide) ?_
    refine own_s_istore Xlw25.here hx (hb hby at_65) (pc' := 67) rfl (L' := #[.val (.long p0), .second, .val (.long p1), .second, .val (.long p2), .second, .val (.int p3), .val (.int (2 : Int32)), .val (.ref blw21), .val (.int (1 : Int32)), .unset, .unset, .unset, .unset, .unset, .unset, .unset, .unset, .unset, .unset]) rfl ?_
    refine stlw26 _ ?_
    show Steps p.tables e below (Tlw26.setTop (mkF m 70 #[.val (.long p0), .second, .val (.long p1), .second, .val (.long p2), .second, .val (.int p3), .val (.int (2 : Int32)), .val (.ref blw21), .val (.int (1 : Int32)), .unset, .unset, .unset, .unset, .unset, .unset, .unset, .unset, .unset, .unset] [(.ref blw26)])) _
    refine own_s_dup Xlw26.here hx (hb hby at_70) (pc' := 71) rfl rfl ?_
    refine stlw27.trans ?_
    show Steps p.tables e below (Tlw27.setTop (mkF m 74 #[.val (.long p0), .second, .val (.long p1), .second, .val (.long p2), .second, .val (.int p3), .val (.int (2 : Int32)), .val (.ref blw21), .val (.int (1 : Int32)), .unset, .unset, .unset, .unset, .unset, .unset, .unset, .unset, .unset, .unset] [(.ref blw26)])) _
    refine own_s_astore Xlw27.here hx (hb hby at_74) (pc' := 76) rfl rfl (L' := #[.val (.long p0), .second, .val (.long p1), .second, .val (.long p2), .second, .val (.int p3), .val (.int (2 : Int32)), .val (.ref blw21), .val (.int (1 : Int32)), .val (.ref blw26), .unset, .unset, .unset, .unset, .unset, .unset, .unset, .unset, .unset]) rfl ?_
    refine stlw28 _ ?_
    show Steps p.tables e below (Tlw28.setTop (mkF m 79 #[.val (.long p0), .second, .val (.long p1), .second, .val (.long p2), .second, .val (.int p3), .val (.int (2 : Int32)), .val (.ref blw21), .val (.int (1 : Int32)), .val (.ref blw26), .unset, .unset, .unset, .unset, .unset, .unset, .unset, .unset, .unset] [(.ref blw28)])) _
    refine own_s_dup Xlw28.here hx (hb hby at_79) (pc' := 80) rfl rfl ?_
    refine stlw29.trans ?_
    show Steps p.tables e below (Tlw29.setTop (mkF m 83 #[.val (.long p0), .second, .val (.long p1), .second, .val (.long p2), .second, .val (.int p3), .val (.int (2 : Int32)), .val (.ref blw21), .val (.int (1 : Int32)), .val (.ref blw26), .unset, .unset, .unset, .unset, .unset, .unset, .unset, .unset, .unset] [(.ref blw28)])) _
    refine own_s_astore Xlw29.here hx (hb hby at_83) (pc' := 85) rfl rfl (L' := #[.val (.long p0), .second, .val (.long p1), .second, .val (.long p2), .second, .val (.int p3), .val (.int (2 : Int32)), .val (.ref blw21), .val (.int (1 : Int32)), .val (.ref blw26), .val (.ref blw28), .unset, .unset, .unset, .unset, .unset, .unset, .unset, .unset]) rfl ?_
    refine own_s_aload Xlw29.here hx (hb hby at_85) (pc' := 87) rfl rfl rfl ?_
    refine own_s_aload Xlw29.here hx (hb hby at_87) (pc' := 89) rfl rfl rfl ?_
    refine own_s_aload Xlw29.here hx (hb hby at_89) (pc' := 91) rfl rfl rfl ?_
    refine stlw210.trans ?_
    show Steps p.tables e below (Tlw210.setTop (mkF m 94 #[.val (.long p0), .second, .val (.long p1), .second, .val (.long p2), .second, .val (.int p3), .val (.int (2 : Int32)), .val (.ref blw21), .val (.int (1 : Int32)), .val (.ref blw26), .val (.ref blw28), .unset, .unset, .unset, .unset, .unset, .unset, .unset, .unset] [])) _
    refine own_s_aload Xlw210.here hx (hb hby at_94) (pc' := 96) rfl rfl rfl ?_
    refine stlw211.trans ?_
    show Steps p.tables e below (Tlw211.setTop (mkF m 99 #[.val (.long p0), .second, .val (.long p1), .second, .val (.long p2), .second, .val (.int p3), .val (.int (2 : Int32)), .val (.ref blw21), .val (.int (1 : Int32)), .val (.ref blw26), .val (.ref blw28), .unset, .unset, .unset, .unset, .unset, .unset, .unset, .unset] [(.ref blw211)])) _
    refine own_s_astore Xlw211.here hx (hb hby at_99) (pc' := 101) rfl rfl (L' := #[.val (.long p0), .second, .val (.long p1), .second, .val (.long p2), .second, .val (.int p3), .val (.int (2 : Int32)), .val (.ref blw21), .val (.int (1 : Int32)), .val (.ref blw26), .val (.ref blw28), .val (.ref blw211), .unset, .unset, .unset, .unset, .unset, .unset, .unset]) rfl ?_
    refine own_s_aload Xlw211.here hx (hb hby at_101) (pc' := 103) rfl rfl rfl ?_
    refine stlw212.trans ?_
    show Steps p.tables e below (Tlw212.setTop (mkF m 106 #[.val (.long p0), .second, .val (.long p1), .second, .val (.long p2), .second, .val (.int p3), .val (.int (2 : Int32)), .val (.ref blw21), .val (.int (1 : Int32)), .val (.ref blw26), .val (.ref blw28), .val (.ref blw211), .unset, .unset, .unset, .unset, .unset, .unset, .unset] [(.ref blw212)])) _
    refine own_s_astore Xlw212.here hx (hb hby at_106) (pc' := 108) rfl rfl (L' := #[.val (.long p0), .second, .val (.long p1), .second, .val (.long p2), .second, .val (.int p3), .val (.int (2 : Int32)), .val (.ref blw21), .val (.int (1 : Int32)), .val (.ref blw26), .val (.ref blw28), .val (.ref blw211), .val (.ref blw212), .unset, .unset, .unset, .unset, .unset, .unset]) rfl ?_
    refine own_s_lconst Xlw212.here hx (hb hby at_108) (pc' := 109) rfl (v := (0 : Int64)) (by decide) ?_
    refine own_s_lstore Xlw212.here hx (hb hby at_109) (pc' := 111) rfl (L' := #[.val (.long p0), .second, .val (.long p1), .second, .val (.long p2), .second, .val (.int p3), .val (.int (2 : Int32)), .val (.ref blw21), .val (.int (1 : Int32)), .val (.ref blw26), .val (.ref blw28), .val (.ref blw211), .val (.ref blw212), .val (.long (0 : Int64)), .second, .unset, .unset, .unset, .unset]) rfl ?_
    refine own_s_dconst0 Xlw212.here hx (hb hby at_111) (pc' := 112) rfl  ?_
    refine own_s_dstore Xlw212.here hx (hb hby at_112) (pc' := 114) rfl (L' := #[.val (.long p0), .second, .val (.long p1), .second, .val (.long p2), .second, .val (.int p3), .val (.int (2 : Int32)), .val (.ref blw21), .val (.int (1 : Int32)), .val (.ref blw26), .val (.ref blw28), .val (.ref blw211), .val (.ref blw212), .val (.long (0 : Int64)), .second, .val (.double 0), .second, .unset, .unset]) rfl ?_
    refine own_s_iload Xlw212.here hx (hb hby at_114) (pc' := 116) rfl rfl ?_
    refine own_s_iconst Xlw212.here hx (hb hby at_116) (pc' := 117) rfl (v := (1 : Int32)) (by decide) ?_
    refine own_s_icmpNo Xlw212.here hx (hb hby at_117) (pc' := 120) rfl (by decide) ?_
    refine own_s_lconst Xlw212.here hx (hb hby at_120) (pc' := 121) rfl (v := (0 : Int64)) (by decide) ?_
    refine own_s_lloadN Xlw212.here hx (hb hby at_121) (pc' := 122) rfl rfl ?_
    refine stlw213 _ ?_
    show Steps p.tables e below (Tlw213.setTop (mkF m 125 #[.val (.long p0), .second, .val (.long p1), .second, .val (.long p2), .second, .val (.int p3), .val (.int (2 : Int32)), .val (.ref blw21), .val (.int (1 : Int32)), .val (.ref blw26), .val (.ref blw28), .val (.ref blw211), .val (.ref blw212), .val (.long (0 : Int64)), .second, .val (.double 0), .second, .unset, .unset] [(.long (own_lmax (0 : Int64) p0))])) _
    refine own_s_lstore Xlw213.here hx (hb hby at_125) (pc' := 127) rfl (L' := #[.val (.long p0), .second, .val (.long p1), .second, .val (.long p2), .second, .val (.int p3), .val (.int (2 : Int32)), .val (.ref blw21), .val (.int (1 : Int32)), .val (.ref blw26), .val (.ref blw28), .val (.ref blw211), .val (.ref blw212), .val (.long (0 : Int64)), .second, .val (.double 0), .second, .val (.long (own_lmax (0 : Int64) p0)), .second]) rfl ?_
    refine own_s_lload Xlw213.here hx (hb hby at_127) (pc' := 129) rfl rfl ?_
    refine own_s_lload Xlw213.here hx (hb hby at_129) (pc' := 131) rfl rfl ?_
    refine stlw214 _ ?_
    show Steps p.tables e below (Tlw214.setTop (mkF m 134 #[.val (.long p0), .second, .val (.long p1), .second, .val (.long p2), .second, .val (.int p3), .val (.int (2 : Int32)), .val (.ref blw21), .val (.int (1 : Int32)), .val (.ref blw26), .val (.ref blw28), .val (.ref blw211), .val (.ref blw212), .val (.long (0 : Int64)), .second, .val (.double 0), .second, .val (.long (own_lmax (0 : Int64) p0)), .second] [(.long (own_lmax (0 : Int64) (own_lmax (0 : Int64) p0)))])) _
    refine own_s_lstore Xlw214.here hx (hb hby at_134) (pc' := 136) rfl (L' := #[.val (.long p0), .second, .val (.long p1), .second, .val (.long p2), .second, .val (.int p3), .val (.int (2 : Int32)), .val (.ref blw21), .val (.int (1 : Int32)), .val (.ref blw26), .val (.ref blw28), .val (.ref blw211), .val (.ref blw212), .val (.long (own_lmax (0 : Int64) (own_lmax (0 : Int64) p0))), .second, .val (.double 0), .second, .val (.long (own_lmax (0 : Int64) p0)), .second]) rfl ?_
    refine own_s_dload Xlw214.here hx (hb hby at_136) (pc' := 138) rfl rfl ?_
    refine own_s_lload Xlw214.here hx (hb hby at_138) (pc' := 140) rfl rfl ?_
    refine own_s_l2d Xlw214.here hx (hb hby at_140) (pc' := 141) rfl (v := (FP.l2d (own_lmax (0 : Int64) p0))) rfl ?_
    refine own_s_dadd Xlw214.here hx (hb hby at_141) (pc' := 142) rfl lw2_hn141 (v := lw2_v141) lw2_hv141 ?_
    refine own_s_dstore Xlw214.here hx (hb hby at_142) (pc' := 144) rfl (L' := #[.val (.long p0), .second, .val (.long p1), .second, .val (.long p2), .second, .val (.int p3), .val (.int (2 : Int32)), .val (.ref blw21), .val (.int (1 : Int32)), .val (.ref blw26), .val (.ref blw28), .val (.ref blw211), .val (.ref blw212), .val (.long (own_lmax (0 : Int64) (own_lmax (0 : Int64) p0))), .second, .val (.double lw2_v141), .second, .val (.long (own_lmax (0 : Int64) p0)), .second]) rfl ?_
    refine own_s_iload Xlw214.here hx (hb hby at_144) (pc' := 146) rfl rfl ?_
    refine own_s_iconst Xlw214.here hx (hb hby at_146) (pc' := 147) rfl (v := (2 : Int32)) (by decide) ?_
    refine own_s_icmpNo Xlw214.here hx (hb hby at_147) (pc' := 150) rfl (by decide) ?_
    refine own_s_lconst Xlw214.here hx (hb hby at_150) (pc' := 151) rfl (v := (0 : Int64)) (by decide) ?_
    refine own_s_lloadN Xlw214.here hx (hb hby at_151) (pc' := 152) rfl rfl ?_
    refine stlw215 _ ?_
    show Steps p.tables e below (Tlw215.setTop (mkF m 155 #[.val (.long p0), .second, .val (.long p1), .second, .val (.long p2), .second, .val (.int p3), .val (.int (2 : Int32)), .val (.ref blw21), .val (.int (1 : Int32)), .val (.ref blw26), .val (.ref blw28), .val (.ref blw211), .val (.ref blw212), .val (.long (own_lmax (0 : Int64) (own_lmax (0 : Int64) p0))), .second, .val (.double lw2_v141), .second, .val (.long (own_lmax (0 : Int64) p0)), .second] [(.long (own_lmax (0 : Int64) p1))])) _
    refine own_s_lstore Xlw215.here hx (hb hby at_155) (pc' := 157) rfl (L' := #[.val (.long p0), .second, .val (.long p1), .second, .val (.long p2), .second, .val (.int p3), .val (.int (2 : Int32)), .val (.ref blw21), .val (.int (1 : Int32)), .val (.ref blw26), .val (.ref blw28), .val (.ref blw211), .val (.ref blw212), .val (.long (own_lmax (0 : Int64) (own_lmax (0 : Int64) p0))), .second, .val (.double lw2_v141), .second, .val (.long (own_lmax (0 : Int64) p1)), .second]) rfl ?_
    refine own_s_lload Xlw215.here hx (hb hby at_157) (pc' := 159) rfl rfl ?_
    refine own_s_lload Xlw215.here hx (hb hby at_159) (pc' := 161) rfl rfl ?_
    refine stlw216 _ ?_
    show Steps p.tables e below (Tlw216.setTop (mkF m 164 #[.val (.long p0), .second, .val (.long p1), .second, .val (.long p2), .second, .val (.int p3), .val (.int (2 : Int32)), .val (.ref blw21), .val (.int (1 : Int32)), .val (.ref blw26), .val (.ref blw28), .val (.ref blw211), .val (.ref blw212), .val (.long (own_lmax (0 : Int64) (own_lmax (0 : Int64) p0))), .second, .val (.double lw2_v141), .second, .val (.long (own_lmax (0 : Int64) p1)), .second] [(.long (own_lmax (own_lmax (0 : Int64) (own_lmax (0 : Int64) p0)) (own_lmax (0 : Int64) p1)))])) _
    refine own_s_lstore Xlw216.here hx (hb hby at_164) (pc' := 166) rfl (L' := #[.val (.long p0), .second, .val (.long p1), .second, .val (.long p2), .second, .val (.int p3), .val (.int (2 : Int32)), .val (.ref blw21), .val (.int (1 : Int32)), .val (.ref blw26), .val (.ref blw28), .val (.ref blw211), .val (.ref blw212), .val (.long (own_lmax (own_lmax (0 : Int64) (own_lmax (0 : Int64) p0)) (own_lmax (0 : Int64) p1))), .second, .val (.double lw2_v141), .second, .val (.long (own_lmax (0 : Int64) p1)), .second]) rfl ?_
    refine own_s_dload Xlw216.here hx (hb hby at_166) (pc' := 168) rfl rfl ?_
    refine own_s_lload Xlw216.here hx (hb hby at_168) (pc' := 170) rfl rfl ?_
    refine own_s_l2d Xlw216.here hx (hb hby at_170) (pc' := 171) rfl (v := (FP.l2d (own_lmax (0 : Int64) p1))) rfl ?_
    refine own_s_dadd Xlw216.here hx (hb hby at_171) (pc' := 172) rfl lw2_hn171 (v := lw2_v171) lw2_hv171 ?_
    refine own_s_dstore Xlw216.here hx (hb hby at_172) (pc' := 174) rfl (L' := #[.val (.long p0), .second, .val (.long p1), .second, .val (.long p2), .second, .val (.int p3), .val (.int (2 : Int32)), .val (.ref blw21), .val (.int (1 : Int32)), .val (.ref blw26), .val (.ref blw28), .val (.ref blw211), .val (.ref blw212), .val (.long (own_lmax (own_lmax (0 : Int64) (own_lmax (0 : Int64) p0)) (own_lmax (0 : Int64) p1))), .second, .val (.double lw2_v171), .second, .val (.long (own_lmax (0 : Int64) p1)), .second]) rfl ?_
    refine own_s_iload Xlw216.here hx (hb hby at_174) (pc' := 176) rfl rfl ?_
    refine own_s_iconst Xlw216.here hx (hb hby at_176) (pc' := 177) rfl (v := (3 : Int32)) (by decide) ?_
    refine own_s_icmpYes Xlw216.here hx (hb hby at_177) (by decide) (pc' := 205) (by decide) (by decide) ?_
    refine own_s_iload Xlw216.here hx (hb hby at_205) (pc' := 207) rfl rfl ?_
    refine own_s_ifYes Xlw216.here hx (hb hby at_207) (by decide) (pc' := 214) (by decide) (by decide) ?_
    refine own_s_dload Xlw216.here hx (hb hby at_214) (pc' := 216) rfl rfl ?_
    refine own_s_iload Xlw216.here hx (hb hby at_216) (pc' := 218) rfl rfl ?_
    refine own_s_i2d Xlw216.here hx (hb hby at_218) (pc' := 219) rfl (v := (FP.i2d (2 : Int32))) rfl ?_
    refine own_s_ddiv Xlw216.here hx (hb hby at_219) (pc' := 220) rfl lw2_hn219 (v := lw2_v219) lw2_hv219 ?_
    refine own_s_dstore Xlw216.here hx (hb hby at_220) (pc' := 222) rfl (L' := #[.val (.long p0), .second, .val (.long p1), .second, .val (.long p2), .second, .val (.int p3), .val (.int (2 : Int32)), .val (.ref blw21), .val (.int (1 : Int32)), .val (.ref blw26), .val (.ref blw28), .val (.ref blw211), .val (.ref blw212), .val (.long (own_lmax (own_lmax (0 : Int64) (own_lmax (0 : Int64) p0)) (own_lmax (0 : Int64) p1))), .second, .val (.double lw2_v171), .second, .val (.double lw2_v219), .second]) rfl ?_
    refine own_s_iload Xlw216.here hx (hb hby at_222) (pc' := 224) rfl rfl ?_
    refine own_s_ifNo Xlw216.here hx (hb hby at_224) (pc' := 227) rfl (by decide) ?_
    refine own_s_aload Xlw216.here hx (hb hby at_227) (pc' := 229) rfl rfl rfl ?_
    refine stlw217.trans ?_
    show Steps p.tables e below (Tlw217.setTop (mkF m 232 #[.val (.long p0), .second, .val (.long p1), .second, .val (.long p2), .second, .val (.int p3), .val (.int (2 : Int32)), .val (.ref blw21), .val (.int (1 : Int32)), .val (.ref blw26), .val (.ref blw28), .val (.ref blw211), .val (.ref blw212), .val (.long (own_lmax (own_lmax (0 : Int64) (own_lmax (0 : Int64) p0)) (own_lmax (0 : Int64) p1))), .second, .val (.double lw2_v171), .second, .val (.double lw2_v219), .second] [(.long ((0 + 1) + 1))])) _
    refine own_s_iload Xlw217.here hx (hb hby at_232) (pc' := 234) rfl rfl ?_
    refine own_s_i2l Xlw217.here hx (hb hby at_234) (pc' := 235) rfl (v := (2 : Int64)) (by decide) ?_
    refine own_s_lcmp Xlw217.here hx (hb hby at_235) (pc' := 236) rfl (v := (0 : Int32)) lw2_hc235 ?_
    refine own_s_ifNo Xlw217.here hx (hb hby at_236) (pc' := 239) rfl (by decide) ?_
    refine own_s_aload Xlw217.here hx (hb hby at_239) (pc' := 241) rfl rfl rfl ?_
    refine stlw218.trans ?_
    show Steps p.tables e below (Tlw218.setTop (mkF m 244 #[.val (.long p0), .second, .val (.long p1), .second, .val (.long p2), .second, .val (.int p3), .val (.int (2 : Int32)), .val (.ref blw21), .val (.int (1 : Int32)), .val (.ref blw26), .val (.ref blw28), .val (.ref blw211), .val (.ref blw212), .val (.long (own_lmax (own_lmax (0 : Int64) (own_lmax (0 : Int64) p0)) (own_lmax (0 : Int64) p1))), .second, .val (.double lw2_v171), .second, .val (.double lw2_v219), .second] [(.long (own_lmax (own_lmax 0 (own_lmax (0 : Int64) p0)) (own_lmax (0 : Int64) p1)))])) _
    refine own_s_lload Xlw218.here hx (hb hby at_244) (pc' := 246) rfl rfl ?_
    refine own_s_lcmp Xlw218.here hx (hb hby at_246) (pc' := 247) rfl (v := (0 : Int32)) lw2_hc246 ?_
    refine own_s_ifNo Xlw218.here hx (hb hby at_247) (pc' := 250) rfl (by decide) ?_
    refine own_s_aload Xlw218.here hx (hb hby at_250) (pc' := 252) rfl rfl rfl ?_
    refine stlw219.trans ?_
    show Steps p.tables e below (Tlw219.setTop (mkF m 255 #[.val (.long p0), .second, .val (.long p1), .second, .val (.long p2), .second, .val (.int p3), .val (.int (2 : Int32)), .val (.ref blw21), .val (.int (1 : Int32)), .val (.ref blw26), .val (.ref blw28), .val (.ref blw211), .val (.ref blw212), .val (.long (own_lmax (own_lmax (0 : Int64) (own_lmax (0 : Int64) p0)) (own_lmax (0 : Int64) p1))), .second, .val (.double lw2_v171), .second, .val (.double lw2_v219), .second] [(.double (FP.ddiv (FP.dadd (FP.dadd 0 (FP.l2d (own_lmax (0 : Int64) p0))) (FP.l2d (own_lmax (0 : Int64) p1))) (FP.l2d ((0 + 1) + 1))))])) _
    refine own_s_dload Xlw219.here hx (hb hby at_255) (pc' := 257) rfl rfl ?_
    refine own_s_dcmp Xlw219.here hx (hb hby at_257) (pc' := 258) rfl (v := (0 : Int32)) lw2_hc257 ?_
    refine own_s_ifNo Xlw219.here hx (hb hby at_258) (pc' := 261) rfl (by decide) ?_
    refine own_s_aload Xlw219.here hx (hb hby at_261) (pc' := 263) rfl rfl rfl ?_
    refine stlw220.trans ?_
    show Steps p.tables e below (Tlw220.setTop (mkF m 266 #[.val (.long p0), .second, .val (.long p1), .second, .val (.long p2), .second, .val (.int p3), .val (.int (2 : Int32)), .val (.ref blw21), .val (.int (1 : Int32)), .val (.ref blw26), .val (.ref blw28), .val (.ref blw211), .val (.ref blw212), .val (.long (own_lmax (own_lmax (0 : Int64) (own_lmax (0 : Int64) p0)) (own_lmax (0 : Int64) p1))), .second, .val (.double lw2_v171), .second, .val (.double lw2_v219), .second] [(.long (0 : Int64))])) _
    refine own_s_lconst Xlw220.here hx (hb hby at_266) (pc' := 267) rfl (v := (0 : Int64)) (by decide) ?_
    refine own_s_lcmp Xlw220.here hx (hb hby at_267) (pc' := 268) rfl (v := (0 : Int32)) lw2_hc267 ?_
    refine own_s_ifNo Xlw220.here hx (hb hby at_268) (pc' := 271) rfl (by decide) ?_
    refine own_s_iconst Xlw220.here hx (hb hby at_271) (pc' := 272) rfl (v := (1 : Int32)) (by decide) ?_
    refine own_s_goto Xlw220.here hx (hb hby at_272) (by decide) (pc' := 276) (by decide) ?_
    exact retN Xlw220 hx (t := .boolean) Bd.returns (by simp) (hb hby at_276) hr
  · show own_Q0 n0 _ Tlw220.heap _
    rw [elw220]
    exact ⟨rfl, Nlw220⟩
theorem own_il2 : FP.l2d ((0 + 1) + 1) = FP.i2d (2 : Int32) := by decide +kernel
theorem own_ef_lw3 (m : MethodId) (p0 : Int64) (p1 : Int64) (p2 : Int64) (p3 : Int32) : entryFrame m #[(.long p0), (.long p1), (.long p2), (.int p3)] maxLocals = mkF m 0 #[.val (.long p0), .second, .val (.long p1), .second, .val (.long p2), .second, .val (.int p3), .unset, .unset, .unset, .unset, .unset, .unset, .unset, .unset, .unset, .unset, .unset, .unset, .unset] [] := by first | (simp [entryFrame, mkF, argsToLocals, Value.category, maxLocals]; done) | rfl
set_option maxRecDepth 65536 in
set_option maxHeartbeats 40000000 in
theorem own_rm_lw3 (l : Launch) (Z : State) (a0 : Array Value) (hw : ∀ d ∈ tables_1, d.before a0 Z = true) (ws : List Jvm.Cond) (p0 : Int64) (p1 : Int64) (p2 : Int64) (p3 : Int32) {lw3_v141 : UInt64} {lw3_v171 : UInt64} {lw3_v202 : UInt64} {lw3_v219 : UInt64} (h0 : Heap) (n0 : Nat) (Z0 : n0 ≤ h0.size)  (lw3_hv3 : p3 &&& (3 : Int32) = (3 : Int32)) (lw3_c24_addwait0_hle16 : 0 < (List.replicate 64 (Value.long 0)).length) (lw3_c36_addwait1_hle16 : 1 < ((List.replicate 64 (Value.long 0)).set 0 (.long p0)).length) (lw3_c49_addwait2_hle16 : 2 < (((List.replicate 64 (Value.long 0)).set 0 (.long p0)).set 1 (.long p1)).length) (lw3_hn141 : Jvm.Free.Fl.NoNaN64 (FP.dadd 0 (FP.l2d (own_lmax (0 : Int64) p0)))) (lw3_hv141 : FP.dadd 0 (FP.l2d (own_lmax (0 : Int64) p0)) = lw3_v141) (lw3_hn171 : Jvm.Free.Fl.NoNaN64 (FP.dadd lw3_v141 (FP.l2d (own_lmax (0 : Int64) p1)))) (lw3_hv171 : FP.dadd lw3_v141 (FP.l2d (own_lmax (0 : Int64) p1)) = lw3_v171) (lw3_hn202 : Jvm.Free.Fl.NoNaN64 (FP.dadd lw3_v171 (FP.l2d (own_lmax (0 : Int64) p2)))) (lw3_hv202 : FP.dadd lw3_v171 (FP.l2d (own_lmax (0 : Int64) p2)) = lw3_v202) (lw3_hn219 : Jvm.Free.Fl.NoNaN64 (FP.ddiv lw3_v202 (FP.i2d (3 : Int32)))) (lw3_hv219 : FP.ddiv lw3_v202 (FP.i2d (3 : Int32)) = lw3_v219) (lw3_hc235 : lcmpW (((0 + 1) + 1) + 1) (3 : Int64) = (0 : Int32)) (lw3_hc246 : lcmpW (own_lmax (own_lmax (own_lmax 0 (own_lmax (0 : Int64) p0)) (own_lmax (0 : Int64) p1)) (own_lmax (0 : Int64) p2)) (own_lmax (own_lmax (own_lmax (0 : Int64) (own_lmax (0 : Int64) p0)) (own_lmax (0 : Int64) p1)) (own_lmax (0 : Int64) p2)) = (0 : Int32)) (lw3_hc257 : Op.cmpValue (FP.dcmp (FP.ddiv (FP.dadd (FP.dadd (FP.dadd 0 (FP.l2d (own_lmax (0 : Int64) p0))) (FP.l2d (own_lmax (0 : Int64) p1))) (FP.l2d (own_lmax (0 : Int64) p2))) (FP.l2d (((0 + 1) + 1) + 1))) lw3_v219) .l = (0 : Int32)) (lw3_hc267 : lcmpW (0 : Int64) (0 : Int64) = (0 : Int32)) :
    MetFree l x (head1 (Jvm.Cond.code x code maxLocals ret :: ws) room_1) (fun a U => a = #[(.long p0), (.long p1), (.long p2), (.int p3)] ∧ Z.Warmed39 U.vm ∧ U.heap = h0) (fun _ _ _ _ _ => True) (fun _ U o U' => ∃ v L, o = .returned v ∧ own_Q0 n0 v U'.heap L ∧ FrameEnd U o U' L room_1.cells room_1.slots) := by
  refine MetFree.of_bodySF (plainFor_of_name own_pn_millrace_TimingBufferAddWaitPinLaw) hisR ?_
  intro p e s m args below meth c s₁ Bd hml0 hP hK
  obtain ⟨rfl, hZ, hh⟩ := hP
  have hx := Bd.exec
  have hby := Bd.bytes
  have hml : c.maxLocals = 20 := hml0
  have hown : s.vm.findClass "millrace/TimingBufferAddWaitPinLaw" = some m.cls := findClass_of_methodNamed Bd.named
  have hnm := (name_of_methodNamed Bd.named Bd.method).1
  have X0 : Stand p l e room_1 s m #[(.long p0), (.long p1), (.long p2), (.int p3)] below meth c s₁ [] 0 0 := Stand.of_body Bd
  have e0 : s₁.heap = h0 := by rw [← hh, Bd.state]; rfl
  have N0 := Fr.nil n0
  have pre0 : ∀ t, Steps p.tables e below (s₁.setTop (mkF m 0 #[.val (.long p0), .second, .val (.long p1), .second, .val (.long p2), .second, .val (.int p3), .unset, .unset, .unset, .unset, .unset, .unset, .unset, .unset, .unset, .unset, .unset, .unset, .unset] [])) t → Steps p.tables e below (s₁.setTop (entryFrame m #[(.long p0), (.long p1), (.long p2), (.int p3)] maxLocals)) t := fun t k => castTop (own_ef_lw3 m p0 p1 p2 p3) k
  obtain ⟨Tlw31, hlw31, Xlw31, elw31, Elw31, Alw31, Dlw31, UTlw31, stlw31⟩ := newO X0 hx hZ hown (hw _ (List.mem_of_getElem? (i := 0) rfl)) (hw _ (List.mem_of_getElem? (i := 1) rfl)) (hw _ (List.mem_of_getElem? (i := 2) rfl)) e0 (g := (mkF m 6 #[.val (.long p0), .second, .val (.long p1), .second, .val (.long p2), .second, .val (.int p3), .val (.int (3 : Int32)), .unset, .unset, .unset, .unset, .unset, .unset, .unset, .unset, .unset, .unset, .unset, .unset] [])) rfl (hb hby at_6) (by decide) (by decide)
  obtain ⟨blw31, Glw31⟩ : ∃ z, z = h0.size := ⟨_, rfl⟩
  rw [← Glw31] at Alw31 Dlw31 UTlw31 stlw31
  have g_blw31 : n0 ≤ blw31 := Nat.le_trans Z0 (Nat.le_of_eq Glw31.symm)
  have sz_blw31 : h0.size ≤ blw31 := Nat.le_trans (Keep.refl h0 []).1 (Nat.le_of_eq Glw31.symm)
  have Zlw31 : n0 ≤ hlw31.size := Nat.le_trans Z0 Elw31.1
  have KKlw31 := (Keep.refl h0 []).ext Elw31
  have F_waits_blw31 : Fld Z hlw31 blw31 "millrace/TimingBuffer" "waits" "[J" .null := Dlw31 (Or.inr (hw _ (List.mem_of_getElem? (i := 11) rfl))) (ty := (.array .long)) (by decide)
  have F_runs_blw31 : Fld Z hlw31 blw31 "millrace/TimingBuffer" "runs" "[J" .null := Dlw31 (Or.inr (hw _ (List.mem_of_getElem? (i := 13) rfl))) (ty := (.array .long)) (by decide)
  have F_waitCount_blw31 : Fld Z hlw31 blw31 "millrace/TimingBuffer" "waitCount" "I" (.int (0 : Int32)) := Dlw31 (Or.inl (hw _ (List.mem_of_getElem? (i := 20) rfl))) (ty := .int) (by decide)
  have F_runCount_blw31 : Fld Z hlw31 blw31 "millrace/TimingBuffer" "runCount" "I" (.int (0 : Int32)) := Dlw31 (Or.inl (hw _ (List.mem_of_getElem? (i := 27) rfl))) (ty := .int) (by decide)
  obtain ⟨_, _, ⟨Tlw32, Llw32, klw32, nlw32⟩, -, Xlw32, ⟨Lclw32, hQlw32, llw32, ylw32, zlw32⟩, stlw32⟩ := Xlw31.specialBack hx (y := (⟨"millrace/TimingBuffer", "<init>", "()V"⟩ : MethodName)) rfl hown (mvT hZ (hw _ (List.mem_of_getElem? (i := 3) rfl))) (mvT hZ (hw _ (List.mem_of_getElem? (i := 4) rfl))) (mvT hZ (hw _ (List.mem_of_getElem? (i := 5) rfl))) (by decide) (backOf (W := 1) (own_rm_tbi l Z a0 hw [] blw31 hlw31 n0 Zlw31 Alw31 F_waits_blw31 F_waitCount_blw31 F_runs_blw31 F_runCount_blw31 g_blw31) hZ (hw _ (List.mem_of_getElem? (i := 5) rfl)) (hw _ (List.mem_of_getElem? (i := 2) rfl)) (by decide) (by decide)) (g := (mkF m 10 #[.val (.long p0), .second, .val (.long p1), .second, .val (.long p2), .second, .val (.int p3), .val (.int (3 : Int32)), .unset, .unset, .unset, .unset, .unset, .unset, .unset, .unset, .unset, .unset, .unset, .unset] [(.ref blw31), (.ref blw31)])) rfl (by rw [hml]; rfl) (Steps.refl _) (a := blw31) (argsL := []) (rest := [(.ref blw31)]) (lenOf own_pd_2829V rfl) rfl (by show 2 * 0 + _ ≤ _; exact Nat.le_of_eq rfl) (hb hby at_10) (fun _ _ => ⟨rfl, elw31, (by decide : 1 + 2 ≤ _), (by decide : 4 + 128 ≤ _)⟩)
  dsimp only [Pt.U, Pt.locs, Pt.cells, Pt.slots] at Xlw32 llw32 ylw32 zlw32 stlw32 hQlw32
  rw [llw32, ylw32, zlw32] at Xlw32
  obtain ⟨blw32_1, klw32_1, blw32_0, klw32_0, rfl, Nlw32q, Klw32, qlw32_0, qlw32_1, qlw32_2, qlw32_3, qlw32_4, Glw32_0, Vlw32_0, Glw32_1, Vlw32_1, ne_blw32_0_blw32_1⟩ := hQlw32
  have ne_blw32_1_blw32_0 : blw32_1 ≠ blw32_0 := Ne.symm ne_blw32_0_blw32_1
  have ne_blw31_blw32_0 : blw31 ≠ blw32_0 := Nat.ne_of_lt (Nat.lt_of_lt_of_le Alw31.lt Glw32_0)
  have ne_blw32_0_blw31 : blw32_0 ≠ blw31 := Ne.symm ne_blw31_blw32_0
  have g_blw32_0 : n0 ≤ blw32_0 := Nat.le_trans Zlw31 Glw32_0
  have sz_blw32_0 : h0.size ≤ blw32_0 := Nat.le_trans KKlw31.1 Glw32_0
  have ne_blw31_blw32_1 : blw31 ≠ blw32_1 := Nat.ne_of_lt (Nat.lt_of_lt_of_le Alw31.lt Glw32_1)
  have ne_blw32_1_blw31 : blw32_1 ≠ blw31 := Ne.symm ne_blw31_blw32_1
  have g_blw32_1 : n0 ≤ blw32_1 := Nat.le_trans Zlw31 Glw32_1
  have sz_blw32_1 : h0.size ≤ blw32_1 := Nat.le_trans KKlw31.1 Glw32_1
  have Zlw32 : n0 ≤ Tlw32.heap.size := Nat.le_trans Zlw31 Klw32.1
  have KKlw32 := KKlw31.trans Klw32 (fun q hq => by simp only [List.mem_cons, List.not_mem_nil, or_false] at hq; rcases hq with rfl; exact Or.inr sz_blw31)
  have Nlw32 := Fr.app N0 Nlw32q
  obtain ⟨cqlw33, kqlw33, qlw33a, qlw33b, qlw33c⟩ := isOf hZ rfl qlw32_0
  obtain ⟨_, _, ⟨Tlw33, Llw33, klw33, nlw33⟩, -, Xlw33, ⟨Lclw33, hQlw33, llw33, ylw33, zlw33⟩, stlw33⟩ := Xlw32.virtualBack hx (y := (⟨"millrace/TimingBuffer", "addWait", "(J)V"⟩ : MethodName)) (z := (⟨"millrace/TimingBuffer", "addWait", "(J)V"⟩ : MethodName)) hown (mvT hZ (hw _ (List.mem_of_getElem? (i := 14) rfl))) (mvT hZ (hw _ (List.mem_of_getElem? (i := 15) rfl))) (notFace_of_selects (args := #[]) (mvT hZ (hw _ (List.mem_of_getElem? (i := 17) rfl)))) (mvT hZ (hw _ (List.mem_of_getElem? (i := 17) rfl))) (mvT hZ (hw _ (List.mem_of_getElem? (i := 16) rfl))) (by decide) (backOf (W := 0) (own_rm_addwait0 l Z a0 hw [] blw31 blw32_0 blw32_1 p0 (List.replicate 64 (Value.long 0)) Tlw32.heap n0 Zlw32 qlw32_0 qlw32_1 qlw32_2 qlw32_3 qlw32_4 Vlw32_0 ne_blw31_blw32_0 g_blw31 g_blw32_0 lw3_c24_addwait0_hle16) hZ (hw _ (List.mem_of_getElem? (i := 18) rfl)) (hw _ (List.mem_of_getElem? (i := 2) rfl)) (by decide) (by decide)) qlw33a qlw33c (g := (mkF m 24 #[.val (.long p0), .second, .val (.long p1), .second, .val (.long p2), .second, .val (.int p3), .val (.int (3 : Int32)), .val (.ref blw31), .unset, .unset, .unset, .unset, .unset, .unset, .unset, .unset, .unset, .unset, .unset] [(.long p0), (.ref blw31)])) rfl (by rw [hml]; rfl) (Steps.refl _) (argsL := [(.long p0)]) (rest := []) (lenOf own_pd_28J29V rfl) rfl (by show 2 * 0 + _ ≤ _; exact Nat.le_of_eq rfl) (hb hby at_24) (fun _ _ => ⟨rfl, rfl, (by decide : 3 + 0 ≤ _), (by decide : 132 + 0 ≤ _)⟩)
  dsimp only [Pt.U, Pt.locs, Pt.cells, Pt.slots] at Xlw33 llw33 ylw33 zlw33 stlw33 hQlw33
  rw [llw33, ylw33, zlw33] at Xlw33
  obtain ⟨rfl, Nlw33q, Klw33, qlw33_0, qlw33_1, qlw33_2, qlw33_3, qlw33_4, qlw33_5⟩ := hQlw33
  have V_blw32_1_lw33 := Vlw32_1.keep Klw33 (by simp only [List.mem_cons, List.not_mem_nil, or_false, not_or]; exact ⟨ne_blw32_1_blw31, ne_blw32_1_blw32_0⟩)
  have Zlw33 : n0 ≤ Tlw33.heap.size := Nat.le_trans Zlw32 Klw33.1
  have KKlw33 := KKlw32.trans Klw33 (fun q hq => by simp only [List.mem_cons, List.not_mem_nil, or_false] at hq; rcases hq with rfl | rfl <;> first | exact Or.inr sz_blw31 | exact Or.inr sz_blw32_0)
  have Nlw33 := Fr.app Nlw32 Nlw33q
  obtain ⟨cqlw34, kqlw34, qlw34a, qlw34b, qlw34c⟩ := isOf hZ rfl qlw33_0
  obtain ⟨_, _, ⟨Tlw34, Llw34, klw34, nlw34⟩, -, Xlw34, ⟨Lclw34, hQlw34, llw34, ylw34, zlw34⟩, stlw34⟩ := Xlw33.virtualBack hx (y := (⟨"millrace/TimingBuffer", "addWait", "(J)V"⟩ : MethodName)) (z := (⟨"millrace/TimingBuffer", "addWait", "(J)V"⟩ : MethodName)) hown (mvT hZ (hw _ (List.mem_of_getElem? (i := 14) rfl))) (mvT hZ (hw _ (List.mem_of_getElem? (i := 15) rfl))) (notFace_of_selects (args := #[]) (mvT hZ (hw _ (List.mem_of_getElem? (i := 17) rfl)))) (mvT hZ (hw _ (List.mem_of_getElem? (i := 17) rfl))) (mvT hZ (hw _ (List.mem_of_getElem? (i := 16) rfl))) (by decide) (backOf (W := 0) (own_rm_addwait1 l Z a0 hw [] blw31 blw32_0 blw32_1 p1 ((List.replicate 64 (Value.long 0)).set 0 (.long p0)) Tlw33.heap n0 Zlw33 qlw33_0 qlw33_1 qlw33_2 qlw33_3 qlw33_4 qlw33_5 ne_blw31_blw32_0 g_blw31 g_blw32_0 lw3_c36_addwait1_hle16) hZ (hw _ (List.mem_of_getElem? (i := 18) rfl)) (hw _ (List.mem_of_getElem? (i := 2) rfl)) (by decide) (by decide)) qlw34a qlw34c (g := (mkF m 36 #[.val (.long p0), .second, .val (.long p1), .second, .val (.long p2), .second, .val (.int p3), .val (.int (3 : Int32)), .val (.ref blw31), .unset, .unset, .unset, .unset, .unset, .unset, .unset, .unset, .unset, .unset, .unset] [(.long p1), (.ref blw31)])) rfl (by rw [hml]; rfl) (Steps.refl _) (argsL := [(.long p1)]) (rest := []) (lenOf own_pd_28J29V rfl) rfl (by show 2 * 0 + _ ≤ _; exact Nat.le_of_eq rfl) (hb hby at_36) (fun _ _ => ⟨rfl, rfl, (by decide : 3 + 0 ≤ _), (by decide : 132 + 0 ≤ _)⟩)
  dsimp only [Pt.U, Pt.locs, Pt.cells, Pt.slots] at Xlw34 llw34 ylw34 zlw34 stlw34 hQlw34
  rw [llw34, ylw34, zlw34] at Xlw34
  obtain ⟨rfl, Nlw34q, Klw34, qlw34_0, qlw34_1, qlw34_2, qlw34_3, qlw34_4, qlw34_5⟩ := hQlw34
  have V_blw32_1_lw34 := V_blw32_1_lw33.keep Klw34 (by simp only [List.mem_cons, List.not_mem_nil, or_false, not_or]; exact ⟨ne_blw32_1_blw31, ne_blw32_1_blw32_0⟩)
  have Zlw34 : n0 ≤ Tlw34.heap.size := Nat.le_trans Zlw33 Klw34.1
  have KKlw34 := KKlw33.trans Klw34 (fun q hq => by simp only [List.mem_cons, List.not_mem_nil, or_false] at hq; rcases hq with rfl | rfl <;> first | exact Or.inr sz_blw31 | exact Or.inr sz_blw32_0)
  have Nlw34 := Fr.app Nlw33 Nlw34q
  obtain ⟨cqlw35, kqlw35, qlw35a, qlw35b, qlw35c⟩ := isOf hZ rfl qlw34_0
  obtain ⟨_, _, ⟨Tlw35, Llw35, klw35, nlw35⟩, -, Xlw35, ⟨Lclw35, hQlw35, llw35, ylw35, zlw35⟩, stlw35⟩ := Xlw34.virtualBack hx (y := (⟨"millrace/TimingBuffer", "addWait", "(J)V"⟩ : MethodName)) (z := (⟨"millrace/TimingBuffer", "addWait", "(J)V"⟩ : MethodName)) hown (mvT hZ (hw _ (List.mem_of_getElem? (i := 14) rfl))) (mvT hZ (hw _ (List.mem_of_getElem? (i := 15) rfl))) (notFace_of_selects (args := #[]) (mvT hZ (hw _ (List.mem_of_getElem? (i := 17) rfl)))) (mvT hZ (hw _ (List.mem_of_getElem? (i := 17) rfl))) (mvT hZ (hw _ (List.mem_of_getElem? (i := 16) rfl))) (by decide) (backOf (W := 0) (own_rm_addwait2 l Z a0 hw [] blw31 blw32_0 blw32_1 p2 (((List.replicate 64 (Value.long 0)).set 0 (.long p0)).set 1 (.long p1)) Tlw34.heap n0 Zlw34 qlw34_0 qlw34_1 qlw34_2 qlw34_3 qlw34_4 qlw34_5 ne_blw31_blw32_0 g_blw31 g_blw32_0 lw3_c49_addwait2_hle16) hZ (hw _ (List.mem_of_getElem? (i := 18) rfl)) (hw _ (List.mem_of_getElem? (i := 2) rfl)) (by decide) (by decide)) qlw35a qlw35c (g := (mkF m 49 #[.val (.long p0), .second, .val (.long p1), .second, .val (.long p2), .second, .val (.int p3), .val (.int (3 : Int32)), .val (.ref blw31), .unset, .unset, .unset, .unset, .unset, .unset, .unset, .unset, .unset, .unset, .unset] [(.long p2), (.ref blw31)])) rfl (by rw [hml]; rfl) (Steps.refl _) (argsL := [(.long p2)]) (rest := []) (lenOf own_pd_28J29V rfl) rfl (by show 2 * 0 + _ ≤ _; exact Nat.le_of_eq rfl) (hb hby at_49) (fun _ _ => ⟨rfl, rfl, (by decide : 3 + 0 ≤ _), (by decide : 132 + 0 ≤ _)⟩)
  dsimp only [Pt.U, Pt.locs, Pt.cells, Pt.slots] at Xlw35 llw35 ylw35 zlw35 stlw35 hQlw35
  rw [llw35, ylw35, zlw35] at Xlw35
  obtain ⟨rfl, Nlw35q, Klw35, qlw35_0, qlw35_1, qlw35_2, qlw35_3, qlw35_4, qlw35_5⟩ := hQlw35
  have V_blw32_1_lw35 := V_blw32_1_lw34.keep Klw35 (by simp only [List.mem_cons, List.not_mem_nil, or_false, not_or]; exact ⟨ne_blw32_1_blw31, ne_blw32_1_blw32_0⟩)
  have Zlw35 : n0 ≤ Tlw35.heap.size := Nat.le_trans Zlw34 Klw35.1
  have KKlw35 := KKlw34.trans Klw35 (fun q hq => by simp only [List.mem_cons, List.not_mem_nil, or_false] at hq; rcases hq with rfl | rfl <;> first | exact Or.inr sz_blw31 | exact Or.inr sz_blw32_0)
  have Nlw35 := Fr.app Nlw34 Nlw35q
  obtain ⟨cqlw36, kqlw36, qlw36a, qlw36b, qlw36c⟩ := isOf hZ rfl qlw35_0
  obtain ⟨_, _, ⟨Tlw36, Llw36, klw36, nlw36⟩, -, Xlw36, ⟨Lclw36, hQlw36, llw36, ylw36, zlw36⟩, stlw36⟩ := Xlw35.virtualBack hx (y := (⟨"millrace/TimingBuffer", "full", "()Z"⟩ : MethodName)) (z := (⟨"millrace/TimingBuffer", "full", "()Z"⟩ : MethodName)) hown (mvT hZ (hw _ (List.mem_of_getElem? (i := 21) rfl))) (mvT hZ (hw _ (List.mem_of_getElem? (i := 22) rfl))) (notFace_of_selects (args := #[]) (mvT hZ (hw _ (List.mem_of_getElem? (i := 24) rfl)))) (mvT hZ (hw _ (List.mem_of_getElem? (i := 24) rfl))) (mvT hZ (hw _ (List.mem_of_getElem? (i := 23) rfl))) (by decide) (backOf (W := 0) (own_rm_full30 l Z a0 hw [] blw31 Tlw35.heap n0 Zlw35 qlw35_0 qlw35_2 qlw35_4) hZ (hw _ (List.mem_of_getElem? (i := 25) rfl)) (hw _ (List.mem_of_getElem? (i := 2) rfl)) (by decide) (by decide)) qlw36a qlw36c (g := (mkF m 54 #[.val (.long p0), .second, .val (.long p1), .second, .val (.long p2), .second, .val (.int p3), .val (.int (3 : Int32)), .val (.ref blw31), .unset, .unset, .unset, .unset, .unset, .unset, .unset, .unset, .unset, .unset, .unset] [(.ref blw31)])) rfl (by rw [hml]; rfl) (Steps.refl _) (argsL := []) (rest := []) (lenOf own_pd_2829Z rfl) rfl (by show 2 * 0 + _ ≤ _; exact Nat.le_of_eq rfl) (hb hby at_54) (fun _ _ => ⟨rfl, rfl, (by decide : 3 + 0 ≤ _), (by decide : 132 + 0 ≤ _)⟩)
  dsimp only [Pt.U, Pt.locs, Pt.cells, Pt.slots] at Xlw36 llw36 ylw36 zlw36 stlw36 hQlw36
  rw [llw36, ylw36, zlw36] at Xlw36
  obtain ⟨rfl, Nlw36q, elw36⟩ := hQlw36
  have Nlw36 := Fr.app Nlw35 Nlw36q
  obtain ⟨Tlw37, hlw37, Xlw37, elw37, Elw37, Alw37, Dlw37, UTlw37, stlw37⟩ := newO Xlw36 hx hZ hown (hw _ (List.mem_of_getElem? (i := 28) rfl)) (hw _ (List.mem_of_getElem? (i := 29) rfl)) (hw _ (List.mem_of_getElem? (i := 30) rfl)) elw36 (g := (mkF m 67 #[.val (.long p0), .second, .val (.long p1), .second, .val (.long p2), .second, .val (.int p3), .val (.int (3 : Int32)), .val (.ref blw31), .val (.int (1 : Int32)), .unset, .unset, .unset, .unset, .unset, .unset, .unset, .unset, .unset, .unset] [])) rfl (hb hby at_67) (by decide) (by decide)
  obtain ⟨blw37, Glw37⟩ : ∃ z, z = Tlw35.heap.size := ⟨_, rfl⟩
  rw [← Glw37] at Alw37 Dlw37 UTlw37 stlw37
  have ne_blw32_0_blw37 : blw32_0 ≠ blw37 := Nat.ne_of_lt (Nat.lt_of_lt_of_le qlw35_5.lt (Nat.le_of_eq Glw37.symm))
  have ne_blw37_blw32_0 : blw37 ≠ blw32_0 := Ne.symm ne_blw32_0_blw37
  have ne_blw32_1_blw37 : blw32_1 ≠ blw37 := Nat.ne_of_lt (Nat.lt_of_lt_of_le V_blw32_1_lw35.lt (Nat.le_of_eq Glw37.symm))
  have ne_blw37_blw32_1 : blw37 ≠ blw32_1 := Ne.symm ne_blw32_1_blw37
  have ne_blw31_blw37 : blw31 ≠ blw37 := Nat.ne_of_lt (Nat.lt_of_lt_of_le qlw35_0.lt (Nat.le_of_eq Glw37.symm))
  have ne_blw37_blw31 : blw37 ≠ blw31 := Ne.symm ne_blw31_blw37
  have g_blw37 : n0 ≤ blw37 := Nat.le_trans Zlw35 (Nat.le_of_eq Glw37.symm)
  have sz_blw37 : h0.size ≤ blw37 := Nat.le_trans KKlw35.1 (Nat.le_of_eq Glw37.symm)
  have V_blw32_0_lw37 := qlw35_5.ext Elw37
  have V_blw32_1_lw37 := V_blw32_1_lw35.ext Elw37
  have E_blw31_lw37 := qlw35_0.ext Elw37
  have F_waits_blw31_lw37 := qlw35_1.ext Elw37
  have F_runs_blw31_lw37 := qlw35_3.ext Elw37
  have F_waitCount_blw31_lw37 := qlw35_2.ext Elw37
  have F_runCount_blw31_lw37 := qlw35_4.ext Elw37
  have Zlw37 : n0 ≤ hlw37.size := Nat.le_trans Zlw35 Elw37.1
  have KKlw37 := KKlw35.ext Elw37
  have F_ranges_blw37 : Fld Z hlw37 blw37 "millrace/DurationHistogram" "ranges" "[[J" .null := Dlw37 (Or.inr (hw _ (List.mem_of_getElem? (i := 38) rfl))) (ty := (.array (.array .long))) (by decide)
  have F_count_blw37 : Fld Z hlw37 blw37 "millrace/DurationHistogram" "count" "J" (.long (0 : Int64)) := Dlw37 (Or.inl (hw _ (List.mem_of_getElem? (i := 74) rfl))) (ty := .long) (by decide)
  have F_sum_blw37 : Fld Z hlw37 blw37 "millrace/DurationHistogram" "sum" "D" (.double 0) := Dlw37 (Or.inl (hw _ (List.mem_of_getElem? (i := 76) rfl))) (ty := .double) (by decide)
  have F_max_blw37 : Fld Z hlw37 blw37 "millrace/DurationHistogram" "max" "J" (.long (0 : Int64)) := Dlw37 (Or.inl (hw _ (List.mem_of_getElem? (i := 78) rfl))) (ty := .long) (by decide)
  obtain ⟨_, _, ⟨Tlw38, Llw38, klw38, nlw38⟩, -, Xlw38, ⟨Lclw38, hQlw38, llw38, ylw38, zlw38⟩, stlw38⟩ := Xlw37.specialBack hx (y := (⟨"millrace/DurationHistogram", "<init>", "()V"⟩ : MethodName)) rfl hown (mvT hZ (hw _ (List.mem_of_getElem? (i := 31) rfl))) (mvT hZ (hw _ (List.mem_of_getElem? (i := 32) rfl))) (mvT hZ (hw _ (List.mem_of_getElem? (i := 33) rfl))) (by decide) (backOf (W := 1) (own_rm_dhi l Z a0 hw [] blw37 hlw37 n0 Zlw37 Alw37 UTlw37 F_ranges_blw37 F_count_blw37 F_sum_blw37 F_max_blw37 g_blw37) hZ (hw _ (List.mem_of_getElem? (i := 33) rfl)) (hw _ (List.mem_of_getElem? (i := 30) rfl)) (by decide) (by decide)) (g := (mkF m 71 #[.val (.long p0), .second, .val (.long p1), .second, .val (.long p2), .second, .val (.int p3), .val (.int (3 : Int32)), .val (.ref blw31), .val (.int (1 : Int32)), .unset, .unset, .unset, .unset, .unset, .unset, .unset, .unset, .unset, .unset] [(.ref blw37), (.ref blw37)])) rfl (by rw [hml]; rfl) (Steps.refl _) (a := blw37) (argsL := []) (rest := [(.ref blw37)]) (lenOf own_pd_2829V rfl) rfl (by show 2 * 0 + _ ≤ _; exact Nat.le_of_eq rfl) (hb hby at_71) (fun _ _ => ⟨rfl, elw37, (by decide : 4 + 1 ≤ _), (by decide : 136 + 57 ≤ _)⟩)
  dsimp only [Pt.U, Pt.locs, Pt.cells, Pt.slots] at Xlw38 llw38 ylw38 zlw38 stlw38 hQlw38
  rw [llw38, ylw38, zlw38] at Xlw38
  obtain ⟨blw38_0, klw38_0, rfl, Nlw38q, Klw38, qlw38_0, qlw38_1, qlw38_2, qlw38_3, qlw38_4, qlw38_5, Glw38_0, Vlw38_0, Olw38_0⟩ := hQlw38
  have ne_blw32_0_blw38_0 : blw32_0 ≠ blw38_0 := Nat.ne_of_lt (Nat.lt_of_lt_of_le V_blw32_0_lw37.lt Glw38_0)
  have ne_blw38_0_blw32_0 : blw38_0 ≠ blw32_0 := Ne.symm ne_blw32_0_blw38_0
  have ne_blw32_1_blw38_0 : blw32_1 ≠ blw38_0 := Nat.ne_of_lt (Nat.lt_of_lt_of_le V_blw32_1_lw37.lt Glw38_0)
  have ne_blw38_0_blw32_1 : blw38_0 ≠ blw32_1 := Ne.symm ne_blw32_1_blw38_0
  have ne_blw31_blw38_0 : blw31 ≠ blw38_0 := Nat.ne_of_lt (Nat.lt_of_lt_of_le E_blw31_lw37.lt Glw38_0)
  have ne_blw38_0_blw31 : blw38_0 ≠ blw31 := Ne.symm ne_blw31_blw38_0
  have ne_blw37_blw38_0 : blw37 ≠ blw38_0 := Nat.ne_of_lt (Nat.lt_of_lt_of_le Alw37.lt Glw38_0)
  have ne_blw38_0_blw37 : blw38_0 ≠ blw37 := Ne.symm ne_blw37_blw38_0
  have g_blw38_0 : n0 ≤ blw38_0 := Nat.le_trans Zlw37 Glw38_0
  have sz_blw38_0 : h0.size ≤ blw38_0 := Nat.le_trans KKlw37.1 Glw38_0
  have V_blw32_0_lw38 := V_blw32_0_lw37.keep Klw38 (by simp only [List.mem_cons, List.not_mem_nil, or_false, not_or]; exact ne_blw32_0_blw37)
  have V_blw32_1_lw38 := V_blw32_1_lw37.keep Klw38 (by simp only [List.mem_cons, List.not_mem_nil, or_false, not_or]; exact ne_blw32_1_blw37)
  have E_blw31_lw38 := E_blw31_lw37.keep Klw38
  have F_waits_blw31_lw38 := F_waits_blw31_lw37.keep Klw38 (by simp only [List.mem_cons, List.not_mem_nil, or_false, not_or]; exact ne_blw31_blw37)
  have F_runs_blw31_lw38 := F_runs_blw31_lw37.keep Klw38 (by simp only [List.mem_cons, List.not_mem_nil, or_false, not_or]; exact ne_blw31_blw37)
  have F_waitCount_blw31_lw38 := F_waitCount_blw31_lw37.keep Klw38 (by simp only [List.mem_cons, List.not_mem_nil, or_false, not_or]; exact ne_blw31_blw37)
  have F_runCount_blw31_lw38 := F_runCount_blw31_lw37.keep Klw38 (by simp only [List.mem_cons, List.not_mem_nil, or_false, not_or]; exact ne_blw31_blw37)
  have Zlw38 : n0 ≤ Tlw38.heap.size := Nat.le_trans Zlw37 Klw38.1
  have KKlw38 := KKlw37.trans Klw38 (fun q hq => by simp only [List.mem_cons, List.not_mem_nil, or_false] at hq; rcases hq with rfl; exact Or.inr sz_blw37)
  have Nlw38 := Fr.app Nlw36 Nlw38q
  obtain ⟨Tlw39, hlw39, Xlw39, elw39, Elw39, Alw39, Dlw39, UTlw39, stlw39⟩ := newO Xlw38 hx hZ hown (hw _ (List.mem_of_getElem? (i := 28) rfl)) (hw _ (List.mem_of_getElem? (i := 29) rfl)) (hw _ (List.mem_of_getElem? (i := 30) rfl)) rfl (g := (mkF m 76 #[.val (.long p0), .second, .val (.long p1), .second, .val (.long p2), .second, .val (.int p3), .val (.int (3 : Int32)), .val (.ref blw31), .val (.int (1 : Int32)), .val (.ref blw37), .unset, .unset, .unset, .unset, .unset, .unset, .unset, .unset, .unset] [])) rfl (hb hby at_76) (by decide) (by decide)
  obtain ⟨blw39, Glw39⟩ : ∃ z, z = Tlw38.heap.size := ⟨_, rfl⟩
  rw [← Glw39] at Alw39 Dlw39 UTlw39 stlw39
  have ne_blw32_0_blw39 : blw32_0 ≠ blw39 := Nat.ne_of_lt (Nat.lt_of_lt_of_le V_blw32_0_lw38.lt (Nat.le_of_eq Glw39.symm))
  have ne_blw39_blw32_0 : blw39 ≠ blw32_0 := Ne.symm ne_blw32_0_blw39
  have ne_blw32_1_blw39 : blw32_1 ≠ blw39 := Nat.ne_of_lt (Nat.lt_of_lt_of_le V_blw32_1_lw38.lt (Nat.le_of_eq Glw39.symm))
  have ne_blw39_blw32_1 : blw39 ≠ blw32_1 := Ne.symm ne_blw32_1_blw39
  have ne_blw38_0_blw39 : blw38_0 ≠ blw39 := Nat.ne_of_lt (Nat.lt_of_lt_of_le Vlw38_0.lt (Nat.le_of_eq Glw39.symm))
  have ne_blw39_blw38_0 : blw39 ≠ blw38_0 := Ne.symm ne_blw38_0_blw39
  have ne_blw31_blw39 : blw31 ≠ blw39 := Nat.ne_of_lt (Nat.lt_of_lt_of_le E_blw31_lw38.lt (Nat.le_of_eq Glw39.symm))
  have ne_blw39_blw31 : blw39 ≠ blw31 := Ne.symm ne_blw31_blw39
  have ne_blw37_blw39 : blw37 ≠ blw39 := Nat.ne_of_lt (Nat.lt_of_lt_of_le qlw38_1.lt (Nat.le_of_eq Glw39.symm))
  have ne_blw39_blw37 : blw39 ≠ blw37 := Ne.symm ne_blw37_blw39
  have g_blw39 : n0 ≤ blw39 := Nat.le_trans Zlw38 (Nat.le_of_eq Glw39.symm)
  have sz_blw39 : h0.size ≤ blw39 := Nat.le_trans KKlw38.1 (Nat.le_of_eq Glw39.symm)
  have V_blw32_0_lw39 := V_blw32_0_lw38.ext Elw39
  have V_blw32_1_lw39 := V_blw32_1_lw38.ext Elw39
  have V_blw38_0_lw39 := Vlw38_0.ext Elw39
  have E_blw31_lw39 := E_blw31_lw38.ext Elw39
  have F_waits_blw31_lw39 := F_waits_blw31_lw38.ext Elw39
  have F_runs_blw31_lw39 := F_runs_blw31_lw38.ext Elw39
  have F_waitCount_blw31_lw39 := F_waitCount_blw31_lw38.ext Elw39
  have F_runCount_blw31_lw39 := F_runCount_blw31_lw38.ext Elw39
  have E_blw37_lw39 := qlw38_1.ext Elw39
  have U_blw37_lw39 := Unt.ext Elw39 qlw38_0
  have F_ranges_blw37_lw39 := qlw38_2.ext Elw39
  have F_count_blw37_lw39 := qlw38_3.ext Elw39
  have F_sum_blw37_lw39 := qlw38_4.ext Elw39
  have F_max_blw37_lw39 := qlw38_5.ext Elw39
  have Zlw39 : n0 ≤ hlw39.size := Nat.le_trans Zlw38 Elw39.1
  have KKlw39 := KKlw38.ext Elw39
  have F_ranges_blw39 : Fld Z hlw39 blw39 "millrace/DurationHistogram" "ranges" "[[J" .null := Dlw39 (Or.inr (hw _ (List.mem_of_getElem? (i := 38) rfl))) (ty := (.array (.array .long))) (by decide)
  have F_count_blw39 : Fld Z hlw39 blw39 "millrace/DurationHistogram" "count" "J" (.long (0 : Int64)) := Dlw39 (Or.inl (hw _ (List.mem_of_getElem? (i := 74) rfl))) (ty := .long) (by decide)
  have F_sum_blw39 : Fld Z hlw39 blw39 "millrace/DurationHistogram" "sum" "D" (.double 0) := Dlw39 (Or.inl (hw _ (List.mem_of_getElem? (i := 76) rfl))) (ty := .double) (by decide)
  have F_max_blw39 : Fld Z hlw39 blw39 "millrace/DurationHistogram" "max" "J" (.long (0 : Int64)) := Dlw39 (Or.inl (hw _ (List.mem_of_getElem? (i := 78) rfl))) (ty := .long) (by decide)
  obtain ⟨_, _, ⟨Tlw310, Llw310, klw310, nlw310⟩, -, Xlw310, ⟨Lclw310, hQlw310, llw310, ylw310, zlw310⟩, stlw310⟩ := Xlw39.specialBack hx (y := (⟨"millrace/DurationHistogram", "<init>", "()V"⟩ : MethodName)) rfl hown (mvT hZ (hw _ (List.mem_of_getElem? (i := 31) rfl))) (mvT hZ (hw _ (List.mem_of_getElem? (i := 32) rfl))) (mvT hZ (hw _ (List.mem_of_getElem? (i := 33) rfl))) (by decide) (backOf (W := 1) (own_rm_dhi l Z a0 hw [] blw39 hlw39 n0 Zlw39 Alw39 UTlw39 F_ranges_blw39 F_count_blw39 F_sum_blw39 F_max_blw39 g_blw39) hZ (hw _ (List.mem_of_getElem? (i := 33) rfl)) (hw _ (List.mem_of_getElem? (i := 30) rfl)) (by decide) (by decide)) (g := (mkF m 80 #[.val (.long p0), .second, .val (.long p1), .second, .val (.long p2), .second, .val (.int p3), .val (.int (3 : Int32)), .val (.ref blw31), .val (.int (1 : Int32)), .val (.ref blw37), .unset, .unset, .unset, .unset, .unset, .unset, .unset, .unset, .unset] [(.ref blw39), (.ref blw39)])) rfl (by rw [hml]; rfl) (Steps.refl _) (a := blw39) (argsL := []) (rest := [(.ref blw39)]) (lenOf own_pd_2829V rfl) rfl (by show 2 * 0 + _ ≤ _; exact Nat.le_of_eq rfl) (hb hby at_80) (fun _ _ => ⟨rfl, elw39, (by decide : 6 + 1 ≤ _), (by decide : 197 + 57 ≤ _)⟩)
  dsimp only [Pt.U, Pt.locs, Pt.cells, Pt.slots] at Xlw310 llw310 ylw310 zlw310 stlw310 hQlw310
  rw [llw310, ylw310, zlw310] at Xlw310
  obtain ⟨blw310_0, klw310_0, rfl, Nlw310q, Klw310, qlw310_0, qlw310_1, qlw310_2, qlw310_3, qlw310_4, qlw310_5, Glw310_0, Vlw310_0, Olw310_0⟩ := hQlw310
  have ne_blw32_0_blw310_0 : blw32_0 ≠ blw310_0 := Nat.ne_of_lt (Nat.lt_of_lt_of_le V_blw32_0_lw39.lt Glw310_0)
  have ne_blw310_0_blw32_0 : blw310_0 ≠ blw32_0 := Ne.symm ne_blw32_0_blw310_0
  have ne_blw32_1_blw310_0 : blw32_1 ≠ blw310_0 := Nat.ne_of_lt (Nat.lt_of_lt_of_le V_blw32_1_lw39.lt Glw310_0)
  have ne_blw310_0_blw32_1 : blw310_0 ≠ blw32_1 := Ne.symm ne_blw32_1_blw310_0
  have ne_blw38_0_blw310_0 : blw38_0 ≠ blw310_0 := Nat.ne_of_lt (Nat.lt_of_lt_of_le V_blw38_0_lw39.lt Glw310_0)
  have ne_blw310_0_blw38_0 : blw310_0 ≠ blw38_0 := Ne.symm ne_blw38_0_blw310_0
  have ne_blw31_blw310_0 : blw31 ≠ blw310_0 := Nat.ne_of_lt (Nat.lt_of_lt_of_le E_blw31_lw39.lt Glw310_0)
  have ne_blw310_0_blw31 : blw310_0 ≠ blw31 := Ne.symm ne_blw31_blw310_0
  have ne_blw37_blw310_0 : blw37 ≠ blw310_0 := Nat.ne_of_lt (Nat.lt_of_lt_of_le E_blw37_lw39.lt Glw310_0)
  have ne_blw310_0_blw37 : blw310_0 ≠ blw37 := Ne.symm ne_blw37_blw310_0
  have ne_blw39_blw310_0 : blw39 ≠ blw310_0 := Nat.ne_of_lt (Nat.lt_of_lt_of_le Alw39.lt Glw310_0)
  have ne_blw310_0_blw39 : blw310_0 ≠ blw39 := Ne.symm ne_blw39_blw310_0
  have g_blw310_0 : n0 ≤ blw310_0 := Nat.le_trans Zlw39 Glw310_0
  have sz_blw310_0 : h0.size ≤ blw310_0 := Nat.le_trans KKlw39.1 Glw310_0
  have V_blw32_0_lw310 := V_blw32_0_lw39.keep Klw310 (by simp only [List.mem_cons, List.not_mem_nil, or_false, not_or]; exact ne_blw32_0_blw39)
  have V_blw32_1_lw310 := V_blw32_1_lw39.keep Klw310 (by simp only [List.mem_cons, List.not_mem_nil, or_false, not_or]; exact ne_blw32_1_blw39)
  have V_blw38_0_lw310 := V_blw38_0_lw39.keep Klw310 (by simp only [List.mem_cons, List.not_mem_nil, or_false, not_or]; exact ne_blw38_0_blw39)
  have E_blw31_lw310 := E_blw31_lw39.keep Klw310
  have F_waits_blw31_lw310 := F_waits_blw31_lw39.keep Klw310 (by simp only [List.mem_cons, List.not_mem_nil, or_false, not_or]; exact ne_blw31_blw39)
  have F_runs_blw31_lw310 := F_runs_blw31_lw39.keep Klw310 (by simp only [List.mem_cons, List.not_mem_nil, or_false, not_or]; exact ne_blw31_blw39)
  have F_waitCount_blw31_lw310 := F_waitCount_blw31_lw39.keep Klw310 (by simp only [List.mem_cons, List.not_mem_nil, or_false, not_or]; exact ne_blw31_blw39)
  have F_runCount_blw31_lw310 := F_runCount_blw31_lw39.keep Klw310 (by simp only [List.mem_cons, List.not_mem_nil, or_false, not_or]; exact ne_blw31_blw39)
  have E_blw37_lw310 := E_blw37_lw39.keep Klw310
  have U_blw37_lw310 := Unt.keep Klw310 (by simp only [List.mem_cons, List.not_mem_nil, or_false, not_or]; exact ne_blw37_blw39) U_blw37_lw39
  have F_ranges_blw37_lw310 := F_ranges_blw37_lw39.keep Klw310 (by simp only [List.mem_cons, List.not_mem_nil, or_false, not_or]; exact ne_blw37_blw39)
  have F_count_blw37_lw310 := F_count_blw37_lw39.keep Klw310 (by simp only [List.mem_cons, List.not_mem_nil, or_false, not_or]; exact ne_blw37_blw39)
  have F_sum_blw37_lw310 := F_sum_blw37_lw39.keep Klw310 (by simp only [List.mem_cons, List.not_mem_nil, or_false, not_or]; exact ne_blw37_blw39)
  have F_max_blw37_lw310 := F_max_blw37_lw39.keep Klw310 (by simp only [List.mem_cons, List.not_mem_nil, or_false, not_or]; exact ne_blw37_blw39)
  have Zlw310 : n0 ≤ Tlw310.heap.size := Nat.le_trans Zlw39 Klw310.1
  have KKlw310 := KKlw39.trans Klw310 (fun q hq => by simp only [List.mem_cons, List.not_mem_nil, or_false] at hq; rcases hq with rfl; exact Or.inr sz_blw39)
  have Nlw310 := Fr.app Nlw38 Nlw310q
  have HH1 : own_Hist Z Tlw310.heap blw37 blw38_0 [] 0 0 0 0 := ⟨E_blw37_lw310, F_ranges_blw37_lw310, F_count_blw37_lw310, F_sum_blw37_lw310, F_max_blw37_lw310, ⟨_, _, V_blw38_0_lw310, Olw38_0, List.length_replicate, own_Bks.nulls 57⟩, ne_blw37_blw38_0, (fun q => nomatch q), (fun q => nomatch q)⟩
  have HG1 : own_G n0 blw37 blw38_0 [] := ⟨g_blw37, g_blw38_0, fun _ q => nomatch q⟩
  have lt_blw37 := E_blw37_lw310.lt
  have HH2 : own_Hist Z Tlw310.heap blw39 blw310_0 [] 0 0 0 0 := ⟨qlw310_1, qlw310_2, qlw310_3, qlw310_4, qlw310_5, ⟨_, _, Vlw310_0, Olw310_0, List.length_replicate, own_Bks.nulls 57⟩, ne_blw39_blw310_0, (fun q => nomatch q), (fun q => nomatch q)⟩
  have HG2 : own_G n0 blw39 blw310_0 [] := ⟨g_blw39, g_blw310_0, fun _ q => nomatch q⟩
  have lt_blw39 := qlw310_1.lt
  obtain ⟨cqlw311, kqlw311, qlw311a, qlw311b, qlw311c⟩ := isOf hZ rfl E_blw31_lw310
  obtain ⟨_, _, ⟨Tlw311, Llw311, klw311, nlw311⟩, -, Xlw311, ⟨Lclw311, hQlw311, llw311, ylw311, zlw311⟩, stlw311⟩ := Xlw310.virtualBack hx (y := (⟨"millrace/TimingBuffer", "flush", "(Lmillrace/DurationHistogram;Lmillrace/DurationHistogram;)V"⟩ : MethodName)) (z := (⟨"millrace/TimingBuffer", "flush", "(Lmillrace/DurationHistogram;Lmillrace/DurationHistogram;)V"⟩ : MethodName)) hown (mvT hZ (hw _ (List.mem_of_getElem? (i := 39) rfl))) (mvT hZ (hw _ (List.mem_of_getElem? (i := 40) rfl))) (notFace_of_selects (args := #[]) (mvT hZ (hw _ (List.mem_of_getElem? (i := 42) rfl)))) (mvT hZ (hw _ (List.mem_of_getElem? (i := 42) rfl))) (mvT hZ (hw _ (List.mem_of_getElem? (i := 41) rfl))) (by decide) (backOf (W := 0) (own_rm_fl3 l Z a0 hw [] blw31 blw32_0 blw32_1 blw37 blw39 ((((List.replicate 64 (Value.long 0)).set 0 (.long p0)).set 1 (.long p1)).set 2 (.long p2)) (List.replicate 64 (Value.long 0)) blw38_0 blw310_0 (fl3_c9_rc3_v10 := p0) (fl3_c9_rc3_v10_2 := p1) (fl3_c9_rc3_v10_3 := p2) Tlw310.heap n0 Zlw310 E_blw31_lw310 F_waits_blw31_lw310 F_waitCount_blw31_lw310 F_runs_blw31_lw310 F_runCount_blw31_lw310 E_blw37_lw310 qlw310_1 V_blw32_0_lw310 V_blw32_1_lw310 ne_blw31_blw32_0 ne_blw31_blw32_1 ne_blw31_blw37 ne_blw31_blw38_0 ne_blw31_blw39 ne_blw31_blw310_0 ne_blw32_0_blw37 ne_blw32_0_blw38_0 ne_blw32_0_blw39 ne_blw32_0_blw310_0 ne_blw32_1_blw37 ne_blw32_1_blw38_0 ne_blw32_1_blw39 ne_blw32_1_blw310_0 ne_blw37_blw39 ne_blw37_blw310_0 ne_blw38_0_blw39 ne_blw38_0_blw310_0 g_blw31 HH1 U_blw37_lw310 HH2 qlw310_0 HG1 HG2 (by rfl) (by rfl) (by rfl)) hZ (hw _ (List.mem_of_getElem? (i := 43) rfl)) (hw _ (List.mem_of_getElem? (i := 2) rfl)) (by decide) (by decide)) qlw311a qlw311c (g := (mkF m 91 #[.val (.long p0), .second, .val (.long p1), .second, .val (.long p2), .second, .val (.int p3), .val (.int (3 : Int32)), .val (.ref blw31), .val (.int (1 : Int32)), .val (.ref blw37), .val (.ref blw39), .unset, .unset, .unset, .unset, .unset, .unset, .unset, .unset] [(.ref blw39), (.ref blw37), (.ref blw31)])) rfl (by rw [hml]; rfl) (Steps.refl _) (argsL := [(.ref blw37), (.ref blw39)]) (rest := []) (lenOf own_pd_28Lmillrace2fDurationHistogram3bLmillrace2fDurationHistogram3b29V rfl) rfl (by show 2 * 0 + _ ≤ _; exact Nat.le_of_eq rfl) (hb hby at_91) (fun _ _ => ⟨rfl, rfl, (by decide : 7 + 3 ≤ _), (by decide : 254 + 384 ≤ _)⟩)
  dsimp only [Pt.U, Pt.locs, Pt.cells, Pt.slots] at Xlw311 llw311 ylw311 zlw311 stlw311 hQlw311
  rw [llw311, ylw311, zlw311] at Xlw311
  obtain ⟨rfl, Nlw311q, Klw311, aslw311_1, aslw311_2, Hlw311_1, Ulw311_1, GAlw311_1, Hlw311_2, Ulw311_2, GAlw311_2⟩ := hQlw311
  have Zlw311 : n0 ≤ Tlw311.heap.size := Nat.le_trans Zlw310 Klw311.1
  have KKlw311 := KKlw310.trans Klw311 (fun q hq => by simp only [List.mem_cons, List.not_mem_nil, or_false] at hq; rcases hq with rfl | rfl | rfl | rfl | rfl <;> first | exact Or.inr sz_blw37 | exact Or.inr sz_blw38_0 | exact Or.inr sz_blw39 | exact Or.inr sz_blw310_0 | exact Or.inr sz_blw31)
  have Nlw311 := Fr.app Nlw310 Nlw311q
  obtain ⟨cqlw312, kqlw312, qlw312a, qlw312b, qlw312c⟩ := isOf hZ rfl Hlw311_1.exa
  obtain ⟨_, _, ⟨Tlw312, Llw312, klw312, nlw312⟩, -, Xlw312, ⟨Lclw312, hQlw312, llw312, ylw312, zlw312⟩, stlw312⟩ := Xlw311.virtualBack hx (y := (⟨"millrace/DurationHistogram", "summary", "()Lmillrace/PoolSnapshot$Timing;"⟩ : MethodName)) (z := (⟨"millrace/DurationHistogram", "summary", "()Lmillrace/PoolSnapshot$Timing;"⟩ : MethodName)) hown (mvT hZ (hw _ (List.mem_of_getElem? (i := 79) rfl))) (mvT hZ (hw _ (List.mem_of_getElem? (i := 80) rfl))) (notFace_of_selects (args := #[]) (mvT hZ (hw _ (List.mem_of_getElem? (i := 82) rfl)))) (mvT hZ (hw _ (List.mem_of_getElem? (i := 82) rfl))) (mvT hZ (hw _ (List.mem_of_getElem? (i := 81) rfl))) (by decide) (own_backS (W := 0) (own_rm_sumN l Z a0 hw (ws := [Jvm.Cond.instanceMethod (⟨"millrace/DurationHistogram", "summary", "()Lmillrace/PoolSnapshot$Timing;"⟩ : MethodName)]) (List.mem_cons_self ..) blw37 blw38_0 aslw311_1 (((0 + 1) + 1) + 1) (((0 + 1) + 1) + 1) (FP.dadd (FP.dadd (FP.dadd 0 (FP.l2d (own_lmax (0 : Int64) p0))) (FP.l2d (own_lmax (0 : Int64) p1))) (FP.l2d (own_lmax (0 : Int64) p2))) (own_lmax (own_lmax (own_lmax 0 (own_lmax (0 : Int64) p0)) (own_lmax (0 : Int64) p1)) (own_lmax (0 : Int64) p2)) Tlw311.heap n0 Zlw311 Hlw311_1 Ulw311_1 (smn_hb6 := by decide +kernel) (ht := by decide +kernel) (smn_hn40 := own_nnD (own_nnA (own_nnA (own_nnA own_nn0 _) _) _) (by decide)) (smn_hv40 := rfl) (smn_hr044 := by decide +kernel) (smn_hr144 := by decide +kernel) (smn_hr050 := by decide +kernel) (smn_hr150 := by decide +kernel) (smn_hr056 := by decide +kernel) (smn_hr156 := by decide +kernel)) Ulw311_1 hZ (hw _ (List.mem_of_getElem? (i := 83) rfl)) (hw _ (List.mem_of_getElem? (i := 81) rfl)) (hw _ (List.mem_of_getElem? (i := 30) rfl)) (by decide) (by decide)) qlw312a qlw312c (g := (mkF m 96 #[.val (.long p0), .second, .val (.long p1), .second, .val (.long p2), .second, .val (.int p3), .val (.int (3 : Int32)), .val (.ref blw31), .val (.int (1 : Int32)), .val (.ref blw37), .val (.ref blw39), .unset, .unset, .unset, .unset, .unset, .unset, .unset, .unset] [(.ref blw37)])) rfl (by rw [hml]; rfl) (Steps.refl _) (argsL := []) (rest := []) (lenOf own_pd_2829Lmillrace2fPoolSnapshot24Timing3b rfl) rfl (by show 2 * 0 + _ ≤ _; exact Nat.le_of_eq rfl) (hb hby at_96) (fun _ _ => ⟨rfl, rfl, (by decide : 10 + 1 ≤ _), (by decide : 638 + 6 ≤ _)⟩)
  dsimp only [Pt.U, Pt.locs, Pt.cells, Pt.slots] at Xlw312 llw312 ylw312 zlw312 stlw312 hQlw312
  rw [llw312, ylw312, zlw312] at Xlw312
  obtain ⟨blw312, rfl, Nlw312q, Klw312, Glw312, EXlw312, Flw312_1, Flw312_2, Flw312_3⟩ := hQlw312
  have ne_blw37_blw312 : blw37 ≠ blw312 := Nat.ne_of_lt (Nat.lt_of_lt_of_le Hlw311_1.exa.lt Glw312)
  have ne_blw312_blw37 : blw312 ≠ blw37 := Ne.symm ne_blw37_blw312
  have ne_blw39_blw312 : blw39 ≠ blw312 := Nat.ne_of_lt (Nat.lt_of_lt_of_le Hlw311_2.exa.lt Glw312)
  have ne_blw312_blw39 : blw312 ≠ blw39 := Ne.symm ne_blw39_blw312
  have g_blw312 : n0 ≤ blw312 := Nat.le_trans Zlw311 Glw312
  have sz_blw312 : h0.size ≤ blw312 := Nat.le_trans KKlw311.1 Glw312
  have E_blw39_lw312 := Hlw311_2.exa.keep Klw312
  have H_blw39_lw312 := Hlw311_2.keep Klw312 (by simp only [List.mem_cons, List.not_mem_nil, or_false, not_or]; exact ne_blw39_blw37) (by simp only [List.mem_cons, List.not_mem_nil, or_false, not_or]; exact ne_blw310_0_blw37) (fun x hx => by simp only [List.mem_cons, List.not_mem_nil, or_false, not_or]; exact fun e => absurd lt_blw37 (Nat.not_lt.mpr (GAlw311_2 blw37 (e ▸ hx))))
  have HU_blw39_lw312 := Unt.keep Klw312 (by simp only [List.mem_cons, List.not_mem_nil, or_false, not_or]; exact ne_blw39_blw37) Ulw311_2
  have Zlw312 : n0 ≤ Tlw312.heap.size := Nat.le_trans Zlw311 Klw312.1
  have KKlw312 := KKlw311.trans Klw312 (fun q hq => by simp only [List.mem_cons, List.not_mem_nil, or_false] at hq; rcases hq with rfl; exact Or.inr sz_blw37)
  have Nlw312 := Fr.app Nlw311 Nlw312q
  obtain ⟨cqlw313, kqlw313, qlw313a, qlw313b, qlw313c⟩ := isOf hZ rfl E_blw39_lw312
  obtain ⟨_, _, ⟨Tlw313, Llw313, klw313, nlw313⟩, -, Xlw313, ⟨Lclw313, hQlw313, llw313, ylw313, zlw313⟩, stlw313⟩ := Xlw312.virtualBack hx (y := (⟨"millrace/DurationHistogram", "summary", "()Lmillrace/PoolSnapshot$Timing;"⟩ : MethodName)) (z := (⟨"millrace/DurationHistogram", "summary", "()Lmillrace/PoolSnapshot$Timing;"⟩ : MethodName)) hown (mvT hZ (hw _ (List.mem_of_getElem? (i := 79) rfl))) (mvT hZ (hw _ (List.mem_of_getElem? (i := 80) rfl))) (notFace_of_selects (args := #[]) (mvT hZ (hw _ (List.mem_of_getElem? (i := 82) rfl)))) (mvT hZ (hw _ (List.mem_of_getElem? (i := 82) rfl))) (mvT hZ (hw _ (List.mem_of_getElem? (i := 81) rfl))) (by decide) (own_backS (W := 0) (own_rm_sum0 l Z a0 hw (ws := [Jvm.Cond.instanceMethod (⟨"millrace/DurationHistogram", "summary", "()Lmillrace/PoolSnapshot$Timing;"⟩ : MethodName)]) (List.mem_cons_self ..) blw39 blw310_0 aslw311_2 0 0 0 Tlw312.heap n0 Zlw312 H_blw39_lw312 HU_blw39_lw312 ) HU_blw39_lw312 hZ (hw _ (List.mem_of_getElem? (i := 83) rfl)) (hw _ (List.mem_of_getElem? (i := 81) rfl)) (hw _ (List.mem_of_getElem? (i := 30) rfl)) (by decide) (by decide)) qlw313a qlw313c (g := (mkF m 103 #[.val (.long p0), .second, .val (.long p1), .second, .val (.long p2), .second, .val (.int p3), .val (.int (3 : Int32)), .val (.ref blw31), .val (.int (1 : Int32)), .val (.ref blw37), .val (.ref blw39), .val (.ref blw312), .unset, .unset, .unset, .unset, .unset, .unset, .unset] [(.ref blw39)])) rfl (by rw [hml]; rfl) (Steps.refl _) (argsL := []) (rest := []) (lenOf own_pd_2829Lmillrace2fPoolSnapshot24Timing3b rfl) rfl (by show 2 * 0 + _ ≤ _; exact Nat.le_of_eq rfl) (hb hby at_103) (fun _ _ => ⟨rfl, rfl, (by decide : 11 + 1 ≤ _), (by decide : 644 + 6 ≤ _)⟩)
  dsimp only [Pt.U, Pt.locs, Pt.cells, Pt.slots] at Xlw313 llw313 ylw313 zlw313 stlw313 hQlw313
  rw [llw313, ylw313, zlw313] at Xlw313
  obtain ⟨blw313, rfl, Nlw313q, Klw313, Glw313, EXlw313, Flw313_1, Flw313_2, Flw313_3⟩ := hQlw313
  have ne_blw39_blw313 : blw39 ≠ blw313 := Nat.ne_of_lt (Nat.lt_of_lt_of_le E_blw39_lw312.lt Glw313)
  have ne_blw313_blw39 : blw313 ≠ blw39 := Ne.symm ne_blw39_blw313
  have ne_blw312_blw313 : blw312 ≠ blw313 := Nat.ne_of_lt (Nat.lt_of_lt_of_le EXlw312.lt Glw313)
  have ne_blw313_blw312 : blw313 ≠ blw312 := Ne.symm ne_blw312_blw313
  have g_blw313 : n0 ≤ blw313 := Nat.le_trans Zlw312 Glw313
  have sz_blw313 : h0.size ≤ blw313 := Nat.le_trans KKlw312.1 Glw313
  have E_blw312_lw313 := EXlw312.keep Klw313
  have F_count_blw312_lw313 := Flw312_1.keep Klw313 (by simp only [List.mem_cons, List.not_mem_nil, or_false, not_or]; exact ne_blw312_blw39)
  have F_meanNanos_blw312_lw313 := Flw312_2.keep Klw313 (by simp only [List.mem_cons, List.not_mem_nil, or_false, not_or]; exact ne_blw312_blw39)
  have F_maxNanos_blw312_lw313 := Flw312_3.keep Klw313 (by simp only [List.mem_cons, List.not_mem_nil, or_false, not_or]; exact ne_blw312_blw39)
  have Zlw313 : n0 ≤ Tlw313.heap.size := Nat.le_trans Zlw312 Klw313.1
  have KKlw313 := KKlw312.trans Klw313 (fun q hq => by simp only [List.mem_cons, List.not_mem_nil, or_false] at hq; rcases hq with rfl; exact Or.inr sz_blw39)
  have Nlw313 := Fr.app Nlw312 Nlw313q
  obtain ⟨_, _, ⟨Tlw314, Llw314, klw314, nlw314⟩, -, Xlw314, ⟨Lclw314, hQlw314, llw314, ylw314, zlw314⟩, stlw314⟩ := Jvm.LawKit.callS Xlw313 hx (y := (⟨"java/lang/Math", "max", "(JJ)J"⟩ : MethodName)) hown (mvT hZ (hw _ (List.mem_of_getElem? (i := 120) rfl))) (mvT hZ (hw _ (List.mem_of_getElem? (i := 54) rfl))) (mvT hZ (hw _ (List.mem_of_getElem? (i := 55) rfl))) (mvT hZ (hw _ (List.mem_of_getElem? (i := 56) rfl))) (by decide) (backOf (W := 0) (own_rm_mmax l Z a0 hw [] (0 : Int64) p0 Tlw313.heap n0 Zlw313 ) hZ (hw _ (List.mem_of_getElem? (i := 56) rfl)) (hw _ (List.mem_of_getElem? (i := 55) rfl)) (by decide) (by decide)) (g := (mkF m 122 #[.val (.long p0), .second, .val (.long p1), .second, .val (.long p2), .second, .val (.int p3), .val (.int (3 : Int32)), .val (.ref blw31), .val (.int (1 : Int32)), .val (.ref blw37), .val (.ref blw39), .val (.ref blw312), .val (.ref blw313), .val (.long (0 : Int64)), .second, .val (.double 0), .second, .unset, .unset] [(.long p0), (.long (0 : Int64))])) rfl (by rw [hml]; rfl) (argsL := [(.long (0 : Int64)), (.long p0)]) (rest := []) (lenOf own_pd_28JJ29J rfl) rfl (by show 2 * 0 + _ ≤ _; exact Nat.le_of_eq rfl) (hb hby at_122) (fun _ _ => ⟨rfl, rfl, (by decide : 12 + 0 ≤ _), (by decide : 650 + 0 ≤ _)⟩)
  dsimp only [Pt.U, Pt.locs, Pt.cells, Pt.slots] at Xlw314 llw314 ylw314 zlw314 stlw314 hQlw314
  rw [llw314, ylw314, zlw314] at Xlw314
  obtain ⟨rfl, Nlw314q, elw314⟩ := hQlw314
  have Nlw314 := Fr.app Nlw313 Nlw314q
  obtain ⟨_, _, ⟨Tlw315, Llw315, klw315, nlw315⟩, -, Xlw315, ⟨Lclw315, hQlw315, llw315, ylw315, zlw315⟩, stlw315⟩ := Jvm.LawKit.callS Xlw314 hx (y := (⟨"java/lang/Math", "max", "(JJ)J"⟩ : MethodName)) hown (mvT hZ (hw _ (List.mem_of_getElem? (i := 120) rfl))) (mvT hZ (hw _ (List.mem_of_getElem? (i := 54) rfl))) (mvT hZ (hw _ (List.mem_of_getElem? (i := 55) rfl))) (mvT hZ (hw _ (List.mem_of_getElem? (i := 56) rfl))) (by decide) (backOf (W := 0) (own_rm_mmax l Z a0 hw [] (0 : Int64) (own_lmax (0 : Int64) p0) Tlw313.heap n0 Zlw313 ) hZ (hw _ (List.mem_of_getElem? (i := 56) rfl)) (hw _ (List.mem_of_getElem? (i := 55) rfl)) (by decide) (by decide)) (g := (mkF m 131 #[.val (.long p0), .second, .val (.long p1), .second, .val (.long p2), .second, .val (.int p3), .val (.int (3 : Int32)), .val (.ref blw31), .val (.int (1 : Int32)), .val (.ref blw37), .val (.ref blw39), .val (.ref blw312), .val (.ref blw313), .val (.long (0 : Int64)), .second, .val (.double 0), .second, .val (.long (own_lmax (0 : Int64) p0)), .second] [(.long (own_lmax (0 : Int64) p0)), (.long (0 : Int64))])) rfl (by rw [hml]; rfl) (argsL := [(.long (0 : Int64)), (.long (own_lmax (0 : Int64) p0))]) (rest := []) (lenOf own_pd_28JJ29J rfl) rfl (by show 2 * 0 + _ ≤ _; exact Nat.le_of_eq rfl) (hb hby at_131) (fun _ _ => ⟨rfl, elw314, (by decide : 12 + 0 ≤ _), (by decide : 650 + 0 ≤ _)⟩)
  dsimp only [Pt.U, Pt.locs, Pt.cells, Pt.slots] at Xlw315 llw315 ylw315 zlw315 stlw315 hQlw315
  rw [llw315, ylw315, zlw315] at Xlw315
  obtain ⟨rfl, Nlw315q, elw315⟩ := hQlw315
  have Nlw315 := Fr.app Nlw314 Nlw315q
  obtain ⟨_, _, ⟨Tlw316, Llw316, klw316, nlw316⟩, -, Xlw316, ⟨Lclw316, hQlw316, llw316, ylw316, zlw316⟩, stlw316⟩ := Jvm.LawKit.callS Xlw315 hx (y := (⟨"java/lang/Math", "max", "(JJ)J"⟩ : MethodName)) hown (mvT hZ (hw _ (List.mem_of_getElem? (i := 120) rfl))) (mvT hZ (hw _ (List.mem_of_getElem? (i := 54) rfl))) (mvT hZ (hw _ (List.mem_of_getElem? (i := 55) rfl))) (mvT hZ (hw _ (List.mem_of_getElem? (i := 56) rfl))) (by decide) (backOf (W := 0) (own_rm_mmax l Z a0 hw [] (0 : Int64) p1 Tlw313.heap n0 Zlw313 ) hZ (hw _ (List.mem_of_getElem? (i := 56) rfl)) (hw _ (List.mem_of_getElem? (i := 55) rfl)) (by decide) (by decide)) (g := (mkF m 152 #[.val (.long p0), .second, .val (.long p1), .second, .val (.long p2), .second, .val (.int p3), .val (.int (3 : Int32)), .val (.ref blw31), .val (.int (1 : Int32)), .val (.ref blw37), .val (.ref blw39), .val (.ref blw312), .val (.ref blw313), .val (.long (own_lmax (0 : Int64) (own_lmax (0 : Int64) p0))), .second, .val (.double lw3_v141), .second, .val (.long (own_lmax (0 : Int64) p0)), .second] [(.long p1), (.long (0 : Int64))])) rfl (by rw [hml]; rfl) (argsL := [(.long (0 : Int64)), (.long p1)]) (rest := []) (lenOf own_pd_28JJ29J rfl) rfl (by show 2 * 0 + _ ≤ _; exact Nat.le_of_eq rfl) (hb hby at_152) (fun _ _ => ⟨rfl, elw315, (by decide : 12 + 0 ≤ _), (by decide : 650 + 0 ≤ _)⟩)
  dsimp only [Pt.U, Pt.locs, Pt.cells, Pt.slots] at Xlw316 llw316 ylw316 zlw316 stlw316 hQlw316
  rw [llw316, ylw316, zlw316] at Xlw316
  obtain ⟨rfl, Nlw316q, elw316⟩ := hQlw316
  have Nlw316 := Fr.app Nlw315 Nlw316q
  obtain ⟨_, _, ⟨Tlw317, Llw317, klw317, nlw317⟩, -, Xlw317, ⟨Lclw317, hQlw317, llw317, ylw317, zlw317⟩, stlw317⟩ := Jvm.LawKit.callS Xlw316 hx (y := (⟨"java/lang/Math", "max", "(JJ)J"⟩ : MethodName)) hown (mvT hZ (hw _ (List.mem_of_getElem? (i := 120) rfl))) (mvT hZ (hw _ (List.mem_of_getElem? (i := 54) rfl))) (mvT hZ (hw _ (List.mem_of_getElem? (i := 55) rfl))) (mvT hZ (hw _ (List.mem_of_getElem? (i := 56) rfl))) (by decide) (backOf (W := 0) (own_rm_mmax l Z a0 hw [] (own_lmax (0 : Int64) (own_lmax (0 : Int64) p0)) (own_lmax (0 : Int64) p1) Tlw313.heap n0 Zlw313 ) hZ (hw _ (List.mem_of_getElem? (i := 56) rfl)) (hw _ (List.mem_of_getElem? (i := 55) rfl)) (by decide) (by decide)) (g := (mkF m 161 #[.val (.long p0), .second, .val (.long p1), .second, .val (.long p2), .second, .val (.int p3), .val (.int (3 : Int32)), .val (.ref blw31), .val (.int (1 : Int32)), .val (.ref blw37), .val (.ref blw39), .val (.ref blw312), .val (.ref blw313), .val (.long (own_lmax (0 : Int64) (own_lmax (0 : Int64) p0))), .second, .val (.double lw3_v141), .second, .val (.long (own_lmax (0 : Int64) p1)), .second] [(.long (own_lmax (0 : Int64) p1)), (.long (own_lmax (0 : Int64) (own_lmax (0 : Int64) p0)))])) rfl (by rw [hml]; rfl) (argsL := [(.long (own_lmax (0 : Int64) (own_lmax (0 : Int64) p0))), (.long (own_lmax (0 : Int64) p1))]) (rest := []) (lenOf own_pd_28JJ29J rfl) rfl (by show 2 * 0 + _ ≤ _; exact Nat.le_of_eq rfl) (hb hby at_161) (fun _ _ => ⟨rfl, elw316, (by decide : 12 + 0 ≤ _), (by decide : 650 + 0 ≤ _)⟩)
  dsimp only [Pt.U, Pt.locs, Pt.cells, Pt.slots] at Xlw317 llw317 ylw317 zlw317 stlw317 hQlw317
  rw [llw317, ylw317, zlw317] at Xlw317
  obtain ⟨rfl, Nlw317q, elw317⟩ := hQlw317
  have Nlw317 := Fr.app Nlw316 Nlw317q
  obtain ⟨_, _, ⟨Tlw318, Llw318, klw318, nlw318⟩, -, Xlw318, ⟨Lclw318, hQlw318, llw318, ylw318, zlw318⟩, stlw318⟩ := Jvm.LawKit.callS Xlw317 hx (y := (⟨"java/lang/Math", "max", "(JJ)J"⟩ : MethodName)) hown (mvT hZ (hw _ (List.mem_of_getElem? (i := 120) rfl))) (mvT hZ (hw _ (List.mem_of_getElem? (i := 54) rfl))) (mvT hZ (hw _ (List.mem_of_getElem? (i := 55) rfl))) (mvT hZ (hw _ (List.mem_of_getElem? (i := 56) rfl))) (by decide) (backOf (W := 0) (own_rm_mmax l Z a0 hw [] (0 : Int64) p2 Tlw313.heap n0 Zlw313 ) hZ (hw _ (List.mem_of_getElem? (i := 56) rfl)) (hw _ (List.mem_of_getElem? (i := 55) rfl)) (by decide) (by decide)) (g := (mkF m 183 #[.val (.long p0), .second, .val (.long p1), .second, .val (.long p2), .second, .val (.int p3), .val (.int (3 : Int32)), .val (.ref blw31), .val (.int (1 : Int32)), .val (.ref blw37), .val (.ref blw39), .val (.ref blw312), .val (.ref blw313), .val (.long (own_lmax (own_lmax (0 : Int64) (own_lmax (0 : Int64) p0)) (own_lmax (0 : Int64) p1))), .second, .val (.double lw3_v171), .second, .val (.long (own_lmax (0 : Int64) p1)), .second] [(.long p2), (.long (0 : Int64))])) rfl (by rw [hml]; rfl) (argsL := [(.long (0 : Int64)), (.long p2)]) (rest := []) (lenOf own_pd_28JJ29J rfl) rfl (by show 2 * 0 + _ ≤ _; exact Nat.le_of_eq rfl) (hb hby at_183) (fun _ _ => ⟨rfl, elw317, (by decide : 12 + 0 ≤ _), (by decide : 650 + 0 ≤ _)⟩)
  dsimp only [Pt.U, Pt.locs, Pt.cells, Pt.slots] at Xlw318 llw318 ylw318 zlw318 stlw318 hQlw318
  rw [llw318, ylw318, zlw318] at Xlw318
  obtain ⟨rfl, Nlw318q, elw318⟩ := hQlw318
  have Nlw318 := Fr.app Nlw317 Nlw318q
  obtain ⟨_, _, ⟨Tlw319, Llw319, klw319, nlw319⟩, -, Xlw319, ⟨Lclw319, hQlw319, llw319, ylw319, zlw319⟩, stlw319⟩ := Jvm.LawKit.callS Xlw318 hx (y := (⟨"java/lang/Math", "max", "(JJ)J"⟩ : MethodName)) hown (mvT hZ (hw _ (List.mem_of_getElem? (i := 120) rfl))) (mvT hZ (hw _ (List.mem_of_getElem? (i := 54) rfl))) (mvT hZ (hw _ (List.mem_of_getElem? (i := 55) rfl))) (mvT hZ (hw _ (List.mem_of_getElem? (i := 56) rfl))) (by decide) (backOf (W := 0) (own_rm_mmax l Z a0 hw [] (own_lmax (own_lmax (0 : Int64) (own_lmax (0 : Int64) p0)) (own_lmax (0 : Int64) p1)) (own_lmax (0 : Int64) p2) Tlw313.heap n0 Zlw313 ) hZ (hw _ (List.mem_of_getElem? (i := 56) rfl)) (hw _ (List.mem_of_getElem? (i := 55) rfl)) (by decide) (by decide)) (g := (mkF m 192 #[.val (.long p0), .second, .val (.long p1), .second, .val (.long p2), .second, .val (.int p3), .val (.int (3 : Int32)), .val (.ref blw31), .val (.int (1 : Int32)), .val (.ref blw37), .val (.ref blw39), .val (.ref blw312), .val (.ref blw313), .val (.long (own_lmax (own_lmax (0 : Int64) (own_lmax (0 : Int64) p0)) (own_lmax (0 : Int64) p1))), .second, .val (.double lw3_v171), .second, .val (.long (own_lmax (0 : Int64) p2)), .second] [(.long (own_lmax (0 : Int64) p2)), (.long (own_lmax (own_lmax (0 : Int64) (own_lmax (0 : Int64) p0)) (own_lmax (0 : Int64) p1)))])) rfl (by rw [hml]; rfl) (argsL := [(.long (own_lmax (own_lmax (0 : Int64) (own_lmax (0 : Int64) p0)) (own_lmax (0 : Int64) p1))), (.long (own_lmax (0 : Int64) p2))]) (rest := []) (lenOf own_pd_28JJ29J rfl) rfl (by show 2 * 0 + _ ≤ _; exact Nat.le_of_eq rfl) (hb hby at_192) (fun _ _ => ⟨rfl, elw318, (by decide : 12 + 0 ≤ _), (by decide : 650 + 0 ≤ _)⟩)
  dsimp only [Pt.U, Pt.locs, Pt.cells, Pt.slots] at Xlw319 llw319 ylw319 zlw319 stlw319 hQlw319
  rw [llw319, ylw319, zlw319] at Xlw319
  obtain ⟨rfl, Nlw319q, elw319⟩ := hQlw319
  have Nlw319 := Fr.app Nlw318 Nlw319q
  obtain ⟨cqlw320, kqlw320, qlw320a, qlw320b, qlw320c⟩ := isOf hZ elw319 E_blw312_lw313
  obtain ⟨_, _, ⟨Tlw320, Llw320, klw320, nlw320⟩, -, Xlw320, ⟨Lclw320, hQlw320, llw320, ylw320, zlw320⟩, stlw320⟩ := Xlw319.virtualBack hx (y := (⟨"millrace/PoolSnapshot$Timing", "count", "()J"⟩ : MethodName)) (z := (⟨"millrace/PoolSnapshot$Timing", "count", "()J"⟩ : MethodName)) hown (mvT hZ (hw _ (List.mem_of_getElem? (i := 121) rfl))) (mvT hZ (hw _ (List.mem_of_getElem? (i := 122) rfl))) (notFace_of_selects (args := #[]) (mvT hZ (hw _ (List.mem_of_getElem? (i := 124) rfl)))) (mvT hZ (hw _ (List.mem_of_getElem? (i := 124) rfl))) (mvT hZ (hw _ (List.mem_of_getElem? (i := 123) rfl))) (by decide) (backOf (W := 0) (own_rm_tgcount l Z a0 hw [] blw312 (((0 + 1) + 1) + 1) Tlw313.heap n0 Zlw313 E_blw312_lw313 F_count_blw312_lw313) hZ (hw _ (List.mem_of_getElem? (i := 125) rfl)) (hw _ (List.mem_of_getElem? (i := 86) rfl)) (by decide) (by decide)) qlw320a qlw320c (g := (mkF m 229 #[.val (.long p0), .second, .val (.long p1), .second, .val (.long p2), .second, .val (.int p3), .val (.int (3 : Int32)), .val (.ref blw31), .val (.int (1 : Int32)), .val (.ref blw37), .val (.ref blw39), .val (.ref blw312), .val (.ref blw313), .val (.long (own_lmax (own_lmax (own_lmax (0 : Int64) (own_lmax (0 : Int64) p0)) (own_lmax (0 : Int64) p1)) (own_lmax (0 : Int64) p2))), .second, .val (.double lw3_v202), .second, .val (.double lw3_v219), .second] [(.ref blw312)])) rfl (by rw [hml]; rfl) (Steps.refl _) (argsL := []) (rest := []) (lenOf own_pd_2829J rfl) rfl (by show 2 * 0 + _ ≤ _; exact Nat.le_of_eq rfl) (hb hby at_229) (fun _ _ => ⟨rfl, elw319, (by decide : 12 + 0 ≤ _), (by decide : 650 + 0 ≤ _)⟩)
  dsimp only [Pt.U, Pt.locs, Pt.cells, Pt.slots] at Xlw320 llw320 ylw320 zlw320 stlw320 hQlw320
  rw [llw320, ylw320, zlw320] at Xlw320
  obtain ⟨rfl, Nlw320q, elw320⟩ := hQlw320
  have Nlw320 := Fr.app Nlw319 Nlw320q
  obtain ⟨cqlw321, kqlw321, qlw321a, qlw321b, qlw321c⟩ := isOf hZ elw320 E_blw312_lw313
  obtain ⟨_, _, ⟨Tlw321, Llw321, klw321, nlw321⟩, -, Xlw321, ⟨Lclw321, hQlw321, llw321, ylw321, zlw321⟩, stlw321⟩ := Xlw320.virtualBack hx (y := (⟨"millrace/PoolSnapshot$Timing", "maxNanos", "()J"⟩ : MethodName)) (z := (⟨"millrace/PoolSnapshot$Timing", "maxNanos", "()J"⟩ : MethodName)) hown (mvT hZ (hw _ (List.mem_of_getElem? (i := 126) rfl))) (mvT hZ (hw _ (List.mem_of_getElem? (i := 127) rfl))) (notFace_of_selects (args := #[]) (mvT hZ (hw _ (List.mem_of_getElem? (i := 129) rfl)))) (mvT hZ (hw _ (List.mem_of_getElem? (i := 129) rfl))) (mvT hZ (hw _ (List.mem_of_getElem? (i := 128) rfl))) (by decide) (backOf (W := 0) (own_rm_tgmaxNanos l Z a0 hw [] blw312 (own_lmax (own_lmax (own_lmax 0 (own_lmax (0 : Int64) p0)) (own_lmax (0 : Int64) p1)) (own_lmax (0 : Int64) p2)) Tlw313.heap n0 Zlw313 E_blw312_lw313 F_maxNanos_blw312_lw313) hZ (hw _ (List.mem_of_getElem? (i := 130) rfl)) (hw _ (List.mem_of_getElem? (i := 86) rfl)) (by decide) (by decide)) qlw321a qlw321c (g := (mkF m 241 #[.val (.long p0), .second, .val (.long p1), .second, .val (.long p2), .second, .val (.int p3), .val (.int (3 : Int32)), .val (.ref blw31), .val (.int (1 : Int32)), .val (.ref blw37), .val (.ref blw39), .val (.ref blw312), .val (.ref blw313), .val (.long (own_lmax (own_lmax (own_lmax (0 : Int64) (own_lmax (0 : Int64) p0)) (own_lmax (0 : Int64) p1)) (own_lmax (0 : Int64) p2))), .second, .val (.double lw3_v202), .second, .val (.double lw3_v219), .second] [(.ref blw312)])) rfl (by rw [hml]; rfl) (Steps.refl _) (argsL := []) (rest := []) (lenOf own_pd_2829J rfl) rfl (by show 2 * 0 + _ ≤ _; exact Nat.le_of_eq rfl) (hb hby at_241) (fun _ _ => ⟨rfl, elw320, (by decide : 12 + 0 ≤ _), (by decide : 650 + 0 ≤ _)⟩)
  dsimp only [Pt.U, Pt.locs, Pt.cells, Pt.slots] at Xlw321 llw321 ylw321 zlw321 stlw321 hQlw321
  rw [llw321, ylw321, zlw321] at Xlw321
  obtain ⟨rfl, Nlw321q, elw321⟩ := hQlw321
  have Nlw321 := Fr.app Nlw320 Nlw321q
  obtain ⟨cqlw322, kqlw322, qlw322a, qlw322b, qlw322c⟩ := isOf hZ elw321 E_blw312_lw313
  obtain ⟨_, _, ⟨Tlw322, Llw322, klw322, nlw322⟩, -, Xlw322, ⟨Lclw322, hQlw322, llw322, ylw322, zlw322⟩, stlw322⟩ := Xlw321.virtualBack hx (y := (⟨"millrace/PoolSnapshot$Timing", "meanNanos", "()D"⟩ : MethodName)) (z := (⟨"millrace/PoolSnapshot$Timing", "meanNanos", "()D"⟩ : MethodName)) hown (mvT hZ (hw _ (List.mem_of_getElem? (i := 131) rfl))) (mvT hZ (hw _ (List.mem_of_getElem? (i := 132) rfl))) (notFace_of_selects (args := #[]) (mvT hZ (hw _ (List.mem_of_getElem? (i := 134) rfl)))) (mvT hZ (hw _ (List.mem_of_getElem? (i := 134) rfl))) (mvT hZ (hw _ (List.mem_of_getElem? (i := 133) rfl))) (by decide) (backOf (W := 0) (own_rm_tgmeanNanos l Z a0 hw [] blw312 (FP.ddiv (FP.dadd (FP.dadd (FP.dadd 0 (FP.l2d (own_lmax (0 : Int64) p0))) (FP.l2d (own_lmax (0 : Int64) p1))) (FP.l2d (own_lmax (0 : Int64) p2))) (FP.l2d (((0 + 1) + 1) + 1))) Tlw313.heap n0 Zlw313 E_blw312_lw313 F_meanNanos_blw312_lw313) hZ (hw _ (List.mem_of_getElem? (i := 135) rfl)) (hw _ (List.mem_of_getElem? (i := 86) rfl)) (by decide) (by decide)) qlw322a qlw322c (g := (mkF m 252 #[.val (.long p0), .second, .val (.long p1), .second, .val (.long p2), .second, .val (.int p3), .val (.int (3 : Int32)), .val (.ref blw31), .val (.int (1 : Int32)), .val (.ref blw37), .val (.ref blw39), .val (.ref blw312), .val (.ref blw313), .val (.long (own_lmax (own_lmax (own_lmax (0 : Int64) (own_lmax (0 : Int64) p0)) (own_lmax (0 : Int64) p1)) (own_lmax (0 : Int64) p2))), .second, .val (.double lw3_v202), .second, .val (.double lw3_v219), .second] [(.ref blw312)])) rfl (by rw [hml]; rfl) (Steps.refl _) (argsL := []) (rest := []) (lenOf own_pd_2829D rfl) rfl (by show 2 * 0 + _ ≤ _; exact Nat.le_of_eq rfl) (hb hby at_252) (fun _ _ => ⟨rfl, elw321, (by decide : 12 + 0 ≤ _), (by decide : 650 + 0 ≤ _)⟩)
  dsimp only [Pt.U, Pt.locs, Pt.cells, Pt.slots] at Xlw322 llw322 ylw322 zlw322 stlw322 hQlw322
  rw [llw322, ylw322, zlw322] at Xlw322
  obtain ⟨rfl, Nlw322q, elw322⟩ := hQlw322
  have Nlw322 := Fr.app Nlw321 Nlw322q
  obtain ⟨cqlw323, kqlw323, qlw323a, qlw323b, qlw323c⟩ := isOf hZ elw322 EXlw313
  obtain ⟨_, _, ⟨Tlw323, Llw323, klw323, nlw323⟩, -, Xlw323, ⟨Lclw323, hQlw323, llw323, ylw323, zlw323⟩, stlw323⟩ := Xlw322.virtualBack hx (y := (⟨"millrace/PoolSnapshot$Timing", "count", "()J"⟩ : MethodName)) (z := (⟨"millrace/PoolSnapshot$Timing", "count", "()J"⟩ : MethodName)) hown (mvT hZ (hw _ (List.mem_of_getElem? (i := 121) rfl))) (mvT hZ (hw _ (List.mem_of_getElem? (i := 122) rfl))) (notFace_of_selects (args := #[]) (mvT hZ (hw _ (List.mem_of_getElem? (i := 124) rfl)))) (mvT hZ (hw _ (List.mem_of_getElem? (i := 124) rfl))) (mvT hZ (hw _ (List.mem_of_getElem? (i := 123) rfl))) (by decide) (backOf (W := 0) (own_rm_tgcount l Z a0 hw [] blw313 (0 : Int64) Tlw313.heap n0 Zlw313 EXlw313 Flw313_1) hZ (hw _ (List.mem_of_getElem? (i := 125) rfl)) (hw _ (List.mem_of_getElem? (i := 86) rfl)) (by decide) (by decide)) qlw323a qlw323c (g := (mkF m 263 #[.val (.long p0), .second, .val (.long p1), .second, .val (.long p2), .second, .val (.int p3), .val (.int (3 : Int32)), .val (.ref blw31), .val (.int (1 : Int32)), .val (.ref blw37), .val (.ref blw39), .val (.ref blw312), .val (.ref blw313), .val (.long (own_lmax (own_lmax (own_lmax (0 : Int64) (own_lmax (0 : Int64) p0)) (own_lmax (0 : Int64) p1)) (own_lmax (0 : Int64) p2))), .second, .val (.double lw3_v202), .second, .val (.double lw3_v219), .second] [(.ref blw313)])) rfl (by rw [hml]; rfl) (Steps.refl _) (argsL := []) (rest := []) (lenOf own_pd_2829J rfl) rfl (by show 2 * 0 + _ ≤ _; exact Nat.le_of_eq rfl) (hb hby at_263) (fun _ _ => ⟨rfl, elw322, (by decide : 12 + 0 ≤ _), (by decide : 650 + 0 ≤ _)⟩)
  dsimp only [Pt.U, Pt.locs, Pt.cells, Pt.slots] at Xlw323 llw323 ylw323 zlw323 stlw323 hQlw323
  rw [llw323, ylw323, zlw323] at Xlw323
  obtain ⟨rfl, Nlw323q, elw323⟩ := hQlw323
  have Nlw323 := Fr.app Nlw322 Nlw323q
  obtain ⟨fs, hr, hrun, hended, hW, hsame⟩ := Xlw323.leave (v := some (.int (1 : Int32))) (fun h => by rw [Bd.returns] at h; cases h)
  refine ⟨_, _, pre0 _ ?_, hrun, hended, _, _, rfl, ?_, ⟨_, rfl⟩, hW, hsame.mono (by decide) (by decide)⟩
  · refine own_s_iload X0.here hx (hb hby at_0) (pc' := 2) rfl rfl ?_
    refine own_s_iconst X0.here hx (hb hby at_2) (pc' := 3) rfl (v := (3 : Int32)) (by decide) ?_
    refine own_s_iand X0.here hx (hb hby at_3) (pc' := 4) rfl (v := (3 : Int32)) lw3_hv3 ?_
    refine own_s_istore X0.here hx (hb hby at_4) (pc' := 6) rfl (L' := #[.val (.long p0), .second, .val (.long p1), .second, .val (.long p2), .second, .val (.int p3), .val (.int (3 : Int32)), .unset, .unset, .unset, .unset, .unset, .unset, .unset, .unset, .unset, .unset, .unset, .unset]) rfl ?_
    refine stlw31 _ ?_
    show Steps p.tables e below (Tlw31.setTop (mkF m 9 #[.val (.long p0), .second, .val (.long p1), .second, .val (.long p2), .second, .val (.int p3), .val (.int (3 : Int32)), .unset, .unset, .unset, .unset, .unset, .unset, .unset, .unset, .unset, .unset, .unset, .unset] [(.ref blw31)])) _
    refine own_s_dup Xlw31.here hx (hb hby at_9) (pc' := 10) rfl rfl ?_
    refine stlw32.trans ?_
    show Steps p.tables e below (Tlw32.setTop (mkF m 13 #[.val (.long p0), .second, .val (.long p1), .second, .val (.long p2), .second, .val (.int p3), .val (.int (3 : Int32)), .unset, .unset, .unset, .unset, .unset, .unset, .unset, .unset, .unset, .unset, .unset, .unset] [(.ref blw31)])) _
    refine own_s_astore Xlw32.here hx (hb hby at_13) (pc' := 15) rfl rfl (L' := #[.val (.long p0), .second, .val (.long p1), .second, .val (.long p2), .second, .val (.int p3), .val (.int (3 : Int32)), .val (.ref blw31), .unset, .unset, .unset, .unset, .unset, .unset, .unset, .unset, .unset, .unset, .unset]) rfl ?_
    refine own_s_iload Xlw32.here hx (hb hby at_15) (pc' := 17) rfl rfl ?_
    refine own_s_iconst Xlw32.here hx (hb hby at_17) (pc' := 18) rfl (v := (1 : Int32)) (by decide) ?_
    refine own_s_icmpNo Xlw32.here hx (hb hby at_18) (pc' := 21) rfl (by decide) ?_
    refine own_s_aload Xlw32.here hx (hb hby at_21) (pc' := 23) rfl rfl rfl ?_
    refine own_s_lloadN Xlw32.here hx (hb hby at_23) (pc' := 24) rfl rfl ?_
    refine stlw33.trans ?_
    show Steps p.tables e below (Tlw33.setTop (mkF m 27 #[.val (.long p0), .second, .val (.long p1), .second, .val (.long p2), .second, .val (.int p3), .val (.int (3 : Int32)), .val (.ref blw31), .unset, .unset, .unset, .unset, .unset, .unset, .unset, .unset, .unset, .unset, .unset] [])) _
    refine own_s_iload Xlw33.here hx (hb hby at_27) (pc' := 29) rfl rfl ?_
    refine own_s_iconst Xlw33.here hx (hb hby at_29) (pc' := 30) rfl (v := (2 : Int32)) (by decide) ?_
    refine own_s_icmpNo Xlw33.here hx (hb hby at_30) (pc' := 33) rfl (by decide) ?_
    refine own_s_aload Xlw33.here hx (hb hby at_33) (pc' := 35) rfl rfl rfl ?_
    refine own_s_lloadN Xlw33.here hx (hb hby at_35) (pc' := 36) rfl rfl ?_
    refine stlw34.trans ?_
    show Steps p.tables e below (Tlw34.setTop (mkF m 39 #[.val (.long p0), .second, .val (.long p1), .second, .val (.long p2), .second, .val (.int p3), .val (.int (3 : Int32)), .val (.ref blw31), .unset, .unset, .unset, .unset, .unset, .unset, .unset, .unset, .unset, .unset, .unset] [])) _
    refine own_s_iload Xlw34.here hx (hb hby at_39) (pc' := 41) rfl rfl ?_
    refine own_s_iconst Xlw34.here hx (hb hby at_41) (pc' := 42) rfl (v := (3 : Int32)) (by decide) ?_
    refine own_s_icmpNo Xlw34.here hx (hb hby at_42) (pc' := 45) rfl (by decide) ?_
    refine own_s_aload Xlw34.here hx (hb hby at_45) (pc' := 47) rfl rfl rfl ?_
    refine own_s_lload Xlw34.here hx (hb hby at_47) (pc' := 49) rfl rfl ?_
    refine stlw35.trans ?_
    show Steps p.tables e below (Tlw35.setTop (mkF m 52 #[.val (.long p0), .second, .val (.long p1), .second, .val (.long p2), .second, .val (.int p3), .val (.int (3 : Int32)), .val (.ref blw31), .unset, .unset, .unset, .unset, .unset, .unset, .unset, .unset, .unset, .unset, .unset] [])) _
    refine own_s_aload Xlw35.here hx (hb hby at_52) (pc' := 54) rfl rfl rfl ?_
    refine stlw36.trans ?_
    show Steps p.tables e below (Tlw36.setTop (mkF m 57 #[.val (.long p0), .second, .val (.long p1), .second, .val (.long p2), .second, .val (.int p3), .val (.int (3 : Int32)), .val (.ref blw31), .unset, .unset, .unset, .unset, .unset, .unset, .unset, .unset, .unset, .unset, .unset] [(.int (0 : Int32))])) _
    refine own_s_ifNo Xlw36.here hx (hb hby at_57) (pc' := 60) rfl (by decide) ?_
    refine own_s_iconst Xlw36.here hx (hb hby at_60) (pc' := 61) rfl (v := (1 : Int32)) (by decide) ?_
    refine own_s_goto Xlw36.here hx (hb hby at_61) (by decide) (pc' := 65) (by decide) ?_
    refine own_s_istore Xlw36.here hx (hb hby at_65) (pc' := 67) rfl (L' := #[.val (.long p0), .second, .val (.long p1), .second, .val (.long p2), .second, .val (.int p3), .val (.int (3 : Int32)), .val (.ref blw31), .val (.int (1 : Int32)), .unset, .unset, .unset, .unset, .unset, .unset, .unset, .unset, .unset, .unset]) rfl ?_
    refine stlw37 _ ?_
    show Steps p.tables e below (Tlw37.setTop (mkF m 70 #[.val (.long p0), .second, .val (.long p1), .second, .val (.long p2), .second, .val (.int p3), .val (.int (3 : Int32)), .val (.ref blw31), .val (.int (1 : Int32)), .unset, .unset, .unset, .unset, .unset, .unset, .unset, .unset, .unset, .unset] [(.ref blw37)])) _
    refine own_s_dup Xlw37.here hx (hb hby at_70) (pc' := 71) rfl rfl ?_
    refine stlw38.trans ?_
    show Steps p.tables e below (Tlw38.setTop (mkF m 74 #[.val (.long p0), .second, .val (.long p1), .second, .val (.long p2), .second, .val (.int p3), .val (.int (3 : Int32)), .val (.ref blw31), .val (.int (1 : Int32)), .unset, .unset, .unset, .unset, .unset, .unset, .unset, .unset, .unset, .unset] [(.ref blw37)])) _
    refine own_s_astore Xlw38.here hx (hb hby at_74) (pc' := 76) rfl rfl (L' := #[.val (.long p0), .second, .val (.long p1), .second, .val (.long p2), .second, .val (.int p3), .val (.int (3 : Int32)), .val (.ref blw31), .val (.int (1 : Int32)), .val (.ref blw37), .unset, .unset, .unset, .unset, .unset, .unset, .unset, .unset, .unset]) rfl ?_
    refine stlw39 _ ?_
    show Steps p.tables e below (Tlw39.setTop (mkF m 79 #[.val (.long p0), .second, .val (.long p1), .second, .val (.long p2), .second, .val (.int p3), .val (.int (3 : Int32)), .val (.ref blw31), .val (.int (1 : Int32)), .val (.ref blw37), .unset, .unset, .unset, .unset, .unset, .unset, .unset, .unset, .unset] [(.ref blw39)])) _
    refine own_s_dup Xlw39.here hx (hb hby at_79) (pc' := 80) rfl rfl ?_
    refine stlw310.trans ?_
    show Steps p.tables e below (Tlw310.setTop (mkF m 83 #[.val (.long p0), .second, .val (.long p1), .second, .val (.long p2), .second, .val (.int p3), .val (.int (3 : Int32)), .val (.ref blw31), .val (.int (1 : Int32)), .val (.ref blw37), .unset, .unset, .unset, .unset, .unset, .unset, .unset, .unset, .unset] [(.ref blw39)])) _
    refine own_s_astore Xlw310.here hx (hb hby at_83) (pc' := 85) rfl rfl (L' := #[.val (.long p0), .second, .val (.long p1), .second, .val (.long p2), .second, .val (.int p3), .val (.int (3 : Int32)), .val (.ref blw31), .val (.int (1 : Int32)), .val (.ref blw37), .val (.ref blw39), .unset, .unset, .unset, .unset, .unset, .unset, .unset, .unset]) rfl ?_
    refine own_s_aload Xlw310.here hx (hb hby at_85) (pc' := 87) rfl rfl rfl ?_
    refine own_s_aload Xlw310.here hx (hb hby at_87) (pc' := 89) rfl rfl rfl ?_
    refine own_s_aload Xlw310.here hx (hb hby at_89) (pc' := 91) rfl rfl rfl ?_
    refine stlw311.trans ?_
    show Steps p.tables e below (Tlw311.setTop (mkF m 94 #[.val (.long p0), .second, .val (.long p1), .second, .val (.long p2), .second, .val (.int p3), .val (.int (3 : Int32)), .val (.ref blw31), .val (.int (1 : Int32)), .val (.ref blw37), .val (.ref blw39), .unset, .unset, .unset, .unset, .unset, .unset, .unset, .unset] [])) _
    refine own_s_aload Xlw311.here hx (hb hby at_94) (pc' := 96) rfl rfl rfl ?_
    refine stlw312.trans ?_
    show Steps p.tables e below (Tlw312.setTop (mkF m 99 #[.val (.long p0), .second, .val (.long p1), .second, .val (.long p2), .second, .val (.int p3), .val (.int (3 : Int32)), .val (.ref blw31), .val (.int (1 : Int32)), .val (.ref blw37), .val (.ref blw39), .unset, .unset, .unset, .unset, .unset, .unset, .unset, .unset] [(.ref blw312)])) _
    refine own_s_astore Xlw312.here hx (hb hby at_99) (pc' := 101) rfl rfl (L' := #[.val (.long p0), .second, .val (.long p1), .second, .val (.long p2), .second, .val (.int p3), .val (.int (3 : Int32)), .val (.ref blw31), .val (.int (1 : Int32)), .val (.ref blw37), .val (.ref blw39), .val (.ref blw312), .unset, .unset, .unset, .unset, .unset, .unset, .unset]) rfl ?_
    refine own_s_aload Xlw312.here hx (hb hby at_101) (pc' := 103) rfl rfl rfl ?_
    refine stlw313.trans ?_
    show Steps p.tables e below (Tlw313.setTop (mkF m 106 #[.val (.long p0), .second, .val (.long p1), .second, .val (.long p2), .second, .val (.int p3), .val (.int (3 : Int32)), .val (.ref blw31), .val (.int (1 : Int32)), .val (.ref blw37), .val (.ref blw39), .val (.ref blw312), .unset, .unset, .unset, .unset, .unset, .unset, .unset] [(.ref blw313)])) _
    refine own_s_astore Xlw313.here hx (hb hby at_106) (pc' := 108) rfl rfl (L' := #[.val (.long p0), .second, .val (.long p1), .second, .val (.long p2), .second, .val (.int p3), .val (.int (3 : Int32)), .val (.ref blw31), .val (.int (1 : Int32)), .val (.ref blw37), .val (.ref blw39), .val (.ref blw312), .val (.ref blw313), .unset, .unset, .unset, .unset, .unset, .unset]) rfl ?_
    refine own_s_lconst Xlw313.here hx (hb hby at_108) (pc' := 109) rfl (v := (0 : Int64)) (by decide) ?_
    refine own_s_lstore Xlw313.here hx (hb hby at_109) (pc' := 111) rfl (L' := #[.val (.long p0), .second, .val (.long p1), .second, .val (.long p2), .second, .val (.int p3), .val (.int (3 : Int32)), .val (.ref blw31), .val (.int (1 : Int32)), .val (.ref blw37), .val (.ref blw39), .val (.ref blw312), .val (.ref blw313), .val (.long (0 : Int64)), .second, .unset, .unset, .unset, .unset]) rfl ?_
    refine own_s_dconst0 Xlw313.here hx (hb hby at_111) (pc' := 112) rfl  ?_
    refine own_s_dstore Xlw313.here hx (hb hby at_112) (pc' := 114) rfl (L' := #[.val (.long p0), .second, .val (.long p1), .second, .val (.long p2), .second, .val (.int p3), .val (.int (3 : Int32)), .val (.ref blw31), .val (.int (1 : Int32)), .val (.ref blw37), .val (.ref blw39), .val (.ref blw312), .val (.ref blw313), .val (.long (0 : Int64)), .second, .val (.double 0), .second, .unset, .unset]) rfl ?_
    refine own_s_iload Xlw313.here hx (hb hby at_114) (pc' := 116) rfl rfl ?_
    refine own_s_iconst Xlw313.here hx (hb hby at_116) (pc' := 117) rfl (v := (1 : Int32)) (by decide) ?_
    refine own_s_icmpNo Xlw313.here hx (hb hby at_117) (pc' := 120) rfl (by decide) ?_
    refine own_s_lconst Xlw313.here hx (hb hby at_120) (pc' := 121) rfl (v := (0 : Int64)) (by decide) ?_
    refine own_s_lloadN Xlw313.here hx (hb hby at_121) (pc' := 122) rfl rfl ?_
    refine stlw314 _ ?_
    show Steps p.tables e below (Tlw314.setTop (mkF m 125 #[.val (.long p0), .second, .val (.long p1), .second, .val (.long p2), .second, .val (.int p3), .val (.int (3 : Int32)), .val (.ref blw31), .val (.int (1 : Int32)), .val (.ref blw37), .val (.ref blw39), .val (.ref blw312), .val (.ref blw313), .val (.long (0 : Int64)), .second, .val (.double 0), .second, .unset, .unset] [(.long (own_lmax (0 : Int64) p0))])) _
    refine own_s_lstore Xlw314.here hx (hb hby at_125) (pc' := 127) rfl (L' := #[.val (.long p0), .second, .val (.long p1), .second, .val (.long p2), .second, .val (.int p3), .val (.int (3 : Int32)), .val (.ref blw31), .val (.int (1 : Int32)), .val (.ref blw37), .val (.ref blw39), .val (.ref blw312), .val (.ref blw313), .val (.long (0 : Int64)), .second, .val (.double 0), .second, .val (.long (own_lmax (0 : Int64) p0)), .second]) rfl ?_
    refine own_s_lload Xlw314.here hx (hb hby at_127) (pc' := 129) rfl rfl ?_
    refine own_s_lload Xlw314.here hx (hb hby at_129) (pc' := 131) rfl rfl ?_
    refine stlw315 _ ?_
    show Steps p.tables e below (Tlw315.setTop (mkF m 134 #[.val (.long p0), .second, .val (.long p1), .second, .val (.long p2), .second, .val (.int p3), .val (.int (3 : Int32)), .val (.ref blw31), .val (.int (1 : Int32)), .val (.ref blw37), .val (.ref blw39), .val (.ref blw312), .val (.ref blw313), .val (.long (0 : Int64)), .second, .val (.double 0), .second, .val (.long (own_lmax (0 : Int64) p0)), .second] [(.long (own_lmax (0 : Int64) (own_lmax (0 : Int64) p0)))])) _
    refine own_s_lstore Xlw315.here hx (hb hby at_134) (pc' := 136) rfl (L' := #[.val (.long p0), .second, .val (.long p1), .second, .val (.long p2), .second, .val (.int p3), .val (.int (3 : Int32)), .val (.ref blw31), .val (.int (1 : Int32)), .val (.ref blw37), .val (.ref blw39), .val (.ref blw312), .val (.ref blw313), .val (.long (own_lmax (0 : Int64) (own_lmax (0 : Int64) p0))), .second, .val (.double 0), .second, .val (.long (own_lmax (0 : Int64) p0)), .second]) rfl ?_
    refine own_s_dload Xlw315.here hx (hb hby at_136) (pc' := 138) rfl rfl ?_
    refine own_s_lload Xlw315.here hx (hb hby at_138) (pc' := 140) rfl rfl ?_
    refine own_s_l2d Xlw315.here hx (hb hby at_140) (pc' := 141) rfl (v := (FP.l2d (own_lmax (0 : Int64) p0))) rfl ?_
    refine own_s_dadd Xlw315.here hx (hb hby at_141) (pc' := 142) rfl lw3_hn141 (v := lw3_v141) lw3_hv141 ?_
    refine own_s_dstore Xlw315.here hx (hb hby at_142) (pc' := 144) rfl (L' := #[.val (.long p0), .second, .val (.long p1), .second, .val (.long p2), .second, .val (.int p3), .val (.int (3 : Int32)), .val (.ref blw31), .val (.int (1 : Int32)), .val (.ref blw37), .val (.ref blw39), .val (.ref blw312), .val (.ref blw313), .val (.long (own_lmax (0 : Int64) (own_lmax (0 : Int64) p0))), .second, .val (.double lw3_v141), .second, .val (.long (own_lmax (0 : Int64) p0)), .second]) rfl ?_
    refine own_s_iload Xlw315.here hx (hb hby at_144) (pc' := 146) rfl rfl ?_
    refine own_s_iconst Xlw315.here hx (hb hby at_146) (pc' := 147) rfl (v := (2 : Int32)) (by decide) ?_
    refine own_s_icmpNo Xlw315.here hx (hb hby at_147) (pc' := 150) rfl (by decide) ?_
    refine own_s_lconst Xlw315.here hx (hb hby at_150) (pc' := 151) rfl (v := (0 : Int64)) (by decide) ?_
    refine own_s_lloadN Xlw315.here hx (hb hby at_151) (pc' := 152) rfl rfl ?_
    refine stlw316 _ ?_
    show Steps p.tables e below (Tlw316.setTop (mkF m 155 #[.val (.long p0), .second, .val (.long p1), .second, .val (.long p2), .second, .val (.int p3), .val (.int (3 : Int32)), .val (.ref blw31), .val (.int (1 : Int32)), .val (.ref blw37), .val (.ref blw39), .val (.ref blw312), .val (.ref blw313), .val (.long (own_lmax (0 : Int64) (own_lmax (0 : Int64) p0))), .second, .val (.double lw3_v141), .second, .val (.long (own_lmax (0 : Int64) p0)), .second] [(.long (own_lmax (0 : Int64) p1))])) _
    refine own_s_lstore Xlw316.here hx (hb hby at_155) (pc' := 157) rfl (L' := #[.val (.long p0), .second, .val (.long p1), .second, .val (.long p2), .second, .val (.int p3), .val (.int (3 : Int32)), .val (.ref blw31), .val (.int (1 : Int32)), .val (.ref blw37), .val (.ref blw39), .val (.ref blw312), .val (.ref blw313), .val (.long (own_lmax (0 : Int64) (own_lmax (0 : Int64) p0))), .second, .val (.double lw3_v141), .second, .val (.long (own_lmax (0 : Int64) p1)), .second]) rfl ?_
    refine own_s_lload Xlw316.here hx (hb hby at_157) (pc' := 159) rfl rfl ?_
    refine own_s_lload Xlw316.here hx (hb hby at_159) (pc' := 161) rfl rfl ?_
    refine stlw317 _ ?_
    show Steps p.tables e below (Tlw317.setTop (mkF m 164 #[.val (.long p0), .second, .val (.long p1), .second, .val (.long p2), .second, .val (.int p3), .val (.int (3 : Int32)), .val (.ref blw31), .val (.int (1 : Int32)), .val (.ref blw37), .val (.ref blw39), .val (.ref blw312), .val (.ref blw313), .val (.long (own_lmax (0 : Int64) (own_lmax (0 : Int64) p0))), .second, .val (.double lw3_v141), .second, .val (.long (own_lmax (0 : Int64) p1)), .second] [(.long (own_lmax (own_lmax (0 : Int64) (own_lmax (0 : Int64) p0)) (own_lmax (0 : Int64) p1)))])) _
    refine own_s_lstore Xlw317.here hx (hb hby at_164) (pc' := 166) rfl (L' := #[.val (.long p0), .second, .val (.long p1), .second, .val (.long p2), .second, .val (.int p3), .val (.int (3 : Int32)), .val (.ref blw31), .val (.int (1 : Int32)), .val (.ref blw37), .val (.ref blw39), .val (.ref blw312), .val (.ref blw313), .val (.long (own_lmax (own_lmax (0 : Int64) (own_lmax (0 : Int64) p0)) (own_lmax (0 : Int64) p1))), .second, .val (.double lw3_v141), .second, .val (.long (own_lmax (0 : Int64) p1)), .second]) rfl ?_
    refine own_s_dload Xlw317.here hx (hb hby at_166) (pc' := 168) rfl rfl ?_
    refine own_s_lload Xlw317.here hx (hb hby at_168) (pc' := 170) rfl rfl ?_
    refine own_s_l2d Xlw317.here hx (hb hby at_170) (pc' := 171) rfl (v := (FP.l2d (own_lmax (0 : Int64) p1))) rfl ?_
    refine own_s_dadd Xlw317.here hx (hb hby at_171) (pc' := 172) rfl lw3_hn171 (v := lw3_v171) lw3_hv171 ?_
    refine own_s_dstore Xlw317.here hx (hb hby at_172) (pc' := 174) rfl (L' := #[.val (.long p0), .second, .val (.long p1), .second, .val (.long p2), .second, .val (.int p3), .val (.int (3 : Int32)), .val (.ref blw31), .val (.int (1 : Int32)), .val (.ref blw37), .val (.ref blw39), .val (.ref blw312), .val (.ref blw313), .val (.long (own_lmax (own_lmax (0 : Int64) (own_lmax (0 : Int64) p0)) (own_lmax (0 : Int64) p1))), .second, .val (.double lw3_v171), .second, .val (.long (own_lmax (0 : Int64) p1)), .second]) rfl ?_
    refine own_s_iload Xlw317.here hx (hb hby at_174) (pc' := 176) rfl rfl ?_
    refine own_s_iconst Xlw317.here hx (hb hby at_176) (pc' := 177) rfl (v := (3 : Int32)) (by decide) ?_
    refine own_s_icmpNo Xlw317.here hx (hb hby at_177) (pc' := 180) rfl (by decide) ?_
    refine own_s_lconst Xlw317.here hx (hb hby at_180) (pc' := 181) rfl (v := (0 : Int64)) (by decide) ?_
    refine own_s_lload Xlw317.here hx (hb hby at_181) (pc' := 183) rfl rfl ?_
    refine stlw318 _ ?_
    show Steps p.tables e below (Tlw318.setTop (mkF m 186 #[.val (.long p0), .second, .val (.long p1), .second, .val (.long p2), .second, .val (.int p3), .val (.int (3 : Int32)), .val (.ref blw31), .val (.int (1 : Int32)), .val (.ref blw37), .val (.ref blw39), .val (.ref blw312), .val (.ref blw313), .val (.long (own_lmax (own_lmax (0 : Int64) (own_lmax (0 : Int64) p0)) (own_lmax (0 : Int64) p1))), .second, .val (.double lw3_v171), .second, .val (.long (own_lmax (0 : Int64) p1)), .second] [(.long (own_lmax (0 : Int64) p2))])) _
    refine own_s_lstore Xlw318.here hx (hb hby at_186) (pc' := 188) rfl (L' := #[.val (.long p0), .second, .val (.long p1), .second, .val (.long p2), .second, .val (.int p3), .val (.int (3 : Int32)), .val (.ref blw31), .val (.int (1 : Int32)), .val (.ref blw37), .val (.ref blw39), .val (.ref blw312), .val (.ref blw313), .val (.long (own_lmax (own_lmax (0 : Int64) (own_lmax (0 : Int64) p0)) (own_lmax (0 : Int64) p1))), .second, .val (.double lw3_v171), .second, .val (.long (own_lmax (0 : Int64) p2)), .second]) rfl ?_
    refine own_s_lload Xlw318.here hx (hb hby at_188) (pc' := 190) rfl rfl ?_
    refine own_s_lload Xlw318.here hx (hb hby at_190) (pc' := 192) rfl rfl ?_
    refine stlw319 _ ?_
    show Steps p.tables e below (Tlw319.setTop (mkF m 195 #[.val (.long p0), .second, .val (.long p1), .second, .val (.long p2), .second, .val (.int p3), .val (.int (3 : Int32)), .val (.ref blw31), .val (.int (1 : Int32)), .val (.ref blw37), .val (.ref blw39), .val (.ref blw312), .val (.ref blw313), .val (.long (own_lmax (own_lmax (0 : Int64) (own_lmax (0 : Int64) p0)) (own_lmax (0 : Int64) p1))), .second, .val (.double lw3_v171), .second, .val (.long (own_lmax (0 : Int64) p2)), .second] [(.long (own_lmax (own_lmax (own_lmax (0 : Int64) (own_lmax (0 : Int64) p0)) (own_lmax (0 : Int64) p1)) (own_lmax (0 : Int64) p2)))])) _
    refine own_s_lstore Xlw319.here hx (hb hby at_195) (pc' := 197) rfl (L' := #[.val (.long p0), .second, .val (.long p1), .second, .val (.long p2), .second, .val (.int p3), .val (.int (3 : Int32)), .val (.ref blw31), .val (.int (1 : Int32)), .val (.ref blw37), .val (.ref blw39), .val (.ref blw312), .val (.ref blw313), .val (.long (own_lmax (own_lmax (own_lmax (0 : Int64) (own_lmax (0 : Int64) p0)) (own_lmax (0 : Int64) p1)) (own_lmax (0 : Int64) p2))), .second, .val (.double lw3_v171), .second, .val (.long (own_lmax (0 : Int64) p2)), .second]) rfl ?_
    refine own_s_dload Xlw319.here hx (hb hby at_197) (pc' := 199) rfl rfl ?_
    refine own_s_lload Xlw319.here hx (hb hby at_199) (pc' := 201) rfl rfl ?_
    refine own_s_l2d Xlw319.here hx (hb hby at_201) (pc' := 202) rfl (v := (FP.l2d (own_lmax (0 : Int64) p2))) rfl ?_
    refine own_s_dadd Xlw319.here hx (hb hby at_202) (pc' := 203) rfl lw3_hn202 (v := lw3_v202) lw3_hv202 ?_
    refine own_s_dstore Xlw319.here hx (hb hby at_203) (pc' := 205) rfl (L' := #[.val (.long p0), .second, .val (.long p1), .second, .val (.long p2), .second, .val (.int p3), .val (.int (3 : Int32)), .val (.ref blw31), .val (.int (1 : Int32)), .val (.ref blw37), .val (.ref blw39), .val (.ref blw312), .val (.ref blw313), .val (.long (own_lmax (own_lmax (own_lmax (0 : Int64) (own_lmax (0 : Int64) p0)) (own_lmax (0 : Int64) p1)) (own_lmax (0 : Int64) p2))), .second, .val (.double lw3_v202), .second, .val (.long (own_lmax (0 : Int64) p2)), .second]) rfl ?_
    refine own_s_iload Xlw319.here hx (hb hby at_205) (pc' := 207) rfl rfl ?_
    refine own_s_ifYes Xlw319.here hx (hb hby at_207) (by decide) (pc' := 214) (by decide) (by decide) ?_
    refine own_s_dload Xlw319.here hx (hb hby at_214) (pc' := 216) rfl rfl ?_
    refine own_s_iload Xlw319.here hx (hb hby at_216) (pc' := 218) rfl rfl ?_
    refine own_s_i2d Xlw319.here hx (hb hby at_218) (pc' := 219) rfl (v := (FP.i2d (3 : Int32))) rfl ?_
    refine own_s_ddiv Xlw319.here hx (hb hby at_219) (pc' := 220) rfl lw3_hn219 (v := lw3_v219) lw3_hv219 ?_
    refine own_s_dstore Xlw319.here hx (hb hby at_220) (pc' := 222) rfl (L' := #[.val (.long p0), .second, .val (.long p1), .second, .val (.long p2), .second, .val (.int p3), .val (.int (3 : Int32)), .val (.ref blw31), .val (.int (1 : Int32)), .val (.ref blw37), .val (.ref blw39), .val (.ref blw312), .val (.ref blw313), .val (.long (own_lmax (own_lmax (own_lmax (0 : Int64) (own_lmax (0 : Int64) p0)) (own_lmax (0 : Int64) p1)) (own_lmax (0 : Int64) p2))), .second, .val (.double lw3_v202), .second, .val (.double lw3_v219), .second]) rfl ?_
    refine own_s_iload Xlw319.here hx (hb hby at_222) (pc' := 224) rfl rfl ?_
    refine own_s_ifNo Xlw319.here hx (hb hby at_224) (pc' := 227) rfl (by decide) ?_
    refine own_s_aload Xlw319.here hx (hb hby at_227) (pc' := 229) rfl rfl rfl ?_
    refine stlw320.trans ?_
    show Steps p.tables e below (Tlw320.setTop (mkF m 232 #[.val (.long p0), .second, .val (.long p1), .second, .val (.long p2), .second, .val (.int p3), .val (.int (3 : Int32)), .val (.ref blw31), .val (.int (1 : Int32)), .val (.ref blw37), .val (.ref blw39), .val (.ref blw312), .val (.ref blw313), .val (.long (own_lmax (own_lmax (own_lmax (0 : Int64) (own_lmax (0 : Int64) p0)) (own_lmax (0 : Int64) p1)) (own_lmax (0 : Int64) p2))), .second, .val (.double lw3_v202), .second, .val (.double lw3_v219), .second] [(.long (((0 + 1) + 1) + 1))])) _
    refine own_s_iload Xlw320.here hx (hb hby at_232) (pc' := 234) rfl rfl ?_
    refine own_s_i2l Xlw320.here hx (hb hby at_234) (pc' := 235) rfl (v := (3 : Int64)) (by decide) ?_
    refine own_s_lcmp Xlw320.here hx (hb hby at_235) (pc' := 236) rfl (v := (0 : Int32)) lw3_hc235 ?_
    refine own_s_ifNo Xlw320.here hx (hb hby at_236) (pc' := 239) rfl (by decide) ?_
    refine own_s_aload Xlw320.here hx (hb hby at_239) (pc' := 241) rfl rfl rfl ?_
    refine stlw321.trans ?_
    show Steps p.tables e below (Tlw321.setTop (mkF m 244 #[.val (.long p0), .second, .val (.long p1), .second, .val (.long p2), .second, .val (.int p3), .val (.int (3 : Int32)), .val (.ref blw31), .val (.int (1 : Int32)), .val (.ref blw37), .val (.ref blw39), .val (.ref blw312), .val (.ref blw313), .val (.long (own_lmax (own_lmax (own_lmax (0 : Int64) (own_lmax (0 : Int64) p0)) (own_lmax (0 : Int64) p1)) (own_lmax (0 : Int64) p2))), .second, .val (.double lw3_v202), .second, .val (.double lw3_v219), .second] [(.long (own_lmax (own_lmax (own_lmax 0 (own_lmax (0 : Int64) p0)) (own_lmax (0 : Int64) p1)) (own_lmax (0 : Int64) p2)))])) _
    refine own_s_lload Xlw321.here hx (hb hby at_244) (pc' := 246) rfl rfl ?_
    refine own_s_lcmp Xlw321.here hx (hb hby at_246) (pc' := 247) rfl (v := (0 : Int32)) lw3_hc246 ?_
    refine own_s_ifNo Xlw321.here hx (hb hby at_247) (pc' := 250) rfl (by decide) ?_
    refine own_s_aload Xlw321.here hx (hb hby at_250) (pc' := 252) rfl rfl rfl ?_
    refine stlw322.trans ?_
    show Steps p.tables e below (Tlw322.setTop (mkF m 255 #[.val (.long p0), .second, .val (.long p1), .second, .val (.long p2), .second, .val (.int p3), .val (.int (3 : Int32)), .val (.ref blw31), .val (.int (1 : Int32)), .val (.ref blw37), .val (.ref blw39), .val (.ref blw312), .val (.ref blw313), .val (.long (own_lmax (own_lmax (own_lmax (0 : Int64) (own_lmax (0 : Int64) p0)) (own_lmax (0 : Int64) p1)) (own_lmax (0 : Int64) p2))), .second, .val (.double lw3_v202), .second, .val (.double lw3_v219), .second] [(.double (FP.ddiv (FP.dadd (FP.dadd (FP.dadd 0 (FP.l2d (own_lmax (0 : Int64) p0))) (FP.l2d (own_lmax (0 : Int64) p1))) (FP.l2d (own_lmax (0 : Int64) p2))) (FP.l2d (((0 + 1) + 1) + 1))))])) _
    refine own_s_dload Xlw322.here hx (hb hby at_255) (pc' := 257) rfl rfl ?_
    refine own_s_dcmp Xlw322.here hx (hb hby at_257) (pc' := 258) rfl (v := (0 : Int32)) lw3_hc257 ?_
    refine own_s_ifNo Xlw322.here hx (hb hby at_258) (pc' := 261) rfl (by decide) ?_
    refine own_s_aload Xlw322.here hx (hb hby at_261) (pc' := 263) rfl rfl rfl ?_
    refine stlw323.trans ?_
    show Steps p.tables e below (Tlw323.setTop (mkF m 266 #[.val (.long p0), .second, .val (.long p1), .second, .val (.long p2), .second, .val (.int p3), .val (.int (3 : Int32)), .val (.ref blw31), .val (.int (1 : Int32)), .val (.ref blw37), .val (.ref blw39), .val (.ref blw312), .val (.ref blw313), .val (.long (own_lmax (own_lmax (own_lmax (0 : Int64) (own_lmax (0 : Int64) p0)) (own_lmax (0 : Int64) p1)) (own_lmax (0 : Int64) p2))), .second, .val (.double lw3_v202), .second, .val (.double lw3_v219), .second] [(.long (0 : Int64))])) _
    refine own_s_lconst Xlw323.here hx (hb hby at_266) (pc' := 267) rfl (v := (0 : Int64)) (by decide) ?_
    refine own_s_lcmp Xlw323.here hx (hb hby at_267) (pc' := 268) rfl (v := (0 : Int32)) lw3_hc267 ?_
    refine own_s_ifNo Xlw323.here hx (hb hby at_268) (pc' := 271) rfl (by decide) ?_
    refine own_s_iconst Xlw323.here hx (hb hby at_271) (pc' := 272) rfl (v := (1 : Int32)) (by decide) ?_
    refine own_s_goto Xlw323.here hx (hb hby at_272) (by decide) (pc' := 276) (by decide) ?_
    exact retN Xlw323 hx (t := .boolean) Bd.returns (by simp) (hb hby at_276) hr
  · show own_Q0 n0 _ Tlw323.heap _
    rw [elw323]
    exact ⟨rfl, Nlw323⟩
theorem own_il3 : FP.l2d (((0 + 1) + 1) + 1) = FP.i2d (3 : Int32) := by decide +kernel
set_option maxRecDepth 65536 in
set_option maxHeartbeats 40000000 in
theorem own_rm0 (l : Launch) (Z : State) (a0 : Array Value) (hw : ∀ d ∈ tables_1, d.before a0 Z = true) (ws : List Jvm.Cond) (p0 : Int64) (p1 : Int64) (p2 : Int64) (p3 : Int32) (h0 : Heap) (n0 : Nat) (Z0 : n0 ≤ h0.size)  :
    MetFree l x (head1 (Jvm.Cond.code x code maxLocals ret :: ws) room_1) (fun a U => a = #[(.long p0), (.long p1), (.long p2), (.int p3)] ∧ Z.Warmed39 U.vm ∧ U.heap = h0) (fun _ _ _ _ _ => True) (fun _ U o U' => ∃ v L, o = .returned v ∧ own_Q0 n0 v U'.heap L ∧ FrameEnd U o U' L room_1.cells room_1.slots) := by
  rcases own_mask3 p3 with hn | hn | hn | hn
  · exact own_rm_lw0 l Z a0 hw ws p0 p1 p2 p3 h0 n0 Z0 (lw0_hv3 := hn) (lw0_hc235 := (by decide +kernel)) (lw0_hc246 := (by decide +kernel)) (lw0_hc257 := (by decide +kernel)) (lw0_hc267 := (by decide +kernel))
  · exact own_rm_lw1 l Z a0 hw ws p0 p1 p2 p3 h0 n0 Z0 (lw1_hv3 := hn) (lw1_c24_addwait0_hle16 := (by simp only [List.length_set, List.length_replicate]; decide)) (lw1_hn141 := (own_nnA own_nn0 _)) (lw1_hv141 := rfl) (lw1_hn219 := (by rw [← own_il1]; exact own_nnD (own_nnA own_nn0 _) (by decide))) (lw1_hv219 := rfl) (lw1_hc235 := (by decide +kernel)) (lw1_hc246 := (own_lcE rfl)) (lw1_hc257 := (own_dcE (congrArg _ own_il1) (own_nnD (own_nnA own_nn0 _) (by decide)) _)) (lw1_hc267 := (by decide +kernel))
  · exact own_rm_lw2 l Z a0 hw ws p0 p1 p2 p3 h0 n0 Z0 (lw2_hv3 := hn) (lw2_c24_addwait0_hle16 := (by simp only [List.length_set, List.length_replicate]; decide)) (lw2_c36_addwait1_hle16 := (by simp only [List.length_set, List.length_replicate]; decide)) (lw2_hn141 := (own_nnA own_nn0 _)) (lw2_hv141 := rfl) (lw2_hn171 := (own_nnA (own_nnA own_nn0 _) _)) (lw2_hv171 := rfl) (lw2_hn219 := (by rw [← own_il2]; exact own_nnD (own_nnA (own_nnA own_nn0 _) _) (by decide))) (lw2_hv219 := rfl) (lw2_hc235 := (by decide +kernel)) (lw2_hc246 := (own_lcE rfl)) (lw2_hc257 := (own_dcE (congrArg _ own_il2) (own_nnD (own_nnA (own_nnA own_nn0 _) _) (by decide)) _)) (lw2_hc267 := (by decide +kernel))
  · exact own_rm_lw3 l Z a0 hw ws p0 p1 p2 p3 h0 n0 Z0 (lw3_hv3 := hn) (lw3_c24_addwait0_hle16 := (by simp only [List.length_set, List.length_replicate]; decide)) (lw3_c36_addwait1_hle16 := (by simp only [List.length_set, List.length_replicate]; decide)) (lw3_c49_addwait2_hle16 := (by simp only [List.length_set, List.length_replicate]; decide)) (lw3_hn141 := (own_nnA own_nn0 _)) (lw3_hv141 := rfl) (lw3_hn171 := (own_nnA (own_nnA own_nn0 _) _)) (lw3_hv171 := rfl) (lw3_hn202 := (own_nnA (own_nnA (own_nnA own_nn0 _) _) _)) (lw3_hv202 := rfl) (lw3_hn219 := (by rw [← own_il3]; exact own_nnD (own_nnA (own_nnA (own_nnA own_nn0 _) _) _) (by decide))) (lw3_hv219 := rfl) (lw3_hc235 := (by decide +kernel)) (lw3_hc246 := (own_lcE rfl)) (lw3_hc257 := (own_dcE (congrArg _ own_il3) (own_nnD (own_nnA (own_nnA (own_nnA own_nn0 _) _) _) (by decide)) _)) (lw3_hc267 := (by decide +kernel))
set_option maxRecDepth 65536 in
set_option maxHeartbeats 40000000 in
theorem comes_1 {Post : Tables → Env → Array Value → State → Outcome → State → Prop} (hpost : ∀ tb e args s v u, (limb_1_1.after args s (.returned v) u = true ∧ limb_1_2.after args s (.returned v) u = true ∧ True) → FrameEnd s (.returned v) u (Jvm.fieldLocs frame_1_writes args s ++ Jvm.arrayLocs frame_1_arrays args s ++ Jvm.staticLocs frame_1_statics s) 32 1408 → Post tb e args s (.returned v) u) :
    ArmFor flags0 classFile x code maxLocals ret World_1 tables_1 room_1 Calls_1 rest_1 Pre_1 Post := by
  intro l hfl _ _ p e ha hc hk s m args below hf hA hF happ hP
  obtain ⟨hcalls, hrest, hpre⟩ := hP
  obtain ⟨-, -, -, hnamed, -, -, -, hat⟩ := (Spec.applies_iff hf).mp happ
  obtain ⟨hg, hn⟩ := and_e (Cond.before_iff.mp (show (Jvm.Cond.and given_1 narrow_1).before args s = true from hpre))
  obtain ⟨hcount, g0⟩ := and_e hg
  obtain ⟨a0, g1⟩ := and_e g0
  obtain ⟨a1, g2⟩ := and_e g1
  obtain ⟨a2, g3⟩ := and_e g2
  have a3 := g3
  obtain ⟨w0, w1, w2, w3, rfl⟩ : ∃ w0 w1 w2 w3 : Value, args = #[w0, w1, w2, w3] := by
    have hs : args.size = 4 := by simpa [Cond.value, given_1] using hcount
    obtain ⟨L⟩ := args
    match L, hs with
    | [w0, w1, w2, w3], _ => exact ⟨w0, w1, w2, w3, rfl⟩
  have hw := fun d (hd : d ∈ tables_1) => atoms_spec (ws := Jvm.Cond.code x code maxLocals ret :: tables_1) hat d (List.mem_cons_of_mem _ hd)
  obtain ⟨i0, ei0⟩ := isL_v a0
  obtain rfl : w0 = (.long i0) := Option.some.inj ei0
  obtain ⟨i1, ei1⟩ := isL_v a1
  obtain rfl : w1 = (.long i1) := Option.some.inj ei1
  obtain ⟨i2, ei2⟩ := isL_v a2
  obtain rfl : w2 = (.long i2) := Option.some.inj ei2
  obtain ⟨i3, ei3⟩ := is_v a3
  obtain rfl : w3 = (.int i3) := Option.some.inj ei3
  obtain ⟨n, o, h1, h2, h3, _, L, rfl, ⟨rfl, N⟩, hq⟩ := own_rm0 l s _ hw tables_1 i0 i1 i2 i3 s.heap s.heap.size (Nat.le_refl _)  p e ha hc hk s m _ below hf ((Spec.applies_iff_loose hf).mp happ).1 ⟨rfl, State.Warmed39.refl s, rfl⟩ trivial
  refine ⟨n, _, h1, h2, h3, hpost _ _ _ _ _ _ ⟨Cond.after_iff.mpr rfl, Cond.after_iff.mpr (eq_i res_at (Term.int_eval (1)) rfl), trivial⟩ ⟨hq.1, hq.2.1, (hq.2.2.sift fun y hy => Or.inr (N y hy)).mono (by decide) (by decide)⟩⟩
theorem main_1_1 : Claimed_1_1 := comes_1 fun _ _ _ _ _ _ h hF => ⟨h.1, hF⟩
theorem main_1_2 : Claimed_1_2 := comes_1 fun _ _ _ _ _ _ h hF => ⟨h.2.1, hF⟩
end Jvm.Pilot.@@N@@
namespace Jvm.Pilot.@@N@@
open Jvm Jvm.ClassFile Sem Op Lib Jvm.Free Jvm.Stand Jvm.Pilot.@@N@@.Jvm.D
/-! MADE BY PROGRAM (witnessworld.py) out of the Statement's table words and the real class files: 21 classes; the members and pool entries that the words name. The judged class is class 1, her method 1. -/
namespace start1
open Jvm.ClassFile
def u (s : String) : CpInfo := .utf8 (stringToUtf16 s)
/-- a pool by its gaps: so many unusable entries, then the entry; so many at the end -/
def gap : Nat → List CpInfo → List CpInfo
  | 0, r => r
  | n + 1, r => .unusable :: gap n r
def poolList (es : List (Nat × CpInfo)) (last : Nat) : List CpInfo := es.foldr (fun e r => gap e.1 (e.2 :: r)) (gap last [])
def pool (es : List (Nat × CpInfo)) (last : Nat) : Array CpInfo := ⟨poolList es last⟩
def fileOf (pool : Array CpInfo) (this : Nat) (attrs : Array Attribute := #[]) (ms : Array MethodInfo := #[]) (fl : Nat := 33) (sup : Nat := 0) (ifs : Array Nat := #[]) (fds : Array FieldInfo := #[]) : ClassFile where
  minorVersion := 0
  majorVersion := 65
  constantPool := pool
  accessFlags := fl
  thisClass := this
  superClass := sup
  interfaces := ifs
  fields := fds
  methods := ms
  attributes := attrs
def plain (name : String) (sup : Option ClassId) : Class where
  name := name
  kind := .ordinary
  loader := none
  accessFlags := 33
  super := sup
  interfaces := #[]
  cf := none
  fields := #[]
  methods := #[]
  instanceTypes := #[]
  staticTypes := #[]
  resolved := #[]
  callSites := []
  init := .initialized
  statics := none
  mirror := none

def pool0 : Array CpInfo := pool [(5, u "<init>"), (0, u "()V"), (1, .class_ 10), (1, u "java/lang/Object")] 113

def k0c0 : Code := { maxStack := 0, maxLocals := 1, code := object_method_1_code, exceptionTable := #[], attributes := #[] }
def k0m0 : Method := { name := "<init>", desc := "()V", sig := { parameters := [], returnType := none }, accessFlags := 1, code := some k0c0 }
/-- java/lang/Object -/
def k0 : Class := { plain "java/lang/Object" none with
  accessFlags := 33
  interfaces := #[]
  cf := some (fileOf pool0 8 #[] #[{ accessFlags := 1, nameIndex := 5, descriptorIndex := 6, attributes := #[] }] 33 0 #[] #[])
  fields := #[]
  methods := #[k0m0]
  instanceTypes := #[]
  staticTypes := #[]
  resolved := Array.replicate 124 none
  statics := none }

def pool1 : Array CpInfo := pool [(2, .class_ 4), (0, .nameAndType 5 6), (0, u "java/lang/Object"), (0, u "<init>"), (0, u "()V"), (0, .class_ 8), (0, u "millrace/TimingBuffer"), (0, .methodref 7 3), (0, .methodref 7 11), (0, .nameAndType 12 13), (0, u "addWait"), (0, u "(J)V"), (0, .methodref 7 15), (0, .nameAndType 16 17), (0, u "full"), (0, u "()Z"), (0, .class_ 19), (0, u "millrace/DurationHistogram"), (0, .methodref 18 3), (0, .methodref 7 22), (0, .nameAndType 23 24), (0, u "flush"), (0, u "(Lmillrace/DurationHistogram;Lmillrace/DurationHistogram;)V"), (0, .methodref 18 26), (0, .nameAndType 27 28), (0, u "summary"), (0, u "()Lmillrace/PoolSnapshot$Timing;"), (0, .methodref 30 31), (0, .class_ 32), (0, .nameAndType 33 34), (0, u "java/lang/Math"), (0, u "max"), (0, u "(JJ)J"), (0, .methodref 36 37), (0, .class_ 38), (0, .nameAndType 39 40), (0, u "millrace/PoolSnapshot$Timing"), (0, u "count"), (0, u "()J"), (0, .methodref 36 42), (0, .nameAndType 43 40), (0, u "maxNanos"), (0, .methodref 36 45), (0, .nameAndType 46 47), (0, u "meanNanos"), (0, u "()D"), (0, .class_ 49), (0, u "millrace/TimingBufferAddWaitPinLaw"), (2, u "law"), (0, u "(JJJI)Z")] 7

def k1m0 : Method := { name := "<init>", desc := "()V", sig := { parameters := [], returnType := none }, accessFlags := 2, code := none }
def k1c1 : Code := { maxStack := 4, maxLocals := 20, code := code, exceptionTable := #[], attributes := #[] }
def k1m1 : Method := { name := "law", desc := "(JJJI)Z", sig := { parameters := [.long, .long, .long, .int], returnType := some .boolean }, accessFlags := 9, code := some k1c1 }
/-- millrace/TimingBufferAddWaitPinLaw -/
def k1 : Class := { plain "millrace/TimingBufferAddWaitPinLaw" (some 0) with
  accessFlags := 49
  interfaces := #[]
  cf := some (fileOf pool1 48 #[] #[{ accessFlags := 2, nameIndex := 5, descriptorIndex := 6, attributes := #[] }, { accessFlags := 9, nameIndex := 52, descriptorIndex := 53, attributes := #[] }] 49 2 #[] #[])
  fields := #[]
  methods := #[k1m0, k1m1]
  instanceTypes := #[]
  staticTypes := #[]
  resolved := Array.replicate 61 none
  statics := none }

def pool2 : Array CpInfo := pool [(1, .methodref 2 3), (0, .class_ 4), (0, .nameAndType 5 6), (0, u "java/lang/Object"), (0, u "<init>"), (0, u "()V"), (0, .class_ 8), (0, u "millrace/TimingBuffer"), (0, .fieldref 7 10), (0, .nameAndType 11 12), (0, u "waits"), (0, u "[J"), (0, .fieldref 7 14), (0, .nameAndType 15 12), (0, u "runs"), (0, .fieldref 7 17), (0, .nameAndType 18 19), (0, u "waitCount"), (0, u "I"), (0, .fieldref 7 21), (0, .nameAndType 22 19), (0, u "runCount"), (0, .methodref 24 25), (0, .class_ 26), (0, .nameAndType 27 28), (0, u "millrace/DurationHistogram"), (0, u "record"), (0, u "([JI)V"), (0, u "CAPACITY"), (4, u "addWait"), (0, u "(J)V"), (1, u "full"), (0, u "()Z"), (1, u "flush"), (0, u "(Lmillrace/DurationHistogram;Lmillrace/DurationHistogram;)V")] 2

def k2c0 : Code := { maxStack := 2, maxLocals := 1, code := prog_51_method_1_code, exceptionTable := #[], attributes := #[] }
def k2m0 : Method := { name := "<init>", desc := "()V", sig := { parameters := [], returnType := none }, accessFlags := 0, code := some k2c0 }
def k2c1 : Code := { maxStack := 5, maxLocals := 3, code := prog_51_method_2_code, exceptionTable := #[], attributes := #[] }
def k2m1 : Method := { name := "addWait", desc := "(J)V", sig := { parameters := [.long], returnType := none }, accessFlags := 0, code := some k2c1 }
def k2c2 : Code := { maxStack := 2, maxLocals := 1, code := prog_51_method_4_code, exceptionTable := #[], attributes := #[] }
def k2m2 : Method := { name := "full", desc := "()Z", sig := { parameters := [], returnType := some .boolean }, accessFlags := 0, code := some k2c2 }
def k2c3 : Code := { maxStack := 3, maxLocals := 3, code := prog_51_method_5_code, exceptionTable := #[], attributes := #[] }
def k2m3 : Method := { name := "flush", desc := "(Lmillrace/DurationHistogram;Lmillrace/DurationHistogram;)V", sig := { parameters := [(.object "millrace/DurationHistogram"), (.object "millrace/DurationHistogram")], returnType := none }, accessFlags := 0, code := some k2c3 }
/-- millrace/TimingBuffer -/
def k2 : Class := { plain "millrace/TimingBuffer" (some 0) with
  accessFlags := 48
  interfaces := #[]
  cf := some (fileOf pool2 7 #[] #[{ accessFlags := 0, nameIndex := 5, descriptorIndex := 6, attributes := #[] }, { accessFlags := 0, nameIndex := 34, descriptorIndex := 35, attributes := #[] }, { accessFlags := 0, nameIndex := 37, descriptorIndex := 38, attributes := #[] }, { accessFlags := 0, nameIndex := 40, descriptorIndex := 41, attributes := #[] }] 48 2 #[] #[{ accessFlags := 26, nameIndex := 29, descriptorIndex := 19, attributes := #[] }, { accessFlags := 18, nameIndex := 11, descriptorIndex := 12, attributes := #[] }, { accessFlags := 2, nameIndex := 18, descriptorIndex := 19, attributes := #[] }, { accessFlags := 18, nameIndex := 15, descriptorIndex := 12, attributes := #[] }, { accessFlags := 2, nameIndex := 22, descriptorIndex := 19, attributes := #[] }])
  fields := #[{ name := "CAPACITY", type := .int, accessFlags := 26, slot := 0, constantValue := 0 }, { name := "waits", type := (.array .long), accessFlags := 18, slot := 0, constantValue := 0 }, { name := "waitCount", type := .int, accessFlags := 2, slot := 1, constantValue := 0 }, { name := "runs", type := (.array .long), accessFlags := 18, slot := 2, constantValue := 0 }, { name := "runCount", type := .int, accessFlags := 2, slot := 3, constantValue := 0 }]
  methods := #[k2m0, k2m1, k2m2, k2m3]
  instanceTypes := #[(.array .long), .int, (.array .long), .int]
  staticTypes := #[.int]
  resolved := Array.replicate 44 none
  statics := none }

def pool3 : Array CpInfo := pool [(1, .class_ 2), (0, u "millrace/DurationHistogram"), (0, .methodref 4 5), (0, .class_ 6), (0, .nameAndType 7 8), (0, u "java/lang/Object"), (0, u "<init>"), (0, u "()V"), (0, .class_ 10), (0, u "java/lang/Long"), (0, .class_ 12), (0, u "[J"), (0, .fieldref 1 14), (0, .nameAndType 15 16), (0, u "ranges"), (0, u "[[J"), (0, .methodref 1 18), (0, .nameAndType 19 20), (0, u "add"), (0, u "(J)V"), (0, .methodref 22 23), (0, .class_ 24), (0, .nameAndType 25 26), (0, u "java/lang/Math"), (0, u "max"), (0, u "(JJ)J"), (0, .methodref 1 28), (0, .nameAndType 29 30), (0, u "range"), (0, u "(J)I"), (0, .methodref 1 32), (0, .nameAndType 33 34), (0, u "subBucket"), (0, u "(JI)I"), (0, .fieldref 1 36), (0, .nameAndType 37 38), (0, u "count"), (0, u "J"), (0, .fieldref 1 40), (0, .nameAndType 41 42), (0, u "sum"), (0, u "D"), (0, .fieldref 1 44), (0, .nameAndType 25 38), (0, .class_ 46), (0, u "millrace/PoolSnapshot$Timing"), (0, .methodref 45 48), (0, .nameAndType 7 49), (0, u "(JDJJJJ)V"), (0, .methodref 1 51), (0, .nameAndType 52 53), (0, u "percentile"), (0, u "(I)J"), (0, .long 100), (1, .long 99), (1, .methodref 1 59), (0, .nameAndType 60 61), (0, u "middle"), (0, u "(II)J"), (0, .methodref 22 63), (0, .nameAndType 64 26), (0, u "min"), (7, .methodref 9 73), (0, .nameAndType 74 30), (0, u "numberOfLeadingZeros"), (0, u "SUB_BUCKET_BITS"), (0, u "I"), (2, u "SUB_BUCKETS"), (3, u "record"), (0, u "([JI)V"), (1, u "summary"), (0, u "()Lmillrace/PoolSnapshot$Timing;")] 6

def k3c0 : Code := { maxStack := 2, maxLocals := 1, code := prog_18_method_1_code, exceptionTable := #[], attributes := #[] }
def k3m0 : Method := { name := "<init>", desc := "()V", sig := { parameters := [], returnType := none }, accessFlags := 0, code := some k3c0 }
def k3c1 : Code := { maxStack := 3, maxLocals := 4, code := prog_18_method_3_code, exceptionTable := #[], attributes := #[] }
def k3m1 : Method := { name := "record", desc := "([JI)V", sig := { parameters := [(.array .long), .int], returnType := none }, accessFlags := 32, code := some k3c1 }
def k3c2 : Code := { maxStack := 6, maxLocals := 7, code := prog_18_method_4_code, exceptionTable := #[], attributes := #[] }
def k3m2 : Method := { name := "add", desc := "(J)V", sig := { parameters := [.long], returnType := none }, accessFlags := 2, code := some k3c2 }
def k3c3 : Code := { maxStack := 14, maxLocals := 1, code := prog_18_method_5_code, exceptionTable := #[], attributes := #[] }
def k3m3 : Method := { name := "summary", desc := "()Lmillrace/PoolSnapshot$Timing;", sig := { parameters := [], returnType := some (.object "millrace/PoolSnapshot$Timing") }, accessFlags := 32, code := some k3c3 }
def k3c4 : Code := { maxStack := 6, maxLocals := 9, code := prog_18_method_6_code, exceptionTable := #[], attributes := #[] }
def k3m4 : Method := { name := "percentile", desc := "(I)J", sig := { parameters := [.int], returnType := some .long }, accessFlags := 2, code := some k3c4 }
def k3c5 : Code := { maxStack := 3, maxLocals := 3, code := prog_18_method_7_code, exceptionTable := #[], attributes := #[] }
def k3m5 : Method := { name := "range", desc := "(J)I", sig := { parameters := [.long], returnType := some .int }, accessFlags := 10, code := some k3c5 }
def k3c6 : Code := { maxStack := 4, maxLocals := 3, code := prog_18_method_8_code, exceptionTable := #[], attributes := #[] }
def k3m6 : Method := { name := "subBucket", desc := "(JI)I", sig := { parameters := [.long, .int], returnType := some .int }, accessFlags := 10, code := some k3c6 }
def k3c7 : Code := { maxStack := 5, maxLocals := 5, code := prog_18_method_9_code, exceptionTable := #[], attributes := #[] }
def k3m7 : Method := { name := "middle", desc := "(II)J", sig := { parameters := [.int, .int], returnType := some .long }, accessFlags := 10, code := some k3c7 }
/-- millrace/DurationHistogram -/
def k3 : Class := { plain "millrace/DurationHistogram" (some 0) with
  accessFlags := 48
  interfaces := #[]
  cf := some (fileOf pool3 1 #[] #[{ accessFlags := 0, nameIndex := 7, descriptorIndex := 8, attributes := #[] }, { accessFlags := 32, nameIndex := 83, descriptorIndex := 84, attributes := #[] }, { accessFlags := 2, nameIndex := 19, descriptorIndex := 20, attributes := #[] }, { accessFlags := 32, nameIndex := 86, descriptorIndex := 87, attributes := #[] }, { accessFlags := 2, nameIndex := 52, descriptorIndex := 53, attributes := #[] }, { accessFlags := 10, nameIndex := 29, descriptorIndex := 30, attributes := #[] }, { accessFlags := 10, nameIndex := 33, descriptorIndex := 34, attributes := #[] }, { accessFlags := 10, nameIndex := 60, descriptorIndex := 61, attributes := #[] }] 48 4 #[] #[{ accessFlags := 26, nameIndex := 75, descriptorIndex := 76, attributes := #[] }, { accessFlags := 26, nameIndex := 79, descriptorIndex := 76, attributes := #[] }, { accessFlags := 18, nameIndex := 15, descriptorIndex := 16, attributes := #[] }, { accessFlags := 2, nameIndex := 37, descriptorIndex := 38, attributes := #[] }, { accessFlags := 2, nameIndex := 41, descriptorIndex := 42, attributes := #[] }, { accessFlags := 2, nameIndex := 25, descriptorIndex := 38, attributes := #[] }])
  fields := #[{ name := "SUB_BUCKET_BITS", type := .int, accessFlags := 26, slot := 0, constantValue := 0 }, { name := "SUB_BUCKETS", type := .int, accessFlags := 26, slot := 1, constantValue := 0 }, { name := "ranges", type := (.array (.array .long)), accessFlags := 18, slot := 0, constantValue := 0 }, { name := "count", type := .long, accessFlags := 2, slot := 1, constantValue := 0 }, { name := "sum", type := .double, accessFlags := 2, slot := 2, constantValue := 0 }, { name := "max", type := .long, accessFlags := 2, slot := 3, constantValue := 0 }]
  methods := #[k3m0, k3m1, k3m2, k3m3, k3m4, k3m5, k3m6, k3m7]
  instanceTypes := #[(.array (.array .long)), .long, .double, .long]
  staticTypes := #[.int, .int]
  resolved := Array.replicate 94 none
  statics := none }

def pool4 : Array CpInfo := pool [(1, .class_ 2), (0, u "java/lang/Math"), (1, .class_ 6), (1, u "java/lang/Object"), (0, u "<init>"), (0, u "()V"), (89, .class_ 100), (1, u "java/lang/Math$RandomNumberGeneratorHolder"), (20, u "(JJ)J"), (50, u "negativeZeroFloatBits"), (0, u "J"), (2, u "negativeZeroDoubleBits"), (21, u "max"), (2, u "min"), (43, u "$assertionsDisabled"), (0, u "Z"), (91, u "twoToTheDoubleScaleDown"), (0, u "D"), (4, u "twoToTheDoubleScaleUp"), (9, u "E"), (3, u "PI"), (2, u "TAU"), (2, u "DEGREES_TO_RADIANS"), (0, u "RADIANS_TO_DEGREES")] 94

def k4m0 : Method := { name := "<init>", desc := "()V", sig := { parameters := [], returnType := none }, accessFlags := 2, code := none }
def k4c1 : Code := { maxStack := 4, maxLocals := 4, code := jdk_29_method_66_code, exceptionTable := #[], attributes := #[] }
def k4m1 : Method := { name := "max", desc := "(JJ)J", sig := { parameters := [.long, .long], returnType := some .long }, accessFlags := 9, code := some k4c1 }
def k4c2 : Code := { maxStack := 4, maxLocals := 4, code := jdk_29_method_70_code, exceptionTable := #[], attributes := #[] }
def k4m2 : Method := { name := "min", desc := "(JJ)J", sig := { parameters := [.long, .long], returnType := some .long }, accessFlags := 9, code := some k4c2 }
/-- java/lang/Math -/
def k4 : Class := { plain "java/lang/Math" (some 0) with
  accessFlags := 49
  interfaces := #[]
  cf := some (fileOf pool4 1 #[.nestMembers #[98]] #[{ accessFlags := 2, nameIndex := 7, descriptorIndex := 8, attributes := #[] }, { accessFlags := 9, nameIndex := 198, descriptorIndex := 121, attributes := #[] }, { accessFlags := 9, nameIndex := 201, descriptorIndex := 121, attributes := #[] }] 49 4 #[] #[{ accessFlags := 25, nameIndex := 354, descriptorIndex := 339, attributes := #[] }, { accessFlags := 25, nameIndex := 358, descriptorIndex := 339, attributes := #[] }, { accessFlags := 25, nameIndex := 361, descriptorIndex := 339, attributes := #[] }, { accessFlags := 26, nameIndex := 364, descriptorIndex := 339, attributes := #[] }, { accessFlags := 26, nameIndex := 365, descriptorIndex := 339, attributes := #[] }, { accessFlags := 26, nameIndex := 172, descriptorIndex := 173, attributes := #[] }, { accessFlags := 26, nameIndex := 176, descriptorIndex := 173, attributes := #[] }, { accessFlags := 8, nameIndex := 344, descriptorIndex := 339, attributes := #[] }, { accessFlags := 8, nameIndex := 338, descriptorIndex := 339, attributes := #[] }, { accessFlags := 4120, nameIndex := 245, descriptorIndex := 246, attributes := #[] }])
  fields := #[{ name := "E", type := .double, accessFlags := 25, slot := 0, constantValue := 0 }, { name := "PI", type := .double, accessFlags := 25, slot := 1, constantValue := 0 }, { name := "TAU", type := .double, accessFlags := 25, slot := 2, constantValue := 0 }, { name := "DEGREES_TO_RADIANS", type := .double, accessFlags := 26, slot := 3, constantValue := 0 }, { name := "RADIANS_TO_DEGREES", type := .double, accessFlags := 26, slot := 4, constantValue := 0 }, { name := "negativeZeroFloatBits", type := .long, accessFlags := 26, slot := 5, constantValue := 0 }, { name := "negativeZeroDoubleBits", type := .long, accessFlags := 26, slot := 6, constantValue := 0 }, { name := "twoToTheDoubleScaleUp", type := .double, accessFlags := 8, slot := 7, constantValue := 0 }, { name := "twoToTheDoubleScaleDown", type := .double, accessFlags := 8, slot := 8, constantValue := 0 }, { name := "$assertionsDisabled", type := .boolean, accessFlags := 4120, slot := 9, constantValue := 0 }]
  methods := #[k4m0, k4m1, k4m2]
  instanceTypes := #[]
  staticTypes := #[.double, .double, .double, .double, .double, .long, .long, .double, .double, .boolean]
  resolved := Array.replicate 460 none
  statics := none }

def pool5 : Array CpInfo := pool [(1, .class_ 2), (0, u "java/io/Serializable"), (0, .class_ 4), (0, u "java/lang/Object")] 2

/-- java/io/Serializable -/
def k5 : Class := { plain "java/io/Serializable" (some 0) with
  accessFlags := 1537
  interfaces := #[]
  cf := some (fileOf pool5 1 #[] #[] 1537 3 #[] #[])
  fields := #[]
  methods := #[]
  instanceTypes := #[]
  staticTypes := #[]
  resolved := Array.replicate 7 none
  statics := none }

def pool6 : Array CpInfo := pool [(2, .class_ 4), (1, u "java/lang/Object"), (0, u "<init>"), (0, u "()V"), (1, .class_ 10), (1, u "java/lang/Number"), (2, .class_ 14), (0, u "java/io/Serializable"), (0, u "serialVersionUID"), (0, u "J")] 20

def k6m0 : Method := { name := "<init>", desc := "()V", sig := { parameters := [], returnType := none }, accessFlags := 1, code := none }
/-- java/lang/Number -/
def k6 : Class := { plain "java/lang/Number" (some 0) with
  accessFlags := 1057
  interfaces := #[5]
  cf := some (fileOf pool6 8 #[] #[{ accessFlags := 1, nameIndex := 5, descriptorIndex := 6, attributes := #[] }] 1057 2 #[13] #[{ accessFlags := 26, nameIndex := 15, descriptorIndex := 16, attributes := #[] }])
  fields := #[{ name := "serialVersionUID", type := .long, accessFlags := 26, slot := 0, constantValue := 0 }]
  methods := #[k6m0]
  instanceTypes := #[]
  staticTypes := #[.long]
  resolved := Array.replicate 37 none
  statics := none }

def pool7 : Array CpInfo := pool [(1, .class_ 2), (0, u "java/lang/Comparable"), (0, .class_ 4), (0, u "java/lang/Object")] 7

/-- java/lang/Comparable -/
def k7 : Class := { plain "java/lang/Comparable" (some 0) with
  accessFlags := 1537
  interfaces := #[]
  cf := some (fileOf pool7 1 #[] #[] 1537 3 #[] #[])
  fields := #[]
  methods := #[]
  instanceTypes := #[]
  staticTypes := #[]
  resolved := Array.replicate 12 none
  statics := none }

def pool8 : Array CpInfo := pool [(1, .class_ 2), (0, u "java/lang/constant/Constable"), (0, .class_ 4), (0, u "java/lang/Object")] 6

/-- java/lang/constant/Constable -/
def k8 : Class := { plain "java/lang/constant/Constable" (some 0) with
  accessFlags := 1537
  interfaces := #[]
  cf := some (fileOf pool8 1 #[] #[] 1537 3 #[] #[])
  fields := #[]
  methods := #[]
  instanceTypes := #[]
  staticTypes := #[]
  resolved := Array.replicate 11 none
  statics := none }

def pool9 : Array CpInfo := pool [(1, .class_ 2), (0, u "java/lang/constant/ConstantDesc"), (0, .class_ 4), (0, u "java/lang/Object")] 32

/-- java/lang/constant/ConstantDesc -/
def k9 : Class := { plain "java/lang/constant/ConstantDesc" (some 0) with
  accessFlags := 1537
  interfaces := #[]
  cf := some (fileOf pool9 1 #[] #[] 1537 3 #[] #[])
  fields := #[]
  methods := #[]
  instanceTypes := #[]
  staticTypes := #[]
  resolved := Array.replicate 37 none
  statics := none }

def pool10 : Array CpInfo := pool [(1, .class_ 2), (0, u "java/lang/Long"), (15, .class_ 20), (1, u "java/lang/Integer"), (79, u "numberOfLeadingZeros"), (0, u "(J)I"), (133, .class_ 237), (1, u "java/lang/Long$LongCache"), (33, .class_ 272), (0, u "java/lang/Number"), (2, u "value"), (0, u "J"), (31, .methodref 18 309), (0, .nameAndType 100 310), (0, u "(I)I"), (50, u "TYPE"), (0, u "Ljava/lang/Class;"), (0, .class_ 364), (0, u "java/lang/Comparable"), (0, .class_ 366), (0, u "java/lang/constant/Constable"), (0, .class_ 368), (0, u "java/lang/constant/ConstantDesc"), (0, u "MIN_VALUE"), (1, u "MAX_VALUE"), (4, u "SIZE"), (0, u "I"), (1, u "BYTES"), (1, u "serialVersionUID")] 142

def k10c0 : Code := { maxStack := 3, maxLocals := 3, code := jdk_35_method_48_code, exceptionTable := #[], attributes := #[] }
def k10m0 : Method := { name := "numberOfLeadingZeros", desc := "(J)I", sig := { parameters := [.long], returnType := some .int }, accessFlags := 9, code := some k10c0 }
/-- java/lang/Long -/
def k10 : Class := { plain "java/lang/Long" (some 6) with
  accessFlags := 49
  interfaces := #[7, 8, 9]
  cf := some (fileOf pool10 1 #[.nestMembers #[235]] #[{ accessFlags := 9, nameIndex := 100, descriptorIndex := 101, attributes := #[] }] 49 271 #[363, 365, 367] #[{ accessFlags := 25, nameIndex := 369, descriptorIndex := 276, attributes := #[] }, { accessFlags := 25, nameIndex := 371, descriptorIndex := 276, attributes := #[] }, { accessFlags := 25, nameIndex := 361, descriptorIndex := 362, attributes := #[] }, { accessFlags := 18, nameIndex := 275, descriptorIndex := 276, attributes := #[] }, { accessFlags := 25, nameIndex := 376, descriptorIndex := 377, attributes := #[] }, { accessFlags := 25, nameIndex := 379, descriptorIndex := 377, attributes := #[] }, { accessFlags := 26, nameIndex := 381, descriptorIndex := 276, attributes := #[] }])
  fields := #[{ name := "MIN_VALUE", type := .long, accessFlags := 25, slot := 0, constantValue := 0 }, { name := "MAX_VALUE", type := .long, accessFlags := 25, slot := 1, constantValue := 0 }, { name := "TYPE", type := (.object "java/lang/Class"), accessFlags := 25, slot := 2, constantValue := 0 }, { name := "value", type := .long, accessFlags := 18, slot := 0, constantValue := 0 }, { name := "SIZE", type := .int, accessFlags := 25, slot := 3, constantValue := 0 }, { name := "BYTES", type := .int, accessFlags := 25, slot := 4, constantValue := 0 }, { name := "serialVersionUID", type := .long, accessFlags := 26, slot := 5, constantValue := 0 }]
  methods := #[k10m0]
  instanceTypes := #[.long]
  staticTypes := #[.long, .long, (.object "java/lang/Class"), .int, .int, .long]
  resolved := Array.replicate 524 none
  statics := none }

def pool11 : Array CpInfo := pool [(1, .class_ 2), (0, u "java/lang/Integer"), (16, u "digits"), (0, u "[C"), (32, u "numberOfLeadingZeros"), (0, u "(I)I"), (30, u "DigitOnes"), (0, u "[B"), (2, u "DigitTens"), (99, .class_ 190), (0, u "java/lang/Integer$IntegerCache"), (3, u "I"), (8, .class_ 204), (0, u "java/lang/Number"), (2, u "value"), (56, .integer 65536), (37, u "TYPE"), (0, u "Ljava/lang/Class;"), (0, .class_ 305), (0, u "java/lang/Comparable"), (0, .class_ 307), (0, u "java/lang/constant/Constable"), (0, .class_ 309), (0, u "java/lang/constant/ConstantDesc"), (0, u "MIN_VALUE"), (1, u "MAX_VALUE"), (3, u "SIZE"), (1, u "BYTES"), (1, u "serialVersionUID"), (0, u "J")] 131

def k11c0 : Code := { maxStack := 3, maxLocals := 2, code := jdk_33_method_47_code, exceptionTable := #[], attributes := #[] }
def k11m0 : Method := { name := "numberOfLeadingZeros", desc := "(I)I", sig := { parameters := [.int], returnType := some .int }, accessFlags := 9, code := some k11c0 }
/-- java/lang/Integer -/
def k11 : Class := { plain "java/lang/Integer" (some 6) with
  accessFlags := 49
  interfaces := #[7, 8, 9]
  cf := some (fileOf pool11 1 #[.nestMembers #[189]] #[{ accessFlags := 9, nameIndex := 53, descriptorIndex := 54, attributes := #[] }] 49 203 #[304, 306, 308] #[{ accessFlags := 25, nameIndex := 310, descriptorIndex := 194, attributes := #[] }, { accessFlags := 25, nameIndex := 312, descriptorIndex := 194, attributes := #[] }, { accessFlags := 25, nameIndex := 302, descriptorIndex := 303, attributes := #[] }, { accessFlags := 24, nameIndex := 19, descriptorIndex := 20, attributes := #[] }, { accessFlags := 24, nameIndex := 89, descriptorIndex := 86, attributes := #[] }, { accessFlags := 24, nameIndex := 85, descriptorIndex := 86, attributes := #[] }, { accessFlags := 18, nameIndex := 207, descriptorIndex := 194, attributes := #[] }, { accessFlags := 25, nameIndex := 316, descriptorIndex := 194, attributes := #[] }, { accessFlags := 25, nameIndex := 318, descriptorIndex := 194, attributes := #[] }, { accessFlags := 26, nameIndex := 320, descriptorIndex := 321, attributes := #[] }])
  fields := #[{ name := "MIN_VALUE", type := .int, accessFlags := 25, slot := 0, constantValue := 0 }, { name := "MAX_VALUE", type := .int, accessFlags := 25, slot := 1, constantValue := 0 }, { name := "TYPE", type := (.object "java/lang/Class"), accessFlags := 25, slot := 2, constantValue := 0 }, { name := "digits", type := (.array .char), accessFlags := 24, slot := 3, constantValue := 0 }, { name := "DigitTens", type := (.array .byte), accessFlags := 24, slot := 4, constantValue := 0 }, { name := "DigitOnes", type := (.array .byte), accessFlags := 24, slot := 5, constantValue := 0 }, { name := "value", type := .int, accessFlags := 18, slot := 0, constantValue := 0 }, { name := "SIZE", type := .int, accessFlags := 25, slot := 6, constantValue := 0 }, { name := "BYTES", type := .int, accessFlags := 25, slot := 7, constantValue := 0 }, { name := "serialVersionUID", type := .long, accessFlags := 26, slot := 8, constantValue := 0 }]
  methods := #[k11m0]
  instanceTypes := #[.int]
  staticTypes := #[.int, .int, (.object "java/lang/Class"), (.array .char), (.array .byte), (.array .byte), .int, .int, .long]
  resolved := Array.replicate 453 none
  statics := none }

def pool12 : Array CpInfo := pool [(1, .methodref 2 3), (0, .class_ 4), (0, .nameAndType 5 6), (0, u "java/lang/Object"), (0, u "<init>"), (0, u "()V"), (0, .class_ 8), (0, u "java/lang/Record")] 13

def k12c0 : Code := { maxStack := 1, maxLocals := 1, code := jdk_30_method_1_code, exceptionTable := #[], attributes := #[] }
def k12m0 : Method := { name := "<init>", desc := "()V", sig := { parameters := [], returnType := none }, accessFlags := 4, code := some k12c0 }
/-- java/lang/Record -/
def k12 : Class := { plain "java/lang/Record" (some 0) with
  accessFlags := 1057
  interfaces := #[]
  cf := some (fileOf pool12 7 #[] #[{ accessFlags := 4, nameIndex := 5, descriptorIndex := 6, attributes := #[] }] 1057 2 #[] #[])
  fields := #[]
  methods := #[k12m0]
  instanceTypes := #[]
  staticTypes := #[]
  resolved := Array.replicate 22 none
  statics := none }

def pool13 : Array CpInfo := pool [(1, .methodref 2 3), (0, .class_ 4), (0, .nameAndType 5 6), (0, u "java/lang/Record"), (0, u "<init>"), (0, u "()V"), (0, .fieldref 8 9), (0, .class_ 10), (0, .nameAndType 11 12), (0, u "millrace/PoolSnapshot$Timing"), (0, u "count"), (0, u "J"), (0, .fieldref 8 14), (0, .nameAndType 15 16), (0, u "meanNanos"), (0, u "D"), (0, .fieldref 8 18), (0, .nameAndType 19 12), (0, u "p50Nanos"), (0, .fieldref 8 21), (0, .nameAndType 22 12), (0, u "p95Nanos"), (0, .fieldref 8 24), (0, .nameAndType 25 12), (0, u "p99Nanos"), (0, .fieldref 8 27), (0, .nameAndType 28 12), (0, u "maxNanos"), (12, u "(JDJJJJ)V"), (6, u "()J"), (0, u "()D"), (3, .class_ 54), (0, u "millrace/PoolSnapshot")] 24

def k13c0 : Code := { maxStack := 3, maxLocals := 13, code := prog_33_method_1_code, exceptionTable := #[], attributes := #[] }
def k13m0 : Method := { name := "<init>", desc := "(JDJJJJ)V", sig := { parameters := [.long, .double, .long, .long, .long, .long], returnType := none }, accessFlags := 1, code := some k13c0 }
def k13c1 : Code := { maxStack := 2, maxLocals := 1, code := prog_33_method_5_code, exceptionTable := #[], attributes := #[] }
def k13m1 : Method := { name := "count", desc := "()J", sig := { parameters := [], returnType := some .long }, accessFlags := 1, code := some k13c1 }
def k13c2 : Code := { maxStack := 2, maxLocals := 1, code := prog_33_method_6_code, exceptionTable := #[], attributes := #[] }
def k13m2 : Method := { name := "meanNanos", desc := "()D", sig := { parameters := [], returnType := some .double }, accessFlags := 1, code := some k13c2 }
def k13c3 : Code := { maxStack := 2, maxLocals := 1, code := prog_33_method_10_code, exceptionTable := #[], attributes := #[] }
def k13m3 : Method := { name := "maxNanos", desc := "()J", sig := { parameters := [], returnType := some .long }, accessFlags := 1, code := some k13c3 }
/-- millrace/PoolSnapshot$Timing -/
def k13 : Class := { plain "millrace/PoolSnapshot$Timing" (some 12) with
  accessFlags := 49
  interfaces := #[]
  cf := some (fileOf pool13 8 #[.nestHost 53] #[{ accessFlags := 1, nameIndex := 5, descriptorIndex := 41, attributes := #[] }, { accessFlags := 1, nameIndex := 11, descriptorIndex := 48, attributes := #[] }, { accessFlags := 1, nameIndex := 15, descriptorIndex := 49, attributes := #[] }, { accessFlags := 1, nameIndex := 28, descriptorIndex := 48, attributes := #[] }] 49 2 #[] #[{ accessFlags := 18, nameIndex := 11, descriptorIndex := 12, attributes := #[] }, { accessFlags := 18, nameIndex := 15, descriptorIndex := 16, attributes := #[] }, { accessFlags := 18, nameIndex := 19, descriptorIndex := 12, attributes := #[] }, { accessFlags := 18, nameIndex := 22, descriptorIndex := 12, attributes := #[] }, { accessFlags := 18, nameIndex := 25, descriptorIndex := 12, attributes := #[] }, { accessFlags := 18, nameIndex := 28, descriptorIndex := 12, attributes := #[] }])
  fields := #[{ name := "count", type := .long, accessFlags := 18, slot := 0, constantValue := 0 }, { name := "meanNanos", type := .double, accessFlags := 18, slot := 1, constantValue := 0 }, { name := "p50Nanos", type := .long, accessFlags := 18, slot := 2, constantValue := 0 }, { name := "p95Nanos", type := .long, accessFlags := 18, slot := 3, constantValue := 0 }, { name := "p99Nanos", type := .long, accessFlags := 18, slot := 4, constantValue := 0 }, { name := "maxNanos", type := .long, accessFlags := 18, slot := 5, constantValue := 0 }]
  methods := #[k13m0, k13m1, k13m2, k13m3]
  instanceTypes := #[.long, .double, .long, .long, .long, .long]
  staticTypes := #[]
  resolved := Array.replicate 79 none
  statics := none }

def pool14 : Array CpInfo := pool [(1, u "java/lang/Cloneable"), (0, .class_ 1), (0, u "java/lang/Object"), (0, .class_ 3)] 3

/-- java/lang/Cloneable -/
def k14 : Class := { plain "java/lang/Cloneable" (some 0) with
  accessFlags := 1537
  interfaces := #[]
  cf := some (fileOf pool14 2 #[] #[] 1537 4 #[] #[])
  fields := #[]
  methods := #[]
  instanceTypes := #[]
  staticTypes := #[]
  resolved := Array.replicate 8 none
  statics := none }

/-- the primitive byte -/
def k15 : Class := { plain "byte" none with kind := .primitive 'B', accessFlags := 0x411 }
/-- [B -/
def k16 : Class := { plain "[B" (some 0) with kind := .array 15 .byte, interfaces := #[14, 5], accessFlags := 1041 }

/-- the primitive int -/
def k17 : Class := { plain "int" none with kind := .primitive 'I', accessFlags := 0x411 }
/-- [I -/
def k18 : Class := { plain "[I" (some 0) with kind := .array 17 .int, interfaces := #[14, 5], accessFlags := 1041 }

/-- the primitive long -/
def k19 : Class := { plain "long" none with kind := .primitive 'J', accessFlags := 0x411 }
/-- [J -/
def k20 : Class := { plain "[J" (some 0) with kind := .array 19 .long, interfaces := #[14, 5], accessFlags := 1041 }

def heap : Heap := #[]
/-- [[J -/
def k21 : Class := { plain "[[J" (some 0) with kind := .array 20 (.array .long), interfaces := #[14, 5], accessFlags := 1041 }
def classes : Array Class := #[k0, k1, k2, k3, k4, k5, k6, k7, k8, k9, k10, k11, k12, k13, k14, k15, k16, k17, k18, k19, k20, k21]
def interned : List (Array UInt16 × Addr) := []
def slotsUsed : Nat := 0
def theMethod : MethodId := ⟨1, 1⟩
def args0 : Array Value := #[.long 5, .long 7, .long 9, .int 2]
def aboutOver (below : List Frame) : State where
  vm := { classes := classes, interned := interned.toArray }
  heap := heap
  slotsUsed := slotsUsed
  threads := #[{ frames := .invoking theMethod args0 :: below }]
def below0 : List Frame := [.native { method := ⟨0, 0⟩, args := #[] }]
def about1 : State := aboutOver below0
def p0 : Program := .bare "" "" ""
def e0 : Env := launch0.env 0 0 0
theorem w_frames : about1.frames = Frame.invoking theMethod args0 :: below0 := rfl
set_option maxRecDepth 65536 in
theorem w_args : argsFit about1.vm theMethod args0 = true := by decide +kernel
set_option maxRecDepth 65536 in
theorem w_heap : heapFits about1 = true := by decide +kernel
set_option maxRecDepth 65536 in
theorem w_runnable : about1.curStatus? = some .runnable := by decide +kernel
set_option maxRecDepth 65536 in
theorem w_alone : about1.alone = true := by decide +kernel
set_option maxRecDepth 65536 in
theorem w_named : about1.methodNamed? x = some theMethod := by decide +kernel
set_option maxRecDepth 65536 in
theorem w_hears : about1.hears theMethod below0 = true := by decide +kernel
set_option maxRecDepth 65536 in
theorem w_ripe : about1.ripe theMethod args0 below0 = true := by decide +kernel
theorem w_running : about1.status = .running := rfl
set_option maxRecDepth 65536 in
theorem w_room : about1.hasRoom e0.platform room_1 = true :=
  launch0.hasRoom_least _ room_1 (by decide +kernel) (by decide +kernel) (by decide +kernel) (by decide +kernel) (by decide +kernel) (by decide +kernel)
theorem allAtoms_all (ts : List Jvm.Cond) (a : Array Jvm.Value) (st : Jvm.State) : (allAtoms ts).before a st = ts.all (fun c => c.before a st) := by
  induction ts with
  | nil => rfl
  | cons c t ih =>
    show (Jvm.Cond.and c (allAtoms t)).before a st = _
    rw [Jvm.Cond.before_and, ih, List.all_cons]
def words1 : List Jvm.Cond := Jvm.Cond.code x code maxLocals ret :: tables_1
/-- a 'code' word, met by the world's own term for the bytes: nothing is compared byte by byte -/
theorem code_word {y : MethodName} {bytes : ByteArray} {mx : Nat} {rt : Option FieldType} {a : Array Value} {s : State} {m : MethodId} {meth : Method} {c : Code} (h1 : s.methodNamed? y = some m) (h2 : s.vm.method? m = some meth) (h3 : meth.code = some c) (h4 : c.code = bytes)
    (h5 : (c.maxLocals == mx && c.exceptionTable.isEmpty && decide (c.maxStack ≤ mostOperands) && decide (meth.sig.returnType = rt) && !meth.locks && decide (parseMethodDescriptor y.desc = some meth.sig)) = true) : (Jvm.Cond.code y bytes mx rt).before a s = true := by
  simp only [Bool.and_eq_true, beq_iff_eq, Bool.not_eq_true', decide_eq_true_eq] at h5
  obtain ⟨⟨⟨⟨⟨g1, g2⟩, g3⟩, g4⟩, g5⟩, g6⟩ := h5
  simp [Cond.before, Cond.holds, Cond.value, h1, h2, h3, h4, g1, g2, g3, g4, g5, g6]
def isCode : Jvm.Cond → Bool
  | .code _ _ _ _ => true
  | _ => false
theorem all_split {L : List Jvm.Cond} {P : Jvm.Cond → Bool} (h1 : L.all (fun c => isCode c || P c) = true) (h2 : ∀ c ∈ L.filter isCode, P c = true) : L.all P = true := by
  refine List.all_eq_true.mpr fun c hc => ?_
  have h := List.all_eq_true.mp h1 c hc
  rcases Bool.eq_false_or_eq_true (isCode c) with hi | hi
  · exact h2 c (List.mem_filter.mpr ⟨hc, hi⟩)
  · simpa [hi] using h
set_option maxRecDepth 65536 in
theorem w_c0 : (Jvm.Cond.code x code maxLocals ret).before args0 about1 = true := code_word (m := ⟨1, 1⟩) (meth := k1m1) (c := k1c1) (by decide +kernel) rfl rfl rfl (by decide +kernel)
set_option maxRecDepth 65536 in
theorem w_c1 : (Jvm.Cond.code ({ cls := "millrace/TimingBuffer", name := "<init>", desc := "()V" } : Jvm.MethodName) prog_51_method_1_code (1 : Nat) (Option.none : Option Jvm.ClassFile.FieldType)).before args0 about1 = true := code_word (m := ⟨2, 0⟩) (meth := k2m0) (c := k2c0) (by decide +kernel) rfl rfl rfl (by decide +kernel)
set_option maxRecDepth 65536 in
theorem w_c2 : (Jvm.Cond.code ({ cls := "java/lang/Object", name := "<init>", desc := "()V" } : Jvm.MethodName) object_method_1_code (1 : Nat) (Option.none : Option Jvm.ClassFile.FieldType)).before args0 about1 = true := code_word (m := ⟨0, 0⟩) (meth := k0m0) (c := k0c0) (by decide +kernel) rfl rfl rfl (by decide +kernel)
set_option maxRecDepth 65536 in
theorem w_c3 : (Jvm.Cond.code ({ cls := "millrace/TimingBuffer", name := "addWait", desc := "(J)V" } : Jvm.MethodName) prog_51_method_2_code (3 : Nat) (Option.none : Option Jvm.ClassFile.FieldType)).before args0 about1 = true := code_word (m := ⟨2, 1⟩) (meth := k2m1) (c := k2c1) (by decide +kernel) rfl rfl rfl (by decide +kernel)
set_option maxRecDepth 65536 in
theorem w_c4 : (Jvm.Cond.code ({ cls := "millrace/TimingBuffer", name := "full", desc := "()Z" } : Jvm.MethodName) prog_51_method_4_code (1 : Nat) (Option.some Jvm.ClassFile.FieldType.boolean)).before args0 about1 = true := code_word (m := ⟨2, 2⟩) (meth := k2m2) (c := k2c2) (by decide +kernel) rfl rfl rfl (by decide +kernel)
set_option maxRecDepth 65536 in
theorem w_c5 : (Jvm.Cond.code ({ cls := "millrace/DurationHistogram", name := "<init>", desc := "()V" } : Jvm.MethodName) prog_18_method_1_code (1 : Nat) (Option.none : Option Jvm.ClassFile.FieldType)).before args0 about1 = true := code_word (m := ⟨3, 0⟩) (meth := k3m0) (c := k3c0) (by decide +kernel) rfl rfl rfl (by decide +kernel)
set_option maxRecDepth 65536 in
theorem w_c6 : (Jvm.Cond.code ({ cls := "millrace/TimingBuffer", name := "flush", desc := "(Lmillrace/DurationHistogram;Lmillrace/DurationHistogram;)V" } : Jvm.MethodName) prog_51_method_5_code (3 : Nat) (Option.none : Option Jvm.ClassFile.FieldType)).before args0 about1 = true := code_word (m := ⟨2, 3⟩) (meth := k2m3) (c := k2c3) (by decide +kernel) rfl rfl rfl (by decide +kernel)
set_option maxRecDepth 65536 in
theorem w_c7 : (Jvm.Cond.code ({ cls := "millrace/DurationHistogram", name := "add", desc := "(J)V" } : Jvm.MethodName) prog_18_method_4_code (7 : Nat) (Option.none : Option Jvm.ClassFile.FieldType)).before args0 about1 = true := code_word (m := ⟨3, 2⟩) (meth := k3m2) (c := k3c2) (by decide +kernel) rfl rfl rfl (by decide +kernel)
set_option maxRecDepth 65536 in
theorem w_c8 : (Jvm.Cond.code ({ cls := "java/lang/Math", name := "max", desc := "(JJ)J" } : Jvm.MethodName) jdk_29_method_66_code (4 : Nat) (Option.some Jvm.ClassFile.FieldType.long)).before args0 about1 = true := code_word (m := ⟨4, 1⟩) (meth := k4m1) (c := k4c1) (by decide +kernel) rfl rfl rfl (by decide +kernel)
set_option maxRecDepth 65536 in
theorem w_c9 : (Jvm.Cond.code ({ cls := "millrace/DurationHistogram", name := "range", desc := "(J)I" } : Jvm.MethodName) prog_18_method_7_code (3 : Nat) (Option.some Jvm.ClassFile.FieldType.int)).before args0 about1 = true := code_word (m := ⟨3, 5⟩) (meth := k3m5) (c := k3c5) (by decide +kernel) rfl rfl rfl (by decide +kernel)
set_option maxRecDepth 65536 in
theorem w_c10 : (Jvm.Cond.code ({ cls := "java/lang/Long", name := "numberOfLeadingZeros", desc := "(J)I" } : Jvm.MethodName) jdk_35_method_48_code (3 : Nat) (Option.some Jvm.ClassFile.FieldType.int)).before args0 about1 = true := code_word (m := ⟨10, 0⟩) (meth := k10m0) (c := k10c0) (by decide +kernel) rfl rfl rfl (by decide +kernel)
set_option maxRecDepth 65536 in
theorem w_c11 : (Jvm.Cond.code ({ cls := "java/lang/Integer", name := "numberOfLeadingZeros", desc := "(I)I" } : Jvm.MethodName) jdk_33_method_47_code (2 : Nat) (Option.some Jvm.ClassFile.FieldType.int)).before args0 about1 = true := code_word (m := ⟨11, 0⟩) (meth := k11m0) (c := k11c0) (by decide +kernel) rfl rfl rfl (by decide +kernel)
set_option maxRecDepth 65536 in
theorem w_c12 : (Jvm.Cond.code ({ cls := "millrace/DurationHistogram", name := "subBucket", desc := "(JI)I" } : Jvm.MethodName) prog_18_method_8_code (3 : Nat) (Option.some Jvm.ClassFile.FieldType.int)).before args0 about1 = true := code_word (m := ⟨3, 6⟩) (meth := k3m6) (c := k3c6) (by decide +kernel) rfl rfl rfl (by decide +kernel)
set_option maxRecDepth 65536 in
theorem w_c13 : (Jvm.Cond.code ({ cls := "millrace/DurationHistogram", name := "percentile", desc := "(I)J" } : Jvm.MethodName) prog_18_method_6_code (9 : Nat) (Option.some Jvm.ClassFile.FieldType.long)).before args0 about1 = true := code_word (m := ⟨3, 4⟩) (meth := k3m4) (c := k3c4) (by decide +kernel) rfl rfl rfl (by decide +kernel)
set_option maxRecDepth 65536 in
theorem w_c14 : (Jvm.Cond.code ({ cls := "millrace/DurationHistogram", name := "middle", desc := "(II)J" } : Jvm.MethodName) prog_18_method_9_code (5 : Nat) (Option.some Jvm.ClassFile.FieldType.long)).before args0 about1 = true := code_word (m := ⟨3, 7⟩) (meth := k3m7) (c := k3c7) (by decide +kernel) rfl rfl rfl (by decide +kernel)
set_option maxRecDepth 65536 in
theorem w_c15 : (Jvm.Cond.code ({ cls := "java/lang/Math", name := "min", desc := "(JJ)J" } : Jvm.MethodName) jdk_29_method_70_code (4 : Nat) (Option.some Jvm.ClassFile.FieldType.long)).before args0 about1 = true := code_word (m := ⟨4, 2⟩) (meth := k4m2) (c := k4c2) (by decide +kernel) rfl rfl rfl (by decide +kernel)
set_option maxRecDepth 65536 in
theorem w_c16 : (Jvm.Cond.code ({ cls := "millrace/PoolSnapshot$Timing", name := "<init>", desc := "(JDJJJJ)V" } : Jvm.MethodName) prog_33_method_1_code (13 : Nat) (Option.none : Option Jvm.ClassFile.FieldType)).before args0 about1 = true := code_word (m := ⟨13, 0⟩) (meth := k13m0) (c := k13c0) (by decide +kernel) rfl rfl rfl (by decide +kernel)
set_option maxRecDepth 65536 in
theorem w_c17 : (Jvm.Cond.code ({ cls := "java/lang/Record", name := "<init>", desc := "()V" } : Jvm.MethodName) jdk_30_method_1_code (1 : Nat) (Option.none : Option Jvm.ClassFile.FieldType)).before args0 about1 = true := code_word (m := ⟨12, 0⟩) (meth := k12m0) (c := k12c0) (by decide +kernel) rfl rfl rfl (by decide +kernel)
set_option maxRecDepth 65536 in
theorem w_c18 : (Jvm.Cond.code ({ cls := "millrace/PoolSnapshot$Timing", name := "count", desc := "()J" } : Jvm.MethodName) prog_33_method_5_code (1 : Nat) (Option.some Jvm.ClassFile.FieldType.long)).before args0 about1 = true := code_word (m := ⟨13, 1⟩) (meth := k13m1) (c := k13c1) (by decide +kernel) rfl rfl rfl (by decide +kernel)
set_option maxRecDepth 65536 in
theorem w_c19 : (Jvm.Cond.code ({ cls := "millrace/PoolSnapshot$Timing", name := "maxNanos", desc := "()J" } : Jvm.MethodName) prog_33_method_10_code (1 : Nat) (Option.some Jvm.ClassFile.FieldType.long)).before args0 about1 = true := code_word (m := ⟨13, 3⟩) (meth := k13m3) (c := k13c3) (by decide +kernel) rfl rfl rfl (by decide +kernel)
set_option maxRecDepth 65536 in
theorem w_c20 : (Jvm.Cond.code ({ cls := "millrace/PoolSnapshot$Timing", name := "meanNanos", desc := "()D" } : Jvm.MethodName) prog_33_method_6_code (1 : Nat) (Option.some Jvm.ClassFile.FieldType.double)).before args0 about1 = true := code_word (m := ⟨13, 2⟩) (meth := k13m2) (c := k13c2) (by decide +kernel) rfl rfl rfl (by decide +kernel)
def codes1 : List Jvm.Cond := [Jvm.Cond.code x code maxLocals ret, Jvm.Cond.code ({ cls := "millrace/TimingBuffer", name := "<init>", desc := "()V" } : Jvm.MethodName) prog_51_method_1_code (1 : Nat) (Option.none : Option Jvm.ClassFile.FieldType), Jvm.Cond.code ({ cls := "java/lang/Object", name := "<init>", desc := "()V" } : Jvm.MethodName) object_method_1_code (1 : Nat) (Option.none : Option Jvm.ClassFile.FieldType), Jvm.Cond.code ({ cls := "millrace/TimingBuffer", name := "addWait", desc := "(J)V" } : Jvm.MethodName) prog_51_method_2_code (3 : Nat) (Option.none : Option Jvm.ClassFile.FieldType), Jvm.Cond.code ({ cls := "millrace/TimingBuffer", name := "full", desc := "()Z" } : Jvm.MethodName) prog_51_method_4_code (1 : Nat) (Option.some Jvm.ClassFile.FieldType.boolean), Jvm.Cond.code ({ cls := "millrace/DurationHistogram", name := "<init>", desc := "()V" } : Jvm.MethodName) prog_18_method_1_code (1 : Nat) (Option.none : Option Jvm.ClassFile.FieldType), Jvm.Cond.code ({ cls := "millrace/TimingBuffer", name := "flush", desc := "(Lmillrace/DurationHistogram;Lmillrace/DurationHistogram;)V" } : Jvm.MethodName) prog_51_method_5_code (3 : Nat) (Option.none : Option Jvm.ClassFile.FieldType), Jvm.Cond.code ({ cls := "millrace/DurationHistogram", name := "add", desc := "(J)V" } : Jvm.MethodName) prog_18_method_4_code (7 : Nat) (Option.none : Option Jvm.ClassFile.FieldType), Jvm.Cond.code ({ cls := "java/lang/Math", name := "max", desc := "(JJ)J" } : Jvm.MethodName) jdk_29_method_66_code (4 : Nat) (Option.some Jvm.ClassFile.FieldType.long), Jvm.Cond.code ({ cls := "millrace/DurationHistogram", name := "range", desc := "(J)I" } : Jvm.MethodName) prog_18_method_7_code (3 : Nat) (Option.some Jvm.ClassFile.FieldType.int), Jvm.Cond.code ({ cls := "java/lang/Long", name := "numberOfLeadingZeros", desc := "(J)I" } : Jvm.MethodName) jdk_35_method_48_code (3 : Nat) (Option.some Jvm.ClassFile.FieldType.int), Jvm.Cond.code ({ cls := "java/lang/Integer", name := "numberOfLeadingZeros", desc := "(I)I" } : Jvm.MethodName) jdk_33_method_47_code (2 : Nat) (Option.some Jvm.ClassFile.FieldType.int), Jvm.Cond.code ({ cls := "millrace/DurationHistogram", name := "subBucket", desc := "(JI)I" } : Jvm.MethodName) prog_18_method_8_code (3 : Nat) (Option.some Jvm.ClassFile.FieldType.int), Jvm.Cond.code ({ cls := "millrace/DurationHistogram", name := "percentile", desc := "(I)J" } : Jvm.MethodName) prog_18_method_6_code (9 : Nat) (Option.some Jvm.ClassFile.FieldType.long), Jvm.Cond.code ({ cls := "millrace/DurationHistogram", name := "middle", desc := "(II)J" } : Jvm.MethodName) prog_18_method_9_code (5 : Nat) (Option.some Jvm.ClassFile.FieldType.long), Jvm.Cond.code ({ cls := "java/lang/Math", name := "min", desc := "(JJ)J" } : Jvm.MethodName) jdk_29_method_70_code (4 : Nat) (Option.some Jvm.ClassFile.FieldType.long), Jvm.Cond.code ({ cls := "millrace/PoolSnapshot$Timing", name := "<init>", desc := "(JDJJJJ)V" } : Jvm.MethodName) prog_33_method_1_code (13 : Nat) (Option.none : Option Jvm.ClassFile.FieldType), Jvm.Cond.code ({ cls := "java/lang/Record", name := "<init>", desc := "()V" } : Jvm.MethodName) jdk_30_method_1_code (1 : Nat) (Option.none : Option Jvm.ClassFile.FieldType), Jvm.Cond.code ({ cls := "millrace/PoolSnapshot$Timing", name := "count", desc := "()J" } : Jvm.MethodName) prog_33_method_5_code (1 : Nat) (Option.some Jvm.ClassFile.FieldType.long), Jvm.Cond.code ({ cls := "millrace/PoolSnapshot$Timing", name := "maxNanos", desc := "()J" } : Jvm.MethodName) prog_33_method_10_code (1 : Nat) (Option.some Jvm.ClassFile.FieldType.long), Jvm.Cond.code ({ cls := "millrace/PoolSnapshot$Timing", name := "meanNanos", desc := "()D" } : Jvm.MethodName) prog_33_method_6_code (1 : Nat) (Option.some Jvm.ClassFile.FieldType.double)]
set_option maxRecDepth 65536 in
theorem codes_eq : words1.filter isCode = codes1 := rfl
theorem w_codes : ∀ c ∈ words1.filter isCode, c.before args0 about1 = true := by
  rw [codes_eq]
  intro c hc
  simp only [codes1, List.mem_cons, List.not_mem_nil, or_false] at hc
  rcases hc with rfl | rfl | rfl | rfl | rfl | rfl | rfl | rfl | rfl | rfl | rfl | rfl | rfl | rfl | rfl | rfl | rfl | rfl | rfl | rfl | rfl
  · exact w_c0
  · exact w_c1
  · exact w_c2
  · exact w_c3
  · exact w_c4
  · exact w_c5
  · exact w_c6
  · exact w_c7
  · exact w_c8
  · exact w_c9
  · exact w_c10
  · exact w_c11
  · exact w_c12
  · exact w_c13
  · exact w_c14
  · exact w_c15
  · exact w_c16
  · exact w_c17
  · exact w_c18
  · exact w_c19
  · exact w_c20
set_option maxRecDepth 65536 in
theorem w_t1 : (words1.take 24).all (fun c => isCode c || c.before args0 about1) = true := by decide +kernel
set_option maxRecDepth 65536 in
theorem w_t2 : ((words1.drop 24).take 24).all (fun c => isCode c || c.before args0 about1) = true := by decide +kernel
set_option maxRecDepth 65536 in
theorem w_t3 : (((words1.drop 24).drop 24).take 24).all (fun c => isCode c || c.before args0 about1) = true := by decide +kernel
set_option maxRecDepth 65536 in
theorem w_t4 : ((((words1.drop 24).drop 24).drop 24).take 24).all (fun c => isCode c || c.before args0 about1) = true := by decide +kernel
set_option maxRecDepth 65536 in
theorem w_t5 : (((((words1.drop 24).drop 24).drop 24).drop 24).take 24).all (fun c => isCode c || c.before args0 about1) = true := by decide +kernel
set_option maxRecDepth 65536 in
theorem w_t6 : (((((words1.drop 24).drop 24).drop 24).drop 24).drop 24).all (fun c => isCode c || c.before args0 about1) = true := by decide +kernel
theorem w_tables : (allAtoms (Jvm.Cond.code x code maxLocals ret :: tables_1)).before args0 about1 = true := by
  rw [allAtoms_all]
  show words1.all (fun c => c.before args0 about1) = true
  refine all_split ?_ w_codes
  rw [← List.take_append_drop 24 words1, List.all_append, w_t1, ← List.take_append_drop 24 (words1.drop 24), List.all_append, w_t2, ← List.take_append_drop 24 ((words1.drop 24).drop 24), List.all_append, w_t3, ← List.take_append_drop 24 (((words1.drop 24).drop 24).drop 24), List.all_append, w_t4, ← List.take_append_drop 24 ((((words1.drop 24).drop 24).drop 24).drop 24), List.all_append, w_t5, w_t6]
  rfl
set_option maxRecDepth 65536 in
theorem w_case : (Jvm.Cond.and given_1 narrow_1).before args0 about1 = true := by decide +kernel
theorem w_applies : (headSpec (Jvm.Cond.code x code maxLocals ret :: tables_1) room_1).applies x e0.platform about1 = true :=
  (Spec.applies_iff w_frames).mpr ⟨w_running, w_runnable, w_alone, w_named, w_hears, w_ripe, w_room, w_tables⟩
theorem atStart : AtStart classFile x code maxLocals ret World_1 tables_1 room_1 Calls_1 rest_1 Pre_1 launch0 p0 e0 about1 theMethod args0 below0 :=
  ⟨lists_1, trivial, launch0.admits_env _ _ _, launch0.least_env, fairChoices_fair.cas, fairChoices_fair.clock, w_frames, w_args, w_heap, w_applies, trivial, trivial, w_case⟩
end start1
theorem witness_1 : WitnessClaimed_1 := ⟨start1.p0, start1.e0, start1.about1, start1.theMethod, start1.args0, start1.below0, start1.atStart⟩
end Jvm.Pilot.@@N@@
