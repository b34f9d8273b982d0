import JvmDerived
import JvmDerived.Pilot.@@N@@Statement
import JvmDerived.Pilot.@@N@@Code
set_option linter.unusedVariables false
set_option linter.unusedSimpArgs false
namespace Jvm.Pilot.@@N@@
section OwnFP
open Jvm.FP.Core
/-! Exact doubles: own_Is x n e says that the double x is finite and worth n * 2^e. -/
def own_Is (x : UInt64) (n : Int) (e : Int) : Prop := DFin x ∧ -1074 ≤ e ∧ zval b64 (val64 x) = n * ((2 ^ (e + 1074).toNat : Nat) : Int)
theorem own_qmax : b64.qmax = 971 := by decide
theorem own_pp : b64.p = 53 := rfl
theorem own_powc {a b u v : Nat} (h : a * 2 ^ u = b * 2 ^ v) {w : Int} (hw : w = (u : Int) - v) : a * 2 ^ w.toNat = b * 2 ^ (-w).toNat := by
  subst hw
  have hu : u = ((u : Int) - v).toNat + min u v := by omega
  have hv : v = (-((u : Int) - v)).toNat + min u v := by omega
  have h2 : a * 2 ^ (((u : Int) - v).toNat + min u v) = b * 2 ^ ((-((u : Int) - v)).toNat + min u v) := by rw [← hu, ← hv]; exact h
  rw [Nat.pow_add, Nat.pow_add, ← Nat.mul_assoc, ← Nat.mul_assoc] at h2
  exact Nat.eq_of_mul_eq_mul_right (Nat.two_pow_pos _) h2
theorem own_signed_abs (s : Bool) (c : Nat) : (signed s c).natAbs = c := by cases s <;> simp [signed]
theorem own_signed_mul (s t : Bool) (c d : Nat) : signed (s != t) (c * d) = signed s c * signed t d := by
  cases s <;> cases t <;> simp [signed, Int.natCast_mul, Int.neg_mul, Int.mul_neg]
theorem own_signed_scale (s : Bool) (c d : Nat) : signed s (c * d) = signed s c * (d : Int) := by cases s <;> simp [signed, Int.natCast_mul, Int.neg_mul]
theorem own_round {s : Bool} {c : Nat} {q : Int} {M : Nat} {e : Int} (h2 : -2148 ≤ q) (hM : M < 9007199254740992) (he1 : -1074 ≤ e) (he2 : e ≤ 971) (h : inUnits c q (-2148) = M * 2 ^ (e + 2148).toNat) :
    ∃ c' q', round b64 (.fin s c q) = .fin s c' q' ∧ inUnits c' q' b64.qmin = M * 2 ^ (e + 1074).toNat := by
  have hq : b64.qmin = -1074 := qmin_b64
  obtain ⟨c', q', h1, h3⟩ := round_exact good_b64 s (c := M) (q := e) (show M < 2 ^ 53 from hM) (by rw [hq]; omega) (by rw [own_qmax]; omega)
  refine ⟨c', q', ?_, ?_⟩
  · rw [← h1]
    show roundRatio b64 s c 1 q = roundRatio b64 s M 1 e
    refine roundRatio_congr (by decide) (by decide) ?_
    unfold inUnits at h
    have h4 := own_powc (u := (q - -2148).toNat) (v := (e + 2148).toNat) h (w := q - e) (by omega)
    rw [Nat.mul_one, Nat.mul_one, h4, show -(q - e) = e - q by omega]
  · rw [h3]; unfold inUnits; rw [hq, show e - -1074 = e + 1074 by omega]
theorem own_fin_split {x : UInt64} {n e : Int} (h : own_Is x n e) : ∃ s c q, val64 x = .fin s c q ∧ Jvm.FP.Core.fits b64 (.fin s c q) ∧ signed s (inUnits c q b64.qmin) = n * ((2 ^ (e + 1074).toNat : Nat) : Int) ∧ -1074 ≤ q := by
  obtain ⟨⟨s, c, q, hv⟩, he, hz⟩ := h
  have hf := val64_fits x
  rw [hv] at hf hz
  have := hf.2.1
  rw [qmin_b64] at this
  exact ⟨s, c, q, hv, hf, hz, this⟩
theorem own_Is_of {x : UInt64} {s : Bool} {c : Nat} {q n e : Int} (hv : val64 x = .fin s c q) (he : -1074 ≤ e) (h : signed s (inUnits c q b64.qmin) = n * ((2 ^ (e + 1074).toNat : Nat) : Int)) : own_Is x n e :=
  ⟨⟨s, c, q, hv⟩, he, by rw [hv]; exact h⟩
theorem own_sum {s : Bool} {c : Nat} {q n e : Int} (hq : -1074 ≤ q) (hn : n.natAbs < 9007199254740992) (he1 : -1074 ≤ e) (he2 : e ≤ 971) (h : signed s (inUnits c q b64.qmin) = n * ((2 ^ (e + 1074).toNat : Nat) : Int)) :
    ∃ c' q', round b64 (.fin s c q) = .fin s c' q' ∧ signed s (inUnits c' q' b64.qmin) = n * ((2 ^ (e + 1074).toNat : Nat) : Int) := by
  have h1 : inUnits c q b64.qmin = n.natAbs * 2 ^ (e + 1074).toNat := by
    rw [← own_signed_abs s (inUnits c q b64.qmin), h, Int.natAbs_mul, Int.natAbs_natCast]
  have h2 : inUnits c q (-2148) = n.natAbs * 2 ^ (e + 2148).toNat := by
    rw [inUnits_move c (r := b64.qmin) (by rw [qmin_b64]; omega) (by rw [qmin_b64]; omega), h1, qmin_b64, Nat.mul_assoc, ← Nat.pow_add]
    congr 2; omega
  obtain ⟨c', q', h3, h4⟩ := own_round (s := s) (by omega) hn he1 he2 h2
  exact ⟨c', q', h3, by rw [h4, ← h1, h]⟩
theorem own_add {x y : UInt64} {m n e : Int} (hx : own_Is x m e) (hy : own_Is y n e) (he : e ≤ 971) (hb : (m + n).natAbs < 9007199254740992) : own_Is (dadd x y) (m + n) e := by
  have he1 := hx.2.1
  obtain ⟨s, c, q, vx, fx, zx, -⟩ := own_fin_split hx
  obtain ⟨t, d, r, vy, fy, zy, -⟩ := own_fin_split hy
  obtain ⟨sg, N, E, h1, h2, h3⟩ := sum_units fx fy
  have h4 : signed sg (inUnits N E b64.qmin) = (m + n) * ((2 ^ (e + 1074).toNat : Nat) : Int) := by
    rw [h3, Int.add_mul, ← zx, ← zy]; rfl
  obtain ⟨c', q', h5, h6⟩ := own_sum (by rw [qmin_b64] at h2; exact h2) hb he1 he h4
  exact own_Is_of (by rw [val64_dadd, vx, vy, h1, h5]) he1 h6
theorem own_sub {x y : UInt64} {m n e : Int} (hx : own_Is x m e) (hy : own_Is y n e) (he : e ≤ 971) (hb : (m - n).natAbs < 9007199254740992) : own_Is (dsub x y) (m - n) e := by
  have he1 := hx.2.1
  obtain ⟨s, c, q, vx, fx, zx, -⟩ := own_fin_split hx
  obtain ⟨t, d, r, vy, fy, zy, -⟩ := own_fin_split hy
  have fy' : Jvm.FP.Core.fits b64 (.fin (!t) d r) := fy
  obtain ⟨sg, N, E, h1, h2, h3⟩ := sum_units (t := !t) fx fy'
  have h4 : signed sg (inUnits N E b64.qmin) = (m - n) * ((2 ^ (e + 1074).toNat : Nat) : Int) := by
    rw [h3, Int.sub_mul, ← zx, ← zy]
    show signed s (inUnits c q b64.qmin) + signed (!t) (inUnits d r b64.qmin) = _
    rw [signed_not]; omega
  obtain ⟨c', q', h5, h6⟩ := own_sum (by rw [qmin_b64] at h2; exact h2) hb he1 he h4
  refine own_Is_of (s := sg) (c := c') (q := q') ?_ he1 h6
  rw [val64_dsub, vx, vy]
  show round b64 (exactSum (.fin s c q) (.fin (!t) d r)) = _
  rw [h1, h5]
theorem own_mul {x y : UInt64} {m n e1 e2 e : Int} (hx : own_Is x m e1) (hy : own_Is y n e2) (hee : e1 + e2 = e) (he1 : -1074 ≤ e) (he2 : e ≤ 971) (hb : (m * n).natAbs < 9007199254740992) : own_Is (dmul x y) (m * n) e := by
  subst hee
  have hx1 := hx.2.1
  have hy1 := hy.2.1
  obtain ⟨s, c, q, vx, fx, zx, qx⟩ := own_fin_split hx
  obtain ⟨t, d, r, vy, fy, zy, qy⟩ := own_fin_split hy
  obtain ⟨h1, h2, h3⟩ := product_units fx fy
  have hs : signed (s != t) (inUnits (c * d) (q + r) (-2148)) = (m * n) * ((2 ^ (e1 + e2 + 2148).toNat : Nat) : Int) := by
    have h4 : inUnits (c * d) (q + r) (-2148) = inUnits c q b64.qmin * inUnits d r b64.qmin := by
      have := h3
      rw [qmin_b64] at this ⊢
      exact this
    rw [h4, own_signed_mul, zx, zy, show (e1 + e2 + 2148).toNat = (e1 + 1074).toNat + (e2 + 1074).toNat by omega, Nat.pow_add, Int.natCast_mul]
    simp only [Int.mul_assoc, Int.mul_left_comm, Int.mul_comm]
  have h5 : inUnits (c * d) (q + r) (-2148) = (m * n).natAbs * 2 ^ (e1 + e2 + 2148).toNat := by
    rw [← own_signed_abs (s != t) (inUnits (c * d) (q + r) (-2148)), hs, Int.natAbs_mul, Int.natAbs_natCast]
  obtain ⟨c', q', h6, h7⟩ := own_round (s := (s != t)) (by omega) hb he1 he2 h5
  refine own_Is_of (s := (s != t)) (c := c') (q := q') (by rw [val64_dmul, vx, vy, h1, h6]) he1 ?_
  rw [h5, own_signed_scale] at hs
  have h8 : signed (s != t) (m * n).natAbs = m * n := Int.eq_of_mul_eq_mul_right (by have := Nat.two_pow_pos (e1 + e2 + 2148).toNat; omega) hs
  rw [h7, own_signed_scale, h8]
/-- the quotient of two exact doubles is the rounded ratio of their numbers -/
theorem own_divR {x y : UInt64} {m n e1 e2 : Int} (hx : own_Is x m e1) (hy : own_Is y n e2) (hn : n ≠ 0) :
    val64 (ddiv x y) = roundRatio b64 (sgn (val64 x) != sgn (val64 y)) m.natAbs n.natAbs (e1 - e2) ∧ signed (sgn (val64 x)) m.natAbs = m ∧ signed (sgn (val64 y)) n.natAbs = n := by
  have hx1 := hx.2.1
  have hy1 := hy.2.1
  obtain ⟨s, c, q, vx, fx, zx, qx⟩ := own_fin_split hx
  obtain ⟨t, d, r, vy, fy, zy, qy⟩ := own_fin_split hy
  have ax : inUnits c q b64.qmin = m.natAbs * 2 ^ (e1 + 1074).toNat := by
    rw [← own_signed_abs s (inUnits c q b64.qmin), zx, Int.natAbs_mul, Int.natAbs_natCast]
  have ay : inUnits d r b64.qmin = n.natAbs * 2 ^ (e2 + 1074).toNat := by
    rw [← own_signed_abs t (inUnits d r b64.qmin), zy, Int.natAbs_mul, Int.natAbs_natCast]
  have sx : signed s m.natAbs = m := by
    rw [ax, own_signed_scale] at zx
    exact Int.eq_of_mul_eq_mul_right (by have := Nat.two_pow_pos (e1 + 1074).toNat; omega) zx
  have sy : signed t n.natAbs = n := by
    rw [ay, own_signed_scale] at zy
    exact Int.eq_of_mul_eq_mul_right (by have := Nat.two_pow_pos (e2 + 1074).toNat; omega) zy
  have nn : n.natAbs ≠ 0 := by omega
  have hd : d ≠ 0 := by
    rintro rfl
    have : n.natAbs * 2 ^ (e2 + 1074).toNat = 0 := by rw [← ay]; unfold inUnits; simp
    rcases Nat.mul_eq_zero.mp this with h | h
    · exact nn h
    · have := Nat.two_pow_pos (e2 + 1074).toNat; omega
  refine ⟨?_, by rw [vx]; exact sx, by rw [vy]; exact sy⟩
  rw [val64_ddiv, vx, vy]
  show (if d = 0 then _ else roundRatio b64 (s != t) c d (q - r)) = roundRatio b64 (s != t) _ _ _
  rw [if_neg hd]
  refine roundRatio_congr (by omega) (by omega) ?_
  unfold inUnits at ax ay
  rw [qmin_b64] at ax ay
  have key : c * n.natAbs * 2 ^ ((q - -1074).toNat + (e2 + 1074).toNat) = m.natAbs * d * 2 ^ ((e1 + 1074).toNat + (r - -1074).toNat) := by
    have e3 : c * n.natAbs * 2 ^ ((q - -1074).toNat + (e2 + 1074).toNat) = (c * 2 ^ (q - -1074).toNat) * (n.natAbs * 2 ^ (e2 + 1074).toNat) := by
      rw [Nat.pow_add]; simp only [Nat.mul_assoc, Nat.mul_left_comm, Nat.mul_comm]
    rw [e3, ax, ← ay, Nat.pow_add]
    simp only [Nat.mul_assoc, Nat.mul_left_comm, Nat.mul_comm]
  have h4 := own_powc key (w := (q - r) - (e1 - e2)) (by omega)
  rw [h4, show -((q - r) - (e1 - e2)) = (e1 - e2) - (q - r) by omega]
theorem own_div {x y : UInt64} {m n N e1 e2 e : Int} (hx : own_Is x m e1) (hy : own_Is y n e2) (hn : n ≠ 0) (hm : m = N * n) (hee : e1 - e2 = e) (he1 : -1074 ≤ e) (he2 : e ≤ 971) (hb : N.natAbs < 9007199254740992) : own_Is (ddiv x y) N e := by
  subst hee
  obtain ⟨h1, h2, h3⟩ := own_divR hx hy hn
  have hq : b64.qmin = -1074 := qmin_b64
  obtain ⟨c', q', h5, h6⟩ := round_exact good_b64 (sgn (val64 x) != sgn (val64 y)) (c := N.natAbs) (q := e1 - e2) (show _ < 2 ^ 53 from hb) (by rw [hq]; omega) (by rw [own_qmax]; omega)
  refine own_Is_of (s := (sgn (val64 x) != sgn (val64 y))) (c := c') (q := q') ?_ he1 ?_
  · rw [h1, ← h5]
    show roundRatio _ _ _ _ _ = roundRatio b64 (sgn (val64 x) != sgn (val64 y)) N.natAbs 1 (e1 - e2)
    refine roundRatio_congr (by omega) (by decide) ?_
    rw [hm, Int.natAbs_mul]; simp
  · rw [h6]; unfold inUnits
    rw [hq, show e1 - e2 - -1074 = e1 - e2 + 1074 by omega, own_signed_scale]
    congr 1
    have h7 := own_signed_mul (sgn (val64 x)) (sgn (val64 y)) N.natAbs (n.natAbs * n.natAbs)
    have h8 : signed (sgn (val64 x) != sgn (val64 y)) (m.natAbs * n.natAbs) = m * n := by rw [own_signed_mul, h2, h3]
    rw [hm, Int.natAbs_mul, Nat.mul_assoc, own_signed_scale] at h8
    have h9 : ((n.natAbs * n.natAbs : Nat) : Int) = n * n := Int.natAbs_mul_self
    rw [h9, Int.mul_assoc] at h8
    refine Int.eq_of_mul_eq_mul_right ?_ h8
    intro h0
    rcases Int.mul_eq_zero.mp h0 with h | h <;> exact hn h
theorem own_shift {x : UInt64} {n e e' : Int} (j : Nat) (hx : own_Is x n e) (hj : e' = e - j) (he : -1074 ≤ e') : own_Is x (n * (2 ^ j : Nat)) e' := by
  subst hj
  refine ⟨hx.1, he, ?_⟩
  rw [hx.2.2, show (e + 1074).toNat = j + (e - j + 1074).toNat by omega, Nat.pow_add, Int.natCast_mul, ← Int.mul_assoc]
theorem own_nn {x : UInt64} {n e : Int} (h : own_Is x n e) : Jvm.Free.Fl.NoNaN64 x := Jvm.Free.Fl.noNaN64_no.mpr h.1.notNaN
theorem own_cmp {x y : UInt64} {m n e : Int} (hx : own_Is x m e) (hy : own_Is y n e) : dcmp x y = some (compare m n) := by
  rw [dcmp_zval hx.1.ne_nan hy.1.ne_nan, hx.2.2, hy.2.2]
  have hp : (0 : Int) < ((2 ^ (e + 1074).toNat : Nat) : Int) := by have := Nat.two_pow_pos (e + 1074).toNat; omega
  congr 1
  refine compare_congr ⟨fun h => Int.lt_of_mul_lt_mul_right h (Int.le_of_lt hp), fun h => Int.mul_lt_mul_of_pos_right h hp⟩ ⟨fun h => Int.eq_of_mul_eq_mul_right (Int.ne_of_gt hp) h, fun h => by rw [h]⟩
theorem own_i2d (a : Int32) : own_Is (i2d a) a.toInt 0 := by
  have h := i2d_int a
  refine ⟨?_, by decide, ?_⟩
  · rw [i2d_l2d]; exact l2d_fin _
  · rw [DInt_zval h]; rfl
theorem own_l2d {a : Int64} (h : a.toInt.natAbs ≤ 9007199254740992) : own_Is (l2d a) a.toInt 0 := by
  have h := l2d_int (a := a) h
  exact ⟨l2d_fin _, by decide, by rw [DInt_zval h]; rfl⟩
/-- with a bound on the number -/
def own_B (x : UInt64) (n e B : Int) : Prop := own_Is x n e ∧ -B ≤ n ∧ n ≤ B
theorem own_B.is {x : UInt64} {n e B : Int} (h : own_B x n e B) : own_Is x n e := h.1
theorem own_B.nn {x : UInt64} {n e B : Int} (h : own_B x n e B) : Jvm.Free.Fl.NoNaN64 x := own_nn h.1
theorem own_Badd {x y : UInt64} {m n e A B : Int} (hx : own_B x m e A) (hy : own_B y n e B) (h : (decide (e ≤ 971) && decide (A + B < 9007199254740992)) = true) : own_B (dadd x y) (m + n) e (A + B) := by
  simp only [Bool.and_eq_true, decide_eq_true_eq] at h
  have := hx.2; have := hy.2
  exact ⟨own_add hx.1 hy.1 h.1 (by omega), by omega, by omega⟩
theorem own_Bsub {x y : UInt64} {m n e A B : Int} (hx : own_B x m e A) (hy : own_B y n e B) (h : (decide (e ≤ 971) && decide (A + B < 9007199254740992)) = true) : own_B (dsub x y) (m - n) e (A + B) := by
  simp only [Bool.and_eq_true, decide_eq_true_eq] at h
  have := hx.2; have := hy.2
  exact ⟨own_sub hx.1 hy.1 h.1 (by omega), by omega, by omega⟩
theorem own_bmul {m n A B : Int} (hm : -A ≤ m ∧ m ≤ A) (hn : -B ≤ n ∧ n ≤ B) : -(A * B) ≤ m * n ∧ m * n ≤ A * B := by
  have h : (m * n).natAbs ≤ A.toNat * B.toNat := by rw [Int.natAbs_mul]; exact Nat.mul_le_mul (by omega) (by omega)
  have h2 : ((A.toNat * B.toNat : Nat) : Int) = A * B := by rw [Int.natCast_mul, Int.toNat_of_nonneg (by omega), Int.toNat_of_nonneg (by omega)]
  omega
theorem own_Bmul {x y : UInt64} {m n e1 e2 A B : Int} (hx : own_B x m e1 A) (hy : own_B y n e2 B) (h : (decide (-1074 ≤ e1 + e2) && decide (e1 + e2 ≤ 971) && decide (A * B < 9007199254740992)) = true) : own_B (dmul x y) (m * n) (e1 + e2) (A * B) := by
  simp only [Bool.and_eq_true, decide_eq_true_eq] at h
  have hb := own_bmul hx.2 hy.2
  exact ⟨own_mul hx.1 hy.1 rfl h.1.1 h.1.2 (by omega), hb⟩
/-- an exact quotient by a power of two (n = 1 in y = 1 * 2^e2) -/
theorem own_Bdiv {x y : UInt64} {m e1 e2 A : Int} (hx : own_B x m e1 A) (hy : own_Is y 1 e2) (h : (decide (-1074 ≤ e1 - e2) && decide (e1 - e2 ≤ 971) && decide (A < 9007199254740992)) = true) : own_B (ddiv x y) m (e1 - e2) A := by
  simp only [Bool.and_eq_true, decide_eq_true_eq] at h
  have := hx.2
  exact ⟨own_div hx.1 hy (by decide) (Int.mul_one _).symm rfl h.1.1 h.1.2 (by omega), hx.2⟩
theorem own_Bshift {x : UInt64} {n e A : Int} (j : Nat) (P : Int) (hx : own_B x n e A) (h : (decide (-1074 ≤ e - j) && decide (((2 ^ j : Nat) : Int) = P)) = true) : own_B x (n * P) (e - j) (A * P) := by
  simp only [Bool.and_eq_true, decide_eq_true_eq] at h
  obtain ⟨h, rfl⟩ := h
  refine ⟨own_shift j hx.1 rfl h, ?_⟩
  have hp : (0 : Int) ≤ (2 ^ j : Nat) := Int.natCast_nonneg _
  have := hx.2
  constructor
  · rw [← Int.neg_mul]; exact Int.mul_le_mul_of_nonneg_right this.1 hp
  · exact Int.mul_le_mul_of_nonneg_right this.2 hp
theorem own_Bcast {x : UInt64} {n n' e e' A A' : Int} (h : own_B x n e A) (hn : n = n') (he : e = e') (hA : A ≤ A') : own_B x n' e' A' := by
  subst hn he; exact ⟨h.1, by have := h.2; omega, by have := h.2; omega⟩
theorem own_eq0 {x y : UInt64} {m n e : Int} (hx : own_Is x m e) (hy : own_Is y n e) (h : m = n) (o : ClassFile.CmpOp) : Op.cmpValue (Jvm.FP.dcmp x y) o = 0 := by
  show Op.cmpValue (dcmp x y) o = 0
  subst h
  rw [own_cmp hx hy, show compare m m = .eq from (compare_eq_iff m m).mpr rfl]; cases o <;> rfl
theorem own_cmpv {x y : UInt64} {m n e : Int} (hx : own_Is x m e) (hy : own_Is y n e) (o : ClassFile.CmpOp) : (m < n → Op.cmpValue (Jvm.FP.dcmp x y) o = -1) ∧ (m = n → Op.cmpValue (Jvm.FP.dcmp x y) o = 0) ∧ (n < m → Op.cmpValue (Jvm.FP.dcmp x y) o = 1) := by
  refine ⟨fun h => ?_, fun h => own_eq0 hx hy h o, fun h => ?_⟩
  · show Op.cmpValue (dcmp x y) o = -1
    rw [own_cmp hx hy, (compare_lt_iff m n).mpr h]; cases o <;> rfl
  · show Op.cmpValue (dcmp x y) o = 1
    rw [own_cmp hx hy, (compare_gt_iff m n).mpr h]; cases o <;> rfl
theorem own_one : own_Is 4607182418800017408 1 0 := ⟨(fin_bits _).mpr (by decide), by decide, by decide +kernel⟩
theorem own_zero : own_Is 0 0 0 := ⟨(fin_bits _).mpr (by decide), by decide, by decide +kernel⟩
/-! ints and longs with their numbers and bounds -/
def own_I (v : Int32) (n B : Int) : Prop := v.toInt = n ∧ -B ≤ n ∧ n ≤ B
def own_L (v : Int64) (n B : Int) : Prop := v.toInt = n ∧ -B ≤ n ∧ n ≤ B
theorem own_Iadd {a b v : Int32} {m n A B : Int} (hv : a + b = v) (ha : own_I a m A) (hb : own_I b n B) (h : decide (A + B < 2147483648) = true) : own_I v (m + n) (A + B) := by
  subst hv; simp only [decide_eq_true_eq] at h; obtain ⟨rfl, h1, h2⟩ := ha; obtain ⟨rfl, h3, h4⟩ := hb
  exact ⟨by rw [Int32.toInt_add]; exact Int.bmod_eq_of_le (by omega) (by omega), by omega, by omega⟩
theorem own_Isub {a b v : Int32} {m n A B : Int} (hv : a - b = v) (ha : own_I a m A) (hb : own_I b n B) (h : decide (A + B < 2147483648) = true) : own_I v (m - n) (A + B) := by
  subst hv; simp only [decide_eq_true_eq] at h; obtain ⟨rfl, h1, h2⟩ := ha; obtain ⟨rfl, h3, h4⟩ := hb
  exact ⟨by rw [Int32.toInt_sub]; exact Int.bmod_eq_of_le (by omega) (by omega), by omega, by omega⟩
theorem own_Imul {a b v : Int32} {m n A B : Int} (hv : a * b = v) (ha : own_I a m A) (hb : own_I b n B) (h : decide (A * B < 2147483648) = true) : own_I v (m * n) (A * B) := by
  subst hv; simp only [decide_eq_true_eq] at h; obtain ⟨rfl, h1⟩ := ha; obtain ⟨rfl, h3⟩ := hb
  have hb := own_bmul h1 h3
  exact ⟨by rw [Int32.toInt_mul]; exact Int.bmod_eq_of_le (by omega) (by omega), hb⟩
theorem own_Ladd {a b v : Int64} {m n A B : Int} (hv : a + b = v) (ha : own_L a m A) (hb : own_L b n B) (h : decide (A + B < 9223372036854775808) = true) : own_L v (m + n) (A + B) := by
  subst hv; simp only [decide_eq_true_eq] at h; obtain ⟨rfl, h1, h2⟩ := ha; obtain ⟨rfl, h3, h4⟩ := hb
  exact ⟨by rw [Int64.toInt_add]; exact Int.bmod_eq_of_le (by omega) (by omega), by omega, by omega⟩
theorem own_Lsub {a b v : Int64} {m n A B : Int} (hv : a - b = v) (ha : own_L a m A) (hb : own_L b n B) (h : decide (A + B < 9223372036854775808) = true) : own_L v (m - n) (A + B) := by
  subst hv; simp only [decide_eq_true_eq] at h; obtain ⟨rfl, h1, h2⟩ := ha; obtain ⟨rfl, h3, h4⟩ := hb
  exact ⟨by rw [Int64.toInt_sub]; exact Int.bmod_eq_of_le (by omega) (by omega), by omega, by omega⟩
theorem own_Lmul {a b v : Int64} {m n A B : Int} (hv : a * b = v) (ha : own_L a m A) (hb : own_L b n B) (h : decide (A * B < 9223372036854775808) = true) : own_L v (m * n) (A * B) := by
  subst hv; simp only [decide_eq_true_eq] at h; obtain ⟨rfl, h1⟩ := ha; obtain ⟨rfl, h3⟩ := hb
  have hb := own_bmul h1 h3
  exact ⟨by rw [Int64.toInt_mul]; exact Int.bmod_eq_of_le (by omega) (by omega), hb⟩
theorem own_Ii2l {a : Int32} {v : Int64} {m A : Int} (hv : Int32.toInt64 a = v) (ha : own_I a m A) : own_L v m A := by
  subst hv; exact ⟨by rw [Int32.toInt_toInt64]; exact ha.1, ha.2⟩
theorem own_Icast {v : Int32} {n n' A A' : Int} (h : own_I v n A) (hn : n = n') (hA : A ≤ A') : own_I v n' A' := by
  subst hn; exact ⟨h.1, by have := h.2; omega, by have := h.2; omega⟩
theorem own_Lcast {v : Int64} {n n' A A' : Int} (h : own_L v n A) (hn : n = n') (hA : A ≤ A') : own_L v n' A' := by
  subst hn; exact ⟨h.1, by have := h.2; omega, by have := h.2; omega⟩
theorem own_Bi2d {v : Int32} {n A : Int} (h : own_I v n A) : own_B (i2d v) n 0 A := by
  obtain ⟨rfl, h1⟩ := h; exact ⟨own_i2d v, h1⟩
theorem own_Bl2d {v : Int64} {n A : Int} (h : own_L v n A) (hA : decide (A ≤ 9007199254740992) = true) : own_B (l2d v) n 0 A := by
  simp only [decide_eq_true_eq] at hA; obtain ⟨rfl, h1⟩ := h; exact ⟨own_l2d (by omega), h1⟩
theorem own_Irng (v : Int32) : own_I v v.toInt 2147483648 := ⟨rfl, by have := Jvm.RoadKit.rng32 v; omega, by have := Jvm.RoadKit.rng32 v; omega⟩
theorem own_Iand {x m v : Int32} {B : Int} (hv : x &&& m = v) (hB : m.toInt = B) (h0 : 0 ≤ B) : own_I v v.toInt B := by
  have := Jvm.RoadKit.c_and x m (by omega); rw [hv] at this; exact ⟨rfl, by omega, by omega⟩
end OwnFP
section OwnStep
open Jvm Jvm.ClassFile Sem Op Lib Jvm.Free Jvm.Stand Jvm.LawKit Jvm.RoadKit
variable {tb : Tables} [Ours tb] {e : Env} {below : List Frame} {T target : State} {m : MethodId} {c : Code} {pc pc' : Nat} {L : Array Slot} {S : List Value}
theorem own_s_iadd (h : At T m c below) (hx : tb.exec = Jvm.exec) {x y v : Int32} (hd : decode c.code pc = .ok (.iadd, 1)) (hp : pc + 1 = pc') (hv : x + y = v)
    (hr : Steps tb e below (T.setTop (mkF m pc' L (.int v :: S))) target) : Steps tb e below (T.setTop (mkF m pc L (.int y :: .int x :: S))) target := by
  subst hv hp; exact XS.iadd h hx rfl hd rfl hr
theorem own_s_ladd (h : At T m c below) (hx : tb.exec = Jvm.exec) {x y v : Int64} (hd : decode c.code pc = .ok (.ladd, 1)) (hp : pc + 1 = pc') (hv : x + y = v)
    (hr : Steps tb e below (T.setTop (mkF m pc' L (.long v :: S))) target) : Steps tb e below (T.setTop (mkF m pc L (.long y :: .long x :: S))) target := by
  subst hv hp; exact XS.ladd h hx rfl hd rfl hr
theorem own_s_isub (h : At T m c below) (hx : tb.exec = Jvm.exec) {x y v : Int32} (hd : decode c.code pc = .ok (.isub, 1)) (hp : pc + 1 = pc') (hv : x - y = v)
    (hr : Steps tb e below (T.setTop (mkF m pc' L (.int v :: S))) target) : Steps tb e below (T.setTop (mkF m pc L (.int y :: .int x :: S))) target := by
  subst hv hp; exact XS.isub h hx rfl hd rfl hr
theorem own_s_lsub (h : At T m c below) (hx : tb.exec = Jvm.exec) {x y v : Int64} (hd : decode c.code pc = .ok (.lsub, 1)) (hp : pc + 1 = pc') (hv : x - y = v)
    (hr : Steps tb e below (T.setTop (mkF m pc' L (.long v :: S))) target) : Steps tb e below (T.setTop (mkF m pc L (.long y :: .long x :: S))) target := by
  subst hv hp; exact XS.lsub h hx rfl hd rfl hr
theorem own_s_imul (h : At T m c below) (hx : tb.exec = Jvm.exec) {x y v : Int32} (hd : decode c.code pc = .ok (.imul, 1)) (hp : pc + 1 = pc') (hv : x * y = v)
    (hr : Steps tb e below (T.setTop (mkF m pc' L (.int v :: S))) target) : Steps tb e below (T.setTop (mkF m pc L (.int y :: .int x :: S))) target := by
  subst hv hp; exact XS.imul h hx rfl hd rfl hr
theorem own_s_lmul (h : At T m c below) (hx : tb.exec = Jvm.exec) {x y v : Int64} (hd : decode c.code pc = .ok (.lmul, 1)) (hp : pc + 1 = pc') (hv : x * y = v)
    (hr : Steps tb e below (T.setTop (mkF m pc' L (.long v :: S))) target) : Steps tb e below (T.setTop (mkF m pc L (.long y :: .long x :: S))) target := by
  subst hv hp; exact XS.lmul h hx rfl hd rfl hr
theorem own_s_iand (h : At T m c below) (hx : tb.exec = Jvm.exec) {x y v : Int32} (hd : decode c.code pc = .ok (.iand, 1)) (hp : pc + 1 = pc') (hv : x &&& y = v)
    (hr : Steps tb e below (T.setTop (mkF m pc' L (.int v :: S))) target) : Steps tb e below (T.setTop (mkF m pc L (.int y :: .int x :: S))) target := by
  subst hv hp; exact XS.iand h hx rfl hd rfl hr
theorem own_s_land (h : At T m c below) (hx : tb.exec = Jvm.exec) {x y v : Int64} (hd : decode c.code pc = .ok (.land, 1)) (hp : pc + 1 = pc') (hv : x &&& y = v)
    (hr : Steps tb e below (T.setTop (mkF m pc' L (.long v :: S))) target) : Steps tb e below (T.setTop (mkF m pc L (.long y :: .long x :: S))) target := by
  subst hv hp; exact XS.land h hx rfl hd rfl hr
theorem own_s_ior (h : At T m c below) (hx : tb.exec = Jvm.exec) {x y v : Int32} (hd : decode c.code pc = .ok (.ior, 1)) (hp : pc + 1 = pc') (hv : x ||| y = v)
    (hr : Steps tb e below (T.setTop (mkF m pc' L (.int v :: S))) target) : Steps tb e below (T.setTop (mkF m pc L (.int y :: .int x :: S))) target := by
  subst hv hp; exact XS.ior h hx rfl hd rfl hr
theorem own_s_lor (h : At T m c below) (hx : tb.exec = Jvm.exec) {x y v : Int64} (hd : decode c.code pc = .ok (.lor, 1)) (hp : pc + 1 = pc') (hv : x ||| y = v)
    (hr : Steps tb e below (T.setTop (mkF m pc' L (.long v :: S))) target) : Steps tb e below (T.setTop (mkF m pc L (.long y :: .long x :: S))) target := by
  subst hv hp; exact XS.lor h hx rfl hd rfl hr
theorem own_s_ixor (h : At T m c below) (hx : tb.exec = Jvm.exec) {x y v : Int32} (hd : decode c.code pc = .ok (.ixor, 1)) (hp : pc + 1 = pc') (hv : x ^^^ y = v)
    (hr : Steps tb e below (T.setTop (mkF m pc' L (.int v :: S))) target) : Steps tb e below (T.setTop (mkF m pc L (.int y :: .int x :: S))) target := by
  subst hv hp; exact XS.ixor h hx rfl hd rfl hr
theorem own_s_lxor (h : At T m c below) (hx : tb.exec = Jvm.exec) {x y v : Int64} (hd : decode c.code pc = .ok (.lxor, 1)) (hp : pc + 1 = pc') (hv : x ^^^ y = v)
    (hr : Steps tb e below (T.setTop (mkF m pc' L (.long v :: S))) target) : Steps tb e below (T.setTop (mkF m pc L (.long y :: .long x :: S))) target := by
  subst hv hp; exact XS.lxor h hx rfl hd rfl hr
theorem own_s_idiv (h : At T m c below) (hx : tb.exec = Jvm.exec) {x y v : Int32} (hd : decode c.code pc = .ok (.idiv, 1)) (hp : pc + 1 = pc') (hy : y ≠ 0) (hv : x / y = v)
    (hr : Steps tb e below (T.setTop (mkF m pc' L (.int v :: S))) target) : Steps tb e below (T.setTop (mkF m pc L (.int y :: .int x :: S))) target := by
  subst hv hp; exact XS.idiv h hx rfl hd rfl hy hr
theorem own_s_irem (h : At T m c below) (hx : tb.exec = Jvm.exec) {x y v : Int32} (hd : decode c.code pc = .ok (.irem, 1)) (hp : pc + 1 = pc') (hy : y ≠ 0) (hv : x % y = v)
    (hr : Steps tb e below (T.setTop (mkF m pc' L (.int v :: S))) target) : Steps tb e below (T.setTop (mkF m pc L (.int y :: .int x :: S))) target := by
  subst hv hp; rw [← irem_eq_mod] at hr; exact XS.irem h hx rfl hd rfl hy hr
theorem own_s_ldiv (h : At T m c below) (hx : tb.exec = Jvm.exec) {x y v : Int64} (hd : decode c.code pc = .ok (.ldiv, 1)) (hp : pc + 1 = pc') (hy : y ≠ 0) (hv : x / y = v)
    (hr : Steps tb e below (T.setTop (mkF m pc' L (.long v :: S))) target) : Steps tb e below (T.setTop (mkF m pc L (.long y :: .long x :: S))) target := by
  subst hv hp; exact XS.ldiv h hx rfl hd rfl hy hr
theorem own_s_lrem (h : At T m c below) (hx : tb.exec = Jvm.exec) {x y v : Int64} (hd : decode c.code pc = .ok (.lrem, 1)) (hp : pc + 1 = pc') (hy : y ≠ 0) (hv : x % y = v)
    (hr : Steps tb e below (T.setTop (mkF m pc' L (.long v :: S))) target) : Steps tb e below (T.setTop (mkF m pc L (.long y :: .long x :: S))) target := by
  subst hv hp; rw [← lrem_mod] at hr; exact XS.lrem h hx rfl hd rfl hy hr
theorem own_s_ishl (h : At T m c below) (hx : tb.exec = Jvm.exec) {x y v : Int32} (hd : decode c.code pc = .ok (.ishl, 1)) (hp : pc + 1 = pc') (hv : x <<< (y &&& 31) = v)
    (hr : Steps tb e below (T.setTop (mkF m pc' L (.int v :: S))) target) : Steps tb e below (T.setTop (mkF m pc L (.int y :: .int x :: S))) target := by
  subst hv hp; exact XS.ishl h hx rfl hd rfl hr
theorem own_s_ishr (h : At T m c below) (hx : tb.exec = Jvm.exec) {x y v : Int32} (hd : decode c.code pc = .ok (.ishr, 1)) (hp : pc + 1 = pc') (hv : x >>> (y &&& 31) = v)
    (hr : Steps tb e below (T.setTop (mkF m pc' L (.int v :: S))) target) : Steps tb e below (T.setTop (mkF m pc L (.int y :: .int x :: S))) target := by
  subst hv hp; exact XS.ishr h hx rfl hd rfl hr
theorem own_s_iushr (h : At T m c below) (hx : tb.exec = Jvm.exec) {x y v : Int32} (hd : decode c.code pc = .ok (.iushr, 1)) (hp : pc + 1 = pc') (hv : (x.toUInt32 >>> (y &&& 31).toUInt32).toInt32 = v)
    (hr : Steps tb e below (T.setTop (mkF m pc' L (.int v :: S))) target) : Steps tb e below (T.setTop (mkF m pc L (.int y :: .int x :: S))) target := by
  subst hv hp; exact XS.iushr h hx rfl hd rfl hr
theorem own_s_lshl (h : At T m c below) (hx : tb.exec = Jvm.exec) {x v : Int64} {y : Int32} (hd : decode c.code pc = .ok (.lshl, 1)) (hp : pc + 1 = pc') (hv : x <<< (y &&& 63).toInt64 = v)
    (hr : Steps tb e below (T.setTop (mkF m pc' L (.long v :: S))) target) : Steps tb e below (T.setTop (mkF m pc L (.int y :: .long x :: S))) target := by
  subst hv hp; exact XS.lshl h hx rfl hd rfl hr
theorem own_s_lshr (h : At T m c below) (hx : tb.exec = Jvm.exec) {x v : Int64} {y : Int32} (hd : decode c.code pc = .ok (.lshr, 1)) (hp : pc + 1 = pc') (hv : x >>> (y &&& 63).toInt64 = v)
    (hr : Steps tb e below (T.setTop (mkF m pc' L (.long v :: S))) target) : Steps tb e below (T.setTop (mkF m pc L (.int y :: .long x :: S))) target := by
  subst hv hp; exact XS.lshr h hx rfl hd rfl hr
theorem own_s_lushr (h : At T m c below) (hx : tb.exec = Jvm.exec) {x v : Int64} {y : Int32} (hd : decode c.code pc = .ok (.lushr, 1)) (hp : pc + 1 = pc') (hv : (x.toUInt64 >>> (y &&& 63).toInt64.toUInt64).toInt64 = v)
    (hr : Steps tb e below (T.setTop (mkF m pc' L (.long v :: S))) target) : Steps tb e below (T.setTop (mkF m pc L (.int y :: .long x :: S))) target := by
  subst hv hp; exact XS.lushr h hx rfl hd rfl hr
theorem own_s_i2l (h : At T m c below) (hx : tb.exec = Jvm.exec) {x : Int32} {v : Int64} (hd : decode c.code pc = .ok (.i2l, 1)) (hp : pc + 1 = pc') (hv : x.toInt64 = v)
    (hr : Steps tb e below (T.setTop (mkF m pc' L (.long v :: S))) target) : Steps tb e below (T.setTop (mkF m pc L (.int x :: S))) target := by
  subst hv hp; exact XS.i2l h hx rfl hd rfl hr
theorem own_s_l2i (h : At T m c below) (hx : tb.exec = Jvm.exec) {x : Int64} {v : Int32} (hd : decode c.code pc = .ok (.l2i, 1)) (hp : pc + 1 = pc') (hv : x.toInt32 = v)
    (hr : Steps tb e below (T.setTop (mkF m pc' L (.int v :: S))) target) : Steps tb e below (T.setTop (mkF m pc L (.long x :: S))) target := by
  subst hv hp; exact XS.l2i h hx rfl hd rfl hr
theorem own_s_i2b (h : At T m c below) (hx : tb.exec = Jvm.exec) {x : Int32} {v : Int32} (hd : decode c.code pc = .ok (.i2b, 1)) (hp : pc + 1 = pc') (hv : x.toInt8.toInt32 = v)
    (hr : Steps tb e below (T.setTop (mkF m pc' L (.int v :: S))) target) : Steps tb e below (T.setTop (mkF m pc L (.int x :: S))) target := by
  subst hv hp; exact XS.i2b h hx rfl hd rfl hr
theorem own_s_i2s (h : At T m c below) (hx : tb.exec = Jvm.exec) {x : Int32} {v : Int32} (hd : decode c.code pc = .ok (.i2s, 1)) (hp : pc + 1 = pc') (hv : x.toInt16.toInt32 = v)
    (hr : Steps tb e below (T.setTop (mkF m pc' L (.int v :: S))) target) : Steps tb e below (T.setTop (mkF m pc L (.int x :: S))) target := by
  subst hv hp; exact XS.i2s h hx rfl hd rfl hr
theorem own_s_ineg (h : At T m c below) (hx : tb.exec = Jvm.exec) {x : Int32} {v : Int32} (hd : decode c.code pc = .ok (.ineg, 1)) (hp : pc + 1 = pc') (hv : -x = v)
    (hr : Steps tb e below (T.setTop (mkF m pc' L (.int v :: S))) target) : Steps tb e below (T.setTop (mkF m pc L (.int x :: S))) target := by
  subst hv hp; exact XS.ineg h hx rfl hd rfl hr
theorem own_s_lneg (h : At T m c below) (hx : tb.exec = Jvm.exec) {x : Int64} {v : Int64} (hd : decode c.code pc = .ok (.lneg, 1)) (hp : pc + 1 = pc') (hv : -x = v)
    (hr : Steps tb e below (T.setTop (mkF m pc' L (.long v :: S))) target) : Steps tb e below (T.setTop (mkF m pc L (.long x :: S))) target := by
  subst hv hp; exact XS.lneg h hx rfl hd rfl hr
theorem own_s_i2d (h : At T m c below) (hx : tb.exec = Jvm.exec) {x : Int32} {v : UInt64} (hd : decode c.code pc = .ok (.i2d, 1)) (hp : pc + 1 = pc') (hv : FP.i2d x = v)
    (hr : Steps tb e below (T.setTop (mkF m pc' L (.double v :: S))) target) : Steps tb e below (T.setTop (mkF m pc L (.int x :: S))) target := by
  subst hv hp; exact XS.i2dS h hx rfl hd rfl rfl hr
theorem own_s_l2d (h : At T m c below) (hx : tb.exec = Jvm.exec) {x : Int64} {v : UInt64} (hd : decode c.code pc = .ok (.l2d, 1)) (hp : pc + 1 = pc') (hv : FP.l2d x = v)
    (hr : Steps tb e below (T.setTop (mkF m pc' L (.double v :: S))) target) : Steps tb e below (T.setTop (mkF m pc L (.long x :: S))) target := by
  subst hv hp; exact XS.l2dS h hx rfl hd rfl rfl hr
theorem own_s_dneg (h : At T m c below) (hx : tb.exec = Jvm.exec) {x : UInt64} {v : UInt64} (hd : decode c.code pc = .ok (.dneg, 1)) (hp : pc + 1 = pc') (hv : FP.dneg x = v)
    (hr : Steps tb e below (T.setTop (mkF m pc' L (.double v :: S))) target) : Steps tb e below (T.setTop (mkF m pc L (.double x :: S))) target := by
  subst hv hp; exact XS.dnegS h hx rfl hd rfl rfl hr
theorem own_s_dadd (h : At T m c below) (hx : tb.exec = Jvm.exec) {x y v : UInt64} (hd : decode c.code pc = .ok (.dadd, 1)) (hp : pc + 1 = pc') (hn : Jvm.Free.Fl.NoNaN64 (FP.dadd x y)) (hv : FP.dadd x y = v)
    (hr : Steps tb e below (T.setTop (mkF m pc' L (.double v :: S))) target) : Steps tb e below (T.setTop (mkF m pc L (.double y :: .double x :: S))) target := by
  subst hv hp; exact XS.daddS h hx rfl hd rfl hn rfl hr
theorem own_s_dsub (h : At T m c below) (hx : tb.exec = Jvm.exec) {x y v : UInt64} (hd : decode c.code pc = .ok (.dsub, 1)) (hp : pc + 1 = pc') (hn : Jvm.Free.Fl.NoNaN64 (FP.dsub x y)) (hv : FP.dsub x y = v)
    (hr : Steps tb e below (T.setTop (mkF m pc' L (.double v :: S))) target) : Steps tb e below (T.setTop (mkF m pc L (.double y :: .double x :: S))) target := by
  subst hv hp; exact XS.dsubS h hx rfl hd rfl hn rfl hr
theorem own_s_dmul (h : At T m c below) (hx : tb.exec = Jvm.exec) {x y v : UInt64} (hd : decode c.code pc = .ok (.dmul, 1)) (hp : pc + 1 = pc') (hn : Jvm.Free.Fl.NoNaN64 (FP.dmul x y)) (hv : FP.dmul x y = v)
    (hr : Steps tb e below (T.setTop (mkF m pc' L (.double v :: S))) target) : Steps tb e below (T.setTop (mkF m pc L (.double y :: .double x :: S))) target := by
  subst hv hp; exact XS.dmulS h hx rfl hd rfl hn rfl hr
theorem own_s_ddiv (h : At T m c below) (hx : tb.exec = Jvm.exec) {x y v : UInt64} (hd : decode c.code pc = .ok (.ddiv, 1)) (hp : pc + 1 = pc') (hn : Jvm.Free.Fl.NoNaN64 (FP.ddiv x y)) (hv : FP.ddiv x y = v)
    (hr : Steps tb e below (T.setTop (mkF m pc' L (.double v :: S))) target) : Steps tb e below (T.setTop (mkF m pc L (.double y :: .double x :: S))) target := by
  subst hv hp; exact XS.ddivS h hx rfl hd rfl hn rfl hr
theorem own_s_dcmp (h : At T m c below) (hx : tb.exec = Jvm.exec) {o : CmpOp} {x y : UInt64} {v : Int32} (hd : decode c.code pc = .ok (.dcmp o, 1)) (hp : pc + 1 = pc') (hv : Op.cmpValue (FP.dcmp x y) o = v)
    (hr : Steps tb e below (T.setTop (mkF m pc' L (.int v :: S))) target) : Steps tb e below (T.setTop (mkF m pc L (.double y :: .double x :: S))) target := by
  subst hv hp; exact XS.dcmpS h hx rfl hd rfl rfl hr
theorem own_s_lcmp (h : At T m c below) (hx : tb.exec = Jvm.exec) {x y : Int64} {v : Int32} (hd : decode c.code pc = .ok (.lcmp, 1)) (hp : pc + 1 = pc') (hv : lcmpW x y = v)
    (hr : Steps tb e below (T.setTop (mkF m pc' L (.int v :: S))) target) : Steps tb e below (T.setTop (mkF m pc L (.long y :: .long x :: S))) target := by
  subst hv hp; exact XS.lcmp h hx rfl hd rfl hr
theorem own_s_iconst (h : At T m c below) (hx : tb.exec = Jvm.exec) {i : Int} {v : Int32} (hd : decode c.code pc = .ok (.iconst i, 1)) (hp : pc + 1 = pc') (hv : Int32.ofInt i = v)
    (hr : Steps tb e below (T.setTop (mkF m pc' L (.int v :: S))) target) : Steps tb e below (T.setTop (mkF m pc L S)) target := by
  subst hv hp; exact XS.iconst h hx rfl hd hr
theorem own_s_bipush (h : At T m c below) (hx : tb.exec = Jvm.exec) {i : Int} {v : Int32} (hd : decode c.code pc = .ok (.bipush i, 2)) (hp : pc + 2 = pc') (hv : (Int8.ofInt i).toInt32 = v)
    (hr : Steps tb e below (T.setTop (mkF m pc' L (.int v :: S))) target) : Steps tb e below (T.setTop (mkF m pc L S)) target := by
  subst hv hp; exact XS.bipush h hx rfl hd hr
theorem own_s_sipush (h : At T m c below) (hx : tb.exec = Jvm.exec) {i : Int} {v : Int32} (hd : decode c.code pc = .ok (.sipush i, 3)) (hp : pc + 3 = pc') (hv : (Int16.ofInt i).toInt32 = v)
    (hr : Steps tb e below (T.setTop (mkF m pc' L (.int v :: S))) target) : Steps tb e below (T.setTop (mkF m pc L S)) target := by
  subst hv hp; exact XS.sipush h hx rfl hd hr
theorem own_s_lconst (h : At T m c below) (hx : tb.exec = Jvm.exec) {k : Fin 2} {v : Int64} (hd : decode c.code pc = .ok (.lconst k, 1)) (hp : pc + 1 = pc') (hv : Int64.ofNat k = v)
    (hr : Steps tb e below (T.setTop (mkF m pc' L (.long v :: S))) target) : Steps tb e below (T.setTop (mkF m pc L S)) target := by
  subst hv hp; exact XS.lconst h hx rfl hd hr
theorem own_s_dconst0 (h : At T m c below) (hx : tb.exec = Jvm.exec)  (hd : decode c.code pc = .ok (.dconst 0, 1)) (hp : pc + 1 = pc') 
    (hr : Steps tb e below (T.setTop (mkF m pc' L (.double 0 :: S))) target) : Steps tb e below (T.setTop (mkF m pc L S)) target := by
  subst hp; exact XS.dconst0 h hx rfl hd rfl hr
theorem own_s_dconst1 (h : At T m c below) (hx : tb.exec = Jvm.exec)  (hd : decode c.code pc = .ok (.dconst 1, 1)) (hp : pc + 1 = pc') 
    (hr : Steps tb e below (T.setTop (mkF m pc' L (.double 4607182418800017408 :: S))) target) : Steps tb e below (T.setTop (mkF m pc L S)) target := by
  subst hp; exact XS.dconst1 h hx rfl hd rfl hr
theorem own_s_aconst_null (h : At T m c below) (hx : tb.exec = Jvm.exec)  (hd : decode c.code pc = .ok (.aconst_null, 1)) (hp : pc + 1 = pc') 
    (hr : Steps tb e below (T.setTop (mkF m pc' L (.null :: S))) target) : Steps tb e below (T.setTop (mkF m pc L S)) target := by
  subst hp; exact XS.aconstNull h hx rfl hd hr
theorem own_s_dup (h : At T m c below) (hx : tb.exec = Jvm.exec) {x : Value} (hd : decode c.code pc = .ok (.dup, 1)) (hp : pc + 1 = pc') (hc : x.category = 1)
    (hr : Steps tb e below (T.setTop (mkF m pc' L (x :: x :: S))) target) : Steps tb e below (T.setTop (mkF m pc L (x :: S))) target := by
  subst hp; exact XS.dup h hx rfl hd rfl hc hr
theorem own_s_dupX1 (h : At T m c below) (hx : tb.exec = Jvm.exec) {x y : Value} (hd : decode c.code pc = .ok (.dup_x1, 1)) (hp : pc + 1 = pc') (hc : x.category = 1) (hc' : y.category = 1)
    (hr : Steps tb e below (T.setTop (mkF m pc' L (x :: y :: x :: S))) target) : Steps tb e below (T.setTop (mkF m pc L (x :: y :: S))) target := by
  subst hp; exact XS.dupX1 h hx rfl hd rfl hc hc' hr
theorem own_s_pop (h : At T m c below) (hx : tb.exec = Jvm.exec) {x : Value} (hd : decode c.code pc = .ok (.pop, 1)) (hp : pc + 1 = pc') (hc : x.category = 1)
    (hr : Steps tb e below (T.setTop (mkF m pc' L S)) target) : Steps tb e below (T.setTop (mkF m pc L (x :: S))) target := by
  subst hp; exact XS.pop h hx rfl hd rfl hc hr
theorem own_s_iloadN (h : At T m c below) (hx : tb.exec = Jvm.exec) {k : Fin 4} {v : Int32} (hd : decode c.code pc = .ok (.iload_n k, 1)) (hp : pc + 1 = pc') (hl : L[k.val]? = some (.val (.int v)))
    (hr : Steps tb e below (T.setTop (mkF m pc' L (.int v :: S))) target) : Steps tb e below (T.setTop (mkF m pc L S)) target := by
  subst hp; exact XS.iloadN h hx rfl hd hl hr
theorem own_s_iload (h : At T m c below) (hx : tb.exec = Jvm.exec) {k : Nat} {v : Int32} (hd : decode c.code pc = .ok (.iload k, 2)) (hp : pc + 2 = pc') (hl : L[k]? = some (.val (.int v)))
    (hr : Steps tb e below (T.setTop (mkF m pc' L (.int v :: S))) target) : Steps tb e below (T.setTop (mkF m pc L S)) target := by
  subst hp; exact XS.iload h hx rfl hd hl hr
theorem own_s_istoreN (h : At T m c below) (hx : tb.exec = Jvm.exec) {k : Fin 4} {v : Int32} {L' : Array Slot} (hd : decode c.code pc = .ok (.istore_n k, 1)) (hp : pc + 1 = pc') (hl : storeLocals L k.val (.int v) = some L')
    (hr : Steps tb e below (T.setTop (mkF m pc' L' S)) target) : Steps tb e below (T.setTop (mkF m pc L (.int v :: S))) target := by
  subst hp; exact XS.istoreN h hx rfl hd rfl hl hr
theorem own_s_istore (h : At T m c below) (hx : tb.exec = Jvm.exec) {k : Nat} {v : Int32} {L' : Array Slot} (hd : decode c.code pc = .ok (.istore k, 2)) (hp : pc + 2 = pc') (hl : storeLocals L k (.int v) = some L')
    (hr : Steps tb e below (T.setTop (mkF m pc' L' S)) target) : Steps tb e below (T.setTop (mkF m pc L (.int v :: S))) target := by
  subst hp; exact XS.istore h hx rfl hd rfl hl hr
theorem own_s_lloadN (h : At T m c below) (hx : tb.exec = Jvm.exec) {k : Fin 4} {v : Int64} (hd : decode c.code pc = .ok (.lload_n k, 1)) (hp : pc + 1 = pc') (hl : L[k.val]? = some (.val (.long v)))
    (hr : Steps tb e below (T.setTop (mkF m pc' L (.long v :: S))) target) : Steps tb e below (T.setTop (mkF m pc L S)) target := by
  subst hp; exact XS.lloadN h hx rfl hd hl hr
theorem own_s_lload (h : At T m c below) (hx : tb.exec = Jvm.exec) {k : Nat} {v : Int64} (hd : decode c.code pc = .ok (.lload k, 2)) (hp : pc + 2 = pc') (hl : L[k]? = some (.val (.long v)))
    (hr : Steps tb e below (T.setTop (mkF m pc' L (.long v :: S))) target) : Steps tb e below (T.setTop (mkF m pc L S)) target := by
  subst hp; exact XS.lload h hx rfl hd hl hr
theorem own_s_lstoreN (h : At T m c below) (hx : tb.exec = Jvm.exec) {k : Fin 4} {v : Int64} {L' : Array Slot} (hd : decode c.code pc = .ok (.lstore_n k, 1)) (hp : pc + 1 = pc') (hl : storeLocals L k.val (.long v) = some L')
    (hr : Steps tb e below (T.setTop (mkF m pc' L' S)) target) : Steps tb e below (T.setTop (mkF m pc L (.long v :: S))) target := by
  subst hp; exact XS.lstoreN h hx rfl hd rfl hl hr
theorem own_s_lstore (h : At T m c below) (hx : tb.exec = Jvm.exec) {k : Nat} {v : Int64} {L' : Array Slot} (hd : decode c.code pc = .ok (.lstore k, 2)) (hp : pc + 2 = pc') (hl : storeLocals L k (.long v) = some L')
    (hr : Steps tb e below (T.setTop (mkF m pc' L' S)) target) : Steps tb e below (T.setTop (mkF m pc L (.long v :: S))) target := by
  subst hp; exact XS.lstore h hx rfl hd rfl hl hr
theorem own_s_dloadN (h : At T m c below) (hx : tb.exec = Jvm.exec) {k : Fin 4} {v : UInt64} (hd : decode c.code pc = .ok (.dload_n k, 1)) (hp : pc + 1 = pc') (hl : L[k.val]? = some (.val (.double v)))
    (hr : Steps tb e below (T.setTop (mkF m pc' L (.double v :: S))) target) : Steps tb e below (T.setTop (mkF m pc L S)) target := by
  subst hp; exact XS.dloadN h hx rfl hd hl hr
theorem own_s_dload (h : At T m c below) (hx : tb.exec = Jvm.exec) {k : Nat} {v : UInt64} (hd : decode c.code pc = .ok (.dload k, 2)) (hp : pc + 2 = pc') (hl : L[k]? = some (.val (.double v)))
    (hr : Steps tb e below (T.setTop (mkF m pc' L (.double v :: S))) target) : Steps tb e below (T.setTop (mkF m pc L S)) target := by
  subst hp; exact XS.dload h hx rfl hd hl hr
theorem own_s_dstoreN (h : At T m c below) (hx : tb.exec = Jvm.exec) {k : Fin 4} {v : UInt64} {L' : Array Slot} (hd : decode c.code pc = .ok (.dstore_n k, 1)) (hp : pc + 1 = pc') (hl : storeLocals L k.val (.double v) = some L')
    (hr : Steps tb e below (T.setTop (mkF m pc' L' S)) target) : Steps tb e below (T.setTop (mkF m pc L (.double v :: S))) target := by
  subst hp; exact XS.dstoreN h hx rfl hd rfl hl hr
theorem own_s_dstore (h : At T m c below) (hx : tb.exec = Jvm.exec) {k : Nat} {v : UInt64} {L' : Array Slot} (hd : decode c.code pc = .ok (.dstore k, 2)) (hp : pc + 2 = pc') (hl : storeLocals L k (.double v) = some L')
    (hr : Steps tb e below (T.setTop (mkF m pc' L' S)) target) : Steps tb e below (T.setTop (mkF m pc L (.double v :: S))) target := by
  subst hp; exact XS.dstore h hx rfl hd rfl hl hr
theorem own_s_aloadN (h : At T m c below) (hx : tb.exec = Jvm.exec) {k : Fin 4} {v : Value} (hd : decode c.code pc = .ok (.aload_n k, 1)) (hp : pc + 1 = pc') (hl : L[k.val]? = some (.val v)) (hr0 : v.isRef = true)
    (hr : Steps tb e below (T.setTop (mkF m pc' L (v :: S))) target) : Steps tb e below (T.setTop (mkF m pc L S)) target := by
  subst hp; exact XS.aloadN h hx rfl hd hl hr0 hr
theorem own_s_aload (h : At T m c below) (hx : tb.exec = Jvm.exec) {k : Nat} {v : Value} (hd : decode c.code pc = .ok (.aload k, 2)) (hp : pc + 2 = pc') (hl : L[k]? = some (.val v)) (hr0 : v.isRef = true)
    (hr : Steps tb e below (T.setTop (mkF m pc' L (v :: S))) target) : Steps tb e below (T.setTop (mkF m pc L S)) target := by
  subst hp; exact XS.aload h hx rfl hd hl hr0 hr
theorem own_s_astoreN (h : At T m c below) (hx : tb.exec = Jvm.exec) {k : Fin 4} {v : Value} {L' : Array Slot} (hd : decode c.code pc = .ok (.astore_n k, 1)) (hp : pc + 1 = pc') (hr0 : v.isRef = true) (hl : storeLocals L k.val v = some L')
    (hr : Steps tb e below (T.setTop (mkF m pc' L' S)) target) : Steps tb e below (T.setTop (mkF m pc L (v :: S))) target := by
  subst hp; exact XS.astoreN h hx rfl hd rfl hr0 hl hr
theorem own_s_astore (h : At T m c below) (hx : tb.exec = Jvm.exec) {k : Nat} {v : Value} {L' : Array Slot} (hd : decode c.code pc = .ok (.astore k, 2)) (hp : pc + 2 = pc') (hr0 : v.isRef = true) (hl : storeLocals L k v = some L')
    (hr : Steps tb e below (T.setTop (mkF m pc' L' S)) target) : Steps tb e below (T.setTop (mkF m pc L (v :: S))) target := by
  subst hp; exact XS.astore h hx rfl hd rfl hr0 hl hr
theorem own_s_iinc (h : At T m c below) (hx : tb.exec = Jvm.exec) {k : Nat} {cst : Int} {x v : Int32} {L' : Array Slot} (hd : decode c.code pc = .ok (.iinc k cst, 3)) (hp : pc + 3 = pc') (hl : L[k]? = some (.val (.int x))) (hv : x + Int32.ofInt cst = v) (hl' : storeLocals L k (.int v) = some L')
    (hr : Steps tb e below (T.setTop (mkF m pc' L' S)) target) : Steps tb e below (T.setTop (mkF m pc L S)) target := by
  subst hv hp; exact XS.iinc h hx rfl hd hl hl' hr
theorem own_s_goto (h : At T m c below) (hx : tb.exec = Jvm.exec)  {o : Int} (hd : decode c.code pc = .ok (.goto o, 3)) (ho : 0 ≤ (pc : Int) + o) (hp : ((pc : Int) + o).toNat = pc') 
    (hr : Steps tb e below (T.setTop (mkF m pc' L S)) target) : Steps tb e below (T.setTop (mkF m pc L S)) target := by
  exact XS.goto h hx rfl rfl hd ho hp hr
theorem own_s_ifYes (h : At T m c below) (hx : tb.exec = Jvm.exec) {cd : ClassFile.Cond} {x : Int32} {o : Int} (hd : decode c.code pc = .ok (.ifCond cd o, 3)) (ho : 0 ≤ (pc : Int) + o) (hp : ((pc : Int) + o).toNat = pc') (hc : ifCond.holds cd x = true)
    (hr : Steps tb e below (T.setTop (mkF m pc' L S)) target) : Steps tb e below (T.setTop (mkF m pc L (.int x :: S))) target := by
  exact XS.ifYes h hx rfl rfl hd rfl hc ho hp hr
theorem own_s_icmpYes (h : At T m c below) (hx : tb.exec = Jvm.exec) {cd : ClassFile.Cond} {x y : Int32} {o : Int} (hd : decode c.code pc = .ok (.if_icmp cd o, 3)) (ho : 0 ≤ (pc : Int) + o) (hp : ((pc : Int) + o).toNat = pc') (hc : if_icmp.holds cd x y = true)
    (hr : Steps tb e below (T.setTop (mkF m pc' L S)) target) : Steps tb e below (T.setTop (mkF m pc L (.int y :: .int x :: S))) target := by
  exact XS.icmpYes h hx rfl rfl hd rfl hc ho hp hr
theorem own_s_ifNo (h : At T m c below) (hx : tb.exec = Jvm.exec) {cd : ClassFile.Cond} {o : Int} {x : Int32} (hd : decode c.code pc = .ok (.ifCond cd o, 3)) (hp : pc + 3 = pc') (hc : ifCond.holds cd x = false)
    (hr : Steps tb e below (T.setTop (mkF m pc' L S)) target) : Steps tb e below (T.setTop (mkF m pc L (.int x :: S))) target := by
  subst hp; exact XS.ifNo h hx rfl hd rfl hc hr
theorem own_s_icmpNo (h : At T m c below) (hx : tb.exec = Jvm.exec) {cd : ClassFile.Cond} {o : Int} {x y : Int32} (hd : decode c.code pc = .ok (.if_icmp cd o, 3)) (hp : pc + 3 = pc') (hc : if_icmp.holds cd x y = false)
    (hr : Steps tb e below (T.setTop (mkF m pc' L S)) target) : Steps tb e below (T.setTop (mkF m pc L (.int y :: .int x :: S))) target := by
  subst hp; exact XS.icmpNo h hx rfl hd rfl hc hr
theorem own_s_ifnullYes (h : At T m c below) (hx : tb.exec = Jvm.exec)  {o : Int} (hd : decode c.code pc = .ok (.ifnull o, 3)) (ho : 0 ≤ (pc : Int) + o) (hp : ((pc : Int) + o).toNat = pc') 
    (hr : Steps tb e below (T.setTop (mkF m pc' L S)) target) : Steps tb e below (T.setTop (mkF m pc L (.null :: S))) target := by
  exact XS.ifnullYes h hx rfl rfl hd rfl ho hp hr
theorem own_s_ifnullNo (h : At T m c below) (hx : tb.exec = Jvm.exec) {o : Int} {b : Addr} (hd : decode c.code pc = .ok (.ifnull o, 3)) (hp : pc + 3 = pc') 
    (hr : Steps tb e below (T.setTop (mkF m pc' L S)) target) : Steps tb e below (T.setTop (mkF m pc L (.ref b :: S))) target := by
  subst hp; exact XS.ifnullNo h hx rfl hd rfl hr
theorem own_s_ifnonnullYes (h : At T m c below) (hx : tb.exec = Jvm.exec) {b : Addr} {o : Int} (hd : decode c.code pc = .ok (.ifnonnull o, 3)) (ho : 0 ≤ (pc : Int) + o) (hp : ((pc : Int) + o).toNat = pc') 
    (hr : Steps tb e below (T.setTop (mkF m pc' L S)) target) : Steps tb e below (T.setTop (mkF m pc L (.ref b :: S))) target := by
  exact XS.ifnonnullYes h hx rfl rfl hd rfl ho hp hr
theorem own_s_ifnonnullNo (h : At T m c below) (hx : tb.exec = Jvm.exec) {o : Int} (hd : decode c.code pc = .ok (.ifnonnull o, 3)) (hp : pc + 3 = pc') 
    (hr : Steps tb e below (T.setTop (mkF m pc' L S)) target) : Steps tb e below (T.setTop (mkF m pc L (.null :: S))) target := by
  subst hp; exact XS.ifnonnullNo h hx rfl hd rfl hr
end OwnStep
section OwnHeap
open Jvm Jvm.ClassFile Sem Op Lib Jvm.Free Jvm.Stand Jvm.LawKit Jvm.RoadKit
variable {p : Program} {l : Launch} {e : Env} {R : Room} {s : State} {m : MethodId} {args : Array Value} {below : List Frame} {meth : Method} {c : Code} {T : State} {locs : List Loc} {cells slots : Nat} {Z : State} {a0 : Array Value} {h : Heap} {pc pc' : Nat} {L : Array Slot} {S : List Value} {a : Addr} {k : ClassId} {z : Int32} {vs : List Value} {dv : Value}
theorem own_newD (X : Stand p l e R s m args below meth c T locs cells slots) (hx : p.tables.exec = Jvm.exec) (hZ : Z.Warmed39 s.vm) (w : (Jvm.Cond.arrayClass .double).before a0 Z = true) (eT : T.heap = h) (n : Nat) (hz : z.toNatClampNeg = n) (hz0 : ¬ z < 0) (hb : n * 8 ≤ 536870912) (hc : cells + 1 ≤ R.cells) (hl : slots + n ≤ R.slots) (hd : decode c.code pc = .ok (.newarray .double, 2)) (hp : pc + 2 = pc') :
    ∃ T' h' k b, Stand p l e R s m args below meth c T' locs (cells + 1) (slots + n) ∧ T'.heap = h' ∧ Ext h h' ∧ b = h.size ∧ Arv Z h' b k .double z (List.replicate n (.double 0)) (.double 0) ∧ ∀ target, Steps p.tables e below (T'.setTop (mkF m pc' L (.ref b :: S))) target → Steps p.tables e below (T.setTop (mkF m pc L (.int z :: S))) target := by
  subst hp
  obtain ⟨T', h', k, X', e', E, A, st⟩ := newP X hx hZ (aty := .double) w eT (g := mkF m pc L (.int z :: S)) rfl hd rfl hz0 (cap := n) (Nat.le_of_eq hz) hb hc hl
  exact ⟨T', h', k, h.size, X', e', E, rfl, (Arv.new A hz0).pad (pad_rep [] (.double 0) n), st⟩
theorem own_newJ (X : Stand p l e R s m args below meth c T locs cells slots) (hx : p.tables.exec = Jvm.exec) (hZ : Z.Warmed39 s.vm) (w : (Jvm.Cond.arrayClass .long).before a0 Z = true) (eT : T.heap = h) (n : Nat) (hz : z.toNatClampNeg = n) (hz0 : ¬ z < 0) (hb : n * 8 ≤ 536870912) (hc : cells + 1 ≤ R.cells) (hl : slots + n ≤ R.slots) (hd : decode c.code pc = .ok (.newarray .long, 2)) (hp : pc + 2 = pc') :
    ∃ T' h' k b, Stand p l e R s m args below meth c T' locs (cells + 1) (slots + n) ∧ T'.heap = h' ∧ Ext h h' ∧ b = h.size ∧ Arv Z h' b k .long z (List.replicate n (.long 0)) (.long 0) ∧ ∀ target, Steps p.tables e below (T'.setTop (mkF m pc' L (.ref b :: S))) target → Steps p.tables e below (T.setTop (mkF m pc L (.int z :: S))) target := by
  subst hp
  obtain ⟨T', h', k, X', e', E, A, st⟩ := newP X hx hZ (aty := .long) w eT (g := mkF m pc L (.int z :: S)) rfl hd rfl hz0 (cap := n) (Nat.le_of_eq hz) hb hc hl
  exact ⟨T', h', k, h.size, X', e', E, rfl, (Arv.new A hz0).pad (pad_rep [] (.long 0) n), st⟩
theorem own_stD (X : Stand p l e R s m args below meth c T locs cells slots) (hx : p.tables.exec = Jvm.exec) (hZ : Z.Warmed39 s.vm) (eT : T.heap = h) (V : Arv Z h a k .double z vs dv) {j : Int32} {x : UInt64} (hj : ¬ j < 0 ∧ j < z) (i : Nat) (hi : j.toNatClampNeg = i) (hl : i < vs.length) (hd : decode c.code pc = .ok (.dastore, 1)) (hp : pc + 1 = pc') :
    ∃ T' h', Stand p l e R s m args below meth c T' (locs ++ [⟨a, j.toNatClampNeg⟩]) cells slots ∧ T'.heap = h' ∧ Wr h h' a j.toNatClampNeg (.double x) ∧ Arv Z h' a k .double z (vs.set i (.double x)) dv ∧ ∀ target, Steps p.tables e below (T'.setTop (mkF m pc' L S)) target → Steps p.tables e below (T.setTop (mkF m pc L (.double x :: .int j :: .ref a :: S))) target := by
  subst hp
  obtain ⟨cl, A, q1, S1, q3, H, G⟩ := V
  obtain ⟨T', h', X', e', W, st⟩ := stD X hx hZ eT A (j := j) (x := x) (inb_of S1 hj) (g := mkF m pc L (.double x :: .int j :: .ref a :: S)) rfl rfl hd
  exact ⟨T', h', X', e', W, Arv.set A q1 S1 q3 H G rfl W i hi hl, st⟩
theorem own_ldD (X : Stand p l e R s m args below meth c T locs cells slots) (hx : p.tables.exec = Jvm.exec) (hZ : Z.Warmed39 s.vm) (eT : T.heap = h) (V : Arv Z h a k .double z vs dv) {j : Int32} {x : UInt64} (hj : ¬ j < 0 ∧ j < z) (hv : vs.getD j.toNatClampNeg dv = .double x) (hd : decode c.code pc = .ok (.daload, 1)) (hp : pc + 1 = pc') {target : State}
    (hr : Steps p.tables e below (T.setTop (mkF m pc' L (.double x :: S))) target) : Steps p.tables e below (T.setTop (mkF m pc L (.int j :: .ref a :: S))) target := by
  subst hp
  obtain ⟨cl, A, q1, S1, q3, H, G⟩ := V
  exact X.daload hx (j := j) (v := .double x) (by rw [eT]; exact A.1) (State.isArrayOf_alike hZ.alike A.2.1) A.2.2 (inb_of S1 hj) (H.at (inb_of S1 hj) hv) (g := mkF m pc L (.int j :: .ref a :: S)) rfl rfl hd target hr
theorem own_len {ty : FieldType} (X : Stand p l e R s m args below meth c T locs cells slots) (hx : p.tables.exec = Jvm.exec) (hZ : Z.Warmed39 s.vm) (eT : T.heap = h) (V : Arv Z h a k ty z vs dv) (hd : decode c.code pc = .ok (.arraylength, 1)) (hp : pc + 1 = pc') {target : State}
    (hr : Steps p.tables e below (T.setTop (mkF m pc' L (.int z :: S))) target) : Steps p.tables e below (T.setTop (mkF m pc L (.ref a :: S))) target := by
  subst hp
  obtain ⟨cl, A, q1, S1, q3, H, G⟩ := V
  refine X.arraylength hx (by rw [eT]; exact A.1) (State.isArrayOf_alike hZ.alike A.2.1) (g := mkF m pc L (.ref a :: S)) rfl rfl hd target ?_
  rw [len_of S1 q3]
  exact hr
theorem own_retI (X : Stand p l e R s m args below meth c T locs cells slots) (hx : p.tables.exec = Jvm.exec) {x : Int32} (hret : meth.sig.returnType = some .int) (hd : decode c.code pc = .ok (.ireturn, 1)) {fs : List Frame}
    (hl : ∀ (f : JFrame) (acts : List Action), f.method = m → f.locked = none → f.entered = [] → (doReturn e (T.setTop f) acts (some (.int x))).1 = T.setFrames fs) : Steps p.tables e below (T.setTop (mkF m pc L (.int x :: S))) (T.setFrames fs) := by
  have hm' : T.vm.method? m = some meth := X.method'
  have hn : narrow .int (.int x) = .int x := rfl
  show Steps p.tables e below (T.setTop { method := m, pc := pc, locals := L, stack := _ :: S, locked := none }) _
  jvm_step X.here [X.here.top, hx, hd, hm', hret, hn]
  first | (intro acts; rw [hl _ acts rfl rfl rfl]) | rw [hl _ _ rfl rfl rfl]
  exact Steps.refl _
theorem own_retD (X : Stand p l e R s m args below meth c T locs cells slots) (hx : p.tables.exec = Jvm.exec) {x : UInt64} (hret : meth.sig.returnType = some .double) (hd : decode c.code pc = .ok (.dreturn, 1)) {fs : List Frame}
    (hl : ∀ (f : JFrame) (acts : List Action), f.method = m → f.locked = none → f.entered = [] → (doReturn e (T.setTop f) acts (some (.double x))).1 = T.setFrames fs) : Steps p.tables e below (T.setTop (mkF m pc L (.double x :: S))) (T.setFrames fs) := by
  have hm' : T.vm.method? m = some meth := X.method'
  show Steps p.tables e below (T.setTop { method := m, pc := pc, locals := L, stack := _ :: S, locked := none }) _
  jvm_step X.here [X.here.top, hx, hd, hm', hret, narrow]
  first | (intro acts; rw [hl _ acts rfl rfl rfl]) | rw [hl _ _ rfl rfl rfl]
  exact Steps.refl _
theorem own_retJ (X : Stand p l e R s m args below meth c T locs cells slots) (hx : p.tables.exec = Jvm.exec) {x : Int64} (hret : meth.sig.returnType = some .long) (hd : decode c.code pc = .ok (.lreturn, 1)) {fs : List Frame}
    (hl : ∀ (f : JFrame) (acts : List Action), f.method = m → f.locked = none → f.entered = [] → (doReturn e (T.setTop f) acts (some (.long x))).1 = T.setFrames fs) : Steps p.tables e below (T.setTop (mkF m pc L (.long x :: S))) (T.setFrames fs) := by
  have hm' : T.vm.method? m = some meth := X.method'
  show Steps p.tables e below (T.setTop { method := m, pc := pc, locals := L, stack := _ :: S, locked := none }) _
  jvm_step X.here [X.here.top, hx, hd, hm', hret, narrow]
  first | (intro acts; rw [hl _ acts rfl rfl rfl]) | rw [hl _ _ rfl rfl rfl]
  exact Steps.refl _
theorem own_retR (X : Stand p l e R s m args below meth c T locs cells slots) (hx : p.tables.exec = Jvm.exec) {b : Addr} {t : FieldType} (hret : meth.sig.returnType = some t) (ht : t.isReference = true) (hd : decode c.code pc = .ok (.areturn, 1)) {fs : List Frame}
    (hl : ∀ (f : JFrame) (acts : List Action), f.method = m → f.locked = none → f.entered = [] → (doReturn e (T.setTop f) acts (some (.ref b))).1 = T.setFrames fs) : Steps p.tables e below (T.setTop (mkF m pc L (.ref b :: S))) (T.setFrames fs) := by
  have hm' : T.vm.method? m = some meth := X.method'
  show Steps p.tables e below (T.setTop { method := m, pc := pc, locals := L, stack := _ :: S, locked := none }) _
  jvm_step X.here [X.here.top, hx, hd, hm', hret, Value.isRef, ht]
  first | (intro acts; rw [hl _ acts rfl rfl rfl]) | rw [hl _ _ rfl rfl rfl]
  exact Steps.refl _
end OwnHeap
open Jvm Jvm.ClassFile Sem Op Lib Jvm.Free Jvm.Stand Jvm.LawKit Jvm.RoadKit Bundle Jvm.Pilot.@@N@@.Jvm.D
def own_Q0 (n0 : Nat) (v : Option Value) (h : Heap) (L : List Loc) : Prop := v = some (.int 1) ∧ Fr n0 L
def own_QP (r : Option Value) (h0 : Heap) (n0 : Nat) (v : Option Value) (h : Heap) (L : List Loc) : Prop := v = r ∧ Fr n0 L ∧ h = h0
theorem own_d2_0 : decode jdk_30_method_1_code 0 = .ok (.aload_n 0, 1) := by decide +kernel
theorem own_d2_1 : decode jdk_30_method_1_code 1 = .ok (.invokespecial 1, 3) := by decide +kernel
theorem own_d2_4 : decode jdk_30_method_1_code 4 = .ok (.return_, 1) := by decide +kernel
theorem own_pn_java_lang_Record : plainName "java/lang/Record" = true := by first | (simp [plainName, overriddenIn]; done) | decide +kernel
theorem own_ef_r (m : MethodId) (oa : Addr) : entryFrame m #[(.ref oa)] 1 = mkF m 0 #[.val (.ref oa)] [] := by first | (simp [entryFrame, mkF, argsToLocals, Value.category]; done) | rfl
set_option maxRecDepth 65536 in
set_option maxHeartbeats 40000000 in
theorem own_rm_r (l : Launch) (Z : State) (a0 : Array Value) (hw : ∀ d ∈ tables_1, d.before a0 Z = true) (ws : List Jvm.Cond) (oa : Addr)  (h0 : Heap) (n0 : Nat) (Z0 : n0 ≤ h0.size)   :
    MetFree l (⟨"java/lang/Record", "<init>", "()V"⟩ : MethodName) (head1 (Jvm.Cond.code (⟨"java/lang/Record", "<init>", "()V"⟩ : MethodName) jdk_30_method_1_code 1 none :: ws) ({ frames := 1, cells := 0, slots := 0, locals := 12 } : Room)) (fun a U => a = #[(.ref oa)] ∧ Z.Warmed39 U.vm ∧ U.heap = h0) (fun _ _ _ _ _ => True) (fun _ U o U' => ∃ v L, o = .returned v ∧ own_QP (none) h0 n0 v U'.heap L ∧ FrameEnd U o U' L ({ frames := 1, cells := 0, slots := 0, locals := 12 } : Room).cells ({ frames := 1, cells := 0, slots := 0, locals := 12 } : Room).slots) := by
  refine MetFree.of_bodySF (plainFor_of_name own_pn_java_lang_Record) hisR ?_
  intro p e s m args below meth c s₁ Bd hml0 hP hK
  obtain ⟨rfl, hZ, hh⟩ := hP
  have hx := Bd.exec
  have hby := Bd.bytes
  have hml : c.maxLocals = 1 := hml0
  have hown : s.vm.findClass "java/lang/Record" = some m.cls := findClass_of_methodNamed Bd.named
  have hnm := (name_of_methodNamed Bd.named Bd.method).1
  have X0 : Stand p l e ({ frames := 1, cells := 0, slots := 0, locals := 12 } : Room) s m #[(.ref oa)] below meth c s₁ [] 0 0 := Stand.of_body Bd
  have e0 : s₁.heap = h0 := by rw [← hh, Bd.state]; rfl
  have N0 := Fr.nil n0
  have pre0 : ∀ t, Steps p.tables e below (s₁.setTop (mkF m 0 #[.val (.ref oa)] [])) t → Steps p.tables e below (s₁.setTop (entryFrame m #[(.ref oa)] 1)) t := fun t k => castTop (own_ef_r m oa) k
  obtain ⟨Tr1, Xr1, er1, str1⟩ := initO X0 hx hZ hown (hw _ (List.mem_of_getElem? (i := 11) rfl)) (hw _ (List.mem_of_getElem? (i := 12) rfl)) (hw _ (List.mem_of_getElem? (i := 13) rfl)) e0 (g := (mkF m 1 #[.val (.ref oa)] [(.ref oa)])) rfl (by rw [hml]; rfl) rfl (hb hby own_d2_1) (by decide) (W := 0) (by show 2 * 0 + _ ≤ _; exact Nat.le_of_eq rfl) (by decide)
  obtain ⟨fs, hr, hrun, hended, hW, hsame⟩ := Xr1.leave (v := none) (fun _ => rfl)
  refine ⟨_, _, pre0 _ ?_, hrun, hended, _, _, rfl, ?_, ⟨_, rfl⟩, hW, hsame.mono (by decide) (by decide)⟩
  · refine own_s_aloadN X0.here hx (hb hby own_d2_0) (pc' := 1) rfl rfl rfl ?_
    refine str1 _ ?_
    show Steps p.tables e below (Tr1.setTop (mkF m 4 #[.val (.ref oa)] [])) _
    exact Xr1.returnOut hx Bd.returns (hb hby own_d2_4) hr
  · show own_QP (none) h0 n0 _ Tr1.heap _
    rw [er1]
    exact ⟨rfl, N0, rfl⟩
theorem own_d1_0 : decode prog_8_method_1_code 0 = .ok (.aload_n 0, 1) := by decide +kernel
theorem own_pd_2829V : parseMethodDescriptor "()V" = some ⟨[], none⟩ := by decide +kernel
theorem own_d1_1 : decode prog_8_method_1_code 1 = .ok (.invokespecial 1, 3) := by decide +kernel
theorem own_d1_4 : decode prog_8_method_1_code 4 = .ok (.aload_n 0, 1) := by decide +kernel
theorem own_d1_5 : decode prog_8_method_1_code 5 = .ok (.dload_n 1, 1) := by decide +kernel
theorem own_d1_6 : decode prog_8_method_1_code 6 = .ok (.putfield 7, 3) := by decide +kernel
theorem own_d1_9 : decode prog_8_method_1_code 9 = .ok (.aload_n 0, 1) := by decide +kernel
theorem own_d1_10 : decode prog_8_method_1_code 10 = .ok (.dload_n 3, 1) := by decide +kernel
theorem own_d1_11 : decode prog_8_method_1_code 11 = .ok (.putfield 13, 3) := by decide +kernel
theorem own_d1_14 : decode prog_8_method_1_code 14 = .ok (.return_, 1) := by decide +kernel
theorem own_pn_com_example_wayfinding_wayfinding_WalkingSpeeds : plainName "com/example/wayfinding/wayfinding/WalkingSpeeds" = true := by first | (simp [plainName, overriddenIn]; done) | decide +kernel
theorem own_ef_i (m : MethodId) (oa : Addr) (x : UInt64) (y : UInt64) : entryFrame m #[(.ref oa), (.double x), (.double y)] 5 = mkF m 0 #[.val (.ref oa), .val (.double x), .second, .val (.double y), .second] [] := by first | (simp [entryFrame, mkF, argsToLocals, Value.category]; done) | rfl
def own_Q_i (Z : State) (oa : Addr) (x : UInt64) (y : UInt64) (h0 : Heap) (n0 : Nat) (v : Option Value) (h : Heap) (L : List Loc) : Prop := v = none ∧ Fr n0 L ∧ Keep h0 h [oa] ∧ Exa Z h oa "com/example/wayfinding/wayfinding/WalkingSpeeds" ∧ Fld Z h oa "com/example/wayfinding/wayfinding/WalkingSpeeds" "meanMps" "D" (.double x) ∧ Fld Z h oa "com/example/wayfinding/wayfinding/WalkingSpeeds" "sdMps" "D" (.double y)
set_option maxRecDepth 65536 in
set_option maxHeartbeats 40000000 in
theorem own_rm_i (l : Launch) (Z : State) (a0 : Array Value) (hw : ∀ d ∈ tables_1, d.before a0 Z = true) (ws : List Jvm.Cond) (oa : Addr) (x : UInt64) (y : UInt64)  (h0 : Heap) (n0 : Nat) (Z0 : n0 ≤ h0.size) (E_oa : Exa Z h0 oa "com/example/wayfinding/wayfinding/WalkingSpeeds") (F_meanMps_oa : Fld Z h0 oa "com/example/wayfinding/wayfinding/WalkingSpeeds" "meanMps" "D" (.double 0)) (F_sdMps_oa : Fld Z h0 oa "com/example/wayfinding/wayfinding/WalkingSpeeds" "sdMps" "D" (.double 0)) (g_oa : n0 ≤ oa)  :
    MetFree l (⟨"com/example/wayfinding/wayfinding/WalkingSpeeds", "<init>", "(DD)V"⟩ : MethodName) (head1 (Jvm.Cond.code (⟨"com/example/wayfinding/wayfinding/WalkingSpeeds", "<init>", "(DD)V"⟩ : MethodName) prog_8_method_1_code 5 none :: ws) ({ frames := 2, cells := 0, slots := 0, locals := 24 } : Room)) (fun a U => a = #[(.ref oa), (.double x), (.double y)] ∧ Z.Warmed39 U.vm ∧ U.heap = h0) (fun _ _ _ _ _ => True) (fun _ U o U' => ∃ v L, o = .returned v ∧ own_Q_i Z oa x y h0 n0 v U'.heap L ∧ FrameEnd U o U' L ({ frames := 2, cells := 0, slots := 0, locals := 24 } : Room).cells ({ frames := 2, cells := 0, slots := 0, locals := 24 } : Room).slots) := by
  refine MetFree.of_bodySF (plainFor_of_name own_pn_com_example_wayfinding_wayfinding_WalkingSpeeds) hisR ?_
  intro p e s m args below meth c s₁ Bd hml0 hP hK
  obtain ⟨rfl, hZ, hh⟩ := hP
  have hx := Bd.exec
  have hby := Bd.bytes
  have hml : c.maxLocals = 5 := hml0
  have hown : s.vm.findClass "com/example/wayfinding/wayfinding/WalkingSpeeds" = some m.cls := findClass_of_methodNamed Bd.named
  have hnm := (name_of_methodNamed Bd.named Bd.method).1
  have X0 : Stand p l e ({ frames := 2, cells := 0, slots := 0, locals := 24 } : Room) s m #[(.ref oa), (.double x), (.double y)] below meth c s₁ [] 0 0 := Stand.of_body Bd
  have e0 : s₁.heap = h0 := by rw [← hh, Bd.state]; rfl
  have N0 := Fr.nil n0
  have pre0 : ∀ t, Steps p.tables e below (s₁.setTop (mkF m 0 #[.val (.ref oa), .val (.double x), .second, .val (.double y), .second] [])) t → Steps p.tables e below (s₁.setTop (entryFrame m #[(.ref oa), (.double x), (.double y)] 5)) t := fun t k => castTop (own_ef_i m oa x y) k
  obtain ⟨_, _, ⟨Ti1, Li1, ki1, ni1⟩, -, Xi1, ⟨Lci1, hQi1, li1, yi1, zi1⟩, sti1⟩ := X0.specialBack hx (y := (⟨"java/lang/Record", "<init>", "()V"⟩ : MethodName)) rfl hown (mvT hZ (hw _ (List.mem_of_getElem? (i := 6) rfl))) (mvT hZ (hw _ (List.mem_of_getElem? (i := 7) rfl))) (mvT hZ (hw _ (List.mem_of_getElem? (i := 10) rfl))) (by decide) (backOf (W := 0) (own_rm_r l Z a0 hw [] oa h0 n0 Z0 ) hZ (hw _ (List.mem_of_getElem? (i := 10) rfl)) (hw _ (List.mem_of_getElem? (i := 9) rfl)) (by decide) (by decide)) (g := (mkF m 1 #[.val (.ref oa), .val (.double x), .second, .val (.double y), .second] [(.ref oa)])) rfl (by rw [hml]; rfl) (Steps.refl _) (a := oa) (argsL := []) (rest := []) (lenOf own_pd_2829V rfl) rfl (by show 2 * 0 + _ ≤ _; exact Nat.le_of_eq rfl) (hb hby own_d1_1) (fun _ _ => ⟨rfl, e0, (by decide : 0 + 0 ≤ _), (by decide : 0 + 0 ≤ _)⟩)
  dsimp only [Pt.U, Pt.locs, Pt.cells, Pt.slots] at Xi1 li1 yi1 zi1 sti1 hQi1
  subst li1 yi1 zi1
  obtain ⟨rfl, Ni1q, ei1⟩ := hQi1
  have Ni1 := Fr.app N0 Ni1q
  obtain ⟨Ti2, hi2, Xi2, ei2, Wi2, sti2⟩ := putF Xi1 hx hZ hown (host := "") (Or.inl (hw _ (List.mem_of_getElem? (i := 14) rfl))) Via.refl ei1 F_meanMps_oa E_oa (Or.inr ⟨(hw _ (List.mem_of_getElem? (i := 15) rfl)), rfl, hnm⟩) (hw _ (List.mem_of_getElem? (i := 1) rfl)) (ty := .double) (by decide) rfl rfl (g := (mkF m 6 #[.val (.ref oa), .val (.double x), .second, .val (.double y), .second] [(.double x), (.ref oa)])) rfl rfl (hb hby own_d1_6)
  have E_oa_i2 := E_oa.wr Wi2
  have Zi2 : n0 ≤ hi2.size := Nat.le_trans Z0 (Nat.le_of_eq Wi2.size.symm)
  have KKi2 := (Keep.refl h0 [oa]).wr Wi2 (Or.inl (List.mem_of_getElem? (i := 0) rfl))
  have F_meanMps_oa_i2 := F_meanMps_oa.same Wi2
  have F_sdMps_oa_i2 := F_sdMps_oa.other Wi2 (Or.inr (slot_ne (Or.inr (hw _ (List.mem_of_getElem? (i := 17) rfl))) (Or.inr (hw _ (List.mem_of_getElem? (i := 15) rfl))) (by decide) (t := .double) (t' := .double) (by decide) (by decide)))
  have Ni2 := Fr.snoc Xi2 Ni1 g_oa
  obtain ⟨Ti3, hi3, Xi3, ei3, Wi3, sti3⟩ := putF Xi2 hx hZ hown (host := "") (Or.inl (hw _ (List.mem_of_getElem? (i := 16) rfl))) Via.refl ei2 F_sdMps_oa_i2 E_oa_i2 (Or.inr ⟨(hw _ (List.mem_of_getElem? (i := 17) rfl)), rfl, hnm⟩) (hw _ (List.mem_of_getElem? (i := 1) rfl)) (ty := .double) (by decide) rfl rfl (g := (mkF m 11 #[.val (.ref oa), .val (.double x), .second, .val (.double y), .second] [(.double y), (.ref oa)])) rfl rfl (hb hby own_d1_11)
  have E_oa_i3 := E_oa_i2.wr Wi3
  have Zi3 : n0 ≤ hi3.size := Nat.le_trans Zi2 (Nat.le_of_eq Wi3.size.symm)
  have KKi3 := KKi2.wr Wi3 (Or.inl (List.mem_of_getElem? (i := 0) rfl))
  have F_meanMps_oa_i3 := F_meanMps_oa_i2.other Wi3 (Or.inr (slot_ne (Or.inr (hw _ (List.mem_of_getElem? (i := 15) rfl))) (Or.inr (hw _ (List.mem_of_getElem? (i := 17) rfl))) (by decide) (t := .double) (t' := .double) (by decide) (by decide)))
  have F_sdMps_oa_i3 := F_sdMps_oa_i2.same Wi3
  have Ni3 := Fr.snoc Xi3 Ni2 g_oa
  obtain ⟨fs, hr, hrun, hended, hW, hsame⟩ := Xi3.leave (v := none) (fun _ => rfl)
  refine ⟨_, _, pre0 _ ?_, hrun, hended, _, _, rfl, ?_, ⟨_, rfl⟩, hW, hsame.mono (by decide) (by decide)⟩
  · refine own_s_aloadN X0.here hx (hb hby own_d1_0) (pc' := 1) rfl rfl rfl ?_
    refine sti1.trans ?_
    show Steps p.tables e below (Ti1.setTop (mkF m 4 #[.val (.ref oa), .val (.double x), .second, .val (.double y), .second] [])) _
    refine own_s_aloadN Xi1.here hx (hb hby own_d1_4) (pc' := 5) rfl rfl rfl ?_
    refine own_s_dloadN Xi1.here hx (hb hby own_d1_5) (pc' := 6) rfl rfl ?_
    refine sti2 _ ?_
    show Steps p.tables e below (Ti2.setTop (mkF m 9 #[.val (.ref oa), .val (.double x), .second, .val (.double y), .second] [])) _
    refine own_s_aloadN Xi2.here hx (hb hby own_d1_9) (pc' := 10) rfl rfl rfl ?_
    refine own_s_dloadN Xi2.here hx (hb hby own_d1_10) (pc' := 11) rfl rfl ?_
    refine sti3 _ ?_
    show Steps p.tables e below (Ti3.setTop (mkF m 14 #[.val (.ref oa), .val (.double x), .second, .val (.double y), .second] [])) _
    exact Xi3.returnOut hx Bd.returns (hb hby own_d1_14) hr
  · show own_Q_i Z oa x y h0 n0 _ Ti3.heap _
    rw [ei3]
    exact ⟨rfl, Ni3, KKi3, E_oa_i3, F_meanMps_oa_i3, F_sdMps_oa_i3⟩
theorem own_d4_0 : decode prog_8_method_2_code 0 = .ok (.aload_n 0, 1) := by decide +kernel
theorem own_d4_1 : decode prog_8_method_2_code 1 = .ok (.getfield 7, 3) := by decide +kernel
theorem own_d4_4 : decode prog_8_method_2_code 4 = .ok (.ldc2_w 16, 3) := by decide +kernel
theorem own_d4_7 : decode prog_8_method_2_code 7 = .ok (.aload_n 0, 1) := by decide +kernel
theorem own_d4_8 : decode prog_8_method_2_code 8 = .ok (.getfield 13, 3) := by decide +kernel
theorem own_d4_11 : decode prog_8_method_2_code 11 = .ok (.dmul, 1) := by decide +kernel
theorem own_d4_12 : decode prog_8_method_2_code 12 = .ok (.dsub, 1) := by decide +kernel
theorem own_d4_13 : decode prog_8_method_2_code 13 = .ok (.dreturn, 1) := by decide +kernel
theorem own_ef_s (m : MethodId) (oa : Addr) : entryFrame m #[(.ref oa)] 1 = mkF m 0 #[.val (.ref oa)] [] := by first | (simp [entryFrame, mkF, argsToLocals, Value.category]; done) | rfl
set_option maxRecDepth 65536 in
set_option maxHeartbeats 40000000 in
theorem own_rm_s (l : Launch) (Z : State) (a0 : Array Value) (hw : ∀ d ∈ tables_1, d.before a0 Z = true) (ws : List Jvm.Cond) (oa : Addr) (x : UInt64) (y : UInt64) {s_v11 : UInt64} {s_v12 : UInt64} (h0 : Heap) (n0 : Nat) (Z0 : n0 ≤ h0.size) (E_oa : Exa Z h0 oa "com/example/wayfinding/wayfinding/WalkingSpeeds") (F_meanMps_oa : Fld Z h0 oa "com/example/wayfinding/wayfinding/WalkingSpeeds" "meanMps" "D" (.double x)) (F_sdMps_oa : Fld Z h0 oa "com/example/wayfinding/wayfinding/WalkingSpeeds" "sdMps" "D" (.double y)) (s_hn11 : Jvm.Free.Fl.NoNaN64 (FP.dmul (4609434218613702656 : UInt64) y)) (s_hv11 : FP.dmul (4609434218613702656 : UInt64) y = s_v11) (s_hn12 : Jvm.Free.Fl.NoNaN64 (FP.dsub x s_v11)) (s_hv12 : FP.dsub x s_v11 = s_v12) :
    MetFree l (⟨"com/example/wayfinding/wayfinding/WalkingSpeeds", "slowestMps", "()D"⟩ : MethodName) (head1 (Jvm.Cond.code (⟨"com/example/wayfinding/wayfinding/WalkingSpeeds", "slowestMps", "()D"⟩ : MethodName) prog_8_method_2_code 1 (some .double) :: ws) ({ frames := 0, cells := 0, slots := 0, locals := 0 } : Room)) (fun a U => a = #[(.ref oa)] ∧ Z.Warmed39 U.vm ∧ U.heap = h0) (fun _ _ _ _ _ => True) (fun _ U o U' => ∃ v L, o = .returned v ∧ own_QP (some (.double s_v12)) h0 n0 v U'.heap L ∧ FrameEnd U o U' L ({ frames := 0, cells := 0, slots := 0, locals := 0 } : Room).cells ({ frames := 0, cells := 0, slots := 0, locals := 0 } : Room).slots) := by
  refine MetFree.of_bodySF (plainFor_of_name own_pn_com_example_wayfinding_wayfinding_WalkingSpeeds) hisR ?_
  intro p e s m args below meth c s₁ Bd hml0 hP hK
  obtain ⟨rfl, hZ, hh⟩ := hP
  have hx := Bd.exec
  have hby := Bd.bytes
  have hml : c.maxLocals = 1 := hml0
  have hown : s.vm.findClass "com/example/wayfinding/wayfinding/WalkingSpeeds" = some m.cls := findClass_of_methodNamed Bd.named
  have hnm := (name_of_methodNamed Bd.named Bd.method).1
  have X0 : Stand p l e ({ frames := 0, cells := 0, slots := 0, locals := 0 } : Room) s m #[(.ref oa)] below meth c s₁ [] 0 0 := Stand.of_body Bd
  have e0 : s₁.heap = h0 := by rw [← hh, Bd.state]; rfl
  have N0 := Fr.nil n0
  have pre0 : ∀ t, Steps p.tables e below (s₁.setTop (mkF m 0 #[.val (.ref oa)] [])) t → Steps p.tables e below (s₁.setTop (entryFrame m #[(.ref oa)] 1)) t := fun t k => castTop (own_ef_s m oa) k
  obtain ⟨Ts1, Xs1, es1, sts1⟩ := getF X0 hx hZ hown (host := "") (Or.inl (hw _ (List.mem_of_getElem? (i := 14) rfl))) Via.refl e0 F_meanMps_oa (g := (mkF m 1 #[.val (.ref oa)] [(.ref oa)])) rfl rfl (hb hby own_d4_1)
  obtain ⟨Ts2, Xs2, es2, sts2⟩ := getF Xs1 hx hZ hown (host := "") (Or.inl (hw _ (List.mem_of_getElem? (i := 16) rfl))) Via.refl es1 F_sdMps_oa (g := (mkF m 8 #[.val (.ref oa)] [(.ref oa), (.double (4609434218613702656 : UInt64)), (.double x)])) rfl rfl (hb hby own_d4_8)
  obtain ⟨fs, hr, hrun, hended, hW, hsame⟩ := Xs2.leave (v := some (.double s_v12)) (fun h => by rw [Bd.returns] at h; cases h)
  refine ⟨_, _, pre0 _ ?_, hrun, hended, _, _, rfl, ?_, ⟨_, rfl⟩, hW, hsame.mono (by decide) (by decide)⟩
  · refine own_s_aloadN X0.here hx (hb hby own_d4_0) (pc' := 1) rfl rfl rfl ?_
    refine sts1 _ ?_
    show Steps p.tables e below (Ts1.setTop (mkF m 4 #[.val (.ref oa)] [(.double x)])) _
    refine Xs1.ldc2DoubleC hx hown (mvT hZ (hw _ (List.mem_of_getElem? (i := 23) rfl))) (g := (mkF m 4 #[.val (.ref oa)] [(.double x)])) rfl (hb hby own_d4_4) _ ?_
    show Steps p.tables e below (Ts1.setTop (mkF m 7 #[.val (.ref oa)] [(.double (4609434218613702656 : UInt64)), (.double x)])) _
    refine own_s_aloadN Xs1.here hx (hb hby own_d4_7) (pc' := 8) rfl rfl rfl ?_
    refine sts2 _ ?_
    show Steps p.tables e below (Ts2.setTop (mkF m 11 #[.val (.ref oa)] [(.double y), (.double (4609434218613702656 : UInt64)), (.double x)])) _
    refine own_s_dmul Xs2.here hx (hb hby own_d4_11) (pc' := 12) rfl s_hn11 (v := s_v11) s_hv11 ?_
    refine own_s_dsub Xs2.here hx (hb hby own_d4_12) (pc' := 13) rfl s_hn12 (v := s_v12) s_hv12 ?_
    exact own_retD Xs2 hx Bd.returns (hb hby own_d4_13) hr
  · show own_QP (some (.double s_v12)) h0 n0 _ Ts2.heap _
    rw [es2]
    exact ⟨rfl, N0, rfl⟩
theorem own_d5_0 : decode prog_8_method_3_code 0 = .ok (.aload_n 0, 1) := by decide +kernel
theorem own_d5_1 : decode prog_8_method_3_code 1 = .ok (.getfield 7, 3) := by decide +kernel
theorem own_d5_4 : decode prog_8_method_3_code 4 = .ok (.ldc2_w 16, 3) := by decide +kernel
theorem own_d5_7 : decode prog_8_method_3_code 7 = .ok (.aload_n 0, 1) := by decide +kernel
theorem own_d5_8 : decode prog_8_method_3_code 8 = .ok (.getfield 13, 3) := by decide +kernel
theorem own_d5_11 : decode prog_8_method_3_code 11 = .ok (.dmul, 1) := by decide +kernel
theorem own_d5_12 : decode prog_8_method_3_code 12 = .ok (.dadd, 1) := by decide +kernel
theorem own_d5_13 : decode prog_8_method_3_code 13 = .ok (.dreturn, 1) := by decide +kernel
theorem own_ef_f (m : MethodId) (oa : Addr) : entryFrame m #[(.ref oa)] 1 = mkF m 0 #[.val (.ref oa)] [] := by first | (simp [entryFrame, mkF, argsToLocals, Value.category]; done) | rfl
set_option maxRecDepth 65536 in
set_option maxHeartbeats 40000000 in
theorem own_rm_f (l : Launch) (Z : State) (a0 : Array Value) (hw : ∀ d ∈ tables_1, d.before a0 Z = true) (ws : List Jvm.Cond) (oa : Addr) (x : UInt64) (y : UInt64) {f_v11 : UInt64} {f_v12 : UInt64} (h0 : Heap) (n0 : Nat) (Z0 : n0 ≤ h0.size) (E_oa : Exa Z h0 oa "com/example/wayfinding/wayfinding/WalkingSpeeds") (F_meanMps_oa : Fld Z h0 oa "com/example/wayfinding/wayfinding/WalkingSpeeds" "meanMps" "D" (.double x)) (F_sdMps_oa : Fld Z h0 oa "com/example/wayfinding/wayfinding/WalkingSpeeds" "sdMps" "D" (.double y)) (f_hn11 : Jvm.Free.Fl.NoNaN64 (FP.dmul (4609434218613702656 : UInt64) y)) (f_hv11 : FP.dmul (4609434218613702656 : UInt64) y = f_v11) (f_hn12 : Jvm.Free.Fl.NoNaN64 (FP.dadd x f_v11)) (f_hv12 : FP.dadd x f_v11 = f_v12) :
    MetFree l (⟨"com/example/wayfinding/wayfinding/WalkingSpeeds", "fastestMps", "()D"⟩ : MethodName) (head1 (Jvm.Cond.code (⟨"com/example/wayfinding/wayfinding/WalkingSpeeds", "fastestMps", "()D"⟩ : MethodName) prog_8_method_3_code 1 (some .double) :: ws) ({ frames := 0, cells := 0, slots := 0, locals := 0 } : Room)) (fun a U => a = #[(.ref oa)] ∧ Z.Warmed39 U.vm ∧ U.heap = h0) (fun _ _ _ _ _ => True) (fun _ U o U' => ∃ v L, o = .returned v ∧ own_QP (some (.double f_v12)) h0 n0 v U'.heap L ∧ FrameEnd U o U' L ({ frames := 0, cells := 0, slots := 0, locals := 0 } : Room).cells ({ frames := 0, cells := 0, slots := 0, locals := 0 } : Room).slots) := by
  refine MetFree.of_bodySF (plainFor_of_name own_pn_com_example_wayfinding_wayfinding_WalkingSpeeds) hisR ?_
  intro p e s m args below meth c s₁ Bd hml0 hP hK
  obtain ⟨rfl, hZ, hh⟩ := hP
  have hx := Bd.exec
  have hby := Bd.bytes
  have hml : c.maxLocals = 1 := hml0
  have hown : s.vm.findClass "com/example/wayfinding/wayfinding/WalkingSpeeds" = some m.cls := findClass_of_methodNamed Bd.named
  have hnm := (name_of_methodNamed Bd.named Bd.method).1
  have X0 : Stand p l e ({ frames := 0, cells := 0, slots := 0, locals := 0 } : Room) s m #[(.ref oa)] below meth c s₁ [] 0 0 := Stand.of_body Bd
  have e0 : s₁.heap = h0 := by rw [← hh, Bd.state]; rfl
  have N0 := Fr.nil n0
  have pre0 : ∀ t, Steps p.tables e below (s₁.setTop (mkF m 0 #[.val (.ref oa)] [])) t → Steps p.tables e below (s₁.setTop (entryFrame m #[(.ref oa)] 1)) t := fun t k => castTop (own_ef_f m oa) k
  obtain ⟨Tf1, Xf1, ef1, stf1⟩ := getF X0 hx hZ hown (host := "") (Or.inl (hw _ (List.mem_of_getElem? (i := 14) rfl))) Via.refl e0 F_meanMps_oa (g := (mkF m 1 #[.val (.ref oa)] [(.ref oa)])) rfl rfl (hb hby own_d5_1)
  obtain ⟨Tf2, Xf2, ef2, stf2⟩ := getF Xf1 hx hZ hown (host := "") (Or.inl (hw _ (List.mem_of_getElem? (i := 16) rfl))) Via.refl ef1 F_sdMps_oa (g := (mkF m 8 #[.val (.ref oa)] [(.ref oa), (.double (4609434218613702656 : UInt64)), (.double x)])) rfl rfl (hb hby own_d5_8)
  obtain ⟨fs, hr, hrun, hended, hW, hsame⟩ := Xf2.leave (v := some (.double f_v12)) (fun h => by rw [Bd.returns] at h; cases h)
  refine ⟨_, _, pre0 _ ?_, hrun, hended, _, _, rfl, ?_, ⟨_, rfl⟩, hW, hsame.mono (by decide) (by decide)⟩
  · refine own_s_aloadN X0.here hx (hb hby own_d5_0) (pc' := 1) rfl rfl rfl ?_
    refine stf1 _ ?_
    show Steps p.tables e below (Tf1.setTop (mkF m 4 #[.val (.ref oa)] [(.double x)])) _
    refine Xf1.ldc2DoubleC hx hown (mvT hZ (hw _ (List.mem_of_getElem? (i := 23) rfl))) (g := (mkF m 4 #[.val (.ref oa)] [(.double x)])) rfl (hb hby own_d5_4) _ ?_
    show Steps p.tables e below (Tf1.setTop (mkF m 7 #[.val (.ref oa)] [(.double (4609434218613702656 : UInt64)), (.double x)])) _
    refine own_s_aloadN Xf1.here hx (hb hby own_d5_7) (pc' := 8) rfl rfl rfl ?_
    refine stf2 _ ?_
    show Steps p.tables e below (Tf2.setTop (mkF m 11 #[.val (.ref oa)] [(.double y), (.double (4609434218613702656 : UInt64)), (.double x)])) _
    refine own_s_dmul Xf2.here hx (hb hby own_d5_11) (pc' := 12) rfl f_hn11 (v := f_v11) f_hv11 ?_
    refine own_s_dadd Xf2.here hx (hb hby own_d5_12) (pc' := 13) rfl f_hn12 (v := f_v12) f_hv12 ?_
    exact own_retD Xf2 hx Bd.returns (hb hby own_d5_13) hr
  · show own_QP (some (.double f_v12)) h0 n0 _ Tf2.heap _
    rw [ef2]
    exact ⟨rfl, N0, rfl⟩
theorem own_pd_28DD29V : parseMethodDescriptor "(DD)V" = some ⟨[.double, .double], none⟩ := by decide +kernel
theorem own_pd_2829D : parseMethodDescriptor "()D" = some ⟨[], some .double⟩ := by decide +kernel
theorem own_pn_com_example_wayfinding_wayfinding_WalkingSpeedsSlowestMpsPinLaw : plainName "com/example/wayfinding/wayfinding/WalkingSpeedsSlowestMpsPinLaw" = true := by first | (simp [plainName, overriddenIn]; done) | decide +kernel
theorem own_ef_w (m : MethodId) (p0 : Int32) (p1 : Int32) : entryFrame m #[(.int p0), (.int p1)] maxLocals = mkF m 0 #[.val (.int p0), .val (.int p1), .unset, .unset, .unset, .unset, .unset, .unset, .unset, .unset, .unset] [] := by first | (simp [entryFrame, mkF, argsToLocals, Value.category, maxLocals]; done) | rfl
set_option maxRecDepth 65536 in
set_option maxHeartbeats 40000000 in
theorem own_rm_w (l : Launch) (Z : State) (a0 : Array Value) (hw : ∀ d ∈ tables_1, d.before a0 Z = true) (ws : List Jvm.Cond) (p0 : Int32) (p1 : Int32) {w_c13_s_v11 : UInt64} {w_c13_s_v12 : UInt64} {w_c18_f_v11 : UInt64} {w_c18_f_v12 : UInt64} {w_v27 : Int64} {w_v28 : Int64} {w_v33 : Int64} {w_v34 : Int64} {w_v35 : Int64} {w_v42 : UInt64} {w_v60 : UInt64} {w_v66 : UInt64} (h0 : Heap) (n0 : Nat) (Z0 : n0 ≤ h0.size)  (w_c13_s_hn11 : Jvm.Free.Fl.NoNaN64 (FP.dmul (4609434218613702656 : UInt64) (FP.i2d p1))) (w_c13_s_hv11 : FP.dmul (4609434218613702656 : UInt64) (FP.i2d p1) = w_c13_s_v11) (w_c13_s_hn12 : Jvm.Free.Fl.NoNaN64 (FP.dsub (FP.i2d p0) w_c13_s_v11)) (w_c13_s_hv12 : FP.dsub (FP.i2d p0) w_c13_s_v11 = w_c13_s_v12) (w_c18_f_hn11 : Jvm.Free.Fl.NoNaN64 (FP.dmul (4609434218613702656 : UInt64) (FP.i2d p1))) (w_c18_f_hv11 : FP.dmul (4609434218613702656 : UInt64) (FP.i2d p1) = w_c18_f_v11) (w_c18_f_hn12 : Jvm.Free.Fl.NoNaN64 (FP.dadd (FP.i2d p0) w_c18_f_v11)) (w_c18_f_hv12 : FP.dadd (FP.i2d p0) w_c18_f_v11 = w_c18_f_v12) (w_hv27 : Int32.toInt64 p0 = w_v27) (w_hv28 : (2 : Int64) * w_v27 = w_v28) (w_hv33 : Int32.toInt64 p1 = w_v33) (w_hv34 : (3 : Int64) * w_v33 = w_v34) (w_hv35 : w_v28 - w_v34 = w_v35) (w_hn42 : Jvm.Free.Fl.NoNaN64 (FP.dmul w_c13_s_v12 (4611686018427387904 : UInt64))) (w_hv42 : FP.dmul w_c13_s_v12 (4611686018427387904 : UInt64) = w_v42) (w_hc46 : Op.cmpValue (FP.dcmp w_v42 (FP.l2d w_v35)) .l = (0 : Int32)) (w_hn60 : Jvm.Free.Fl.NoNaN64 (FP.dadd w_c13_s_v12 w_c18_f_v12)) (w_hv60 : FP.dadd w_c13_s_v12 w_c18_f_v12 = w_v60) (w_hn66 : Jvm.Free.Fl.NoNaN64 (FP.dmul (4611686018427387904 : UInt64) (FP.i2d p0))) (w_hv66 : FP.dmul (4611686018427387904 : UInt64) (FP.i2d p0) = w_v66) (w_hc67 : Op.cmpValue (FP.dcmp w_v60 w_v66) .l = (0 : Int32)) :
    MetFree l x (head1 (Jvm.Cond.code x code maxLocals ret :: ws) room_1) (fun a U => a = #[(.int p0), (.int p1)] ∧ Z.Warmed39 U.vm ∧ U.heap = h0) (fun _ _ _ _ _ => True) (fun _ U o U' => ∃ v L, o = .returned v ∧ own_Q0 n0 v U'.heap L ∧ FrameEnd U o U' L room_1.cells room_1.slots) := by
  refine MetFree.of_bodySF (plainFor_of_name own_pn_com_example_wayfinding_wayfinding_WalkingSpeedsSlowestMpsPinLaw) hisR ?_
  intro p e s m args below meth c s₁ Bd hml0 hP hK
  obtain ⟨rfl, hZ, hh⟩ := hP
  have hx := Bd.exec
  have hby := Bd.bytes
  have hml : c.maxLocals = 11 := hml0
  have hown : s.vm.findClass "com/example/wayfinding/wayfinding/WalkingSpeedsSlowestMpsPinLaw" = some m.cls := findClass_of_methodNamed Bd.named
  have hnm := (name_of_methodNamed Bd.named Bd.method).1
  have X0 : Stand p l e room_1 s m #[(.int p0), (.int p1)] below meth c s₁ [] 0 0 := Stand.of_body Bd
  have e0 : s₁.heap = h0 := by rw [← hh, Bd.state]; rfl
  have N0 := Fr.nil n0
  have pre0 : ∀ t, Steps p.tables e below (s₁.setTop (mkF m 0 #[.val (.int p0), .val (.int p1), .unset, .unset, .unset, .unset, .unset, .unset, .unset, .unset, .unset] [])) t → Steps p.tables e below (s₁.setTop (entryFrame m #[(.int p0), (.int p1)] maxLocals)) t := fun t k => castTop (own_ef_w m p0 p1) k
  obtain ⟨Tw1, hw1, Xw1, ew1, Ew1, Aw1, Dw1, -, stw1⟩ := newO X0 hx hZ hown (hw _ (List.mem_of_getElem? (i := 0) rfl)) (hw _ (List.mem_of_getElem? (i := 1) rfl)) (hw _ (List.mem_of_getElem? (i := 2) rfl)) e0 (g := (mkF m 0 #[.val (.int p0), .val (.int p1), .unset, .unset, .unset, .unset, .unset, .unset, .unset, .unset, .unset] [])) rfl (hb hby at_0) (by decide) (by decide)
  obtain ⟨bw1, Gw1⟩ : ∃ z, z = h0.size := ⟨_, rfl⟩
  rw [← Gw1] at Aw1 Dw1 stw1
  have g_bw1 : n0 ≤ bw1 := Nat.le_trans Z0 (Nat.le_of_eq Gw1.symm)
  have sz_bw1 : h0.size ≤ bw1 := Nat.le_trans (Keep.refl h0 []).1 (Nat.le_of_eq Gw1.symm)
  have Zw1 : n0 ≤ hw1.size := Nat.le_trans Z0 Ew1.1
  have KKw1 := (Keep.refl h0 []).ext Ew1
  have F_meanMps_bw1 : Fld Z hw1 bw1 "com/example/wayfinding/wayfinding/WalkingSpeeds" "meanMps" "D" (.double 0) := Dw1 (Or.inr (hw _ (List.mem_of_getElem? (i := 15) rfl))) (ty := .double) (by decide)
  have F_sdMps_bw1 : Fld Z hw1 bw1 "com/example/wayfinding/wayfinding/WalkingSpeeds" "sdMps" "D" (.double 0) := Dw1 (Or.inr (hw _ (List.mem_of_getElem? (i := 17) rfl))) (ty := .double) (by decide)
  obtain ⟨_, _, ⟨Tw2, Lw2, kw2, nw2⟩, -, Xw2, ⟨Lcw2, hQw2, lw2, yw2, zw2⟩, stw2⟩ := Xw1.specialBack hx (y := (⟨"com/example/wayfinding/wayfinding/WalkingSpeeds", "<init>", "(DD)V"⟩ : MethodName)) rfl hown (mvT hZ (hw _ (List.mem_of_getElem? (i := 3) rfl))) (mvT hZ (hw _ (List.mem_of_getElem? (i := 4) rfl))) (mvT hZ (hw _ (List.mem_of_getElem? (i := 5) rfl))) (by decide) (backOf (W := 1) (own_rm_i l Z a0 hw [] bw1 (FP.i2d p0) (FP.i2d p1) hw1 n0 Zw1 Aw1 F_meanMps_bw1 F_sdMps_bw1 g_bw1) hZ (hw _ (List.mem_of_getElem? (i := 5) rfl)) (hw _ (List.mem_of_getElem? (i := 2) rfl)) (by decide) (by decide)) (g := (mkF m 8 #[.val (.int p0), .val (.int p1), .unset, .unset, .unset, .unset, .unset, .unset, .unset, .unset, .unset] [(.double (FP.i2d p1)), (.double (FP.i2d p0)), (.ref bw1), (.ref bw1)])) rfl (by rw [hml]; rfl) (Steps.refl _) (a := bw1) (argsL := [(.double (FP.i2d p0)), (.double (FP.i2d p1))]) (rest := [(.ref bw1)]) (lenOf own_pd_28DD29V rfl) rfl (by show 2 * 0 + _ ≤ _; exact Nat.le_of_eq rfl) (hb hby at_8) (fun _ _ => ⟨rfl, ew1, (by decide : 1 + 0 ≤ _), (by decide : 2 + 0 ≤ _)⟩)
  dsimp only [Pt.U, Pt.locs, Pt.cells, Pt.slots] at Xw2 lw2 yw2 zw2 stw2 hQw2
  subst lw2 yw2 zw2
  obtain ⟨rfl, Nw2q, Kw2, qw2_0, qw2_1, qw2_2⟩ := hQw2
  have Zw2 : n0 ≤ Tw2.heap.size := Nat.le_trans Zw1 Kw2.1
  have KKw2 := KKw1.trans Kw2 (fun q hq => by simp only [List.mem_cons, List.not_mem_nil, or_false] at hq; rcases hq with rfl; exact Or.inr sz_bw1)
  have Nw2 := Fr.app N0 Nw2q
  obtain ⟨cqw3, kqw3, qw3a, qw3b, qw3c⟩ := isOf hZ rfl qw2_0
  obtain ⟨_, _, ⟨Tw3, Lw3, kw3, nw3⟩, -, Xw3, ⟨Lcw3, hQw3, lw3, yw3, zw3⟩, stw3⟩ := Xw2.virtualBack hx (y := (⟨"com/example/wayfinding/wayfinding/WalkingSpeeds", "slowestMps", "()D"⟩ : MethodName)) (z := (⟨"com/example/wayfinding/wayfinding/WalkingSpeeds", "slowestMps", "()D"⟩ : MethodName)) hown (mvT hZ (hw _ (List.mem_of_getElem? (i := 18) rfl))) (mvT hZ (hw _ (List.mem_of_getElem? (i := 19) rfl))) (notFace_of_selects (args := #[]) (mvT hZ (hw _ (List.mem_of_getElem? (i := 21) rfl)))) (mvT hZ (hw _ (List.mem_of_getElem? (i := 21) rfl))) (mvT hZ (hw _ (List.mem_of_getElem? (i := 20) rfl))) (by decide) (backOf (W := 0) (own_rm_s l Z a0 hw [] bw1 (FP.i2d p0) (FP.i2d p1) Tw2.heap n0 Zw2 qw2_0 qw2_1 qw2_2 w_c13_s_hn11 w_c13_s_hv11 w_c13_s_hn12 w_c13_s_hv12) hZ (hw _ (List.mem_of_getElem? (i := 22) rfl)) (hw _ (List.mem_of_getElem? (i := 2) rfl)) (by decide) (by decide)) qw3a qw3c (g := (mkF m 13 #[.val (.int p0), .val (.int p1), .val (.ref bw1), .unset, .unset, .unset, .unset, .unset, .unset, .unset, .unset] [(.ref bw1)])) rfl (by rw [hml]; rfl) (Steps.refl _) (argsL := []) (rest := []) (lenOf own_pd_2829D rfl) rfl (by show 2 * 0 + _ ≤ _; exact Nat.le_of_eq rfl) (hb hby at_13) (fun _ _ => ⟨rfl, rfl, (by decide : 1 + 0 ≤ _), (by decide : 2 + 0 ≤ _)⟩)
  dsimp only [Pt.U, Pt.locs, Pt.cells, Pt.slots] at Xw3 lw3 yw3 zw3 stw3 hQw3
  subst lw3 yw3 zw3
  obtain ⟨rfl, Nw3q, ew3⟩ := hQw3
  have Nw3 := Fr.app Nw2 Nw3q
  obtain ⟨cqw4, kqw4, qw4a, qw4b, qw4c⟩ := isOf hZ ew3 qw2_0
  obtain ⟨_, _, ⟨Tw4, Lw4, kw4, nw4⟩, -, Xw4, ⟨Lcw4, hQw4, lw4, yw4, zw4⟩, stw4⟩ := Xw3.virtualBack hx (y := (⟨"com/example/wayfinding/wayfinding/WalkingSpeeds", "fastestMps", "()D"⟩ : MethodName)) (z := (⟨"com/example/wayfinding/wayfinding/WalkingSpeeds", "fastestMps", "()D"⟩ : MethodName)) hown (mvT hZ (hw _ (List.mem_of_getElem? (i := 24) rfl))) (mvT hZ (hw _ (List.mem_of_getElem? (i := 25) rfl))) (notFace_of_selects (args := #[]) (mvT hZ (hw _ (List.mem_of_getElem? (i := 27) rfl)))) (mvT hZ (hw _ (List.mem_of_getElem? (i := 27) rfl))) (mvT hZ (hw _ (List.mem_of_getElem? (i := 26) rfl))) (by decide) (backOf (W := 0) (own_rm_f l Z a0 hw [] bw1 (FP.i2d p0) (FP.i2d p1) Tw2.heap n0 Zw2 qw2_0 qw2_1 qw2_2 w_c18_f_hn11 w_c18_f_hv11 w_c18_f_hn12 w_c18_f_hv12) hZ (hw _ (List.mem_of_getElem? (i := 28) rfl)) (hw _ (List.mem_of_getElem? (i := 2) rfl)) (by decide) (by decide)) qw4a qw4c (g := (mkF m 18 #[.val (.int p0), .val (.int p1), .val (.ref bw1), .val (.double w_c13_s_v12), .second, .unset, .unset, .unset, .unset, .unset, .unset] [(.ref bw1)])) rfl (by rw [hml]; rfl) (Steps.refl _) (argsL := []) (rest := []) (lenOf own_pd_2829D rfl) rfl (by show 2 * 0 + _ ≤ _; exact Nat.le_of_eq rfl) (hb hby at_18) (fun _ _ => ⟨rfl, ew3, (by decide : 1 + 0 ≤ _), (by decide : 2 + 0 ≤ _)⟩)
  dsimp only [Pt.U, Pt.locs, Pt.cells, Pt.slots] at Xw4 lw4 yw4 zw4 stw4 hQw4
  subst lw4 yw4 zw4
  obtain ⟨rfl, Nw4q, ew4⟩ := hQw4
  have Nw4 := Fr.app Nw3 Nw4q
  obtain ⟨fs, hr, hrun, hended, hW, hsame⟩ := Xw4.leave (v := some (.int (1 : Int32))) (fun h => by rw [Bd.returns] at h; cases h)
  refine ⟨_, _, pre0 _ ?_, hrun, hended, _, _, rfl, ?_, ⟨_, rfl⟩, hW, hsame.mono (by decide) (by decide)⟩
  · refine stw1 _ ?_
    show Steps p.tables e below (Tw1.setTop (mkF m 3 #[.val (.int p0), .val (.int p1), .unset, .unset, .unset, .unset, .unset, .unset, .unset, .unset, .unset] [(.ref bw1)])) _
    refine own_s_dup Xw1.here hx (hb hby at_3) (pc' := 4) rfl rfl ?_
    refine own_s_iloadN Xw1.here hx (hb hby at_4) (pc' := 5) rfl rfl ?_
    refine own_s_i2d Xw1.here hx (hb hby at_5) (pc' := 6) rfl (v := (FP.i2d p0)) rfl ?_
    refine own_s_iloadN Xw1.here hx (hb hby at_6) (pc' := 7) rfl rfl ?_
    refine own_s_i2d Xw1.here hx (hb hby at_7) (pc' := 8) rfl (v := (FP.i2d p1)) rfl ?_
    refine stw2.trans ?_
    show Steps p.tables e below (Tw2.setTop (mkF m 11 #[.val (.int p0), .val (.int p1), .unset, .unset, .unset, .unset, .unset, .unset, .unset, .unset, .unset] [(.ref bw1)])) _
    refine own_s_astoreN Xw2.here hx (hb hby at_11) (pc' := 12) rfl rfl (L' := #[.val (.int p0), .val (.int p1), .val (.ref bw1), .unset, .unset, .unset, .unset, .unset, .unset, .unset, .unset]) rfl ?_
    refine own_s_aloadN Xw2.here hx (hb hby at_12) (pc' := 13) rfl rfl rfl ?_
    refine stw3.trans ?_
    show Steps p.tables e below (Tw3.setTop (mkF m 16 #[.val (.int p0), .val (.int p1), .val (.ref bw1), .unset, .unset, .unset, .unset, .unset, .unset, .unset, .unset] [(.double w_c13_s_v12)])) _
    refine own_s_dstoreN Xw3.here hx (hb hby at_16) (pc' := 17) rfl (L' := #[.val (.int p0), .val (.int p1), .val (.ref bw1), .val (.double w_c13_s_v12), .second, .unset, .unset, .unset, .unset, .unset, .unset]) rfl ?_
    refine own_s_aloadN Xw3.here hx (hb hby at_17) (pc' := 18) rfl rfl rfl ?_
    refine stw4.trans ?_
    show Steps p.tables e below (Tw4.setTop (mkF m 21 #[.val (.int p0), .val (.int p1), .val (.ref bw1), .val (.double w_c13_s_v12), .second, .unset, .unset, .unset, .unset, .unset, .unset] [(.double w_c18_f_v12)])) _
    refine own_s_dstore Xw4.here hx (hb hby at_21) (pc' := 23) rfl (L' := #[.val (.int p0), .val (.int p1), .val (.ref bw1), .val (.double w_c13_s_v12), .second, .val (.double w_c18_f_v12), .second, .unset, .unset, .unset, .unset]) rfl ?_
    refine Xw4.ldc2Long hx hown (mvT hZ (hw _ (List.mem_of_getElem? (i := 29) rfl))) (g := (mkF m 23 #[.val (.int p0), .val (.int p1), .val (.ref bw1), .val (.double w_c13_s_v12), .second, .val (.double w_c18_f_v12), .second, .unset, .unset, .unset, .unset] [])) rfl (hb hby at_23) _ ?_
    show Steps p.tables e below (Tw4.setTop (mkF m 26 #[.val (.int p0), .val (.int p1), .val (.ref bw1), .val (.double w_c13_s_v12), .second, .val (.double w_c18_f_v12), .second, .unset, .unset, .unset, .unset] [(.long (2 : Int64))])) _
    refine own_s_iloadN Xw4.here hx (hb hby at_26) (pc' := 27) rfl rfl ?_
    refine own_s_i2l Xw4.here hx (hb hby at_27) (pc' := 28) rfl (v := w_v27) w_hv27 ?_
    refine own_s_lmul Xw4.here hx (hb hby at_28) (pc' := 29) rfl (v := w_v28) w_hv28 ?_
    refine Xw4.ldc2Long hx hown (mvT hZ (hw _ (List.mem_of_getElem? (i := 30) rfl))) (g := (mkF m 29 #[.val (.int p0), .val (.int p1), .val (.ref bw1), .val (.double w_c13_s_v12), .second, .val (.double w_c18_f_v12), .second, .unset, .unset, .unset, .unset] [(.long w_v28)])) rfl (hb hby at_29) _ ?_
    show Steps p.tables e below (Tw4.setTop (mkF m 32 #[.val (.int p0), .val (.int p1), .val (.ref bw1), .val (.double w_c13_s_v12), .second, .val (.double w_c18_f_v12), .second, .unset, .unset, .unset, .unset] [(.long (3 : Int64)), (.long w_v28)])) _
    refine own_s_iloadN Xw4.here hx (hb hby at_32) (pc' := 33) rfl rfl ?_
    refine own_s_i2l Xw4.here hx (hb hby at_33) (pc' := 34) rfl (v := w_v33) w_hv33 ?_
    refine own_s_lmul Xw4.here hx (hb hby at_34) (pc' := 35) rfl (v := w_v34) w_hv34 ?_
    refine own_s_lsub Xw4.here hx (hb hby at_35) (pc' := 36) rfl (v := w_v35) w_hv35 ?_
    refine own_s_lstore Xw4.here hx (hb hby at_36) (pc' := 38) rfl (L' := #[.val (.int p0), .val (.int p1), .val (.ref bw1), .val (.double w_c13_s_v12), .second, .val (.double w_c18_f_v12), .second, .val (.long w_v35), .second, .unset, .unset]) rfl ?_
    refine own_s_dloadN Xw4.here hx (hb hby at_38) (pc' := 39) rfl rfl ?_
    refine Xw4.ldc2DoubleC hx hown (mvT hZ (hw _ (List.mem_of_getElem? (i := 31) rfl))) (g := (mkF m 39 #[.val (.int p0), .val (.int p1), .val (.ref bw1), .val (.double w_c13_s_v12), .second, .val (.double w_c18_f_v12), .second, .val (.long w_v35), .second, .unset, .unset] [(.double w_c13_s_v12)])) rfl (hb hby at_39) _ ?_
    show Steps p.tables e below (Tw4.setTop (mkF m 42 #[.val (.int p0), .val (.int p1), .val (.ref bw1), .val (.double w_c13_s_v12), .second, .val (.double w_c18_f_v12), .second, .val (.long w_v35), .second, .unset, .unset] [(.double (4611686018427387904 : UInt64)), (.double w_c13_s_v12)])) _
    refine own_s_dmul Xw4.here hx (hb hby at_42) (pc' := 43) rfl w_hn42 (v := w_v42) w_hv42 ?_
    refine own_s_lload Xw4.here hx (hb hby at_43) (pc' := 45) rfl rfl ?_
    refine own_s_l2d Xw4.here hx (hb hby at_45) (pc' := 46) rfl (v := (FP.l2d w_v35)) rfl ?_
    refine own_s_dcmp Xw4.here hx (hb hby at_46) (pc' := 47) rfl (v := (0 : Int32)) w_hc46 ?_
    refine own_s_ifNo Xw4.here hx (hb hby at_47) (pc' := 50) rfl (by decide) ?_
    refine own_s_iconst Xw4.here hx (hb hby at_50) (pc' := 51) rfl (v := (1 : Int32)) (by decide) ?_
    refine own_s_goto Xw4.here hx (hb hby at_51) (by decide) (pc' := 55) (by decide) ?_
    refine own_s_istore Xw4.here hx (hb hby at_55) (pc' := 57) rfl (L' := #[.val (.int p0), .val (.int p1), .val (.ref bw1), .val (.double w_c13_s_v12), .second, .val (.double w_c18_f_v12), .second, .val (.long w_v35), .second, .val (.int (1 : Int32)), .unset]) rfl ?_
    refine own_s_dloadN Xw4.here hx (hb hby at_57) (pc' := 58) rfl rfl ?_
    refine own_s_dload Xw4.here hx (hb hby at_58) (pc' := 60) rfl rfl ?_
    refine own_s_dadd Xw4.here hx (hb hby at_60) (pc' := 61) rfl w_hn60 (v := w_v60) w_hv60 ?_
    refine Xw4.ldc2DoubleC hx hown (mvT hZ (hw _ (List.mem_of_getElem? (i := 31) rfl))) (g := (mkF m 61 #[.val (.int p0), .val (.int p1), .val (.ref bw1), .val (.double w_c13_s_v12), .second, .val (.double w_c18_f_v12), .second, .val (.long w_v35), .second, .val (.int (1 : Int32)), .unset] [(.double w_v60)])) rfl (hb hby at_61) _ ?_
    show Steps p.tables e below (Tw4.setTop (mkF m 64 #[.val (.int p0), .val (.int p1), .val (.ref bw1), .val (.double w_c13_s_v12), .second, .val (.double w_c18_f_v12), .second, .val (.long w_v35), .second, .val (.int (1 : Int32)), .unset] [(.double (4611686018427387904 : UInt64)), (.double w_v60)])) _
    refine own_s_iloadN Xw4.here hx (hb hby at_64) (pc' := 65) rfl rfl ?_
    refine own_s_i2d Xw4.here hx (hb hby at_65) (pc' := 66) rfl (v := (FP.i2d p0)) rfl ?_
    refine own_s_dmul Xw4.here hx (hb hby at_66) (pc' := 67) rfl w_hn66 (v := w_v66) w_hv66 ?_
    refine own_s_dcmp Xw4.here hx (hb hby at_67) (pc' := 68) rfl (v := (0 : Int32)) w_hc67 ?_
    refine own_s_ifNo Xw4.here hx (hb hby at_68) (pc' := 71) rfl (by decide) ?_
    refine own_s_iconst Xw4.here hx (hb hby at_71) (pc' := 72) rfl (v := (1 : Int32)) (by decide) ?_
    refine own_s_goto Xw4.here hx (hb hby at_72) (by decide) (pc' := 76) (by decide) ?_
    refine own_s_istore Xw4.here hx (hb hby at_76) (pc' := 78) rfl (L' := #[.val (.int p0), .val (.int p1), .val (.ref bw1), .val (.double w_c13_s_v12), .second, .val (.double w_c18_f_v12), .second, .val (.long w_v35), .second, .val (.int (1 : Int32)), .val (.int (1 : Int32))]) rfl ?_
    refine own_s_iload Xw4.here hx (hb hby at_78) (pc' := 80) rfl rfl ?_
    refine own_s_ifNo Xw4.here hx (hb hby at_80) (pc' := 83) rfl (by decide) ?_
    refine own_s_iload Xw4.here hx (hb hby at_83) (pc' := 85) rfl rfl ?_
    refine own_s_ifNo Xw4.here hx (hb hby at_85) (pc' := 88) rfl (by decide) ?_
    refine own_s_iconst Xw4.here hx (hb hby at_88) (pc' := 89) rfl (v := (1 : Int32)) (by decide) ?_
    refine own_s_goto Xw4.here hx (hb hby at_89) (by decide) (pc' := 93) (by decide) ?_
    exact retN Xw4 hx (t := .boolean) Bd.returns (by simp) (hb hby at_93) hr
  · show own_Q0 n0 _ Tw4.heap _
    rw [ew4]
    exact ⟨rfl, Nw4⟩
set_option maxRecDepth 65536 in
set_option maxHeartbeats 40000000 in
theorem own_rm0 (l : Launch) (Z : State) (a0 : Array Value) (hw : ∀ d ∈ tables_1, d.before a0 Z = true) (ws : List Jvm.Cond) (p0 : Int32) (p1 : Int32) (h0 : Heap) (n0 : Nat) (Z0 : n0 ≤ h0.size)  :
    MetFree l x (head1 (Jvm.Cond.code x code maxLocals ret :: ws) room_1) (fun a U => a = #[(.int p0), (.int p1)] ∧ Z.Warmed39 U.vm ∧ U.heap = h0) (fun _ _ _ _ _ => True) (fun _ U o U' => ∃ v L, o = .returned v ∧ own_Q0 n0 v U'.heap L ∧ FrameEnd U o U' L room_1.cells room_1.slots) := by
  have L_p0 : own_I p0 p0.toInt 2147483648 := ⟨rfl, by have := rng32 p0; omega, by have := rng32 p0; omega⟩
  have L_p1 : own_I p1 p1.toInt 2147483648 := ⟨rfl, by have := rng32 p1; omega, by have := rng32 p1; omega⟩
  obtain ⟨c13_s_v11, c13_s_hv11⟩ : ∃ v, FP.dmul (4609434218613702656 : UInt64) (FP.i2d p1) = v := ⟨_, rfl⟩
  have Ic1 : own_B (4609434218613702656 : UInt64) (3) (-1) 3 := ⟨⟨(Jvm.FP.Core.fin_bits _).mpr (by decide), by decide, by decide +kernel⟩, by decide, by decide⟩
  have Id2 : own_B (FP.i2d p1) (p1.toInt) 0 2147483648 := own_Bi2d L_p1
  have J3 : own_B (FP.dmul (4609434218613702656 : UInt64) (FP.i2d p1)) (((3)) * (p1.toInt)) (-1) 6442450944 := own_Bcast (own_Bmul Ic1 Id2 (by decide)) rfl (by decide) (by decide)
  have J3n := J3.nn
  rw [c13_s_hv11] at J3
  obtain ⟨c13_s_v12, c13_s_hv12⟩ : ∃ v, FP.dsub (FP.i2d p0) c13_s_v11 = v := ⟨_, rfl⟩
  have Id4 : own_B (FP.i2d p0) (p0.toInt) 0 2147483648 := own_Bi2d L_p0
  have J5 : own_B (FP.dsub (FP.i2d p0) c13_s_v11) (p0.toInt * 2 - ((((3)) * (p1.toInt)))) (-1) 10737418240 := own_Bcast (own_Bsub (own_Bcast (own_Bshift 1 2 Id4 (by decide)) rfl (by decide : _ = (-1 : Int)) (Int.le_refl _)) J3 (by decide)) rfl (by decide) (by decide)
  have J5n := J5.nn
  rw [c13_s_hv12] at J5
  obtain ⟨c18_f_v11, c18_f_hv11⟩ : ∃ v, FP.dmul (4609434218613702656 : UInt64) (FP.i2d p1) = v := ⟨_, rfl⟩
  have J6 : own_B (FP.dmul (4609434218613702656 : UInt64) (FP.i2d p1)) (((3)) * (p1.toInt)) (-1) 6442450944 := own_Bcast (own_Bmul Ic1 Id2 (by decide)) rfl (by decide) (by decide)
  have J6n := J6.nn
  rw [c18_f_hv11] at J6
  obtain ⟨c18_f_v12, c18_f_hv12⟩ : ∃ v, FP.dadd (FP.i2d p0) c18_f_v11 = v := ⟨_, rfl⟩
  have J7 : own_B (FP.dadd (FP.i2d p0) c18_f_v11) (p0.toInt * 2 + (((3)) * (p1.toInt))) (-1) 10737418240 := own_Bcast (own_Badd (own_Bcast (own_Bshift 1 2 Id4 (by decide)) rfl (by decide : _ = (-1 : Int)) (Int.le_refl _)) J6 (by decide)) rfl (by decide) (by decide)
  have J7n := J7.nn
  rw [c18_f_hv12] at J7
  obtain ⟨v27, hv27⟩ : ∃ v, Int32.toInt64 p0 = v := ⟨_, rfl⟩
  have L_v27 := own_Ii2l hv27 L_p0
  obtain ⟨v28, hv28⟩ : ∃ v, (2 : Int64) * v27 = v := ⟨_, rfl⟩
  have Il8 : own_L (2 : Int64) (2) 2 := ⟨by decide, by decide, by decide⟩
  have L_v28 : own_L v28 (((2)) * (p0.toInt)) 4294967296 := own_Lcast (own_Lmul hv28 Il8 L_v27 (by decide)) rfl (by decide)
  obtain ⟨v33, hv33⟩ : ∃ v, Int32.toInt64 p1 = v := ⟨_, rfl⟩
  have L_v33 := own_Ii2l hv33 L_p1
  obtain ⟨v34, hv34⟩ : ∃ v, (3 : Int64) * v33 = v := ⟨_, rfl⟩
  have Il9 : own_L (3 : Int64) (3) 3 := ⟨by decide, by decide, by decide⟩
  have L_v34 : own_L v34 (((3)) * (p1.toInt)) 6442450944 := own_Lcast (own_Lmul hv34 Il9 L_v33 (by decide)) rfl (by decide)
  obtain ⟨v35, hv35⟩ : ∃ v, v28 - v34 = v := ⟨_, rfl⟩
  have L_v35 : own_L v35 (((((2)) * (p0.toInt))) - ((((3)) * (p1.toInt)))) 10737418240 := own_Lcast (own_Lsub hv35 L_v28 L_v34 (by decide)) rfl (by decide)
  obtain ⟨v42, hv42⟩ : ∃ v, FP.dmul c13_s_v12 (4611686018427387904 : UInt64) = v := ⟨_, rfl⟩
  have Ic10 : own_B (4611686018427387904 : UInt64) (1) (1) 1 := ⟨⟨(Jvm.FP.Core.fin_bits _).mpr (by decide), by decide, by decide +kernel⟩, by decide, by decide⟩
  have J11 : own_B (FP.dmul c13_s_v12 (4611686018427387904 : UInt64)) (((p0.toInt * 2 - ((((3)) * (p1.toInt))))) * ((1))) (0) 10737418240 := own_Bcast (own_Bmul J5 Ic10 (by decide)) rfl (by decide) (by decide)
  have J11n := J11.nn
  rw [hv42] at J11
  obtain ⟨v60, hv60⟩ : ∃ v, FP.dadd c13_s_v12 c18_f_v12 = v := ⟨_, rfl⟩
  have J12 : own_B (FP.dadd c13_s_v12 c18_f_v12) ((p0.toInt * 2 - ((((3)) * (p1.toInt)))) + (p0.toInt * 2 + (((3)) * (p1.toInt)))) (-1) 21474836480 := own_Bcast (own_Badd J5 J7 (by decide)) rfl (by decide) (by decide)
  have J12n := J12.nn
  rw [hv60] at J12
  obtain ⟨v66, hv66⟩ : ∃ v, FP.dmul (4611686018427387904 : UInt64) (FP.i2d p0) = v := ⟨_, rfl⟩
  have J13 : own_B (FP.dmul (4611686018427387904 : UInt64) (FP.i2d p0)) (((1)) * (p0.toInt)) (1) 2147483648 := own_Bcast (own_Bmul Ic10 Id4 (by decide)) rfl (by decide) (by decide)
  have J13n := J13.nn
  rw [hv66] at J13
  have Id14 : own_B (FP.l2d v35) ((((((2)) * (p0.toInt))) - ((((3)) * (p1.toInt))))) 0 10737418240 := own_Bl2d L_v35 (by decide)
  exact own_rm_w l Z a0 hw ws p0 p1 h0 n0 Z0 (w_c13_s_hn11 := J3n) (w_c13_s_hv11 := c13_s_hv11) (w_c13_s_hn12 := J5n) (w_c13_s_hv12 := c13_s_hv12) (w_c18_f_hn11 := J6n) (w_c18_f_hv11 := c18_f_hv11) (w_c18_f_hn12 := J7n) (w_c18_f_hv12 := c18_f_hv12) (w_hv27 := hv27) (w_hv28 := hv28) (w_hv33 := hv33) (w_hv34 := hv34) (w_hv35 := hv35) (w_hn42 := J11n) (w_hv42 := hv42) (w_hc46 := (own_eq0 J11.is Id14.is (by first | rfl | omega | grind) _)) (w_hn60 := J12n) (w_hv60 := hv60) (w_hn66 := J13n) (w_hv66 := hv66) (w_hc67 := (own_eq0 J12.is (own_Bcast (own_Bshift 2 4 J13 (by decide)) rfl (by decide : _ = (-1 : Int)) (Int.le_refl _)).is (by first | rfl | omega | grind) _))
set_option maxRecDepth 65536 in
set_option maxHeartbeats 40000000 in
theorem comes_1 {Post : Tables → Env → Array Value → State → Outcome → State → Prop} (hpost : ∀ tb e args s v u, (limb_1_1.after args s (.returned v) u = true ∧ limb_1_2.after args s (.returned v) u = true ∧ True) → FrameEnd s (.returned v) u (Jvm.fieldLocs frame_1_writes args s ++ Jvm.arrayLocs frame_1_arrays args s ++ Jvm.staticLocs frame_1_statics s) 16 128 → Post tb e args s (.returned v) u) :
    ArmFor flags0 classFile x code maxLocals ret World_1 tables_1 room_1 Calls_1 rest_1 Pre_1 Post := by
  intro l hfl _ _ p e ha hc hk s m args below hf hA hF happ hP
  obtain ⟨hcalls, hrest, hpre⟩ := hP
  obtain ⟨-, -, -, hnamed, -, -, -, hat⟩ := (Spec.applies_iff hf).mp happ
  obtain ⟨hg, hn⟩ := and_e (Cond.before_iff.mp (show (Jvm.Cond.and given_1 narrow_1).before args s = true from hpre))
  obtain ⟨hcount, g0⟩ := and_e hg
  obtain ⟨a0, g1⟩ := and_e g0
  have a1 := g1
  obtain ⟨w0, w1, rfl⟩ : ∃ w0 w1 : Value, args = #[w0, w1] := by
    have hs : args.size = 2 := by simpa [Cond.value, given_1] using hcount
    obtain ⟨L⟩ := args
    match L, hs with
    | [w0, w1], _ => exact ⟨w0, w1, rfl⟩
  have hw := fun d (hd : d ∈ tables_1) => atoms_spec (ws := Jvm.Cond.code x code maxLocals ret :: tables_1) hat d (List.mem_cons_of_mem _ hd)
  obtain ⟨i0, ei0⟩ := is_v a0
  obtain rfl : w0 = (.int i0) := Option.some.inj ei0
  obtain ⟨i1, ei1⟩ := is_v a1
  obtain rfl : w1 = (.int i1) := Option.some.inj ei1
  obtain ⟨n, o, h1, h2, h3, _, L, rfl, ⟨rfl, N⟩, hq⟩ := own_rm0 l s _ hw tables_1 i0 i1 s.heap s.heap.size (Nat.le_refl _)  p e ha hc hk s m _ below hf ((Spec.applies_iff_loose hf).mp happ).1 ⟨rfl, State.Warmed39.refl s, rfl⟩ trivial
  refine ⟨n, _, h1, h2, h3, hpost _ _ _ _ _ _ ⟨Cond.after_iff.mpr rfl, Cond.after_iff.mpr (eq_i res_at (Term.int_eval (1)) rfl), trivial⟩ ⟨hq.1, hq.2.1, (hq.2.2.sift fun y hy => Or.inr (N y hy)).mono (by decide) (by decide)⟩⟩
theorem main_1_1 : Claimed_1_1 := comes_1 fun _ _ _ _ _ _ h hF => ⟨h.1, hF⟩
theorem main_1_2 : Claimed_1_2 := comes_1 fun _ _ _ _ _ _ h hF => ⟨h.2.1, hF⟩
end Jvm.Pilot.@@N@@
namespace Jvm.Pilot.@@N@@
open Jvm Jvm.ClassFile Sem Op Lib Jvm.Free Jvm.Stand Jvm.Pilot.@@N@@.Jvm.D
/-! MADE BY PROGRAM (witnessworld.py) out of the Statement's table words and the real class files: 10 classes; the members and pool entries that the words name. The judged class is class 1, her method 1. -/
namespace start1
open Jvm.ClassFile
def u (s : String) : CpInfo := .utf8 (stringToUtf16 s)
/-- a pool by its gaps: so many unusable entries, then the entry; so many at the end -/
def gap : Nat → List CpInfo → List CpInfo
  | 0, r => r
  | n + 1, r => .unusable :: gap n r
def poolList (es : List (Nat × CpInfo)) (last : Nat) : List CpInfo := es.foldr (fun e r => gap e.1 (e.2 :: r)) (gap last [])
def pool (es : List (Nat × CpInfo)) (last : Nat) : Array CpInfo := ⟨poolList es last⟩
def fileOf (pool : Array CpInfo) (this : Nat) (attrs : Array Attribute := #[]) (ms : Array MethodInfo := #[]) (fl : Nat := 33) (sup : Nat := 0) (ifs : Array Nat := #[]) (fds : Array FieldInfo := #[]) : ClassFile where
  minorVersion := 0
  majorVersion := 65
  constantPool := pool
  accessFlags := fl
  thisClass := this
  superClass := sup
  interfaces := ifs
  fields := fds
  methods := ms
  attributes := attrs
def plain (name : String) (sup : Option ClassId) : Class where
  name := name
  kind := .ordinary
  loader := none
  accessFlags := 33
  super := sup
  interfaces := #[]
  cf := none
  fields := #[]
  methods := #[]
  instanceTypes := #[]
  staticTypes := #[]
  resolved := #[]
  callSites := []
  init := .initialized
  statics := none
  mirror := none

def pool0 : Array CpInfo := pool [(5, u "<init>"), (0, u "()V"), (1, .class_ 10), (1, u "java/lang/Object")] 113

def k0c0 : Code := { maxStack := 0, maxLocals := 1, code := object_method_1_code, exceptionTable := #[], attributes := #[] }
def k0m0 : Method := { name := "<init>", desc := "()V", sig := { parameters := [], returnType := none }, accessFlags := 1, code := some k0c0 }
/-- java/lang/Object -/
def k0 : Class := { plain "java/lang/Object" none with
  accessFlags := 33
  interfaces := #[]
  cf := some (fileOf pool0 8 #[] #[{ accessFlags := 1, nameIndex := 5, descriptorIndex := 6, attributes := #[] }] 33 0 #[] #[])
  fields := #[]
  methods := #[k0m0]
  instanceTypes := #[]
  staticTypes := #[]
  resolved := Array.replicate 124 none
  statics := none }

def pool1 : Array CpInfo := pool [(2, .class_ 4), (1, u "java/lang/Object"), (0, u "<init>"), (0, u "()V"), (0, .class_ 8), (0, u "com/example/wayfinding/wayfinding/WalkingSpeeds"), (0, .methodref 7 10), (0, .nameAndType 5 11), (0, u "(DD)V"), (0, .methodref 7 13), (0, .nameAndType 14 15), (0, u "slowestMps"), (0, u "()D"), (0, .methodref 7 17), (0, .nameAndType 18 15), (0, u "fastestMps"), (0, .long 2), (1, .long 3), (1, .double 4611686018427387904), (1, .class_ 26), (0, u "com/example/wayfinding/wayfinding/WalkingSpeedsSlowestMpsPinLaw"), (2, u "law"), (0, u "(II)Z")] 3

def k1m0 : Method := { name := "<init>", desc := "()V", sig := { parameters := [], returnType := none }, accessFlags := 1, code := none }
def k1c1 : Code := { maxStack := 6, maxLocals := 11, code := code, exceptionTable := #[], attributes := #[] }
def k1m1 : Method := { name := "law", desc := "(II)Z", sig := { parameters := [.int, .int], returnType := some .boolean }, accessFlags := 9, code := some k1c1 }
/-- com/example/wayfinding/wayfinding/WalkingSpeedsSlowestMpsPinLaw -/
def k1 : Class := { plain "com/example/wayfinding/wayfinding/WalkingSpeedsSlowestMpsPinLaw" (some 0) with
  accessFlags := 49
  interfaces := #[]
  cf := some (fileOf pool1 25 #[] #[{ accessFlags := 1, nameIndex := 5, descriptorIndex := 6, attributes := #[] }, { accessFlags := 9, nameIndex := 29, descriptorIndex := 30, attributes := #[] }] 49 2 #[] #[])
  fields := #[]
  methods := #[k1m0, k1m1]
  instanceTypes := #[]
  staticTypes := #[]
  resolved := Array.replicate 34 none
  statics := none }

def pool2 : Array CpInfo := pool [(1, .methodref 2 3), (0, .class_ 4), (0, .nameAndType 5 6), (0, u "java/lang/Object"), (0, u "<init>"), (0, u "()V"), (0, .class_ 8), (0, u "java/lang/Record")] 13

def k2c0 : Code := { maxStack := 1, maxLocals := 1, code := jdk_30_method_1_code, exceptionTable := #[], attributes := #[] }
def k2m0 : Method := { name := "<init>", desc := "()V", sig := { parameters := [], returnType := none }, accessFlags := 4, code := some k2c0 }
/-- java/lang/Record -/
def k2 : Class := { plain "java/lang/Record" (some 0) with
  accessFlags := 1057
  interfaces := #[]
  cf := some (fileOf pool2 7 #[] #[{ accessFlags := 4, nameIndex := 5, descriptorIndex := 6, attributes := #[] }] 1057 2 #[] #[])
  fields := #[]
  methods := #[k2m0]
  instanceTypes := #[]
  staticTypes := #[]
  resolved := Array.replicate 22 none
  statics := none }

def pool3 : Array CpInfo := pool [(1, .methodref 2 3), (0, .class_ 4), (0, .nameAndType 5 6), (0, u "java/lang/Record"), (0, u "<init>"), (0, u "()V"), (0, .fieldref 8 9), (0, .class_ 10), (0, .nameAndType 11 12), (0, u "com/example/wayfinding/wayfinding/WalkingSpeeds"), (0, u "meanMps"), (0, u "D"), (0, .fieldref 8 14), (0, .nameAndType 15 12), (0, u "sdMps"), (0, .double 4609434218613702656), (13, u "SPREAD_SDS"), (1, u "(DD)V"), (3, u "slowestMps"), (0, u "()D"), (0, u "fastestMps")] 24

def k3c0 : Code := { maxStack := 3, maxLocals := 5, code := prog_8_method_1_code, exceptionTable := #[], attributes := #[] }
def k3m0 : Method := { name := "<init>", desc := "(DD)V", sig := { parameters := [.double, .double], returnType := none }, accessFlags := 0, code := some k3c0 }
def k3c1 : Code := { maxStack := 6, maxLocals := 1, code := prog_8_method_2_code, exceptionTable := #[], attributes := #[] }
def k3m1 : Method := { name := "slowestMps", desc := "()D", sig := { parameters := [], returnType := some .double }, accessFlags := 0, code := some k3c1 }
def k3c2 : Code := { maxStack := 6, maxLocals := 1, code := prog_8_method_3_code, exceptionTable := #[], attributes := #[] }
def k3m2 : Method := { name := "fastestMps", desc := "()D", sig := { parameters := [], returnType := some .double }, accessFlags := 0, code := some k3c2 }
/-- com/example/wayfinding/wayfinding/WalkingSpeeds -/
def k3 : Class := { plain "com/example/wayfinding/wayfinding/WalkingSpeeds" (some 2) with
  accessFlags := 48
  interfaces := #[]
  cf := some (fileOf pool3 8 #[] #[{ accessFlags := 0, nameIndex := 5, descriptorIndex := 32, attributes := #[] }, { accessFlags := 0, nameIndex := 36, descriptorIndex := 37, attributes := #[] }, { accessFlags := 0, nameIndex := 38, descriptorIndex := 37, attributes := #[] }] 48 2 #[] #[{ accessFlags := 18, nameIndex := 11, descriptorIndex := 12, attributes := #[] }, { accessFlags := 18, nameIndex := 15, descriptorIndex := 12, attributes := #[] }, { accessFlags := 24, nameIndex := 30, descriptorIndex := 12, attributes := #[] }])
  fields := #[{ name := "meanMps", type := .double, accessFlags := 18, slot := 0, constantValue := 0 }, { name := "sdMps", type := .double, accessFlags := 18, slot := 1, constantValue := 0 }, { name := "SPREAD_SDS", type := .double, accessFlags := 24, slot := 0, constantValue := 0 }]
  methods := #[k3m0, k3m1, k3m2]
  instanceTypes := #[.double, .double]
  staticTypes := #[.double]
  resolved := Array.replicate 63 none
  statics := none }

def pool4 : Array CpInfo := pool [(1, u "java/lang/Cloneable"), (0, .class_ 1), (0, u "java/lang/Object"), (0, .class_ 3)] 3

/-- java/lang/Cloneable -/
def k4 : Class := { plain "java/lang/Cloneable" (some 0) with
  accessFlags := 1537
  interfaces := #[]
  cf := some (fileOf pool4 2 #[] #[] 1537 4 #[] #[])
  fields := #[]
  methods := #[]
  instanceTypes := #[]
  staticTypes := #[]
  resolved := Array.replicate 8 none
  statics := none }

def pool5 : Array CpInfo := pool [(1, u "java/io/Serializable"), (0, .class_ 1), (0, u "java/lang/Object"), (0, .class_ 3)] 3

/-- java/io/Serializable -/
def k5 : Class := { plain "java/io/Serializable" (some 0) with
  accessFlags := 1537
  interfaces := #[]
  cf := some (fileOf pool5 2 #[] #[] 1537 4 #[] #[])
  fields := #[]
  methods := #[]
  instanceTypes := #[]
  staticTypes := #[]
  resolved := Array.replicate 8 none
  statics := none }

/-- the primitive byte -/
def k6 : Class := { plain "byte" none with kind := .primitive 'B', accessFlags := 0x411 }
/-- [B -/
def k7 : Class := { plain "[B" (some 0) with kind := .array 6 .byte, interfaces := #[4, 5], accessFlags := 1041 }

/-- the primitive int -/
def k8 : Class := { plain "int" none with kind := .primitive 'I', accessFlags := 0x411 }
/-- [I -/
def k9 : Class := { plain "[I" (some 0) with kind := .array 8 .int, interfaces := #[4, 5], accessFlags := 1041 }

def heap : Heap := #[]
def classes : Array Class := #[k0, k1, k2, k3, k4, k5, k6, k7, k8, k9]
def interned : List (Array UInt16 × Addr) := []
def slotsUsed : Nat := 0
def theMethod : MethodId := ⟨1, 1⟩
def args0 : Array Value := #[.int 3, .int 4]
def aboutOver (below : List Frame) : State where
  vm := { classes := classes, interned := interned.toArray }
  heap := heap
  slotsUsed := slotsUsed
  threads := #[{ frames := .invoking theMethod args0 :: below }]
def below0 : List Frame := [.native { method := ⟨0, 0⟩, args := #[] }]
def about1 : State := aboutOver below0
def p0 : Program := .bare "" "" ""
def e0 : Env := launch0.env 0 0 0
theorem w_frames : about1.frames = Frame.invoking theMethod args0 :: below0 := rfl
set_option maxRecDepth 65536 in
theorem w_args : argsFit about1.vm theMethod args0 = true := by decide +kernel
set_option maxRecDepth 65536 in
theorem w_heap : heapFits about1 = true := by decide +kernel
set_option maxRecDepth 65536 in
theorem w_runnable : about1.curStatus? = some .runnable := by decide +kernel
set_option maxRecDepth 65536 in
theorem w_alone : about1.alone = true := by decide +kernel
set_option maxRecDepth 65536 in
theorem w_named : about1.methodNamed? x = some theMethod := by decide +kernel
set_option maxRecDepth 65536 in
theorem w_hears : about1.hears theMethod below0 = true := by decide +kernel
set_option maxRecDepth 65536 in
theorem w_ripe : about1.ripe theMethod args0 below0 = true := by decide +kernel
theorem w_running : about1.status = .running := rfl
set_option maxRecDepth 65536 in
theorem w_room : about1.hasRoom e0.platform room_1 = true :=
  launch0.hasRoom_least _ room_1 (by decide +kernel) (by decide +kernel) (by decide +kernel) (by decide +kernel) (by decide +kernel) (by decide +kernel)
theorem allAtoms_all (ts : List Jvm.Cond) (a : Array Jvm.Value) (st : Jvm.State) : (allAtoms ts).before a st = ts.all (fun c => c.before a st) := by
  induction ts with
  | nil => rfl
  | cons c t ih =>
    show (Jvm.Cond.and c (allAtoms t)).before a st = _
    rw [Jvm.Cond.before_and, ih, List.all_cons]
def words1 : List Jvm.Cond := Jvm.Cond.code x code maxLocals ret :: tables_1
/-- a 'code' word, met by the world's own term for the bytes: nothing is compared byte by byte -/
theorem code_word {y : MethodName} {bytes : ByteArray} {mx : Nat} {rt : Option FieldType} {a : Array Value} {s : State} {m : MethodId} {meth : Method} {c : Code} (h1 : s.methodNamed? y = some m) (h2 : s.vm.method? m = some meth) (h3 : meth.code = some c) (h4 : c.code = bytes)
    (h5 : (c.maxLocals == mx && c.exceptionTable.isEmpty && decide (c.maxStack ≤ mostOperands) && decide (meth.sig.returnType = rt) && !meth.locks && decide (parseMethodDescriptor y.desc = some meth.sig)) = true) : (Jvm.Cond.code y bytes mx rt).before a s = true := by
  simp only [Bool.and_eq_true, beq_iff_eq, Bool.not_eq_true', decide_eq_true_eq] at h5
  obtain ⟨⟨⟨⟨⟨g1, g2⟩, g3⟩, g4⟩, g5⟩, g6⟩ := h5
  simp [Cond.before, Cond.holds, Cond.value, h1, h2, h3, h4, g1, g2, g3, g4, g5, g6]
def isCode : Jvm.Cond → Bool
  | .code _ _ _ _ => true
  | _ => false
theorem all_split {L : List Jvm.Cond} {P : Jvm.Cond → Bool} (h1 : L.all (fun c => isCode c || P c) = true) (h2 : ∀ c ∈ L.filter isCode, P c = true) : L.all P = true := by
  refine List.all_eq_true.mpr fun c hc => ?_
  have h := List.all_eq_true.mp h1 c hc
  rcases Bool.eq_false_or_eq_true (isCode c) with hi | hi
  · exact h2 c (List.mem_filter.mpr ⟨hc, hi⟩)
  · simpa [hi] using h
set_option maxRecDepth 65536 in
theorem w_c0 : (Jvm.Cond.code x code maxLocals ret).before args0 about1 = true := code_word (m := ⟨1, 1⟩) (meth := k1m1) (c := k1c1) (by decide +kernel) rfl rfl rfl (by decide +kernel)
set_option maxRecDepth 65536 in
theorem w_c1 : (Jvm.Cond.code ({ cls := "com/example/wayfinding/wayfinding/WalkingSpeeds", name := "<init>", desc := "(DD)V" } : Jvm.MethodName) prog_8_method_1_code (5 : Nat) (Option.none : Option Jvm.ClassFile.FieldType)).before args0 about1 = true := code_word (m := ⟨3, 0⟩) (meth := k3m0) (c := k3c0) (by decide +kernel) rfl rfl rfl (by decide +kernel)
set_option maxRecDepth 65536 in
theorem w_c2 : (Jvm.Cond.code ({ cls := "java/lang/Record", name := "<init>", desc := "()V" } : Jvm.MethodName) jdk_30_method_1_code (1 : Nat) (Option.none : Option Jvm.ClassFile.FieldType)).before args0 about1 = true := code_word (m := ⟨2, 0⟩) (meth := k2m0) (c := k2c0) (by decide +kernel) rfl rfl rfl (by decide +kernel)
set_option maxRecDepth 65536 in
theorem w_c3 : (Jvm.Cond.code ({ cls := "java/lang/Object", name := "<init>", desc := "()V" } : Jvm.MethodName) object_method_1_code (1 : Nat) (Option.none : Option Jvm.ClassFile.FieldType)).before args0 about1 = true := code_word (m := ⟨0, 0⟩) (meth := k0m0) (c := k0c0) (by decide +kernel) rfl rfl rfl (by decide +kernel)
set_option maxRecDepth 65536 in
theorem w_c4 : (Jvm.Cond.code ({ cls := "com/example/wayfinding/wayfinding/WalkingSpeeds", name := "slowestMps", desc := "()D" } : Jvm.MethodName) prog_8_method_2_code (1 : Nat) (Option.some Jvm.ClassFile.FieldType.double)).before args0 about1 = true := code_word (m := ⟨3, 1⟩) (meth := k3m1) (c := k3c1) (by decide +kernel) rfl rfl rfl (by decide +kernel)
set_option maxRecDepth 65536 in
theorem w_c5 : (Jvm.Cond.code ({ cls := "com/example/wayfinding/wayfinding/WalkingSpeeds", name := "fastestMps", desc := "()D" } : Jvm.MethodName) prog_8_method_3_code (1 : Nat) (Option.some Jvm.ClassFile.FieldType.double)).before args0 about1 = true := code_word (m := ⟨3, 2⟩) (meth := k3m2) (c := k3c2) (by decide +kernel) rfl rfl rfl (by decide +kernel)
def codes1 : List Jvm.Cond := [Jvm.Cond.code x code maxLocals ret, Jvm.Cond.code ({ cls := "com/example/wayfinding/wayfinding/WalkingSpeeds", name := "<init>", desc := "(DD)V" } : Jvm.MethodName) prog_8_method_1_code (5 : Nat) (Option.none : Option Jvm.ClassFile.FieldType), Jvm.Cond.code ({ cls := "java/lang/Record", name := "<init>", desc := "()V" } : Jvm.MethodName) jdk_30_method_1_code (1 : Nat) (Option.none : Option Jvm.ClassFile.FieldType), Jvm.Cond.code ({ cls := "java/lang/Object", name := "<init>", desc := "()V" } : Jvm.MethodName) object_method_1_code (1 : Nat) (Option.none : Option Jvm.ClassFile.FieldType), Jvm.Cond.code ({ cls := "com/example/wayfinding/wayfinding/WalkingSpeeds", name := "slowestMps", desc := "()D" } : Jvm.MethodName) prog_8_method_2_code (1 : Nat) (Option.some Jvm.ClassFile.FieldType.double), Jvm.Cond.code ({ cls := "com/example/wayfinding/wayfinding/WalkingSpeeds", name := "fastestMps", desc := "()D" } : Jvm.MethodName) prog_8_method_3_code (1 : Nat) (Option.some Jvm.ClassFile.FieldType.double)]
set_option maxRecDepth 65536 in
theorem codes_eq : words1.filter isCode = codes1 := rfl
theorem w_codes : ∀ c ∈ words1.filter isCode, c.before args0 about1 = true := by
  rw [codes_eq]
  intro c hc
  simp only [codes1, List.mem_cons, List.not_mem_nil, or_false] at hc
  rcases hc with rfl | rfl | rfl | rfl | rfl | rfl
  · exact w_c0
  · exact w_c1
  · exact w_c2
  · exact w_c3
  · exact w_c4
  · exact w_c5
set_option maxRecDepth 65536 in
theorem w_t1 : (words1.take 24).all (fun c => isCode c || c.before args0 about1) = true := by decide +kernel
set_option maxRecDepth 65536 in
theorem w_t2 : (words1.drop 24).all (fun c => isCode c || c.before args0 about1) = true := by decide +kernel
theorem w_tables : (allAtoms (Jvm.Cond.code x code maxLocals ret :: tables_1)).before args0 about1 = true := by
  rw [allAtoms_all]
  show words1.all (fun c => c.before args0 about1) = true
  refine all_split ?_ w_codes
  rw [← List.take_append_drop 24 words1, List.all_append, w_t1, w_t2]
  rfl
set_option maxRecDepth 65536 in
theorem w_case : (Jvm.Cond.and given_1 narrow_1).before args0 about1 = true := by decide +kernel
theorem w_applies : (headSpec (Jvm.Cond.code x code maxLocals ret :: tables_1) room_1).applies x e0.platform about1 = true :=
  (Spec.applies_iff w_frames).mpr ⟨w_running, w_runnable, w_alone, w_named, w_hears, w_ripe, w_room, w_tables⟩
theorem atStart : AtStart classFile x code maxLocals ret World_1 tables_1 room_1 Calls_1 rest_1 Pre_1 launch0 p0 e0 about1 theMethod args0 below0 :=
  ⟨lists_1, trivial, launch0.admits_env _ _ _, launch0.least_env, fairChoices_fair.cas, fairChoices_fair.clock, w_frames, w_args, w_heap, w_applies, trivial, trivial, w_case⟩
end start1
theorem witness_1 : WitnessClaimed_1 := ⟨start1.p0, start1.e0, start1.about1, start1.theMethod, start1.args0, start1.below0, start1.atStart⟩
end Jvm.Pilot.@@N@@
