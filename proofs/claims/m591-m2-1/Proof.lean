import JvmDerived
import JvmDerived.Pilot.@@N@@Statement
import JvmDerived.Pilot.@@N@@Code
set_option linter.unusedVariables false
set_option linter.unusedSimpArgs false
namespace Jvm.Pilot.@@N@@
section OwnFP
open Jvm.FP.Core
/-! Exact doubles: own_Is x n e says that the double x is finite and worth n * 2^e. -/
def own_Is (x : UInt64) (n : Int) (e : Int) : Prop := DFin x ∧ -1074 ≤ e ∧ zval b64 (val64 x) = n * ((2 ^ (e + 1074).toNat : Nat) : Int)
theorem own_qmax : b64.qmax = 971 := by decide
theorem own_pp : b64.p = 53 := rfl
theorem own_powc {a b u v : Nat} (h : a * 2 ^ u = b * 2 ^ v) {w : Int} (hw : w = (u : Int) - v) : a * 2 ^ w.toNat = b * 2 ^ (-w).toNat := by
  subst hw
  have hu : u = ((u : Int) - v).toNat + min u v := by omega
  have hv : v = (-((u : Int) - v)).toNat + min u v := by omega
  have h2 : a * 2 ^ (((u : Int) - v).toNat + min u v) = b * 2 ^ ((-((u : Int) - v)).toNat + min u v) := by rw [← hu, ← hv]; exact h
  rw [Nat.pow_add, Nat.pow_add, ← Nat.mul_assoc, ← Nat.mul_assoc] at h2
  exact Nat.eq_of_mul_eq_mul_right (Nat.two_pow_pos _) h2
theorem own_signed_abs (s : Bool) (c : Nat) : (signed s c).natAbs = c := by cases s <;> simp [signed]
theorem own_signed_mul (s t : Bool) (c d : Nat) : signed (s != t) (c * d) = signed s c * signed t d := by
  cases s <;> cases t <;> simp [signed, Int.natCast_mul, Int.neg_mul, Int.mul_neg]
theorem own_signed_scale (s : Bool) (c d : Nat) : signed s (c * d) = signed s c * (d : Int) := by cases s <;> simp [signed, Int.natCast_mul, Int.neg_mul]
theorem own_round {s : Bool} {c : Nat} {q : Int} {M : Nat} {e : Int} (h2 : -2148 ≤ q) (hM : M < 9007199254740992) (he1 : -1074 ≤ e) (he2 : e ≤ 971) (h : inUnits c q (-2148) = M * 2 ^ (e + 2148).toNat) :
    ∃ c' q', round b64 (.fin s c q) = .fin s c' q' ∧ inUnits c' q' b64.qmin = M * 2 ^ (e + 1074).toNat := by
  have hq : b64.qmin = -1074 := qmin_b64
  obtain ⟨c', q', h1, h3⟩ := round_exact good_b64 s (c := M) (q := e) (show M < 2 ^ 53 from hM) (by rw [hq]; omega) (by rw [own_qmax]; omega)
  refine ⟨c', q', ?_, ?_⟩
  · rw [← h1]
    show roundRatio b64 s c 1 q = roundRatio b64 s M 1 e
    refine roundRatio_congr (by decide) (by decide) ?_
    unfold inUnits at h
    have h4 := own_powc (u := (q - -2148).toNat) (v := (e + 2148).toNat) h (w := q - e) (by omega)
    rw [Nat.mul_one, Nat.mul_one, h4, show -(q - e) = e - q by omega]
  · rw [h3]; unfold inUnits; rw [hq, show e - -1074 = e + 1074 by omega]
theorem own_fin_split {x : UInt64} {n e : Int} (h : own_Is x n e) : ∃ s c q, val64 x = .fin s c q ∧ Jvm.FP.Core.fits b64 (.fin s c q) ∧ signed s (inUnits c q b64.qmin) = n * ((2 ^ (e + 1074).toNat : Nat) : Int) ∧ -1074 ≤ q := by
  obtain ⟨⟨s, c, q, hv⟩, he, hz⟩ := h
  have hf := val64_fits x
  rw [hv] at hf hz
  have := hf.2.1
  rw [qmin_b64] at this
  exact ⟨s, c, q, hv, hf, hz, this⟩
theorem own_Is_of {x : UInt64} {s : Bool} {c : Nat} {q n e : Int} (hv : val64 x = .fin s c q) (he : -1074 ≤ e) (h : signed s (inUnits c q b64.qmin) = n * ((2 ^ (e + 1074).toNat : Nat) : Int)) : own_Is x n e :=
  ⟨⟨s, c, q, hv⟩, he, by rw [hv]; exact h⟩
theorem own_sum {s : Bool} {c : Nat} {q n e : Int} (hq : -1074 ≤ q) (hn : n.natAbs < 9007199254740992) (he1 : -1074 ≤ e) (he2 : e ≤ 971) (h : signed s (inUnits c q b64.qmin) = n * ((2 ^ (e + 1074).toNat : Nat) : Int)) :
    ∃ c' q', round b64 (.fin s c q) = .fin s c' q' ∧ signed s (inUnits c' q' b64.qmin) = n * ((2 ^ (e + 1074).toNat : Nat) : Int) := by
  have h1 : inUnits c q b64.qmin = n.natAbs * 2 ^ (e + 1074).toNat := by
    rw [← own_signed_abs s (inUnits c q b64.qmin), h, Int.natAbs_mul, Int.natAbs_natCast]
  have h2 : inUnits c q (-2148) = n.natAbs * 2 ^ (e + 2148).toNat := by
    rw [inUnits_move c (r := b64.qmin) (by rw [qmin_b64]; omega) (by rw [qmin_b64]; omega), h1, qmin_b64, Nat.mul_assoc, ← Nat.pow_add]
    congr 2; omega
  obtain ⟨c', q', h3, h4⟩ := own_round (s := s) (by omega) hn he1 he2 h2
  exact ⟨c', q', h3, by rw [h4, ← h1, h]⟩
theorem own_add {x y : UInt64} {m n e : Int} (hx : own_Is x m e) (hy : own_Is y n e) (he : e ≤ 971) (hb : (m + n).natAbs < 9007199254740992) : own_Is (dadd x y) (m + n) e := by
  have he1 := hx.2.1
  obtain ⟨s, c, q, vx, fx, zx, -⟩ := own_fin_split hx
  obtain ⟨t, d, r, vy, fy, zy, -⟩ := own_fin_split hy
  obtain ⟨sg, N, E, h1, h2, h3⟩ := sum_units fx fy
  have h4 : signed sg (inUnits N E b64.qmin) = (m + n) * ((2 ^ (e + 1074).toNat : Nat) : Int) := by
    rw [h3, Int.add_mul, ← zx, ← zy]; rfl
  obtain ⟨c', q', h5, h6⟩ := own_sum (by rw [qmin_b64] at h2; exact h2) hb he1 he h4
  exact own_Is_of (by rw [val64_dadd, vx, vy, h1, h5]) he1 h6
theorem own_sub {x y : UInt64} {m n e : Int} (hx : own_Is x m e) (hy : own_Is y n e) (he : e ≤ 971) (hb : (m - n).natAbs < 9007199254740992) : own_Is (dsub x y) (m - n) e := by
  have he1 := hx.2.1
  obtain ⟨s, c, q, vx, fx, zx, -⟩ := own_fin_split hx
  obtain ⟨t, d, r, vy, fy, zy, -⟩ := own_fin_split hy
  have fy' : Jvm.FP.Core.fits b64 (.fin (!t) d r) := fy
  obtain ⟨sg, N, E, h1, h2, h3⟩ := sum_units (t := !t) fx fy'
  have h4 : signed sg (inUnits N E b64.qmin) = (m - n) * ((2 ^ (e + 1074).toNat : Nat) : Int) := by
    rw [h3, Int.sub_mul, ← zx, ← zy]
    show signed s (inUnits c q b64.qmin) + signed (!t) (inUnits d r b64.qmin) = _
    rw [signed_not]; omega
  obtain ⟨c', q', h5, h6⟩ := own_sum (by rw [qmin_b64] at h2; exact h2) hb he1 he h4
  refine own_Is_of (s := sg) (c := c') (q := q') ?_ he1 h6
  rw [val64_dsub, vx, vy]
  show round b64 (exactSum (.fin s c q) (.fin (!t) d r)) = _
  rw [h1, h5]
theorem own_mul {x y : UInt64} {m n e1 e2 e : Int} (hx : own_Is x m e1) (hy : own_Is y n e2) (hee : e1 + e2 = e) (he1 : -1074 ≤ e) (he2 : e ≤ 971) (hb : (m * n).natAbs < 9007199254740992) : own_Is (dmul x y) (m * n) e := by
  subst hee
  have hx1 := hx.2.1
  have hy1 := hy.2.1
  obtain ⟨s, c, q, vx, fx, zx, qx⟩ := own_fin_split hx
  obtain ⟨t, d, r, vy, fy, zy, qy⟩ := own_fin_split hy
  obtain ⟨h1, h2, h3⟩ := product_units fx fy
  have hs : signed (s != t) (inUnits (c * d) (q + r) (-2148)) = (m * n) * ((2 ^ (e1 + e2 + 2148).toNat : Nat) : Int) := by
    have h4 : inUnits (c * d) (q + r) (-2148) = inUnits c q b64.qmin * inUnits d r b64.qmin := by
      have := h3
      rw [qmin_b64] at this ⊢
      exact this
    rw [h4, own_signed_mul, zx, zy, show (e1 + e2 + 2148).toNat = (e1 + 1074).toNat + (e2 + 1074).toNat by omega, Nat.pow_add, Int.natCast_mul]
    simp only [Int.mul_assoc, Int.mul_left_comm, Int.mul_comm]
  have h5 : inUnits (c * d) (q + r) (-2148) = (m * n).natAbs * 2 ^ (e1 + e2 + 2148).toNat := by
    rw [← own_signed_abs (s != t) (inUnits (c * d) (q + r) (-2148)), hs, Int.natAbs_mul, Int.natAbs_natCast]
  obtain ⟨c', q', h6, h7⟩ := own_round (s := (s != t)) (by omega) hb he1 he2 h5
  refine own_Is_of (s := (s != t)) (c := c') (q := q') (by rw [val64_dmul, vx, vy, h1, h6]) he1 ?_
  rw [h5, own_signed_scale] at hs
  have h8 : signed (s != t) (m * n).natAbs = m * n := Int.eq_of_mul_eq_mul_right (by have := Nat.two_pow_pos (e1 + e2 + 2148).toNat; omega) hs
  rw [h7, own_signed_scale, h8]
/-- the quotient of two exact doubles is the rounded ratio of their numbers -/
theorem own_divR {x y : UInt64} {m n e1 e2 : Int} (hx : own_Is x m e1) (hy : own_Is y n e2) (hn : n ≠ 0) :
    val64 (ddiv x y) = roundRatio b64 (sgn (val64 x) != sgn (val64 y)) m.natAbs n.natAbs (e1 - e2) ∧ signed (sgn (val64 x)) m.natAbs = m ∧ signed (sgn (val64 y)) n.natAbs = n := by
  have hx1 := hx.2.1
  have hy1 := hy.2.1
  obtain ⟨s, c, q, vx, fx, zx, qx⟩ := own_fin_split hx
  obtain ⟨t, d, r, vy, fy, zy, qy⟩ := own_fin_split hy
  have ax : inUnits c q b64.qmin = m.natAbs * 2 ^ (e1 + 1074).toNat := by
    rw [← own_signed_abs s (inUnits c q b64.qmin), zx, Int.natAbs_mul, Int.natAbs_natCast]
  have ay : inUnits d r b64.qmin = n.natAbs * 2 ^ (e2 + 1074).toNat := by
    rw [← own_signed_abs t (inUnits d r b64.qmin), zy, Int.natAbs_mul, Int.natAbs_natCast]
  have sx : signed s m.natAbs = m := by
    rw [ax, own_signed_scale] at zx
    exact Int.eq_of_mul_eq_mul_right (by have := Nat.two_pow_pos (e1 + 1074).toNat; omega) zx
  have sy : signed t n.natAbs = n := by
    rw [ay, own_signed_scale] at zy
    exact Int.eq_of_mul_eq_mul_right (by have := Nat.two_pow_pos (e2 + 1074).toNat; omega) zy
  have nn : n.natAbs ≠ 0 := by omega
  have hd : d ≠ 0 := by
    rintro rfl
    have : n.natAbs * 2 ^ (e2 + 1074).toNat = 0 := by rw [← ay]; unfold inUnits; simp
    rcases Nat.mul_eq_zero.mp this with h | h
    · exact nn h
    · have := Nat.two_pow_pos (e2 + 1074).toNat; omega
  refine ⟨?_, by rw [vx]; exact sx, by rw [vy]; exact sy⟩
  rw [val64_ddiv, vx, vy]
  show (if d = 0 then _ else roundRatio b64 (s != t) c d (q - r)) = roundRatio b64 (s != t) _ _ _
  rw [if_neg hd]
  refine roundRatio_congr (by omega) (by omega) ?_
  unfold inUnits at ax ay
  rw [qmin_b64] at ax ay
  have key : c * n.natAbs * 2 ^ ((q - -1074).toNat + (e2 + 1074).toNat) = m.natAbs * d * 2 ^ ((e1 + 1074).toNat + (r - -1074).toNat) := by
    have e3 : c * n.natAbs * 2 ^ ((q - -1074).toNat + (e2 + 1074).toNat) = (c * 2 ^ (q - -1074).toNat) * (n.natAbs * 2 ^ (e2 + 1074).toNat) := by
      rw [Nat.pow_add]; simp only [Nat.mul_assoc, Nat.mul_left_comm, Nat.mul_comm]
    rw [e3, ax, ← ay, Nat.pow_add]
    simp only [Nat.mul_assoc, Nat.mul_left_comm, Nat.mul_comm]
  have h4 := own_powc key (w := (q - r) - (e1 - e2)) (by omega)
  rw [h4, show -((q - r) - (e1 - e2)) = (e1 - e2) - (q - r) by omega]
theorem own_div {x y : UInt64} {m n N e1 e2 e : Int} (hx : own_Is x m e1) (hy : own_Is y n e2) (hn : n ≠ 0) (hm : m = N * n) (hee : e1 - e2 = e) (he1 : -1074 ≤ e) (he2 : e ≤ 971) (hb : N.natAbs < 9007199254740992) : own_Is (ddiv x y) N e := by
  subst hee
  obtain ⟨h1, h2, h3⟩ := own_divR hx hy hn
  have hq : b64.qmin = -1074 := qmin_b64
  obtain ⟨c', q', h5, h6⟩ := round_exact good_b64 (sgn (val64 x) != sgn (val64 y)) (c := N.natAbs) (q := e1 - e2) (show _ < 2 ^ 53 from hb) (by rw [hq]; omega) (by rw [own_qmax]; omega)
  refine own_Is_of (s := (sgn (val64 x) != sgn (val64 y))) (c := c') (q := q') ?_ he1 ?_
  · rw [h1, ← h5]
    show roundRatio _ _ _ _ _ = roundRatio b64 (sgn (val64 x) != sgn (val64 y)) N.natAbs 1 (e1 - e2)
    refine roundRatio_congr (by omega) (by decide) ?_
    rw [hm, Int.natAbs_mul]; simp
  · rw [h6]; unfold inUnits
    rw [hq, show e1 - e2 - -1074 = e1 - e2 + 1074 by omega, own_signed_scale]
    congr 1
    have h7 := own_signed_mul (sgn (val64 x)) (sgn (val64 y)) N.natAbs (n.natAbs * n.natAbs)
    have h8 : signed (sgn (val64 x) != sgn (val64 y)) (m.natAbs * n.natAbs) = m * n := by rw [own_signed_mul, h2, h3]
    rw [hm, Int.natAbs_mul, Nat.mul_assoc, own_signed_scale] at h8
    have h9 : ((n.natAbs * n.natAbs : Nat) : Int) = n * n := Int.natAbs_mul_self
    rw [h9, Int.mul_assoc] at h8
    refine Int.eq_of_mul_eq_mul_right ?_ h8
    intro h0
    rcases Int.mul_eq_zero.mp h0 with h | h <;> exact hn h
theorem own_shift {x : UInt64} {n e e' : Int} (j : Nat) (hx : own_Is x n e) (hj : e' = e - j) (he : -1074 ≤ e') : own_Is x (n * (2 ^ j : Nat)) e' := by
  subst hj
  refine ⟨hx.1, he, ?_⟩
  rw [hx.2.2, show (e + 1074).toNat = j + (e - j + 1074).toNat by omega, Nat.pow_add, Int.natCast_mul, ← Int.mul_assoc]
theorem own_nn {x : UInt64} {n e : Int} (h : own_Is x n e) : Jvm.Free.Fl.NoNaN64 x := Jvm.Free.Fl.noNaN64_no.mpr h.1.notNaN
theorem own_cmp {x y : UInt64} {m n e : Int} (hx : own_Is x m e) (hy : own_Is y n e) : dcmp x y = some (compare m n) := by
  rw [dcmp_zval hx.1.ne_nan hy.1.ne_nan, hx.2.2, hy.2.2]
  have hp : (0 : Int) < ((2 ^ (e + 1074).toNat : Nat) : Int) := by have := Nat.two_pow_pos (e + 1074).toNat; omega
  congr 1
  refine compare_congr ⟨fun h => Int.lt_of_mul_lt_mul_right h (Int.le_of_lt hp), fun h => Int.mul_lt_mul_of_pos_right h hp⟩ ⟨fun h => Int.eq_of_mul_eq_mul_right (Int.ne_of_gt hp) h, fun h => by rw [h]⟩
theorem own_i2d (a : Int32) : own_Is (i2d a) a.toInt 0 := by
  have h := i2d_int a
  refine ⟨?_, by decide, ?_⟩
  · rw [i2d_l2d]; exact l2d_fin _
  · rw [DInt_zval h]; rfl
theorem own_l2d {a : Int64} (h : a.toInt.natAbs ≤ 9007199254740992) : own_Is (l2d a) a.toInt 0 := by
  have h := l2d_int (a := a) h
  exact ⟨l2d_fin _, by decide, by rw [DInt_zval h]; rfl⟩
/-- with a bound on the number -/
def own_B (x : UInt64) (n e B : Int) : Prop := own_Is x n e ∧ -B ≤ n ∧ n ≤ B
theorem own_B.is {x : UInt64} {n e B : Int} (h : own_B x n e B) : own_Is x n e := h.1
theorem own_B.nn {x : UInt64} {n e B : Int} (h : own_B x n e B) : Jvm.Free.Fl.NoNaN64 x := own_nn h.1
theorem own_Badd {x y : UInt64} {m n e A B : Int} (hx : own_B x m e A) (hy : own_B y n e B) (h : (decide (e ≤ 971) && decide (A + B < 9007199254740992)) = true) : own_B (dadd x y) (m + n) e (A + B) := by
  simp only [Bool.and_eq_true, decide_eq_true_eq] at h
  have := hx.2; have := hy.2
  exact ⟨own_add hx.1 hy.1 h.1 (by omega), by omega, by omega⟩
theorem own_Bsub {x y : UInt64} {m n e A B : Int} (hx : own_B x m e A) (hy : own_B y n e B) (h : (decide (e ≤ 971) && decide (A + B < 9007199254740992)) = true) : own_B (dsub x y) (m - n) e (A + B) := by
  simp only [Bool.and_eq_true, decide_eq_true_eq] at h
  have := hx.2; have := hy.2
  exact ⟨own_sub hx.1 hy.1 h.1 (by omega), by omega, by omega⟩
theorem own_bmul {m n A B : Int} (hm : -A ≤ m ∧ m ≤ A) (hn : -B ≤ n ∧ n ≤ B) : -(A * B) ≤ m * n ∧ m * n ≤ A * B := by
  have h : (m * n).natAbs ≤ A.toNat * B.toNat := by rw [Int.natAbs_mul]; exact Nat.mul_le_mul (by omega) (by omega)
  have h2 : ((A.toNat * B.toNat : Nat) : Int) = A * B := by rw [Int.natCast_mul, Int.toNat_of_nonneg (by omega), Int.toNat_of_nonneg (by omega)]
  omega
theorem own_Bmul {x y : UInt64} {m n e1 e2 A B : Int} (hx : own_B x m e1 A) (hy : own_B y n e2 B) (h : (decide (-1074 ≤ e1 + e2) && decide (e1 + e2 ≤ 971) && decide (A * B < 9007199254740992)) = true) : own_B (dmul x y) (m * n) (e1 + e2) (A * B) := by
  simp only [Bool.and_eq_true, decide_eq_true_eq] at h
  have hb := own_bmul hx.2 hy.2
  exact ⟨own_mul hx.1 hy.1 rfl h.1.1 h.1.2 (by omega), hb⟩
/-- an exact quotient by a power of two (n = 1 in y = 1 * 2^e2) -/
theorem own_Bdiv {x y : UInt64} {m e1 e2 A : Int} (hx : own_B x m e1 A) (hy : own_Is y 1 e2) (h : (decide (-1074 ≤ e1 - e2) && decide (e1 - e2 ≤ 971) && decide (A < 9007199254740992)) = true) : own_B (ddiv x y) m (e1 - e2) A := by
  simp only [Bool.and_eq_true, decide_eq_true_eq] at h
  have := hx.2
  exact ⟨own_div hx.1 hy (by decide) (Int.mul_one _).symm rfl h.1.1 h.1.2 (by omega), hx.2⟩
theorem own_Bshift {x : UInt64} {n e A : Int} (j : Nat) (P : Int) (hx : own_B x n e A) (h : (decide (-1074 ≤ e - j) && decide (((2 ^ j : Nat) : Int) = P)) = true) : own_B x (n * P) (e - j) (A * P) := by
  simp only [Bool.and_eq_true, decide_eq_true_eq] at h
  obtain ⟨h, rfl⟩ := h
  refine ⟨own_shift j hx.1 rfl h, ?_⟩
  have hp : (0 : Int) ≤ (2 ^ j : Nat) := Int.natCast_nonneg _
  have := hx.2
  constructor
  · rw [← Int.neg_mul]; exact Int.mul_le_mul_of_nonneg_right this.1 hp
  · exact Int.mul_le_mul_of_nonneg_right this.2 hp
theorem own_Bcast {x : UInt64} {n n' e e' A A' : Int} (h : own_B x n e A) (hn : n = n') (he : e = e') (hA : A ≤ A') : own_B x n' e' A' := by
  subst hn he; exact ⟨h.1, by have := h.2; omega, by have := h.2; omega⟩
theorem own_eq0 {x y : UInt64} {m n e : Int} (hx : own_Is x m e) (hy : own_Is y n e) (h : m = n) (o : ClassFile.CmpOp) : Op.cmpValue (Jvm.FP.dcmp x y) o = 0 := by
  show Op.cmpValue (dcmp x y) o = 0
  subst h
  rw [own_cmp hx hy, show compare m m = .eq from (compare_eq_iff m m).mpr rfl]; cases o <;> rfl
theorem own_cmpv {x y : UInt64} {m n e : Int} (hx : own_Is x m e) (hy : own_Is y n e) (o : ClassFile.CmpOp) : (m < n → Op.cmpValue (Jvm.FP.dcmp x y) o = -1) ∧ (m = n → Op.cmpValue (Jvm.FP.dcmp x y) o = 0) ∧ (n < m → Op.cmpValue (Jvm.FP.dcmp x y) o = 1) := by
  refine ⟨fun h => ?_, fun h => own_eq0 hx hy h o, fun h => ?_⟩
  · show Op.cmpValue (dcmp x y) o = -1
    rw [own_cmp hx hy, (compare_lt_iff m n).mpr h]; cases o <;> rfl
  · show Op.cmpValue (dcmp x y) o = 1
    rw [own_cmp hx hy, (compare_gt_iff m n).mpr h]; cases o <;> rfl
theorem own_one : own_Is 4607182418800017408 1 0 := ⟨(fin_bits _).mpr (by decide), by decide, by decide +kernel⟩
theorem own_zero : own_Is 0 0 0 := ⟨(fin_bits _).mpr (by decide), by decide, by decide +kernel⟩
/-! ints and longs with their numbers and bounds -/
def own_I (v : Int32) (n B : Int) : Prop := v.toInt = n ∧ -B ≤ n ∧ n ≤ B
def own_L (v : Int64) (n B : Int) : Prop := v.toInt = n ∧ -B ≤ n ∧ n ≤ B
theorem own_Iadd {a b v : Int32} {m n A B : Int} (hv : a + b = v) (ha : own_I a m A) (hb : own_I b n B) (h : decide (A + B < 2147483648) = true) : own_I v (m + n) (A + B) := by
  subst hv; simp only [decide_eq_true_eq] at h; obtain ⟨rfl, h1, h2⟩ := ha; obtain ⟨rfl, h3, h4⟩ := hb
  exact ⟨by rw [Int32.toInt_add]; exact Int.bmod_eq_of_le (by omega) (by omega), by omega, by omega⟩
theorem own_Isub {a b v : Int32} {m n A B : Int} (hv : a - b = v) (ha : own_I a m A) (hb : own_I b n B) (h : decide (A + B < 2147483648) = true) : own_I v (m - n) (A + B) := by
  subst hv; simp only [decide_eq_true_eq] at h; obtain ⟨rfl, h1, h2⟩ := ha; obtain ⟨rfl, h3, h4⟩ := hb
  exact ⟨by rw [Int32.toInt_sub]; exact Int.bmod_eq_of_le (by omega) (by omega), by omega, by omega⟩
theorem own_Imul {a b v : Int32} {m n A B : Int} (hv : a * b = v) (ha : own_I a m A) (hb : own_I b n B) (h : decide (A * B < 2147483648) = true) : own_I v (m * n) (A * B) := by
  subst hv; simp only [decide_eq_true_eq] at h; obtain ⟨rfl, h1⟩ := ha; obtain ⟨rfl, h3⟩ := hb
  have hb := own_bmul h1 h3
  exact ⟨by rw [Int32.toInt_mul]; exact Int.bmod_eq_of_le (by omega) (by omega), hb⟩
theorem own_Ladd {a b v : Int64} {m n A B : Int} (hv : a + b = v) (ha : own_L a m A) (hb : own_L b n B) (h : decide (A + B < 9223372036854775808) = true) : own_L v (m + n) (A + B) := by
  subst hv; simp only [decide_eq_true_eq] at h; obtain ⟨rfl, h1, h2⟩ := ha; obtain ⟨rfl, h3, h4⟩ := hb
  exact ⟨by rw [Int64.toInt_add]; exact Int.bmod_eq_of_le (by omega) (by omega), by omega, by omega⟩
theorem own_Lsub {a b v : Int64} {m n A B : Int} (hv : a - b = v) (ha : own_L a m A) (hb : own_L b n B) (h : decide (A + B < 9223372036854775808) = true) : own_L v (m - n) (A + B) := by
  subst hv; simp only [decide_eq_true_eq] at h; obtain ⟨rfl, h1, h2⟩ := ha; obtain ⟨rfl, h3, h4⟩ := hb
  exact ⟨by rw [Int64.toInt_sub]; exact Int.bmod_eq_of_le (by omega) (by omega), by omega, by omega⟩
theorem own_Lmul {a b v : Int64} {m n A B : Int} (hv : a * b = v) (ha : own_L a m A) (hb : own_L b n B) (h : decide (A * B < 9223372036854775808) = true) : own_L v (m * n) (A * B) := by
  subst hv; simp only [decide_eq_true_eq] at h; obtain ⟨rfl, h1⟩ := ha; obtain ⟨rfl, h3⟩ := hb
  have hb := own_bmul h1 h3
  exact ⟨by rw [Int64.toInt_mul]; exact Int.bmod_eq_of_le (by omega) (by omega), hb⟩
theorem own_Ii2l {a : Int32} {v : Int64} {m A : Int} (hv : Int32.toInt64 a = v) (ha : own_I a m A) : own_L v m A := by
  subst hv; exact ⟨by rw [Int32.toInt_toInt64]; exact ha.1, ha.2⟩
theorem own_Icast {v : Int32} {n n' A A' : Int} (h : own_I v n A) (hn : n = n') (hA : A ≤ A') : own_I v n' A' := by
  subst hn; exact ⟨h.1, by have := h.2; omega, by have := h.2; omega⟩
theorem own_Lcast {v : Int64} {n n' A A' : Int} (h : own_L v n A) (hn : n = n') (hA : A ≤ A') : own_L v n' A' := by
  subst hn; exact ⟨h.1, by have := h.2; omega, by have := h.2; omega⟩
theorem own_Bi2d {v : Int32} {n A : Int} (h : own_I v n A) : own_B (i2d v) n 0 A := by
  obtain ⟨rfl, h1⟩ := h; exact ⟨own_i2d v, h1⟩
theorem own_Bl2d {v : Int64} {n A : Int} (h : own_L v n A) (hA : decide (A ≤ 9007199254740992) = true) : own_B (l2d v) n 0 A := by
  simp only [decide_eq_true_eq] at hA; obtain ⟨rfl, h1⟩ := h; exact ⟨own_l2d (by omega), h1⟩
theorem own_Irng (v : Int32) : own_I v v.toInt 2147483648 := ⟨rfl, by have := Jvm.RoadKit.rng32 v; omega, by have := Jvm.RoadKit.rng32 v; omega⟩
theorem own_Iand {x m v : Int32} {B : Int} (hv : x &&& m = v) (hB : m.toInt = B) (h0 : 0 ≤ B) : own_I v v.toInt B := by
  have := Jvm.RoadKit.c_and x m (by omega); rw [hv] at this; exact ⟨rfl, by omega, by omega⟩
end OwnFP
section OwnStep
open Jvm Jvm.ClassFile Sem Op Lib Jvm.Free Jvm.Stand Jvm.LawKit Jvm.RoadKit
variable {tb : Tables} [Ours tb] {e : Env} {below : List Frame} {T target : State} {m : MethodId} {c : Code} {pc pc' : Nat} {L : Array Slot} {S : List Value}
theorem own_s_iadd (h : At T m c below) (hx : tb.exec = Jvm.exec) {x y v : Int32} (hd : decode c.code pc = .ok (.iadd, 1)) (hp : pc + 1 = pc') (hv : x + y = v)
    (hr : Steps tb e below (T.setTop (mkF m pc' L (.int v :: S))) target) : Steps tb e below (T.setTop (mkF m pc L (.int y :: .int x :: S))) target := by
  subst hv hp; exact XS.iadd h hx rfl hd rfl hr
theorem own_s_ladd (h : At T m c below) (hx : tb.exec = Jvm.exec) {x y v : Int64} (hd : decode c.code pc = .ok (.ladd, 1)) (hp : pc + 1 = pc') (hv : x + y = v)
    (hr : Steps tb e below (T.setTop (mkF m pc' L (.long v :: S))) target) : Steps tb e below (T.setTop (mkF m pc L (.long y :: .long x :: S))) target := by
  subst hv hp; exact XS.ladd h hx rfl hd rfl hr
theorem own_s_isub (h : At T m c below) (hx : tb.exec = Jvm.exec) {x y v : Int32} (hd : decode c.code pc = .ok (.isub, 1)) (hp : pc + 1 = pc') (hv : x - y = v)
    (hr : Steps tb e below (T.setTop (mkF m pc' L (.int v :: S))) target) : Steps tb e below (T.setTop (mkF m pc L (.int y :: .int x :: S))) target := by
  subst hv hp; exact XS.isub h hx rfl hd rfl hr
theorem own_s_lsub (h : At T m c below) (hx : tb.exec = Jvm.exec) {x y v : Int64} (hd : decode c.code pc = .ok (.lsub, 1)) (hp : pc + 1 = pc') (hv : x - y = v)
    (hr : Steps tb e below (T.setTop (mkF m pc' L (.long v :: S))) target) : Steps tb e below (T.setTop (mkF m pc L (.long y :: .long x :: S))) target := by
  subst hv hp; exact XS.lsub h hx rfl hd rfl hr
theorem own_s_imul (h : At T m c below) (hx : tb.exec = Jvm.exec) {x y v : Int32} (hd : decode c.code pc = .ok (.imul, 1)) (hp : pc + 1 = pc') (hv : x * y = v)
    (hr : Steps tb e below (T.setTop (mkF m pc' L (.int v :: S))) target) : Steps tb e below (T.setTop (mkF m pc L (.int y :: .int x :: S))) target := by
  subst hv hp; exact XS.imul h hx rfl hd rfl hr
theorem own_s_lmul (h : At T m c below) (hx : tb.exec = Jvm.exec) {x y v : Int64} (hd : decode c.code pc = .ok (.lmul, 1)) (hp : pc + 1 = pc') (hv : x * y = v)
    (hr : Steps tb e below (T.setTop (mkF m pc' L (.long v :: S))) target) : Steps tb e below (T.setTop (mkF m pc L (.long y :: .long x :: S))) target := by
  subst hv hp; exact XS.lmul h hx rfl hd rfl hr
theorem own_s_iand (h : At T m c below) (hx : tb.exec = Jvm.exec) {x y v : Int32} (hd : decode c.code pc = .ok (.iand, 1)) (hp : pc + 1 = pc') (hv : x &&& y = v)
    (hr : Steps tb e below (T.setTop (mkF m pc' L (.int v :: S))) target) : Steps tb e below (T.setTop (mkF m pc L (.int y :: .int x :: S))) target := by
  subst hv hp; exact XS.iand h hx rfl hd rfl hr
theorem own_s_land (h : At T m c below) (hx : tb.exec = Jvm.exec) {x y v : Int64} (hd : decode c.code pc = .ok (.land, 1)) (hp : pc + 1 = pc') (hv : x &&& y = v)
    (hr : Steps tb e below (T.setTop (mkF m pc' L (.long v :: S))) target) : Steps tb e below (T.setTop (mkF m pc L (.long y :: .long x :: S))) target := by
  subst hv hp; exact XS.land h hx rfl hd rfl hr
theorem own_s_ior (h : At T m c below) (hx : tb.exec = Jvm.exec) {x y v : Int32} (hd : decode c.code pc = .ok (.ior, 1)) (hp : pc + 1 = pc') (hv : x ||| y = v)
    (hr : Steps tb e below (T.setTop (mkF m pc' L (.int v :: S))) target) : Steps tb e below (T.setTop (mkF m pc L (.int y :: .int x :: S))) target := by
  subst hv hp; exact XS.ior h hx rfl hd rfl hr
theorem own_s_lor (h : At T m c below) (hx : tb.exec = Jvm.exec) {x y v : Int64} (hd : decode c.code pc = .ok (.lor, 1)) (hp : pc + 1 = pc') (hv : x ||| y = v)
    (hr : Steps tb e below (T.setTop (mkF m pc' L (.long v :: S))) target) : Steps tb e below (T.setTop (mkF m pc L (.long y :: .long x :: S))) target := by
  subst hv hp; exact XS.lor h hx rfl hd rfl hr
theorem own_s_ixor (h : At T m c below) (hx : tb.exec = Jvm.exec) {x y v : Int32} (hd : decode c.code pc = .ok (.ixor, 1)) (hp : pc + 1 = pc') (hv : x ^^^ y = v)
    (hr : Steps tb e below (T.setTop (mkF m pc' L (.int v :: S))) target) : Steps tb e below (T.setTop (mkF m pc L (.int y :: .int x :: S))) target := by
  subst hv hp; exact XS.ixor h hx rfl hd rfl hr
theorem own_s_lxor (h : At T m c below) (hx : tb.exec = Jvm.exec) {x y v : Int64} (hd : decode c.code pc = .ok (.lxor, 1)) (hp : pc + 1 = pc') (hv : x ^^^ y = v)
    (hr : Steps tb e below (T.setTop (mkF m pc' L (.long v :: S))) target) : Steps tb e below (T.setTop (mkF m pc L (.long y :: .long x :: S))) target := by
  subst hv hp; exact XS.lxor h hx rfl hd rfl hr
theorem own_s_idiv (h : At T m c below) (hx : tb.exec = Jvm.exec) {x y v : Int32} (hd : decode c.code pc = .ok (.idiv, 1)) (hp : pc + 1 = pc') (hy : y ≠ 0) (hv : x / y = v)
    (hr : Steps tb e below (T.setTop (mkF m pc' L (.int v :: S))) target) : Steps tb e below (T.setTop (mkF m pc L (.int y :: .int x :: S))) target := by
  subst hv hp; exact XS.idiv h hx rfl hd rfl hy hr
theorem own_s_irem (h : At T m c below) (hx : tb.exec = Jvm.exec) {x y v : Int32} (hd : decode c.code pc = .ok (.irem, 1)) (hp : pc + 1 = pc') (hy : y ≠ 0) (hv : x % y = v)
    (hr : Steps tb e below (T.setTop (mkF m pc' L (.int v :: S))) target) : Steps tb e below (T.setTop (mkF m pc L (.int y :: .int x :: S))) target := by
  subst hv hp; rw [← irem_eq_mod] at hr; exact XS.irem h hx rfl hd rfl hy hr
theorem own_s_ldiv (h : At T m c below) (hx : tb.exec = Jvm.exec) {x y v : Int64} (hd : decode c.code pc = .ok (.ldiv, 1)) (hp : pc + 1 = pc') (hy : y ≠ 0) (hv : x / y = v)
    (hr : Steps tb e below (T.setTop (mkF m pc' L (.long v :: S))) target) : Steps tb e below (T.setTop (mkF m pc L (.long y :: .long x :: S))) target := by
  subst hv hp; exact XS.ldiv h hx rfl hd rfl hy hr
theorem own_s_lrem (h : At T m c below) (hx : tb.exec = Jvm.exec) {x y v : Int64} (hd : decode c.code pc = .ok (.lrem, 1)) (hp : pc + 1 = pc') (hy : y ≠ 0) (hv : x % y = v)
    (hr : Steps tb e below (T.setTop (mkF m pc' L (.long v :: S))) target) : Steps tb e below (T.setTop (mkF m pc L (.long y :: .long x :: S))) target := by
  subst hv hp; rw [← lrem_mod] at hr; exact XS.lrem h hx rfl hd rfl hy hr
theorem own_s_ishl (h : At T m c below) (hx : tb.exec = Jvm.exec) {x y v : Int32} (hd : decode c.code pc = .ok (.ishl, 1)) (hp : pc + 1 = pc') (hv : x <<< (y &&& 31) = v)
    (hr : Steps tb e below (T.setTop (mkF m pc' L (.int v :: S))) target) : Steps tb e below (T.setTop (mkF m pc L (.int y :: .int x :: S))) target := by
  subst hv hp; exact XS.ishl h hx rfl hd rfl hr
theorem own_s_ishr (h : At T m c below) (hx : tb.exec = Jvm.exec) {x y v : Int32} (hd : decode c.code pc = .ok (.ishr, 1)) (hp : pc + 1 = pc') (hv : x >>> (y &&& 31) = v)
    (hr : Steps tb e below (T.setTop (mkF m pc' L (.int v :: S))) target) : Steps tb e below (T.setTop (mkF m pc L (.int y :: .int x :: S))) target := by
  subst hv hp; exact XS.ishr h hx rfl hd rfl hr
theorem own_s_iushr (h : At T m c below) (hx : tb.exec = Jvm.exec) {x y v : Int32} (hd : decode c.code pc = .ok (.iushr, 1)) (hp : pc + 1 = pc') (hv : (x.toUInt32 >>> (y &&& 31).toUInt32).toInt32 = v)
    (hr : Steps tb e below (T.setTop (mkF m pc' L (.int v :: S))) target) : Steps tb e below (T.setTop (mkF m pc L (.int y :: .int x :: S))) target := by
  subst hv hp; exact XS.iushr h hx rfl hd rfl hr
theorem own_s_lshl (h : At T m c below) (hx : tb.exec = Jvm.exec) {x v : Int64} {y : Int32} (hd : decode c.code pc = .ok (.lshl, 1)) (hp : pc + 1 = pc') (hv : x <<< (y &&& 63).toInt64 = v)
    (hr : Steps tb e below (T.setTop (mkF m pc' L (.long v :: S))) target) : Steps tb e below (T.setTop (mkF m pc L (.int y :: .long x :: S))) target := by
  subst hv hp; exact XS.lshl h hx rfl hd rfl hr
theorem own_s_lshr (h : At T m c below) (hx : tb.exec = Jvm.exec) {x v : Int64} {y : Int32} (hd : decode c.code pc = .ok (.lshr, 1)) (hp : pc + 1 = pc') (hv : x >>> (y &&& 63).toInt64 = v)
    (hr : Steps tb e below (T.setTop (mkF m pc' L (.long v :: S))) target) : Steps tb e below (T.setTop (mkF m pc L (.int y :: .long x :: S))) target := by
  subst hv hp; exact XS.lshr h hx rfl hd rfl hr
theorem own_s_lushr (h : At T m c below) (hx : tb.exec = Jvm.exec) {x v : Int64} {y : Int32} (hd : decode c.code pc = .ok (.lushr, 1)) (hp : pc + 1 = pc') (hv : (x.toUInt64 >>> (y &&& 63).toInt64.toUInt64).toInt64 = v)
    (hr : Steps tb e below (T.setTop (mkF m pc' L (.long v :: S))) target) : Steps tb e below (T.setTop (mkF m pc L (.int y :: .long x :: S))) target := by
  subst hv hp; exact XS.lushr h hx rfl hd rfl hr
theorem own_s_i2l (h : At T m c below) (hx : tb.exec = Jvm.exec) {x : Int32} {v : Int64} (hd : decode c.code pc = .ok (.i2l, 1)) (hp : pc + 1 = pc') (hv : x.toInt64 = v)
    (hr : Steps tb e below (T.setTop (mkF m pc' L (.long v :: S))) target) : Steps tb e below (T.setTop (mkF m pc L (.int x :: S))) target := by
  subst hv hp; exact XS.i2l h hx rfl hd rfl hr
theorem own_s_l2i (h : At T m c below) (hx : tb.exec = Jvm.exec) {x : Int64} {v : Int32} (hd : decode c.code pc = .ok (.l2i, 1)) (hp : pc + 1 = pc') (hv : x.toInt32 = v)
    (hr : Steps tb e below (T.setTop (mkF m pc' L (.int v :: S))) target) : Steps tb e below (T.setTop (mkF m pc L (.long x :: S))) target := by
  subst hv hp; exact XS.l2i h hx rfl hd rfl hr
theorem own_s_i2b (h : At T m c below) (hx : tb.exec = Jvm.exec) {x : Int32} {v : Int32} (hd : decode c.code pc = .ok (.i2b, 1)) (hp : pc + 1 = pc') (hv : x.toInt8.toInt32 = v)
    (hr : Steps tb e below (T.setTop (mkF m pc' L (.int v :: S))) target) : Steps tb e below (T.setTop (mkF m pc L (.int x :: S))) target := by
  subst hv hp; exact XS.i2b h hx rfl hd rfl hr
theorem own_s_i2s (h : At T m c below) (hx : tb.exec = Jvm.exec) {x : Int32} {v : Int32} (hd : decode c.code pc = .ok (.i2s, 1)) (hp : pc + 1 = pc') (hv : x.toInt16.toInt32 = v)
    (hr : Steps tb e below (T.setTop (mkF m pc' L (.int v :: S))) target) : Steps tb e below (T.setTop (mkF m pc L (.int x :: S))) target := by
  subst hv hp; exact XS.i2s h hx rfl hd rfl hr
theorem own_s_ineg (h : At T m c below) (hx : tb.exec = Jvm.exec) {x : Int32} {v : Int32} (hd : decode c.code pc = .ok (.ineg, 1)) (hp : pc + 1 = pc') (hv : -x = v)
    (hr : Steps tb e below (T.setTop (mkF m pc' L (.int v :: S))) target) : Steps tb e below (T.setTop (mkF m pc L (.int x :: S))) target := by
  subst hv hp; exact XS.ineg h hx rfl hd rfl hr
theorem own_s_lneg (h : At T m c below) (hx : tb.exec = Jvm.exec) {x : Int64} {v : Int64} (hd : decode c.code pc = .ok (.lneg, 1)) (hp : pc + 1 = pc') (hv : -x = v)
    (hr : Steps tb e below (T.setTop (mkF m pc' L (.long v :: S))) target) : Steps tb e below (T.setTop (mkF m pc L (.long x :: S))) target := by
  subst hv hp; exact XS.lneg h hx rfl hd rfl hr
theorem own_s_i2d (h : At T m c below) (hx : tb.exec = Jvm.exec) {x : Int32} {v : UInt64} (hd : decode c.code pc = .ok (.i2d, 1)) (hp : pc + 1 = pc') (hv : FP.i2d x = v)
    (hr : Steps tb e below (T.setTop (mkF m pc' L (.double v :: S))) target) : Steps tb e below (T.setTop (mkF m pc L (.int x :: S))) target := by
  subst hv hp; exact XS.i2dS h hx rfl hd rfl rfl hr
theorem own_s_l2d (h : At T m c below) (hx : tb.exec = Jvm.exec) {x : Int64} {v : UInt64} (hd : decode c.code pc = .ok (.l2d, 1)) (hp : pc + 1 = pc') (hv : FP.l2d x = v)
    (hr : Steps tb e below (T.setTop (mkF m pc' L (.double v :: S))) target) : Steps tb e below (T.setTop (mkF m pc L (.long x :: S))) target := by
  subst hv hp; exact XS.l2dS h hx rfl hd rfl rfl hr
theorem own_s_dneg (h : At T m c below) (hx : tb.exec = Jvm.exec) {x : UInt64} {v : UInt64} (hd : decode c.code pc = .ok (.dneg, 1)) (hp : pc + 1 = pc') (hv : FP.dneg x = v)
    (hr : Steps tb e below (T.setTop (mkF m pc' L (.double v :: S))) target) : Steps tb e below (T.setTop (mkF m pc L (.double x :: S))) target := by
  subst hv hp; exact XS.dnegS h hx rfl hd rfl rfl hr
theorem own_s_dadd (h : At T m c below) (hx : tb.exec = Jvm.exec) {x y v : UInt64} (hd : decode c.code pc = .ok (.dadd, 1)) (hp : pc + 1 = pc') (hn : Jvm.Free.Fl.NoNaN64 (FP.dadd x y)) (hv : FP.dadd x y = v)
    (hr : Steps tb e below (T.setTop (mkF m pc' L (.double v :: S))) target) : Steps tb e below (T.setTop (mkF m pc L (.double y :: .double x :: S))) target := by
  subst hv hp; exact XS.daddS h hx rfl hd rfl hn rfl hr
theorem own_s_dsub (h : At T m c below) (hx : tb.exec = Jvm.exec) {x y v : UInt64} (hd : decode c.code pc = .ok (.dsub, 1)) (hp : pc + 1 = pc') (hn : Jvm.Free.Fl.NoNaN64 (FP.dsub x y)) (hv : FP.dsub x y = v)
    (hr : Steps tb e below (T.setTop (mkF m pc' L (.double v :: S))) target) : Steps tb e below (T.setTop (mkF m pc L (.double y :: .double x :: S))) target := by
  subst hv hp; exact XS.dsubS h hx rfl hd rfl hn rfl hr
theorem own_s_dmul (h : At T m c below) (hx : tb.exec = Jvm.exec) {x y v : UInt64} (hd : decode c.code pc = .ok (.dmul, 1)) (hp : pc + 1 = pc') (hn : Jvm.Free.Fl.NoNaN64 (FP.dmul x y)) (hv : FP.dmul x y = v)
    (hr : Steps tb e below (T.setTop (mkF m pc' L (.double v :: S))) target) : Steps tb e below (T.setTop (mkF m pc L (.double y :: .double x :: S))) target := by
  subst hv hp; exact XS.dmulS h hx rfl hd rfl hn rfl hr
theorem own_s_ddiv (h : At T m c below) (hx : tb.exec = Jvm.exec) {x y v : UInt64} (hd : decode c.code pc = .ok (.ddiv, 1)) (hp : pc + 1 = pc') (hn : Jvm.Free.Fl.NoNaN64 (FP.ddiv x y)) (hv : FP.ddiv x y = v)
    (hr : Steps tb e below (T.setTop (mkF m pc' L (.double v :: S))) target) : Steps tb e below (T.setTop (mkF m pc L (.double y :: .double x :: S))) target := by
  subst hv hp; exact XS.ddivS h hx rfl hd rfl hn rfl hr
theorem own_s_dcmp (h : At T m c below) (hx : tb.exec = Jvm.exec) {o : CmpOp} {x y : UInt64} {v : Int32} (hd : decode c.code pc = .ok (.dcmp o, 1)) (hp : pc + 1 = pc') (hv : Op.cmpValue (FP.dcmp x y) o = v)
    (hr : Steps tb e below (T.setTop (mkF m pc' L (.int v :: S))) target) : Steps tb e below (T.setTop (mkF m pc L (.double y :: .double x :: S))) target := by
  subst hv hp; exact XS.dcmpS h hx rfl hd rfl rfl hr
theorem own_s_lcmp (h : At T m c below) (hx : tb.exec = Jvm.exec) {x y : Int64} {v : Int32} (hd : decode c.code pc = .ok (.lcmp, 1)) (hp : pc + 1 = pc') (hv : lcmpW x y = v)
    (hr : Steps tb e below (T.setTop (mkF m pc' L (.int v :: S))) target) : Steps tb e below (T.setTop (mkF m pc L (.long y :: .long x :: S))) target := by
  subst hv hp; exact XS.lcmp h hx rfl hd rfl hr
theorem own_s_iconst (h : At T m c below) (hx : tb.exec = Jvm.exec) {i : Int} {v : Int32} (hd : decode c.code pc = .ok (.iconst i, 1)) (hp : pc + 1 = pc') (hv : Int32.ofInt i = v)
    (hr : Steps tb e below (T.setTop (mkF m pc' L (.int v :: S))) target) : Steps tb e below (T.setTop (mkF m pc L S)) target := by
  subst hv hp; exact XS.iconst h hx rfl hd hr
theorem own_s_bipush (h : At T m c below) (hx : tb.exec = Jvm.exec) {i : Int} {v : Int32} (hd : decode c.code pc = .ok (.bipush i, 2)) (hp : pc + 2 = pc') (hv : (Int8.ofInt i).toInt32 = v)
    (hr : Steps tb e below (T.setTop (mkF m pc' L (.int v :: S))) target) : Steps tb e below (T.setTop (mkF m pc L S)) target := by
  subst hv hp; exact XS.bipush h hx rfl hd hr
theorem own_s_sipush (h : At T m c below) (hx : tb.exec = Jvm.exec) {i : Int} {v : Int32} (hd : decode c.code pc = .ok (.sipush i, 3)) (hp : pc + 3 = pc') (hv : (Int16.ofInt i).toInt32 = v)
    (hr : Steps tb e below (T.setTop (mkF m pc' L (.int v :: S))) target) : Steps tb e below (T.setTop (mkF m pc L S)) target := by
  subst hv hp; exact XS.sipush h hx rfl hd hr
theorem own_s_lconst (h : At T m c below) (hx : tb.exec = Jvm.exec) {k : Fin 2} {v : Int64} (hd : decode c.code pc = .ok (.lconst k, 1)) (hp : pc + 1 = pc') (hv : Int64.ofNat k = v)
    (hr : Steps tb e below (T.setTop (mkF m pc' L (.long v :: S))) target) : Steps tb e below (T.setTop (mkF m pc L S)) target := by
  subst hv hp; exact XS.lconst h hx rfl hd hr
theorem own_s_dconst0 (h : At T m c below) (hx : tb.exec = Jvm.exec)  (hd : decode c.code pc = .ok (.dconst 0, 1)) (hp : pc + 1 = pc') 
    (hr : Steps tb e below (T.setTop (mkF m pc' L (.double 0 :: S))) target) : Steps tb e below (T.setTop (mkF m pc L S)) target := by
  subst hp; exact XS.dconst0 h hx rfl hd rfl hr
theorem own_s_dconst1 (h : At T m c below) (hx : tb.exec = Jvm.exec)  (hd : decode c.code pc = .ok (.dconst 1, 1)) (hp : pc + 1 = pc') 
    (hr : Steps tb e below (T.setTop (mkF m pc' L (.double 4607182418800017408 :: S))) target) : Steps tb e below (T.setTop (mkF m pc L S)) target := by
  subst hp; exact XS.dconst1 h hx rfl hd rfl hr
theorem own_s_aconst_null (h : At T m c below) (hx : tb.exec = Jvm.exec)  (hd : decode c.code pc = .ok (.aconst_null, 1)) (hp : pc + 1 = pc') 
    (hr : Steps tb e below (T.setTop (mkF m pc' L (.null :: S))) target) : Steps tb e below (T.setTop (mkF m pc L S)) target := by
  subst hp; exact XS.aconstNull h hx rfl hd hr
theorem own_s_dup (h : At T m c below) (hx : tb.exec = Jvm.exec) {x : Value} (hd : decode c.code pc = .ok (.dup, 1)) (hp : pc + 1 = pc') (hc : x.category = 1)
    (hr : Steps tb e below (T.setTop (mkF m pc' L (x :: x :: S))) target) : Steps tb e below (T.setTop (mkF m pc L (x :: S))) target := by
  subst hp; exact XS.dup h hx rfl hd rfl hc hr
theorem own_s_dupX1 (h : At T m c below) (hx : tb.exec = Jvm.exec) {x y : Value} (hd : decode c.code pc = .ok (.dup_x1, 1)) (hp : pc + 1 = pc') (hc : x.category = 1) (hc' : y.category = 1)
    (hr : Steps tb e below (T.setTop (mkF m pc' L (x :: y :: x :: S))) target) : Steps tb e below (T.setTop (mkF m pc L (x :: y :: S))) target := by
  subst hp; exact XS.dupX1 h hx rfl hd rfl hc hc' hr
theorem own_s_pop (h : At T m c below) (hx : tb.exec = Jvm.exec) {x : Value} (hd : decode c.code pc = .ok (.pop, 1)) (hp : pc + 1 = pc') (hc : x.category = 1)
    (hr : Steps tb e below (T.setTop (mkF m pc' L S)) target) : Steps tb e below (T.setTop (mkF m pc L (x :: S))) target := by
  subst hp; exact XS.pop h hx rfl hd rfl hc hr
theorem own_s_iloadN (h : At T m c below) (hx : tb.exec = Jvm.exec) {k : Fin 4} {v : Int32} (hd : decode c.code pc = .ok (.iload_n k, 1)) (hp : pc + 1 = pc') (hl : L[k.val]? = some (.val (.int v)))
    (hr : Steps tb e below (T.setTop (mkF m pc' L (.int v :: S))) target) : Steps tb e below (T.setTop (mkF m pc L S)) target := by
  subst hp; exact XS.iloadN h hx rfl hd hl hr
theorem own_s_iload (h : At T m c below) (hx : tb.exec = Jvm.exec) {k : Nat} {v : Int32} (hd : decode c.code pc = .ok (.iload k, 2)) (hp : pc + 2 = pc') (hl : L[k]? = some (.val (.int v)))
    (hr : Steps tb e below (T.setTop (mkF m pc' L (.int v :: S))) target) : Steps tb e below (T.setTop (mkF m pc L S)) target := by
  subst hp; exact XS.iload h hx rfl hd hl hr
theorem own_s_istoreN (h : At T m c below) (hx : tb.exec = Jvm.exec) {k : Fin 4} {v : Int32} {L' : Array Slot} (hd : decode c.code pc = .ok (.istore_n k, 1)) (hp : pc + 1 = pc') (hl : storeLocals L k.val (.int v) = some L')
    (hr : Steps tb e below (T.setTop (mkF m pc' L' S)) target) : Steps tb e below (T.setTop (mkF m pc L (.int v :: S))) target := by
  subst hp; exact XS.istoreN h hx rfl hd rfl hl hr
theorem own_s_istore (h : At T m c below) (hx : tb.exec = Jvm.exec) {k : Nat} {v : Int32} {L' : Array Slot} (hd : decode c.code pc = .ok (.istore k, 2)) (hp : pc + 2 = pc') (hl : storeLocals L k (.int v) = some L')
    (hr : Steps tb e below (T.setTop (mkF m pc' L' S)) target) : Steps tb e below (T.setTop (mkF m pc L (.int v :: S))) target := by
  subst hp; exact XS.istore h hx rfl hd rfl hl hr
theorem own_s_lloadN (h : At T m c below) (hx : tb.exec = Jvm.exec) {k : Fin 4} {v : Int64} (hd : decode c.code pc = .ok (.lload_n k, 1)) (hp : pc + 1 = pc') (hl : L[k.val]? = some (.val (.long v)))
    (hr : Steps tb e below (T.setTop (mkF m pc' L (.long v :: S))) target) : Steps tb e below (T.setTop (mkF m pc L S)) target := by
  subst hp; exact XS.lloadN h hx rfl hd hl hr
theorem own_s_lload (h : At T m c below) (hx : tb.exec = Jvm.exec) {k : Nat} {v : Int64} (hd : decode c.code pc = .ok (.lload k, 2)) (hp : pc + 2 = pc') (hl : L[k]? = some (.val (.long v)))
    (hr : Steps tb e below (T.setTop (mkF m pc' L (.long v :: S))) target) : Steps tb e below (T.setTop (mkF m pc L S)) target := by
  subst hp; exact XS.lload h hx rfl hd hl hr
theorem own_s_lstoreN (h : At T m c below) (hx : tb.exec = Jvm.exec) {k : Fin 4} {v : Int64} {L' : Array Slot} (hd : decode c.code pc = .ok (.lstore_n k, 1)) (hp : pc + 1 = pc') (hl : storeLocals L k.val (.long v) = some L')
    (hr : Steps tb e below (T.setTop (mkF m pc' L' S)) target) : Steps tb e below (T.setTop (mkF m pc L (.long v :: S))) target := by
  subst hp; exact XS.lstoreN h hx rfl hd rfl hl hr
theorem own_s_lstore (h : At T m c below) (hx : tb.exec = Jvm.exec) {k : Nat} {v : Int64} {L' : Array Slot} (hd : decode c.code pc = .ok (.lstore k, 2)) (hp : pc + 2 = pc') (hl : storeLocals L k (.long v) = some L')
    (hr : Steps tb e below (T.setTop (mkF m pc' L' S)) target) : Steps tb e below (T.setTop (mkF m pc L (.long v :: S))) target := by
  subst hp; exact XS.lstore h hx rfl hd rfl hl hr
theorem own_s_dloadN (h : At T m c below) (hx : tb.exec = Jvm.exec) {k : Fin 4} {v : UInt64} (hd : decode c.code pc = .ok (.dload_n k, 1)) (hp : pc + 1 = pc') (hl : L[k.val]? = some (.val (.double v)))
    (hr : Steps tb e below (T.setTop (mkF m pc' L (.double v :: S))) target) : Steps tb e below (T.setTop (mkF m pc L S)) target := by
  subst hp; exact XS.dloadN h hx rfl hd hl hr
theorem own_s_dload (h : At T m c below) (hx : tb.exec = Jvm.exec) {k : Nat} {v : UInt64} (hd : decode c.code pc = .ok (.dload k, 2)) (hp : pc + 2 = pc') (hl : L[k]? = some (.val (.double v)))
    (hr : Steps tb e below (T.setTop (mkF m pc' L (.double v :: S))) target) : Steps tb e below (T.setTop (mkF m pc L S)) target := by
  subst hp; exact XS.dload h hx rfl hd hl hr
theorem own_s_dstoreN (h : At T m c below) (hx : tb.exec = Jvm.exec) {k : Fin 4} {v : UInt64} {L' : Array Slot} (hd : decode c.code pc = .ok (.dstore_n k, 1)) (hp : pc + 1 = pc') (hl : storeLocals L k.val (.double v) = some L')
    (hr : Steps tb e below (T.setTop (mkF m pc' L' S)) target) : Steps tb e below (T.setTop (mkF m pc L (.double v :: S))) target := by
  subst hp; exact XS.dstoreN h hx rfl hd rfl hl hr
theorem own_s_dstore (h : At T m c below) (hx : tb.exec = Jvm.exec) {k : Nat} {v : UInt64} {L' : Array Slot} (hd : decode c.code pc = .ok (.dstore k, 2)) (hp : pc + 2 = pc') (hl : storeLocals L k (.double v) = some L')
    (hr : Steps tb e below (T.setTop (mkF m pc' L' S)) target) : Steps tb e below (T.setTop (mkF m pc L (.double v :: S))) target := by
  subst hp; exact XS.dstore h hx rfl hd rfl hl hr
theorem own_s_aloadN (h : At T m c below) (hx : tb.exec = Jvm.exec) {k : Fin 4} {v : Value} (hd : decode c.code pc = .ok (.aload_n k, 1)) (hp : pc + 1 = pc') (hl : L[k.val]? = some (.val v)) (hr0 : v.isRef = true)
    (hr : Steps tb e below (T.setTop (mkF m pc' L (v :: S))) target) : Steps tb e below (T.setTop (mkF m pc L S)) target := by
  subst hp; exact XS.aloadN h hx rfl hd hl hr0 hr
theorem own_s_aload (h : At T m c below) (hx : tb.exec = Jvm.exec) {k : Nat} {v : Value} (hd : decode c.code pc = .ok (.aload k, 2)) (hp : pc + 2 = pc') (hl : L[k]? = some (.val v)) (hr0 : v.isRef = true)
    (hr : Steps tb e below (T.setTop (mkF m pc' L (v :: S))) target) : Steps tb e below (T.setTop (mkF m pc L S)) target := by
  subst hp; exact XS.aload h hx rfl hd hl hr0 hr
theorem own_s_astoreN (h : At T m c below) (hx : tb.exec = Jvm.exec) {k : Fin 4} {v : Value} {L' : Array Slot} (hd : decode c.code pc = .ok (.astore_n k, 1)) (hp : pc + 1 = pc') (hr0 : v.isRef = true) (hl : storeLocals L k.val v = some L')
    (hr : Steps tb e below (T.setTop (mkF m pc' L' S)) target) : Steps tb e below (T.setTop (mkF m pc L (v :: S))) target := by
  subst hp; exact XS.astoreN h hx rfl hd rfl hr0 hl hr
theorem own_s_astore (h : At T m c below) (hx : tb.exec = Jvm.exec) {k : Nat} {v : Value} {L' : Array Slot} (hd : decode c.code pc = .ok (.astore k, 2)) (hp : pc + 2 = pc') (hr0 : v.isRef = true) (hl : storeLocals L k v = some L')
    (hr : Steps tb e below (T.setTop (mkF m pc' L' S)) target) : Steps tb e below (T.setTop (mkF m pc L (v :: S))) target := by
  subst hp; exact XS.astore h hx rfl hd rfl hr0 hl hr
theorem own_s_iinc (h : At T m c below) (hx : tb.exec = Jvm.exec) {k : Nat} {cst : Int} {x v : Int32} {L' : Array Slot} (hd : decode c.code pc = .ok (.iinc k cst, 3)) (hp : pc + 3 = pc') (hl : L[k]? = some (.val (.int x))) (hv : x + Int32.ofInt cst = v) (hl' : storeLocals L k (.int v) = some L')
    (hr : Steps tb e below (T.setTop (mkF m pc' L' S)) target) : Steps tb e below (T.setTop (mkF m pc L S)) target := by
  subst hv hp; exact XS.iinc h hx rfl hd hl hl' hr
theorem own_s_goto (h : At T m c below) (hx : tb.exec = Jvm.exec)  {o : Int} (hd : decode c.code pc = .ok (.goto o, 3)) (ho : 0 ≤ (pc : Int) + o) (hp : ((pc : Int) + o).toNat = pc') 
    (hr : Steps tb e below (T.setTop (mkF m pc' L S)) target) : Steps tb e below (T.setTop (mkF m pc L S)) target := by
  exact XS.goto h hx rfl rfl hd ho hp hr
theorem own_s_ifYes (h : At T m c below) (hx : tb.exec = Jvm.exec) {cd : ClassFile.Cond} {x : Int32} {o : Int} (hd : decode c.code pc = .ok (.ifCond cd o, 3)) (ho : 0 ≤ (pc : Int) + o) (hp : ((pc : Int) + o).toNat = pc') (hc : ifCond.holds cd x = true)
    (hr : Steps tb e below (T.setTop (mkF m pc' L S)) target) : Steps tb e below (T.setTop (mkF m pc L (.int x :: S))) target := by
  exact XS.ifYes h hx rfl rfl hd rfl hc ho hp hr
theorem own_s_icmpYes (h : At T m c below) (hx : tb.exec = Jvm.exec) {cd : ClassFile.Cond} {x y : Int32} {o : Int} (hd : decode c.code pc = .ok (.if_icmp cd o, 3)) (ho : 0 ≤ (pc : Int) + o) (hp : ((pc : Int) + o).toNat = pc') (hc : if_icmp.holds cd x y = true)
    (hr : Steps tb e below (T.setTop (mkF m pc' L S)) target) : Steps tb e below (T.setTop (mkF m pc L (.int y :: .int x :: S))) target := by
  exact XS.icmpYes h hx rfl rfl hd rfl hc ho hp hr
theorem own_s_ifNo (h : At T m c below) (hx : tb.exec = Jvm.exec) {cd : ClassFile.Cond} {o : Int} {x : Int32} (hd : decode c.code pc = .ok (.ifCond cd o, 3)) (hp : pc + 3 = pc') (hc : ifCond.holds cd x = false)
    (hr : Steps tb e below (T.setTop (mkF m pc' L S)) target) : Steps tb e below (T.setTop (mkF m pc L (.int x :: S))) target := by
  subst hp; exact XS.ifNo h hx rfl hd rfl hc hr
theorem own_s_icmpNo (h : At T m c below) (hx : tb.exec = Jvm.exec) {cd : ClassFile.Cond} {o : Int} {x y : Int32} (hd : decode c.code pc = .ok (.if_icmp cd o, 3)) (hp : pc + 3 = pc') (hc : if_icmp.holds cd x y = false)
    (hr : Steps tb e below (T.setTop (mkF m pc' L S)) target) : Steps tb e below (T.setTop (mkF m pc L (.int y :: .int x :: S))) target := by
  subst hp; exact XS.icmpNo h hx rfl hd rfl hc hr
theorem own_s_ifnullYes (h : At T m c below) (hx : tb.exec = Jvm.exec)  {o : Int} (hd : decode c.code pc = .ok (.ifnull o, 3)) (ho : 0 ≤ (pc : Int) + o) (hp : ((pc : Int) + o).toNat = pc') 
    (hr : Steps tb e below (T.setTop (mkF m pc' L S)) target) : Steps tb e below (T.setTop (mkF m pc L (.null :: S))) target := by
  exact XS.ifnullYes h hx rfl rfl hd rfl ho hp hr
theorem own_s_ifnullNo (h : At T m c below) (hx : tb.exec = Jvm.exec) {o : Int} {b : Addr} (hd : decode c.code pc = .ok (.ifnull o, 3)) (hp : pc + 3 = pc') 
    (hr : Steps tb e below (T.setTop (mkF m pc' L S)) target) : Steps tb e below (T.setTop (mkF m pc L (.ref b :: S))) target := by
  subst hp; exact XS.ifnullNo h hx rfl hd rfl hr
theorem own_s_ifnonnullYes (h : At T m c below) (hx : tb.exec = Jvm.exec) {b : Addr} {o : Int} (hd : decode c.code pc = .ok (.ifnonnull o, 3)) (ho : 0 ≤ (pc : Int) + o) (hp : ((pc : Int) + o).toNat = pc') 
    (hr : Steps tb e below (T.setTop (mkF m pc' L S)) target) : Steps tb e below (T.setTop (mkF m pc L (.ref b :: S))) target := by
  exact XS.ifnonnullYes h hx rfl rfl hd rfl ho hp hr
theorem own_s_ifnonnullNo (h : At T m c below) (hx : tb.exec = Jvm.exec) {o : Int} (hd : decode c.code pc = .ok (.ifnonnull o, 3)) (hp : pc + 3 = pc') 
    (hr : Steps tb e below (T.setTop (mkF m pc' L S)) target) : Steps tb e below (T.setTop (mkF m pc L (.null :: S))) target := by
  subst hp; exact XS.ifnonnullNo h hx rfl hd rfl hr
end OwnStep
section OwnHeap
open Jvm Jvm.ClassFile Sem Op Lib Jvm.Free Jvm.Stand Jvm.LawKit Jvm.RoadKit
variable {p : Program} {l : Launch} {e : Env} {R : Room} {s : State} {m : MethodId} {args : Array Value} {below : List Frame} {meth : Method} {c : Code} {T : State} {locs : List Loc} {cells slots : Nat} {Z : State} {a0 : Array Value} {h : Heap} {pc pc' : Nat} {L : Array Slot} {S : List Value} {a : Addr} {k : ClassId} {z : Int32} {vs : List Value} {dv : Value}
theorem own_newD (X : Stand p l e R s m args below meth c T locs cells slots) (hx : p.tables.exec = Jvm.exec) (hZ : Z.Warmed39 s.vm) (w : (Jvm.Cond.arrayClass .double).before a0 Z = true) (eT : T.heap = h) (n : Nat) (hz : z.toNatClampNeg = n) (hz0 : ¬ z < 0) (hb : n * 8 ≤ 536870912) (hc : cells + 1 ≤ R.cells) (hl : slots + n ≤ R.slots) (hd : decode c.code pc = .ok (.newarray .double, 2)) (hp : pc + 2 = pc') :
    ∃ T' h' k b, Stand p l e R s m args below meth c T' locs (cells + 1) (slots + n) ∧ T'.heap = h' ∧ Ext h h' ∧ b = h.size ∧ Arv Z h' b k .double z (List.replicate n (.double 0)) (.double 0) ∧ ∀ target, Steps p.tables e below (T'.setTop (mkF m pc' L (.ref b :: S))) target → Steps p.tables e below (T.setTop (mkF m pc L (.int z :: S))) target := by
  subst hp
  obtain ⟨T', h', k, X', e', E, A, st⟩ := newP X hx hZ (aty := .double) w eT (g := mkF m pc L (.int z :: S)) rfl hd rfl hz0 (cap := n) (Nat.le_of_eq hz) hb hc hl
  exact ⟨T', h', k, h.size, X', e', E, rfl, (Arv.new A hz0).pad (pad_rep [] (.double 0) n), st⟩
theorem own_newJ (X : Stand p l e R s m args below meth c T locs cells slots) (hx : p.tables.exec = Jvm.exec) (hZ : Z.Warmed39 s.vm) (w : (Jvm.Cond.arrayClass .long).before a0 Z = true) (eT : T.heap = h) (n : Nat) (hz : z.toNatClampNeg = n) (hz0 : ¬ z < 0) (hb : n * 8 ≤ 536870912) (hc : cells + 1 ≤ R.cells) (hl : slots + n ≤ R.slots) (hd : decode c.code pc = .ok (.newarray .long, 2)) (hp : pc + 2 = pc') :
    ∃ T' h' k b, Stand p l e R s m args below meth c T' locs (cells + 1) (slots + n) ∧ T'.heap = h' ∧ Ext h h' ∧ b = h.size ∧ Arv Z h' b k .long z (List.replicate n (.long 0)) (.long 0) ∧ ∀ target, Steps p.tables e below (T'.setTop (mkF m pc' L (.ref b :: S))) target → Steps p.tables e below (T.setTop (mkF m pc L (.int z :: S))) target := by
  subst hp
  obtain ⟨T', h', k, X', e', E, A, st⟩ := newP X hx hZ (aty := .long) w eT (g := mkF m pc L (.int z :: S)) rfl hd rfl hz0 (cap := n) (Nat.le_of_eq hz) hb hc hl
  exact ⟨T', h', k, h.size, X', e', E, rfl, (Arv.new A hz0).pad (pad_rep [] (.long 0) n), st⟩
theorem own_stD (X : Stand p l e R s m args below meth c T locs cells slots) (hx : p.tables.exec = Jvm.exec) (hZ : Z.Warmed39 s.vm) (eT : T.heap = h) (V : Arv Z h a k .double z vs dv) {j : Int32} {x : UInt64} (hj : ¬ j < 0 ∧ j < z) (i : Nat) (hi : j.toNatClampNeg = i) (hl : i < vs.length) (hd : decode c.code pc = .ok (.dastore, 1)) (hp : pc + 1 = pc') :
    ∃ T' h', Stand p l e R s m args below meth c T' (locs ++ [⟨a, j.toNatClampNeg⟩]) cells slots ∧ T'.heap = h' ∧ Wr h h' a j.toNatClampNeg (.double x) ∧ Arv Z h' a k .double z (vs.set i (.double x)) dv ∧ ∀ target, Steps p.tables e below (T'.setTop (mkF m pc' L S)) target → Steps p.tables e below (T.setTop (mkF m pc L (.double x :: .int j :: .ref a :: S))) target := by
  subst hp
  obtain ⟨cl, A, q1, S1, q3, H, G⟩ := V
  obtain ⟨T', h', X', e', W, st⟩ := stD X hx hZ eT A (j := j) (x := x) (inb_of S1 hj) (g := mkF m pc L (.double x :: .int j :: .ref a :: S)) rfl rfl hd
  exact ⟨T', h', X', e', W, Arv.set A q1 S1 q3 H G rfl W i hi hl, st⟩
theorem own_ldD (X : Stand p l e R s m args below meth c T locs cells slots) (hx : p.tables.exec = Jvm.exec) (hZ : Z.Warmed39 s.vm) (eT : T.heap = h) (V : Arv Z h a k .double z vs dv) {j : Int32} {x : UInt64} (hj : ¬ j < 0 ∧ j < z) (hv : vs.getD j.toNatClampNeg dv = .double x) (hd : decode c.code pc = .ok (.daload, 1)) (hp : pc + 1 = pc') {target : State}
    (hr : Steps p.tables e below (T.setTop (mkF m pc' L (.double x :: S))) target) : Steps p.tables e below (T.setTop (mkF m pc L (.int j :: .ref a :: S))) target := by
  subst hp
  obtain ⟨cl, A, q1, S1, q3, H, G⟩ := V
  exact X.daload hx (j := j) (v := .double x) (by rw [eT]; exact A.1) (State.isArrayOf_alike hZ.alike A.2.1) A.2.2 (inb_of S1 hj) (H.at (inb_of S1 hj) hv) (g := mkF m pc L (.int j :: .ref a :: S)) rfl rfl hd target hr
theorem own_len {ty : FieldType} (X : Stand p l e R s m args below meth c T locs cells slots) (hx : p.tables.exec = Jvm.exec) (hZ : Z.Warmed39 s.vm) (eT : T.heap = h) (V : Arv Z h a k ty z vs dv) (hd : decode c.code pc = .ok (.arraylength, 1)) (hp : pc + 1 = pc') {target : State}
    (hr : Steps p.tables e below (T.setTop (mkF m pc' L (.int z :: S))) target) : Steps p.tables e below (T.setTop (mkF m pc L (.ref a :: S))) target := by
  subst hp
  obtain ⟨cl, A, q1, S1, q3, H, G⟩ := V
  refine X.arraylength hx (by rw [eT]; exact A.1) (State.isArrayOf_alike hZ.alike A.2.1) (g := mkF m pc L (.ref a :: S)) rfl rfl hd target ?_
  rw [len_of S1 q3]
  exact hr
theorem own_retI (X : Stand p l e R s m args below meth c T locs cells slots) (hx : p.tables.exec = Jvm.exec) {x : Int32} (hret : meth.sig.returnType = some .int) (hd : decode c.code pc = .ok (.ireturn, 1)) {fs : List Frame}
    (hl : ∀ (f : JFrame) (acts : List Action), f.method = m → f.locked = none → f.entered = [] → (doReturn e (T.setTop f) acts (some (.int x))).1 = T.setFrames fs) : Steps p.tables e below (T.setTop (mkF m pc L (.int x :: S))) (T.setFrames fs) := by
  have hm' : T.vm.method? m = some meth := X.method'
  have hn : narrow .int (.int x) = .int x := rfl
  show Steps p.tables e below (T.setTop { method := m, pc := pc, locals := L, stack := _ :: S, locked := none }) _
  jvm_step X.here [X.here.top, hx, hd, hm', hret, hn]
  first | (intro acts; rw [hl _ acts rfl rfl rfl]) | rw [hl _ _ rfl rfl rfl]
  exact Steps.refl _
theorem own_retD (X : Stand p l e R s m args below meth c T locs cells slots) (hx : p.tables.exec = Jvm.exec) {x : UInt64} (hret : meth.sig.returnType = some .double) (hd : decode c.code pc = .ok (.dreturn, 1)) {fs : List Frame}
    (hl : ∀ (f : JFrame) (acts : List Action), f.method = m → f.locked = none → f.entered = [] → (doReturn e (T.setTop f) acts (some (.double x))).1 = T.setFrames fs) : Steps p.tables e below (T.setTop (mkF m pc L (.double x :: S))) (T.setFrames fs) := by
  have hm' : T.vm.method? m = some meth := X.method'
  show Steps p.tables e below (T.setTop { method := m, pc := pc, locals := L, stack := _ :: S, locked := none }) _
  jvm_step X.here [X.here.top, hx, hd, hm', hret, narrow]
  first | (intro acts; rw [hl _ acts rfl rfl rfl]) | rw [hl _ _ rfl rfl rfl]
  exact Steps.refl _
theorem own_retJ (X : Stand p l e R s m args below meth c T locs cells slots) (hx : p.tables.exec = Jvm.exec) {x : Int64} (hret : meth.sig.returnType = some .long) (hd : decode c.code pc = .ok (.lreturn, 1)) {fs : List Frame}
    (hl : ∀ (f : JFrame) (acts : List Action), f.method = m → f.locked = none → f.entered = [] → (doReturn e (T.setTop f) acts (some (.long x))).1 = T.setFrames fs) : Steps p.tables e below (T.setTop (mkF m pc L (.long x :: S))) (T.setFrames fs) := by
  have hm' : T.vm.method? m = some meth := X.method'
  show Steps p.tables e below (T.setTop { method := m, pc := pc, locals := L, stack := _ :: S, locked := none }) _
  jvm_step X.here [X.here.top, hx, hd, hm', hret, narrow]
  first | (intro acts; rw [hl _ acts rfl rfl rfl]) | rw [hl _ _ rfl rfl rfl]
  exact Steps.refl _
theorem own_retR (X : Stand p l e R s m args below meth c T locs cells slots) (hx : p.tables.exec = Jvm.exec) {b : Addr} {t : FieldType} (hret : meth.sig.returnType = some t) (ht : t.isReference = true) (hd : decode c.code pc = .ok (.areturn, 1)) {fs : List Frame}
    (hl : ∀ (f : JFrame) (acts : List Action), f.method = m → f.locked = none → f.entered = [] → (doReturn e (T.setTop f) acts (some (.ref b))).1 = T.setFrames fs) : Steps p.tables e below (T.setTop (mkF m pc L (.ref b :: S))) (T.setFrames fs) := by
  have hm' : T.vm.method? m = some meth := X.method'
  show Steps p.tables e below (T.setTop { method := m, pc := pc, locals := L, stack := _ :: S, locked := none }) _
  jvm_step X.here [X.here.top, hx, hd, hm', hret, Value.isRef, ht]
  first | (intro acts; rw [hl _ acts rfl rfl rfl]) | rw [hl _ _ rfl rfl rfl]
  exact Steps.refl _
end OwnHeap
open Jvm Jvm.ClassFile Sem Op Lib Jvm.Free Jvm.Stand Jvm.LawKit Jvm.RoadKit Bundle Jvm.Pilot.@@N@@.Jvm.D
def own_Q0 (n0 : Nat) (v : Option Value) (h : Heap) (L : List Loc) : Prop := v = some (.int 1) ∧ Fr n0 L
def own_QP (r : Option Value) (h0 : Heap) (n0 : Nat) (v : Option Value) (h : Heap) (L : List Loc) : Prop := v = r ∧ Fr n0 L ∧ h = h0
theorem own_modN (x : Int32) : ∀ v, x &&& 2147483647 = v → v % 5 = 0 ∨ v % 5 = 1 ∨ v % 5 = 2 ∨ v % 5 = 3 ∨ v % 5 = 4 := by
  intro v hv
  have h1 := c_mask x 2147483647 31 (by decide) (by decide)
  rw [hv] at h1
  have h2 := (c_irem v 5 5 (by decide)).1 (by omega)
  have e : ∀ k : Int32, v % 5 = k ↔ (v % 5).toInt = k.toInt := fun k => Int32.toInt_inj.symm
  simp only [e, show (0 : Int32).toInt = 0 from rfl, show (1 : Int32).toInt = 1 from rfl, show (2 : Int32).toInt = 2 from rfl, show (3 : Int32).toInt = 3 from rfl, show (4 : Int32).toInt = 4 from rfl]
  omega
theorem own_d1_0 : decode prog_112_method_11_code 0 = .ok (.aload_n 0, 1) := by decide +kernel
theorem own_d1_1 : decode prog_112_method_11_code 1 = .ok (.arraylength, 1) := by decide +kernel
theorem own_d1_2 : decode prog_112_method_11_code 2 = .ok (.newarray .double, 2) := by decide +kernel
theorem own_d1_4 : decode prog_112_method_11_code 4 = .ok (.astore_n 1, 1) := by decide +kernel
theorem own_d1_5 : decode prog_112_method_11_code 5 = .ok (.iconst 0, 1) := by decide +kernel
theorem own_d1_6 : decode prog_112_method_11_code 6 = .ok (.istore_n 2, 1) := by decide +kernel
theorem own_d1_7 : decode prog_112_method_11_code 7 = .ok (.iload_n 2, 1) := by decide +kernel
theorem own_d1_8 : decode prog_112_method_11_code 8 = .ok (.aload_n 0, 1) := by decide +kernel
theorem own_d1_9 : decode prog_112_method_11_code 9 = .ok (.arraylength, 1) := by decide +kernel
theorem own_d1_10 : decode prog_112_method_11_code 10 = .ok (.if_icmp .ge 33, 3) := by decide +kernel
theorem own_d1_43 : decode prog_112_method_11_code 43 = .ok (.aload_n 1, 1) := by decide +kernel
theorem own_d1_44 : decode prog_112_method_11_code 44 = .ok (.areturn, 1) := by decide +kernel
theorem own_pn_com_example_hachure_hachure_render_ParallelLines : plainName "com/example/hachure/hachure/render/ParallelLines" = true := by first | (simp [plainName, overriddenIn]; done) | decide +kernel
theorem own_ef_c0 (m : MethodId) (q : Addr) : entryFrame m #[(.ref q)] 3 = mkF m 0 #[.val (.ref q), .unset, .unset] [] := by first | (simp [entryFrame, mkF, argsToLocals, Value.category]; done) | rfl
def own_Q_c0 (Z : State) (q : Addr) (qk : ClassId) (h0 : Heap) (n0 : Nat) (v : Option Value) (h : Heap) (L : List Loc) : Prop := ∃ (bc01 : Addr) (kc01 : ClassId), v = some (.ref bc01) ∧ Fr n0 L ∧ Keep h0 h [] ∧ h0.size ≤ bc01 ∧ Arv Z h bc01 kc01 .double (0 : Int32) [] (.double 0)
set_option maxRecDepth 65536 in
set_option maxHeartbeats 40000000 in
theorem own_rm_c0 (l : Launch) (Z : State) (a0 : Array Value) (hw : ∀ d ∈ tables_1, d.before a0 Z = true) (ws : List Jvm.Cond) (q : Addr) {qk : ClassId} (h0 : Heap) (n0 : Nat) (Z0 : n0 ≤ h0.size) (V_q : Arv Z h0 q qk .double (0 : Int32) [] (.double 0))  :
    MetFree l (⟨"com/example/hachure/hachure/render/ParallelLines", "reversed", "([D)[D"⟩ : MethodName) (head1 (Jvm.Cond.code (⟨"com/example/hachure/hachure/render/ParallelLines", "reversed", "([D)[D"⟩ : MethodName) prog_112_method_11_code 3 (some (.array .double)) :: ws) ({ frames := 0, cells := 1, slots := 0, locals := 0 } : Room)) (fun a U => a = #[(.ref q)] ∧ Z.Warmed39 U.vm ∧ U.heap = h0) (fun _ _ _ _ _ => True) (fun _ U o U' => ∃ v L, o = .returned v ∧ own_Q_c0 Z q qk h0 n0 v U'.heap L ∧ FrameEnd U o U' L ({ frames := 0, cells := 1, slots := 0, locals := 0 } : Room).cells ({ frames := 0, cells := 1, slots := 0, locals := 0 } : Room).slots) := by
  refine MetFree.of_bodySF (plainFor_of_name own_pn_com_example_hachure_hachure_render_ParallelLines) hisR ?_
  intro p e s m args below meth c s₁ Bd hml0 hP hK
  obtain ⟨rfl, hZ, hh⟩ := hP
  have hx := Bd.exec
  have hby := Bd.bytes
  have hml : c.maxLocals = 3 := hml0
  have hown : s.vm.findClass "com/example/hachure/hachure/render/ParallelLines" = some m.cls := findClass_of_methodNamed Bd.named
  have hnm := (name_of_methodNamed Bd.named Bd.method).1
  have X0 : Stand p l e ({ frames := 0, cells := 1, slots := 0, locals := 0 } : Room) s m #[(.ref q)] below meth c s₁ [] 0 0 := Stand.of_body Bd
  have e0 : s₁.heap = h0 := by rw [← hh, Bd.state]; rfl
  have N0 := Fr.nil n0
  have pre0 : ∀ t, Steps p.tables e below (s₁.setTop (mkF m 0 #[.val (.ref q), .unset, .unset] [])) t → Steps p.tables e below (s₁.setTop (entryFrame m #[(.ref q)] 3)) t := fun t k => castTop (own_ef_c0 m q) k
  obtain ⟨Tc01, hc01, kc01, bc01, Xc01, ec01, Ec01, Gc01, Vc01, stc01⟩ := own_newD (L := #[.val (.ref q), .unset, .unset]) (S := []) X0 hx hZ (hw _ (List.mem_of_getElem? (i := 1) rfl)) e0 (z := (0 : Int32)) 0 (by decide) (by decide) (by decide) (by decide) (by decide) (hb hby own_d1_2) (pc' := 4) rfl
  have ne_q_bc01 : q ≠ bc01 := Nat.ne_of_lt (Nat.lt_of_lt_of_le V_q.lt (Nat.le_of_eq Gc01.symm))
  have ne_bc01_q : bc01 ≠ q := Ne.symm ne_q_bc01
  have g_bc01 : n0 ≤ bc01 := Nat.le_trans Z0 (Nat.le_of_eq Gc01.symm)
  have sz_bc01 : h0.size ≤ bc01 := Nat.le_trans (Keep.refl h0 []).1 (Nat.le_of_eq Gc01.symm)
  have V_q_c01 := V_q.ext Ec01
  have Zc01 : n0 ≤ hc01.size := Nat.le_trans Z0 Ec01.1
  have KKc01 := (Keep.refl h0 []).ext Ec01
  have V_bc01 : Arv Z hc01 bc01 kc01 .double (0 : Int32) [] (.double 0) := Vc01
  obtain ⟨fs, hr, hrun, hended, hW, hsame⟩ := Xc01.leave (v := some (.ref bc01)) (fun h => by rw [Bd.returns] at h; cases h)
  refine ⟨_, _, pre0 _ ?_, hrun, hended, _, _, rfl, ?_, ⟨_, rfl⟩, hW, hsame.mono (by decide) (by decide)⟩
  · refine own_s_aloadN X0.here hx (hb hby own_d1_0) (pc' := 1) rfl rfl rfl ?_
    refine own_len X0 hx hZ e0 V_q (hb hby own_d1_1) (pc' := 2) rfl ?_
    refine stc01 _ ?_
    refine own_s_astoreN Xc01.here hx (hb hby own_d1_4) (pc' := 5) rfl rfl (L' := #[.val (.ref q), .val (.ref bc01), .unset]) rfl ?_
    refine own_s_iconst Xc01.here hx (hb hby own_d1_5) (pc' := 6) rfl (v := (0 : Int32)) (by decide) ?_
    refine own_s_istoreN Xc01.here hx (hb hby own_d1_6) (pc' := 7) rfl (L' := #[.val (.ref q), .val (.ref bc01), .val (.int (0 : Int32))]) rfl ?_
    refine own_s_iloadN Xc01.here hx (hb hby own_d1_7) (pc' := 8) rfl rfl ?_
    refine own_s_aloadN Xc01.here hx (hb hby own_d1_8) (pc' := 9) rfl rfl rfl ?_
    refine own_len Xc01 hx hZ ec01 V_q_c01 (hb hby own_d1_9) (pc' := 10) rfl ?_
    refine own_s_icmpYes Xc01.here hx (hb hby own_d1_10) (by decide) (pc' := 43) (by decide) (by decide) ?_
    refine own_s_aloadN Xc01.here hx (hb hby own_d1_43) (pc' := 44) rfl rfl rfl ?_
    exact own_retR Xc01 hx Bd.returns rfl (hb hby own_d1_44) hr
  · show own_Q_c0 Z q qk h0 n0 _ Tc01.heap _
    rw [ec01]
    exact ⟨bc01, kc01, rfl, N0, KKc01, sz_bc01, V_bc01⟩
theorem own_pd_285bD295bD : parseMethodDescriptor "([D)[D" = some ⟨[(.array .double)], some (.array .double)⟩ := by decide +kernel
theorem own_pn_com_example_hachure_hachure_render_ParallelLinesReversedPinLaw : plainName "com/example/hachure/hachure/render/ParallelLinesReversedPinLaw" = true := by first | (simp [plainName, overriddenIn]; done) | decide +kernel
theorem own_ef_w0 (m : MethodId) (p0 : Int32) (p1 : Int64) (p2 : Int64) (p3 : Int64) (p4 : Int64) : entryFrame m #[(.int p0), (.long p1), (.long p2), (.long p3), (.long p4)] maxLocals = mkF m 0 #[.val (.int p0), .val (.long p1), .second, .val (.long p2), .second, .val (.long p3), .second, .val (.long p4), .second, .unset, .unset, .unset, .unset, .unset, .unset, .unset, .unset, .unset, .unset, .unset, .unset, .unset, .unset, .unset, .unset, .unset, .unset, .unset] [] := by first | (simp [entryFrame, mkF, argsToLocals, Value.category, maxLocals]; done) | rfl
set_option maxRecDepth 65536 in
set_option maxHeartbeats 40000000 in
theorem own_rm_w0 (l : Launch) (Z : State) (a0 : Array Value) (hw : ∀ d ∈ tables_1, d.before a0 Z = true) (ws : List Jvm.Cond) (p0 : Int32) (p1 : Int64) (p2 : Int64) (p3 : Int64) (p4 : Int64) {w0_v3 : Int32} {w0_v9 : Int32} {w0_v16 : Int64} {w0_v17 : Int32} {w0_v22 : Int32} {w0_v29 : Int64} {w0_v30 : Int32} {w0_v36 : Int32} {w0_v44 : Int64} {w0_v45 : Int32} {w0_v51 : Int32} {w0_v59 : Int64} {w0_v60 : Int32} (h0 : Heap) (n0 : Nat) (Z0 : n0 ≤ h0.size)  (w0_hv3 : p0 &&& (2147483647 : Int32) = w0_v3) (w0_hv5 : w0_v3 % (5 : Int32) = (0 : Int32)) (w0_hv9 : Int64.toInt32 p1 = w0_v9) (w0_hv16 : p1 >>> ((32 : Int32) &&& 63).toInt64 = w0_v16) (w0_hv17 : Int64.toInt32 w0_v16 = w0_v17) (w0_hv22 : Int64.toInt32 p2 = w0_v22) (w0_hv29 : p2 >>> ((32 : Int32) &&& 63).toInt64 = w0_v29) (w0_hv30 : Int64.toInt32 w0_v29 = w0_v30) (w0_hv36 : Int64.toInt32 p3 = w0_v36) (w0_hv44 : p3 >>> ((32 : Int32) &&& 63).toInt64 = w0_v44) (w0_hv45 : Int64.toInt32 w0_v44 = w0_v45) (w0_hv51 : Int64.toInt32 p4 = w0_v51) (w0_hv59 : p4 >>> ((32 : Int32) &&& 63).toInt64 = w0_v59) (w0_hv60 : Int64.toInt32 w0_v59 = w0_v60) :
    MetFree l x (head1 (Jvm.Cond.code x code maxLocals ret :: ws) room_1) (fun a U => a = #[(.int p0), (.long p1), (.long p2), (.long p3), (.long p4)] ∧ Z.Warmed39 U.vm ∧ U.heap = h0) (fun _ _ _ _ _ => True) (fun _ U o U' => ∃ v L, o = .returned v ∧ own_Q0 n0 v U'.heap L ∧ FrameEnd U o U' L room_1.cells room_1.slots) := by
  refine MetFree.of_bodySF (plainFor_of_name own_pn_com_example_hachure_hachure_render_ParallelLinesReversedPinLaw) hisR ?_
  intro p e s m args below meth c s₁ Bd hml0 hP hK
  obtain ⟨rfl, hZ, hh⟩ := hP
  have hx := Bd.exec
  have hby := Bd.bytes
  have hml : c.maxLocals = 28 := hml0
  have hown : s.vm.findClass "com/example/hachure/hachure/render/ParallelLinesReversedPinLaw" = some m.cls := findClass_of_methodNamed Bd.named
  have hnm := (name_of_methodNamed Bd.named Bd.method).1
  have X0 : Stand p l e room_1 s m #[(.int p0), (.long p1), (.long p2), (.long p3), (.long p4)] below meth c s₁ [] 0 0 := Stand.of_body Bd
  have e0 : s₁.heap = h0 := by rw [← hh, Bd.state]; rfl
  have N0 := Fr.nil n0
  have pre0 : ∀ t, Steps p.tables e below (s₁.setTop (mkF m 0 #[.val (.int p0), .val (.long p1), .second, .val (.long p2), .second, .val (.long p3), .second, .val (.long p4), .second, .unset, .unset, .unset, .unset, .unset, .unset, .unset, .unset, .unset, .unset, .unset, .unset, .unset, .unset, .unset, .unset, .unset, .unset, .unset] [])) t → Steps p.tables e below (s₁.setTop (entryFrame m #[(.int p0), (.long p1), (.long p2), (.long p3), (.long p4)] maxLocals)) t := fun t k => castTop (own_ef_w0 m p0 p1 p2 p3 p4) k
  obtain ⟨Tw01, hw01, kw01, bw01, Xw01, ew01, Ew01, Gw01, Vw01, stw01⟩ := own_newD (L := #[.val (.int p0), .val (.long p1), .second, .val (.long p2), .second, .val (.long p3), .second, .val (.long p4), .second, .val (.int (0 : Int32)), .val (.double (FP.i2d w0_v9)), .second, .val (.double (FP.i2d w0_v17)), .second, .val (.double (FP.i2d w0_v22)), .second, .val (.double (FP.i2d w0_v30)), .second, .val (.double (FP.i2d w0_v36)), .second, .val (.double (FP.i2d w0_v45)), .second, .val (.double (FP.i2d w0_v51)), .second, .val (.double (FP.i2d w0_v60)), .second, .unset, .unset]) (S := []) X0 hx hZ (hw _ (List.mem_of_getElem? (i := 1) rfl)) e0 (z := (0 : Int32)) 0 (by decide) (by decide) (by decide) (by decide) (by decide) (hb hby at_70) (pc' := 72) rfl
  have g_bw01 : n0 ≤ bw01 := Nat.le_trans Z0 (Nat.le_of_eq Gw01.symm)
  have sz_bw01 : h0.size ≤ bw01 := Nat.le_trans (Keep.refl h0 []).1 (Nat.le_of_eq Gw01.symm)
  have Zw01 : n0 ≤ hw01.size := Nat.le_trans Z0 Ew01.1
  have KKw01 := (Keep.refl h0 []).ext Ew01
  have V_bw01 : Arv Z hw01 bw01 kw01 .double (0 : Int32) [] (.double 0) := Vw01
  obtain ⟨_, _, ⟨Tw02, Lw02, kw02, nw02⟩, -, Xw02, ⟨Lcw02, hQw02, lw02, yw02, zw02⟩, stw02⟩ := Jvm.LawKit.callS Xw01 hx (y := (⟨"com/example/hachure/hachure/render/ParallelLines", "reversed", "([D)[D"⟩ : MethodName)) hown (mvT hZ (hw _ (List.mem_of_getElem? (i := 2) rfl))) (mvT hZ (hw _ (List.mem_of_getElem? (i := 3) rfl))) (mvT hZ (hw _ (List.mem_of_getElem? (i := 4) rfl))) (mvT hZ (hw _ (List.mem_of_getElem? (i := 5) rfl))) (by decide) (backOf (W := 0) (own_rm_c0 l Z a0 hw [] bw01 hw01 n0 Zw01 V_bw01) hZ (hw _ (List.mem_of_getElem? (i := 5) rfl)) (hw _ (List.mem_of_getElem? (i := 4) rfl)) (by decide) (by decide)) (g := (mkF m 230 #[.val (.int p0), .val (.long p1), .second, .val (.long p2), .second, .val (.long p3), .second, .val (.long p4), .second, .val (.int (0 : Int32)), .val (.double (FP.i2d w0_v9)), .second, .val (.double (FP.i2d w0_v17)), .second, .val (.double (FP.i2d w0_v22)), .second, .val (.double (FP.i2d w0_v30)), .second, .val (.double (FP.i2d w0_v36)), .second, .val (.double (FP.i2d w0_v45)), .second, .val (.double (FP.i2d w0_v51)), .second, .val (.double (FP.i2d w0_v60)), .second, .val (.ref bw01), .unset] [(.ref bw01)])) rfl (by rw [hml]; rfl) (argsL := [(.ref bw01)]) (rest := []) (lenOf own_pd_285bD295bD rfl) rfl (by show 2 * 0 + _ ≤ _; exact Nat.le_of_eq rfl) (hb hby at_230) (fun _ _ => ⟨rfl, ew01, (by decide : 1 + 1 ≤ _), (by decide : 0 + 0 ≤ _)⟩)
  dsimp only [Pt.U, Pt.locs, Pt.cells, Pt.slots] at Xw02 lw02 yw02 zw02 stw02 hQw02
  subst lw02 yw02 zw02
  obtain ⟨bw02, kw02a, rfl, Nw02q, Kw02, Gw02, qw02_0⟩ := hQw02
  have ne_bw01_bw02 : bw01 ≠ bw02 := Nat.ne_of_lt (Nat.lt_of_lt_of_le V_bw01.lt Gw02)
  have ne_bw02_bw01 : bw02 ≠ bw01 := Ne.symm ne_bw01_bw02
  have g_bw02 : n0 ≤ bw02 := Nat.le_trans Zw01 Gw02
  have sz_bw02 : h0.size ≤ bw02 := Nat.le_trans KKw01.1 Gw02
  have V_bw01_w02 := V_bw01.keep Kw02 (List.not_mem_nil)
  have Zw02 : n0 ≤ Tw02.heap.size := Nat.le_trans Zw01 Kw02.1
  have KKw02 := KKw01.trans Kw02 (fun _ q => nomatch q)
  have Nw02 := Fr.app N0 Nw02q
  obtain ⟨fs, hr, hrun, hended, hW, hsame⟩ := Xw02.leave (v := some (.int (1 : Int32))) (fun h => by rw [Bd.returns] at h; cases h)
  refine ⟨_, _, pre0 _ ?_, hrun, hended, _, _, rfl, ?_, ⟨_, rfl⟩, hW, hsame.mono (by decide) (by decide)⟩
  · refine own_s_iloadN X0.here hx (hb hby at_0) (pc' := 1) rfl rfl ?_
    refine X0.ldcInt hx hown (mvT hZ (hw _ (List.mem_of_getElem? (i := 0) rfl))) (g := (mkF m 1 #[.val (.int p0), .val (.long p1), .second, .val (.long p2), .second, .val (.long p3), .second, .val (.long p4), .second, .unset, .unset, .unset, .unset, .unset, .unset, .unset, .unset, .unset, .unset, .unset, .unset, .unset, .unset, .unset, .unset, .unset, .unset, .unset] [(.int p0)])) rfl (hb hby at_1) _ ?_
    show Steps p.tables e below (s₁.setTop (mkF m 3 #[.val (.int p0), .val (.long p1), .second, .val (.long p2), .second, .val (.long p3), .second, .val (.long p4), .second, .unset, .unset, .unset, .unset, .unset, .unset, .unset, .unset, .unset, .unset, .unset, .unset, .unset, .unset, .unset, .unset, .unset, .unset, .unset] [(.int (2147483647 : Int32)), (.int p0)])) _
    refine own_s_iand X0.here hx (hb hby at_3) (pc' := 4) rfl (v := w0_v3) w0_hv3 ?_
    refine own_s_iconst X0.here hx (hb hby at_4) (pc' := 5) rfl (v := (5 : Int32)) (by decide) ?_
    refine own_s_irem X0.here hx (hb hby at_5) (pc' := 6) rfl (by decide) (v := (0 : Int32)) w0_hv5 ?_
    refine own_s_istore X0.here hx (hb hby at_6) (pc' := 8) rfl (L' := #[.val (.int p0), .val (.long p1), .second, .val (.long p2), .second, .val (.long p3), .second, .val (.long p4), .second, .val (.int (0 : Int32)), .unset, .unset, .unset, .unset, .unset, .unset, .unset, .unset, .unset, .unset, .unset, .unset, .unset, .unset, .unset, .unset, .unset, .unset]) rfl ?_
    refine own_s_lloadN X0.here hx (hb hby at_8) (pc' := 9) rfl rfl ?_
    refine own_s_l2i X0.here hx (hb hby at_9) (pc' := 10) rfl (v := w0_v9) w0_hv9 ?_
    refine own_s_i2d X0.here hx (hb hby at_10) (pc' := 11) rfl (v := (FP.i2d w0_v9)) rfl ?_
    refine own_s_dstore X0.here hx (hb hby at_11) (pc' := 13) rfl (L' := #[.val (.int p0), .val (.long p1), .second, .val (.long p2), .second, .val (.long p3), .second, .val (.long p4), .second, .val (.int (0 : Int32)), .val (.double (FP.i2d w0_v9)), .second, .unset, .unset, .unset, .unset, .unset, .unset, .unset, .unset, .unset, .unset, .unset, .unset, .unset, .unset, .unset, .unset]) rfl ?_
    refine own_s_lloadN X0.here hx (hb hby at_13) (pc' := 14) rfl rfl ?_
    refine own_s_bipush X0.here hx (hb hby at_14) (pc' := 16) rfl (v := (32 : Int32)) (by decide) ?_
    refine own_s_lshr X0.here hx (hb hby at_16) (pc' := 17) rfl (v := w0_v16) w0_hv16 ?_
    refine own_s_l2i X0.here hx (hb hby at_17) (pc' := 18) rfl (v := w0_v17) w0_hv17 ?_
    refine own_s_i2d X0.here hx (hb hby at_18) (pc' := 19) rfl (v := (FP.i2d w0_v17)) rfl ?_
    refine own_s_dstore X0.here hx (hb hby at_19) (pc' := 21) rfl (L' := #[.val (.int p0), .val (.long p1), .second, .val (.long p2), .second, .val (.long p3), .second, .val (.long p4), .second, .val (.int (0 : Int32)), .val (.double (FP.i2d w0_v9)), .second, .val (.double (FP.i2d w0_v17)), .second, .unset, .unset, .unset, .unset, .unset, .unset, .unset, .unset, .unset, .unset, .unset, .unset, .unset, .unset]) rfl ?_
    refine own_s_lloadN X0.here hx (hb hby at_21) (pc' := 22) rfl rfl ?_
    refine own_s_l2i X0.here hx (hb hby at_22) (pc' := 23) rfl (v := w0_v22) w0_hv22 ?_
    refine own_s_i2d X0.here hx (hb hby at_23) (pc' := 24) rfl (v := (FP.i2d w0_v22)) rfl ?_
    refine own_s_dstore X0.here hx (hb hby at_24) (pc' := 26) rfl (L' := #[.val (.int p0), .val (.long p1), .second, .val (.long p2), .second, .val (.long p3), .second, .val (.long p4), .second, .val (.int (0 : Int32)), .val (.double (FP.i2d w0_v9)), .second, .val (.double (FP.i2d w0_v17)), .second, .val (.double (FP.i2d w0_v22)), .second, .unset, .unset, .unset, .unset, .unset, .unset, .unset, .unset, .unset, .unset, .unset, .unset]) rfl ?_
    refine own_s_lloadN X0.here hx (hb hby at_26) (pc' := 27) rfl rfl ?_
    refine own_s_bipush X0.here hx (hb hby at_27) (pc' := 29) rfl (v := (32 : Int32)) (by decide) ?_
    refine own_s_lshr X0.here hx (hb hby at_29) (pc' := 30) rfl (v := w0_v29) w0_hv29 ?_
    refine own_s_l2i X0.here hx (hb hby at_30) (pc' := 31) rfl (v := w0_v30) w0_hv30 ?_
    refine own_s_i2d X0.here hx (hb hby at_31) (pc' := 32) rfl (v := (FP.i2d w0_v30)) rfl ?_
    refine own_s_dstore X0.here hx (hb hby at_32) (pc' := 34) rfl (L' := #[.val (.int p0), .val (.long p1), .second, .val (.long p2), .second, .val (.long p3), .second, .val (.long p4), .second, .val (.int (0 : Int32)), .val (.double (FP.i2d w0_v9)), .second, .val (.double (FP.i2d w0_v17)), .second, .val (.double (FP.i2d w0_v22)), .second, .val (.double (FP.i2d w0_v30)), .second, .unset, .unset, .unset, .unset, .unset, .unset, .unset, .unset, .unset, .unset]) rfl ?_
    refine own_s_lload X0.here hx (hb hby at_34) (pc' := 36) rfl rfl ?_
    refine own_s_l2i X0.here hx (hb hby at_36) (pc' := 37) rfl (v := w0_v36) w0_hv36 ?_
    refine own_s_i2d X0.here hx (hb hby at_37) (pc' := 38) rfl (v := (FP.i2d w0_v36)) rfl ?_
    refine own_s_dstore X0.here hx (hb hby at_38) (pc' := 40) rfl (L' := #[.val (.int p0), .val (.long p1), .second, .val (.long p2), .second, .val (.long p3), .second, .val (.long p4), .second, .val (.int (0 : Int32)), .val (.double (FP.i2d w0_v9)), .second, .val (.double (FP.i2d w0_v17)), .second, .val (.double (FP.i2d w0_v22)), .second, .val (.double (FP.i2d w0_v30)), .second, .val (.double (FP.i2d w0_v36)), .second, .unset, .unset, .unset, .unset, .unset, .unset, .unset, .unset]) rfl ?_
    refine own_s_lload X0.here hx (hb hby at_40) (pc' := 42) rfl rfl ?_
    refine own_s_bipush X0.here hx (hb hby at_42) (pc' := 44) rfl (v := (32 : Int32)) (by decide) ?_
    refine own_s_lshr X0.here hx (hb hby at_44) (pc' := 45) rfl (v := w0_v44) w0_hv44 ?_
    refine own_s_l2i X0.here hx (hb hby at_45) (pc' := 46) rfl (v := w0_v45) w0_hv45 ?_
    refine own_s_i2d X0.here hx (hb hby at_46) (pc' := 47) rfl (v := (FP.i2d w0_v45)) rfl ?_
    refine own_s_dstore X0.here hx (hb hby at_47) (pc' := 49) rfl (L' := #[.val (.int p0), .val (.long p1), .second, .val (.long p2), .second, .val (.long p3), .second, .val (.long p4), .second, .val (.int (0 : Int32)), .val (.double (FP.i2d w0_v9)), .second, .val (.double (FP.i2d w0_v17)), .second, .val (.double (FP.i2d w0_v22)), .second, .val (.double (FP.i2d w0_v30)), .second, .val (.double (FP.i2d w0_v36)), .second, .val (.double (FP.i2d w0_v45)), .second, .unset, .unset, .unset, .unset, .unset, .unset]) rfl ?_
    refine own_s_lload X0.here hx (hb hby at_49) (pc' := 51) rfl rfl ?_
    refine own_s_l2i X0.here hx (hb hby at_51) (pc' := 52) rfl (v := w0_v51) w0_hv51 ?_
    refine own_s_i2d X0.here hx (hb hby at_52) (pc' := 53) rfl (v := (FP.i2d w0_v51)) rfl ?_
    refine own_s_dstore X0.here hx (hb hby at_53) (pc' := 55) rfl (L' := #[.val (.int p0), .val (.long p1), .second, .val (.long p2), .second, .val (.long p3), .second, .val (.long p4), .second, .val (.int (0 : Int32)), .val (.double (FP.i2d w0_v9)), .second, .val (.double (FP.i2d w0_v17)), .second, .val (.double (FP.i2d w0_v22)), .second, .val (.double (FP.i2d w0_v30)), .second, .val (.double (FP.i2d w0_v36)), .second, .val (.double (FP.i2d w0_v45)), .second, .val (.double (FP.i2d w0_v51)), .second, .unset, .unset, .unset, .unset]) rfl ?_
    refine own_s_lload X0.here hx (hb hby at_55) (pc' := 57) rfl rfl ?_
    refine own_s_bipush X0.here hx (hb hby at_57) (pc' := 59) rfl (v := (32 : Int32)) (by decide) ?_
    refine own_s_lshr X0.here hx (hb hby at_59) (pc' := 60) rfl (v := w0_v59) w0_hv59 ?_
    refine own_s_l2i X0.here hx (hb hby at_60) (pc' := 61) rfl (v := w0_v60) w0_hv60 ?_
    refine own_s_i2d X0.here hx (hb hby at_61) (pc' := 62) rfl (v := (FP.i2d w0_v60)) rfl ?_
    refine own_s_dstore X0.here hx (hb hby at_62) (pc' := 64) rfl (L' := #[.val (.int p0), .val (.long p1), .second, .val (.long p2), .second, .val (.long p3), .second, .val (.long p4), .second, .val (.int (0 : Int32)), .val (.double (FP.i2d w0_v9)), .second, .val (.double (FP.i2d w0_v17)), .second, .val (.double (FP.i2d w0_v22)), .second, .val (.double (FP.i2d w0_v30)), .second, .val (.double (FP.i2d w0_v36)), .second, .val (.double (FP.i2d w0_v45)), .second, .val (.double (FP.i2d w0_v51)), .second, .val (.double (FP.i2d w0_v60)), .second, .unset, .unset]) rfl ?_
    refine own_s_iload X0.here hx (hb hby at_64) (pc' := 66) rfl rfl ?_
    refine own_s_ifNo X0.here hx (hb hby at_66) (pc' := 69) rfl (by decide) ?_
    refine own_s_iconst X0.here hx (hb hby at_69) (pc' := 70) rfl (v := (0 : Int32)) (by decide) ?_
    refine stw01 _ ?_
    refine own_s_astore Xw01.here hx (hb hby at_72) (pc' := 74) rfl rfl (L' := #[.val (.int p0), .val (.long p1), .second, .val (.long p2), .second, .val (.long p3), .second, .val (.long p4), .second, .val (.int (0 : Int32)), .val (.double (FP.i2d w0_v9)), .second, .val (.double (FP.i2d w0_v17)), .second, .val (.double (FP.i2d w0_v22)), .second, .val (.double (FP.i2d w0_v30)), .second, .val (.double (FP.i2d w0_v36)), .second, .val (.double (FP.i2d w0_v45)), .second, .val (.double (FP.i2d w0_v51)), .second, .val (.double (FP.i2d w0_v60)), .second, .val (.ref bw01), .unset]) rfl ?_
    refine own_s_goto Xw01.here hx (hb hby at_74) (by decide) (pc' := 228) (by decide) ?_
    refine own_s_aload Xw01.here hx (hb hby at_228) (pc' := 230) rfl rfl rfl ?_
    refine stw02 _ ?_
    show Steps p.tables e below (Tw02.setTop (mkF m 233 #[.val (.int p0), .val (.long p1), .second, .val (.long p2), .second, .val (.long p3), .second, .val (.long p4), .second, .val (.int (0 : Int32)), .val (.double (FP.i2d w0_v9)), .second, .val (.double (FP.i2d w0_v17)), .second, .val (.double (FP.i2d w0_v22)), .second, .val (.double (FP.i2d w0_v30)), .second, .val (.double (FP.i2d w0_v36)), .second, .val (.double (FP.i2d w0_v45)), .second, .val (.double (FP.i2d w0_v51)), .second, .val (.double (FP.i2d w0_v60)), .second, .val (.ref bw01), .unset] [(.ref bw02)])) _
    refine own_s_astore Xw02.here hx (hb hby at_233) (pc' := 235) rfl rfl (L' := #[.val (.int p0), .val (.long p1), .second, .val (.long p2), .second, .val (.long p3), .second, .val (.long p4), .second, .val (.int (0 : Int32)), .val (.double (FP.i2d w0_v9)), .second, .val (.double (FP.i2d w0_v17)), .second, .val (.double (FP.i2d w0_v22)), .second, .val (.double (FP.i2d w0_v30)), .second, .val (.double (FP.i2d w0_v36)), .second, .val (.double (FP.i2d w0_v45)), .second, .val (.double (FP.i2d w0_v51)), .second, .val (.double (FP.i2d w0_v60)), .second, .val (.ref bw01), .val (.ref bw02)]) rfl ?_
    refine own_s_aload Xw02.here hx (hb hby at_235) (pc' := 237) rfl rfl rfl ?_
    refine own_s_ifnullNo Xw02.here hx (hb hby at_237) (pc' := 240) rfl  ?_
    refine own_s_aload Xw02.here hx (hb hby at_240) (pc' := 242) rfl rfl rfl ?_
    refine own_len Xw02 hx hZ rfl qw02_0 (hb hby at_242) (pc' := 243) rfl ?_
    refine own_s_iconst Xw02.here hx (hb hby at_243) (pc' := 244) rfl (v := (2 : Int32)) (by decide) ?_
    refine own_s_iload Xw02.here hx (hb hby at_244) (pc' := 246) rfl rfl ?_
    refine own_s_imul Xw02.here hx (hb hby at_246) (pc' := 247) rfl (v := (0 : Int32)) (by decide) ?_
    refine own_s_icmpNo Xw02.here hx (hb hby at_247) (pc' := 250) rfl (by decide) ?_
    refine own_s_aload Xw02.here hx (hb hby at_250) (pc' := 252) rfl rfl rfl ?_
    refine own_len Xw02 hx hZ rfl V_bw01_w02 (hb hby at_252) (pc' := 253) rfl ?_
    refine own_s_iconst Xw02.here hx (hb hby at_253) (pc' := 254) rfl (v := (2 : Int32)) (by decide) ?_
    refine own_s_iload Xw02.here hx (hb hby at_254) (pc' := 256) rfl rfl ?_
    refine own_s_imul Xw02.here hx (hb hby at_256) (pc' := 257) rfl (v := (0 : Int32)) (by decide) ?_
    refine own_s_icmpYes Xw02.here hx (hb hby at_257) (by decide) (pc' := 262) (by decide) (by decide) ?_
    refine own_s_iload Xw02.here hx (hb hby at_262) (pc' := 264) rfl rfl ?_
    refine own_s_ifNo Xw02.here hx (hb hby at_264) (pc' := 267) rfl (by decide) ?_
    refine own_s_iconst Xw02.here hx (hb hby at_267) (pc' := 268) rfl (v := (1 : Int32)) (by decide) ?_
    exact retN Xw02 hx (t := .boolean) Bd.returns (by simp) (hb hby at_268) hr
  · show own_Q0 n0 _ Tw02.heap _
    exact ⟨rfl, Nw02⟩
theorem own_d1_13 : decode prog_112_method_11_code 13 = .ok (.aload_n 1, 1) := by decide +kernel
theorem own_d1_14 : decode prog_112_method_11_code 14 = .ok (.aload_n 0, 1) := by decide +kernel
theorem own_d1_15 : decode prog_112_method_11_code 15 = .ok (.arraylength, 1) := by decide +kernel
theorem own_d1_16 : decode prog_112_method_11_code 16 = .ok (.iconst 2, 1) := by decide +kernel
theorem own_d1_17 : decode prog_112_method_11_code 17 = .ok (.isub, 1) := by decide +kernel
theorem own_d1_18 : decode prog_112_method_11_code 18 = .ok (.iload_n 2, 1) := by decide +kernel
theorem own_d1_19 : decode prog_112_method_11_code 19 = .ok (.isub, 1) := by decide +kernel
theorem own_d1_20 : decode prog_112_method_11_code 20 = .ok (.aload_n 0, 1) := by decide +kernel
theorem own_d1_21 : decode prog_112_method_11_code 21 = .ok (.iload_n 2, 1) := by decide +kernel
theorem own_d1_22 : decode prog_112_method_11_code 22 = .ok (.daload, 1) := by decide +kernel
theorem own_d1_23 : decode prog_112_method_11_code 23 = .ok (.dastore, 1) := by decide +kernel
theorem own_d1_24 : decode prog_112_method_11_code 24 = .ok (.aload_n 1, 1) := by decide +kernel
theorem own_d1_25 : decode prog_112_method_11_code 25 = .ok (.aload_n 0, 1) := by decide +kernel
theorem own_d1_26 : decode prog_112_method_11_code 26 = .ok (.arraylength, 1) := by decide +kernel
theorem own_d1_27 : decode prog_112_method_11_code 27 = .ok (.iconst 1, 1) := by decide +kernel
theorem own_d1_28 : decode prog_112_method_11_code 28 = .ok (.isub, 1) := by decide +kernel
theorem own_d1_29 : decode prog_112_method_11_code 29 = .ok (.iload_n 2, 1) := by decide +kernel
theorem own_d1_30 : decode prog_112_method_11_code 30 = .ok (.isub, 1) := by decide +kernel
theorem own_d1_31 : decode prog_112_method_11_code 31 = .ok (.aload_n 0, 1) := by decide +kernel
theorem own_d1_32 : decode prog_112_method_11_code 32 = .ok (.iload_n 2, 1) := by decide +kernel
theorem own_d1_33 : decode prog_112_method_11_code 33 = .ok (.iconst 1, 1) := by decide +kernel
theorem own_d1_34 : decode prog_112_method_11_code 34 = .ok (.iadd, 1) := by decide +kernel
theorem own_d1_35 : decode prog_112_method_11_code 35 = .ok (.daload, 1) := by decide +kernel
theorem own_d1_36 : decode prog_112_method_11_code 36 = .ok (.dastore, 1) := by decide +kernel
theorem own_d1_37 : decode prog_112_method_11_code 37 = .ok (.iinc 2 2, 3) := by decide +kernel
theorem own_d1_40 : decode prog_112_method_11_code 40 = .ok (.goto (-33), 3) := by decide +kernel
theorem own_ef_c1 (m : MethodId) (q : Addr) : entryFrame m #[(.ref q)] 3 = mkF m 0 #[.val (.ref q), .unset, .unset] [] := by first | (simp [entryFrame, mkF, argsToLocals, Value.category]; done) | rfl
def own_Q_c1 (Z : State) (q : Addr) (d0 : UInt64) (d1 : UInt64) (qk : ClassId) (h0 : Heap) (n0 : Nat) (v : Option Value) (h : Heap) (L : List Loc) : Prop := ∃ (bc11 : Addr) (kc11 : ClassId), v = some (.ref bc11) ∧ Fr n0 L ∧ Keep h0 h [] ∧ h0.size ≤ bc11 ∧ Arv Z h bc11 kc11 .double (2 : Int32) [(.double d0), (.double d1)] (.double 0)
set_option maxRecDepth 65536 in
set_option maxHeartbeats 40000000 in
theorem own_rm_c1 (l : Launch) (Z : State) (a0 : Array Value) (hw : ∀ d ∈ tables_1, d.before a0 Z = true) (ws : List Jvm.Cond) (q : Addr) (d0 : UInt64) (d1 : UInt64) {qk : ClassId} (h0 : Heap) (n0 : Nat) (Z0 : n0 ≤ h0.size) (V_q : Arv Z h0 q qk .double (2 : Int32) [(.double d0), (.double d1)] (.double 0))  :
    MetFree l (⟨"com/example/hachure/hachure/render/ParallelLines", "reversed", "([D)[D"⟩ : MethodName) (head1 (Jvm.Cond.code (⟨"com/example/hachure/hachure/render/ParallelLines", "reversed", "([D)[D"⟩ : MethodName) prog_112_method_11_code 3 (some (.array .double)) :: ws) ({ frames := 0, cells := 1, slots := 2, locals := 0 } : Room)) (fun a U => a = #[(.ref q)] ∧ Z.Warmed39 U.vm ∧ U.heap = h0) (fun _ _ _ _ _ => True) (fun _ U o U' => ∃ v L, o = .returned v ∧ own_Q_c1 Z q d0 d1 qk h0 n0 v U'.heap L ∧ FrameEnd U o U' L ({ frames := 0, cells := 1, slots := 2, locals := 0 } : Room).cells ({ frames := 0, cells := 1, slots := 2, locals := 0 } : Room).slots) := by
  refine MetFree.of_bodySF (plainFor_of_name own_pn_com_example_hachure_hachure_render_ParallelLines) hisR ?_
  intro p e s m args below meth c s₁ Bd hml0 hP hK
  obtain ⟨rfl, hZ, hh⟩ := hP
  have hx := Bd.exec
  have hby := Bd.bytes
  have hml : c.maxLocals = 3 := hml0
  have hown : s.vm.findClass "com/example/hachure/hachure/render/ParallelLines" = some m.cls := findClass_of_methodNamed Bd.named
  have hnm := (name_of_methodNamed Bd.named Bd.method).1
  have X0 : Stand p l e ({ frames := 0, cells := 1, slots := 2, locals := 0 } : Room) s m #[(.ref q)] below meth c s₁ [] 0 0 := Stand.of_body Bd
  have e0 : s₁.heap = h0 := by rw [← hh, Bd.state]; rfl
  have N0 := Fr.nil n0
  have pre0 : ∀ t, Steps p.tables e below (s₁.setTop (mkF m 0 #[.val (.ref q), .unset, .unset] [])) t → Steps p.tables e below (s₁.setTop (entryFrame m #[(.ref q)] 3)) t := fun t k => castTop (own_ef_c1 m q) k
  obtain ⟨Tc11, hc11, kc11, bc11, Xc11, ec11, Ec11, Gc11, Vc11, stc11⟩ := own_newD (L := #[.val (.ref q), .unset, .unset]) (S := []) X0 hx hZ (hw _ (List.mem_of_getElem? (i := 1) rfl)) e0 (z := (2 : Int32)) 2 (by decide) (by decide) (by decide) (by decide) (by decide) (hb hby own_d1_2) (pc' := 4) rfl
  have ne_q_bc11 : q ≠ bc11 := Nat.ne_of_lt (Nat.lt_of_lt_of_le V_q.lt (Nat.le_of_eq Gc11.symm))
  have ne_bc11_q : bc11 ≠ q := Ne.symm ne_q_bc11
  have g_bc11 : n0 ≤ bc11 := Nat.le_trans Z0 (Nat.le_of_eq Gc11.symm)
  have sz_bc11 : h0.size ≤ bc11 := Nat.le_trans (Keep.refl h0 []).1 (Nat.le_of_eq Gc11.symm)
  have V_q_c11 := V_q.ext Ec11
  have Zc11 : n0 ≤ hc11.size := Nat.le_trans Z0 Ec11.1
  have KKc11 := (Keep.refl h0 []).ext Ec11
  have V_bc11 : Arv Z hc11 bc11 kc11 .double (2 : Int32) [(.double 0), (.double 0)] (.double 0) := Vc11
  obtain ⟨Tc12, hc12, Xc12, ec12, Wc12, Vc12, stc12⟩ := own_stD (L := #[.val (.ref q), .val (.ref bc11), .val (.int (0 : Int32))]) (S := []) Xc11 hx hZ ec11 V_bc11 (j := (0 : Int32)) (x := d0) (by decide) 0 (by decide) (Nat.le_of_ble_eq_true rfl) (hb hby own_d1_23) (pc' := 24) rfl
  have V_q_c12 := V_q_c11.other Wc12 ne_q_bc11
  have Zc12 : n0 ≤ hc12.size := Nat.le_trans Zc11 (Nat.le_of_eq Wc12.size.symm)
  have KKc12 := KKc11.wr Wc12 (Or.inr sz_bc11)
  have V_bc11_c12 : Arv Z hc12 bc11 kc11 .double (2 : Int32) [(.double d0), (.double 0)] (.double 0) := Vc12
  have Nc12 := Fr.snoc Xc12 N0 g_bc11
  obtain ⟨Tc13, hc13, Xc13, ec13, Wc13, Vc13, stc13⟩ := own_stD (L := #[.val (.ref q), .val (.ref bc11), .val (.int (0 : Int32))]) (S := []) Xc12 hx hZ ec12 V_bc11_c12 (j := (1 : Int32)) (x := d1) (by decide) 1 (by decide) (Nat.le_of_ble_eq_true rfl) (hb hby own_d1_36) (pc' := 37) rfl
  have V_q_c13 := V_q_c12.other Wc13 ne_q_bc11
  have Zc13 : n0 ≤ hc13.size := Nat.le_trans Zc12 (Nat.le_of_eq Wc13.size.symm)
  have KKc13 := KKc12.wr Wc13 (Or.inr sz_bc11)
  have V_bc11_c13 : Arv Z hc13 bc11 kc11 .double (2 : Int32) [(.double d0), (.double d1)] (.double 0) := Vc13
  have Nc13 := Fr.snoc Xc13 Nc12 g_bc11
  obtain ⟨fs, hr, hrun, hended, hW, hsame⟩ := Xc13.leave (v := some (.ref bc11)) (fun h => by rw [Bd.returns] at h; cases h)
  refine ⟨_, _, pre0 _ ?_, hrun, hended, _, _, rfl, ?_, ⟨_, rfl⟩, hW, hsame.mono (by decide) (by decide)⟩
  · refine own_s_aloadN X0.here hx (hb hby own_d1_0) (pc' := 1) rfl rfl rfl ?_
    refine own_len X0 hx hZ e0 V_q (hb hby own_d1_1) (pc' := 2) rfl ?_
    refine stc11 _ ?_
    refine own_s_astoreN Xc11.here hx (hb hby own_d1_4) (pc' := 5) rfl rfl (L' := #[.val (.ref q), .val (.ref bc11), .unset]) rfl ?_
    refine own_s_iconst Xc11.here hx (hb hby own_d1_5) (pc' := 6) rfl (v := (0 : Int32)) (by decide) ?_
    refine own_s_istoreN Xc11.here hx (hb hby own_d1_6) (pc' := 7) rfl (L' := #[.val (.ref q), .val (.ref bc11), .val (.int (0 : Int32))]) rfl ?_
    refine own_s_iloadN Xc11.here hx (hb hby own_d1_7) (pc' := 8) rfl rfl ?_
    refine own_s_aloadN Xc11.here hx (hb hby own_d1_8) (pc' := 9) rfl rfl rfl ?_
    refine own_len Xc11 hx hZ ec11 V_q_c11 (hb hby own_d1_9) (pc' := 10) rfl ?_
    refine own_s_icmpNo Xc11.here hx (hb hby own_d1_10) (pc' := 13) rfl (by decide) ?_
    refine own_s_aloadN Xc11.here hx (hb hby own_d1_13) (pc' := 14) rfl rfl rfl ?_
    refine own_s_aloadN Xc11.here hx (hb hby own_d1_14) (pc' := 15) rfl rfl rfl ?_
    refine own_len Xc11 hx hZ ec11 V_q_c11 (hb hby own_d1_15) (pc' := 16) rfl ?_
    refine own_s_iconst Xc11.here hx (hb hby own_d1_16) (pc' := 17) rfl (v := (2 : Int32)) (by decide) ?_
    refine own_s_isub Xc11.here hx (hb hby own_d1_17) (pc' := 18) rfl (v := (0 : Int32)) (by decide) ?_
    refine own_s_iloadN Xc11.here hx (hb hby own_d1_18) (pc' := 19) rfl rfl ?_
    refine own_s_isub Xc11.here hx (hb hby own_d1_19) (pc' := 20) rfl (v := (0 : Int32)) (by decide) ?_
    refine own_s_aloadN Xc11.here hx (hb hby own_d1_20) (pc' := 21) rfl rfl rfl ?_
    refine own_s_iloadN Xc11.here hx (hb hby own_d1_21) (pc' := 22) rfl rfl ?_
    refine own_ldD Xc11 hx hZ ec11 V_q_c11 (j := (0 : Int32)) (x := d0) (by decide) rfl (hb hby own_d1_22) (pc' := 23) rfl ?_
    refine stc12 _ ?_
    refine own_s_aloadN Xc12.here hx (hb hby own_d1_24) (pc' := 25) rfl rfl rfl ?_
    refine own_s_aloadN Xc12.here hx (hb hby own_d1_25) (pc' := 26) rfl rfl rfl ?_
    refine own_len Xc12 hx hZ ec12 V_q_c12 (hb hby own_d1_26) (pc' := 27) rfl ?_
    refine own_s_iconst Xc12.here hx (hb hby own_d1_27) (pc' := 28) rfl (v := (1 : Int32)) (by decide) ?_
    refine own_s_isub Xc12.here hx (hb hby own_d1_28) (pc' := 29) rfl (v := (1 : Int32)) (by decide) ?_
    refine own_s_iloadN Xc12.here hx (hb hby own_d1_29) (pc' := 30) rfl rfl ?_
    refine own_s_isub Xc12.here hx (hb hby own_d1_30) (pc' := 31) rfl (v := (1 : Int32)) (by decide) ?_
    refine own_s_aloadN Xc12.here hx (hb hby own_d1_31) (pc' := 32) rfl rfl rfl ?_
    refine own_s_iloadN Xc12.here hx (hb hby own_d1_32) (pc' := 33) rfl rfl ?_
    refine own_s_iconst Xc12.here hx (hb hby own_d1_33) (pc' := 34) rfl (v := (1 : Int32)) (by decide) ?_
    refine own_s_iadd Xc12.here hx (hb hby own_d1_34) (pc' := 35) rfl (v := (1 : Int32)) (by decide) ?_
    refine own_ldD Xc12 hx hZ ec12 V_q_c12 (j := (1 : Int32)) (x := d1) (by decide) rfl (hb hby own_d1_35) (pc' := 36) rfl ?_
    refine stc13 _ ?_
    refine own_s_iinc Xc13.here hx (hb hby own_d1_37) (pc' := 40) rfl rfl (v := (2 : Int32)) (by decide) (L' := #[.val (.ref q), .val (.ref bc11), .val (.int (2 : Int32))]) rfl ?_
    refine own_s_goto Xc13.here hx (hb hby own_d1_40) (by decide) (pc' := 7) (by decide) ?_
    refine own_s_iloadN Xc13.here hx (hb hby own_d1_7) (pc' := 8) rfl rfl ?_
    refine own_s_aloadN Xc13.here hx (hb hby own_d1_8) (pc' := 9) rfl rfl rfl ?_
    refine own_len Xc13 hx hZ ec13 V_q_c13 (hb hby own_d1_9) (pc' := 10) rfl ?_
    refine own_s_icmpYes Xc13.here hx (hb hby own_d1_10) (by decide) (pc' := 43) (by decide) (by decide) ?_
    refine own_s_aloadN Xc13.here hx (hb hby own_d1_43) (pc' := 44) rfl rfl rfl ?_
    exact own_retR Xc13 hx Bd.returns rfl (hb hby own_d1_44) hr
  · show own_Q_c1 Z q d0 d1 qk h0 n0 _ Tc13.heap _
    rw [ec13]
    exact ⟨bc11, kc11, rfl, Nc13, KKc13, sz_bc11, V_bc11_c13⟩
theorem own_ef_w1 (m : MethodId) (p0 : Int32) (p1 : Int64) (p2 : Int64) (p3 : Int64) (p4 : Int64) : entryFrame m #[(.int p0), (.long p1), (.long p2), (.long p3), (.long p4)] maxLocals = mkF m 0 #[.val (.int p0), .val (.long p1), .second, .val (.long p2), .second, .val (.long p3), .second, .val (.long p4), .second, .unset, .unset, .unset, .unset, .unset, .unset, .unset, .unset, .unset, .unset, .unset, .unset, .unset, .unset, .unset, .unset, .unset, .unset, .unset] [] := by first | (simp [entryFrame, mkF, argsToLocals, Value.category, maxLocals]; done) | rfl
set_option maxRecDepth 65536 in
set_option maxHeartbeats 40000000 in
theorem own_rm_w1 (l : Launch) (Z : State) (a0 : Array Value) (hw : ∀ d ∈ tables_1, d.before a0 Z = true) (ws : List Jvm.Cond) (p0 : Int32) (p1 : Int64) (p2 : Int64) (p3 : Int64) (p4 : Int64) {w1_v3 : Int32} {w1_v9 : Int32} {w1_v16 : Int64} {w1_v17 : Int32} {w1_v22 : Int32} {w1_v29 : Int64} {w1_v30 : Int32} {w1_v36 : Int32} {w1_v44 : Int64} {w1_v45 : Int32} {w1_v51 : Int32} {w1_v59 : Int64} {w1_v60 : Int32} (h0 : Heap) (n0 : Nat) (Z0 : n0 ≤ h0.size)  (w1_hv3 : p0 &&& (2147483647 : Int32) = w1_v3) (w1_hv5 : w1_v3 % (5 : Int32) = (1 : Int32)) (w1_hv9 : Int64.toInt32 p1 = w1_v9) (w1_hv16 : p1 >>> ((32 : Int32) &&& 63).toInt64 = w1_v16) (w1_hv17 : Int64.toInt32 w1_v16 = w1_v17) (w1_hv22 : Int64.toInt32 p2 = w1_v22) (w1_hv29 : p2 >>> ((32 : Int32) &&& 63).toInt64 = w1_v29) (w1_hv30 : Int64.toInt32 w1_v29 = w1_v30) (w1_hv36 : Int64.toInt32 p3 = w1_v36) (w1_hv44 : p3 >>> ((32 : Int32) &&& 63).toInt64 = w1_v44) (w1_hv45 : Int64.toInt32 w1_v44 = w1_v45) (w1_hv51 : Int64.toInt32 p4 = w1_v51) (w1_hv59 : p4 >>> ((32 : Int32) &&& 63).toInt64 = w1_v59) (w1_hv60 : Int64.toInt32 w1_v59 = w1_v60) (w1_hc281 : Op.cmpValue (FP.dcmp (FP.i2d w1_v9) (FP.i2d w1_v9)) .l = (0 : Int32)) (w1_hc291 : Op.cmpValue (FP.dcmp (FP.i2d w1_v17) (FP.i2d w1_v17)) .l = (0 : Int32)) (w1_hc301 : Op.cmpValue (FP.dcmp (FP.i2d w1_v9) (FP.i2d w1_v9)) .l = (0 : Int32)) (w1_hc311 : Op.cmpValue (FP.dcmp (FP.i2d w1_v17) (FP.i2d w1_v17)) .l = (0 : Int32)) :
    MetFree l x (head1 (Jvm.Cond.code x code maxLocals ret :: ws) room_1) (fun a U => a = #[(.int p0), (.long p1), (.long p2), (.long p3), (.long p4)] ∧ Z.Warmed39 U.vm ∧ U.heap = h0) (fun _ _ _ _ _ => True) (fun _ U o U' => ∃ v L, o = .returned v ∧ own_Q0 n0 v U'.heap L ∧ FrameEnd U o U' L room_1.cells room_1.slots) := by
  refine MetFree.of_bodySF (plainFor_of_name own_pn_com_example_hachure_hachure_render_ParallelLinesReversedPinLaw) hisR ?_
  intro p e s m args below meth c s₁ Bd hml0 hP hK
  obtain ⟨rfl, hZ, hh⟩ := hP
  have hx := Bd.exec
  have hby := Bd.bytes
  have hml : c.maxLocals = 28 := hml0
  have hown : s.vm.findClass "com/example/hachure/hachure/render/ParallelLinesReversedPinLaw" = some m.cls := findClass_of_methodNamed Bd.named
  have hnm := (name_of_methodNamed Bd.named Bd.method).1
  have X0 : Stand p l e room_1 s m #[(.int p0), (.long p1), (.long p2), (.long p3), (.long p4)] below meth c s₁ [] 0 0 := Stand.of_body Bd
  have e0 : s₁.heap = h0 := by rw [← hh, Bd.state]; rfl
  have N0 := Fr.nil n0
  have pre0 : ∀ t, Steps p.tables e below (s₁.setTop (mkF m 0 #[.val (.int p0), .val (.long p1), .second, .val (.long p2), .second, .val (.long p3), .second, .val (.long p4), .second, .unset, .unset, .unset, .unset, .unset, .unset, .unset, .unset, .unset, .unset, .unset, .unset, .unset, .unset, .unset, .unset, .unset, .unset, .unset] [])) t → Steps p.tables e below (s₁.setTop (entryFrame m #[(.int p0), (.long p1), (.long p2), (.long p3), (.long p4)] maxLocals)) t := fun t k => castTop (own_ef_w1 m p0 p1 p2 p3 p4) k
  obtain ⟨Tw11, hw11, kw11, bw11, Xw11, ew11, Ew11, Gw11, Vw11, stw11⟩ := own_newD (L := #[.val (.int p0), .val (.long p1), .second, .val (.long p2), .second, .val (.long p3), .second, .val (.long p4), .second, .val (.int (1 : Int32)), .val (.double (FP.i2d w1_v9)), .second, .val (.double (FP.i2d w1_v17)), .second, .val (.double (FP.i2d w1_v22)), .second, .val (.double (FP.i2d w1_v30)), .second, .val (.double (FP.i2d w1_v36)), .second, .val (.double (FP.i2d w1_v45)), .second, .val (.double (FP.i2d w1_v51)), .second, .val (.double (FP.i2d w1_v60)), .second, .unset, .unset]) (S := []) X0 hx hZ (hw _ (List.mem_of_getElem? (i := 1) rfl)) e0 (z := (2 : Int32)) 2 (by decide) (by decide) (by decide) (by decide) (by decide) (hb hby at_84) (pc' := 86) rfl
  have g_bw11 : n0 ≤ bw11 := Nat.le_trans Z0 (Nat.le_of_eq Gw11.symm)
  have sz_bw11 : h0.size ≤ bw11 := Nat.le_trans (Keep.refl h0 []).1 (Nat.le_of_eq Gw11.symm)
  have Zw11 : n0 ≤ hw11.size := Nat.le_trans Z0 Ew11.1
  have KKw11 := (Keep.refl h0 []).ext Ew11
  have V_bw11 : Arv Z hw11 bw11 kw11 .double (2 : Int32) [(.double 0), (.double 0)] (.double 0) := Vw11
  obtain ⟨Tw12, hw12, Xw12, ew12, Ww12, Vw12, stw12⟩ := own_stD (L := #[.val (.int p0), .val (.long p1), .second, .val (.long p2), .second, .val (.long p3), .second, .val (.long p4), .second, .val (.int (1 : Int32)), .val (.double (FP.i2d w1_v9)), .second, .val (.double (FP.i2d w1_v17)), .second, .val (.double (FP.i2d w1_v22)), .second, .val (.double (FP.i2d w1_v30)), .second, .val (.double (FP.i2d w1_v36)), .second, .val (.double (FP.i2d w1_v45)), .second, .val (.double (FP.i2d w1_v51)), .second, .val (.double (FP.i2d w1_v60)), .second, .unset, .unset]) (S := [(.ref bw11)]) Xw11 hx hZ ew11 V_bw11 (j := (0 : Int32)) (x := (FP.i2d w1_v9)) (by decide) 0 (by decide) (Nat.le_of_ble_eq_true rfl) (hb hby at_90) (pc' := 91) rfl
  have Zw12 : n0 ≤ hw12.size := Nat.le_trans Zw11 (Nat.le_of_eq Ww12.size.symm)
  have KKw12 := KKw11.wr Ww12 (Or.inr sz_bw11)
  have V_bw11_w12 : Arv Z hw12 bw11 kw11 .double (2 : Int32) [(.double (FP.i2d w1_v9)), (.double 0)] (.double 0) := Vw12
  have Nw12 := Fr.snoc Xw12 N0 g_bw11
  obtain ⟨Tw13, hw13, Xw13, ew13, Ww13, Vw13, stw13⟩ := own_stD (L := #[.val (.int p0), .val (.long p1), .second, .val (.long p2), .second, .val (.long p3), .second, .val (.long p4), .second, .val (.int (1 : Int32)), .val (.double (FP.i2d w1_v9)), .second, .val (.double (FP.i2d w1_v17)), .second, .val (.double (FP.i2d w1_v22)), .second, .val (.double (FP.i2d w1_v30)), .second, .val (.double (FP.i2d w1_v36)), .second, .val (.double (FP.i2d w1_v45)), .second, .val (.double (FP.i2d w1_v51)), .second, .val (.double (FP.i2d w1_v60)), .second, .unset, .unset]) (S := [(.ref bw11)]) Xw12 hx hZ ew12 V_bw11_w12 (j := (1 : Int32)) (x := (FP.i2d w1_v17)) (by decide) 1 (by decide) (Nat.le_of_ble_eq_true rfl) (hb hby at_95) (pc' := 96) rfl
  have Zw13 : n0 ≤ hw13.size := Nat.le_trans Zw12 (Nat.le_of_eq Ww13.size.symm)
  have KKw13 := KKw12.wr Ww13 (Or.inr sz_bw11)
  have V_bw11_w13 : Arv Z hw13 bw11 kw11 .double (2 : Int32) [(.double (FP.i2d w1_v9)), (.double (FP.i2d w1_v17))] (.double 0) := Vw13
  have Nw13 := Fr.snoc Xw13 Nw12 g_bw11
  obtain ⟨_, _, ⟨Tw14, Lw14, kw14, nw14⟩, -, Xw14, ⟨Lcw14, hQw14, lw14, yw14, zw14⟩, stw14⟩ := Jvm.LawKit.callS Xw13 hx (y := (⟨"com/example/hachure/hachure/render/ParallelLines", "reversed", "([D)[D"⟩ : MethodName)) hown (mvT hZ (hw _ (List.mem_of_getElem? (i := 2) rfl))) (mvT hZ (hw _ (List.mem_of_getElem? (i := 3) rfl))) (mvT hZ (hw _ (List.mem_of_getElem? (i := 4) rfl))) (mvT hZ (hw _ (List.mem_of_getElem? (i := 5) rfl))) (by decide) (backOf (W := 0) (own_rm_c1 l Z a0 hw [] bw11 (FP.i2d w1_v9) (FP.i2d w1_v17) hw13 n0 Zw13 V_bw11_w13) hZ (hw _ (List.mem_of_getElem? (i := 5) rfl)) (hw _ (List.mem_of_getElem? (i := 4) rfl)) (by decide) (by decide)) (g := (mkF m 230 #[.val (.int p0), .val (.long p1), .second, .val (.long p2), .second, .val (.long p3), .second, .val (.long p4), .second, .val (.int (1 : Int32)), .val (.double (FP.i2d w1_v9)), .second, .val (.double (FP.i2d w1_v17)), .second, .val (.double (FP.i2d w1_v22)), .second, .val (.double (FP.i2d w1_v30)), .second, .val (.double (FP.i2d w1_v36)), .second, .val (.double (FP.i2d w1_v45)), .second, .val (.double (FP.i2d w1_v51)), .second, .val (.double (FP.i2d w1_v60)), .second, .val (.ref bw11), .unset] [(.ref bw11)])) rfl (by rw [hml]; rfl) (argsL := [(.ref bw11)]) (rest := []) (lenOf own_pd_285bD295bD rfl) rfl (by show 2 * 0 + _ ≤ _; exact Nat.le_of_eq rfl) (hb hby at_230) (fun _ _ => ⟨rfl, ew13, (by decide : 1 + 1 ≤ _), (by decide : 2 + 2 ≤ _)⟩)
  dsimp only [Pt.U, Pt.locs, Pt.cells, Pt.slots] at Xw14 lw14 yw14 zw14 stw14 hQw14
  subst lw14 yw14 zw14
  obtain ⟨bw14, kw14a, rfl, Nw14q, Kw14, Gw14, qw14_0⟩ := hQw14
  have ne_bw11_bw14 : bw11 ≠ bw14 := Nat.ne_of_lt (Nat.lt_of_lt_of_le V_bw11_w13.lt Gw14)
  have ne_bw14_bw11 : bw14 ≠ bw11 := Ne.symm ne_bw11_bw14
  have g_bw14 : n0 ≤ bw14 := Nat.le_trans Zw13 Gw14
  have sz_bw14 : h0.size ≤ bw14 := Nat.le_trans KKw13.1 Gw14
  have V_bw11_w14 := V_bw11_w13.keep Kw14 (List.not_mem_nil)
  have Zw14 : n0 ≤ Tw14.heap.size := Nat.le_trans Zw13 Kw14.1
  have KKw14 := KKw13.trans Kw14 (fun _ q => nomatch q)
  have Nw14 := Fr.app Nw13 Nw14q
  obtain ⟨fs, hr, hrun, hended, hW, hsame⟩ := Xw14.leave (v := some (.int (1 : Int32))) (fun h => by rw [Bd.returns] at h; cases h)
  refine ⟨_, _, pre0 _ ?_, hrun, hended, _, _, rfl, ?_, ⟨_, rfl⟩, hW, hsame.mono (by decide) (by decide)⟩
  · refine own_s_iloadN X0.here hx (hb hby at_0) (pc' := 1) rfl rfl ?_
    refine X0.ldcInt hx hown (mvT hZ (hw _ (List.mem_of_getElem? (i := 0) rfl))) (g := (mkF m 1 #[.val (.int p0), .val (.long p1), .second, .val (.long p2), .second, .val (.long p3), .second, .val (.long p4), .second, .unset, .unset, .unset, .unset, .unset, .unset, .unset, .unset, .unset, .unset, .unset, .unset, .unset, .unset, .unset, .unset, .unset, .unset, .unset] [(.int p0)])) rfl (hb hby at_1) _ ?_
    show Steps p.tables e below (s₁.setTop (mkF m 3 #[.val (.int p0), .val (.long p1), .second, .val (.long p2), .second, .val (.long p3), .second, .val (.long p4), .second, .unset, .unset, .unset, .unset, .unset, .unset, .unset, .unset, .unset, .unset, .unset, .unset, .unset, .unset, .unset, .unset, .unset, .unset, .unset] [(.int (2147483647 : Int32)), (.int p0)])) _
    refine own_s_iand X0.here hx (hb hby at_3) (pc' := 4) rfl (v := w1_v3) w1_hv3 ?_
    refine own_s_iconst X0.here hx (hb hby at_4) (pc' := 5) rfl (v := (5 : Int32)) (by decide) ?_
    refine own_s_irem X0.here hx (hb hby at_5) (pc' := 6) rfl (by decide) (v := (1 : Int32)) w1_hv5 ?_
    refine own_s_istore X0.here hx (hb hby at_6) (pc' := 8) rfl (L' := #[.val (.int p0), .val (.long p1), .second, .val (.long p2), .second, .val (.long p3), .second, .val (.long p4), .second, .val (.int (1 : Int32)), .unset, .unset, .unset, .unset, .unset, .unset, .unset, .unset, .unset, .unset, .unset, .unset, .unset, .unset, .unset, .unset, .unset, .unset]) rfl ?_
    refine own_s_lloadN X0.here hx (hb hby at_8) (pc' := 9) rfl rfl ?_
    refine own_s_l2i X0.here hx (hb hby at_9) (pc' := 10) rfl (v := w1_v9) w1_hv9 ?_
    refine own_s_i2d X0.here hx (hb hby at_10) (pc' := 11) rfl (v := (FP.i2d w1_v9)) rfl ?_
    refine own_s_dstore X0.here hx (hb hby at_11) (pc' := 13) rfl (L' := #[.val (.int p0), .val (.long p1), .second, .val (.long p2), .second, .val (.long p3), .second, .val (.long p4), .second, .val (.int (1 : Int32)), .val (.double (FP.i2d w1_v9)), .second, .unset, .unset, .unset, .unset, .unset, .unset, .unset, .unset, .unset, .unset, .unset, .unset, .unset, .unset, .unset, .unset]) rfl ?_
    refine own_s_lloadN X0.here hx (hb hby at_13) (pc' := 14) rfl rfl ?_
    refine own_s_bipush X0.here hx (hb hby at_14) (pc' := 16) rfl (v := (32 : Int32)) (by decide) ?_
    refine own_s_lshr X0.here hx (hb hby at_16) (pc' := 17) rfl (v := w1_v16) w1_hv16 ?_
    refine own_s_l2i X0.here hx (hb hby at_17) (pc' := 18) rfl (v := w1_v17) w1_hv17 ?_
    refine own_s_i2d X0.here hx (hb hby at_18) (pc' := 19) rfl (v := (FP.i2d w1_v17)) rfl ?_
    refine own_s_dstore X0.here hx (hb hby at_19) (pc' := 21) rfl (L' := #[.val (.int p0), .val (.long p1), .second, .val (.long p2), .second, .val (.long p3), .second, .val (.long p4), .second, .val (.int (1 : Int32)), .val (.double (FP.i2d w1_v9)), .second, .val (.double (FP.i2d w1_v17)), .second, .unset, .unset, .unset, .unset, .unset, .unset, .unset, .unset, .unset, .unset, .unset, .unset, .unset, .unset]) rfl ?_
    refine own_s_lloadN X0.here hx (hb hby at_21) (pc' := 22) rfl rfl ?_
    refine own_s_l2i X0.here hx (hb hby at_22) (pc' := 23) rfl (v := w1_v22) w1_hv22 ?_
    refine own_s_i2d X0.here hx (hb hby at_23) (pc' := 24) rfl (v := (FP.i2d w1_v22)) rfl ?_
    refine own_s_dstore X0.here hx (hb hby at_24) (pc' := 26) rfl (L' := #[.val (.int p0), .val (.long p1), .second, .val (.long p2), .second, .val (.long p3), .second, .val (.long p4), .second, .val (.int (1 : Int32)), .val (.double (FP.i2d w1_v9)), .second, .val (.double (FP.i2d w1_v17)), .second, .val (.double (FP.i2d w1_v22)), .second, .unset, .unset, .unset, .unset, .unset, .unset, .unset, .unset, .unset, .unset, .unset, .unset]) rfl ?_
    refine own_s_lloadN X0.here hx (hb hby at_26) (pc' := 27) rfl rfl ?_
    refine own_s_bipush X0.here hx (hb hby at_27) (pc' := 29) rfl (v := (32 : Int32)) (by decide) ?_
    refine own_s_lshr X0.here hx (hb hby at_29) (pc' := 30) rfl (v := w1_v29) w1_hv29 ?_
    refine own_s_l2i X0.here hx (hb hby at_30) (pc' := 31) rfl (v := w1_v30) w1_hv30 ?_
    refine own_s_i2d X0.here hx (hb hby at_31) (pc' := 32) rfl (v := (FP.i2d w1_v30)) rfl ?_
    refine own_s_dstore X0.here hx (hb hby at_32) (pc' := 34) rfl (L' := #[.val (.int p0), .val (.long p1), .second, .val (.long p2), .second, .val (.long p3), .second, .val (.long p4), .second, .val (.int (1 : Int32)), .val (.double (FP.i2d w1_v9)), .second, .val (.double (FP.i2d w1_v17)), .second, .val (.double (FP.i2d w1_v22)), .second, .val (.double (FP.i2d w1_v30)), .second, .unset, .unset, .unset, .unset, .unset, .unset, .unset, .unset, .unset, .unset]) rfl ?_
    refine own_s_lload X0.here hx (hb hby at_34) (pc' := 36) rfl rfl ?_
    refine own_s_l2i X0.here hx (hb hby at_36) (pc' := 37) rfl (v := w1_v36) w1_hv36 ?_
    refine own_s_i2d X0.here hx (hb hby at_37) (pc' := 38) rfl (v := (FP.i2d w1_v36)) rfl ?_
    refine own_s_dstore X0.here hx (hb hby at_38) (pc' := 40) rfl (L' := #[.val (.int p0), .val (.long p1), .second, .val (.long p2), .second, .val (.long p3), .second, .val (.long p4), .second, .val (.int (1 : Int32)), .val (.double (FP.i2d w1_v9)), .second, .val (.double (FP.i2d w1_v17)), .second, .val (.double (FP.i2d w1_v22)), .second, .val (.double (FP.i2d w1_v30)), .second, .val (.double (FP.i2d w1_v36)), .second, .unset, .unset, .unset, .unset, .unset, .unset, .unset, .unset]) rfl ?_
    refine own_s_lload X0.here hx (hb hby at_40) (pc' := 42) rfl rfl ?_
    refine own_s_bipush X0.here hx (hb hby at_42) (pc' := 44) rfl (v := (32 : Int32)) (by decide) ?_
    refine own_s_lshr X0.here hx (hb hby at_44) (pc' := 45) rfl (v := w1_v44) w1_hv44 ?_
    refine own_s_l2i X0.here hx (hb hby at_45) (pc' := 46) rfl (v := w1_v45) w1_hv45 ?_
    refine own_s_i2d X0.here hx (hb hby at_46) (pc' := 47) rfl (v := (FP.i2d w1_v45)) rfl ?_
    refine own_s_dstore X0.here hx (hb hby at_47) (pc' := 49) rfl (L' := #[.val (.int p0), .val (.long p1), .second, .val (.long p2), .second, .val (.long p3), .second, .val (.long p4), .second, .val (.int (1 : Int32)), .val (.double (FP.i2d w1_v9)), .second, .val (.double (FP.i2d w1_v17)), .second, .val (.double (FP.i2d w1_v22)), .second, .val (.double (FP.i2d w1_v30)), .second, .val (.double (FP.i2d w1_v36)), .second, .val (.double (FP.i2d w1_v45)), .second, .unset, .unset, .unset, .unset, .unset, .unset]) rfl ?_
    refine own_s_lload X0.here hx (hb hby at_49) (pc' := 51) rfl rfl ?_
    refine own_s_l2i X0.here hx (hb hby at_51) (pc' := 52) rfl (v := w1_v51) w1_hv51 ?_
    refine own_s_i2d X0.here hx (hb hby at_52) (pc' := 53) rfl (v := (FP.i2d w1_v51)) rfl ?_
    refine own_s_dstore X0.here hx (hb hby at_53) (pc' := 55) rfl (L' := #[.val (.int p0), .val (.long p1), .second, .val (.long p2), .second, .val (.long p3), .second, .val (.long p4), .second, .val (.int (1 : Int32)), .val (.double (FP.i2d w1_v9)), .second, .val (.double (FP.i2d w1_v17)), .second, .val (.double (FP.i2d w1_v22)), .second, .val (.double (FP.i2d w1_v30)), .second, .val (.double (FP.i2d w1_v36)), .second, .val (.double (FP.i2d w1_v45)), .second, .val (.double (FP.i2d w1_v51)), .second, .unset, .unset, .unset, .unset]) rfl ?_
    refine own_s_lload X0.here hx (hb hby at_55) (pc' := 57) rfl rfl ?_
    refine own_s_bipush X0.here hx (hb hby at_57) (pc' := 59) rfl (v := (32 : Int32)) (by decide) ?_
    refine own_s_lshr X0.here hx (hb hby at_59) (pc' := 60) rfl (v := w1_v59) w1_hv59 ?_
    refine own_s_l2i X0.here hx (hb hby at_60) (pc' := 61) rfl (v := w1_v60) w1_hv60 ?_
    refine own_s_i2d X0.here hx (hb hby at_61) (pc' := 62) rfl (v := (FP.i2d w1_v60)) rfl ?_
    refine own_s_dstore X0.here hx (hb hby at_62) (pc' := 64) rfl (L' := #[.val (.int p0), .val (.long p1), .second, .val (.long p2), .second, .val (.long p3), .second, .val (.long p4), .second, .val (.int (1 : Int32)), .val (.double (FP.i2d w1_v9)), .second, .val (.double (FP.i2d w1_v17)), .second, .val (.double (FP.i2d w1_v22)), .second, .val (.double (FP.i2d w1_v30)), .second, .val (.double (FP.i2d w1_v36)), .second, .val (.double (FP.i2d w1_v45)), .second, .val (.double (FP.i2d w1_v51)), .second, .val (.double (FP.i2d w1_v60)), .second, .unset, .unset]) rfl ?_
    refine own_s_iload X0.here hx (hb hby at_64) (pc' := 66) rfl rfl ?_
    refine own_s_ifYes X0.here hx (hb hby at_66) (by decide) (pc' := 77) (by decide) (by decide) ?_
    refine own_s_iload X0.here hx (hb hby at_77) (pc' := 79) rfl rfl ?_
    refine own_s_iconst X0.here hx (hb hby at_79) (pc' := 80) rfl (v := (1 : Int32)) (by decide) ?_
    refine own_s_icmpNo X0.here hx (hb hby at_80) (pc' := 83) rfl (by decide) ?_
    refine own_s_iconst X0.here hx (hb hby at_83) (pc' := 84) rfl (v := (2 : Int32)) (by decide) ?_
    refine stw11 _ ?_
    refine own_s_dup Xw11.here hx (hb hby at_86) (pc' := 87) rfl rfl ?_
    refine own_s_iconst Xw11.here hx (hb hby at_87) (pc' := 88) rfl (v := (0 : Int32)) (by decide) ?_
    refine own_s_dload Xw11.here hx (hb hby at_88) (pc' := 90) rfl rfl ?_
    refine stw12 _ ?_
    refine own_s_dup Xw12.here hx (hb hby at_91) (pc' := 92) rfl rfl ?_
    refine own_s_iconst Xw12.here hx (hb hby at_92) (pc' := 93) rfl (v := (1 : Int32)) (by decide) ?_
    refine own_s_dload Xw12.here hx (hb hby at_93) (pc' := 95) rfl rfl ?_
    refine stw13 _ ?_
    refine own_s_astore Xw13.here hx (hb hby at_96) (pc' := 98) rfl rfl (L' := #[.val (.int p0), .val (.long p1), .second, .val (.long p2), .second, .val (.long p3), .second, .val (.long p4), .second, .val (.int (1 : Int32)), .val (.double (FP.i2d w1_v9)), .second, .val (.double (FP.i2d w1_v17)), .second, .val (.double (FP.i2d w1_v22)), .second, .val (.double (FP.i2d w1_v30)), .second, .val (.double (FP.i2d w1_v36)), .second, .val (.double (FP.i2d w1_v45)), .second, .val (.double (FP.i2d w1_v51)), .second, .val (.double (FP.i2d w1_v60)), .second, .val (.ref bw11), .unset]) rfl ?_
    refine own_s_goto Xw13.here hx (hb hby at_98) (by decide) (pc' := 228) (by decide) ?_
    refine own_s_aload Xw13.here hx (hb hby at_228) (pc' := 230) rfl rfl rfl ?_
    refine stw14 _ ?_
    show Steps p.tables e below (Tw14.setTop (mkF m 233 #[.val (.int p0), .val (.long p1), .second, .val (.long p2), .second, .val (.long p3), .second, .val (.long p4), .second, .val (.int (1 : Int32)), .val (.double (FP.i2d w1_v9)), .second, .val (.double (FP.i2d w1_v17)), .second, .val (.double (FP.i2d w1_v22)), .second, .val (.double (FP.i2d w1_v30)), .second, .val (.double (FP.i2d w1_v36)), .second, .val (.double (FP.i2d w1_v45)), .second, .val (.double (FP.i2d w1_v51)), .second, .val (.double (FP.i2d w1_v60)), .second, .val (.ref bw11), .unset] [(.ref bw14)])) _
    refine own_s_astore Xw14.here hx (hb hby at_233) (pc' := 235) rfl rfl (L' := #[.val (.int p0), .val (.long p1), .second, .val (.long p2), .second, .val (.long p3), .second, .val (.long p4), .second, .val (.int (1 : Int32)), .val (.double (FP.i2d w1_v9)), .second, .val (.double (FP.i2d w1_v17)), .second, .val (.double (FP.i2d w1_v22)), .second, .val (.double (FP.i2d w1_v30)), .second, .val (.double (FP.i2d w1_v36)), .second, .val (.double (FP.i2d w1_v45)), .second, .val (.double (FP.i2d w1_v51)), .second, .val (.double (FP.i2d w1_v60)), .second, .val (.ref bw11), .val (.ref bw14)]) rfl ?_
    refine own_s_aload Xw14.here hx (hb hby at_235) (pc' := 237) rfl rfl rfl ?_
    refine own_s_ifnullNo Xw14.here hx (hb hby at_237) (pc' := 240) rfl  ?_
    refine own_s_aload Xw14.here hx (hb hby at_240) (pc' := 242) rfl rfl rfl ?_
    refine own_len Xw14 hx hZ rfl qw14_0 (hb hby at_242) (pc' := 243) rfl ?_
    refine own_s_iconst Xw14.here hx (hb hby at_243) (pc' := 244) rfl (v := (2 : Int32)) (by decide) ?_
    refine own_s_iload Xw14.here hx (hb hby at_244) (pc' := 246) rfl rfl ?_
    refine own_s_imul Xw14.here hx (hb hby at_246) (pc' := 247) rfl (v := (2 : Int32)) (by decide) ?_
    refine own_s_icmpNo Xw14.here hx (hb hby at_247) (pc' := 250) rfl (by decide) ?_
    refine own_s_aload Xw14.here hx (hb hby at_250) (pc' := 252) rfl rfl rfl ?_
    refine own_len Xw14 hx hZ rfl V_bw11_w14 (hb hby at_252) (pc' := 253) rfl ?_
    refine own_s_iconst Xw14.here hx (hb hby at_253) (pc' := 254) rfl (v := (2 : Int32)) (by decide) ?_
    refine own_s_iload Xw14.here hx (hb hby at_254) (pc' := 256) rfl rfl ?_
    refine own_s_imul Xw14.here hx (hb hby at_256) (pc' := 257) rfl (v := (2 : Int32)) (by decide) ?_
    refine own_s_icmpYes Xw14.here hx (hb hby at_257) (by decide) (pc' := 262) (by decide) (by decide) ?_
    refine own_s_iload Xw14.here hx (hb hby at_262) (pc' := 264) rfl rfl ?_
    refine own_s_ifYes Xw14.here hx (hb hby at_264) (by decide) (pc' := 269) (by decide) (by decide) ?_
    refine own_s_iload Xw14.here hx (hb hby at_269) (pc' := 271) rfl rfl ?_
    refine own_s_iconst Xw14.here hx (hb hby at_271) (pc' := 272) rfl (v := (1 : Int32)) (by decide) ?_
    refine own_s_icmpNo Xw14.here hx (hb hby at_272) (pc' := 275) rfl (by decide) ?_
    refine own_s_aload Xw14.here hx (hb hby at_275) (pc' := 277) rfl rfl rfl ?_
    refine own_s_iconst Xw14.here hx (hb hby at_277) (pc' := 278) rfl (v := (0 : Int32)) (by decide) ?_
    refine own_ldD Xw14 hx hZ rfl qw14_0 (j := (0 : Int32)) (x := (FP.i2d w1_v9)) (by decide) rfl (hb hby at_278) (pc' := 279) rfl ?_
    refine own_s_dload Xw14.here hx (hb hby at_279) (pc' := 281) rfl rfl ?_
    refine own_s_dcmp Xw14.here hx (hb hby at_281) (pc' := 282) rfl (v := (0 : Int32)) w1_hc281 ?_
    refine own_s_ifNo Xw14.here hx (hb hby at_282) (pc' := 285) rfl (by decide) ?_
    refine own_s_aload Xw14.here hx (hb hby at_285) (pc' := 287) rfl rfl rfl ?_
    refine own_s_iconst Xw14.here hx (hb hby at_287) (pc' := 288) rfl (v := (1 : Int32)) (by decide) ?_
    refine own_ldD Xw14 hx hZ rfl qw14_0 (j := (1 : Int32)) (x := (FP.i2d w1_v17)) (by decide) rfl (hb hby at_288) (pc' := 289) rfl ?_
    refine own_s_dload Xw14.here hx (hb hby at_289) (pc' := 291) rfl rfl ?_
    refine own_s_dcmp Xw14.here hx (hb hby at_291) (pc' := 292) rfl (v := (0 : Int32)) w1_hc291 ?_
    refine own_s_ifNo Xw14.here hx (hb hby at_292) (pc' := 295) rfl (by decide) ?_
    refine own_s_aload Xw14.here hx (hb hby at_295) (pc' := 297) rfl rfl rfl ?_
    refine own_s_iconst Xw14.here hx (hb hby at_297) (pc' := 298) rfl (v := (0 : Int32)) (by decide) ?_
    refine own_ldD Xw14 hx hZ rfl V_bw11_w14 (j := (0 : Int32)) (x := (FP.i2d w1_v9)) (by decide) rfl (hb hby at_298) (pc' := 299) rfl ?_
    refine own_s_dload Xw14.here hx (hb hby at_299) (pc' := 301) rfl rfl ?_
    refine own_s_dcmp Xw14.here hx (hb hby at_301) (pc' := 302) rfl (v := (0 : Int32)) w1_hc301 ?_
    refine own_s_ifNo Xw14.here hx (hb hby at_302) (pc' := 305) rfl (by decide) ?_
    refine own_s_aload Xw14.here hx (hb hby at_305) (pc' := 307) rfl rfl rfl ?_
    refine own_s_iconst Xw14.here hx (hb hby at_307) (pc' := 308) rfl (v := (1 : Int32)) (by decide) ?_
    refine own_ldD Xw14 hx hZ rfl V_bw11_w14 (j := (1 : Int32)) (x := (FP.i2d w1_v17)) (by decide) rfl (hb hby at_308) (pc' := 309) rfl ?_
    refine own_s_dload Xw14.here hx (hb hby at_309) (pc' := 311) rfl rfl ?_
    refine own_s_dcmp Xw14.here hx (hb hby at_311) (pc' := 312) rfl (v := (0 : Int32)) w1_hc311 ?_
    refine own_s_ifNo Xw14.here hx (hb hby at_312) (pc' := 315) rfl (by decide) ?_
    refine own_s_iconst Xw14.here hx (hb hby at_315) (pc' := 316) rfl (v := (1 : Int32)) (by decide) ?_
    refine own_s_goto Xw14.here hx (hb hby at_316) (by decide) (pc' := 320) (by decide) ?_
    exact retN Xw14 hx (t := .boolean) Bd.returns (by simp) (hb hby at_320) hr
  · show own_Q0 n0 _ Tw14.heap _
    exact ⟨rfl, Nw14⟩
theorem own_ef_c2 (m : MethodId) (q : Addr) : entryFrame m #[(.ref q)] 3 = mkF m 0 #[.val (.ref q), .unset, .unset] [] := by first | (simp [entryFrame, mkF, argsToLocals, Value.category]; done) | rfl
def own_Q_c2 (Z : State) (q : Addr) (d0 : UInt64) (d1 : UInt64) (d2 : UInt64) (d3 : UInt64) (qk : ClassId) (h0 : Heap) (n0 : Nat) (v : Option Value) (h : Heap) (L : List Loc) : Prop := ∃ (bc21 : Addr) (kc21 : ClassId), v = some (.ref bc21) ∧ Fr n0 L ∧ Keep h0 h [] ∧ h0.size ≤ bc21 ∧ Arv Z h bc21 kc21 .double (4 : Int32) [(.double d2), (.double d3), (.double d0), (.double d1)] (.double 0)
set_option maxRecDepth 65536 in
set_option maxHeartbeats 40000000 in
theorem own_rm_c2 (l : Launch) (Z : State) (a0 : Array Value) (hw : ∀ d ∈ tables_1, d.before a0 Z = true) (ws : List Jvm.Cond) (q : Addr) (d0 : UInt64) (d1 : UInt64) (d2 : UInt64) (d3 : UInt64) {qk : ClassId} (h0 : Heap) (n0 : Nat) (Z0 : n0 ≤ h0.size) (V_q : Arv Z h0 q qk .double (4 : Int32) [(.double d0), (.double d1), (.double d2), (.double d3)] (.double 0))  :
    MetFree l (⟨"com/example/hachure/hachure/render/ParallelLines", "reversed", "([D)[D"⟩ : MethodName) (head1 (Jvm.Cond.code (⟨"com/example/hachure/hachure/render/ParallelLines", "reversed", "([D)[D"⟩ : MethodName) prog_112_method_11_code 3 (some (.array .double)) :: ws) ({ frames := 0, cells := 1, slots := 4, locals := 0 } : Room)) (fun a U => a = #[(.ref q)] ∧ Z.Warmed39 U.vm ∧ U.heap = h0) (fun _ _ _ _ _ => True) (fun _ U o U' => ∃ v L, o = .returned v ∧ own_Q_c2 Z q d0 d1 d2 d3 qk h0 n0 v U'.heap L ∧ FrameEnd U o U' L ({ frames := 0, cells := 1, slots := 4, locals := 0 } : Room).cells ({ frames := 0, cells := 1, slots := 4, locals := 0 } : Room).slots) := by
  refine MetFree.of_bodySF (plainFor_of_name own_pn_com_example_hachure_hachure_render_ParallelLines) hisR ?_
  intro p e s m args below meth c s₁ Bd hml0 hP hK
  obtain ⟨rfl, hZ, hh⟩ := hP
  have hx := Bd.exec
  have hby := Bd.bytes
  have hml : c.maxLocals = 3 := hml0
  have hown : s.vm.findClass "com/example/hachure/hachure/render/ParallelLines" = some m.cls := findClass_of_methodNamed Bd.named
  have hnm := (name_of_methodNamed Bd.named Bd.method).1
  have X0 : Stand p l e ({ frames := 0, cells := 1, slots := 4, locals := 0 } : Room) s m #[(.ref q)] below meth c s₁ [] 0 0 := Stand.of_body Bd
  have e0 : s₁.heap = h0 := by rw [← hh, Bd.state]; rfl
  have N0 := Fr.nil n0
  have pre0 : ∀ t, Steps p.tables e below (s₁.setTop (mkF m 0 #[.val (.ref q), .unset, .unset] [])) t → Steps p.tables e below (s₁.setTop (entryFrame m #[(.ref q)] 3)) t := fun t k => castTop (own_ef_c2 m q) k
  obtain ⟨Tc21, hc21, kc21, bc21, Xc21, ec21, Ec21, Gc21, Vc21, stc21⟩ := own_newD (L := #[.val (.ref q), .unset, .unset]) (S := []) X0 hx hZ (hw _ (List.mem_of_getElem? (i := 1) rfl)) e0 (z := (4 : Int32)) 4 (by decide) (by decide) (by decide) (by decide) (by decide) (hb hby own_d1_2) (pc' := 4) rfl
  have ne_q_bc21 : q ≠ bc21 := Nat.ne_of_lt (Nat.lt_of_lt_of_le V_q.lt (Nat.le_of_eq Gc21.symm))
  have ne_bc21_q : bc21 ≠ q := Ne.symm ne_q_bc21
  have g_bc21 : n0 ≤ bc21 := Nat.le_trans Z0 (Nat.le_of_eq Gc21.symm)
  have sz_bc21 : h0.size ≤ bc21 := Nat.le_trans (Keep.refl h0 []).1 (Nat.le_of_eq Gc21.symm)
  have V_q_c21 := V_q.ext Ec21
  have Zc21 : n0 ≤ hc21.size := Nat.le_trans Z0 Ec21.1
  have KKc21 := (Keep.refl h0 []).ext Ec21
  have V_bc21 : Arv Z hc21 bc21 kc21 .double (4 : Int32) [(.double 0), (.double 0), (.double 0), (.double 0)] (.double 0) := Vc21
  obtain ⟨Tc22, hc22, Xc22, ec22, Wc22, Vc22, stc22⟩ := own_stD (L := #[.val (.ref q), .val (.ref bc21), .val (.int (0 : Int32))]) (S := []) Xc21 hx hZ ec21 V_bc21 (j := (2 : Int32)) (x := d0) (by decide) 2 (by decide) (Nat.le_of_ble_eq_true rfl) (hb hby own_d1_23) (pc' := 24) rfl
  have V_q_c22 := V_q_c21.other Wc22 ne_q_bc21
  have Zc22 : n0 ≤ hc22.size := Nat.le_trans Zc21 (Nat.le_of_eq Wc22.size.symm)
  have KKc22 := KKc21.wr Wc22 (Or.inr sz_bc21)
  have V_bc21_c22 : Arv Z hc22 bc21 kc21 .double (4 : Int32) [(.double 0), (.double 0), (.double d0), (.double 0)] (.double 0) := Vc22
  have Nc22 := Fr.snoc Xc22 N0 g_bc21
  obtain ⟨Tc23, hc23, Xc23, ec23, Wc23, Vc23, stc23⟩ := own_stD (L := #[.val (.ref q), .val (.ref bc21), .val (.int (0 : Int32))]) (S := []) Xc22 hx hZ ec22 V_bc21_c22 (j := (3 : Int32)) (x := d1) (by decide) 3 (by decide) (Nat.le_of_ble_eq_true rfl) (hb hby own_d1_36) (pc' := 37) rfl
  have V_q_c23 := V_q_c22.other Wc23 ne_q_bc21
  have Zc23 : n0 ≤ hc23.size := Nat.le_trans Zc22 (Nat.le_of_eq Wc23.size.symm)
  have KKc23 := KKc22.wr Wc23 (Or.inr sz_bc21)
  have V_bc21_c23 : Arv Z hc23 bc21 kc21 .double (4 : Int32) [(.double 0), (.double 0), (.double d0), (.double d1)] (.double 0) := Vc23
  have Nc23 := Fr.snoc Xc23 Nc22 g_bc21
  obtain ⟨Tc24, hc24, Xc24, ec24, Wc24, Vc24, stc24⟩ := own_stD (L := #[.val (.ref q), .val (.ref bc21), .val (.int (2 : Int32))]) (S := []) Xc23 hx hZ ec23 V_bc21_c23 (j := (0 : Int32)) (x := d2) (by decide) 0 (by decide) (Nat.le_of_ble_eq_true rfl) (hb hby own_d1_23) (pc' := 24) rfl
  have V_q_c24 := V_q_c23.other Wc24 ne_q_bc21
  have Zc24 : n0 ≤ hc24.size := Nat.le_trans Zc23 (Nat.le_of_eq Wc24.size.symm)
  have KKc24 := KKc23.wr Wc24 (Or.inr sz_bc21)
  have V_bc21_c24 : Arv Z hc24 bc21 kc21 .double (4 : Int32) [(.double d2), (.double 0), (.double d0), (.double d1)] (.double 0) := Vc24
  have Nc24 := Fr.snoc Xc24 Nc23 g_bc21
  obtain ⟨Tc25, hc25, Xc25, ec25, Wc25, Vc25, stc25⟩ := own_stD (L := #[.val (.ref q), .val (.ref bc21), .val (.int (2 : Int32))]) (S := []) Xc24 hx hZ ec24 V_bc21_c24 (j := (1 : Int32)) (x := d3) (by decide) 1 (by decide) (Nat.le_of_ble_eq_true rfl) (hb hby own_d1_36) (pc' := 37) rfl
  have V_q_c25 := V_q_c24.other Wc25 ne_q_bc21
  have Zc25 : n0 ≤ hc25.size := Nat.le_trans Zc24 (Nat.le_of_eq Wc25.size.symm)
  have KKc25 := KKc24.wr Wc25 (Or.inr sz_bc21)
  have V_bc21_c25 : Arv Z hc25 bc21 kc21 .double (4 : Int32) [(.double d2), (.double d3), (.double d0), (.double d1)] (.double 0) := Vc25
  have Nc25 := Fr.snoc Xc25 Nc24 g_bc21
  obtain ⟨fs, hr, hrun, hended, hW, hsame⟩ := Xc25.leave (v := some (.ref bc21)) (fun h => by rw [Bd.returns] at h; cases h)
  refine ⟨_, _, pre0 _ ?_, hrun, hended, _, _, rfl, ?_, ⟨_, rfl⟩, hW, hsame.mono (by decide) (by decide)⟩
  · refine own_s_aloadN X0.here hx (hb hby own_d1_0) (pc' := 1) rfl rfl rfl ?_
    refine own_len X0 hx hZ e0 V_q (hb hby own_d1_1) (pc' := 2) rfl ?_
    refine stc21 _ ?_
    refine own_s_astoreN Xc21.here hx (hb hby own_d1_4) (pc' := 5) rfl rfl (L' := #[.val (.ref q), .val (.ref bc21), .unset]) rfl ?_
    refine own_s_iconst Xc21.here hx (hb hby own_d1_5) (pc' := 6) rfl (v := (0 : Int32)) (by decide) ?_
    refine own_s_istoreN Xc21.here hx (hb hby own_d1_6) (pc' := 7) rfl (L' := #[.val (.ref q), .val (.ref bc21), .val (.int (0 : Int32))]) rfl ?_
    refine own_s_iloadN Xc21.here hx (hb hby own_d1_7) (pc' := 8) rfl rfl ?_
    refine own_s_aloadN Xc21.here hx (hb hby own_d1_8) (pc' := 9) rfl rfl rfl ?_
    refine own_len Xc21 hx hZ ec21 V_q_c21 (hb hby own_d1_9) (pc' := 10) rfl ?_
    refine own_s_icmpNo Xc21.here hx (hb hby own_d1_10) (pc' := 13) rfl (by decide) ?_
    refine own_s_aloadN Xc21.here hx (hb hby own_d1_13) (pc' := 14) rfl rfl rfl ?_
    refine own_s_aloadN Xc21.here hx (hb hby own_d1_14) (pc' := 15) rfl rfl rfl ?_
    refine own_len Xc21 hx hZ ec21 V_q_c21 (hb hby own_d1_15) (pc' := 16) rfl ?_
    refine own_s_iconst Xc21.here hx (hb hby own_d1_16) (pc' := 17) rfl (v := (2 : Int32)) (by decide) ?_
    refine own_s_isub Xc21.here hx (hb hby own_d1_17) (pc' := 18) rfl (v := (2 : Int32)) (by decide) ?_
    refine own_s_iloadN Xc21.here hx (hb hby own_d1_18) (pc' := 19) rfl rfl ?_
    refine own_s_isub Xc21.here hx (hb hby own_d1_19) (pc' := 20) rfl (v := (2 : Int32)) (by decide) ?_
    refine own_s_aloadN Xc21.here hx (hb hby own_d1_20) (pc' := 21) rfl rfl rfl ?_
    refine own_s_iloadN Xc21.here hx (hb hby own_d1_21) (pc' := 22) rfl rfl ?_
    refine own_ldD Xc21 hx hZ ec21 V_q_c21 (j := (0 : Int32)) (x := d0) (by decide) rfl (hb hby own_d1_22) (pc' := 23) rfl ?_
    refine stc22 _ ?_
    refine own_s_aloadN Xc22.here hx (hb hby own_d1_24) (pc' := 25) rfl rfl rfl ?_
    refine own_s_aloadN Xc22.here hx (hb hby own_d1_25) (pc' := 26) rfl rfl rfl ?_
    refine own_len Xc22 hx hZ ec22 V_q_c22 (hb hby own_d1_26) (pc' := 27) rfl ?_
    refine own_s_iconst Xc22.here hx (hb hby own_d1_27) (pc' := 28) rfl (v := (1 : Int32)) (by decide) ?_
    refine own_s_isub Xc22.here hx (hb hby own_d1_28) (pc' := 29) rfl (v := (3 : Int32)) (by decide) ?_
    refine own_s_iloadN Xc22.here hx (hb hby own_d1_29) (pc' := 30) rfl rfl ?_
    refine own_s_isub Xc22.here hx (hb hby own_d1_30) (pc' := 31) rfl (v := (3 : Int32)) (by decide) ?_
    refine own_s_aloadN Xc22.here hx (hb hby own_d1_31) (pc' := 32) rfl rfl rfl ?_
    refine own_s_iloadN Xc22.here hx (hb hby own_d1_32) (pc' := 33) rfl rfl ?_
    refine own_s_iconst Xc22.here hx (hb hby own_d1_33) (pc' := 34) rfl (v := (1 : Int32)) (by decide) ?_
    refine own_s_iadd Xc22.here hx (hb hby own_d1_34) (pc' := 35) rfl (v := (1 : Int32)) (by decide) ?_
    refine own_ldD Xc22 hx hZ ec22 V_q_c22 (j := (1 : Int32)) (x := d1) (by decide) rfl (hb hby own_d1_35) (pc' := 36) rfl ?_
    refine stc23 _ ?_
    refine own_s_iinc Xc23.here hx (hb hby own_d1_37) (pc' := 40) rfl rfl (v := (2 : Int32)) (by decide) (L' := #[.val (.ref q), .val (.ref bc21), .val (.int (2 : Int32))]) rfl ?_
    refine own_s_goto Xc23.here hx (hb hby own_d1_40) (by decide) (pc' := 7) (by decide) ?_
    refine own_s_iloadN Xc23.here hx (hb hby own_d1_7) (pc' := 8) rfl rfl ?_
    refine own_s_aloadN Xc23.here hx (hb hby own_d1_8) (pc' := 9) rfl rfl rfl ?_
    refine own_len Xc23 hx hZ ec23 V_q_c23 (hb hby own_d1_9) (pc' := 10) rfl ?_
    refine own_s_icmpNo Xc23.here hx (hb hby own_d1_10) (pc' := 13) rfl (by decide) ?_
    refine own_s_aloadN Xc23.here hx (hb hby own_d1_13) (pc' := 14) rfl rfl rfl ?_
    refine own_s_aloadN Xc23.here hx (hb hby own_d1_14) (pc' := 15) rfl rfl rfl ?_
    refine own_len Xc23 hx hZ ec23 V_q_c23 (hb hby own_d1_15) (pc' := 16) rfl ?_
    refine own_s_iconst Xc23.here hx (hb hby own_d1_16) (pc' := 17) rfl (v := (2 : Int32)) (by decide) ?_
    refine own_s_isub Xc23.here hx (hb hby own_d1_17) (pc' := 18) rfl (v := (2 : Int32)) (by decide) ?_
    refine own_s_iloadN Xc23.here hx (hb hby own_d1_18) (pc' := 19) rfl rfl ?_
    refine own_s_isub Xc23.here hx (hb hby own_d1_19) (pc' := 20) rfl (v := (0 : Int32)) (by decide) ?_
    refine own_s_aloadN Xc23.here hx (hb hby own_d1_20) (pc' := 21) rfl rfl rfl ?_
    refine own_s_iloadN Xc23.here hx (hb hby own_d1_21) (pc' := 22) rfl rfl ?_
    refine own_ldD Xc23 hx hZ ec23 V_q_c23 (j := (2 : Int32)) (x := d2) (by decide) rfl (hb hby own_d1_22) (pc' := 23) rfl ?_
    refine stc24 _ ?_
    refine own_s_aloadN Xc24.here hx (hb hby own_d1_24) (pc' := 25) rfl rfl rfl ?_
    refine own_s_aloadN Xc24.here hx (hb hby own_d1_25) (pc' := 26) rfl rfl rfl ?_
    refine own_len Xc24 hx hZ ec24 V_q_c24 (hb hby own_d1_26) (pc' := 27) rfl ?_
    refine own_s_iconst Xc24.here hx (hb hby own_d1_27) (pc' := 28) rfl (v := (1 : Int32)) (by decide) ?_
    refine own_s_isub Xc24.here hx (hb hby own_d1_28) (pc' := 29) rfl (v := (3 : Int32)) (by decide) ?_
    refine own_s_iloadN Xc24.here hx (hb hby own_d1_29) (pc' := 30) rfl rfl ?_
    refine own_s_isub Xc24.here hx (hb hby own_d1_30) (pc' := 31) rfl (v := (1 : Int32)) (by decide) ?_
    refine own_s_aloadN Xc24.here hx (hb hby own_d1_31) (pc' := 32) rfl rfl rfl ?_
    refine own_s_iloadN Xc24.here hx (hb hby own_d1_32) (pc' := 33) rfl rfl ?_
    refine own_s_iconst Xc24.here hx (hb hby own_d1_33) (pc' := 34) rfl (v := (1 : Int32)) (by decide) ?_
    refine own_s_iadd Xc24.here hx (hb hby own_d1_34) (pc' := 35) rfl (v := (3 : Int32)) (by decide) ?_
    refine own_ldD Xc24 hx hZ ec24 V_q_c24 (j := (3 : Int32)) (x := d3) (by decide) rfl (hb hby own_d1_35) (pc' := 36) rfl ?_
    refine stc25 _ ?_
    refine own_s_iinc Xc25.here hx (hb hby own_d1_37) (pc' := 40) rfl rfl (v := (4 : Int32)) (by decide) (L' := #[.val (.ref q), .val (.ref bc21), .val (.int (4 : Int32))]) rfl ?_
    refine own_s_goto Xc25.here hx (hb hby own_d1_40) (by decide) (pc' := 7) (by decide) ?_
    refine own_s_iloadN Xc25.here hx (hb hby own_d1_7) (pc' := 8) rfl rfl ?_
    refine own_s_aloadN Xc25.here hx (hb hby own_d1_8) (pc' := 9) rfl rfl rfl ?_
    refine own_len Xc25 hx hZ ec25 V_q_c25 (hb hby own_d1_9) (pc' := 10) rfl ?_
    refine own_s_icmpYes Xc25.here hx (hb hby own_d1_10) (by decide) (pc' := 43) (by decide) (by decide) ?_
    refine own_s_aloadN Xc25.here hx (hb hby own_d1_43) (pc' := 44) rfl rfl rfl ?_
    exact own_retR Xc25 hx Bd.returns rfl (hb hby own_d1_44) hr
  · show own_Q_c2 Z q d0 d1 d2 d3 qk h0 n0 _ Tc25.heap _
    rw [ec25]
    exact ⟨bc21, kc21, rfl, Nc25, KKc25, sz_bc21, V_bc21_c25⟩
theorem own_ef_w2 (m : MethodId) (p0 : Int32) (p1 : Int64) (p2 : Int64) (p3 : Int64) (p4 : Int64) : entryFrame m #[(.int p0), (.long p1), (.long p2), (.long p3), (.long p4)] maxLocals = mkF m 0 #[.val (.int p0), .val (.long p1), .second, .val (.long p2), .second, .val (.long p3), .second, .val (.long p4), .second, .unset, .unset, .unset, .unset, .unset, .unset, .unset, .unset, .unset, .unset, .unset, .unset, .unset, .unset, .unset, .unset, .unset, .unset, .unset] [] := by first | (simp [entryFrame, mkF, argsToLocals, Value.category, maxLocals]; done) | rfl
set_option maxRecDepth 65536 in
set_option maxHeartbeats 40000000 in
theorem own_rm_w2 (l : Launch) (Z : State) (a0 : Array Value) (hw : ∀ d ∈ tables_1, d.before a0 Z = true) (ws : List Jvm.Cond) (p0 : Int32) (p1 : Int64) (p2 : Int64) (p3 : Int64) (p4 : Int64) {w2_v3 : Int32} {w2_v9 : Int32} {w2_v16 : Int64} {w2_v17 : Int32} {w2_v22 : Int32} {w2_v29 : Int64} {w2_v30 : Int32} {w2_v36 : Int32} {w2_v44 : Int64} {w2_v45 : Int32} {w2_v51 : Int32} {w2_v59 : Int64} {w2_v60 : Int32} (h0 : Heap) (n0 : Nat) (Z0 : n0 ≤ h0.size)  (w2_hv3 : p0 &&& (2147483647 : Int32) = w2_v3) (w2_hv5 : w2_v3 % (5 : Int32) = (2 : Int32)) (w2_hv9 : Int64.toInt32 p1 = w2_v9) (w2_hv16 : p1 >>> ((32 : Int32) &&& 63).toInt64 = w2_v16) (w2_hv17 : Int64.toInt32 w2_v16 = w2_v17) (w2_hv22 : Int64.toInt32 p2 = w2_v22) (w2_hv29 : p2 >>> ((32 : Int32) &&& 63).toInt64 = w2_v29) (w2_hv30 : Int64.toInt32 w2_v29 = w2_v30) (w2_hv36 : Int64.toInt32 p3 = w2_v36) (w2_hv44 : p3 >>> ((32 : Int32) &&& 63).toInt64 = w2_v44) (w2_hv45 : Int64.toInt32 w2_v44 = w2_v45) (w2_hv51 : Int64.toInt32 p4 = w2_v51) (w2_hv59 : p4 >>> ((32 : Int32) &&& 63).toInt64 = w2_v59) (w2_hv60 : Int64.toInt32 w2_v59 = w2_v60) (w2_hc333 : Op.cmpValue (FP.dcmp (FP.i2d w2_v22) (FP.i2d w2_v22)) .l = (0 : Int32)) (w2_hc343 : Op.cmpValue (FP.dcmp (FP.i2d w2_v30) (FP.i2d w2_v30)) .l = (0 : Int32)) (w2_hc353 : Op.cmpValue (FP.dcmp (FP.i2d w2_v9) (FP.i2d w2_v9)) .l = (0 : Int32)) (w2_hc363 : Op.cmpValue (FP.dcmp (FP.i2d w2_v17) (FP.i2d w2_v17)) .l = (0 : Int32)) (w2_hc373 : Op.cmpValue (FP.dcmp (FP.i2d w2_v9) (FP.i2d w2_v9)) .l = (0 : Int32)) (w2_hc383 : Op.cmpValue (FP.dcmp (FP.i2d w2_v17) (FP.i2d w2_v17)) .l = (0 : Int32)) (w2_hc393 : Op.cmpValue (FP.dcmp (FP.i2d w2_v22) (FP.i2d w2_v22)) .l = (0 : Int32)) (w2_hc403 : Op.cmpValue (FP.dcmp (FP.i2d w2_v30) (FP.i2d w2_v30)) .l = (0 : Int32)) :
    MetFree l x (head1 (Jvm.Cond.code x code maxLocals ret :: ws) room_1) (fun a U => a = #[(.int p0), (.long p1), (.long p2), (.long p3), (.long p4)] ∧ Z.Warmed39 U.vm ∧ U.heap = h0) (fun _ _ _ _ _ => True) (fun _ U o U' => ∃ v L, o = .returned v ∧ own_Q0 n0 v U'.heap L ∧ FrameEnd U o U' L room_1.cells room_1.slots) := by
  refine MetFree.of_bodySF (plainFor_of_name own_pn_com_example_hachure_hachure_render_ParallelLinesReversedPinLaw) hisR ?_
  intro p e s m args below meth c s₁ Bd hml0 hP hK
  obtain ⟨rfl, hZ, hh⟩ := hP
  have hx := Bd.exec
  have hby := Bd.bytes
  have hml : c.maxLocals = 28 := hml0
  have hown : s.vm.findClass "com/example/hachure/hachure/render/ParallelLinesReversedPinLaw" = some m.cls := findClass_of_methodNamed Bd.named
  have hnm := (name_of_methodNamed Bd.named Bd.method).1
  have X0 : Stand p l e room_1 s m #[(.int p0), (.long p1), (.long p2), (.long p3), (.long p4)] below meth c s₁ [] 0 0 := Stand.of_body Bd
  have e0 : s₁.heap = h0 := by rw [← hh, Bd.state]; rfl
  have N0 := Fr.nil n0
  have pre0 : ∀ t, Steps p.tables e below (s₁.setTop (mkF m 0 #[.val (.int p0), .val (.long p1), .second, .val (.long p2), .second, .val (.long p3), .second, .val (.long p4), .second, .unset, .unset, .unset, .unset, .unset, .unset, .unset, .unset, .unset, .unset, .unset, .unset, .unset, .unset, .unset, .unset, .unset, .unset, .unset] [])) t → Steps p.tables e below (s₁.setTop (entryFrame m #[(.int p0), (.long p1), (.long p2), (.long p3), (.long p4)] maxLocals)) t := fun t k => castTop (own_ef_w2 m p0 p1 p2 p3 p4) k
  obtain ⟨Tw21, hw21, kw21, bw21, Xw21, ew21, Ew21, Gw21, Vw21, stw21⟩ := own_newD (L := #[.val (.int p0), .val (.long p1), .second, .val (.long p2), .second, .val (.long p3), .second, .val (.long p4), .second, .val (.int (2 : Int32)), .val (.double (FP.i2d w2_v9)), .second, .val (.double (FP.i2d w2_v17)), .second, .val (.double (FP.i2d w2_v22)), .second, .val (.double (FP.i2d w2_v30)), .second, .val (.double (FP.i2d w2_v36)), .second, .val (.double (FP.i2d w2_v45)), .second, .val (.double (FP.i2d w2_v51)), .second, .val (.double (FP.i2d w2_v60)), .second, .unset, .unset]) (S := []) X0 hx hZ (hw _ (List.mem_of_getElem? (i := 1) rfl)) e0 (z := (4 : Int32)) 4 (by decide) (by decide) (by decide) (by decide) (by decide) (hb hby at_108) (pc' := 110) rfl
  have g_bw21 : n0 ≤ bw21 := Nat.le_trans Z0 (Nat.le_of_eq Gw21.symm)
  have sz_bw21 : h0.size ≤ bw21 := Nat.le_trans (Keep.refl h0 []).1 (Nat.le_of_eq Gw21.symm)
  have Zw21 : n0 ≤ hw21.size := Nat.le_trans Z0 Ew21.1
  have KKw21 := (Keep.refl h0 []).ext Ew21
  have V_bw21 : Arv Z hw21 bw21 kw21 .double (4 : Int32) [(.double 0), (.double 0), (.double 0), (.double 0)] (.double 0) := Vw21
  obtain ⟨Tw22, hw22, Xw22, ew22, Ww22, Vw22, stw22⟩ := own_stD (L := #[.val (.int p0), .val (.long p1), .second, .val (.long p2), .second, .val (.long p3), .second, .val (.long p4), .second, .val (.int (2 : Int32)), .val (.double (FP.i2d w2_v9)), .second, .val (.double (FP.i2d w2_v17)), .second, .val (.double (FP.i2d w2_v22)), .second, .val (.double (FP.i2d w2_v30)), .second, .val (.double (FP.i2d w2_v36)), .second, .val (.double (FP.i2d w2_v45)), .second, .val (.double (FP.i2d w2_v51)), .second, .val (.double (FP.i2d w2_v60)), .second, .unset, .unset]) (S := [(.ref bw21)]) Xw21 hx hZ ew21 V_bw21 (j := (0 : Int32)) (x := (FP.i2d w2_v9)) (by decide) 0 (by decide) (Nat.le_of_ble_eq_true rfl) (hb hby at_114) (pc' := 115) rfl
  have Zw22 : n0 ≤ hw22.size := Nat.le_trans Zw21 (Nat.le_of_eq Ww22.size.symm)
  have KKw22 := KKw21.wr Ww22 (Or.inr sz_bw21)
  have V_bw21_w22 : Arv Z hw22 bw21 kw21 .double (4 : Int32) [(.double (FP.i2d w2_v9)), (.double 0), (.double 0), (.double 0)] (.double 0) := Vw22
  have Nw22 := Fr.snoc Xw22 N0 g_bw21
  obtain ⟨Tw23, hw23, Xw23, ew23, Ww23, Vw23, stw23⟩ := own_stD (L := #[.val (.int p0), .val (.long p1), .second, .val (.long p2), .second, .val (.long p3), .second, .val (.long p4), .second, .val (.int (2 : Int32)), .val (.double (FP.i2d w2_v9)), .second, .val (.double (FP.i2d w2_v17)), .second, .val (.double (FP.i2d w2_v22)), .second, .val (.double (FP.i2d w2_v30)), .second, .val (.double (FP.i2d w2_v36)), .second, .val (.double (FP.i2d w2_v45)), .second, .val (.double (FP.i2d w2_v51)), .second, .val (.double (FP.i2d w2_v60)), .second, .unset, .unset]) (S := [(.ref bw21)]) Xw22 hx hZ ew22 V_bw21_w22 (j := (1 : Int32)) (x := (FP.i2d w2_v17)) (by decide) 1 (by decide) (Nat.le_of_ble_eq_true rfl) (hb hby at_119) (pc' := 120) rfl
  have Zw23 : n0 ≤ hw23.size := Nat.le_trans Zw22 (Nat.le_of_eq Ww23.size.symm)
  have KKw23 := KKw22.wr Ww23 (Or.inr sz_bw21)
  have V_bw21_w23 : Arv Z hw23 bw21 kw21 .double (4 : Int32) [(.double (FP.i2d w2_v9)), (.double (FP.i2d w2_v17)), (.double 0), (.double 0)] (.double 0) := Vw23
  have Nw23 := Fr.snoc Xw23 Nw22 g_bw21
  obtain ⟨Tw24, hw24, Xw24, ew24, Ww24, Vw24, stw24⟩ := own_stD (L := #[.val (.int p0), .val (.long p1), .second, .val (.long p2), .second, .val (.long p3), .second, .val (.long p4), .second, .val (.int (2 : Int32)), .val (.double (FP.i2d w2_v9)), .second, .val (.double (FP.i2d w2_v17)), .second, .val (.double (FP.i2d w2_v22)), .second, .val (.double (FP.i2d w2_v30)), .second, .val (.double (FP.i2d w2_v36)), .second, .val (.double (FP.i2d w2_v45)), .second, .val (.double (FP.i2d w2_v51)), .second, .val (.double (FP.i2d w2_v60)), .second, .unset, .unset]) (S := [(.ref bw21)]) Xw23 hx hZ ew23 V_bw21_w23 (j := (2 : Int32)) (x := (FP.i2d w2_v22)) (by decide) 2 (by decide) (Nat.le_of_ble_eq_true rfl) (hb hby at_124) (pc' := 125) rfl
  have Zw24 : n0 ≤ hw24.size := Nat.le_trans Zw23 (Nat.le_of_eq Ww24.size.symm)
  have KKw24 := KKw23.wr Ww24 (Or.inr sz_bw21)
  have V_bw21_w24 : Arv Z hw24 bw21 kw21 .double (4 : Int32) [(.double (FP.i2d w2_v9)), (.double (FP.i2d w2_v17)), (.double (FP.i2d w2_v22)), (.double 0)] (.double 0) := Vw24
  have Nw24 := Fr.snoc Xw24 Nw23 g_bw21
  obtain ⟨Tw25, hw25, Xw25, ew25, Ww25, Vw25, stw25⟩ := own_stD (L := #[.val (.int p0), .val (.long p1), .second, .val (.long p2), .second, .val (.long p3), .second, .val (.long p4), .second, .val (.int (2 : Int32)), .val (.double (FP.i2d w2_v9)), .second, .val (.double (FP.i2d w2_v17)), .second, .val (.double (FP.i2d w2_v22)), .second, .val (.double (FP.i2d w2_v30)), .second, .val (.double (FP.i2d w2_v36)), .second, .val (.double (FP.i2d w2_v45)), .second, .val (.double (FP.i2d w2_v51)), .second, .val (.double (FP.i2d w2_v60)), .second, .unset, .unset]) (S := [(.ref bw21)]) Xw24 hx hZ ew24 V_bw21_w24 (j := (3 : Int32)) (x := (FP.i2d w2_v30)) (by decide) 3 (by decide) (Nat.le_of_ble_eq_true rfl) (hb hby at_129) (pc' := 130) rfl
  have Zw25 : n0 ≤ hw25.size := Nat.le_trans Zw24 (Nat.le_of_eq Ww25.size.symm)
  have KKw25 := KKw24.wr Ww25 (Or.inr sz_bw21)
  have V_bw21_w25 : Arv Z hw25 bw21 kw21 .double (4 : Int32) [(.double (FP.i2d w2_v9)), (.double (FP.i2d w2_v17)), (.double (FP.i2d w2_v22)), (.double (FP.i2d w2_v30))] (.double 0) := Vw25
  have Nw25 := Fr.snoc Xw25 Nw24 g_bw21
  obtain ⟨_, _, ⟨Tw26, Lw26, kw26, nw26⟩, -, Xw26, ⟨Lcw26, hQw26, lw26, yw26, zw26⟩, stw26⟩ := Jvm.LawKit.callS Xw25 hx (y := (⟨"com/example/hachure/hachure/render/ParallelLines", "reversed", "([D)[D"⟩ : MethodName)) hown (mvT hZ (hw _ (List.mem_of_getElem? (i := 2) rfl))) (mvT hZ (hw _ (List.mem_of_getElem? (i := 3) rfl))) (mvT hZ (hw _ (List.mem_of_getElem? (i := 4) rfl))) (mvT hZ (hw _ (List.mem_of_getElem? (i := 5) rfl))) (by decide) (backOf (W := 0) (own_rm_c2 l Z a0 hw [] bw21 (FP.i2d w2_v9) (FP.i2d w2_v17) (FP.i2d w2_v22) (FP.i2d w2_v30) hw25 n0 Zw25 V_bw21_w25) hZ (hw _ (List.mem_of_getElem? (i := 5) rfl)) (hw _ (List.mem_of_getElem? (i := 4) rfl)) (by decide) (by decide)) (g := (mkF m 230 #[.val (.int p0), .val (.long p1), .second, .val (.long p2), .second, .val (.long p3), .second, .val (.long p4), .second, .val (.int (2 : Int32)), .val (.double (FP.i2d w2_v9)), .second, .val (.double (FP.i2d w2_v17)), .second, .val (.double (FP.i2d w2_v22)), .second, .val (.double (FP.i2d w2_v30)), .second, .val (.double (FP.i2d w2_v36)), .second, .val (.double (FP.i2d w2_v45)), .second, .val (.double (FP.i2d w2_v51)), .second, .val (.double (FP.i2d w2_v60)), .second, .val (.ref bw21), .unset] [(.ref bw21)])) rfl (by rw [hml]; rfl) (argsL := [(.ref bw21)]) (rest := []) (lenOf own_pd_285bD295bD rfl) rfl (by show 2 * 0 + _ ≤ _; exact Nat.le_of_eq rfl) (hb hby at_230) (fun _ _ => ⟨rfl, ew25, (by decide : 1 + 1 ≤ _), (by decide : 4 + 4 ≤ _)⟩)
  dsimp only [Pt.U, Pt.locs, Pt.cells, Pt.slots] at Xw26 lw26 yw26 zw26 stw26 hQw26
  subst lw26 yw26 zw26
  obtain ⟨bw26, kw26a, rfl, Nw26q, Kw26, Gw26, qw26_0⟩ := hQw26
  have ne_bw21_bw26 : bw21 ≠ bw26 := Nat.ne_of_lt (Nat.lt_of_lt_of_le V_bw21_w25.lt Gw26)
  have ne_bw26_bw21 : bw26 ≠ bw21 := Ne.symm ne_bw21_bw26
  have g_bw26 : n0 ≤ bw26 := Nat.le_trans Zw25 Gw26
  have sz_bw26 : h0.size ≤ bw26 := Nat.le_trans KKw25.1 Gw26
  have V_bw21_w26 := V_bw21_w25.keep Kw26 (List.not_mem_nil)
  have Zw26 : n0 ≤ Tw26.heap.size := Nat.le_trans Zw25 Kw26.1
  have KKw26 := KKw25.trans Kw26 (fun _ q => nomatch q)
  have Nw26 := Fr.app Nw25 Nw26q
  obtain ⟨fs, hr, hrun, hended, hW, hsame⟩ := Xw26.leave (v := some (.int (1 : Int32))) (fun h => by rw [Bd.returns] at h; cases h)
  refine ⟨_, _, pre0 _ ?_, hrun, hended, _, _, rfl, ?_, ⟨_, rfl⟩, hW, hsame.mono (by decide) (by decide)⟩
  · refine own_s_iloadN X0.here hx (hb hby at_0) (pc' := 1) rfl rfl ?_
    refine X0.ldcInt hx hown (mvT hZ (hw _ (List.mem_of_getElem? (i := 0) rfl))) (g := (mkF m 1 #[.val (.int p0), .val (.long p1), .second, .val (.long p2), .second, .val (.long p3), .second, .val (.long p4), .second, .unset, .unset, .unset, .unset, .unset, .unset, .unset, .unset, .unset, .unset, .unset, .unset, .unset, .unset, .unset, .unset, .unset, .unset, .unset] [(.int p0)])) rfl (hb hby at_1) _ ?_
    show Steps p.tables e below (s₁.setTop (mkF m 3 #[.val (.int p0), .val (.long p1), .second, .val (.long p2), .second, .val (.long p3), .second, .val (.long p4), .second, .unset, .unset, .unset, .unset, .unset, .unset, .unset, .unset, .unset, .unset, .unset, .unset, .unset, .unset, .unset, .unset, .unset, .unset, .unset] [(.int (2147483647 : Int32)), (.int p0)])) _
    refine own_s_iand X0.here hx (hb hby at_3) (pc' := 4) rfl (v := w2_v3) w2_hv3 ?_
    refine own_s_iconst X0.here hx (hb hby at_4) (pc' := 5) rfl (v := (5 : Int32)) (by decide) ?_
    refine own_s_irem X0.here hx (hb hby at_5) (pc' := 6) rfl (by decide) (v := (2 : Int32)) w2_hv5 ?_
    refine own_s_istore X0.here hx (hb hby at_6) (pc' := 8) rfl (L' := #[.val (.int p0), .val (.long p1), .second, .val (.long p2), .second, .val (.long p3), .second, .val (.long p4), .second, .val (.int (2 : Int32)), .unset, .unset, .unset, .unset, .unset, .unset, .unset, .unset, .unset, .unset, .unset, .unset, .unset, .unset, .unset, .unset, .unset, .unset]) rfl ?_
    refine own_s_lloadN X0.here hx (hb hby at_8) (pc' := 9) rfl rfl ?_
    refine own_s_l2i X0.here hx (hb hby at_9) (pc' := 10) rfl (v := w2_v9) w2_hv9 ?_
    refine own_s_i2d X0.here hx (hb hby at_10) (pc' := 11) rfl (v := (FP.i2d w2_v9)) rfl ?_
    refine own_s_dstore X0.here hx (hb hby at_11) (pc' := 13) rfl (L' := #[.val (.int p0), .val (.long p1), .second, .val (.long p2), .second, .val (.long p3), .second, .val (.long p4), .second, .val (.int (2 : Int32)), .val (.double (FP.i2d w2_v9)), .second, .unset, .unset, .unset, .unset, .unset, .unset, .unset, .unset, .unset, .unset, .unset, .unset, .unset, .unset, .unset, .unset]) rfl ?_
    refine own_s_lloadN X0.here hx (hb hby at_13) (pc' := 14) rfl rfl ?_
    refine own_s_bipush X0.here hx (hb hby at_14) (pc' := 16) rfl (v := (32 : Int32)) (by decide) ?_
    refine own_s_lshr X0.here hx (hb hby at_16) (pc' := 17) rfl (v := w2_v16) w2_hv16 ?_
    refine own_s_l2i X0.here hx (hb hby at_17) (pc' := 18) rfl (v := w2_v17) w2_hv17 ?_
    refine own_s_i2d X0.here hx (hb hby at_18) (pc' := 19) rfl (v := (FP.i2d w2_v17)) rfl ?_
    refine own_s_dstore X0.here hx (hb hby at_19) (pc' := 21) rfl (L' := #[.val (.int p0), .val (.long p1), .second, .val (.long p2), .second, .val (.long p3), .second, .val (.long p4), .second, .val (.int (2 : Int32)), .val (.double (FP.i2d w2_v9)), .second, .val (.double (FP.i2d w2_v17)), .second, .unset, .unset, .unset, .unset, .unset, .unset, .unset, .unset, .unset, .unset, .unset, .unset, .unset, .unset]) rfl ?_
    refine own_s_lloadN X0.here hx (hb hby at_21) (pc' := 22) rfl rfl ?_
    refine own_s_l2i X0.here hx (hb hby at_22) (pc' := 23) rfl (v := w2_v22) w2_hv22 ?_
    refine own_s_i2d X0.here hx (hb hby at_23) (pc' := 24) rfl (v := (FP.i2d w2_v22)) rfl ?_
    refine own_s_dstore X0.here hx (hb hby at_24) (pc' := 26) rfl (L' := #[.val (.int p0), .val (.long p1), .second, .val (.long p2), .second, .val (.long p3), .second, .val (.long p4), .second, .val (.int (2 : Int32)), .val (.double (FP.i2d w2_v9)), .second, .val (.double (FP.i2d w2_v17)), .second, .val (.double (FP.i2d w2_v22)), .second, .unset, .unset, .unset, .unset, .unset, .unset, .unset, .unset, .unset, .unset, .unset, .unset]) rfl ?_
    refine own_s_lloadN X0.here hx (hb hby at_26) (pc' := 27) rfl rfl ?_
    refine own_s_bipush X0.here hx (hb hby at_27) (pc' := 29) rfl (v := (32 : Int32)) (by decide) ?_
    refine own_s_lshr X0.here hx (hb hby at_29) (pc' := 30) rfl (v := w2_v29) w2_hv29 ?_
    refine own_s_l2i X0.here hx (hb hby at_30) (pc' := 31) rfl (v := w2_v30) w2_hv30 ?_
    refine own_s_i2d X0.here hx (hb hby at_31) (pc' := 32) rfl (v := (FP.i2d w2_v30)) rfl ?_
    refine own_s_dstore X0.here hx (hb hby at_32) (pc' := 34) rfl (L' := #[.val (.int p0), .val (.long p1), .second, .val (.long p2), .second, .val (.long p3), .second, .val (.long p4), .second, .val (.int (2 : Int32)), .val (.double (FP.i2d w2_v9)), .second, .val (.double (FP.i2d w2_v17)), .second, .val (.double (FP.i2d w2_v22)), .second, .val (.double (FP.i2d w2_v30)), .second, .unset, .unset, .unset, .unset, .unset, .unset, .unset, .unset, .unset, .unset]) rfl ?_
    refine own_s_lload X0.here hx (hb hby at_34) (pc' := 36) rfl rfl ?_
    refine own_s_l2i X0.here hx (hb hby at_36) (pc' := 37) rfl (v := w2_v36) w2_hv36 ?_
    refine own_s_i2d X0.here hx (hb hby at_37) (pc' := 38) rfl (v := (FP.i2d w2_v36)) rfl ?_
    refine own_s_dstore X0.here hx (hb hby at_38) (pc' := 40) rfl (L' := #[.val (.int p0), .val (.long p1), .second, .val (.long p2), .second, .val (.long p3), .second, .val (.long p4), .second, .val (.int (2 : Int32)), .val (.double (FP.i2d w2_v9)), .second, .val (.double (FP.i2d w2_v17)), .second, .val (.double (FP.i2d w2_v22)), .second, .val (.double (FP.i2d w2_v30)), .second, .val (.double (FP.i2d w2_v36)), .second, .unset, .unset, .unset, .unset, .unset, .unset, .unset, .unset]) rfl ?_
    refine own_s_lload X0.here hx (hb hby at_40) (pc' := 42) rfl rfl ?_
    refine own_s_bipush X0.here hx (hb hby at_42) (pc' := 44) rfl (v := (32 : Int32)) (by decide) ?_
    refine own_s_lshr X0.here hx (hb hby at_44) (pc' := 45) rfl (v := w2_v44) w2_hv44 ?_
    refine own_s_l2i X0.here hx (hb hby at_45) (pc' := 46) rfl (v := w2_v45) w2_hv45 ?_
    refine own_s_i2d X0.here hx (hb hby at_46) (pc' := 47) rfl (v := (FP.i2d w2_v45)) rfl ?_
    refine own_s_dstore X0.here hx (hb hby at_47) (pc' := 49) rfl (L' := #[.val (.int p0), .val (.long p1), .second, .val (.long p2), .second, .val (.long p3), .second, .val (.long p4), .second, .val (.int (2 : Int32)), .val (.double (FP.i2d w2_v9)), .second, .val (.double (FP.i2d w2_v17)), .second, .val (.double (FP.i2d w2_v22)), .second, .val (.double (FP.i2d w2_v30)), .second, .val (.double (FP.i2d w2_v36)), .second, .val (.double (FP.i2d w2_v45)), .second, .unset, .unset, .unset, .unset, .unset, .unset]) rfl ?_
    refine own_s_lload X0.here hx (hb hby at_49) (pc' := 51) rfl rfl ?_
    refine own_s_l2i X0.here hx (hb hby at_51) (pc' := 52) rfl (v := w2_v51) w2_hv51 ?_
    refine own_s_i2d X0.here hx (hb hby at_52) (pc' := 53) rfl (v := (FP.i2d w2_v51)) rfl ?_
    refine own_s_dstore X0.here hx (hb hby at_53) (pc' := 55) rfl (L' := #[.val (.int p0), .val (.long p1), .second, .val (.long p2), .second, .val (.long p3), .second, .val (.long p4), .second, .val (.int (2 : Int32)), .val (.double (FP.i2d w2_v9)), .second, .val (.double (FP.i2d w2_v17)), .second, .val (.double (FP.i2d w2_v22)), .second, .val (.double (FP.i2d w2_v30)), .second, .val (.double (FP.i2d w2_v36)), .second, .val (.double (FP.i2d w2_v45)), .second, .val (.double (FP.i2d w2_v51)), .second, .unset, .unset, .unset, .unset]) rfl ?_
    refine own_s_lload X0.here hx (hb hby at_55) (pc' := 57) rfl rfl ?_
    refine own_s_bipush X0.here hx (hb hby at_57) (pc' := 59) rfl (v := (32 : Int32)) (by decide) ?_
    refine own_s_lshr X0.here hx (hb hby at_59) (pc' := 60) rfl (v := w2_v59) w2_hv59 ?_
    refine own_s_l2i X0.here hx (hb hby at_60) (pc' := 61) rfl (v := w2_v60) w2_hv60 ?_
    refine own_s_i2d X0.here hx (hb hby at_61) (pc' := 62) rfl (v := (FP.i2d w2_v60)) rfl ?_
    refine own_s_dstore X0.here hx (hb hby at_62) (pc' := 64) rfl (L' := #[.val (.int p0), .val (.long p1), .second, .val (.long p2), .second, .val (.long p3), .second, .val (.long p4), .second, .val (.int (2 : Int32)), .val (.double (FP.i2d w2_v9)), .second, .val (.double (FP.i2d w2_v17)), .second, .val (.double (FP.i2d w2_v22)), .second, .val (.double (FP.i2d w2_v30)), .second, .val (.double (FP.i2d w2_v36)), .second, .val (.double (FP.i2d w2_v45)), .second, .val (.double (FP.i2d w2_v51)), .second, .val (.double (FP.i2d w2_v60)), .second, .unset, .unset]) rfl ?_
    refine own_s_iload X0.here hx (hb hby at_64) (pc' := 66) rfl rfl ?_
    refine own_s_ifYes X0.here hx (hb hby at_66) (by decide) (pc' := 77) (by decide) (by decide) ?_
    refine own_s_iload X0.here hx (hb hby at_77) (pc' := 79) rfl rfl ?_
    refine own_s_iconst X0.here hx (hb hby at_79) (pc' := 80) rfl (v := (1 : Int32)) (by decide) ?_
    refine own_s_icmpYes X0.here hx (hb hby at_80) (by decide) (pc' := 101) (by decide) (by decide) ?_
    refine own_s_iload X0.here hx (hb hby at_101) (pc' := 103) rfl rfl ?_
    refine own_s_iconst X0.here hx (hb hby at_103) (pc' := 104) rfl (v := (2 : Int32)) (by decide) ?_
    refine own_s_icmpNo X0.here hx (hb hby at_104) (pc' := 107) rfl (by decide) ?_
    refine own_s_iconst X0.here hx (hb hby at_107) (pc' := 108) rfl (v := (4 : Int32)) (by decide) ?_
    refine stw21 _ ?_
    refine own_s_dup Xw21.here hx (hb hby at_110) (pc' := 111) rfl rfl ?_
    refine own_s_iconst Xw21.here hx (hb hby at_111) (pc' := 112) rfl (v := (0 : Int32)) (by decide) ?_
    refine own_s_dload Xw21.here hx (hb hby at_112) (pc' := 114) rfl rfl ?_
    refine stw22 _ ?_
    refine own_s_dup Xw22.here hx (hb hby at_115) (pc' := 116) rfl rfl ?_
    refine own_s_iconst Xw22.here hx (hb hby at_116) (pc' := 117) rfl (v := (1 : Int32)) (by decide) ?_
    refine own_s_dload Xw22.here hx (hb hby at_117) (pc' := 119) rfl rfl ?_
    refine stw23 _ ?_
    refine own_s_dup Xw23.here hx (hb hby at_120) (pc' := 121) rfl rfl ?_
    refine own_s_iconst Xw23.here hx (hb hby at_121) (pc' := 122) rfl (v := (2 : Int32)) (by decide) ?_
    refine own_s_dload Xw23.here hx (hb hby at_122) (pc' := 124) rfl rfl ?_
    refine stw24 _ ?_
    refine own_s_dup Xw24.here hx (hb hby at_125) (pc' := 126) rfl rfl ?_
    refine own_s_iconst Xw24.here hx (hb hby at_126) (pc' := 127) rfl (v := (3 : Int32)) (by decide) ?_
    refine own_s_dload Xw24.here hx (hb hby at_127) (pc' := 129) rfl rfl ?_
    refine stw25 _ ?_
    refine own_s_astore Xw25.here hx (hb hby at_130) (pc' := 132) rfl rfl (L' := #[.val (.int p0), .val (.long p1), .second, .val (.long p2), .second, .val (.long p3), .second, .val (.long p4), .second, .val (.int (2 : Int32)), .val (.double (FP.i2d w2_v9)), .second, .val (.double (FP.i2d w2_v17)), .second, .val (.double (FP.i2d w2_v22)), .second, .val (.double (FP.i2d w2_v30)), .second, .val (.double (FP.i2d w2_v36)), .second, .val (.double (FP.i2d w2_v45)), .second, .val (.double (FP.i2d w2_v51)), .second, .val (.double (FP.i2d w2_v60)), .second, .val (.ref bw21), .unset]) rfl ?_
    refine own_s_goto Xw25.here hx (hb hby at_132) (by decide) (pc' := 228) (by decide) ?_
    refine own_s_aload Xw25.here hx (hb hby at_228) (pc' := 230) rfl rfl rfl ?_
    refine stw26 _ ?_
    show Steps p.tables e below (Tw26.setTop (mkF m 233 #[.val (.int p0), .val (.long p1), .second, .val (.long p2), .second, .val (.long p3), .second, .val (.long p4), .second, .val (.int (2 : Int32)), .val (.double (FP.i2d w2_v9)), .second, .val (.double (FP.i2d w2_v17)), .second, .val (.double (FP.i2d w2_v22)), .second, .val (.double (FP.i2d w2_v30)), .second, .val (.double (FP.i2d w2_v36)), .second, .val (.double (FP.i2d w2_v45)), .second, .val (.double (FP.i2d w2_v51)), .second, .val (.double (FP.i2d w2_v60)), .second, .val (.ref bw21), .unset] [(.ref bw26)])) _
    refine own_s_astore Xw26.here hx (hb hby at_233) (pc' := 235) rfl rfl (L' := #[.val (.int p0), .val (.long p1), .second, .val (.long p2), .second, .val (.long p3), .second, .val (.long p4), .second, .val (.int (2 : Int32)), .val (.double (FP.i2d w2_v9)), .second, .val (.double (FP.i2d w2_v17)), .second, .val (.double (FP.i2d w2_v22)), .second, .val (.double (FP.i2d w2_v30)), .second, .val (.double (FP.i2d w2_v36)), .second, .val (.double (FP.i2d w2_v45)), .second, .val (.double (FP.i2d w2_v51)), .second, .val (.double (FP.i2d w2_v60)), .second, .val (.ref bw21), .val (.ref bw26)]) rfl ?_
    refine own_s_aload Xw26.here hx (hb hby at_235) (pc' := 237) rfl rfl rfl ?_
    refine own_s_ifnullNo Xw26.here hx (hb hby at_237) (pc' := 240) rfl  ?_
    refine own_s_aload Xw26.here hx (hb hby at_240) (pc' := 242) rfl rfl rfl ?_
    refine own_len Xw26 hx hZ rfl qw26_0 (hb hby at_242) (pc' := 243) rfl ?_
    refine own_s_iconst Xw26.here hx (hb hby at_243) (pc' := 244) rfl (v := (2 : Int32)) (by decide) ?_
    refine own_s_iload Xw26.here hx (hb hby at_244) (pc' := 246) rfl rfl ?_
    refine own_s_imul Xw26.here hx (hb hby at_246) (pc' := 247) rfl (v := (4 : Int32)) (by decide) ?_
    refine own_s_icmpNo Xw26.here hx (hb hby at_247) (pc' := 250) rfl (by decide) ?_
    refine own_s_aload Xw26.here hx (hb hby at_250) (pc' := 252) rfl rfl rfl ?_
    refine own_len Xw26 hx hZ rfl V_bw21_w26 (hb hby at_252) (pc' := 253) rfl ?_
    refine own_s_iconst Xw26.here hx (hb hby at_253) (pc' := 254) rfl (v := (2 : Int32)) (by decide) ?_
    refine own_s_iload Xw26.here hx (hb hby at_254) (pc' := 256) rfl rfl ?_
    refine own_s_imul Xw26.here hx (hb hby at_256) (pc' := 257) rfl (v := (4 : Int32)) (by decide) ?_
    refine own_s_icmpYes Xw26.here hx (hb hby at_257) (by decide) (pc' := 262) (by decide) (by decide) ?_
    refine own_s_iload Xw26.here hx (hb hby at_262) (pc' := 264) rfl rfl ?_
    refine own_s_ifYes Xw26.here hx (hb hby at_264) (by decide) (pc' := 269) (by decide) (by decide) ?_
    refine own_s_iload Xw26.here hx (hb hby at_269) (pc' := 271) rfl rfl ?_
    refine own_s_iconst Xw26.here hx (hb hby at_271) (pc' := 272) rfl (v := (1 : Int32)) (by decide) ?_
    refine own_s_icmpYes Xw26.here hx (hb hby at_272) (by decide) (pc' := 321) (by decide) (by decide) ?_
    refine own_s_iload Xw26.here hx (hb hby at_321) (pc' := 323) rfl rfl ?_
    refine own_s_iconst Xw26.here hx (hb hby at_323) (pc' := 324) rfl (v := (2 : Int32)) (by decide) ?_
    refine own_s_icmpNo Xw26.here hx (hb hby at_324) (pc' := 327) rfl (by decide) ?_
    refine own_s_aload Xw26.here hx (hb hby at_327) (pc' := 329) rfl rfl rfl ?_
    refine own_s_iconst Xw26.here hx (hb hby at_329) (pc' := 330) rfl (v := (0 : Int32)) (by decide) ?_
    refine own_ldD Xw26 hx hZ rfl qw26_0 (j := (0 : Int32)) (x := (FP.i2d w2_v22)) (by decide) rfl (hb hby at_330) (pc' := 331) rfl ?_
    refine own_s_dload Xw26.here hx (hb hby at_331) (pc' := 333) rfl rfl ?_
    refine own_s_dcmp Xw26.here hx (hb hby at_333) (pc' := 334) rfl (v := (0 : Int32)) w2_hc333 ?_
    refine own_s_ifNo Xw26.here hx (hb hby at_334) (pc' := 337) rfl (by decide) ?_
    refine own_s_aload Xw26.here hx (hb hby at_337) (pc' := 339) rfl rfl rfl ?_
    refine own_s_iconst Xw26.here hx (hb hby at_339) (pc' := 340) rfl (v := (1 : Int32)) (by decide) ?_
    refine own_ldD Xw26 hx hZ rfl qw26_0 (j := (1 : Int32)) (x := (FP.i2d w2_v30)) (by decide) rfl (hb hby at_340) (pc' := 341) rfl ?_
    refine own_s_dload Xw26.here hx (hb hby at_341) (pc' := 343) rfl rfl ?_
    refine own_s_dcmp Xw26.here hx (hb hby at_343) (pc' := 344) rfl (v := (0 : Int32)) w2_hc343 ?_
    refine own_s_ifNo Xw26.here hx (hb hby at_344) (pc' := 347) rfl (by decide) ?_
    refine own_s_aload Xw26.here hx (hb hby at_347) (pc' := 349) rfl rfl rfl ?_
    refine own_s_iconst Xw26.here hx (hb hby at_349) (pc' := 350) rfl (v := (2 : Int32)) (by decide) ?_
    refine own_ldD Xw26 hx hZ rfl qw26_0 (j := (2 : Int32)) (x := (FP.i2d w2_v9)) (by decide) rfl (hb hby at_350) (pc' := 351) rfl ?_
    refine own_s_dload Xw26.here hx (hb hby at_351) (pc' := 353) rfl rfl ?_
    refine own_s_dcmp Xw26.here hx (hb hby at_353) (pc' := 354) rfl (v := (0 : Int32)) w2_hc353 ?_
    refine own_s_ifNo Xw26.here hx (hb hby at_354) (pc' := 357) rfl (by decide) ?_
    refine own_s_aload Xw26.here hx (hb hby at_357) (pc' := 359) rfl rfl rfl ?_
    refine own_s_iconst Xw26.here hx (hb hby at_359) (pc' := 360) rfl (v := (3 : Int32)) (by decide) ?_
    refine own_ldD Xw26 hx hZ rfl qw26_0 (j := (3 : Int32)) (x := (FP.i2d w2_v17)) (by decide) rfl (hb hby at_360) (pc' := 361) rfl ?_
    refine own_s_dload Xw26.here hx (hb hby at_361) (pc' := 363) rfl rfl ?_
    refine own_s_dcmp Xw26.here hx (hb hby at_363) (pc' := 364) rfl (v := (0 : Int32)) w2_hc363 ?_
    refine own_s_ifNo Xw26.here hx (hb hby at_364) (pc' := 367) rfl (by decide) ?_
    refine own_s_aload Xw26.here hx (hb hby at_367) (pc' := 369) rfl rfl rfl ?_
    refine own_s_iconst Xw26.here hx (hb hby at_369) (pc' := 370) rfl (v := (0 : Int32)) (by decide) ?_
    refine own_ldD Xw26 hx hZ rfl V_bw21_w26 (j := (0 : Int32)) (x := (FP.i2d w2_v9)) (by decide) rfl (hb hby at_370) (pc' := 371) rfl ?_
    refine own_s_dload Xw26.here hx (hb hby at_371) (pc' := 373) rfl rfl ?_
    refine own_s_dcmp Xw26.here hx (hb hby at_373) (pc' := 374) rfl (v := (0 : Int32)) w2_hc373 ?_
    refine own_s_ifNo Xw26.here hx (hb hby at_374) (pc' := 377) rfl (by decide) ?_
    refine own_s_aload Xw26.here hx (hb hby at_377) (pc' := 379) rfl rfl rfl ?_
    refine own_s_iconst Xw26.here hx (hb hby at_379) (pc' := 380) rfl (v := (1 : Int32)) (by decide) ?_
    refine own_ldD Xw26 hx hZ rfl V_bw21_w26 (j := (1 : Int32)) (x := (FP.i2d w2_v17)) (by decide) rfl (hb hby at_380) (pc' := 381) rfl ?_
    refine own_s_dload Xw26.here hx (hb hby at_381) (pc' := 383) rfl rfl ?_
    refine own_s_dcmp Xw26.here hx (hb hby at_383) (pc' := 384) rfl (v := (0 : Int32)) w2_hc383 ?_
    refine own_s_ifNo Xw26.here hx (hb hby at_384) (pc' := 387) rfl (by decide) ?_
    refine own_s_aload Xw26.here hx (hb hby at_387) (pc' := 389) rfl rfl rfl ?_
    refine own_s_iconst Xw26.here hx (hb hby at_389) (pc' := 390) rfl (v := (2 : Int32)) (by decide) ?_
    refine own_ldD Xw26 hx hZ rfl V_bw21_w26 (j := (2 : Int32)) (x := (FP.i2d w2_v22)) (by decide) rfl (hb hby at_390) (pc' := 391) rfl ?_
    refine own_s_dload Xw26.here hx (hb hby at_391) (pc' := 393) rfl rfl ?_
    refine own_s_dcmp Xw26.here hx (hb hby at_393) (pc' := 394) rfl (v := (0 : Int32)) w2_hc393 ?_
    refine own_s_ifNo Xw26.here hx (hb hby at_394) (pc' := 397) rfl (by decide) ?_
    refine own_s_aload Xw26.here hx (hb hby at_397) (pc' := 399) rfl rfl rfl ?_
    refine own_s_iconst Xw26.here hx (hb hby at_399) (pc' := 400) rfl (v := (3 : Int32)) (by decide) ?_
    refine own_ldD Xw26 hx hZ rfl V_bw21_w26 (j := (3 : Int32)) (x := (FP.i2d w2_v30)) (by decide) rfl (hb hby at_400) (pc' := 401) rfl ?_
    refine own_s_dload Xw26.here hx (hb hby at_401) (pc' := 403) rfl rfl ?_
    refine own_s_dcmp Xw26.here hx (hb hby at_403) (pc' := 404) rfl (v := (0 : Int32)) w2_hc403 ?_
    refine own_s_ifNo Xw26.here hx (hb hby at_404) (pc' := 407) rfl (by decide) ?_
    refine own_s_iconst Xw26.here hx (hb hby at_407) (pc' := 408) rfl (v := (1 : Int32)) (by decide) ?_
    refine own_s_goto Xw26.here hx (hb hby at_408) (by decide) (pc' := 412) (by decide) ?_
    exact retN Xw26 hx (t := .boolean) Bd.returns (by simp) (hb hby at_412) hr
  · show own_Q0 n0 _ Tw26.heap _
    exact ⟨rfl, Nw26⟩
theorem own_ef_c3 (m : MethodId) (q : Addr) : entryFrame m #[(.ref q)] 3 = mkF m 0 #[.val (.ref q), .unset, .unset] [] := by first | (simp [entryFrame, mkF, argsToLocals, Value.category]; done) | rfl
def own_Q_c3 (Z : State) (q : Addr) (d0 : UInt64) (d1 : UInt64) (d2 : UInt64) (d3 : UInt64) (d4 : UInt64) (d5 : UInt64) (qk : ClassId) (h0 : Heap) (n0 : Nat) (v : Option Value) (h : Heap) (L : List Loc) : Prop := ∃ (bc31 : Addr) (kc31 : ClassId), v = some (.ref bc31) ∧ Fr n0 L ∧ Keep h0 h [] ∧ h0.size ≤ bc31 ∧ Arv Z h bc31 kc31 .double (6 : Int32) [(.double d4), (.double d5), (.double d2), (.double d3), (.double d0), (.double d1)] (.double 0)
set_option maxRecDepth 65536 in
set_option maxHeartbeats 40000000 in
theorem own_rm_c3 (l : Launch) (Z : State) (a0 : Array Value) (hw : ∀ d ∈ tables_1, d.before a0 Z = true) (ws : List Jvm.Cond) (q : Addr) (d0 : UInt64) (d1 : UInt64) (d2 : UInt64) (d3 : UInt64) (d4 : UInt64) (d5 : UInt64) {qk : ClassId} (h0 : Heap) (n0 : Nat) (Z0 : n0 ≤ h0.size) (V_q : Arv Z h0 q qk .double (6 : Int32) [(.double d0), (.double d1), (.double d2), (.double d3), (.double d4), (.double d5)] (.double 0))  :
    MetFree l (⟨"com/example/hachure/hachure/render/ParallelLines", "reversed", "([D)[D"⟩ : MethodName) (head1 (Jvm.Cond.code (⟨"com/example/hachure/hachure/render/ParallelLines", "reversed", "([D)[D"⟩ : MethodName) prog_112_method_11_code 3 (some (.array .double)) :: ws) ({ frames := 0, cells := 1, slots := 6, locals := 0 } : Room)) (fun a U => a = #[(.ref q)] ∧ Z.Warmed39 U.vm ∧ U.heap = h0) (fun _ _ _ _ _ => True) (fun _ U o U' => ∃ v L, o = .returned v ∧ own_Q_c3 Z q d0 d1 d2 d3 d4 d5 qk h0 n0 v U'.heap L ∧ FrameEnd U o U' L ({ frames := 0, cells := 1, slots := 6, locals := 0 } : Room).cells ({ frames := 0, cells := 1, slots := 6, locals := 0 } : Room).slots) := by
  refine MetFree.of_bodySF (plainFor_of_name own_pn_com_example_hachure_hachure_render_ParallelLines) hisR ?_
  intro p e s m args below meth c s₁ Bd hml0 hP hK
  obtain ⟨rfl, hZ, hh⟩ := hP
  have hx := Bd.exec
  have hby := Bd.bytes
  have hml : c.maxLocals = 3 := hml0
  have hown : s.vm.findClass "com/example/hachure/hachure/render/ParallelLines" = some m.cls := findClass_of_methodNamed Bd.named
  have hnm := (name_of_methodNamed Bd.named Bd.method).1
  have X0 : Stand p l e ({ frames := 0, cells := 1, slots := 6, locals := 0 } : Room) s m #[(.ref q)] below meth c s₁ [] 0 0 := Stand.of_body Bd
  have e0 : s₁.heap = h0 := by rw [← hh, Bd.state]; rfl
  have N0 := Fr.nil n0
  have pre0 : ∀ t, Steps p.tables e below (s₁.setTop (mkF m 0 #[.val (.ref q), .unset, .unset] [])) t → Steps p.tables e below (s₁.setTop (entryFrame m #[(.ref q)] 3)) t := fun t k => castTop (own_ef_c3 m q) k
  obtain ⟨Tc31, hc31, kc31, bc31, Xc31, ec31, Ec31, Gc31, Vc31, stc31⟩ := own_newD (L := #[.val (.ref q), .unset, .unset]) (S := []) X0 hx hZ (hw _ (List.mem_of_getElem? (i := 1) rfl)) e0 (z := (6 : Int32)) 6 (by decide) (by decide) (by decide) (by decide) (by decide) (hb hby own_d1_2) (pc' := 4) rfl
  have ne_q_bc31 : q ≠ bc31 := Nat.ne_of_lt (Nat.lt_of_lt_of_le V_q.lt (Nat.le_of_eq Gc31.symm))
  have ne_bc31_q : bc31 ≠ q := Ne.symm ne_q_bc31
  have g_bc31 : n0 ≤ bc31 := Nat.le_trans Z0 (Nat.le_of_eq Gc31.symm)
  have sz_bc31 : h0.size ≤ bc31 := Nat.le_trans (Keep.refl h0 []).1 (Nat.le_of_eq Gc31.symm)
  have V_q_c31 := V_q.ext Ec31
  have Zc31 : n0 ≤ hc31.size := Nat.le_trans Z0 Ec31.1
  have KKc31 := (Keep.refl h0 []).ext Ec31
  have V_bc31 : Arv Z hc31 bc31 kc31 .double (6 : Int32) [(.double 0), (.double 0), (.double 0), (.double 0), (.double 0), (.double 0)] (.double 0) := Vc31
  obtain ⟨Tc32, hc32, Xc32, ec32, Wc32, Vc32, stc32⟩ := own_stD (L := #[.val (.ref q), .val (.ref bc31), .val (.int (0 : Int32))]) (S := []) Xc31 hx hZ ec31 V_bc31 (j := (4 : Int32)) (x := d0) (by decide) 4 (by decide) (Nat.le_of_ble_eq_true rfl) (hb hby own_d1_23) (pc' := 24) rfl
  have V_q_c32 := V_q_c31.other Wc32 ne_q_bc31
  have Zc32 : n0 ≤ hc32.size := Nat.le_trans Zc31 (Nat.le_of_eq Wc32.size.symm)
  have KKc32 := KKc31.wr Wc32 (Or.inr sz_bc31)
  have V_bc31_c32 : Arv Z hc32 bc31 kc31 .double (6 : Int32) [(.double 0), (.double 0), (.double 0), (.double 0), (.double d0), (.double 0)] (.double 0) := Vc32
  have Nc32 := Fr.snoc Xc32 N0 g_bc31
  obtain ⟨Tc33, hc33, Xc33, ec33, Wc33, Vc33, stc33⟩ := own_stD (L := #[.val (.ref q), .val (.ref bc31), .val (.int (0 : Int32))]) (S := []) Xc32 hx hZ ec32 V_bc31_c32 (j := (5 : Int32)) (x := d1) (by decide) 5 (by decide) (Nat.le_of_ble_eq_true rfl) (hb hby own_d1_36) (pc' := 37) rfl
  have V_q_c33 := V_q_c32.other Wc33 ne_q_bc31
  have Zc33 : n0 ≤ hc33.size := Nat.le_trans Zc32 (Nat.le_of_eq Wc33.size.symm)
  have KKc33 := KKc32.wr Wc33 (Or.inr sz_bc31)
  have V_bc31_c33 : Arv Z hc33 bc31 kc31 .double (6 : Int32) [(.double 0), (.double 0), (.double 0), (.double 0), (.double d0), (.double d1)] (.double 0) := Vc33
  have Nc33 := Fr.snoc Xc33 Nc32 g_bc31
  obtain ⟨Tc34, hc34, Xc34, ec34, Wc34, Vc34, stc34⟩ := own_stD (L := #[.val (.ref q), .val (.ref bc31), .val (.int (2 : Int32))]) (S := []) Xc33 hx hZ ec33 V_bc31_c33 (j := (2 : Int32)) (x := d2) (by decide) 2 (by decide) (Nat.le_of_ble_eq_true rfl) (hb hby own_d1_23) (pc' := 24) rfl
  have V_q_c34 := V_q_c33.other Wc34 ne_q_bc31
  have Zc34 : n0 ≤ hc34.size := Nat.le_trans Zc33 (Nat.le_of_eq Wc34.size.symm)
  have KKc34 := KKc33.wr Wc34 (Or.inr sz_bc31)
  have V_bc31_c34 : Arv Z hc34 bc31 kc31 .double (6 : Int32) [(.double 0), (.double 0), (.double d2), (.double 0), (.double d0), (.double d1)] (.double 0) := Vc34
  have Nc34 := Fr.snoc Xc34 Nc33 g_bc31
  obtain ⟨Tc35, hc35, Xc35, ec35, Wc35, Vc35, stc35⟩ := own_stD (L := #[.val (.ref q), .val (.ref bc31), .val (.int (2 : Int32))]) (S := []) Xc34 hx hZ ec34 V_bc31_c34 (j := (3 : Int32)) (x := d3) (by decide) 3 (by decide) (Nat.le_of_ble_eq_true rfl) (hb hby own_d1_36) (pc' := 37) rfl
  have V_q_c35 := V_q_c34.other Wc35 ne_q_bc31
  have Zc35 : n0 ≤ hc35.size := Nat.le_trans Zc34 (Nat.le_of_eq Wc35.size.symm)
  have KKc35 := KKc34.wr Wc35 (Or.inr sz_bc31)
  have V_bc31_c35 : Arv Z hc35 bc31 kc31 .double (6 : Int32) [(.double 0), (.double 0), (.double d2), (.double d3), (.double d0), (.double d1)] (.double 0) := Vc35
  have Nc35 := Fr.snoc Xc35 Nc34 g_bc31
  obtain ⟨Tc36, hc36, Xc36, ec36, Wc36, Vc36, stc36⟩ := own_stD (L := #[.val (.ref q), .val (.ref bc31), .val (.int (4 : Int32))]) (S := []) Xc35 hx hZ ec35 V_bc31_c35 (j := (0 : Int32)) (x := d4) (by decide) 0 (by decide) (Nat.le_of_ble_eq_true rfl) (hb hby own_d1_23) (pc' := 24) rfl
  have V_q_c36 := V_q_c35.other Wc36 ne_q_bc31
  have Zc36 : n0 ≤ hc36.size := Nat.le_trans Zc35 (Nat.le_of_eq Wc36.size.symm)
  have KKc36 := KKc35.wr Wc36 (Or.inr sz_bc31)
  have V_bc31_c36 : Arv Z hc36 bc31 kc31 .double (6 : Int32) [(.double d4), (.double 0), (.double d2), (.double d3), (.double d0), (.double d1)] (.double 0) := Vc36
  have Nc36 := Fr.snoc Xc36 Nc35 g_bc31
  obtain ⟨Tc37, hc37, Xc37, ec37, Wc37, Vc37, stc37⟩ := own_stD (L := #[.val (.ref q), .val (.ref bc31), .val (.int (4 : Int32))]) (S := []) Xc36 hx hZ ec36 V_bc31_c36 (j := (1 : Int32)) (x := d5) (by decide) 1 (by decide) (Nat.le_of_ble_eq_true rfl) (hb hby own_d1_36) (pc' := 37) rfl
  have V_q_c37 := V_q_c36.other Wc37 ne_q_bc31
  have Zc37 : n0 ≤ hc37.size := Nat.le_trans Zc36 (Nat.le_of_eq Wc37.size.symm)
  have KKc37 := KKc36.wr Wc37 (Or.inr sz_bc31)
  have V_bc31_c37 : Arv Z hc37 bc31 kc31 .double (6 : Int32) [(.double d4), (.double d5), (.double d2), (.double d3), (.double d0), (.double d1)] (.double 0) := Vc37
  have Nc37 := Fr.snoc Xc37 Nc36 g_bc31
  obtain ⟨fs, hr, hrun, hended, hW, hsame⟩ := Xc37.leave (v := some (.ref bc31)) (fun h => by rw [Bd.returns] at h; cases h)
  refine ⟨_, _, pre0 _ ?_, hrun, hended, _, _, rfl, ?_, ⟨_, rfl⟩, hW, hsame.mono (by decide) (by decide)⟩
  · refine own_s_aloadN X0.here hx (hb hby own_d1_0) (pc' := 1) rfl rfl rfl ?_
    refine own_len X0 hx hZ e0 V_q (hb hby own_d1_1) (pc' := 2) rfl ?_
    refine stc31 _ ?_
    refine own_s_astoreN Xc31.here hx (hb hby own_d1_4) (pc' := 5) rfl rfl (L' := #[.val (.ref q), .val (.ref bc31), .unset]) rfl ?_
    refine own_s_iconst Xc31.here hx (hb hby own_d1_5) (pc' := 6) rfl (v := (0 : Int32)) (by decide) ?_
    refine own_s_istoreN Xc31.here hx (hb hby own_d1_6) (pc' := 7) rfl (L' := #[.val (.ref q), .val (.ref bc31), .val (.int (0 : Int32))]) rfl ?_
    refine own_s_iloadN Xc31.here hx (hb hby own_d1_7) (pc' := 8) rfl rfl ?_
    refine own_s_aloadN Xc31.here hx (hb hby own_d1_8) (pc' := 9) rfl rfl rfl ?_
    refine own_len Xc31 hx hZ ec31 V_q_c31 (hb hby own_d1_9) (pc' := 10) rfl ?_
    refine own_s_icmpNo Xc31.here hx (hb hby own_d1_10) (pc' := 13) rfl (by decide) ?_
    refine own_s_aloadN Xc31.here hx (hb hby own_d1_13) (pc' := 14) rfl rfl rfl ?_
    refine own_s_aloadN Xc31.here hx (hb hby own_d1_14) (pc' := 15) rfl rfl rfl ?_
    refine own_len Xc31 hx hZ ec31 V_q_c31 (hb hby own_d1_15) (pc' := 16) rfl ?_
    refine own_s_iconst Xc31.here hx (hb hby own_d1_16) (pc' := 17) rfl (v := (2 : Int32)) (by decide) ?_
    refine own_s_isub Xc31.here hx (hb hby own_d1_17) (pc' := 18) rfl (v := (4 : Int32)) (by decide) ?_
    refine own_s_iloadN Xc31.here hx (hb hby own_d1_18) (pc' := 19) rfl rfl ?_
    refine own_s_isub Xc31.here hx (hb hby own_d1_19) (pc' := 20) rfl (v := (4 : Int32)) (by decide) ?_
    refine own_s_aloadN Xc31.here hx (hb hby own_d1_20) (pc' := 21) rfl rfl rfl ?_
    refine own_s_iloadN Xc31.here hx (hb hby own_d1_21) (pc' := 22) rfl rfl ?_
    refine own_ldD Xc31 hx hZ ec31 V_q_c31 (j := (0 : Int32)) (x := d0) (by decide) rfl (hb hby own_d1_22) (pc' := 23) rfl ?_
    refine stc32 _ ?_
    refine own_s_aloadN Xc32.here hx (hb hby own_d1_24) (pc' := 25) rfl rfl rfl ?_
    refine own_s_aloadN Xc32.here hx (hb hby own_d1_25) (pc' := 26) rfl rfl rfl ?_
    refine own_len Xc32 hx hZ ec32 V_q_c32 (hb hby own_d1_26) (pc' := 27) rfl ?_
    refine own_s_iconst Xc32.here hx (hb hby own_d1_27) (pc' := 28) rfl (v := (1 : Int32)) (by decide) ?_
    refine own_s_isub Xc32.here hx (hb hby own_d1_28) (pc' := 29) rfl (v := (5 : Int32)) (by decide) ?_
    refine own_s_iloadN Xc32.here hx (hb hby own_d1_29) (pc' := 30) rfl rfl ?_
    refine own_s_isub Xc32.here hx (hb hby own_d1_30) (pc' := 31) rfl (v := (5 : Int32)) (by decide) ?_
    refine own_s_aloadN Xc32.here hx (hb hby own_d1_31) (pc' := 32) rfl rfl rfl ?_
    refine own_s_iloadN Xc32.here hx (hb hby own_d1_32) (pc' := 33) rfl rfl ?_
    refine own_s_iconst Xc32.here hx (hb hby own_d1_33) (pc' := 34) rfl (v := (1 : Int32)) (by decide) ?_
    refine own_s_iadd Xc32.here hx (hb hby own_d1_34) (pc' := 35) rfl (v := (1 : Int32)) (by decide) ?_
    refine own_ldD Xc32 hx hZ ec32 V_q_c32 (j := (1 : Int32)) (x := d1) (by decide) rfl (hb hby own_d1_35) (pc' := 36) rfl ?_
    refine stc33 _ ?_
    refine own_s_iinc Xc33.here hx (hb hby own_d1_37) (pc' := 40) rfl rfl (v := (2 : Int32)) (by decide) (L' := #[.val (.ref q), .val (.ref bc31), .val (.int (2 : Int32))]) rfl ?_
    refine own_s_goto Xc33.here hx (hb hby own_d1_40) (by decide) (pc' := 7) (by decide) ?_
    refine own_s_iloadN Xc33.here hx (hb hby own_d1_7) (pc' := 8) rfl rfl ?_
    refine own_s_aloadN Xc33.here hx (hb hby own_d1_8) (pc' := 9) rfl rfl rfl ?_
    refine own_len Xc33 hx hZ ec33 V_q_c33 (hb hby own_d1_9) (pc' := 10) rfl ?_
    refine own_s_icmpNo Xc33.here hx (hb hby own_d1_10) (pc' := 13) rfl (by decide) ?_
    refine own_s_aloadN Xc33.here hx (hb hby own_d1_13) (pc' := 14) rfl rfl rfl ?_
    refine own_s_aloadN Xc33.here hx (hb hby own_d1_14) (pc' := 15) rfl rfl rfl ?_
    refine own_len Xc33 hx hZ ec33 V_q_c33 (hb hby own_d1_15) (pc' := 16) rfl ?_
    refine own_s_iconst Xc33.here hx (hb hby own_d1_16) (pc' := 17) rfl (v := (2 : Int32)) (by decide) ?_
    refine own_s_isub Xc33.here hx (hb hby own_d1_17) (pc' := 18) rfl (v := (4 : Int32)) (by decide) ?_
    refine own_s_iloadN Xc33.here hx (hb hby own_d1_18) (pc' := 19) rfl rfl ?_
    refine own_s_isub Xc33.here hx (hb hby own_d1_19) (pc' := 20) rfl (v := (2 : Int32)) (by decide) ?_
    refine own_s_aloadN Xc33.here hx (hb hby own_d1_20) (pc' := 21) rfl rfl rfl ?_
    refine own_s_iloadN Xc33.here hx (hb hby own_d1_21) (pc' := 22) rfl rfl ?_
    refine own_ldD Xc33 hx hZ ec33 V_q_c33 (j := (2 : Int32)) (x := d2) (by decide) rfl (hb hby own_d1_22) (pc' := 23) rfl ?_
    refine stc34 _ ?_
    refine own_s_aloadN Xc34.here hx (hb hby own_d1_24) (pc' := 25) rfl rfl rfl ?_
    refine own_s_aloadN Xc34.here hx (hb hby own_d1_25) (pc' := 26) rfl rfl rfl ?_
    refine own_len Xc34 hx hZ ec34 V_q_c34 (hb hby own_d1_26) (pc' := 27) rfl ?_
    refine own_s_iconst Xc34.here hx (hb hby own_d1_27) (pc' := 28) rfl (v := (1 : Int32)) (by decide) ?_
    refine own_s_isub Xc34.here hx (hb hby own_d1_28) (pc' := 29) rfl (v := (5 : Int32)) (by decide) ?_
    refine own_s_iloadN Xc34.here hx (hb hby own_d1_29) (pc' := 30) rfl rfl ?_
    refine own_s_isub Xc34.here hx (hb hby own_d1_30) (pc' := 31) rfl (v := (3 : Int32)) (by decide) ?_
    refine own_s_aloadN Xc34.here hx (hb hby own_d1_31) (pc' := 32) rfl rfl rfl ?_
    refine own_s_iloadN Xc34.here hx (hb hby own_d1_32) (pc' := 33) rfl rfl ?_
    refine own_s_iconst Xc34.here hx (hb hby own_d1_33) (pc' := 34) rfl (v := (1 : Int32)) (by decide) ?_
    refine own_s_iadd Xc34.here hx (hb hby own_d1_34) (pc' := 35) rfl (v := (3 : Int32)) (by decide) ?_
    refine own_ldD Xc34 hx hZ ec34 V_q_c34 (j := (3 : Int32)) (x := d3) (by decide) rfl (hb hby own_d1_35) (pc' := 36) rfl ?_
    refine stc35 _ ?_
    refine own_s_iinc Xc35.here hx (hb hby own_d1_37) (pc' := 40) rfl rfl (v := (4 : Int32)) (by decide) (L' := #[.val (.ref q), .val (.ref bc31), .val (.int (4 : Int32))]) rfl ?_
    refine own_s_goto Xc35.here hx (hb hby own_d1_40) (by decide) (pc' := 7) (by decide) ?_
    refine own_s_iloadN Xc35.here hx (hb hby own_d1_7) (pc' := 8) rfl rfl ?_
    refine own_s_aloadN Xc35.here hx (hb hby own_d1_8) (pc' := 9) rfl rfl rfl ?_
    refine own_len Xc35 hx hZ ec35 V_q_c35 (hb hby own_d1_9) (pc' := 10) rfl ?_
    refine own_s_icmpNo Xc35.here hx (hb hby own_d1_10) (pc' := 13) rfl (by decide) ?_
    refine own_s_aloadN Xc35.here hx (hb hby own_d1_13) (pc' := 14) rfl rfl rfl ?_
    refine own_s_aloadN Xc35.here hx (hb hby own_d1_14) (pc' := 15) rfl rfl rfl ?_
    refine own_len Xc35 hx hZ ec35 V_q_c35 (hb hby own_d1_15) (pc' := 16) rfl ?_
    refine own_s_iconst Xc35.here hx (hb hby own_d1_16) (pc' := 17) rfl (v := (2 : Int32)) (by decide) ?_
    refine own_s_isub Xc35.here hx (hb hby own_d1_17) (pc' := 18) rfl (v := (4 : Int32)) (by decide) ?_
    refine own_s_iloadN Xc35.here hx (hb hby own_d1_18) (pc' := 19) rfl rfl ?_
    refine own_s_isub Xc35.here hx (hb hby own_d1_19) (pc' := 20) rfl (v := (0 : Int32)) (by decide) ?_
    refine own_s_aloadN Xc35.here hx (hb hby own_d1_20) (pc' := 21) rfl rfl rfl ?_
    refine own_s_iloadN Xc35.here hx (hb hby own_d1_21) (pc' := 22) rfl rfl ?_
    refine own_ldD Xc35 hx hZ ec35 V_q_c35 (j := (4 : Int32)) (x := d4) (by decide) rfl (hb hby own_d1_22) (pc' := 23) rfl ?_
    refine stc36 _ ?_
    refine own_s_aloadN Xc36.here hx (hb hby own_d1_24) (pc' := 25) rfl rfl rfl ?_
    refine own_s_aloadN Xc36.here hx (hb hby own_d1_25) (pc' := 26) rfl rfl rfl ?_
    refine own_len Xc36 hx hZ ec36 V_q_c36 (hb hby own_d1_26) (pc' := 27) rfl ?_
    refine own_s_iconst Xc36.here hx (hb hby own_d1_27) (pc' := 28) rfl (v := (1 : Int32)) (by decide) ?_
    refine own_s_isub Xc36.here hx (hb hby own_d1_28) (pc' := 29) rfl (v := (5 : Int32)) (by decide) ?_
    refine own_s_iloadN Xc36.here hx (hb hby own_d1_29) (pc' := 30) rfl rfl ?_
    refine own_s_isub Xc36.here hx (hb hby own_d1_30) (pc' := 31) rfl (v := (1 : Int32)) (by decide) ?_
    refine own_s_aloadN Xc36.here hx (hb hby own_d1_31) (pc' := 32) rfl rfl rfl ?_
    refine own_s_iloadN Xc36.here hx (hb hby own_d1_32) (pc' := 33) rfl rfl ?_
    refine own_s_iconst Xc36.here hx (hb hby own_d1_33) (pc' := 34) rfl (v := (1 : Int32)) (by decide) ?_
    refine own_s_iadd Xc36.here hx (hb hby own_d1_34) (pc' := 35) rfl (v := (5 : Int32)) (by decide) ?_
    refine own_ldD Xc36 hx hZ ec36 V_q_c36 (j := (5 : Int32)) (x := d5) (by decide) rfl (hb hby own_d1_35) (pc' := 36) rfl ?_
    refine stc37 _ ?_
    refine own_s_iinc Xc37.here hx (hb hby own_d1_37) (pc' := 40) rfl rfl (v := (6 : Int32)) (by decide) (L' := #[.val (.ref q), .val (.ref bc31), .val (.int (6 : Int32))]) rfl ?_
    refine own_s_goto Xc37.here hx (hb hby own_d1_40) (by decide) (pc' := 7) (by decide) ?_
    refine own_s_iloadN Xc37.here hx (hb hby own_d1_7) (pc' := 8) rfl rfl ?_
    refine own_s_aloadN Xc37.here hx (hb hby own_d1_8) (pc' := 9) rfl rfl rfl ?_
    refine own_len Xc37 hx hZ ec37 V_q_c37 (hb hby own_d1_9) (pc' := 10) rfl ?_
    refine own_s_icmpYes Xc37.here hx (hb hby own_d1_10) (by decide) (pc' := 43) (by decide) (by decide) ?_
    refine own_s_aloadN Xc37.here hx (hb hby own_d1_43) (pc' := 44) rfl rfl rfl ?_
    exact own_retR Xc37 hx Bd.returns rfl (hb hby own_d1_44) hr
  · show own_Q_c3 Z q d0 d1 d2 d3 d4 d5 qk h0 n0 _ Tc37.heap _
    rw [ec37]
    exact ⟨bc31, kc31, rfl, Nc37, KKc37, sz_bc31, V_bc31_c37⟩
theorem own_ef_w3 (m : MethodId) (p0 : Int32) (p1 : Int64) (p2 : Int64) (p3 : Int64) (p4 : Int64) : entryFrame m #[(.int p0), (.long p1), (.long p2), (.long p3), (.long p4)] maxLocals = mkF m 0 #[.val (.int p0), .val (.long p1), .second, .val (.long p2), .second, .val (.long p3), .second, .val (.long p4), .second, .unset, .unset, .unset, .unset, .unset, .unset, .unset, .unset, .unset, .unset, .unset, .unset, .unset, .unset, .unset, .unset, .unset, .unset, .unset] [] := by first | (simp [entryFrame, mkF, argsToLocals, Value.category, maxLocals]; done) | rfl
set_option maxRecDepth 65536 in
set_option maxHeartbeats 40000000 in
theorem own_rm_w3 (l : Launch) (Z : State) (a0 : Array Value) (hw : ∀ d ∈ tables_1, d.before a0 Z = true) (ws : List Jvm.Cond) (p0 : Int32) (p1 : Int64) (p2 : Int64) (p3 : Int64) (p4 : Int64) {w3_v3 : Int32} {w3_v9 : Int32} {w3_v16 : Int64} {w3_v17 : Int32} {w3_v22 : Int32} {w3_v29 : Int64} {w3_v30 : Int32} {w3_v36 : Int32} {w3_v44 : Int64} {w3_v45 : Int32} {w3_v51 : Int32} {w3_v59 : Int64} {w3_v60 : Int32} (h0 : Heap) (n0 : Nat) (Z0 : n0 ≤ h0.size)  (w3_hv3 : p0 &&& (2147483647 : Int32) = w3_v3) (w3_hv5 : w3_v3 % (5 : Int32) = (3 : Int32)) (w3_hv9 : Int64.toInt32 p1 = w3_v9) (w3_hv16 : p1 >>> ((32 : Int32) &&& 63).toInt64 = w3_v16) (w3_hv17 : Int64.toInt32 w3_v16 = w3_v17) (w3_hv22 : Int64.toInt32 p2 = w3_v22) (w3_hv29 : p2 >>> ((32 : Int32) &&& 63).toInt64 = w3_v29) (w3_hv30 : Int64.toInt32 w3_v29 = w3_v30) (w3_hv36 : Int64.toInt32 p3 = w3_v36) (w3_hv44 : p3 >>> ((32 : Int32) &&& 63).toInt64 = w3_v44) (w3_hv45 : Int64.toInt32 w3_v44 = w3_v45) (w3_hv51 : Int64.toInt32 p4 = w3_v51) (w3_hv59 : p4 >>> ((32 : Int32) &&& 63).toInt64 = w3_v59) (w3_hv60 : Int64.toInt32 w3_v59 = w3_v60) (w3_hc425 : Op.cmpValue (FP.dcmp (FP.i2d w3_v36) (FP.i2d w3_v36)) .l = (0 : Int32)) (w3_hc435 : Op.cmpValue (FP.dcmp (FP.i2d w3_v45) (FP.i2d w3_v45)) .l = (0 : Int32)) (w3_hc445 : Op.cmpValue (FP.dcmp (FP.i2d w3_v22) (FP.i2d w3_v22)) .l = (0 : Int32)) (w3_hc455 : Op.cmpValue (FP.dcmp (FP.i2d w3_v30) (FP.i2d w3_v30)) .l = (0 : Int32)) (w3_hc465 : Op.cmpValue (FP.dcmp (FP.i2d w3_v9) (FP.i2d w3_v9)) .l = (0 : Int32)) (w3_hc475 : Op.cmpValue (FP.dcmp (FP.i2d w3_v17) (FP.i2d w3_v17)) .l = (0 : Int32)) (w3_hc485 : Op.cmpValue (FP.dcmp (FP.i2d w3_v9) (FP.i2d w3_v9)) .l = (0 : Int32)) (w3_hc495 : Op.cmpValue (FP.dcmp (FP.i2d w3_v17) (FP.i2d w3_v17)) .l = (0 : Int32)) (w3_hc505 : Op.cmpValue (FP.dcmp (FP.i2d w3_v22) (FP.i2d w3_v22)) .l = (0 : Int32)) (w3_hc515 : Op.cmpValue (FP.dcmp (FP.i2d w3_v30) (FP.i2d w3_v30)) .l = (0 : Int32)) (w3_hc525 : Op.cmpValue (FP.dcmp (FP.i2d w3_v36) (FP.i2d w3_v36)) .l = (0 : Int32)) (w3_hc535 : Op.cmpValue (FP.dcmp (FP.i2d w3_v45) (FP.i2d w3_v45)) .l = (0 : Int32)) :
    MetFree l x (head1 (Jvm.Cond.code x code maxLocals ret :: ws) room_1) (fun a U => a = #[(.int p0), (.long p1), (.long p2), (.long p3), (.long p4)] ∧ Z.Warmed39 U.vm ∧ U.heap = h0) (fun _ _ _ _ _ => True) (fun _ U o U' => ∃ v L, o = .returned v ∧ own_Q0 n0 v U'.heap L ∧ FrameEnd U o U' L room_1.cells room_1.slots) := by
  refine MetFree.of_bodySF (plainFor_of_name own_pn_com_example_hachure_hachure_render_ParallelLinesReversedPinLaw) hisR ?_
  intro p e s m args below meth c s₁ Bd hml0 hP hK
  obtain ⟨rfl, hZ, hh⟩ := hP
  have hx := Bd.exec
  have hby := Bd.bytes
  have hml : c.maxLocals = 28 := hml0
  have hown : s.vm.findClass "com/example/hachure/hachure/render/ParallelLinesReversedPinLaw" = some m.cls := findClass_of_methodNamed Bd.named
  have hnm := (name_of_methodNamed Bd.named Bd.method).1
  have X0 : Stand p l e room_1 s m #[(.int p0), (.long p1), (.long p2), (.long p3), (.long p4)] below meth c s₁ [] 0 0 := Stand.of_body Bd
  have e0 : s₁.heap = h0 := by rw [← hh, Bd.state]; rfl
  have N0 := Fr.nil n0
  have pre0 : ∀ t, Steps p.tables e below (s₁.setTop (mkF m 0 #[.val (.int p0), .val (.long p1), .second, .val (.long p2), .second, .val (.long p3), .second, .val (.long p4), .second, .unset, .unset, .unset, .unset, .unset, .unset, .unset, .unset, .unset, .unset, .unset, .unset, .unset, .unset, .unset, .unset, .unset, .unset, .unset] [])) t → Steps p.tables e below (s₁.setTop (entryFrame m #[(.int p0), (.long p1), (.long p2), (.long p3), (.long p4)] maxLocals)) t := fun t k => castTop (own_ef_w3 m p0 p1 p2 p3 p4) k
  obtain ⟨Tw31, hw31, kw31, bw31, Xw31, ew31, Ew31, Gw31, Vw31, stw31⟩ := own_newD (L := #[.val (.int p0), .val (.long p1), .second, .val (.long p2), .second, .val (.long p3), .second, .val (.long p4), .second, .val (.int (3 : Int32)), .val (.double (FP.i2d w3_v9)), .second, .val (.double (FP.i2d w3_v17)), .second, .val (.double (FP.i2d w3_v22)), .second, .val (.double (FP.i2d w3_v30)), .second, .val (.double (FP.i2d w3_v36)), .second, .val (.double (FP.i2d w3_v45)), .second, .val (.double (FP.i2d w3_v51)), .second, .val (.double (FP.i2d w3_v60)), .second, .unset, .unset]) (S := []) X0 hx hZ (hw _ (List.mem_of_getElem? (i := 1) rfl)) e0 (z := (6 : Int32)) 6 (by decide) (by decide) (by decide) (by decide) (by decide) (hb hby at_143) (pc' := 145) rfl
  have g_bw31 : n0 ≤ bw31 := Nat.le_trans Z0 (Nat.le_of_eq Gw31.symm)
  have sz_bw31 : h0.size ≤ bw31 := Nat.le_trans (Keep.refl h0 []).1 (Nat.le_of_eq Gw31.symm)
  have Zw31 : n0 ≤ hw31.size := Nat.le_trans Z0 Ew31.1
  have KKw31 := (Keep.refl h0 []).ext Ew31
  have V_bw31 : Arv Z hw31 bw31 kw31 .double (6 : Int32) [(.double 0), (.double 0), (.double 0), (.double 0), (.double 0), (.double 0)] (.double 0) := Vw31
  obtain ⟨Tw32, hw32, Xw32, ew32, Ww32, Vw32, stw32⟩ := own_stD (L := #[.val (.int p0), .val (.long p1), .second, .val (.long p2), .second, .val (.long p3), .second, .val (.long p4), .second, .val (.int (3 : Int32)), .val (.double (FP.i2d w3_v9)), .second, .val (.double (FP.i2d w3_v17)), .second, .val (.double (FP.i2d w3_v22)), .second, .val (.double (FP.i2d w3_v30)), .second, .val (.double (FP.i2d w3_v36)), .second, .val (.double (FP.i2d w3_v45)), .second, .val (.double (FP.i2d w3_v51)), .second, .val (.double (FP.i2d w3_v60)), .second, .unset, .unset]) (S := [(.ref bw31)]) Xw31 hx hZ ew31 V_bw31 (j := (0 : Int32)) (x := (FP.i2d w3_v9)) (by decide) 0 (by decide) (Nat.le_of_ble_eq_true rfl) (hb hby at_149) (pc' := 150) rfl
  have Zw32 : n0 ≤ hw32.size := Nat.le_trans Zw31 (Nat.le_of_eq Ww32.size.symm)
  have KKw32 := KKw31.wr Ww32 (Or.inr sz_bw31)
  have V_bw31_w32 : Arv Z hw32 bw31 kw31 .double (6 : Int32) [(.double (FP.i2d w3_v9)), (.double 0), (.double 0), (.double 0), (.double 0), (.double 0)] (.double 0) := Vw32
  have Nw32 := Fr.snoc Xw32 N0 g_bw31
  obtain ⟨Tw33, hw33, Xw33, ew33, Ww33, Vw33, stw33⟩ := own_stD (L := #[.val (.int p0), .val (.long p1), .second, .val (.long p2), .second, .val (.long p3), .second, .val (.long p4), .second, .val (.int (3 : Int32)), .val (.double (FP.i2d w3_v9)), .second, .val (.double (FP.i2d w3_v17)), .second, .val (.double (FP.i2d w3_v22)), .second, .val (.double (FP.i2d w3_v30)), .second, .val (.double (FP.i2d w3_v36)), .second, .val (.double (FP.i2d w3_v45)), .second, .val (.double (FP.i2d w3_v51)), .second, .val (.double (FP.i2d w3_v60)), .second, .unset, .unset]) (S := [(.ref bw31)]) Xw32 hx hZ ew32 V_bw31_w32 (j := (1 : Int32)) (x := (FP.i2d w3_v17)) (by decide) 1 (by decide) (Nat.le_of_ble_eq_true rfl) (hb hby at_154) (pc' := 155) rfl
  have Zw33 : n0 ≤ hw33.size := Nat.le_trans Zw32 (Nat.le_of_eq Ww33.size.symm)
  have KKw33 := KKw32.wr Ww33 (Or.inr sz_bw31)
  have V_bw31_w33 : Arv Z hw33 bw31 kw31 .double (6 : Int32) [(.double (FP.i2d w3_v9)), (.double (FP.i2d w3_v17)), (.double 0), (.double 0), (.double 0), (.double 0)] (.double 0) := Vw33
  have Nw33 := Fr.snoc Xw33 Nw32 g_bw31
  obtain ⟨Tw34, hw34, Xw34, ew34, Ww34, Vw34, stw34⟩ := own_stD (L := #[.val (.int p0), .val (.long p1), .second, .val (.long p2), .second, .val (.long p3), .second, .val (.long p4), .second, .val (.int (3 : Int32)), .val (.double (FP.i2d w3_v9)), .second, .val (.double (FP.i2d w3_v17)), .second, .val (.double (FP.i2d w3_v22)), .second, .val (.double (FP.i2d w3_v30)), .second, .val (.double (FP.i2d w3_v36)), .second, .val (.double (FP.i2d w3_v45)), .second, .val (.double (FP.i2d w3_v51)), .second, .val (.double (FP.i2d w3_v60)), .second, .unset, .unset]) (S := [(.ref bw31)]) Xw33 hx hZ ew33 V_bw31_w33 (j := (2 : Int32)) (x := (FP.i2d w3_v22)) (by decide) 2 (by decide) (Nat.le_of_ble_eq_true rfl) (hb hby at_159) (pc' := 160) rfl
  have Zw34 : n0 ≤ hw34.size := Nat.le_trans Zw33 (Nat.le_of_eq Ww34.size.symm)
  have KKw34 := KKw33.wr Ww34 (Or.inr sz_bw31)
  have V_bw31_w34 : Arv Z hw34 bw31 kw31 .double (6 : Int32) [(.double (FP.i2d w3_v9)), (.double (FP.i2d w3_v17)), (.double (FP.i2d w3_v22)), (.double 0), (.double 0), (.double 0)] (.double 0) := Vw34
  have Nw34 := Fr.snoc Xw34 Nw33 g_bw31
  obtain ⟨Tw35, hw35, Xw35, ew35, Ww35, Vw35, stw35⟩ := own_stD (L := #[.val (.int p0), .val (.long p1), .second, .val (.long p2), .second, .val (.long p3), .second, .val (.long p4), .second, .val (.int (3 : Int32)), .val (.double (FP.i2d w3_v9)), .second, .val (.double (FP.i2d w3_v17)), .second, .val (.double (FP.i2d w3_v22)), .second, .val (.double (FP.i2d w3_v30)), .second, .val (.double (FP.i2d w3_v36)), .second, .val (.double (FP.i2d w3_v45)), .second, .val (.double (FP.i2d w3_v51)), .second, .val (.double (FP.i2d w3_v60)), .second, .unset, .unset]) (S := [(.ref bw31)]) Xw34 hx hZ ew34 V_bw31_w34 (j := (3 : Int32)) (x := (FP.i2d w3_v30)) (by decide) 3 (by decide) (Nat.le_of_ble_eq_true rfl) (hb hby at_164) (pc' := 165) rfl
  have Zw35 : n0 ≤ hw35.size := Nat.le_trans Zw34 (Nat.le_of_eq Ww35.size.symm)
  have KKw35 := KKw34.wr Ww35 (Or.inr sz_bw31)
  have V_bw31_w35 : Arv Z hw35 bw31 kw31 .double (6 : Int32) [(.double (FP.i2d w3_v9)), (.double (FP.i2d w3_v17)), (.double (FP.i2d w3_v22)), (.double (FP.i2d w3_v30)), (.double 0), (.double 0)] (.double 0) := Vw35
  have Nw35 := Fr.snoc Xw35 Nw34 g_bw31
  obtain ⟨Tw36, hw36, Xw36, ew36, Ww36, Vw36, stw36⟩ := own_stD (L := #[.val (.int p0), .val (.long p1), .second, .val (.long p2), .second, .val (.long p3), .second, .val (.long p4), .second, .val (.int (3 : Int32)), .val (.double (FP.i2d w3_v9)), .second, .val (.double (FP.i2d w3_v17)), .second, .val (.double (FP.i2d w3_v22)), .second, .val (.double (FP.i2d w3_v30)), .second, .val (.double (FP.i2d w3_v36)), .second, .val (.double (FP.i2d w3_v45)), .second, .val (.double (FP.i2d w3_v51)), .second, .val (.double (FP.i2d w3_v60)), .second, .unset, .unset]) (S := [(.ref bw31)]) Xw35 hx hZ ew35 V_bw31_w35 (j := (4 : Int32)) (x := (FP.i2d w3_v36)) (by decide) 4 (by decide) (Nat.le_of_ble_eq_true rfl) (hb hby at_169) (pc' := 170) rfl
  have Zw36 : n0 ≤ hw36.size := Nat.le_trans Zw35 (Nat.le_of_eq Ww36.size.symm)
  have KKw36 := KKw35.wr Ww36 (Or.inr sz_bw31)
  have V_bw31_w36 : Arv Z hw36 bw31 kw31 .double (6 : Int32) [(.double (FP.i2d w3_v9)), (.double (FP.i2d w3_v17)), (.double (FP.i2d w3_v22)), (.double (FP.i2d w3_v30)), (.double (FP.i2d w3_v36)), (.double 0)] (.double 0) := Vw36
  have Nw36 := Fr.snoc Xw36 Nw35 g_bw31
  obtain ⟨Tw37, hw37, Xw37, ew37, Ww37, Vw37, stw37⟩ := own_stD (L := #[.val (.int p0), .val (.long p1), .second, .val (.long p2), .second, .val (.long p3), .second, .val (.long p4), .second, .val (.int (3 : Int32)), .val (.double (FP.i2d w3_v9)), .second, .val (.double (FP.i2d w3_v17)), .second, .val (.double (FP.i2d w3_v22)), .second, .val (.double (FP.i2d w3_v30)), .second, .val (.double (FP.i2d w3_v36)), .second, .val (.double (FP.i2d w3_v45)), .second, .val (.double (FP.i2d w3_v51)), .second, .val (.double (FP.i2d w3_v60)), .second, .unset, .unset]) (S := [(.ref bw31)]) Xw36 hx hZ ew36 V_bw31_w36 (j := (5 : Int32)) (x := (FP.i2d w3_v45)) (by decide) 5 (by decide) (Nat.le_of_ble_eq_true rfl) (hb hby at_174) (pc' := 175) rfl
  have Zw37 : n0 ≤ hw37.size := Nat.le_trans Zw36 (Nat.le_of_eq Ww37.size.symm)
  have KKw37 := KKw36.wr Ww37 (Or.inr sz_bw31)
  have V_bw31_w37 : Arv Z hw37 bw31 kw31 .double (6 : Int32) [(.double (FP.i2d w3_v9)), (.double (FP.i2d w3_v17)), (.double (FP.i2d w3_v22)), (.double (FP.i2d w3_v30)), (.double (FP.i2d w3_v36)), (.double (FP.i2d w3_v45))] (.double 0) := Vw37
  have Nw37 := Fr.snoc Xw37 Nw36 g_bw31
  obtain ⟨_, _, ⟨Tw38, Lw38, kw38, nw38⟩, -, Xw38, ⟨Lcw38, hQw38, lw38, yw38, zw38⟩, stw38⟩ := Jvm.LawKit.callS Xw37 hx (y := (⟨"com/example/hachure/hachure/render/ParallelLines", "reversed", "([D)[D"⟩ : MethodName)) hown (mvT hZ (hw _ (List.mem_of_getElem? (i := 2) rfl))) (mvT hZ (hw _ (List.mem_of_getElem? (i := 3) rfl))) (mvT hZ (hw _ (List.mem_of_getElem? (i := 4) rfl))) (mvT hZ (hw _ (List.mem_of_getElem? (i := 5) rfl))) (by decide) (backOf (W := 0) (own_rm_c3 l Z a0 hw [] bw31 (FP.i2d w3_v9) (FP.i2d w3_v17) (FP.i2d w3_v22) (FP.i2d w3_v30) (FP.i2d w3_v36) (FP.i2d w3_v45) hw37 n0 Zw37 V_bw31_w37) hZ (hw _ (List.mem_of_getElem? (i := 5) rfl)) (hw _ (List.mem_of_getElem? (i := 4) rfl)) (by decide) (by decide)) (g := (mkF m 230 #[.val (.int p0), .val (.long p1), .second, .val (.long p2), .second, .val (.long p3), .second, .val (.long p4), .second, .val (.int (3 : Int32)), .val (.double (FP.i2d w3_v9)), .second, .val (.double (FP.i2d w3_v17)), .second, .val (.double (FP.i2d w3_v22)), .second, .val (.double (FP.i2d w3_v30)), .second, .val (.double (FP.i2d w3_v36)), .second, .val (.double (FP.i2d w3_v45)), .second, .val (.double (FP.i2d w3_v51)), .second, .val (.double (FP.i2d w3_v60)), .second, .val (.ref bw31), .unset] [(.ref bw31)])) rfl (by rw [hml]; rfl) (argsL := [(.ref bw31)]) (rest := []) (lenOf own_pd_285bD295bD rfl) rfl (by show 2 * 0 + _ ≤ _; exact Nat.le_of_eq rfl) (hb hby at_230) (fun _ _ => ⟨rfl, ew37, (by decide : 1 + 1 ≤ _), (by decide : 6 + 6 ≤ _)⟩)
  dsimp only [Pt.U, Pt.locs, Pt.cells, Pt.slots] at Xw38 lw38 yw38 zw38 stw38 hQw38
  subst lw38 yw38 zw38
  obtain ⟨bw38, kw38a, rfl, Nw38q, Kw38, Gw38, qw38_0⟩ := hQw38
  have ne_bw31_bw38 : bw31 ≠ bw38 := Nat.ne_of_lt (Nat.lt_of_lt_of_le V_bw31_w37.lt Gw38)
  have ne_bw38_bw31 : bw38 ≠ bw31 := Ne.symm ne_bw31_bw38
  have g_bw38 : n0 ≤ bw38 := Nat.le_trans Zw37 Gw38
  have sz_bw38 : h0.size ≤ bw38 := Nat.le_trans KKw37.1 Gw38
  have V_bw31_w38 := V_bw31_w37.keep Kw38 (List.not_mem_nil)
  have Zw38 : n0 ≤ Tw38.heap.size := Nat.le_trans Zw37 Kw38.1
  have KKw38 := KKw37.trans Kw38 (fun _ q => nomatch q)
  have Nw38 := Fr.app Nw37 Nw38q
  obtain ⟨fs, hr, hrun, hended, hW, hsame⟩ := Xw38.leave (v := some (.int (1 : Int32))) (fun h => by rw [Bd.returns] at h; cases h)
  refine ⟨_, _, pre0 _ ?_, hrun, hended, _, _, rfl, ?_, ⟨_, rfl⟩, hW, hsame.mono (by decide) (by decide)⟩
  · refine own_s_iloadN X0.here hx (hb hby at_0) (pc' := 1) rfl rfl ?_
    refine X0.ldcInt hx hown (mvT hZ (hw _ (List.mem_of_getElem? (i := 0) rfl))) (g := (mkF m 1 #[.val (.int p0), .val (.long p1), .second, .val (.long p2), .second, .val (.long p3), .second, .val (.long p4), .second, .unset, .unset, .unset, .unset, .unset, .unset, .unset, .unset, .unset, .unset, .unset, .unset, .unset, .unset, .unset, .unset, .unset, .unset, .unset] [(.int p0)])) rfl (hb hby at_1) _ ?_
    show Steps p.tables e below (s₁.setTop (mkF m 3 #[.val (.int p0), .val (.long p1), .second, .val (.long p2), .second, .val (.long p3), .second, .val (.long p4), .second, .unset, .unset, .unset, .unset, .unset, .unset, .unset, .unset, .unset, .unset, .unset, .unset, .unset, .unset, .unset, .unset, .unset, .unset, .unset] [(.int (2147483647 : Int32)), (.int p0)])) _
    refine own_s_iand X0.here hx (hb hby at_3) (pc' := 4) rfl (v := w3_v3) w3_hv3 ?_
    refine own_s_iconst X0.here hx (hb hby at_4) (pc' := 5) rfl (v := (5 : Int32)) (by decide) ?_
    refine own_s_irem X0.here hx (hb hby at_5) (pc' := 6) rfl (by decide) (v := (3 : Int32)) w3_hv5 ?_
    refine own_s_istore X0.here hx (hb hby at_6) (pc' := 8) rfl (L' := #[.val (.int p0), .val (.long p1), .second, .val (.long p2), .second, .val (.long p3), .second, .val (.long p4), .second, .val (.int (3 : Int32)), .unset, .unset, .unset, .unset, .unset, .unset, .unset, .unset, .unset, .unset, .unset, .unset, .unset, .unset, .unset, .unset, .unset, .unset]) rfl ?_
    refine own_s_lloadN X0.here hx (hb hby at_8) (pc' := 9) rfl rfl ?_
    refine own_s_l2i X0.here hx (hb hby at_9) (pc' := 10) rfl (v := w3_v9) w3_hv9 ?_
    refine own_s_i2d X0.here hx (hb hby at_10) (pc' := 11) rfl (v := (FP.i2d w3_v9)) rfl ?_
    refine own_s_dstore X0.here hx (hb hby at_11) (pc' := 13) rfl (L' := #[.val (.int p0), .val (.long p1), .second, .val (.long p2), .second, .val (.long p3), .second, .val (.long p4), .second, .val (.int (3 : Int32)), .val (.double (FP.i2d w3_v9)), .second, .unset, .unset, .unset, .unset, .unset, .unset, .unset, .unset, .unset, .unset, .unset, .unset, .unset, .unset, .unset, .unset]) rfl ?_
    refine own_s_lloadN X0.here hx (hb hby at_13) (pc' := 14) rfl rfl ?_
    refine own_s_bipush X0.here hx (hb hby at_14) (pc' := 16) rfl (v := (32 : Int32)) (by decide) ?_
    refine own_s_lshr X0.here hx (hb hby at_16) (pc' := 17) rfl (v := w3_v16) w3_hv16 ?_
    refine own_s_l2i X0.here hx (hb hby at_17) (pc' := 18) rfl (v := w3_v17) w3_hv17 ?_
    refine own_s_i2d X0.here hx (hb hby at_18) (pc' := 19) rfl (v := (FP.i2d w3_v17)) rfl ?_
    refine own_s_dstore X0.here hx (hb hby at_19) (pc' := 21) rfl (L' := #[.val (.int p0), .val (.long p1), .second, .val (.long p2), .second, .val (.long p3), .second, .val (.long p4), .second, .val (.int (3 : Int32)), .val (.double (FP.i2d w3_v9)), .second, .val (.double (FP.i2d w3_v17)), .second, .unset, .unset, .unset, .unset, .unset, .unset, .unset, .unset, .unset, .unset, .unset, .unset, .unset, .unset]) rfl ?_
    refine own_s_lloadN X0.here hx (hb hby at_21) (pc' := 22) rfl rfl ?_
    refine own_s_l2i X0.here hx (hb hby at_22) (pc' := 23) rfl (v := w3_v22) w3_hv22 ?_
    refine own_s_i2d X0.here hx (hb hby at_23) (pc' := 24) rfl (v := (FP.i2d w3_v22)) rfl ?_
    refine own_s_dstore X0.here hx (hb hby at_24) (pc' := 26) rfl (L' := #[.val (.int p0), .val (.long p1), .second, .val (.long p2), .second, .val (.long p3), .second, .val (.long p4), .second, .val (.int (3 : Int32)), .val (.double (FP.i2d w3_v9)), .second, .val (.double (FP.i2d w3_v17)), .second, .val (.double (FP.i2d w3_v22)), .second, .unset, .unset, .unset, .unset, .unset, .unset, .unset, .unset, .unset, .unset, .unset, .unset]) rfl ?_
    refine own_s_lloadN X0.here hx (hb hby at_26) (pc' := 27) rfl rfl ?_
    refine own_s_bipush X0.here hx (hb hby at_27) (pc' := 29) rfl (v := (32 : Int32)) (by decide) ?_
    refine own_s_lshr X0.here hx (hb hby at_29) (pc' := 30) rfl (v := w3_v29) w3_hv29 ?_
    refine own_s_l2i X0.here hx (hb hby at_30) (pc' := 31) rfl (v := w3_v30) w3_hv30 ?_
    refine own_s_i2d X0.here hx (hb hby at_31) (pc' := 32) rfl (v := (FP.i2d w3_v30)) rfl ?_
    refine own_s_dstore X0.here hx (hb hby at_32) (pc' := 34) rfl (L' := #[.val (.int p0), .val (.long p1), .second, .val (.long p2), .second, .val (.long p3), .second, .val (.long p4), .second, .val (.int (3 : Int32)), .val (.double (FP.i2d w3_v9)), .second, .val (.double (FP.i2d w3_v17)), .second, .val (.double (FP.i2d w3_v22)), .second, .val (.double (FP.i2d w3_v30)), .second, .unset, .unset, .unset, .unset, .unset, .unset, .unset, .unset, .unset, .unset]) rfl ?_
    refine own_s_lload X0.here hx (hb hby at_34) (pc' := 36) rfl rfl ?_
    refine own_s_l2i X0.here hx (hb hby at_36) (pc' := 37) rfl (v := w3_v36) w3_hv36 ?_
    refine own_s_i2d X0.here hx (hb hby at_37) (pc' := 38) rfl (v := (FP.i2d w3_v36)) rfl ?_
    refine own_s_dstore X0.here hx (hb hby at_38) (pc' := 40) rfl (L' := #[.val (.int p0), .val (.long p1), .second, .val (.long p2), .second, .val (.long p3), .second, .val (.long p4), .second, .val (.int (3 : Int32)), .val (.double (FP.i2d w3_v9)), .second, .val (.double (FP.i2d w3_v17)), .second, .val (.double (FP.i2d w3_v22)), .second, .val (.double (FP.i2d w3_v30)), .second, .val (.double (FP.i2d w3_v36)), .second, .unset, .unset, .unset, .unset, .unset, .unset, .unset, .unset]) rfl ?_
    refine own_s_lload X0.here hx (hb hby at_40) (pc' := 42) rfl rfl ?_
    refine own_s_bipush X0.here hx (hb hby at_42) (pc' := 44) rfl (v := (32 : Int32)) (by decide) ?_
    refine own_s_lshr X0.here hx (hb hby at_44) (pc' := 45) rfl (v := w3_v44) w3_hv44 ?_
    refine own_s_l2i X0.here hx (hb hby at_45) (pc' := 46) rfl (v := w3_v45) w3_hv45 ?_
    refine own_s_i2d X0.here hx (hb hby at_46) (pc' := 47) rfl (v := (FP.i2d w3_v45)) rfl ?_
    refine own_s_dstore X0.here hx (hb hby at_47) (pc' := 49) rfl (L' := #[.val (.int p0), .val (.long p1), .second, .val (.long p2), .second, .val (.long p3), .second, .val (.long p4), .second, .val (.int (3 : Int32)), .val (.double (FP.i2d w3_v9)), .second, .val (.double (FP.i2d w3_v17)), .second, .val (.double (FP.i2d w3_v22)), .second, .val (.double (FP.i2d w3_v30)), .second, .val (.double (FP.i2d w3_v36)), .second, .val (.double (FP.i2d w3_v45)), .second, .unset, .unset, .unset, .unset, .unset, .unset]) rfl ?_
    refine own_s_lload X0.here hx (hb hby at_49) (pc' := 51) rfl rfl ?_
    refine own_s_l2i X0.here hx (hb hby at_51) (pc' := 52) rfl (v := w3_v51) w3_hv51 ?_
    refine own_s_i2d X0.here hx (hb hby at_52) (pc' := 53) rfl (v := (FP.i2d w3_v51)) rfl ?_
    refine own_s_dstore X0.here hx (hb hby at_53) (pc' := 55) rfl (L' := #[.val (.int p0), .val (.long p1), .second, .val (.long p2), .second, .val (.long p3), .second, .val (.long p4), .second, .val (.int (3 : Int32)), .val (.double (FP.i2d w3_v9)), .second, .val (.double (FP.i2d w3_v17)), .second, .val (.double (FP.i2d w3_v22)), .second, .val (.double (FP.i2d w3_v30)), .second, .val (.double (FP.i2d w3_v36)), .second, .val (.double (FP.i2d w3_v45)), .second, .val (.double (FP.i2d w3_v51)), .second, .unset, .unset, .unset, .unset]) rfl ?_
    refine own_s_lload X0.here hx (hb hby at_55) (pc' := 57) rfl rfl ?_
    refine own_s_bipush X0.here hx (hb hby at_57) (pc' := 59) rfl (v := (32 : Int32)) (by decide) ?_
    refine own_s_lshr X0.here hx (hb hby at_59) (pc' := 60) rfl (v := w3_v59) w3_hv59 ?_
    refine own_s_l2i X0.here hx (hb hby at_60) (pc' := 61) rfl (v := w3_v60) w3_hv60 ?_
    refine own_s_i2d X0.here hx (hb hby at_61) (pc' := 62) rfl (v := (FP.i2d w3_v60)) rfl ?_
    refine own_s_dstore X0.here hx (hb hby at_62) (pc' := 64) rfl (L' := #[.val (.int p0), .val (.long p1), .second, .val (.long p2), .second, .val (.long p3), .second, .val (.long p4), .second, .val (.int (3 : Int32)), .val (.double (FP.i2d w3_v9)), .second, .val (.double (FP.i2d w3_v17)), .second, .val (.double (FP.i2d w3_v22)), .second, .val (.double (FP.i2d w3_v30)), .second, .val (.double (FP.i2d w3_v36)), .second, .val (.double (FP.i2d w3_v45)), .second, .val (.double (FP.i2d w3_v51)), .second, .val (.double (FP.i2d w3_v60)), .second, .unset, .unset]) rfl ?_
    refine own_s_iload X0.here hx (hb hby at_64) (pc' := 66) rfl rfl ?_
    refine own_s_ifYes X0.here hx (hb hby at_66) (by decide) (pc' := 77) (by decide) (by decide) ?_
    refine own_s_iload X0.here hx (hb hby at_77) (pc' := 79) rfl rfl ?_
    refine own_s_iconst X0.here hx (hb hby at_79) (pc' := 80) rfl (v := (1 : Int32)) (by decide) ?_
    refine own_s_icmpYes X0.here hx (hb hby at_80) (by decide) (pc' := 101) (by decide) (by decide) ?_
    refine own_s_iload X0.here hx (hb hby at_101) (pc' := 103) rfl rfl ?_
    refine own_s_iconst X0.here hx (hb hby at_103) (pc' := 104) rfl (v := (2 : Int32)) (by decide) ?_
    refine own_s_icmpYes X0.here hx (hb hby at_104) (by decide) (pc' := 135) (by decide) (by decide) ?_
    refine own_s_iload X0.here hx (hb hby at_135) (pc' := 137) rfl rfl ?_
    refine own_s_iconst X0.here hx (hb hby at_137) (pc' := 138) rfl (v := (3 : Int32)) (by decide) ?_
    refine own_s_icmpNo X0.here hx (hb hby at_138) (pc' := 141) rfl (by decide) ?_
    refine own_s_bipush X0.here hx (hb hby at_141) (pc' := 143) rfl (v := (6 : Int32)) (by decide) ?_
    refine stw31 _ ?_
    refine own_s_dup Xw31.here hx (hb hby at_145) (pc' := 146) rfl rfl ?_
    refine own_s_iconst Xw31.here hx (hb hby at_146) (pc' := 147) rfl (v := (0 : Int32)) (by decide) ?_
    refine own_s_dload Xw31.here hx (hb hby at_147) (pc' := 149) rfl rfl ?_
    refine stw32 _ ?_
    refine own_s_dup Xw32.here hx (hb hby at_150) (pc' := 151) rfl rfl ?_
    refine own_s_iconst Xw32.here hx (hb hby at_151) (pc' := 152) rfl (v := (1 : Int32)) (by decide) ?_
    refine own_s_dload Xw32.here hx (hb hby at_152) (pc' := 154) rfl rfl ?_
    refine stw33 _ ?_
    refine own_s_dup Xw33.here hx (hb hby at_155) (pc' := 156) rfl rfl ?_
    refine own_s_iconst Xw33.here hx (hb hby at_156) (pc' := 157) rfl (v := (2 : Int32)) (by decide) ?_
    refine own_s_dload Xw33.here hx (hb hby at_157) (pc' := 159) rfl rfl ?_
    refine stw34 _ ?_
    refine own_s_dup Xw34.here hx (hb hby at_160) (pc' := 161) rfl rfl ?_
    refine own_s_iconst Xw34.here hx (hb hby at_161) (pc' := 162) rfl (v := (3 : Int32)) (by decide) ?_
    refine own_s_dload Xw34.here hx (hb hby at_162) (pc' := 164) rfl rfl ?_
    refine stw35 _ ?_
    refine own_s_dup Xw35.here hx (hb hby at_165) (pc' := 166) rfl rfl ?_
    refine own_s_iconst Xw35.here hx (hb hby at_166) (pc' := 167) rfl (v := (4 : Int32)) (by decide) ?_
    refine own_s_dload Xw35.here hx (hb hby at_167) (pc' := 169) rfl rfl ?_
    refine stw36 _ ?_
    refine own_s_dup Xw36.here hx (hb hby at_170) (pc' := 171) rfl rfl ?_
    refine own_s_iconst Xw36.here hx (hb hby at_171) (pc' := 172) rfl (v := (5 : Int32)) (by decide) ?_
    refine own_s_dload Xw36.here hx (hb hby at_172) (pc' := 174) rfl rfl ?_
    refine stw37 _ ?_
    refine own_s_astore Xw37.here hx (hb hby at_175) (pc' := 177) rfl rfl (L' := #[.val (.int p0), .val (.long p1), .second, .val (.long p2), .second, .val (.long p3), .second, .val (.long p4), .second, .val (.int (3 : Int32)), .val (.double (FP.i2d w3_v9)), .second, .val (.double (FP.i2d w3_v17)), .second, .val (.double (FP.i2d w3_v22)), .second, .val (.double (FP.i2d w3_v30)), .second, .val (.double (FP.i2d w3_v36)), .second, .val (.double (FP.i2d w3_v45)), .second, .val (.double (FP.i2d w3_v51)), .second, .val (.double (FP.i2d w3_v60)), .second, .val (.ref bw31), .unset]) rfl ?_
    refine own_s_goto Xw37.here hx (hb hby at_177) (by decide) (pc' := 228) (by decide) ?_
    refine own_s_aload Xw37.here hx (hb hby at_228) (pc' := 230) rfl rfl rfl ?_
    refine stw38 _ ?_
    show Steps p.tables e below (Tw38.setTop (mkF m 233 #[.val (.int p0), .val (.long p1), .second, .val (.long p2), .second, .val (.long p3), .second, .val (.long p4), .second, .val (.int (3 : Int32)), .val (.double (FP.i2d w3_v9)), .second, .val (.double (FP.i2d w3_v17)), .second, .val (.double (FP.i2d w3_v22)), .second, .val (.double (FP.i2d w3_v30)), .second, .val (.double (FP.i2d w3_v36)), .second, .val (.double (FP.i2d w3_v45)), .second, .val (.double (FP.i2d w3_v51)), .second, .val (.double (FP.i2d w3_v60)), .second, .val (.ref bw31), .unset] [(.ref bw38)])) _
    refine own_s_astore Xw38.here hx (hb hby at_233) (pc' := 235) rfl rfl (L' := #[.val (.int p0), .val (.long p1), .second, .val (.long p2), .second, .val (.long p3), .second, .val (.long p4), .second, .val (.int (3 : Int32)), .val (.double (FP.i2d w3_v9)), .second, .val (.double (FP.i2d w3_v17)), .second, .val (.double (FP.i2d w3_v22)), .second, .val (.double (FP.i2d w3_v30)), .second, .val (.double (FP.i2d w3_v36)), .second, .val (.double (FP.i2d w3_v45)), .second, .val (.double (FP.i2d w3_v51)), .second, .val (.double (FP.i2d w3_v60)), .second, .val (.ref bw31), .val (.ref bw38)]) rfl ?_
    refine own_s_aload Xw38.here hx (hb hby at_235) (pc' := 237) rfl rfl rfl ?_
    refine own_s_ifnullNo Xw38.here hx (hb hby at_237) (pc' := 240) rfl  ?_
    refine own_s_aload Xw38.here hx (hb hby at_240) (pc' := 242) rfl rfl rfl ?_
    refine own_len Xw38 hx hZ rfl qw38_0 (hb hby at_242) (pc' := 243) rfl ?_
    refine own_s_iconst Xw38.here hx (hb hby at_243) (pc' := 244) rfl (v := (2 : Int32)) (by decide) ?_
    refine own_s_iload Xw38.here hx (hb hby at_244) (pc' := 246) rfl rfl ?_
    refine own_s_imul Xw38.here hx (hb hby at_246) (pc' := 247) rfl (v := (6 : Int32)) (by decide) ?_
    refine own_s_icmpNo Xw38.here hx (hb hby at_247) (pc' := 250) rfl (by decide) ?_
    refine own_s_aload Xw38.here hx (hb hby at_250) (pc' := 252) rfl rfl rfl ?_
    refine own_len Xw38 hx hZ rfl V_bw31_w38 (hb hby at_252) (pc' := 253) rfl ?_
    refine own_s_iconst Xw38.here hx (hb hby at_253) (pc' := 254) rfl (v := (2 : Int32)) (by decide) ?_
    refine own_s_iload Xw38.here hx (hb hby at_254) (pc' := 256) rfl rfl ?_
    refine own_s_imul Xw38.here hx (hb hby at_256) (pc' := 257) rfl (v := (6 : Int32)) (by decide) ?_
    refine own_s_icmpYes Xw38.here hx (hb hby at_257) (by decide) (pc' := 262) (by decide) (by decide) ?_
    refine own_s_iload Xw38.here hx (hb hby at_262) (pc' := 264) rfl rfl ?_
    refine own_s_ifYes Xw38.here hx (hb hby at_264) (by decide) (pc' := 269) (by decide) (by decide) ?_
    refine own_s_iload Xw38.here hx (hb hby at_269) (pc' := 271) rfl rfl ?_
    refine own_s_iconst Xw38.here hx (hb hby at_271) (pc' := 272) rfl (v := (1 : Int32)) (by decide) ?_
    refine own_s_icmpYes Xw38.here hx (hb hby at_272) (by decide) (pc' := 321) (by decide) (by decide) ?_
    refine own_s_iload Xw38.here hx (hb hby at_321) (pc' := 323) rfl rfl ?_
    refine own_s_iconst Xw38.here hx (hb hby at_323) (pc' := 324) rfl (v := (2 : Int32)) (by decide) ?_
    refine own_s_icmpYes Xw38.here hx (hb hby at_324) (by decide) (pc' := 413) (by decide) (by decide) ?_
    refine own_s_iload Xw38.here hx (hb hby at_413) (pc' := 415) rfl rfl ?_
    refine own_s_iconst Xw38.here hx (hb hby at_415) (pc' := 416) rfl (v := (3 : Int32)) (by decide) ?_
    refine own_s_icmpNo Xw38.here hx (hb hby at_416) (pc' := 419) rfl (by decide) ?_
    refine own_s_aload Xw38.here hx (hb hby at_419) (pc' := 421) rfl rfl rfl ?_
    refine own_s_iconst Xw38.here hx (hb hby at_421) (pc' := 422) rfl (v := (0 : Int32)) (by decide) ?_
    refine own_ldD Xw38 hx hZ rfl qw38_0 (j := (0 : Int32)) (x := (FP.i2d w3_v36)) (by decide) rfl (hb hby at_422) (pc' := 423) rfl ?_
    refine own_s_dload Xw38.here hx (hb hby at_423) (pc' := 425) rfl rfl ?_
    refine own_s_dcmp Xw38.here hx (hb hby at_425) (pc' := 426) rfl (v := (0 : Int32)) w3_hc425 ?_
    refine own_s_ifNo Xw38.here hx (hb hby at_426) (pc' := 429) rfl (by decide) ?_
    refine own_s_aload Xw38.here hx (hb hby at_429) (pc' := 431) rfl rfl rfl ?_
    refine own_s_iconst Xw38.here hx (hb hby at_431) (pc' := 432) rfl (v := (1 : Int32)) (by decide) ?_
    refine own_ldD Xw38 hx hZ rfl qw38_0 (j := (1 : Int32)) (x := (FP.i2d w3_v45)) (by decide) rfl (hb hby at_432) (pc' := 433) rfl ?_
    refine own_s_dload Xw38.here hx (hb hby at_433) (pc' := 435) rfl rfl ?_
    refine own_s_dcmp Xw38.here hx (hb hby at_435) (pc' := 436) rfl (v := (0 : Int32)) w3_hc435 ?_
    refine own_s_ifNo Xw38.here hx (hb hby at_436) (pc' := 439) rfl (by decide) ?_
    refine own_s_aload Xw38.here hx (hb hby at_439) (pc' := 441) rfl rfl rfl ?_
    refine own_s_iconst Xw38.here hx (hb hby at_441) (pc' := 442) rfl (v := (2 : Int32)) (by decide) ?_
    refine own_ldD Xw38 hx hZ rfl qw38_0 (j := (2 : Int32)) (x := (FP.i2d w3_v22)) (by decide) rfl (hb hby at_442) (pc' := 443) rfl ?_
    refine own_s_dload Xw38.here hx (hb hby at_443) (pc' := 445) rfl rfl ?_
    refine own_s_dcmp Xw38.here hx (hb hby at_445) (pc' := 446) rfl (v := (0 : Int32)) w3_hc445 ?_
    refine own_s_ifNo Xw38.here hx (hb hby at_446) (pc' := 449) rfl (by decide) ?_
    refine own_s_aload Xw38.here hx (hb hby at_449) (pc' := 451) rfl rfl rfl ?_
    refine own_s_iconst Xw38.here hx (hb hby at_451) (pc' := 452) rfl (v := (3 : Int32)) (by decide) ?_
    refine own_ldD Xw38 hx hZ rfl qw38_0 (j := (3 : Int32)) (x := (FP.i2d w3_v30)) (by decide) rfl (hb hby at_452) (pc' := 453) rfl ?_
    refine own_s_dload Xw38.here hx (hb hby at_453) (pc' := 455) rfl rfl ?_
    refine own_s_dcmp Xw38.here hx (hb hby at_455) (pc' := 456) rfl (v := (0 : Int32)) w3_hc455 ?_
    refine own_s_ifNo Xw38.here hx (hb hby at_456) (pc' := 459) rfl (by decide) ?_
    refine own_s_aload Xw38.here hx (hb hby at_459) (pc' := 461) rfl rfl rfl ?_
    refine own_s_iconst Xw38.here hx (hb hby at_461) (pc' := 462) rfl (v := (4 : Int32)) (by decide) ?_
    refine own_ldD Xw38 hx hZ rfl qw38_0 (j := (4 : Int32)) (x := (FP.i2d w3_v9)) (by decide) rfl (hb hby at_462) (pc' := 463) rfl ?_
    refine own_s_dload Xw38.here hx (hb hby at_463) (pc' := 465) rfl rfl ?_
    refine own_s_dcmp Xw38.here hx (hb hby at_465) (pc' := 466) rfl (v := (0 : Int32)) w3_hc465 ?_
    refine own_s_ifNo Xw38.here hx (hb hby at_466) (pc' := 469) rfl (by decide) ?_
    refine own_s_aload Xw38.here hx (hb hby at_469) (pc' := 471) rfl rfl rfl ?_
    refine own_s_iconst Xw38.here hx (hb hby at_471) (pc' := 472) rfl (v := (5 : Int32)) (by decide) ?_
    refine own_ldD Xw38 hx hZ rfl qw38_0 (j := (5 : Int32)) (x := (FP.i2d w3_v17)) (by decide) rfl (hb hby at_472) (pc' := 473) rfl ?_
    refine own_s_dload Xw38.here hx (hb hby at_473) (pc' := 475) rfl rfl ?_
    refine own_s_dcmp Xw38.here hx (hb hby at_475) (pc' := 476) rfl (v := (0 : Int32)) w3_hc475 ?_
    refine own_s_ifNo Xw38.here hx (hb hby at_476) (pc' := 479) rfl (by decide) ?_
    refine own_s_aload Xw38.here hx (hb hby at_479) (pc' := 481) rfl rfl rfl ?_
    refine own_s_iconst Xw38.here hx (hb hby at_481) (pc' := 482) rfl (v := (0 : Int32)) (by decide) ?_
    refine own_ldD Xw38 hx hZ rfl V_bw31_w38 (j := (0 : Int32)) (x := (FP.i2d w3_v9)) (by decide) rfl (hb hby at_482) (pc' := 483) rfl ?_
    refine own_s_dload Xw38.here hx (hb hby at_483) (pc' := 485) rfl rfl ?_
    refine own_s_dcmp Xw38.here hx (hb hby at_485) (pc' := 486) rfl (v := (0 : Int32)) w3_hc485 ?_
    refine own_s_ifNo Xw38.here hx (hb hby at_486) (pc' := 489) rfl (by decide) ?_
    refine own_s_aload Xw38.here hx (hb hby at_489) (pc' := 491) rfl rfl rfl ?_
    refine own_s_iconst Xw38.here hx (hb hby at_491) (pc' := 492) rfl (v := (1 : Int32)) (by decide) ?_
    refine own_ldD Xw38 hx hZ rfl V_bw31_w38 (j := (1 : Int32)) (x := (FP.i2d w3_v17)) (by decide) rfl (hb hby at_492) (pc' := 493) rfl ?_
    refine own_s_dload Xw38.here hx (hb hby at_493) (pc' := 495) rfl rfl ?_
    refine own_s_dcmp Xw38.here hx (hb hby at_495) (pc' := 496) rfl (v := (0 : Int32)) w3_hc495 ?_
    refine own_s_ifNo Xw38.here hx (hb hby at_496) (pc' := 499) rfl (by decide) ?_
    refine own_s_aload Xw38.here hx (hb hby at_499) (pc' := 501) rfl rfl rfl ?_
    refine own_s_iconst Xw38.here hx (hb hby at_501) (pc' := 502) rfl (v := (2 : Int32)) (by decide) ?_
    refine own_ldD Xw38 hx hZ rfl V_bw31_w38 (j := (2 : Int32)) (x := (FP.i2d w3_v22)) (by decide) rfl (hb hby at_502) (pc' := 503) rfl ?_
    refine own_s_dload Xw38.here hx (hb hby at_503) (pc' := 505) rfl rfl ?_
    refine own_s_dcmp Xw38.here hx (hb hby at_505) (pc' := 506) rfl (v := (0 : Int32)) w3_hc505 ?_
    refine own_s_ifNo Xw38.here hx (hb hby at_506) (pc' := 509) rfl (by decide) ?_
    refine own_s_aload Xw38.here hx (hb hby at_509) (pc' := 511) rfl rfl rfl ?_
    refine own_s_iconst Xw38.here hx (hb hby at_511) (pc' := 512) rfl (v := (3 : Int32)) (by decide) ?_
    refine own_ldD Xw38 hx hZ rfl V_bw31_w38 (j := (3 : Int32)) (x := (FP.i2d w3_v30)) (by decide) rfl (hb hby at_512) (pc' := 513) rfl ?_
    refine own_s_dload Xw38.here hx (hb hby at_513) (pc' := 515) rfl rfl ?_
    refine own_s_dcmp Xw38.here hx (hb hby at_515) (pc' := 516) rfl (v := (0 : Int32)) w3_hc515 ?_
    refine own_s_ifNo Xw38.here hx (hb hby at_516) (pc' := 519) rfl (by decide) ?_
    refine own_s_aload Xw38.here hx (hb hby at_519) (pc' := 521) rfl rfl rfl ?_
    refine own_s_iconst Xw38.here hx (hb hby at_521) (pc' := 522) rfl (v := (4 : Int32)) (by decide) ?_
    refine own_ldD Xw38 hx hZ rfl V_bw31_w38 (j := (4 : Int32)) (x := (FP.i2d w3_v36)) (by decide) rfl (hb hby at_522) (pc' := 523) rfl ?_
    refine own_s_dload Xw38.here hx (hb hby at_523) (pc' := 525) rfl rfl ?_
    refine own_s_dcmp Xw38.here hx (hb hby at_525) (pc' := 526) rfl (v := (0 : Int32)) w3_hc525 ?_
    refine own_s_ifNo Xw38.here hx (hb hby at_526) (pc' := 529) rfl (by decide) ?_
    refine own_s_aload Xw38.here hx (hb hby at_529) (pc' := 531) rfl rfl rfl ?_
    refine own_s_iconst Xw38.here hx (hb hby at_531) (pc' := 532) rfl (v := (5 : Int32)) (by decide) ?_
    refine own_ldD Xw38 hx hZ rfl V_bw31_w38 (j := (5 : Int32)) (x := (FP.i2d w3_v45)) (by decide) rfl (hb hby at_532) (pc' := 533) rfl ?_
    refine own_s_dload Xw38.here hx (hb hby at_533) (pc' := 535) rfl rfl ?_
    refine own_s_dcmp Xw38.here hx (hb hby at_535) (pc' := 536) rfl (v := (0 : Int32)) w3_hc535 ?_
    refine own_s_ifNo Xw38.here hx (hb hby at_536) (pc' := 539) rfl (by decide) ?_
    refine own_s_iconst Xw38.here hx (hb hby at_539) (pc' := 540) rfl (v := (1 : Int32)) (by decide) ?_
    refine own_s_goto Xw38.here hx (hb hby at_540) (by decide) (pc' := 544) (by decide) ?_
    exact retN Xw38 hx (t := .boolean) Bd.returns (by simp) (hb hby at_544) hr
  · show own_Q0 n0 _ Tw38.heap _
    exact ⟨rfl, Nw38⟩
theorem own_ef_c4 (m : MethodId) (q : Addr) : entryFrame m #[(.ref q)] 3 = mkF m 0 #[.val (.ref q), .unset, .unset] [] := by first | (simp [entryFrame, mkF, argsToLocals, Value.category]; done) | rfl
def own_Q_c4 (Z : State) (q : Addr) (d0 : UInt64) (d1 : UInt64) (d2 : UInt64) (d3 : UInt64) (d4 : UInt64) (d5 : UInt64) (d6 : UInt64) (d7 : UInt64) (qk : ClassId) (h0 : Heap) (n0 : Nat) (v : Option Value) (h : Heap) (L : List Loc) : Prop := ∃ (bc41 : Addr) (kc41 : ClassId), v = some (.ref bc41) ∧ Fr n0 L ∧ Keep h0 h [] ∧ h0.size ≤ bc41 ∧ Arv Z h bc41 kc41 .double (8 : Int32) [(.double d6), (.double d7), (.double d4), (.double d5), (.double d2), (.double d3), (.double d0), (.double d1)] (.double 0)
set_option maxRecDepth 65536 in
set_option maxHeartbeats 40000000 in
theorem own_rm_c4 (l : Launch) (Z : State) (a0 : Array Value) (hw : ∀ d ∈ tables_1, d.before a0 Z = true) (ws : List Jvm.Cond) (q : Addr) (d0 : UInt64) (d1 : UInt64) (d2 : UInt64) (d3 : UInt64) (d4 : UInt64) (d5 : UInt64) (d6 : UInt64) (d7 : UInt64) {qk : ClassId} (h0 : Heap) (n0 : Nat) (Z0 : n0 ≤ h0.size) (V_q : Arv Z h0 q qk .double (8 : Int32) [(.double d0), (.double d1), (.double d2), (.double d3), (.double d4), (.double d5), (.double d6), (.double d7)] (.double 0))  :
    MetFree l (⟨"com/example/hachure/hachure/render/ParallelLines", "reversed", "([D)[D"⟩ : MethodName) (head1 (Jvm.Cond.code (⟨"com/example/hachure/hachure/render/ParallelLines", "reversed", "([D)[D"⟩ : MethodName) prog_112_method_11_code 3 (some (.array .double)) :: ws) ({ frames := 0, cells := 1, slots := 8, locals := 0 } : Room)) (fun a U => a = #[(.ref q)] ∧ Z.Warmed39 U.vm ∧ U.heap = h0) (fun _ _ _ _ _ => True) (fun _ U o U' => ∃ v L, o = .returned v ∧ own_Q_c4 Z q d0 d1 d2 d3 d4 d5 d6 d7 qk h0 n0 v U'.heap L ∧ FrameEnd U o U' L ({ frames := 0, cells := 1, slots := 8, locals := 0 } : Room).cells ({ frames := 0, cells := 1, slots := 8, locals := 0 } : Room).slots) := by
  refine MetFree.of_bodySF (plainFor_of_name own_pn_com_example_hachure_hachure_render_ParallelLines) hisR ?_
  intro p e s m args below meth c s₁ Bd hml0 hP hK
  obtain ⟨rfl, hZ, hh⟩ := hP
  have hx := Bd.exec
  have hby := Bd.bytes
  have hml : c.maxLocals = 3 := hml0
  have hown : s.vm.findClass "com/example/hachure/hachure/render/ParallelLines" = some m.cls := findClass_of_methodNamed Bd.named
  have hnm := (name_of_methodNamed Bd.named Bd.method).1
  have X0 : Stand p l e ({ frames := 0, cells := 1, slots := 8, locals := 0 } : Room) s m #[(.ref q)] below meth c s₁ [] 0 0 := Stand.of_body Bd
  have e0 : s₁.heap = h0 := by rw [← hh, Bd.state]; rfl
  have N0 := Fr.nil n0
  have pre0 : ∀ t, Steps p.tables e below (s₁.setTop (mkF m 0 #[.val (.ref q), .unset, .unset] [])) t → Steps p.tables e below (s₁.setTop (entryFrame m #[(.ref q)] 3)) t := fun t k => castTop (own_ef_c4 m q) k
  obtain ⟨Tc41, hc41, kc41, bc41, Xc41, ec41, Ec41, Gc41, Vc41, stc41⟩ := own_newD (L := #[.val (.ref q), .unset, .unset]) (S := []) X0 hx hZ (hw _ (List.mem_of_getElem? (i := 1) rfl)) e0 (z := (8 : Int32)) 8 (by decide) (by decide) (by decide) (by decide) (by decide) (hb hby own_d1_2) (pc' := 4) rfl
  have ne_q_bc41 : q ≠ bc41 := Nat.ne_of_lt (Nat.lt_of_lt_of_le V_q.lt (Nat.le_of_eq Gc41.symm))
  have ne_bc41_q : bc41 ≠ q := Ne.symm ne_q_bc41
  have g_bc41 : n0 ≤ bc41 := Nat.le_trans Z0 (Nat.le_of_eq Gc41.symm)
  have sz_bc41 : h0.size ≤ bc41 := Nat.le_trans (Keep.refl h0 []).1 (Nat.le_of_eq Gc41.symm)
  have V_q_c41 := V_q.ext Ec41
  have Zc41 : n0 ≤ hc41.size := Nat.le_trans Z0 Ec41.1
  have KKc41 := (Keep.refl h0 []).ext Ec41
  have V_bc41 : Arv Z hc41 bc41 kc41 .double (8 : Int32) [(.double 0), (.double 0), (.double 0), (.double 0), (.double 0), (.double 0), (.double 0), (.double 0)] (.double 0) := Vc41
  obtain ⟨Tc42, hc42, Xc42, ec42, Wc42, Vc42, stc42⟩ := own_stD (L := #[.val (.ref q), .val (.ref bc41), .val (.int (0 : Int32))]) (S := []) Xc41 hx hZ ec41 V_bc41 (j := (6 : Int32)) (x := d0) (by decide) 6 (by decide) (Nat.le_of_ble_eq_true rfl) (hb hby own_d1_23) (pc' := 24) rfl
  have V_q_c42 := V_q_c41.other Wc42 ne_q_bc41
  have Zc42 : n0 ≤ hc42.size := Nat.le_trans Zc41 (Nat.le_of_eq Wc42.size.symm)
  have KKc42 := KKc41.wr Wc42 (Or.inr sz_bc41)
  have V_bc41_c42 : Arv Z hc42 bc41 kc41 .double (8 : Int32) [(.double 0), (.double 0), (.double 0), (.double 0), (.double 0), (.double 0), (.double d0), (.double 0)] (.double 0) := Vc42
  have Nc42 := Fr.snoc Xc42 N0 g_bc41
  obtain ⟨Tc43, hc43, Xc43, ec43, Wc43, Vc43, stc43⟩ := own_stD (L := #[.val (.ref q), .val (.ref bc41), .val (.int (0 : Int32))]) (S := []) Xc42 hx hZ ec42 V_bc41_c42 (j := (7 : Int32)) (x := d1) (by decide) 7 (by decide) (Nat.le_of_ble_eq_true rfl) (hb hby own_d1_36) (pc' := 37) rfl
  have V_q_c43 := V_q_c42.other Wc43 ne_q_bc41
  have Zc43 : n0 ≤ hc43.size := Nat.le_trans Zc42 (Nat.le_of_eq Wc43.size.symm)
  have KKc43 := KKc42.wr Wc43 (Or.inr sz_bc41)
  have V_bc41_c43 : Arv Z hc43 bc41 kc41 .double (8 : Int32) [(.double 0), (.double 0), (.double 0), (.double 0), (.double 0), (.double 0), (.double d0), (.double d1)] (.double 0) := Vc43
  have Nc43 := Fr.snoc Xc43 Nc42 g_bc41
  obtain ⟨Tc44, hc44, Xc44, ec44, Wc44, Vc44, stc44⟩ := own_stD (L := #[.val (.ref q), .val (.ref bc41), .val (.int (2 : Int32))]) (S := []) Xc43 hx hZ ec43 V_bc41_c43 (j := (4 : Int32)) (x := d2) (by decide) 4 (by decide) (Nat.le_of_ble_eq_true rfl) (hb hby own_d1_23) (pc' := 24) rfl
  have V_q_c44 := V_q_c43.other Wc44 ne_q_bc41
  have Zc44 : n0 ≤ hc44.size := Nat.le_trans Zc43 (Nat.le_of_eq Wc44.size.symm)
  have KKc44 := KKc43.wr Wc44 (Or.inr sz_bc41)
  have V_bc41_c44 : Arv Z hc44 bc41 kc41 .double (8 : Int32) [(.double 0), (.double 0), (.double 0), (.double 0), (.double d2), (.double 0), (.double d0), (.double d1)] (.double 0) := Vc44
  have Nc44 := Fr.snoc Xc44 Nc43 g_bc41
  obtain ⟨Tc45, hc45, Xc45, ec45, Wc45, Vc45, stc45⟩ := own_stD (L := #[.val (.ref q), .val (.ref bc41), .val (.int (2 : Int32))]) (S := []) Xc44 hx hZ ec44 V_bc41_c44 (j := (5 : Int32)) (x := d3) (by decide) 5 (by decide) (Nat.le_of_ble_eq_true rfl) (hb hby own_d1_36) (pc' := 37) rfl
  have V_q_c45 := V_q_c44.other Wc45 ne_q_bc41
  have Zc45 : n0 ≤ hc45.size := Nat.le_trans Zc44 (Nat.le_of_eq Wc45.size.symm)
  have KKc45 := KKc44.wr Wc45 (Or.inr sz_bc41)
  have V_bc41_c45 : Arv Z hc45 bc41 kc41 .double (8 : Int32) [(.double 0), (.double 0), (.double 0), (.double 0), (.double d2), (.double d3), (.double d0), (.double d1)] (.double 0) := Vc45
  have Nc45 := Fr.snoc Xc45 Nc44 g_bc41
  obtain ⟨Tc46, hc46, Xc46, ec46, Wc46, Vc46, stc46⟩ := own_stD (L := #[.val (.ref q), .val (.ref bc41), .val (.int (4 : Int32))]) (S := []) Xc45 hx hZ ec45 V_bc41_c45 (j := (2 : Int32)) (x := d4) (by decide) 2 (by decide) (Nat.le_of_ble_eq_true rfl) (hb hby own_d1_23) (pc' := 24) rfl
  have V_q_c46 := V_q_c45.other Wc46 ne_q_bc41
  have Zc46 : n0 ≤ hc46.size := Nat.le_trans Zc45 (Nat.le_of_eq Wc46.size.symm)
  have KKc46 := KKc45.wr Wc46 (Or.inr sz_bc41)
  have V_bc41_c46 : Arv Z hc46 bc41 kc41 .double (8 : Int32) [(.double 0), (.double 0), (.double d4), (.double 0), (.double d2), (.double d3), (.double d0), (.double d1)] (.double 0) := Vc46
  have Nc46 := Fr.snoc Xc46 Nc45 g_bc41
  obtain ⟨Tc47, hc47, Xc47, ec47, Wc47, Vc47, stc47⟩ := own_stD (L := #[.val (.ref q), .val (.ref bc41), .val (.int (4 : Int32))]) (S := []) Xc46 hx hZ ec46 V_bc41_c46 (j := (3 : Int32)) (x := d5) (by decide) 3 (by decide) (Nat.le_of_ble_eq_true rfl) (hb hby own_d1_36) (pc' := 37) rfl
  have V_q_c47 := V_q_c46.other Wc47 ne_q_bc41
  have Zc47 : n0 ≤ hc47.size := Nat.le_trans Zc46 (Nat.le_of_eq Wc47.size.symm)
  have KKc47 := KKc46.wr Wc47 (Or.inr sz_bc41)
  have V_bc41_c47 : Arv Z hc47 bc41 kc41 .double (8 : Int32) [(.double 0), (.double 0), (.double d4), (.double d5), (.double d2), (.double d3), (.double d0), (.double d1)] (.double 0) := Vc47
  have Nc47 := Fr.snoc Xc47 Nc46 g_bc41
  obtain ⟨Tc48, hc48, Xc48, ec48, Wc48, Vc48, stc48⟩ := own_stD (L := #[.val (.ref q), .val (.ref bc41), .val (.int (6 : Int32))]) (S := []) Xc47 hx hZ ec47 V_bc41_c47 (j := (0 : Int32)) (x := d6) (by decide) 0 (by decide) (Nat.le_of_ble_eq_true rfl) (hb hby own_d1_23) (pc' := 24) rfl
  have V_q_c48 := V_q_c47.other Wc48 ne_q_bc41
  have Zc48 : n0 ≤ hc48.size := Nat.le_trans Zc47 (Nat.le_of_eq Wc48.size.symm)
  have KKc48 := KKc47.wr Wc48 (Or.inr sz_bc41)
  have V_bc41_c48 : Arv Z hc48 bc41 kc41 .double (8 : Int32) [(.double d6), (.double 0), (.double d4), (.double d5), (.double d2), (.double d3), (.double d0), (.double d1)] (.double 0) := Vc48
  have Nc48 := Fr.snoc Xc48 Nc47 g_bc41
  obtain ⟨Tc49, hc49, Xc49, ec49, Wc49, Vc49, stc49⟩ := own_stD (L := #[.val (.ref q), .val (.ref bc41), .val (.int (6 : Int32))]) (S := []) Xc48 hx hZ ec48 V_bc41_c48 (j := (1 : Int32)) (x := d7) (by decide) 1 (by decide) (Nat.le_of_ble_eq_true rfl) (hb hby own_d1_36) (pc' := 37) rfl
  have V_q_c49 := V_q_c48.other Wc49 ne_q_bc41
  have Zc49 : n0 ≤ hc49.size := Nat.le_trans Zc48 (Nat.le_of_eq Wc49.size.symm)
  have KKc49 := KKc48.wr Wc49 (Or.inr sz_bc41)
  have V_bc41_c49 : Arv Z hc49 bc41 kc41 .double (8 : Int32) [(.double d6), (.double d7), (.double d4), (.double d5), (.double d2), (.double d3), (.double d0), (.double d1)] (.double 0) := Vc49
  have Nc49 := Fr.snoc Xc49 Nc48 g_bc41
  obtain ⟨fs, hr, hrun, hended, hW, hsame⟩ := Xc49.leave (v := some (.ref bc41)) (fun h => by rw [Bd.returns] at h; cases h)
  refine ⟨_, _, pre0 _ ?_, hrun, hended, _, _, rfl, ?_, ⟨_, rfl⟩, hW, hsame.mono (by decide) (by decide)⟩
  · refine own_s_aloadN X0.here hx (hb hby own_d1_0) (pc' := 1) rfl rfl rfl ?_
    refine own_len X0 hx hZ e0 V_q (hb hby own_d1_1) (pc' := 2) rfl ?_
    refine stc41 _ ?_
    refine own_s_astoreN Xc41.here hx (hb hby own_d1_4) (pc' := 5) rfl rfl (L' := #[.val (.ref q), .val (.ref bc41), .unset]) rfl ?_
    refine own_s_iconst Xc41.here hx (hb hby own_d1_5) (pc' := 6) rfl (v := (0 : Int32)) (by decide) ?_
    refine own_s_istoreN Xc41.here hx (hb hby own_d1_6) (pc' := 7) rfl (L' := #[.val (.ref q), .val (.ref bc41), .val (.int (0 : Int32))]) rfl ?_
    refine own_s_iloadN Xc41.here hx (hb hby own_d1_7) (pc' := 8) rfl rfl ?_
    refine own_s_aloadN Xc41.here hx (hb hby own_d1_8) (pc' := 9) rfl rfl rfl ?_
    refine own_len Xc41 hx hZ ec41 V_q_c41 (hb hby own_d1_9) (pc' := 10) rfl ?_
    refine own_s_icmpNo Xc41.here hx (hb hby own_d1_10) (pc' := 13) rfl (by decide) ?_
    refine own_s_aloadN Xc41.here hx (hb hby own_d1_13) (pc' := 14) rfl rfl rfl ?_
    refine own_s_aloadN Xc41.here hx (hb hby own_d1_14) (pc' := 15) rfl rfl rfl ?_
    refine own_len Xc41 hx hZ ec41 V_q_c41 (hb hby own_d1_15) (pc' := 16) rfl ?_
    refine own_s_iconst Xc41.here hx (hb hby own_d1_16) (pc' := 17) rfl (v := (2 : Int32)) (by decide) ?_
    refine own_s_isub Xc41.here hx (hb hby own_d1_17) (pc' := 18) rfl (v := (6 : Int32)) (by decide) ?_
    refine own_s_iloadN Xc41.here hx (hb hby own_d1_18) (pc' := 19) rfl rfl ?_
    refine own_s_isub Xc41.here hx (hb hby own_d1_19) (pc' := 20) rfl (v := (6 : Int32)) (by decide) ?_
    refine own_s_aloadN Xc41.here hx (hb hby own_d1_20) (pc' := 21) rfl rfl rfl ?_
    refine own_s_iloadN Xc41.here hx (hb hby own_d1_21) (pc' := 22) rfl rfl ?_
    refine own_ldD Xc41 hx hZ ec41 V_q_c41 (j := (0 : Int32)) (x := d0) (by decide) rfl (hb hby own_d1_22) (pc' := 23) rfl ?_
    refine stc42 _ ?_
    refine own_s_aloadN Xc42.here hx (hb hby own_d1_24) (pc' := 25) rfl rfl rfl ?_
    refine own_s_aloadN Xc42.here hx (hb hby own_d1_25) (pc' := 26) rfl rfl rfl ?_
    refine own_len Xc42 hx hZ ec42 V_q_c42 (hb hby own_d1_26) (pc' := 27) rfl ?_
    refine own_s_iconst Xc42.here hx (hb hby own_d1_27) (pc' := 28) rfl (v := (1 : Int32)) (by decide) ?_
    refine own_s_isub Xc42.here hx (hb hby own_d1_28) (pc' := 29) rfl (v := (7 : Int32)) (by decide) ?_
    refine own_s_iloadN Xc42.here hx (hb hby own_d1_29) (pc' := 30) rfl rfl ?_
    refine own_s_isub Xc42.here hx (hb hby own_d1_30) (pc' := 31) rfl (v := (7 : Int32)) (by decide) ?_
    refine own_s_aloadN Xc42.here hx (hb hby own_d1_31) (pc' := 32) rfl rfl rfl ?_
    refine own_s_iloadN Xc42.here hx (hb hby own_d1_32) (pc' := 33) rfl rfl ?_
    refine own_s_iconst Xc42.here hx (hb hby own_d1_33) (pc' := 34) rfl (v := (1 : Int32)) (by decide) ?_
    refine own_s_iadd Xc42.here hx (hb hby own_d1_34) (pc' := 35) rfl (v := (1 : Int32)) (by decide) ?_
    refine own_ldD Xc42 hx hZ ec42 V_q_c42 (j := (1 : Int32)) (x := d1) (by decide) rfl (hb hby own_d1_35) (pc' := 36) rfl ?_
    refine stc43 _ ?_
    refine own_s_iinc Xc43.here hx (hb hby own_d1_37) (pc' := 40) rfl rfl (v := (2 : Int32)) (by decide) (L' := #[.val (.ref q), .val (.ref bc41), .val (.int (2 : Int32))]) rfl ?_
    refine own_s_goto Xc43.here hx (hb hby own_d1_40) (by decide) (pc' := 7) (by decide) ?_
    refine own_s_iloadN Xc43.here hx (hb hby own_d1_7) (pc' := 8) rfl rfl ?_
    refine own_s_aloadN Xc43.here hx (hb hby own_d1_8) (pc' := 9) rfl rfl rfl ?_
    refine own_len Xc43 hx hZ ec43 V_q_c43 (hb hby own_d1_9) (pc' := 10) rfl ?_
    refine own_s_icmpNo Xc43.here hx (hb hby own_d1_10) (pc' := 13) rfl (by decide) ?_
    refine own_s_aloadN Xc43.here hx (hb hby own_d1_13) (pc' := 14) rfl rfl rfl ?_
    refine own_s_aloadN Xc43.here hx (hb hby own_d1_14) (pc' := 15) rfl rfl rfl ?_
    refine own_len Xc43 hx hZ ec43 V_q_c43 (hb hby own_d1_15) (pc' := 16) rfl ?_
    refine own_s_iconst Xc43.here hx (hb hby own_d1_16) (pc' := 17) rfl (v := (2 : Int32)) (by decide) ?_
    refine own_s_isub Xc43.here hx (hb hby own_d1_17) (pc' := 18) rfl (v := (6 : Int32)) (by decide) ?_
    refine own_s_iloadN Xc43.here hx (hb hby own_d1_18) (pc' := 19) rfl rfl ?_
    refine own_s_isub Xc43.here hx (hb hby own_d1_19) (pc' := 20) rfl (v := (4 : Int32)) (by decide) ?_
    refine own_s_aloadN Xc43.here hx (hb hby own_d1_20) (pc' := 21) rfl rfl rfl ?_
    refine own_s_iloadN Xc43.here hx (hb hby own_d1_21) (pc' := 22) rfl rfl ?_
    refine own_ldD Xc43 hx hZ ec43 V_q_c43 (j := (2 : Int32)) (x := d2) (by decide) rfl (hb hby own_d1_22) (pc' := 23) rfl ?_
    refine stc44 _ ?_
    refine own_s_aloadN Xc44.here hx (hb hby own_d1_24) (pc' := 25) rfl rfl rfl ?_
    refine own_s_aloadN Xc44.here hx (hb hby own_d1_25) (pc' := 26) rfl rfl rfl ?_
    refine own_len Xc44 hx hZ ec44 V_q_c44 (hb hby own_d1_26) (pc' := 27) rfl ?_
    refine own_s_iconst Xc44.here hx (hb hby own_d1_27) (pc' := 28) rfl (v := (1 : Int32)) (by decide) ?_
    refine own_s_isub Xc44.here hx (hb hby own_d1_28) (pc' := 29) rfl (v := (7 : Int32)) (by decide) ?_
    refine own_s_iloadN Xc44.here hx (hb hby own_d1_29) (pc' := 30) rfl rfl ?_
    refine own_s_isub Xc44.here hx (hb hby own_d1_30) (pc' := 31) rfl (v := (5 : Int32)) (by decide) ?_
    refine own_s_aloadN Xc44.here hx (hb hby own_d1_31) (pc' := 32) rfl rfl rfl ?_
    refine own_s_iloadN Xc44.here hx (hb hby own_d1_32) (pc' := 33) rfl rfl ?_
    refine own_s_iconst Xc44.here hx (hb hby own_d1_33) (pc' := 34) rfl (v := (1 : Int32)) (by decide) ?_
    refine own_s_iadd Xc44.here hx (hb hby own_d1_34) (pc' := 35) rfl (v := (3 : Int32)) (by decide) ?_
    refine own_ldD Xc44 hx hZ ec44 V_q_c44 (j := (3 : Int32)) (x := d3) (by decide) rfl (hb hby own_d1_35) (pc' := 36) rfl ?_
    refine stc45 _ ?_
    refine own_s_iinc Xc45.here hx (hb hby own_d1_37) (pc' := 40) rfl rfl (v := (4 : Int32)) (by decide) (L' := #[.val (.ref q), .val (.ref bc41), .val (.int (4 : Int32))]) rfl ?_
    refine own_s_goto Xc45.here hx (hb hby own_d1_40) (by decide) (pc' := 7) (by decide) ?_
    refine own_s_iloadN Xc45.here hx (hb hby own_d1_7) (pc' := 8) rfl rfl ?_
    refine own_s_aloadN Xc45.here hx (hb hby own_d1_8) (pc' := 9) rfl rfl rfl ?_
    refine own_len Xc45 hx hZ ec45 V_q_c45 (hb hby own_d1_9) (pc' := 10) rfl ?_
    refine own_s_icmpNo Xc45.here hx (hb hby own_d1_10) (pc' := 13) rfl (by decide) ?_
    refine own_s_aloadN Xc45.here hx (hb hby own_d1_13) (pc' := 14) rfl rfl rfl ?_
    refine own_s_aloadN Xc45.here hx (hb hby own_d1_14) (pc' := 15) rfl rfl rfl ?_
    refine own_len Xc45 hx hZ ec45 V_q_c45 (hb hby own_d1_15) (pc' := 16) rfl ?_
    refine own_s_iconst Xc45.here hx (hb hby own_d1_16) (pc' := 17) rfl (v := (2 : Int32)) (by decide) ?_
    refine own_s_isub Xc45.here hx (hb hby own_d1_17) (pc' := 18) rfl (v := (6 : Int32)) (by decide) ?_
    refine own_s_iloadN Xc45.here hx (hb hby own_d1_18) (pc' := 19) rfl rfl ?_
    refine own_s_isub Xc45.here hx (hb hby own_d1_19) (pc' := 20) rfl (v := (2 : Int32)) (by decide) ?_
    refine own_s_aloadN Xc45.here hx (hb hby own_d1_20) (pc' := 21) rfl rfl rfl ?_
    refine own_s_iloadN Xc45.here hx (hb hby own_d1_21) (pc' := 22) rfl rfl ?_
    refine own_ldD Xc45 hx hZ ec45 V_q_c45 (j := (4 : Int32)) (x := d4) (by decide) rfl (hb hby own_d1_22) (pc' := 23) rfl ?_
    refine stc46 _ ?_
    refine own_s_aloadN Xc46.here hx (hb hby own_d1_24) (pc' := 25) rfl rfl rfl ?_
    refine own_s_aloadN Xc46.here hx (hb hby own_d1_25) (pc' := 26) rfl rfl rfl ?_
    refine own_len Xc46 hx hZ ec46 V_q_c46 (hb hby own_d1_26) (pc' := 27) rfl ?_
    refine own_s_iconst Xc46.here hx (hb hby own_d1_27) (pc' := 28) rfl (v := (1 : Int32)) (by decide) ?_
    refine own_s_isub Xc46.here hx (hb hby own_d1_28) (pc' := 29) rfl (v := (7 : Int32)) (by decide) ?_
    refine own_s_iloadN Xc46.here hx (hb hby own_d1_29) (pc' := 30) rfl rfl ?_
    refine own_s_isub Xc46.here hx (hb hby own_d1_30) (pc' := 31) rfl (v := (3 : Int32)) (by decide) ?_
    refine own_s_aloadN Xc46.here hx (hb hby own_d1_31) (pc' := 32) rfl rfl rfl ?_
    refine own_s_iloadN Xc46.here hx (hb hby own_d1_32) (pc' := 33) rfl rfl ?_
    refine own_s_iconst Xc46.here hx (hb hby own_d1_33) (pc' := 34) rfl (v := (1 : Int32)) (by decide) ?_
    refine own_s_iadd Xc46.here hx (hb hby own_d1_34) (pc' := 35) rfl (v := (5 : Int32)) (by decide) ?_
    refine own_ldD Xc46 hx hZ ec46 V_q_c46 (j := (5 : Int32)) (x := d5) (by decide) rfl (hb hby own_d1_35) (pc' := 36) rfl ?_
    refine stc47 _ ?_
    refine own_s_iinc Xc47.here hx (hb hby own_d1_37) (pc' := 40) rfl rfl (v := (6 : Int32)) (by decide) (L' := #[.val (.ref q), .val (.ref bc41), .val (.int (6 : Int32))]) rfl ?_
    refine own_s_goto Xc47.here hx (hb hby own_d1_40) (by decide) (pc' := 7) (by decide) ?_
    refine own_s_iloadN Xc47.here hx (hb hby own_d1_7) (pc' := 8) rfl rfl ?_
    refine own_s_aloadN Xc47.here hx (hb hby own_d1_8) (pc' := 9) rfl rfl rfl ?_
    refine own_len Xc47 hx hZ ec47 V_q_c47 (hb hby own_d1_9) (pc' := 10) rfl ?_
    refine own_s_icmpNo Xc47.here hx (hb hby own_d1_10) (pc' := 13) rfl (by decide) ?_
    refine own_s_aloadN Xc47.here hx (hb hby own_d1_13) (pc' := 14) rfl rfl rfl ?_
    refine own_s_aloadN Xc47.here hx (hb hby own_d1_14) (pc' := 15) rfl rfl rfl ?_
    refine own_len Xc47 hx hZ ec47 V_q_c47 (hb hby own_d1_15) (pc' := 16) rfl ?_
    refine own_s_iconst Xc47.here hx (hb hby own_d1_16) (pc' := 17) rfl (v := (2 : Int32)) (by decide) ?_
    refine own_s_isub Xc47.here hx (hb hby own_d1_17) (pc' := 18) rfl (v := (6 : Int32)) (by decide) ?_
    refine own_s_iloadN Xc47.here hx (hb hby own_d1_18) (pc' := 19) rfl rfl ?_
    refine own_s_isub Xc47.here hx (hb hby own_d1_19) (pc' := 20) rfl (v := (0 : Int32)) (by decide) ?_
    refine own_s_aloadN Xc47.here hx (hb hby own_d1_20) (pc' := 21) rfl rfl rfl ?_
    refine own_s_iloadN Xc47.here hx (hb hby own_d1_21) (pc' := 22) rfl rfl ?_
    refine own_ldD Xc47 hx hZ ec47 V_q_c47 (j := (6 : Int32)) (x := d6) (by decide) rfl (hb hby own_d1_22) (pc' := 23) rfl ?_
    refine stc48 _ ?_
    refine own_s_aloadN Xc48.here hx (hb hby own_d1_24) (pc' := 25) rfl rfl rfl ?_
    refine own_s_aloadN Xc48.here hx (hb hby own_d1_25) (pc' := 26) rfl rfl rfl ?_
    refine own_len Xc48 hx hZ ec48 V_q_c48 (hb hby own_d1_26) (pc' := 27) rfl ?_
    refine own_s_iconst Xc48.here hx (hb hby own_d1_27) (pc' := 28) rfl (v := (1 : Int32)) (by decide) ?_
    refine own_s_isub Xc48.here hx (hb hby own_d1_28) (pc' := 29) rfl (v := (7 : Int32)) (by decide) ?_
    refine own_s_iloadN Xc48.here hx (hb hby own_d1_29) (pc' := 30) rfl rfl ?_
    refine own_s_isub Xc48.here hx (hb hby own_d1_30) (pc' := 31) rfl (v := (1 : Int32)) (by decide) ?_
    refine own_s_aloadN Xc48.here hx (hb hby own_d1_31) (pc' := 32) rfl rfl rfl ?_
    refine own_s_iloadN Xc48.here hx (hb hby own_d1_32) (pc' := 33) rfl rfl ?_
    refine own_s_iconst Xc48.here hx (hb hby own_d1_33) (pc' := 34) rfl (v := (1 : Int32)) (by decide) ?_
    refine own_s_iadd Xc48.here hx (hb hby own_d1_34) (pc' := 35) rfl (v := (7 : Int32)) (by decide) ?_
    refine own_ldD Xc48 hx hZ ec48 V_q_c48 (j := (7 : Int32)) (x := d7) (by decide) rfl (hb hby own_d1_35) (pc' := 36) rfl ?_
    refine stc49 _ ?_
    refine own_s_iinc Xc49.here hx (hb hby own_d1_37) (pc' := 40) rfl rfl (v := (8 : Int32)) (by decide) (L' := #[.val (.ref q), .val (.ref bc41), .val (.int (8 : Int32))]) rfl ?_
    refine own_s_goto Xc49.here hx (hb hby own_d1_40) (by decide) (pc' := 7) (by decide) ?_
    refine own_s_iloadN Xc49.here hx (hb hby own_d1_7) (pc' := 8) rfl rfl ?_
    refine own_s_aloadN Xc49.here hx (hb hby own_d1_8) (pc' := 9) rfl rfl rfl ?_
    refine own_len Xc49 hx hZ ec49 V_q_c49 (hb hby own_d1_9) (pc' := 10) rfl ?_
    refine own_s_icmpYes Xc49.here hx (hb hby own_d1_10) (by decide) (pc' := 43) (by decide) (by decide) ?_
    refine own_s_aloadN Xc49.here hx (hb hby own_d1_43) (pc' := 44) rfl rfl rfl ?_
    exact own_retR Xc49 hx Bd.returns rfl (hb hby own_d1_44) hr
  · show own_Q_c4 Z q d0 d1 d2 d3 d4 d5 d6 d7 qk h0 n0 _ Tc49.heap _
    rw [ec49]
    exact ⟨bc41, kc41, rfl, Nc49, KKc49, sz_bc41, V_bc41_c49⟩
theorem own_ef_w4 (m : MethodId) (p0 : Int32) (p1 : Int64) (p2 : Int64) (p3 : Int64) (p4 : Int64) : entryFrame m #[(.int p0), (.long p1), (.long p2), (.long p3), (.long p4)] maxLocals = mkF m 0 #[.val (.int p0), .val (.long p1), .second, .val (.long p2), .second, .val (.long p3), .second, .val (.long p4), .second, .unset, .unset, .unset, .unset, .unset, .unset, .unset, .unset, .unset, .unset, .unset, .unset, .unset, .unset, .unset, .unset, .unset, .unset, .unset] [] := by first | (simp [entryFrame, mkF, argsToLocals, Value.category, maxLocals]; done) | rfl
set_option maxRecDepth 65536 in
set_option maxHeartbeats 40000000 in
theorem own_rm_w4 (l : Launch) (Z : State) (a0 : Array Value) (hw : ∀ d ∈ tables_1, d.before a0 Z = true) (ws : List Jvm.Cond) (p0 : Int32) (p1 : Int64) (p2 : Int64) (p3 : Int64) (p4 : Int64) {w4_v3 : Int32} {w4_v9 : Int32} {w4_v16 : Int64} {w4_v17 : Int32} {w4_v22 : Int32} {w4_v29 : Int64} {w4_v30 : Int32} {w4_v36 : Int32} {w4_v44 : Int64} {w4_v45 : Int32} {w4_v51 : Int32} {w4_v59 : Int64} {w4_v60 : Int32} (h0 : Heap) (n0 : Nat) (Z0 : n0 ≤ h0.size)  (w4_hv3 : p0 &&& (2147483647 : Int32) = w4_v3) (w4_hv5 : w4_v3 % (5 : Int32) = (4 : Int32)) (w4_hv9 : Int64.toInt32 p1 = w4_v9) (w4_hv16 : p1 >>> ((32 : Int32) &&& 63).toInt64 = w4_v16) (w4_hv17 : Int64.toInt32 w4_v16 = w4_v17) (w4_hv22 : Int64.toInt32 p2 = w4_v22) (w4_hv29 : p2 >>> ((32 : Int32) &&& 63).toInt64 = w4_v29) (w4_hv30 : Int64.toInt32 w4_v29 = w4_v30) (w4_hv36 : Int64.toInt32 p3 = w4_v36) (w4_hv44 : p3 >>> ((32 : Int32) &&& 63).toInt64 = w4_v44) (w4_hv45 : Int64.toInt32 w4_v44 = w4_v45) (w4_hv51 : Int64.toInt32 p4 = w4_v51) (w4_hv59 : p4 >>> ((32 : Int32) &&& 63).toInt64 = w4_v59) (w4_hv60 : Int64.toInt32 w4_v59 = w4_v60) (w4_hc551 : Op.cmpValue (FP.dcmp (FP.i2d w4_v51) (FP.i2d w4_v51)) .l = (0 : Int32)) (w4_hc561 : Op.cmpValue (FP.dcmp (FP.i2d w4_v60) (FP.i2d w4_v60)) .l = (0 : Int32)) (w4_hc571 : Op.cmpValue (FP.dcmp (FP.i2d w4_v36) (FP.i2d w4_v36)) .l = (0 : Int32)) (w4_hc581 : Op.cmpValue (FP.dcmp (FP.i2d w4_v45) (FP.i2d w4_v45)) .l = (0 : Int32)) (w4_hc591 : Op.cmpValue (FP.dcmp (FP.i2d w4_v22) (FP.i2d w4_v22)) .l = (0 : Int32)) (w4_hc601 : Op.cmpValue (FP.dcmp (FP.i2d w4_v30) (FP.i2d w4_v30)) .l = (0 : Int32)) (w4_hc612 : Op.cmpValue (FP.dcmp (FP.i2d w4_v9) (FP.i2d w4_v9)) .l = (0 : Int32)) (w4_hc623 : Op.cmpValue (FP.dcmp (FP.i2d w4_v17) (FP.i2d w4_v17)) .l = (0 : Int32)) (w4_hc633 : Op.cmpValue (FP.dcmp (FP.i2d w4_v9) (FP.i2d w4_v9)) .l = (0 : Int32)) (w4_hc643 : Op.cmpValue (FP.dcmp (FP.i2d w4_v17) (FP.i2d w4_v17)) .l = (0 : Int32)) (w4_hc653 : Op.cmpValue (FP.dcmp (FP.i2d w4_v22) (FP.i2d w4_v22)) .l = (0 : Int32)) (w4_hc663 : Op.cmpValue (FP.dcmp (FP.i2d w4_v30) (FP.i2d w4_v30)) .l = (0 : Int32)) (w4_hc673 : Op.cmpValue (FP.dcmp (FP.i2d w4_v36) (FP.i2d w4_v36)) .l = (0 : Int32)) (w4_hc683 : Op.cmpValue (FP.dcmp (FP.i2d w4_v45) (FP.i2d w4_v45)) .l = (0 : Int32)) (w4_hc694 : Op.cmpValue (FP.dcmp (FP.i2d w4_v51) (FP.i2d w4_v51)) .l = (0 : Int32)) (w4_hc705 : Op.cmpValue (FP.dcmp (FP.i2d w4_v60) (FP.i2d w4_v60)) .l = (0 : Int32)) :
    MetFree l x (head1 (Jvm.Cond.code x code maxLocals ret :: ws) room_1) (fun a U => a = #[(.int p0), (.long p1), (.long p2), (.long p3), (.long p4)] ∧ Z.Warmed39 U.vm ∧ U.heap = h0) (fun _ _ _ _ _ => True) (fun _ U o U' => ∃ v L, o = .returned v ∧ own_Q0 n0 v U'.heap L ∧ FrameEnd U o U' L room_1.cells room_1.slots) := by
  refine MetFree.of_bodySF (plainFor_of_name own_pn_com_example_hachure_hachure_render_ParallelLinesReversedPinLaw) hisR ?_
  intro p e s m args below meth c s₁ Bd hml0 hP hK
  obtain ⟨rfl, hZ, hh⟩ := hP
  have hx := Bd.exec
  have hby := Bd.bytes
  have hml : c.maxLocals = 28 := hml0
  have hown : s.vm.findClass "com/example/hachure/hachure/render/ParallelLinesReversedPinLaw" = some m.cls := findClass_of_methodNamed Bd.named
  have hnm := (name_of_methodNamed Bd.named Bd.method).1
  have X0 : Stand p l e room_1 s m #[(.int p0), (.long p1), (.long p2), (.long p3), (.long p4)] below meth c s₁ [] 0 0 := Stand.of_body Bd
  have e0 : s₁.heap = h0 := by rw [← hh, Bd.state]; rfl
  have N0 := Fr.nil n0
  have pre0 : ∀ t, Steps p.tables e below (s₁.setTop (mkF m 0 #[.val (.int p0), .val (.long p1), .second, .val (.long p2), .second, .val (.long p3), .second, .val (.long p4), .second, .unset, .unset, .unset, .unset, .unset, .unset, .unset, .unset, .unset, .unset, .unset, .unset, .unset, .unset, .unset, .unset, .unset, .unset, .unset] [])) t → Steps p.tables e below (s₁.setTop (entryFrame m #[(.int p0), (.long p1), (.long p2), (.long p3), (.long p4)] maxLocals)) t := fun t k => castTop (own_ef_w4 m p0 p1 p2 p3 p4) k
  obtain ⟨Tw41, hw41, kw41, bw41, Xw41, ew41, Ew41, Gw41, Vw41, stw41⟩ := own_newD (L := #[.val (.int p0), .val (.long p1), .second, .val (.long p2), .second, .val (.long p3), .second, .val (.long p4), .second, .val (.int (4 : Int32)), .val (.double (FP.i2d w4_v9)), .second, .val (.double (FP.i2d w4_v17)), .second, .val (.double (FP.i2d w4_v22)), .second, .val (.double (FP.i2d w4_v30)), .second, .val (.double (FP.i2d w4_v36)), .second, .val (.double (FP.i2d w4_v45)), .second, .val (.double (FP.i2d w4_v51)), .second, .val (.double (FP.i2d w4_v60)), .second, .unset, .unset]) (S := []) X0 hx hZ (hw _ (List.mem_of_getElem? (i := 1) rfl)) e0 (z := (8 : Int32)) 8 (by decide) (by decide) (by decide) (by decide) (by decide) (hb hby at_182) (pc' := 184) rfl
  have g_bw41 : n0 ≤ bw41 := Nat.le_trans Z0 (Nat.le_of_eq Gw41.symm)
  have sz_bw41 : h0.size ≤ bw41 := Nat.le_trans (Keep.refl h0 []).1 (Nat.le_of_eq Gw41.symm)
  have Zw41 : n0 ≤ hw41.size := Nat.le_trans Z0 Ew41.1
  have KKw41 := (Keep.refl h0 []).ext Ew41
  have V_bw41 : Arv Z hw41 bw41 kw41 .double (8 : Int32) [(.double 0), (.double 0), (.double 0), (.double 0), (.double 0), (.double 0), (.double 0), (.double 0)] (.double 0) := Vw41
  obtain ⟨Tw42, hw42, Xw42, ew42, Ww42, Vw42, stw42⟩ := own_stD (L := #[.val (.int p0), .val (.long p1), .second, .val (.long p2), .second, .val (.long p3), .second, .val (.long p4), .second, .val (.int (4 : Int32)), .val (.double (FP.i2d w4_v9)), .second, .val (.double (FP.i2d w4_v17)), .second, .val (.double (FP.i2d w4_v22)), .second, .val (.double (FP.i2d w4_v30)), .second, .val (.double (FP.i2d w4_v36)), .second, .val (.double (FP.i2d w4_v45)), .second, .val (.double (FP.i2d w4_v51)), .second, .val (.double (FP.i2d w4_v60)), .second, .unset, .unset]) (S := [(.ref bw41)]) Xw41 hx hZ ew41 V_bw41 (j := (0 : Int32)) (x := (FP.i2d w4_v9)) (by decide) 0 (by decide) (Nat.le_of_ble_eq_true rfl) (hb hby at_188) (pc' := 189) rfl
  have Zw42 : n0 ≤ hw42.size := Nat.le_trans Zw41 (Nat.le_of_eq Ww42.size.symm)
  have KKw42 := KKw41.wr Ww42 (Or.inr sz_bw41)
  have V_bw41_w42 : Arv Z hw42 bw41 kw41 .double (8 : Int32) [(.double (FP.i2d w4_v9)), (.double 0), (.double 0), (.double 0), (.double 0), (.double 0), (.double 0), (.double 0)] (.double 0) := Vw42
  have Nw42 := Fr.snoc Xw42 N0 g_bw41
  obtain ⟨Tw43, hw43, Xw43, ew43, Ww43, Vw43, stw43⟩ := own_stD (L := #[.val (.int p0), .val (.long p1), .second, .val (.long p2), .second, .val (.long p3), .second, .val (.long p4), .second, .val (.int (4 : Int32)), .val (.double (FP.i2d w4_v9)), .second, .val (.double (FP.i2d w4_v17)), .second, .val (.double (FP.i2d w4_v22)), .second, .val (.double (FP.i2d w4_v30)), .second, .val (.double (FP.i2d w4_v36)), .second, .val (.double (FP.i2d w4_v45)), .second, .val (.double (FP.i2d w4_v51)), .second, .val (.double (FP.i2d w4_v60)), .second, .unset, .unset]) (S := [(.ref bw41)]) Xw42 hx hZ ew42 V_bw41_w42 (j := (1 : Int32)) (x := (FP.i2d w4_v17)) (by decide) 1 (by decide) (Nat.le_of_ble_eq_true rfl) (hb hby at_193) (pc' := 194) rfl
  have Zw43 : n0 ≤ hw43.size := Nat.le_trans Zw42 (Nat.le_of_eq Ww43.size.symm)
  have KKw43 := KKw42.wr Ww43 (Or.inr sz_bw41)
  have V_bw41_w43 : Arv Z hw43 bw41 kw41 .double (8 : Int32) [(.double (FP.i2d w4_v9)), (.double (FP.i2d w4_v17)), (.double 0), (.double 0), (.double 0), (.double 0), (.double 0), (.double 0)] (.double 0) := Vw43
  have Nw43 := Fr.snoc Xw43 Nw42 g_bw41
  obtain ⟨Tw44, hw44, Xw44, ew44, Ww44, Vw44, stw44⟩ := own_stD (L := #[.val (.int p0), .val (.long p1), .second, .val (.long p2), .second, .val (.long p3), .second, .val (.long p4), .second, .val (.int (4 : Int32)), .val (.double (FP.i2d w4_v9)), .second, .val (.double (FP.i2d w4_v17)), .second, .val (.double (FP.i2d w4_v22)), .second, .val (.double (FP.i2d w4_v30)), .second, .val (.double (FP.i2d w4_v36)), .second, .val (.double (FP.i2d w4_v45)), .second, .val (.double (FP.i2d w4_v51)), .second, .val (.double (FP.i2d w4_v60)), .second, .unset, .unset]) (S := [(.ref bw41)]) Xw43 hx hZ ew43 V_bw41_w43 (j := (2 : Int32)) (x := (FP.i2d w4_v22)) (by decide) 2 (by decide) (Nat.le_of_ble_eq_true rfl) (hb hby at_198) (pc' := 199) rfl
  have Zw44 : n0 ≤ hw44.size := Nat.le_trans Zw43 (Nat.le_of_eq Ww44.size.symm)
  have KKw44 := KKw43.wr Ww44 (Or.inr sz_bw41)
  have V_bw41_w44 : Arv Z hw44 bw41 kw41 .double (8 : Int32) [(.double (FP.i2d w4_v9)), (.double (FP.i2d w4_v17)), (.double (FP.i2d w4_v22)), (.double 0), (.double 0), (.double 0), (.double 0), (.double 0)] (.double 0) := Vw44
  have Nw44 := Fr.snoc Xw44 Nw43 g_bw41
  obtain ⟨Tw45, hw45, Xw45, ew45, Ww45, Vw45, stw45⟩ := own_stD (L := #[.val (.int p0), .val (.long p1), .second, .val (.long p2), .second, .val (.long p3), .second, .val (.long p4), .second, .val (.int (4 : Int32)), .val (.double (FP.i2d w4_v9)), .second, .val (.double (FP.i2d w4_v17)), .second, .val (.double (FP.i2d w4_v22)), .second, .val (.double (FP.i2d w4_v30)), .second, .val (.double (FP.i2d w4_v36)), .second, .val (.double (FP.i2d w4_v45)), .second, .val (.double (FP.i2d w4_v51)), .second, .val (.double (FP.i2d w4_v60)), .second, .unset, .unset]) (S := [(.ref bw41)]) Xw44 hx hZ ew44 V_bw41_w44 (j := (3 : Int32)) (x := (FP.i2d w4_v30)) (by decide) 3 (by decide) (Nat.le_of_ble_eq_true rfl) (hb hby at_203) (pc' := 204) rfl
  have Zw45 : n0 ≤ hw45.size := Nat.le_trans Zw44 (Nat.le_of_eq Ww45.size.symm)
  have KKw45 := KKw44.wr Ww45 (Or.inr sz_bw41)
  have V_bw41_w45 : Arv Z hw45 bw41 kw41 .double (8 : Int32) [(.double (FP.i2d w4_v9)), (.double (FP.i2d w4_v17)), (.double (FP.i2d w4_v22)), (.double (FP.i2d w4_v30)), (.double 0), (.double 0), (.double 0), (.double 0)] (.double 0) := Vw45
  have Nw45 := Fr.snoc Xw45 Nw44 g_bw41
  obtain ⟨Tw46, hw46, Xw46, ew46, Ww46, Vw46, stw46⟩ := own_stD (L := #[.val (.int p0), .val (.long p1), .second, .val (.long p2), .second, .val (.long p3), .second, .val (.long p4), .second, .val (.int (4 : Int32)), .val (.double (FP.i2d w4_v9)), .second, .val (.double (FP.i2d w4_v17)), .second, .val (.double (FP.i2d w4_v22)), .second, .val (.double (FP.i2d w4_v30)), .second, .val (.double (FP.i2d w4_v36)), .second, .val (.double (FP.i2d w4_v45)), .second, .val (.double (FP.i2d w4_v51)), .second, .val (.double (FP.i2d w4_v60)), .second, .unset, .unset]) (S := [(.ref bw41)]) Xw45 hx hZ ew45 V_bw41_w45 (j := (4 : Int32)) (x := (FP.i2d w4_v36)) (by decide) 4 (by decide) (Nat.le_of_ble_eq_true rfl) (hb hby at_208) (pc' := 209) rfl
  have Zw46 : n0 ≤ hw46.size := Nat.le_trans Zw45 (Nat.le_of_eq Ww46.size.symm)
  have KKw46 := KKw45.wr Ww46 (Or.inr sz_bw41)
  have V_bw41_w46 : Arv Z hw46 bw41 kw41 .double (8 : Int32) [(.double (FP.i2d w4_v9)), (.double (FP.i2d w4_v17)), (.double (FP.i2d w4_v22)), (.double (FP.i2d w4_v30)), (.double (FP.i2d w4_v36)), (.double 0), (.double 0), (.double 0)] (.double 0) := Vw46
  have Nw46 := Fr.snoc Xw46 Nw45 g_bw41
  obtain ⟨Tw47, hw47, Xw47, ew47, Ww47, Vw47, stw47⟩ := own_stD (L := #[.val (.int p0), .val (.long p1), .second, .val (.long p2), .second, .val (.long p3), .second, .val (.long p4), .second, .val (.int (4 : Int32)), .val (.double (FP.i2d w4_v9)), .second, .val (.double (FP.i2d w4_v17)), .second, .val (.double (FP.i2d w4_v22)), .second, .val (.double (FP.i2d w4_v30)), .second, .val (.double (FP.i2d w4_v36)), .second, .val (.double (FP.i2d w4_v45)), .second, .val (.double (FP.i2d w4_v51)), .second, .val (.double (FP.i2d w4_v60)), .second, .unset, .unset]) (S := [(.ref bw41)]) Xw46 hx hZ ew46 V_bw41_w46 (j := (5 : Int32)) (x := (FP.i2d w4_v45)) (by decide) 5 (by decide) (Nat.le_of_ble_eq_true rfl) (hb hby at_213) (pc' := 214) rfl
  have Zw47 : n0 ≤ hw47.size := Nat.le_trans Zw46 (Nat.le_of_eq Ww47.size.symm)
  have KKw47 := KKw46.wr Ww47 (Or.inr sz_bw41)
  have V_bw41_w47 : Arv Z hw47 bw41 kw41 .double (8 : Int32) [(.double (FP.i2d w4_v9)), (.double (FP.i2d w4_v17)), (.double (FP.i2d w4_v22)), (.double (FP.i2d w4_v30)), (.double (FP.i2d w4_v36)), (.double (FP.i2d w4_v45)), (.double 0), (.double 0)] (.double 0) := Vw47
  have Nw47 := Fr.snoc Xw47 Nw46 g_bw41
  obtain ⟨Tw48, hw48, Xw48, ew48, Ww48, Vw48, stw48⟩ := own_stD (L := #[.val (.int p0), .val (.long p1), .second, .val (.long p2), .second, .val (.long p3), .second, .val (.long p4), .second, .val (.int (4 : Int32)), .val (.double (FP.i2d w4_v9)), .second, .val (.double (FP.i2d w4_v17)), .second, .val (.double (FP.i2d w4_v22)), .second, .val (.double (FP.i2d w4_v30)), .second, .val (.double (FP.i2d w4_v36)), .second, .val (.double (FP.i2d w4_v45)), .second, .val (.double (FP.i2d w4_v51)), .second, .val (.double (FP.i2d w4_v60)), .second, .unset, .unset]) (S := [(.ref bw41)]) Xw47 hx hZ ew47 V_bw41_w47 (j := (6 : Int32)) (x := (FP.i2d w4_v51)) (by decide) 6 (by decide) (Nat.le_of_ble_eq_true rfl) (hb hby at_219) (pc' := 220) rfl
  have Zw48 : n0 ≤ hw48.size := Nat.le_trans Zw47 (Nat.le_of_eq Ww48.size.symm)
  have KKw48 := KKw47.wr Ww48 (Or.inr sz_bw41)
  have V_bw41_w48 : Arv Z hw48 bw41 kw41 .double (8 : Int32) [(.double (FP.i2d w4_v9)), (.double (FP.i2d w4_v17)), (.double (FP.i2d w4_v22)), (.double (FP.i2d w4_v30)), (.double (FP.i2d w4_v36)), (.double (FP.i2d w4_v45)), (.double (FP.i2d w4_v51)), (.double 0)] (.double 0) := Vw48
  have Nw48 := Fr.snoc Xw48 Nw47 g_bw41
  obtain ⟨Tw49, hw49, Xw49, ew49, Ww49, Vw49, stw49⟩ := own_stD (L := #[.val (.int p0), .val (.long p1), .second, .val (.long p2), .second, .val (.long p3), .second, .val (.long p4), .second, .val (.int (4 : Int32)), .val (.double (FP.i2d w4_v9)), .second, .val (.double (FP.i2d w4_v17)), .second, .val (.double (FP.i2d w4_v22)), .second, .val (.double (FP.i2d w4_v30)), .second, .val (.double (FP.i2d w4_v36)), .second, .val (.double (FP.i2d w4_v45)), .second, .val (.double (FP.i2d w4_v51)), .second, .val (.double (FP.i2d w4_v60)), .second, .unset, .unset]) (S := [(.ref bw41)]) Xw48 hx hZ ew48 V_bw41_w48 (j := (7 : Int32)) (x := (FP.i2d w4_v60)) (by decide) 7 (by decide) (Nat.le_of_ble_eq_true rfl) (hb hby at_225) (pc' := 226) rfl
  have Zw49 : n0 ≤ hw49.size := Nat.le_trans Zw48 (Nat.le_of_eq Ww49.size.symm)
  have KKw49 := KKw48.wr Ww49 (Or.inr sz_bw41)
  have V_bw41_w49 : Arv Z hw49 bw41 kw41 .double (8 : Int32) [(.double (FP.i2d w4_v9)), (.double (FP.i2d w4_v17)), (.double (FP.i2d w4_v22)), (.double (FP.i2d w4_v30)), (.double (FP.i2d w4_v36)), (.double (FP.i2d w4_v45)), (.double (FP.i2d w4_v51)), (.double (FP.i2d w4_v60))] (.double 0) := Vw49
  have Nw49 := Fr.snoc Xw49 Nw48 g_bw41
  obtain ⟨_, _, ⟨Tw410, Lw410, kw410, nw410⟩, -, Xw410, ⟨Lcw410, hQw410, lw410, yw410, zw410⟩, stw410⟩ := Jvm.LawKit.callS Xw49 hx (y := (⟨"com/example/hachure/hachure/render/ParallelLines", "reversed", "([D)[D"⟩ : MethodName)) hown (mvT hZ (hw _ (List.mem_of_getElem? (i := 2) rfl))) (mvT hZ (hw _ (List.mem_of_getElem? (i := 3) rfl))) (mvT hZ (hw _ (List.mem_of_getElem? (i := 4) rfl))) (mvT hZ (hw _ (List.mem_of_getElem? (i := 5) rfl))) (by decide) (backOf (W := 0) (own_rm_c4 l Z a0 hw [] bw41 (FP.i2d w4_v9) (FP.i2d w4_v17) (FP.i2d w4_v22) (FP.i2d w4_v30) (FP.i2d w4_v36) (FP.i2d w4_v45) (FP.i2d w4_v51) (FP.i2d w4_v60) hw49 n0 Zw49 V_bw41_w49) hZ (hw _ (List.mem_of_getElem? (i := 5) rfl)) (hw _ (List.mem_of_getElem? (i := 4) rfl)) (by decide) (by decide)) (g := (mkF m 230 #[.val (.int p0), .val (.long p1), .second, .val (.long p2), .second, .val (.long p3), .second, .val (.long p4), .second, .val (.int (4 : Int32)), .val (.double (FP.i2d w4_v9)), .second, .val (.double (FP.i2d w4_v17)), .second, .val (.double (FP.i2d w4_v22)), .second, .val (.double (FP.i2d w4_v30)), .second, .val (.double (FP.i2d w4_v36)), .second, .val (.double (FP.i2d w4_v45)), .second, .val (.double (FP.i2d w4_v51)), .second, .val (.double (FP.i2d w4_v60)), .second, .val (.ref bw41), .unset] [(.ref bw41)])) rfl (by rw [hml]; rfl) (argsL := [(.ref bw41)]) (rest := []) (lenOf own_pd_285bD295bD rfl) rfl (by show 2 * 0 + _ ≤ _; exact Nat.le_of_eq rfl) (hb hby at_230) (fun _ _ => ⟨rfl, ew49, (by decide : 1 + 1 ≤ _), (by decide : 8 + 8 ≤ _)⟩)
  dsimp only [Pt.U, Pt.locs, Pt.cells, Pt.slots] at Xw410 lw410 yw410 zw410 stw410 hQw410
  subst lw410 yw410 zw410
  obtain ⟨bw410, kw410a, rfl, Nw410q, Kw410, Gw410, qw410_0⟩ := hQw410
  have ne_bw41_bw410 : bw41 ≠ bw410 := Nat.ne_of_lt (Nat.lt_of_lt_of_le V_bw41_w49.lt Gw410)
  have ne_bw410_bw41 : bw410 ≠ bw41 := Ne.symm ne_bw41_bw410
  have g_bw410 : n0 ≤ bw410 := Nat.le_trans Zw49 Gw410
  have sz_bw410 : h0.size ≤ bw410 := Nat.le_trans KKw49.1 Gw410
  have V_bw41_w410 := V_bw41_w49.keep Kw410 (List.not_mem_nil)
  have Zw410 : n0 ≤ Tw410.heap.size := Nat.le_trans Zw49 Kw410.1
  have KKw410 := KKw49.trans Kw410 (fun _ q => nomatch q)
  have Nw410 := Fr.app Nw49 Nw410q
  obtain ⟨fs, hr, hrun, hended, hW, hsame⟩ := Xw410.leave (v := some (.int (1 : Int32))) (fun h => by rw [Bd.returns] at h; cases h)
  refine ⟨_, _, pre0 _ ?_, hrun, hended, _, _, rfl, ?_, ⟨_, rfl⟩, hW, hsame.mono (by decide) (by decide)⟩
  · refine own_s_iloadN X0.here hx (hb hby at_0) (pc' := 1) rfl rfl ?_
    refine X0.ldcInt hx hown (mvT hZ (hw _ (List.mem_of_getElem? (i := 0) rfl))) (g := (mkF m 1 #[.val (.int p0), .val (.long p1), .second, .val (.long p2), .second, .val (.long p3), .second, .val (.long p4), .second, .unset, .unset, .unset, .unset, .unset, .unset, .unset, .unset, .unset, .unset, .unset, .unset, .unset, .unset, .unset, .unset, .unset, .unset, .unset] [(.int p0)])) rfl (hb hby at_1) _ ?_
    show Steps p.tables e below (s₁.setTop (mkF m 3 #[.val (.int p0), .val (.long p1), .second, .val (.long p2), .second, .val (.long p3), .second, .val (.long p4), .second, .unset, .unset, .unset, .unset, .unset, .unset, .unset, .unset, .unset, .unset, .unset, .unset, .unset, .unset, .unset, .unset, .unset, .unset, .unset] [(.int (2147483647 : Int32)), (.int p0)])) _
    refine own_s_iand X0.here hx (hb hby at_3) (pc' := 4) rfl (v := w4_v3) w4_hv3 ?_
    refine own_s_iconst X0.here hx (hb hby at_4) (pc' := 5) rfl (v := (5 : Int32)) (by decide) ?_
    refine own_s_irem X0.here hx (hb hby at_5) (pc' := 6) rfl (by decide) (v := (4 : Int32)) w4_hv5 ?_
    refine own_s_istore X0.here hx (hb hby at_6) (pc' := 8) rfl (L' := #[.val (.int p0), .val (.long p1), .second, .val (.long p2), .second, .val (.long p3), .second, .val (.long p4), .second, .val (.int (4 : Int32)), .unset, .unset, .unset, .unset, .unset, .unset, .unset, .unset, .unset, .unset, .unset, .unset, .unset, .unset, .unset, .unset, .unset, .unset]) rfl ?_
    refine own_s_lloadN X0.here hx (hb hby at_8) (pc' := 9) rfl rfl ?_
    refine own_s_l2i X0.here hx (hb hby at_9) (pc' := 10) rfl (v := w4_v9) w4_hv9 ?_
    refine own_s_i2d X0.here hx (hb hby at_10) (pc' := 11) rfl (v := (FP.i2d w4_v9)) rfl ?_
    refine own_s_dstore X0.here hx (hb hby at_11) (pc' := 13) rfl (L' := #[.val (.int p0), .val (.long p1), .second, .val (.long p2), .second, .val (.long p3), .second, .val (.long p4), .second, .val (.int (4 : Int32)), .val (.double (FP.i2d w4_v9)), .second, .unset, .unset, .unset, .unset, .unset, .unset, .unset, .unset, .unset, .unset, .unset, .unset, .unset, .unset, .unset, .unset]) rfl ?_
    refine own_s_lloadN X0.here hx (hb hby at_13) (pc' := 14) rfl rfl ?_
    refine own_s_bipush X0.here hx (hb hby at_14) (pc' := 16) rfl (v := (32 : Int32)) (by decide) ?_
    refine own_s_lshr X0.here hx (hb hby at_16) (pc' := 17) rfl (v := w4_v16) w4_hv16 ?_
    refine own_s_l2i X0.here hx (hb hby at_17) (pc' := 18) rfl (v := w4_v17) w4_hv17 ?_
    refine own_s_i2d X0.here hx (hb hby at_18) (pc' := 19) rfl (v := (FP.i2d w4_v17)) rfl ?_
    refine own_s_dstore X0.here hx (hb hby at_19) (pc' := 21) rfl (L' := #[.val (.int p0), .val (.long p1), .second, .val (.long p2), .second, .val (.long p3), .second, .val (.long p4), .second, .val (.int (4 : Int32)), .val (.double (FP.i2d w4_v9)), .second, .val (.double (FP.i2d w4_v17)), .second, .unset, .unset, .unset, .unset, .unset, .unset, .unset, .unset, .unset, .unset, .unset, .unset, .unset, .unset]) rfl ?_
    refine own_s_lloadN X0.here hx (hb hby at_21) (pc' := 22) rfl rfl ?_
    refine own_s_l2i X0.here hx (hb hby at_22) (pc' := 23) rfl (v := w4_v22) w4_hv22 ?_
    refine own_s_i2d X0.here hx (hb hby at_23) (pc' := 24) rfl (v := (FP.i2d w4_v22)) rfl ?_
    refine own_s_dstore X0.here hx (hb hby at_24) (pc' := 26) rfl (L' := #[.val (.int p0), .val (.long p1), .second, .val (.long p2), .second, .val (.long p3), .second, .val (.long p4), .second, .val (.int (4 : Int32)), .val (.double (FP.i2d w4_v9)), .second, .val (.double (FP.i2d w4_v17)), .second, .val (.double (FP.i2d w4_v22)), .second, .unset, .unset, .unset, .unset, .unset, .unset, .unset, .unset, .unset, .unset, .unset, .unset]) rfl ?_
    refine own_s_lloadN X0.here hx (hb hby at_26) (pc' := 27) rfl rfl ?_
    refine own_s_bipush X0.here hx (hb hby at_27) (pc' := 29) rfl (v := (32 : Int32)) (by decide) ?_
    refine own_s_lshr X0.here hx (hb hby at_29) (pc' := 30) rfl (v := w4_v29) w4_hv29 ?_
    refine own_s_l2i X0.here hx (hb hby at_30) (pc' := 31) rfl (v := w4_v30) w4_hv30 ?_
    refine own_s_i2d X0.here hx (hb hby at_31) (pc' := 32) rfl (v := (FP.i2d w4_v30)) rfl ?_
    refine own_s_dstore X0.here hx (hb hby at_32) (pc' := 34) rfl (L' := #[.val (.int p0), .val (.long p1), .second, .val (.long p2), .second, .val (.long p3), .second, .val (.long p4), .second, .val (.int (4 : Int32)), .val (.double (FP.i2d w4_v9)), .second, .val (.double (FP.i2d w4_v17)), .second, .val (.double (FP.i2d w4_v22)), .second, .val (.double (FP.i2d w4_v30)), .second, .unset, .unset, .unset, .unset, .unset, .unset, .unset, .unset, .unset, .unset]) rfl ?_
    refine own_s_lload X0.here hx (hb hby at_34) (pc' := 36) rfl rfl ?_
    refine own_s_l2i X0.here hx (hb hby at_36) (pc' := 37) rfl (v := w4_v36) w4_hv36 ?_
    refine own_s_i2d X0.here hx (hb hby at_37) (pc' := 38) rfl (v := (FP.i2d w4_v36)) rfl ?_
    refine own_s_dstore X0.here hx (hb hby at_38) (pc' := 40) rfl (L' := #[.val (.int p0), .val (.long p1), .second, .val (.long p2), .second, .val (.long p3), .second, .val (.long p4), .second, .val (.int (4 : Int32)), .val (.double (FP.i2d w4_v9)), .second, .val (.double (FP.i2d w4_v17)), .second, .val (.double (FP.i2d w4_v22)), .second, .val (.double (FP.i2d w4_v30)), .second, .val (.double (FP.i2d w4_v36)), .second, .unset, .unset, .unset, .unset, .unset, .unset, .unset, .unset]) rfl ?_
    refine own_s_lload X0.here hx (hb hby at_40) (pc' := 42) rfl rfl ?_
    refine own_s_bipush X0.here hx (hb hby at_42) (pc' := 44) rfl (v := (32 : Int32)) (by decide) ?_
    refine own_s_lshr X0.here hx (hb hby at_44) (pc' := 45) rfl (v := w4_v44) w4_hv44 ?_
    refine own_s_l2i X0.here hx (hb hby at_45) (pc' := 46) rfl (v := w4_v45) w4_hv45 ?_
    refine own_s_i2d X0.here hx (hb hby at_46) (pc' := 47) rfl (v := (FP.i2d w4_v45)) rfl ?_
    refine own_s_dstore X0.here hx (hb hby at_47) (pc' := 49) rfl (L' := #[.val (.int p0), .val (.long p1), .second, .val (.long p2), .second, .val (.long p3), .second, .val (.long p4), .second, .val (.int (4 : Int32)), .val (.double (FP.i2d w4_v9)), .second, .val (.double (FP.i2d w4_v17)), .second, .val (.double (FP.i2d w4_v22)), .second, .val (.double (FP.i2d w4_v30)), .second, .val (.double (FP.i2d w4_v36)), .second, .val (.double (FP.i2d w4_v45)), .second, .unset, .unset, .unset, .unset, .unset, .unset]) rfl ?_
    refine own_s_lload X0.here hx (hb hby at_49) (pc' := 51) rfl rfl ?_
    refine own_s_l2i X0.here hx (hb hby at_51) (pc' := 52) rfl (v := w4_v51) w4_hv51 ?_
    refine own_s_i2d X0.here hx (hb hby at_52) (pc' := 53) rfl (v := (FP.i2d w4_v51)) rfl ?_
    refine own_s_dstore X0.here hx (hb hby at_53) (pc' := 55) rfl (L' := #[.val (.int p0), .val (.long p1), .second, .val (.long p2), .second, .val (.long p3), .second, .val (.long p4), .second, .val (.int (4 : Int32)), .val (.double (FP.i2d w4_v9)), .second, .val (.double (FP.i2d w4_v17)), .second, .val (.double (FP.i2d w4_v22)), .second, .val (.double (FP.i2d w4_v30)), .second, .val (.double (FP.i2d w4_v36)), .second, .val (.double (FP.i2d w4_v45)), .second, .val (.double (FP.i2d w4_v51)), .second, .unset, .unset, .unset, .unset]) rfl ?_
    refine own_s_lload X0.here hx (hb hby at_55) (pc' := 57) rfl rfl ?_
    refine own_s_bipush X0.here hx (hb hby at_57) (pc' := 59) rfl (v := (32 : Int32)) (by decide) ?_
    refine own_s_lshr X0.here hx (hb hby at_59) (pc' := 60) rfl (v := w4_v59) w4_hv59 ?_
    refine own_s_l2i X0.here hx (hb hby at_60) (pc' := 61) rfl (v := w4_v60) w4_hv60 ?_
    refine own_s_i2d X0.here hx (hb hby at_61) (pc' := 62) rfl (v := (FP.i2d w4_v60)) rfl ?_
    refine own_s_dstore X0.here hx (hb hby at_62) (pc' := 64) rfl (L' := #[.val (.int p0), .val (.long p1), .second, .val (.long p2), .second, .val (.long p3), .second, .val (.long p4), .second, .val (.int (4 : Int32)), .val (.double (FP.i2d w4_v9)), .second, .val (.double (FP.i2d w4_v17)), .second, .val (.double (FP.i2d w4_v22)), .second, .val (.double (FP.i2d w4_v30)), .second, .val (.double (FP.i2d w4_v36)), .second, .val (.double (FP.i2d w4_v45)), .second, .val (.double (FP.i2d w4_v51)), .second, .val (.double (FP.i2d w4_v60)), .second, .unset, .unset]) rfl ?_
    refine own_s_iload X0.here hx (hb hby at_64) (pc' := 66) rfl rfl ?_
    refine own_s_ifYes X0.here hx (hb hby at_66) (by decide) (pc' := 77) (by decide) (by decide) ?_
    refine own_s_iload X0.here hx (hb hby at_77) (pc' := 79) rfl rfl ?_
    refine own_s_iconst X0.here hx (hb hby at_79) (pc' := 80) rfl (v := (1 : Int32)) (by decide) ?_
    refine own_s_icmpYes X0.here hx (hb hby at_80) (by decide) (pc' := 101) (by decide) (by decide) ?_
    refine own_s_iload X0.here hx (hb hby at_101) (pc' := 103) rfl rfl ?_
    refine own_s_iconst X0.here hx (hb hby at_103) (pc' := 104) rfl (v := (2 : Int32)) (by decide) ?_
    refine own_s_icmpYes X0.here hx (hb hby at_104) (by decide) (pc' := 135) (by decide) (by decide) ?_
    refine own_s_iload X0.here hx (hb hby at_135) (pc' := 137) rfl rfl ?_
    refine own_s_iconst X0.here hx (hb hby at_137) (pc' := 138) rfl (v := (3 : Int32)) (by decide) ?_
    refine own_s_icmpYes X0.here hx (hb hby at_138) (by decide) (pc' := 180) (by decide) (by decide) ?_
    refine own_s_bipush X0.here hx (hb hby at_180) (pc' := 182) rfl (v := (8 : Int32)) (by decide) ?_
    refine stw41 _ ?_
    refine own_s_dup Xw41.here hx (hb hby at_184) (pc' := 185) rfl rfl ?_
    refine own_s_iconst Xw41.here hx (hb hby at_185) (pc' := 186) rfl (v := (0 : Int32)) (by decide) ?_
    refine own_s_dload Xw41.here hx (hb hby at_186) (pc' := 188) rfl rfl ?_
    refine stw42 _ ?_
    refine own_s_dup Xw42.here hx (hb hby at_189) (pc' := 190) rfl rfl ?_
    refine own_s_iconst Xw42.here hx (hb hby at_190) (pc' := 191) rfl (v := (1 : Int32)) (by decide) ?_
    refine own_s_dload Xw42.here hx (hb hby at_191) (pc' := 193) rfl rfl ?_
    refine stw43 _ ?_
    refine own_s_dup Xw43.here hx (hb hby at_194) (pc' := 195) rfl rfl ?_
    refine own_s_iconst Xw43.here hx (hb hby at_195) (pc' := 196) rfl (v := (2 : Int32)) (by decide) ?_
    refine own_s_dload Xw43.here hx (hb hby at_196) (pc' := 198) rfl rfl ?_
    refine stw44 _ ?_
    refine own_s_dup Xw44.here hx (hb hby at_199) (pc' := 200) rfl rfl ?_
    refine own_s_iconst Xw44.here hx (hb hby at_200) (pc' := 201) rfl (v := (3 : Int32)) (by decide) ?_
    refine own_s_dload Xw44.here hx (hb hby at_201) (pc' := 203) rfl rfl ?_
    refine stw45 _ ?_
    refine own_s_dup Xw45.here hx (hb hby at_204) (pc' := 205) rfl rfl ?_
    refine own_s_iconst Xw45.here hx (hb hby at_205) (pc' := 206) rfl (v := (4 : Int32)) (by decide) ?_
    refine own_s_dload Xw45.here hx (hb hby at_206) (pc' := 208) rfl rfl ?_
    refine stw46 _ ?_
    refine own_s_dup Xw46.here hx (hb hby at_209) (pc' := 210) rfl rfl ?_
    refine own_s_iconst Xw46.here hx (hb hby at_210) (pc' := 211) rfl (v := (5 : Int32)) (by decide) ?_
    refine own_s_dload Xw46.here hx (hb hby at_211) (pc' := 213) rfl rfl ?_
    refine stw47 _ ?_
    refine own_s_dup Xw47.here hx (hb hby at_214) (pc' := 215) rfl rfl ?_
    refine own_s_bipush Xw47.here hx (hb hby at_215) (pc' := 217) rfl (v := (6 : Int32)) (by decide) ?_
    refine own_s_dload Xw47.here hx (hb hby at_217) (pc' := 219) rfl rfl ?_
    refine stw48 _ ?_
    refine own_s_dup Xw48.here hx (hb hby at_220) (pc' := 221) rfl rfl ?_
    refine own_s_bipush Xw48.here hx (hb hby at_221) (pc' := 223) rfl (v := (7 : Int32)) (by decide) ?_
    refine own_s_dload Xw48.here hx (hb hby at_223) (pc' := 225) rfl rfl ?_
    refine stw49 _ ?_
    refine own_s_astore Xw49.here hx (hb hby at_226) (pc' := 228) rfl rfl (L' := #[.val (.int p0), .val (.long p1), .second, .val (.long p2), .second, .val (.long p3), .second, .val (.long p4), .second, .val (.int (4 : Int32)), .val (.double (FP.i2d w4_v9)), .second, .val (.double (FP.i2d w4_v17)), .second, .val (.double (FP.i2d w4_v22)), .second, .val (.double (FP.i2d w4_v30)), .second, .val (.double (FP.i2d w4_v36)), .second, .val (.double (FP.i2d w4_v45)), .second, .val (.double (FP.i2d w4_v51)), .second, .val (.double (FP.i2d w4_v60)), .second, .val (.ref bw41), .unset]) rfl ?_
    refine own_s_aload Xw49.here hx (hb hby at_228) (pc' := 230) rfl rfl rfl ?_
    refine stw410 _ ?_
    show Steps p.tables e below (Tw410.setTop (mkF m 233 #[.val (.int p0), .val (.long p1), .second, .val (.long p2), .second, .val (.long p3), .second, .val (.long p4), .second, .val (.int (4 : Int32)), .val (.double (FP.i2d w4_v9)), .second, .val (.double (FP.i2d w4_v17)), .second, .val (.double (FP.i2d w4_v22)), .second, .val (.double (FP.i2d w4_v30)), .second, .val (.double (FP.i2d w4_v36)), .second, .val (.double (FP.i2d w4_v45)), .second, .val (.double (FP.i2d w4_v51)), .second, .val (.double (FP.i2d w4_v60)), .second, .val (.ref bw41), .unset] [(.ref bw410)])) _
    refine own_s_astore Xw410.here hx (hb hby at_233) (pc' := 235) rfl rfl (L' := #[.val (.int p0), .val (.long p1), .second, .val (.long p2), .second, .val (.long p3), .second, .val (.long p4), .second, .val (.int (4 : Int32)), .val (.double (FP.i2d w4_v9)), .second, .val (.double (FP.i2d w4_v17)), .second, .val (.double (FP.i2d w4_v22)), .second, .val (.double (FP.i2d w4_v30)), .second, .val (.double (FP.i2d w4_v36)), .second, .val (.double (FP.i2d w4_v45)), .second, .val (.double (FP.i2d w4_v51)), .second, .val (.double (FP.i2d w4_v60)), .second, .val (.ref bw41), .val (.ref bw410)]) rfl ?_
    refine own_s_aload Xw410.here hx (hb hby at_235) (pc' := 237) rfl rfl rfl ?_
    refine own_s_ifnullNo Xw410.here hx (hb hby at_237) (pc' := 240) rfl  ?_
    refine own_s_aload Xw410.here hx (hb hby at_240) (pc' := 242) rfl rfl rfl ?_
    refine own_len Xw410 hx hZ rfl qw410_0 (hb hby at_242) (pc' := 243) rfl ?_
    refine own_s_iconst Xw410.here hx (hb hby at_243) (pc' := 244) rfl (v := (2 : Int32)) (by decide) ?_
    refine own_s_iload Xw410.here hx (hb hby at_244) (pc' := 246) rfl rfl ?_
    refine own_s_imul Xw410.here hx (hb hby at_246) (pc' := 247) rfl (v := (8 : Int32)) (by decide) ?_
    refine own_s_icmpNo Xw410.here hx (hb hby at_247) (pc' := 250) rfl (by decide) ?_
    refine own_s_aload Xw410.here hx (hb hby at_250) (pc' := 252) rfl rfl rfl ?_
    refine own_len Xw410 hx hZ rfl V_bw41_w410 (hb hby at_252) (pc' := 253) rfl ?_
    refine own_s_iconst Xw410.here hx (hb hby at_253) (pc' := 254) rfl (v := (2 : Int32)) (by decide) ?_
    refine own_s_iload Xw410.here hx (hb hby at_254) (pc' := 256) rfl rfl ?_
    refine own_s_imul Xw410.here hx (hb hby at_256) (pc' := 257) rfl (v := (8 : Int32)) (by decide) ?_
    refine own_s_icmpYes Xw410.here hx (hb hby at_257) (by decide) (pc' := 262) (by decide) (by decide) ?_
    refine own_s_iload Xw410.here hx (hb hby at_262) (pc' := 264) rfl rfl ?_
    refine own_s_ifYes Xw410.here hx (hb hby at_264) (by decide) (pc' := 269) (by decide) (by decide) ?_
    refine own_s_iload Xw410.here hx (hb hby at_269) (pc' := 271) rfl rfl ?_
    refine own_s_iconst Xw410.here hx (hb hby at_271) (pc' := 272) rfl (v := (1 : Int32)) (by decide) ?_
    refine own_s_icmpYes Xw410.here hx (hb hby at_272) (by decide) (pc' := 321) (by decide) (by decide) ?_
    refine own_s_iload Xw410.here hx (hb hby at_321) (pc' := 323) rfl rfl ?_
    refine own_s_iconst Xw410.here hx (hb hby at_323) (pc' := 324) rfl (v := (2 : Int32)) (by decide) ?_
    refine own_s_icmpYes Xw410.here hx (hb hby at_324) (by decide) (pc' := 413) (by decide) (by decide) ?_
    refine own_s_iload Xw410.here hx (hb hby at_413) (pc' := 415) rfl rfl ?_
    refine own_s_iconst Xw410.here hx (hb hby at_415) (pc' := 416) rfl (v := (3 : Int32)) (by decide) ?_
    refine own_s_icmpYes Xw410.here hx (hb hby at_416) (by decide) (pc' := 545) (by decide) (by decide) ?_
    refine own_s_aload Xw410.here hx (hb hby at_545) (pc' := 547) rfl rfl rfl ?_
    refine own_s_iconst Xw410.here hx (hb hby at_547) (pc' := 548) rfl (v := (0 : Int32)) (by decide) ?_
    refine own_ldD Xw410 hx hZ rfl qw410_0 (j := (0 : Int32)) (x := (FP.i2d w4_v51)) (by decide) rfl (hb hby at_548) (pc' := 549) rfl ?_
    refine own_s_dload Xw410.here hx (hb hby at_549) (pc' := 551) rfl rfl ?_
    refine own_s_dcmp Xw410.here hx (hb hby at_551) (pc' := 552) rfl (v := (0 : Int32)) w4_hc551 ?_
    refine own_s_ifNo Xw410.here hx (hb hby at_552) (pc' := 555) rfl (by decide) ?_
    refine own_s_aload Xw410.here hx (hb hby at_555) (pc' := 557) rfl rfl rfl ?_
    refine own_s_iconst Xw410.here hx (hb hby at_557) (pc' := 558) rfl (v := (1 : Int32)) (by decide) ?_
    refine own_ldD Xw410 hx hZ rfl qw410_0 (j := (1 : Int32)) (x := (FP.i2d w4_v60)) (by decide) rfl (hb hby at_558) (pc' := 559) rfl ?_
    refine own_s_dload Xw410.here hx (hb hby at_559) (pc' := 561) rfl rfl ?_
    refine own_s_dcmp Xw410.here hx (hb hby at_561) (pc' := 562) rfl (v := (0 : Int32)) w4_hc561 ?_
    refine own_s_ifNo Xw410.here hx (hb hby at_562) (pc' := 565) rfl (by decide) ?_
    refine own_s_aload Xw410.here hx (hb hby at_565) (pc' := 567) rfl rfl rfl ?_
    refine own_s_iconst Xw410.here hx (hb hby at_567) (pc' := 568) rfl (v := (2 : Int32)) (by decide) ?_
    refine own_ldD Xw410 hx hZ rfl qw410_0 (j := (2 : Int32)) (x := (FP.i2d w4_v36)) (by decide) rfl (hb hby at_568) (pc' := 569) rfl ?_
    refine own_s_dload Xw410.here hx (hb hby at_569) (pc' := 571) rfl rfl ?_
    refine own_s_dcmp Xw410.here hx (hb hby at_571) (pc' := 572) rfl (v := (0 : Int32)) w4_hc571 ?_
    refine own_s_ifNo Xw410.here hx (hb hby at_572) (pc' := 575) rfl (by decide) ?_
    refine own_s_aload Xw410.here hx (hb hby at_575) (pc' := 577) rfl rfl rfl ?_
    refine own_s_iconst Xw410.here hx (hb hby at_577) (pc' := 578) rfl (v := (3 : Int32)) (by decide) ?_
    refine own_ldD Xw410 hx hZ rfl qw410_0 (j := (3 : Int32)) (x := (FP.i2d w4_v45)) (by decide) rfl (hb hby at_578) (pc' := 579) rfl ?_
    refine own_s_dload Xw410.here hx (hb hby at_579) (pc' := 581) rfl rfl ?_
    refine own_s_dcmp Xw410.here hx (hb hby at_581) (pc' := 582) rfl (v := (0 : Int32)) w4_hc581 ?_
    refine own_s_ifNo Xw410.here hx (hb hby at_582) (pc' := 585) rfl (by decide) ?_
    refine own_s_aload Xw410.here hx (hb hby at_585) (pc' := 587) rfl rfl rfl ?_
    refine own_s_iconst Xw410.here hx (hb hby at_587) (pc' := 588) rfl (v := (4 : Int32)) (by decide) ?_
    refine own_ldD Xw410 hx hZ rfl qw410_0 (j := (4 : Int32)) (x := (FP.i2d w4_v22)) (by decide) rfl (hb hby at_588) (pc' := 589) rfl ?_
    refine own_s_dload Xw410.here hx (hb hby at_589) (pc' := 591) rfl rfl ?_
    refine own_s_dcmp Xw410.here hx (hb hby at_591) (pc' := 592) rfl (v := (0 : Int32)) w4_hc591 ?_
    refine own_s_ifNo Xw410.here hx (hb hby at_592) (pc' := 595) rfl (by decide) ?_
    refine own_s_aload Xw410.here hx (hb hby at_595) (pc' := 597) rfl rfl rfl ?_
    refine own_s_iconst Xw410.here hx (hb hby at_597) (pc' := 598) rfl (v := (5 : Int32)) (by decide) ?_
    refine own_ldD Xw410 hx hZ rfl qw410_0 (j := (5 : Int32)) (x := (FP.i2d w4_v30)) (by decide) rfl (hb hby at_598) (pc' := 599) rfl ?_
    refine own_s_dload Xw410.here hx (hb hby at_599) (pc' := 601) rfl rfl ?_
    refine own_s_dcmp Xw410.here hx (hb hby at_601) (pc' := 602) rfl (v := (0 : Int32)) w4_hc601 ?_
    refine own_s_ifNo Xw410.here hx (hb hby at_602) (pc' := 605) rfl (by decide) ?_
    refine own_s_aload Xw410.here hx (hb hby at_605) (pc' := 607) rfl rfl rfl ?_
    refine own_s_bipush Xw410.here hx (hb hby at_607) (pc' := 609) rfl (v := (6 : Int32)) (by decide) ?_
    refine own_ldD Xw410 hx hZ rfl qw410_0 (j := (6 : Int32)) (x := (FP.i2d w4_v9)) (by decide) rfl (hb hby at_609) (pc' := 610) rfl ?_
    refine own_s_dload Xw410.here hx (hb hby at_610) (pc' := 612) rfl rfl ?_
    refine own_s_dcmp Xw410.here hx (hb hby at_612) (pc' := 613) rfl (v := (0 : Int32)) w4_hc612 ?_
    refine own_s_ifNo Xw410.here hx (hb hby at_613) (pc' := 616) rfl (by decide) ?_
    refine own_s_aload Xw410.here hx (hb hby at_616) (pc' := 618) rfl rfl rfl ?_
    refine own_s_bipush Xw410.here hx (hb hby at_618) (pc' := 620) rfl (v := (7 : Int32)) (by decide) ?_
    refine own_ldD Xw410 hx hZ rfl qw410_0 (j := (7 : Int32)) (x := (FP.i2d w4_v17)) (by decide) rfl (hb hby at_620) (pc' := 621) rfl ?_
    refine own_s_dload Xw410.here hx (hb hby at_621) (pc' := 623) rfl rfl ?_
    refine own_s_dcmp Xw410.here hx (hb hby at_623) (pc' := 624) rfl (v := (0 : Int32)) w4_hc623 ?_
    refine own_s_ifNo Xw410.here hx (hb hby at_624) (pc' := 627) rfl (by decide) ?_
    refine own_s_aload Xw410.here hx (hb hby at_627) (pc' := 629) rfl rfl rfl ?_
    refine own_s_iconst Xw410.here hx (hb hby at_629) (pc' := 630) rfl (v := (0 : Int32)) (by decide) ?_
    refine own_ldD Xw410 hx hZ rfl V_bw41_w410 (j := (0 : Int32)) (x := (FP.i2d w4_v9)) (by decide) rfl (hb hby at_630) (pc' := 631) rfl ?_
    refine own_s_dload Xw410.here hx (hb hby at_631) (pc' := 633) rfl rfl ?_
    refine own_s_dcmp Xw410.here hx (hb hby at_633) (pc' := 634) rfl (v := (0 : Int32)) w4_hc633 ?_
    refine own_s_ifNo Xw410.here hx (hb hby at_634) (pc' := 637) rfl (by decide) ?_
    refine own_s_aload Xw410.here hx (hb hby at_637) (pc' := 639) rfl rfl rfl ?_
    refine own_s_iconst Xw410.here hx (hb hby at_639) (pc' := 640) rfl (v := (1 : Int32)) (by decide) ?_
    refine own_ldD Xw410 hx hZ rfl V_bw41_w410 (j := (1 : Int32)) (x := (FP.i2d w4_v17)) (by decide) rfl (hb hby at_640) (pc' := 641) rfl ?_
    refine own_s_dload Xw410.here hx (hb hby at_641) (pc' := 643) rfl rfl ?_
    refine own_s_dcmp Xw410.here hx (hb hby at_643) (pc' := 644) rfl (v := (0 : Int32)) w4_hc643 ?_
    refine own_s_ifNo Xw410.here hx (hb hby at_644) (pc' := 647) rfl (by decide) ?_
    refine own_s_aload Xw410.here hx (hb hby at_647) (pc' := 649) rfl rfl rfl ?_
    refine own_s_iconst Xw410.here hx (hb hby at_649) (pc' := 650) rfl (v := (2 : Int32)) (by decide) ?_
    refine own_ldD Xw410 hx hZ rfl V_bw41_w410 (j := (2 : Int32)) (x := (FP.i2d w4_v22)) (by decide) rfl (hb hby at_650) (pc' := 651) rfl ?_
    refine own_s_dload Xw410.here hx (hb hby at_651) (pc' := 653) rfl rfl ?_
    refine own_s_dcmp Xw410.here hx (hb hby at_653) (pc' := 654) rfl (v := (0 : Int32)) w4_hc653 ?_
    refine own_s_ifNo Xw410.here hx (hb hby at_654) (pc' := 657) rfl (by decide) ?_
    refine own_s_aload Xw410.here hx (hb hby at_657) (pc' := 659) rfl rfl rfl ?_
    refine own_s_iconst Xw410.here hx (hb hby at_659) (pc' := 660) rfl (v := (3 : Int32)) (by decide) ?_
    refine own_ldD Xw410 hx hZ rfl V_bw41_w410 (j := (3 : Int32)) (x := (FP.i2d w4_v30)) (by decide) rfl (hb hby at_660) (pc' := 661) rfl ?_
    refine own_s_dload Xw410.here hx (hb hby at_661) (pc' := 663) rfl rfl ?_
    refine own_s_dcmp Xw410.here hx (hb hby at_663) (pc' := 664) rfl (v := (0 : Int32)) w4_hc663 ?_
    refine own_s_ifNo Xw410.here hx (hb hby at_664) (pc' := 667) rfl (by decide) ?_
    refine own_s_aload Xw410.here hx (hb hby at_667) (pc' := 669) rfl rfl rfl ?_
    refine own_s_iconst Xw410.here hx (hb hby at_669) (pc' := 670) rfl (v := (4 : Int32)) (by decide) ?_
    refine own_ldD Xw410 hx hZ rfl V_bw41_w410 (j := (4 : Int32)) (x := (FP.i2d w4_v36)) (by decide) rfl (hb hby at_670) (pc' := 671) rfl ?_
    refine own_s_dload Xw410.here hx (hb hby at_671) (pc' := 673) rfl rfl ?_
    refine own_s_dcmp Xw410.here hx (hb hby at_673) (pc' := 674) rfl (v := (0 : Int32)) w4_hc673 ?_
    refine own_s_ifNo Xw410.here hx (hb hby at_674) (pc' := 677) rfl (by decide) ?_
    refine own_s_aload Xw410.here hx (hb hby at_677) (pc' := 679) rfl rfl rfl ?_
    refine own_s_iconst Xw410.here hx (hb hby at_679) (pc' := 680) rfl (v := (5 : Int32)) (by decide) ?_
    refine own_ldD Xw410 hx hZ rfl V_bw41_w410 (j := (5 : Int32)) (x := (FP.i2d w4_v45)) (by decide) rfl (hb hby at_680) (pc' := 681) rfl ?_
    refine own_s_dload Xw410.here hx (hb hby at_681) (pc' := 683) rfl rfl ?_
    refine own_s_dcmp Xw410.here hx (hb hby at_683) (pc' := 684) rfl (v := (0 : Int32)) w4_hc683 ?_
    refine own_s_ifNo Xw410.here hx (hb hby at_684) (pc' := 687) rfl (by decide) ?_
    refine own_s_aload Xw410.here hx (hb hby at_687) (pc' := 689) rfl rfl rfl ?_
    refine own_s_bipush Xw410.here hx (hb hby at_689) (pc' := 691) rfl (v := (6 : Int32)) (by decide) ?_
    refine own_ldD Xw410 hx hZ rfl V_bw41_w410 (j := (6 : Int32)) (x := (FP.i2d w4_v51)) (by decide) rfl (hb hby at_691) (pc' := 692) rfl ?_
    refine own_s_dload Xw410.here hx (hb hby at_692) (pc' := 694) rfl rfl ?_
    refine own_s_dcmp Xw410.here hx (hb hby at_694) (pc' := 695) rfl (v := (0 : Int32)) w4_hc694 ?_
    refine own_s_ifNo Xw410.here hx (hb hby at_695) (pc' := 698) rfl (by decide) ?_
    refine own_s_aload Xw410.here hx (hb hby at_698) (pc' := 700) rfl rfl rfl ?_
    refine own_s_bipush Xw410.here hx (hb hby at_700) (pc' := 702) rfl (v := (7 : Int32)) (by decide) ?_
    refine own_ldD Xw410 hx hZ rfl V_bw41_w410 (j := (7 : Int32)) (x := (FP.i2d w4_v60)) (by decide) rfl (hb hby at_702) (pc' := 703) rfl ?_
    refine own_s_dload Xw410.here hx (hb hby at_703) (pc' := 705) rfl rfl ?_
    refine own_s_dcmp Xw410.here hx (hb hby at_705) (pc' := 706) rfl (v := (0 : Int32)) w4_hc705 ?_
    refine own_s_ifNo Xw410.here hx (hb hby at_706) (pc' := 709) rfl (by decide) ?_
    refine own_s_iconst Xw410.here hx (hb hby at_709) (pc' := 710) rfl (v := (1 : Int32)) (by decide) ?_
    refine own_s_goto Xw410.here hx (hb hby at_710) (by decide) (pc' := 714) (by decide) ?_
    exact retN Xw410 hx (t := .boolean) Bd.returns (by simp) (hb hby at_714) hr
  · show own_Q0 n0 _ Tw410.heap _
    exact ⟨rfl, Nw410⟩
set_option maxRecDepth 65536 in
set_option maxHeartbeats 40000000 in
theorem own_rm0 (l : Launch) (Z : State) (a0 : Array Value) (hw : ∀ d ∈ tables_1, d.before a0 Z = true) (ws : List Jvm.Cond) (p0 : Int32) (p1 : Int64) (p2 : Int64) (p3 : Int64) (p4 : Int64) (h0 : Heap) (n0 : Nat) (Z0 : n0 ≤ h0.size)  :
    MetFree l x (head1 (Jvm.Cond.code x code maxLocals ret :: ws) room_1) (fun a U => a = #[(.int p0), (.long p1), (.long p2), (.long p3), (.long p4)] ∧ Z.Warmed39 U.vm ∧ U.heap = h0) (fun _ _ _ _ _ => True) (fun _ U o U' => ∃ v L, o = .returned v ∧ own_Q0 n0 v U'.heap L ∧ FrameEnd U o U' L room_1.cells room_1.slots) := by
  obtain ⟨v3, hv3⟩ : ∃ v, p0 &&& 2147483647 = v := ⟨_, rfl⟩
  rcases own_modN p0 v3 hv3 with hn | hn | hn | hn | hn
  · obtain ⟨v9, hv9⟩ : ∃ v, Int64.toInt32 p1 = v := ⟨_, rfl⟩
    obtain ⟨v16, hv16⟩ : ∃ v, p1 >>> ((32 : Int32) &&& 63).toInt64 = v := ⟨_, rfl⟩
    obtain ⟨v17, hv17⟩ : ∃ v, Int64.toInt32 v16 = v := ⟨_, rfl⟩
    obtain ⟨v22, hv22⟩ : ∃ v, Int64.toInt32 p2 = v := ⟨_, rfl⟩
    obtain ⟨v29, hv29⟩ : ∃ v, p2 >>> ((32 : Int32) &&& 63).toInt64 = v := ⟨_, rfl⟩
    obtain ⟨v30, hv30⟩ : ∃ v, Int64.toInt32 v29 = v := ⟨_, rfl⟩
    obtain ⟨v36, hv36⟩ : ∃ v, Int64.toInt32 p3 = v := ⟨_, rfl⟩
    obtain ⟨v44, hv44⟩ : ∃ v, p3 >>> ((32 : Int32) &&& 63).toInt64 = v := ⟨_, rfl⟩
    obtain ⟨v45, hv45⟩ : ∃ v, Int64.toInt32 v44 = v := ⟨_, rfl⟩
    obtain ⟨v51, hv51⟩ : ∃ v, Int64.toInt32 p4 = v := ⟨_, rfl⟩
    obtain ⟨v59, hv59⟩ : ∃ v, p4 >>> ((32 : Int32) &&& 63).toInt64 = v := ⟨_, rfl⟩
    obtain ⟨v60, hv60⟩ : ∃ v, Int64.toInt32 v59 = v := ⟨_, rfl⟩
    exact own_rm_w0 l Z a0 hw ws p0 p1 p2 p3 p4 h0 n0 Z0 (w0_hv3 := hv3) (w0_hv5 := hn) (w0_hv9 := hv9) (w0_hv16 := hv16) (w0_hv17 := hv17) (w0_hv22 := hv22) (w0_hv29 := hv29) (w0_hv30 := hv30) (w0_hv36 := hv36) (w0_hv44 := hv44) (w0_hv45 := hv45) (w0_hv51 := hv51) (w0_hv59 := hv59) (w0_hv60 := hv60)
  · obtain ⟨v9, hv9⟩ : ∃ v, Int64.toInt32 p1 = v := ⟨_, rfl⟩
    obtain ⟨v16, hv16⟩ : ∃ v, p1 >>> ((32 : Int32) &&& 63).toInt64 = v := ⟨_, rfl⟩
    obtain ⟨v17, hv17⟩ : ∃ v, Int64.toInt32 v16 = v := ⟨_, rfl⟩
    obtain ⟨v22, hv22⟩ : ∃ v, Int64.toInt32 p2 = v := ⟨_, rfl⟩
    obtain ⟨v29, hv29⟩ : ∃ v, p2 >>> ((32 : Int32) &&& 63).toInt64 = v := ⟨_, rfl⟩
    obtain ⟨v30, hv30⟩ : ∃ v, Int64.toInt32 v29 = v := ⟨_, rfl⟩
    obtain ⟨v36, hv36⟩ : ∃ v, Int64.toInt32 p3 = v := ⟨_, rfl⟩
    obtain ⟨v44, hv44⟩ : ∃ v, p3 >>> ((32 : Int32) &&& 63).toInt64 = v := ⟨_, rfl⟩
    obtain ⟨v45, hv45⟩ : ∃ v, Int64.toInt32 v44 = v := ⟨_, rfl⟩
    obtain ⟨v51, hv51⟩ : ∃ v, Int64.toInt32 p4 = v := ⟨_, rfl⟩
    obtain ⟨v59, hv59⟩ : ∃ v, p4 >>> ((32 : Int32) &&& 63).toInt64 = v := ⟨_, rfl⟩
    obtain ⟨v60, hv60⟩ : ∃ v, Int64.toInt32 v59 = v := ⟨_, rfl⟩
    exact own_rm_w1 l Z a0 hw ws p0 p1 p2 p3 p4 h0 n0 Z0 (w1_hv3 := hv3) (w1_hv5 := hn) (w1_hv9 := hv9) (w1_hv16 := hv16) (w1_hv17 := hv17) (w1_hv22 := hv22) (w1_hv29 := hv29) (w1_hv30 := hv30) (w1_hv36 := hv36) (w1_hv44 := hv44) (w1_hv45 := hv45) (w1_hv51 := hv51) (w1_hv59 := hv59) (w1_hv60 := hv60) (w1_hc281 := (own_eq0 (own_i2d _) (own_i2d _) rfl _)) (w1_hc291 := (own_eq0 (own_i2d _) (own_i2d _) rfl _)) (w1_hc301 := (own_eq0 (own_i2d _) (own_i2d _) rfl _)) (w1_hc311 := (own_eq0 (own_i2d _) (own_i2d _) rfl _))
  · obtain ⟨v9, hv9⟩ : ∃ v, Int64.toInt32 p1 = v := ⟨_, rfl⟩
    obtain ⟨v16, hv16⟩ : ∃ v, p1 >>> ((32 : Int32) &&& 63).toInt64 = v := ⟨_, rfl⟩
    obtain ⟨v17, hv17⟩ : ∃ v, Int64.toInt32 v16 = v := ⟨_, rfl⟩
    obtain ⟨v22, hv22⟩ : ∃ v, Int64.toInt32 p2 = v := ⟨_, rfl⟩
    obtain ⟨v29, hv29⟩ : ∃ v, p2 >>> ((32 : Int32) &&& 63).toInt64 = v := ⟨_, rfl⟩
    obtain ⟨v30, hv30⟩ : ∃ v, Int64.toInt32 v29 = v := ⟨_, rfl⟩
    obtain ⟨v36, hv36⟩ : ∃ v, Int64.toInt32 p3 = v := ⟨_, rfl⟩
    obtain ⟨v44, hv44⟩ : ∃ v, p3 >>> ((32 : Int32) &&& 63).toInt64 = v := ⟨_, rfl⟩
    obtain ⟨v45, hv45⟩ : ∃ v, Int64.toInt32 v44 = v := ⟨_, rfl⟩
    obtain ⟨v51, hv51⟩ : ∃ v, Int64.toInt32 p4 = v := ⟨_, rfl⟩
    obtain ⟨v59, hv59⟩ : ∃ v, p4 >>> ((32 : Int32) &&& 63).toInt64 = v := ⟨_, rfl⟩
    obtain ⟨v60, hv60⟩ : ∃ v, Int64.toInt32 v59 = v := ⟨_, rfl⟩
    exact own_rm_w2 l Z a0 hw ws p0 p1 p2 p3 p4 h0 n0 Z0 (w2_hv3 := hv3) (w2_hv5 := hn) (w2_hv9 := hv9) (w2_hv16 := hv16) (w2_hv17 := hv17) (w2_hv22 := hv22) (w2_hv29 := hv29) (w2_hv30 := hv30) (w2_hv36 := hv36) (w2_hv44 := hv44) (w2_hv45 := hv45) (w2_hv51 := hv51) (w2_hv59 := hv59) (w2_hv60 := hv60) (w2_hc333 := (own_eq0 (own_i2d _) (own_i2d _) rfl _)) (w2_hc343 := (own_eq0 (own_i2d _) (own_i2d _) rfl _)) (w2_hc353 := (own_eq0 (own_i2d _) (own_i2d _) rfl _)) (w2_hc363 := (own_eq0 (own_i2d _) (own_i2d _) rfl _)) (w2_hc373 := (own_eq0 (own_i2d _) (own_i2d _) rfl _)) (w2_hc383 := (own_eq0 (own_i2d _) (own_i2d _) rfl _)) (w2_hc393 := (own_eq0 (own_i2d _) (own_i2d _) rfl _)) (w2_hc403 := (own_eq0 (own_i2d _) (own_i2d _) rfl _))
  · obtain ⟨v9, hv9⟩ : ∃ v, Int64.toInt32 p1 = v := ⟨_, rfl⟩
    obtain ⟨v16, hv16⟩ : ∃ v, p1 >>> ((32 : Int32) &&& 63).toInt64 = v := ⟨_, rfl⟩
    obtain ⟨v17, hv17⟩ : ∃ v, Int64.toInt32 v16 = v := ⟨_, rfl⟩
    obtain ⟨v22, hv22⟩ : ∃ v, Int64.toInt32 p2 = v := ⟨_, rfl⟩
    obtain ⟨v29, hv29⟩ : ∃ v, p2 >>> ((32 : Int32) &&& 63).toInt64 = v := ⟨_, rfl⟩
    obtain ⟨v30, hv30⟩ : ∃ v, Int64.toInt32 v29 = v := ⟨_, rfl⟩
    obtain ⟨v36, hv36⟩ : ∃ v, Int64.toInt32 p3 = v := ⟨_, rfl⟩
    obtain ⟨v44, hv44⟩ : ∃ v, p3 >>> ((32 : Int32) &&& 63).toInt64 = v := ⟨_, rfl⟩
    obtain ⟨v45, hv45⟩ : ∃ v, Int64.toInt32 v44 = v := ⟨_, rfl⟩
    obtain ⟨v51, hv51⟩ : ∃ v, Int64.toInt32 p4 = v := ⟨_, rfl⟩
    obtain ⟨v59, hv59⟩ : ∃ v, p4 >>> ((32 : Int32) &&& 63).toInt64 = v := ⟨_, rfl⟩
    obtain ⟨v60, hv60⟩ : ∃ v, Int64.toInt32 v59 = v := ⟨_, rfl⟩
    exact own_rm_w3 l Z a0 hw ws p0 p1 p2 p3 p4 h0 n0 Z0 (w3_hv3 := hv3) (w3_hv5 := hn) (w3_hv9 := hv9) (w3_hv16 := hv16) (w3_hv17 := hv17) (w3_hv22 := hv22) (w3_hv29 := hv29) (w3_hv30 := hv30) (w3_hv36 := hv36) (w3_hv44 := hv44) (w3_hv45 := hv45) (w3_hv51 := hv51) (w3_hv59 := hv59) (w3_hv60 := hv60) (w3_hc425 := (own_eq0 (own_i2d _) (own_i2d _) rfl _)) (w3_hc435 := (own_eq0 (own_i2d _) (own_i2d _) rfl _)) (w3_hc445 := (own_eq0 (own_i2d _) (own_i2d _) rfl _)) (w3_hc455 := (own_eq0 (own_i2d _) (own_i2d _) rfl _)) (w3_hc465 := (own_eq0 (own_i2d _) (own_i2d _) rfl _)) (w3_hc475 := (own_eq0 (own_i2d _) (own_i2d _) rfl _)) (w3_hc485 := (own_eq0 (own_i2d _) (own_i2d _) rfl _)) (w3_hc495 := (own_eq0 (own_i2d _) (own_i2d _) rfl _)) (w3_hc505 := (own_eq0 (own_i2d _) (own_i2d _) rfl _)) (w3_hc515 := (own_eq0 (own_i2d _) (own_i2d _) rfl _)) (w3_hc525 := (own_eq0 (own_i2d _) (own_i2d _) rfl _)) (w3_hc535 := (own_eq0 (own_i2d _) (own_i2d _) rfl _))
  · obtain ⟨v9, hv9⟩ : ∃ v, Int64.toInt32 p1 = v := ⟨_, rfl⟩
    obtain ⟨v16, hv16⟩ : ∃ v, p1 >>> ((32 : Int32) &&& 63).toInt64 = v := ⟨_, rfl⟩
    obtain ⟨v17, hv17⟩ : ∃ v, Int64.toInt32 v16 = v := ⟨_, rfl⟩
    obtain ⟨v22, hv22⟩ : ∃ v, Int64.toInt32 p2 = v := ⟨_, rfl⟩
    obtain ⟨v29, hv29⟩ : ∃ v, p2 >>> ((32 : Int32) &&& 63).toInt64 = v := ⟨_, rfl⟩
    obtain ⟨v30, hv30⟩ : ∃ v, Int64.toInt32 v29 = v := ⟨_, rfl⟩
    obtain ⟨v36, hv36⟩ : ∃ v, Int64.toInt32 p3 = v := ⟨_, rfl⟩
    obtain ⟨v44, hv44⟩ : ∃ v, p3 >>> ((32 : Int32) &&& 63).toInt64 = v := ⟨_, rfl⟩
    obtain ⟨v45, hv45⟩ : ∃ v, Int64.toInt32 v44 = v := ⟨_, rfl⟩
    obtain ⟨v51, hv51⟩ : ∃ v, Int64.toInt32 p4 = v := ⟨_, rfl⟩
    obtain ⟨v59, hv59⟩ : ∃ v, p4 >>> ((32 : Int32) &&& 63).toInt64 = v := ⟨_, rfl⟩
    obtain ⟨v60, hv60⟩ : ∃ v, Int64.toInt32 v59 = v := ⟨_, rfl⟩
    exact own_rm_w4 l Z a0 hw ws p0 p1 p2 p3 p4 h0 n0 Z0 (w4_hv3 := hv3) (w4_hv5 := hn) (w4_hv9 := hv9) (w4_hv16 := hv16) (w4_hv17 := hv17) (w4_hv22 := hv22) (w4_hv29 := hv29) (w4_hv30 := hv30) (w4_hv36 := hv36) (w4_hv44 := hv44) (w4_hv45 := hv45) (w4_hv51 := hv51) (w4_hv59 := hv59) (w4_hv60 := hv60) (w4_hc551 := (own_eq0 (own_i2d _) (own_i2d _) rfl _)) (w4_hc561 := (own_eq0 (own_i2d _) (own_i2d _) rfl _)) (w4_hc571 := (own_eq0 (own_i2d _) (own_i2d _) rfl _)) (w4_hc581 := (own_eq0 (own_i2d _) (own_i2d _) rfl _)) (w4_hc591 := (own_eq0 (own_i2d _) (own_i2d _) rfl _)) (w4_hc601 := (own_eq0 (own_i2d _) (own_i2d _) rfl _)) (w4_hc612 := (own_eq0 (own_i2d _) (own_i2d _) rfl _)) (w4_hc623 := (own_eq0 (own_i2d _) (own_i2d _) rfl _)) (w4_hc633 := (own_eq0 (own_i2d _) (own_i2d _) rfl _)) (w4_hc643 := (own_eq0 (own_i2d _) (own_i2d _) rfl _)) (w4_hc653 := (own_eq0 (own_i2d _) (own_i2d _) rfl _)) (w4_hc663 := (own_eq0 (own_i2d _) (own_i2d _) rfl _)) (w4_hc673 := (own_eq0 (own_i2d _) (own_i2d _) rfl _)) (w4_hc683 := (own_eq0 (own_i2d _) (own_i2d _) rfl _)) (w4_hc694 := (own_eq0 (own_i2d _) (own_i2d _) rfl _)) (w4_hc705 := (own_eq0 (own_i2d _) (own_i2d _) rfl _))
set_option maxRecDepth 65536 in
set_option maxHeartbeats 40000000 in
theorem comes_1 {Post : Tables → Env → Array Value → State → Outcome → State → Prop} (hpost : ∀ tb e args s v u, (limb_1_1.after args s (.returned v) u = true ∧ limb_1_2.after args s (.returned v) u = true ∧ True) → FrameEnd s (.returned v) u (Jvm.fieldLocs frame_1_writes args s ++ Jvm.arrayLocs frame_1_arrays args s ++ Jvm.staticLocs frame_1_statics s) 16 128 → Post tb e args s (.returned v) u) :
    ArmFor flags0 classFile x code maxLocals ret World_1 tables_1 room_1 Calls_1 rest_1 Pre_1 Post := by
  intro l hfl _ _ p e ha hc hk s m args below hf hA hF happ hP
  obtain ⟨hcalls, hrest, hpre⟩ := hP
  obtain ⟨-, -, -, hnamed, -, -, -, hat⟩ := (Spec.applies_iff hf).mp happ
  obtain ⟨hg, hn⟩ := and_e (Cond.before_iff.mp (show (Jvm.Cond.and given_1 narrow_1).before args s = true from hpre))
  obtain ⟨hcount, g0⟩ := and_e hg
  obtain ⟨a0, g1⟩ := and_e g0
  obtain ⟨a1, g2⟩ := and_e g1
  obtain ⟨a2, g3⟩ := and_e g2
  obtain ⟨a3, g4⟩ := and_e g3
  have a4 := g4
  obtain ⟨w0, w1, w2, w3, w4, rfl⟩ : ∃ w0 w1 w2 w3 w4 : Value, args = #[w0, w1, w2, w3, w4] := by
    have hs : args.size = 5 := by simpa [Cond.value, given_1] using hcount
    obtain ⟨L⟩ := args
    match L, hs with
    | [w0, w1, w2, w3, w4], _ => exact ⟨w0, w1, w2, w3, w4, rfl⟩
  have hw := fun d (hd : d ∈ tables_1) => atoms_spec (ws := Jvm.Cond.code x code maxLocals ret :: tables_1) hat d (List.mem_cons_of_mem _ hd)
  obtain ⟨i0, ei0⟩ := is_v a0
  obtain rfl : w0 = (.int i0) := Option.some.inj ei0
  obtain ⟨i1, ei1⟩ := isL_v a1
  obtain rfl : w1 = (.long i1) := Option.some.inj ei1
  obtain ⟨i2, ei2⟩ := isL_v a2
  obtain rfl : w2 = (.long i2) := Option.some.inj ei2
  obtain ⟨i3, ei3⟩ := isL_v a3
  obtain rfl : w3 = (.long i3) := Option.some.inj ei3
  obtain ⟨i4, ei4⟩ := isL_v a4
  obtain rfl : w4 = (.long i4) := Option.some.inj ei4
  obtain ⟨n, o, h1, h2, h3, _, L, rfl, ⟨rfl, N⟩, hq⟩ := own_rm0 l s _ hw tables_1 i0 i1 i2 i3 i4 s.heap s.heap.size (Nat.le_refl _)  p e ha hc hk s m _ below hf ((Spec.applies_iff_loose hf).mp happ).1 ⟨rfl, State.Warmed39.refl s, rfl⟩ trivial
  refine ⟨n, _, h1, h2, h3, hpost _ _ _ _ _ _ ⟨Cond.after_iff.mpr rfl, Cond.after_iff.mpr (eq_i res_at (Term.int_eval (1)) rfl), trivial⟩ ⟨hq.1, hq.2.1, (hq.2.2.sift fun y hy => Or.inr (N y hy)).mono (by decide) (by decide)⟩⟩
theorem main_1_1 : Claimed_1_1 := comes_1 fun _ _ _ _ _ _ h hF => ⟨h.1, hF⟩
theorem main_1_2 : Claimed_1_2 := comes_1 fun _ _ _ _ _ _ h hF => ⟨h.2.1, hF⟩
end Jvm.Pilot.@@N@@
namespace Jvm.Pilot.@@N@@
open Jvm Jvm.ClassFile Sem Op Lib Jvm.Free Jvm.Stand Jvm.Pilot.@@N@@.Jvm.D
/-! MADE BY PROGRAM (witnessworld.py) out of the Statement's table words and the real class files: 9 classes; the members and pool entries that the words name. The judged class is class 1, her method 1. -/
namespace start1
open Jvm.ClassFile
def u (s : String) : CpInfo := .utf8 (stringToUtf16 s)
/-- a pool by its gaps: so many unusable entries, then the entry; so many at the end -/
def gap : Nat → List CpInfo → List CpInfo
  | 0, r => r
  | n + 1, r => .unusable :: gap n r
def poolList (es : List (Nat × CpInfo)) (last : Nat) : List CpInfo := es.foldr (fun e r => gap e.1 (e.2 :: r)) (gap last [])
def pool (es : List (Nat × CpInfo)) (last : Nat) : Array CpInfo := ⟨poolList es last⟩
def fileOf (pool : Array CpInfo) (this : Nat) (attrs : Array Attribute := #[]) (ms : Array MethodInfo := #[]) (fl : Nat := 33) (sup : Nat := 0) (ifs : Array Nat := #[]) (fds : Array FieldInfo := #[]) : ClassFile where
  minorVersion := 0
  majorVersion := 65
  constantPool := pool
  accessFlags := fl
  thisClass := this
  superClass := sup
  interfaces := ifs
  fields := fds
  methods := ms
  attributes := attrs
def plain (name : String) (sup : Option ClassId) : Class where
  name := name
  kind := .ordinary
  loader := none
  accessFlags := 33
  super := sup
  interfaces := #[]
  cf := none
  fields := #[]
  methods := #[]
  instanceTypes := #[]
  staticTypes := #[]
  resolved := #[]
  callSites := []
  init := .initialized
  statics := none
  mirror := none

def pool0 : Array CpInfo := pool [(5, u "<init>"), (0, u "()V"), (1, .class_ 10), (1, u "java/lang/Object")] 113

def k0m0 : Method := { name := "<init>", desc := "()V", sig := { parameters := [], returnType := none }, accessFlags := 1, code := none }
/-- java/lang/Object -/
def k0 : Class := { plain "java/lang/Object" none with
  accessFlags := 33
  interfaces := #[]
  cf := some (fileOf pool0 8 #[] #[{ accessFlags := 1, nameIndex := 5, descriptorIndex := 6, attributes := #[] }] 33 0 #[] #[])
  fields := #[]
  methods := #[k0m0]
  instanceTypes := #[]
  staticTypes := #[]
  resolved := Array.replicate 124 none
  statics := none }

def pool1 : Array CpInfo := pool [(2, .class_ 4), (1, u "java/lang/Object"), (0, u "<init>"), (0, u "()V"), (0, .integer 2147483647), (0, .methodref 9 10), (0, .class_ 11), (0, .nameAndType 12 13), (0, u "com/example/hachure/hachure/render/ParallelLines"), (0, u "reversed"), (0, u "([D)[D"), (0, .class_ 15), (0, u "com/example/hachure/hachure/render/ParallelLinesReversedPinLaw"), (2, u "law"), (0, u "(IJJJJ)Z")] 5

def k1m0 : Method := { name := "<init>", desc := "()V", sig := { parameters := [], returnType := none }, accessFlags := 2, code := none }
def k1c1 : Code := { maxStack := 5, maxLocals := 28, code := code, exceptionTable := #[], attributes := #[] }
def k1m1 : Method := { name := "law", desc := "(IJJJJ)Z", sig := { parameters := [.int, .long, .long, .long, .long], returnType := some .boolean }, accessFlags := 9, code := some k1c1 }
/-- com/example/hachure/hachure/render/ParallelLinesReversedPinLaw -/
def k1 : Class := { plain "com/example/hachure/hachure/render/ParallelLinesReversedPinLaw" (some 0) with
  accessFlags := 49
  interfaces := #[]
  cf := some (fileOf pool1 14 #[] #[{ accessFlags := 2, nameIndex := 5, descriptorIndex := 6, attributes := #[] }, { accessFlags := 9, nameIndex := 18, descriptorIndex := 19, attributes := #[] }] 49 2 #[] #[])
  fields := #[]
  methods := #[k1m0, k1m1]
  instanceTypes := #[]
  staticTypes := #[]
  resolved := Array.replicate 25 none
  statics := none }

def pool2 : Array CpInfo := pool [(2, .class_ 4), (1, u "java/lang/Object"), (3, .class_ 10), (1, u "com/example/hachure/hachure/render/ParallelLines"), (0, u "closed"), (0, u "Z"), (2, u "distance"), (0, u "D"), (2, u "window"), (0, u "Ljava/awt/geom/Rectangle2D;"), (2, u "count"), (0, u "I"), (2, u "x"), (0, u "[D"), (2, u "y"), (2, u "xEnd"), (2, u "yEnd"), (2, u "dx"), (2, u "dy"), (2, u "length"), (85, u "reversed"), (0, u "([D)[D"), (33, .class_ 168), (0, u "com/example/hachure/hachure/render/ParallelLines$Piece"), (22, .class_ 193), (1, u "com/example/hachure/hachure/render/ParallelLines$Joint"), (12, .class_ 208), (1, u "com/example/hachure/hachure/render/ParallelLines$Join"), (96, u "SHORTEST"), (1, u "FARTHEST")] 25

def k2c0 : Code := { maxStack := 5, maxLocals := 3, code := prog_112_method_11_code, exceptionTable := #[], attributes := #[] }
def k2m0 : Method := { name := "reversed", desc := "([D)[D", sig := { parameters := [(.array .double)], returnType := some (.array .double) }, accessFlags := 8, code := some k2c0 }
/-- com/example/hachure/hachure/render/ParallelLines -/
def k2 : Class := { plain "com/example/hachure/hachure/render/ParallelLines" (some 0) with
  accessFlags := 48
  interfaces := #[]
  cf := some (fileOf pool2 8 #[.nestMembers #[206, 167, 191]] #[{ accessFlags := 8, nameIndex := 132, descriptorIndex := 133, attributes := #[] }] 48 2 #[] #[{ accessFlags := 26, nameIndex := 305, descriptorIndex := 16, attributes := #[] }, { accessFlags := 26, nameIndex := 307, descriptorIndex := 16, attributes := #[] }, { accessFlags := 18, nameIndex := 11, descriptorIndex := 12, attributes := #[] }, { accessFlags := 18, nameIndex := 15, descriptorIndex := 16, attributes := #[] }, { accessFlags := 18, nameIndex := 19, descriptorIndex := 20, attributes := #[] }, { accessFlags := 18, nameIndex := 23, descriptorIndex := 24, attributes := #[] }, { accessFlags := 18, nameIndex := 27, descriptorIndex := 28, attributes := #[] }, { accessFlags := 18, nameIndex := 31, descriptorIndex := 28, attributes := #[] }, { accessFlags := 18, nameIndex := 34, descriptorIndex := 28, attributes := #[] }, { accessFlags := 18, nameIndex := 37, descriptorIndex := 28, attributes := #[] }, { accessFlags := 18, nameIndex := 40, descriptorIndex := 28, attributes := #[] }, { accessFlags := 18, nameIndex := 43, descriptorIndex := 28, attributes := #[] }, { accessFlags := 18, nameIndex := 46, descriptorIndex := 28, attributes := #[] }])
  fields := #[{ name := "SHORTEST", type := .double, accessFlags := 26, slot := 0, constantValue := 0 }, { name := "FARTHEST", type := .double, accessFlags := 26, slot := 1, constantValue := 0 }, { name := "closed", type := .boolean, accessFlags := 18, slot := 0, constantValue := 0 }, { name := "distance", type := .double, accessFlags := 18, slot := 1, constantValue := 0 }, { name := "window", type := (.object "java/awt/geom/Rectangle2D"), accessFlags := 18, slot := 2, constantValue := 0 }, { name := "count", type := .int, accessFlags := 18, slot := 3, constantValue := 0 }, { name := "x", type := (.array .double), accessFlags := 18, slot := 4, constantValue := 0 }, { name := "y", type := (.array .double), accessFlags := 18, slot := 5, constantValue := 0 }, { name := "xEnd", type := (.array .double), accessFlags := 18, slot := 6, constantValue := 0 }, { name := "yEnd", type := (.array .double), accessFlags := 18, slot := 7, constantValue := 0 }, { name := "dx", type := (.array .double), accessFlags := 18, slot := 8, constantValue := 0 }, { name := "dy", type := (.array .double), accessFlags := 18, slot := 9, constantValue := 0 }, { name := "length", type := (.array .double), accessFlags := 18, slot := 10, constantValue := 0 }]
  methods := #[k2m0]
  instanceTypes := #[.boolean, .double, (.object "java/awt/geom/Rectangle2D"), .int, (.array .double), (.array .double), (.array .double), (.array .double), (.array .double), (.array .double), (.array .double)]
  staticTypes := #[.double, .double]
  resolved := Array.replicate 333 none
  statics := none }

def pool3 : Array CpInfo := pool [(1, u "java/lang/Cloneable"), (0, .class_ 1), (0, u "java/lang/Object"), (0, .class_ 3)] 3

/-- java/lang/Cloneable -/
def k3 : Class := { plain "java/lang/Cloneable" (some 0) with
  accessFlags := 1537
  interfaces := #[]
  cf := some (fileOf pool3 2 #[] #[] 1537 4 #[] #[])
  fields := #[]
  methods := #[]
  instanceTypes := #[]
  staticTypes := #[]
  resolved := Array.replicate 8 none
  statics := none }

def pool4 : Array CpInfo := pool [(1, u "java/io/Serializable"), (0, .class_ 1), (0, u "java/lang/Object"), (0, .class_ 3)] 3

/-- java/io/Serializable -/
def k4 : Class := { plain "java/io/Serializable" (some 0) with
  accessFlags := 1537
  interfaces := #[]
  cf := some (fileOf pool4 2 #[] #[] 1537 4 #[] #[])
  fields := #[]
  methods := #[]
  instanceTypes := #[]
  staticTypes := #[]
  resolved := Array.replicate 8 none
  statics := none }

/-- the primitive byte -/
def k5 : Class := { plain "byte" none with kind := .primitive 'B', accessFlags := 0x411 }
/-- [B -/
def k6 : Class := { plain "[B" (some 0) with kind := .array 5 .byte, interfaces := #[3, 4], accessFlags := 1041 }

/-- the primitive int -/
def k7 : Class := { plain "int" none with kind := .primitive 'I', accessFlags := 0x411 }
/-- [I -/
def k8 : Class := { plain "[I" (some 0) with kind := .array 7 .int, interfaces := #[3, 4], accessFlags := 1041 }

/-- the primitive double -/
def k9 : Class := { plain "double" none with kind := .primitive 'D', accessFlags := 0x411 }
/-- [D -/
def k10 : Class := { plain "[D" (some 0) with kind := .array 9 .double, interfaces := #[3, 4], accessFlags := 1041 }

def heap : Heap := #[]
def classes : Array Class := #[k0, k1, k2, k3, k4, k5, k6, k7, k8, k9, k10]
def interned : List (Array UInt16 × Addr) := []
def slotsUsed : Nat := 0
def theMethod : MethodId := ⟨1, 1⟩
def args0 : Array Value := #[.int 3, .long 4, .long 5, .long 6, .long 7]
def aboutOver (below : List Frame) : State where
  vm := { classes := classes, interned := interned.toArray }
  heap := heap
  slotsUsed := slotsUsed
  threads := #[{ frames := .invoking theMethod args0 :: below }]
def below0 : List Frame := [.native { method := ⟨0, 0⟩, args := #[] }]
def about1 : State := aboutOver below0
def p0 : Program := .bare "" "" ""
def e0 : Env := launch0.env 0 0 0
theorem w_frames : about1.frames = Frame.invoking theMethod args0 :: below0 := rfl
set_option maxRecDepth 65536 in
theorem w_args : argsFit about1.vm theMethod args0 = true := by decide +kernel
set_option maxRecDepth 65536 in
theorem w_heap : heapFits about1 = true := by decide +kernel
set_option maxRecDepth 65536 in
theorem w_runnable : about1.curStatus? = some .runnable := by decide +kernel
set_option maxRecDepth 65536 in
theorem w_alone : about1.alone = true := by decide +kernel
set_option maxRecDepth 65536 in
theorem w_named : about1.methodNamed? x = some theMethod := by decide +kernel
set_option maxRecDepth 65536 in
theorem w_hears : about1.hears theMethod below0 = true := by decide +kernel
set_option maxRecDepth 65536 in
theorem w_ripe : about1.ripe theMethod args0 below0 = true := by decide +kernel
theorem w_running : about1.status = .running := rfl
set_option maxRecDepth 65536 in
theorem w_room : about1.hasRoom e0.platform room_1 = true :=
  launch0.hasRoom_least _ room_1 (by decide +kernel) (by decide +kernel) (by decide +kernel) (by decide +kernel) (by decide +kernel) (by decide +kernel)
theorem allAtoms_all (ts : List Jvm.Cond) (a : Array Jvm.Value) (st : Jvm.State) : (allAtoms ts).before a st = ts.all (fun c => c.before a st) := by
  induction ts with
  | nil => rfl
  | cons c t ih =>
    show (Jvm.Cond.and c (allAtoms t)).before a st = _
    rw [Jvm.Cond.before_and, ih, List.all_cons]
def words1 : List Jvm.Cond := Jvm.Cond.code x code maxLocals ret :: tables_1
/-- a 'code' word, met by the world's own term for the bytes: nothing is compared byte by byte -/
theorem code_word {y : MethodName} {bytes : ByteArray} {mx : Nat} {rt : Option FieldType} {a : Array Value} {s : State} {m : MethodId} {meth : Method} {c : Code} (h1 : s.methodNamed? y = some m) (h2 : s.vm.method? m = some meth) (h3 : meth.code = some c) (h4 : c.code = bytes)
    (h5 : (c.maxLocals == mx && c.exceptionTable.isEmpty && decide (c.maxStack ≤ mostOperands) && decide (meth.sig.returnType = rt) && !meth.locks && decide (parseMethodDescriptor y.desc = some meth.sig)) = true) : (Jvm.Cond.code y bytes mx rt).before a s = true := by
  simp only [Bool.and_eq_true, beq_iff_eq, Bool.not_eq_true', decide_eq_true_eq] at h5
  obtain ⟨⟨⟨⟨⟨g1, g2⟩, g3⟩, g4⟩, g5⟩, g6⟩ := h5
  simp [Cond.before, Cond.holds, Cond.value, h1, h2, h3, h4, g1, g2, g3, g4, g5, g6]
def isCode : Jvm.Cond → Bool
  | .code _ _ _ _ => true
  | _ => false
theorem all_split {L : List Jvm.Cond} {P : Jvm.Cond → Bool} (h1 : L.all (fun c => isCode c || P c) = true) (h2 : ∀ c ∈ L.filter isCode, P c = true) : L.all P = true := by
  refine List.all_eq_true.mpr fun c hc => ?_
  have h := List.all_eq_true.mp h1 c hc
  rcases Bool.eq_false_or_eq_true (isCode c) with hi | hi
  · exact h2 c (List.mem_filter.mpr ⟨hc, hi⟩)
  · simpa [hi] using h
set_option maxRecDepth 65536 in
theorem w_c0 : (Jvm.Cond.code x code maxLocals ret).before args0 about1 = true := code_word (m := ⟨1, 1⟩) (meth := k1m1) (c := k1c1) (by decide +kernel) rfl rfl rfl (by decide +kernel)
set_option maxRecDepth 65536 in
theorem w_c1 : (Jvm.Cond.code ({ cls := "com/example/hachure/hachure/render/ParallelLines", name := "reversed", desc := "([D)[D" } : Jvm.MethodName) prog_112_method_11_code (3 : Nat) (Option.some (Jvm.ClassFile.FieldType.array Jvm.ClassFile.FieldType.double))).before args0 about1 = true := code_word (m := ⟨2, 0⟩) (meth := k2m0) (c := k2c0) (by decide +kernel) rfl rfl rfl (by decide +kernel)
def codes1 : List Jvm.Cond := [Jvm.Cond.code x code maxLocals ret, Jvm.Cond.code ({ cls := "com/example/hachure/hachure/render/ParallelLines", name := "reversed", desc := "([D)[D" } : Jvm.MethodName) prog_112_method_11_code (3 : Nat) (Option.some (Jvm.ClassFile.FieldType.array Jvm.ClassFile.FieldType.double))]
set_option maxRecDepth 65536 in
theorem codes_eq : words1.filter isCode = codes1 := rfl
theorem w_codes : ∀ c ∈ words1.filter isCode, c.before args0 about1 = true := by
  rw [codes_eq]
  intro c hc
  simp only [codes1, List.mem_cons, List.not_mem_nil, or_false] at hc
  rcases hc with rfl | rfl
  · exact w_c0
  · exact w_c1
set_option maxRecDepth 65536 in
theorem w_t1 : words1.all (fun c => isCode c || c.before args0 about1) = true := by decide +kernel
theorem w_tables : (allAtoms (Jvm.Cond.code x code maxLocals ret :: tables_1)).before args0 about1 = true := by
  rw [allAtoms_all]
  show words1.all (fun c => c.before args0 about1) = true
  refine all_split ?_ w_codes
  rw [w_t1]
set_option maxRecDepth 65536 in
theorem w_case : (Jvm.Cond.and given_1 narrow_1).before args0 about1 = true := by decide +kernel
theorem w_applies : (headSpec (Jvm.Cond.code x code maxLocals ret :: tables_1) room_1).applies x e0.platform about1 = true :=
  (Spec.applies_iff w_frames).mpr ⟨w_running, w_runnable, w_alone, w_named, w_hears, w_ripe, w_room, w_tables⟩
theorem atStart : AtStart classFile x code maxLocals ret World_1 tables_1 room_1 Calls_1 rest_1 Pre_1 launch0 p0 e0 about1 theMethod args0 below0 :=
  ⟨lists_1, trivial, launch0.admits_env _ _ _, launch0.least_env, fairChoices_fair.cas, fairChoices_fair.clock, w_frames, w_args, w_heap, w_applies, trivial, trivial, w_case⟩
end start1
theorem witness_1 : WitnessClaimed_1 := ⟨start1.p0, start1.e0, start1.about1, start1.theMethod, start1.args0, start1.below0, start1.atStart⟩
end Jvm.Pilot.@@N@@
