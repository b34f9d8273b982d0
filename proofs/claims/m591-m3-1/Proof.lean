import JvmDerived
import JvmDerived.Pilot.@@N@@Statement
import JvmDerived.Pilot.@@N@@Code
set_option linter.unusedVariables false
set_option linter.unusedSimpArgs false
namespace Jvm.Pilot.@@N@@
section OwnFP
open Jvm.FP.Core
/-! Exact doubles: own_Is x n e says that the double x is finite and worth n * 2^e. -/
def own_Is (x : UInt64) (n : Int) (e : Int) : Prop := DFin x ∧ -1074 ≤ e ∧ zval b64 (val64 x) = n * ((2 ^ (e + 1074).toNat : Nat) : Int)
theorem own_qmax : b64.qmax = 971 := by decide
theorem own_pp : b64.p = 53 := rfl
theorem own_powc {a b u v : Nat} (h : a * 2 ^ u = b * 2 ^ v) {w : Int} (hw : w = (u : Int) - v) : a * 2 ^ w.toNat = b * 2 ^ (-w).toNat := by
  subst hw
  have hu : u = ((u : Int) - v).toNat + min u v := by omega
  have hv : v = (-((u : Int) - v)).toNat + min u v := by omega
  have h2 : a * 2 ^ (((u : Int) - v).toNat + min u v) = b * 2 ^ ((-((u : Int) - v)).toNat + min u v) := by rw [← hu, ← hv]; exact h
  rw [Nat.pow_add, Nat.pow_add, ← Nat.mul_assoc, ← Nat.mul_assoc] at h2
  exact Nat.eq_of_mul_eq_mul_right (Nat.two_pow_pos _) h2
theorem own_signed_abs (s : Bool) (c : Nat) : (signed s c).natAbs = c := by cases s <;> simp [signed]
theorem own_signed_mul (s t : Bool) (c d : Nat) : signed (s != t) (c * d) = signed s c * signed t d := by
  cases s <;> cases t <;> simp [signed, Int.natCast_mul, Int.neg_mul, Int.mul_neg]
theorem own_signed_scale (s : Bool) (c d : Nat) : signed s (c * d) = signed s c * (d : Int) := by cases s <;> simp [signed, Int.natCast_mul, Int.neg_mul]
theorem own_round {s : Bool} {c : Nat} {q : Int} {M : Nat} {e : Int} (h2 : -2148 ≤ q) (hM : M < 9007199254740992) (he1 : -1074 ≤ e) (he2 : e ≤ 971) (h : inUnits c q (-2148) = M * 2 ^ (e + 2148).toNat) :
    ∃ c' q', round b64 (.fin s c q) = .fin s c' q' ∧ inUnits c' q' b64.qmin = M * 2 ^ (e + 1074).toNat := by
  have hq : b64.qmin = -1074 := qmin_b64
  obtain ⟨c', q', h1, h3⟩ := round_exact good_b64 s (c := M) (q := e) (show M < 2 ^ 53 from hM) (by rw [hq]; omega) (by rw [own_qmax]; omega)
  refine ⟨c', q', ?_, ?_⟩
  · rw [← h1]
    show roundRatio b64 s c 1 q = roundRatio b64 s M 1 e
    refine roundRatio_congr (by decide) (by decide) ?_
    unfold inUnits at h
    have h4 := own_powc (u := (q - -2148).toNat) (v := (e + 2148).toNat) h (w := q - e) (by omega)
    rw [Nat.mul_one, Nat.mul_one, h4, show -(q - e) = e - q by omega]
  · rw [h3]; unfold inUnits; rw [hq, show e - -1074 = e + 1074 by omega]
theorem own_fin_split {x : UInt64} {n e : Int} (h : own_Is x n e) : ∃ s c q, val64 x = .fin s c q ∧ Jvm.FP.Core.fits b64 (.fin s c q) ∧ signed s (inUnits c q b64.qmin) = n * ((2 ^ (e + 1074).toNat : Nat) : Int) ∧ -1074 ≤ q := by
  obtain ⟨⟨s, c, q, hv⟩, he, hz⟩ := h
  have hf := val64_fits x
  rw [hv] at hf hz
  have := hf.2.1
  rw [qmin_b64] at this
  exact ⟨s, c, q, hv, hf, hz, this⟩
theorem own_Is_of {x : UInt64} {s : Bool} {c : Nat} {q n e : Int} (hv : val64 x = .fin s c q) (he : -1074 ≤ e) (h : signed s (inUnits c q b64.qmin) = n * ((2 ^ (e + 1074).toNat : Nat) : Int)) : own_Is x n e :=
  ⟨⟨s, c, q, hv⟩, he, by rw [hv]; exact h⟩
theorem own_sum {s : Bool} {c : Nat} {q n e : Int} (hq : -1074 ≤ q) (hn : n.natAbs < 9007199254740992) (he1 : -1074 ≤ e) (he2 : e ≤ 971) (h : signed s (inUnits c q b64.qmin) = n * ((2 ^ (e + 1074).toNat : Nat) : Int)) :
    ∃ c' q', round b64 (.fin s c q) = .fin s c' q' ∧ signed s (inUnits c' q' b64.qmin) = n * ((2 ^ (e + 1074).toNat : Nat) : Int) := by
  have h1 : inUnits c q b64.qmin = n.natAbs * 2 ^ (e + 1074).toNat := by
    rw [← own_signed_abs s (inUnits c q b64.qmin), h, Int.natAbs_mul, Int.natAbs_natCast]
  have h2 : inUnits c q (-2148) = n.natAbs * 2 ^ (e + 2148).toNat := by
    rw [inUnits_move c (r := b64.qmin) (by rw [qmin_b64]; omega) (by rw [qmin_b64]; omega), h1, qmin_b64, Nat.mul_assoc, ← Nat.pow_add]
    congr 2; omega
  obtain ⟨c', q', h3, h4⟩ := own_round (s := s) (by omega) hn he1 he2 h2
  exact ⟨c', q', h3, by rw [h4, ← h1, h]⟩
theorem own_add {x y : UInt64} {m n e : Int} (hx : own_Is x m e) (hy : own_Is y n e) (he : e ≤ 971) (hb : (m + n).natAbs < 9007199254740992) : own_Is (dadd x y) (m + n) e := by
  have he1 := hx.2.1
  obtain ⟨s, c, q, vx, fx, zx, -⟩ := own_fin_split hx
  obtain ⟨t, d, r, vy, fy, zy, -⟩ := own_fin_split hy
  obtain ⟨sg, N, E, h1, h2, h3⟩ := sum_units fx fy
  have h4 : signed sg (inUnits N E b64.qmin) = (m + n) * ((2 ^ (e + 1074).toNat : Nat) : Int) := by
    rw [h3, Int.add_mul, ← zx, ← zy]; rfl
  obtain ⟨c', q', h5, h6⟩ := own_sum (by rw [qmin_b64] at h2; exact h2) hb he1 he h4
  exact own_Is_of (by rw [val64_dadd, vx, vy, h1, h5]) he1 h6
theorem own_sub {x y : UInt64} {m n e : Int} (hx : own_Is x m e) (hy : own_Is y n e) (he : e ≤ 971) (hb : (m - n).natAbs < 9007199254740992) : own_Is (dsub x y) (m - n) e := by
  have he1 := hx.2.1
  obtain ⟨s, c, q, vx, fx, zx, -⟩ := own_fin_split hx
  obtain ⟨t, d, r, vy, fy, zy, -⟩ := own_fin_split hy
  have fy' : Jvm.FP.Core.fits b64 (.fin (!t) d r) := fy
  obtain ⟨sg, N, E, h1, h2, h3⟩ := sum_units (t := !t) fx fy'
  have h4 : signed sg (inUnits N E b64.qmin) = (m - n) * ((2 ^ (e + 1074).toNat : Nat) : Int) := by
    rw [h3, Int.sub_mul, ← zx, ← zy]
    show signed s (inUnits c q b64.qmin) + signed (!t) (inUnits d r b64.qmin) = _
    rw [signed_not]; omega
  obtain ⟨c', q', h5, h6⟩ := own_sum (by rw [qmin_b64] at h2; exact h2) hb he1 he h4
  refine own_Is_of (s := sg) (c := c') (q := q') ?_ he1 h6
  rw [val64_dsub, vx, vy]
  show round b64 (exactSum (.fin s c q) (.fin (!t) d r)) = _
  rw [h1, h5]
theorem own_mul {x y : UInt64} {m n e1 e2 e : Int} (hx : own_Is x m e1) (hy : own_Is y n e2) (hee : e1 + e2 = e) (he1 : -1074 ≤ e) (he2 : e ≤ 971) (hb : (m * n).natAbs < 9007199254740992) : own_Is (dmul x y) (m * n) e := by
  subst hee
  have hx1 := hx.2.1
  have hy1 := hy.2.1
  obtain ⟨s, c, q, vx, fx, zx, qx⟩ := own_fin_split hx
  obtain ⟨t, d, r, vy, fy, zy, qy⟩ := own_fin_split hy
  obtain ⟨h1, h2, h3⟩ := product_units fx fy
  have hs : signed (s != t) (inUnits (c * d) (q + r) (-2148)) = (m * n) * ((2 ^ (e1 + e2 + 2148).toNat : Nat) : Int) := by
    have h4 : inUnits (c * d) (q + r) (-2148) = inUnits c q b64.qmin * inUnits d r b64.qmin := by
      have := h3
      rw [qmin_b64] at this ⊢
      exact this
    rw [h4, own_signed_mul, zx, zy, show (e1 + e2 + 2148).toNat = (e1 + 1074).toNat + (e2 + 1074).toNat by omega, Nat.pow_add, Int.natCast_mul]
    simp only [Int.mul_assoc, Int.mul_left_comm, Int.mul_comm]
  have h5 : inUnits (c * d) (q + r) (-2148) = (m * n).natAbs * 2 ^ (e1 + e2 + 2148).toNat := by
    rw [← own_signed_abs (s != t) (inUnits (c * d) (q + r) (-2148)), hs, Int.natAbs_mul, Int.natAbs_natCast]
  obtain ⟨c', q', h6, h7⟩ := own_round (s := (s != t)) (by omega) hb he1 he2 h5
  refine own_Is_of (s := (s != t)) (c := c') (q := q') (by rw [val64_dmul, vx, vy, h1, h6]) he1 ?_
  rw [h5, own_signed_scale] at hs
  have h8 : signed (s != t) (m * n).natAbs = m * n := Int.eq_of_mul_eq_mul_right (by have := Nat.two_pow_pos (e1 + e2 + 2148).toNat; omega) hs
  rw [h7, own_signed_scale, h8]
/-- the quotient of two exact doubles is the rounded ratio of their numbers -/
theorem own_divR {x y : UInt64} {m n e1 e2 : Int} (hx : own_Is x m e1) (hy : own_Is y n e2) (hn : n ≠ 0) :
    val64 (ddiv x y) = roundRatio b64 (sgn (val64 x) != sgn (val64 y)) m.natAbs n.natAbs (e1 - e2) ∧ signed (sgn (val64 x)) m.natAbs = m ∧ signed (sgn (val64 y)) n.natAbs = n := by
  have hx1 := hx.2.1
  have hy1 := hy.2.1
  obtain ⟨s, c, q, vx, fx, zx, qx⟩ := own_fin_split hx
  obtain ⟨t, d, r, vy, fy, zy, qy⟩ := own_fin_split hy
  have ax : inUnits c q b64.qmin = m.natAbs * 2 ^ (e1 + 1074).toNat := by
    rw [← own_signed_abs s (inUnits c q b64.qmin), zx, Int.natAbs_mul, Int.natAbs_natCast]
  have ay : inUnits d r b64.qmin = n.natAbs * 2 ^ (e2 + 1074).toNat := by
    rw [← own_signed_abs t (inUnits d r b64.qmin), zy, Int.natAbs_mul, Int.natAbs_natCast]
  have sx : signed s m.natAbs = m := by
    rw [ax, own_signed_scale] at zx
    exact Int.eq_of_mul_eq_mul_right (by have := Nat.two_pow_pos (e1 + 1074).toNat; omega) zx
  have sy : signed t n.natAbs = n := by
    rw [ay, own_signed_scale] at zy
    exact Int.eq_of_mul_eq_mul_right (by have := Nat.two_pow_pos (e2 + 1074).toNat; omega) zy
  have nn : n.natAbs ≠ 0 := by omega
  have hd : d ≠ 0 := by
    rintro rfl
    have : n.natAbs * 2 ^ (e2 + 1074).toNat = 0 := by rw [← ay]; unfold inUnits; simp
    rcases Nat.mul_eq_zero.mp this with h | h
    · exact nn h
    · have := Nat.two_pow_pos (e2 + 1074).toNat; omega
  refine ⟨?_, by rw [vx]; exact sx, by rw [vy]; exact sy⟩
  rw [val64_ddiv, vx, vy]
  show (if d = 0 then _ else roundRatio b64 (s != t) c d (q - r)) = roundRatio b64 (s != t) _ _ _
  rw [if_neg hd]
  refine roundRatio_congr (by omega) (by omega) ?_
  unfold inUnits at ax ay
  rw [qmin_b64] at ax ay
  have key : c * n.natAbs * 2 ^ ((q - -1074).toNat + (e2 + 1074).toNat) = m.natAbs * d * 2 ^ ((e1 + 1074).toNat + (r - -1074).toNat) := by
    have e3 : c * n.natAbs * 2 ^ ((q - -1074).toNat + (e2 + 1074).toNat) = (c * 2 ^ (q - -1074).toNat) * (n.natAbs * 2 ^ (e2 + 1074).toNat) := by
      rw [Nat.pow_add]; simp only [Nat.mul_assoc, Nat.mul_left_comm, Nat.mul_comm]
    rw [e3, ax, ← ay, Nat.pow_add]
    simp only [Nat.mul_assoc, Nat.mul_left_comm, Nat.mul_comm]
  have h4 := own_powc key (w := (q - r) - (e1 - e2)) (by omega)
  rw [h4, show -((q - r) - (e1 - e2)) = (e1 - e2) - (q - r) by omega]
theorem own_div {x y : UInt64} {m n N e1 e2 e : Int} (hx : own_Is x m e1) (hy : own_Is y n e2) (hn : n ≠ 0) (hm : m = N * n) (hee : e1 - e2 = e) (he1 : -1074 ≤ e) (he2 : e ≤ 971) (hb : N.natAbs < 9007199254740992) : own_Is (ddiv x y) N e := by
  subst hee
  obtain ⟨h1, h2, h3⟩ := own_divR hx hy hn
  have hq : b64.qmin = -1074 := qmin_b64
  obtain ⟨c', q', h5, h6⟩ := round_exact good_b64 (sgn (val64 x) != sgn (val64 y)) (c := N.natAbs) (q := e1 - e2) (show _ < 2 ^ 53 from hb) (by rw [hq]; omega) (by rw [own_qmax]; omega)
  refine own_Is_of (s := (sgn (val64 x) != sgn (val64 y))) (c := c') (q := q') ?_ he1 ?_
  · rw [h1, ← h5]
    show roundRatio _ _ _ _ _ = roundRatio b64 (sgn (val64 x) != sgn (val64 y)) N.natAbs 1 (e1 - e2)
    refine roundRatio_congr (by omega) (by decide) ?_
    rw [hm, Int.natAbs_mul]; simp
  · rw [h6]; unfold inUnits
    rw [hq, show e1 - e2 - -1074 = e1 - e2 + 1074 by omega, own_signed_scale]
    congr 1
    have h7 := own_signed_mul (sgn (val64 x)) (sgn (val64 y)) N.natAbs (n.natAbs * n.natAbs)
    have h8 : signed (sgn (val64 x) != sgn (val64 y)) (m.natAbs * n.natAbs) = m * n := by rw [own_signed_mul, h2, h3]
    rw [hm, Int.natAbs_mul, Nat.mul_assoc, own_signed_scale] at h8
    have h9 : ((n.natAbs * n.natAbs : Nat) : Int) = n * n := Int.natAbs_mul_self
    rw [h9, Int.mul_assoc] at h8
    refine Int.eq_of_mul_eq_mul_right ?_ h8
    intro h0
    rcases Int.mul_eq_zero.mp h0 with h | h <;> exact hn h
theorem own_shift {x : UInt64} {n e e' : Int} (j : Nat) (hx : own_Is x n e) (hj : e' = e - j) (he : -1074 ≤ e') : own_Is x (n * (2 ^ j : Nat)) e' := by
  subst hj
  refine ⟨hx.1, he, ?_⟩
  rw [hx.2.2, show (e + 1074).toNat = j + (e - j + 1074).toNat by omega, Nat.pow_add, Int.natCast_mul, ← Int.mul_assoc]
theorem own_nn {x : UInt64} {n e : Int} (h : own_Is x n e) : Jvm.Free.Fl.NoNaN64 x := Jvm.Free.Fl.noNaN64_no.mpr h.1.notNaN
theorem own_cmp {x y : UInt64} {m n e : Int} (hx : own_Is x m e) (hy : own_Is y n e) : dcmp x y = some (compare m n) := by
  rw [dcmp_zval hx.1.ne_nan hy.1.ne_nan, hx.2.2, hy.2.2]
  have hp : (0 : Int) < ((2 ^ (e + 1074).toNat : Nat) : Int) := by have := Nat.two_pow_pos (e + 1074).toNat; omega
  congr 1
  refine compare_congr ⟨fun h => Int.lt_of_mul_lt_mul_right h (Int.le_of_lt hp), fun h => Int.mul_lt_mul_of_pos_right h hp⟩ ⟨fun h => Int.eq_of_mul_eq_mul_right (Int.ne_of_gt hp) h, fun h => by rw [h]⟩
theorem own_i2d (a : Int32) : own_Is (i2d a) a.toInt 0 := by
  have h := i2d_int a
  refine ⟨?_, by decide, ?_⟩
  · rw [i2d_l2d]; exact l2d_fin _
  · rw [DInt_zval h]; rfl
theorem own_l2d {a : Int64} (h : a.toInt.natAbs ≤ 9007199254740992) : own_Is (l2d a) a.toInt 0 := by
  have h := l2d_int (a := a) h
  exact ⟨l2d_fin _, by decide, by rw [DInt_zval h]; rfl⟩
/-- with a bound on the number -/
def own_B (x : UInt64) (n e B : Int) : Prop := own_Is x n e ∧ -B ≤ n ∧ n ≤ B
theorem own_B.is {x : UInt64} {n e B : Int} (h : own_B x n e B) : own_Is x n e := h.1
theorem own_B.nn {x : UInt64} {n e B : Int} (h : own_B x n e B) : Jvm.Free.Fl.NoNaN64 x := own_nn h.1
theorem own_Badd {x y : UInt64} {m n e A B : Int} (hx : own_B x m e A) (hy : own_B y n e B) (h : (decide (e ≤ 971) && decide (A + B < 9007199254740992)) = true) : own_B (dadd x y) (m + n) e (A + B) := by
  simp only [Bool.and_eq_true, decide_eq_true_eq] at h
  have := hx.2; have := hy.2
  exact ⟨own_add hx.1 hy.1 h.1 (by omega), by omega, by omega⟩
theorem own_Bsub {x y : UInt64} {m n e A B : Int} (hx : own_B x m e A) (hy : own_B y n e B) (h : (decide (e ≤ 971) && decide (A + B < 9007199254740992)) = true) : own_B (dsub x y) (m - n) e (A + B) := by
  simp only [Bool.and_eq_true, decide_eq_true_eq] at h
  have := hx.2; have := hy.2
  exact ⟨own_sub hx.1 hy.1 h.1 (by omega), by omega, by omega⟩
theorem own_bmul {m n A B : Int} (hm : -A ≤ m ∧ m ≤ A) (hn : -B ≤ n ∧ n ≤ B) : -(A * B) ≤ m * n ∧ m * n ≤ A * B := by
  have h : (m * n).natAbs ≤ A.toNat * B.toNat := by rw [Int.natAbs_mul]; exact Nat.mul_le_mul (by omega) (by omega)
  have h2 : ((A.toNat * B.toNat : Nat) : Int) = A * B := by rw [Int.natCast_mul, Int.toNat_of_nonneg (by omega), Int.toNat_of_nonneg (by omega)]
  omega
theorem own_Bmul {x y : UInt64} {m n e1 e2 A B : Int} (hx : own_B x m e1 A) (hy : own_B y n e2 B) (h : (decide (-1074 ≤ e1 + e2) && decide (e1 + e2 ≤ 971) && decide (A * B < 9007199254740992)) = true) : own_B (dmul x y) (m * n) (e1 + e2) (A * B) := by
  simp only [Bool.and_eq_true, decide_eq_true_eq] at h
  have hb := own_bmul hx.2 hy.2
  exact ⟨own_mul hx.1 hy.1 rfl h.1.1 h.1.2 (by omega), hb⟩
/-- an exact quotient by a power of two (n = 1 in y = 1 * 2^e2) -/
theorem own_Bdiv {x y : UInt64} {m e1 e2 A : Int} (hx : own_B x m e1 A) (hy : own_Is y 1 e2) (h : (decide (-1074 ≤ e1 - e2) && decide (e1 - e2 ≤ 971) && decide (A < 9007199254740992)) = true) : own_B (ddiv x y) m (e1 - e2) A := by
  simp only [Bool.and_eq_true, decide_eq_true_eq] at h
  have := hx.2
  exact ⟨own_div hx.1 hy (by decide) (Int.mul_one _).symm rfl h.1.1 h.1.2 (by omega), hx.2⟩
theorem own_Bshift {x : UInt64} {n e A : Int} (j : Nat) (P : Int) (hx : own_B x n e A) (h : (decide (-1074 ≤ e - j) && decide (((2 ^ j : Nat) : Int) = P)) = true) : own_B x (n * P) (e - j) (A * P) := by
  simp only [Bool.and_eq_true, decide_eq_true_eq] at h
  obtain ⟨h, rfl⟩ := h
  refine ⟨own_shift j hx.1 rfl h, ?_⟩
  have hp : (0 : Int) ≤ (2 ^ j : Nat) := Int.natCast_nonneg _
  have := hx.2
  constructor
  · rw [← Int.neg_mul]; exact Int.mul_le_mul_of_nonneg_right this.1 hp
  · exact Int.mul_le_mul_of_nonneg_right this.2 hp
theorem own_Bcast {x : UInt64} {n n' e e' A A' : Int} (h : own_B x n e A) (hn : n = n') (he : e = e') (hA : A ≤ A') : own_B x n' e' A' := by
  subst hn he; exact ⟨h.1, by have := h.2; omega, by have := h.2; omega⟩
theorem own_eq0 {x y : UInt64} {m n e : Int} (hx : own_Is x m e) (hy : own_Is y n e) (h : m = n) (o : ClassFile.CmpOp) : Op.cmpValue (Jvm.FP.dcmp x y) o = 0 := by
  show Op.cmpValue (dcmp x y) o = 0
  subst h
  rw [own_cmp hx hy, show compare m m = .eq from (compare_eq_iff m m).mpr rfl]; cases o <;> rfl
theorem own_cmpv {x y : UInt64} {m n e : Int} (hx : own_Is x m e) (hy : own_Is y n e) (o : ClassFile.CmpOp) : (m < n → Op.cmpValue (Jvm.FP.dcmp x y) o = -1) ∧ (m = n → Op.cmpValue (Jvm.FP.dcmp x y) o = 0) ∧ (n < m → Op.cmpValue (Jvm.FP.dcmp x y) o = 1) := by
  refine ⟨fun h => ?_, fun h => own_eq0 hx hy h o, fun h => ?_⟩
  · show Op.cmpValue (dcmp x y) o = -1
    rw [own_cmp hx hy, (compare_lt_iff m n).mpr h]; cases o <;> rfl
  · show Op.cmpValue (dcmp x y) o = 1
    rw [own_cmp hx hy, (compare_gt_iff m n).mpr h]; cases o <;> rfl
theorem own_one : own_Is 4607182418800017408 1 0 := ⟨(fin_bits _).mpr (by decide), by decide, by decide +kernel⟩
theorem own_zero : own_Is 0 0 0 := ⟨(fin_bits _).mpr (by decide), by decide, by decide +kernel⟩
/-! ints and longs with their numbers and bounds -/
def own_I (v : Int32) (n B : Int) : Prop := v.toInt = n ∧ -B ≤ n ∧ n ≤ B
def own_L (v : Int64) (n B : Int) : Prop := v.toInt = n ∧ -B ≤ n ∧ n ≤ B
theorem own_Iadd {a b v : Int32} {m n A B : Int} (hv : a + b = v) (ha : own_I a m A) (hb : own_I b n B) (h : decide (A + B < 2147483648) = true) : own_I v (m + n) (A + B) := by
  subst hv; simp only [decide_eq_true_eq] at h; obtain ⟨rfl, h1, h2⟩ := ha; obtain ⟨rfl, h3, h4⟩ := hb
  exact ⟨by rw [Int32.toInt_add]; exact Int.bmod_eq_of_le (by omega) (by omega), by omega, by omega⟩
theorem own_Isub {a b v : Int32} {m n A B : Int} (hv : a - b = v) (ha : own_I a m A) (hb : own_I b n B) (h : decide (A + B < 2147483648) = true) : own_I v (m - n) (A + B) := by
  subst hv; simp only [decide_eq_true_eq] at h; obtain ⟨rfl, h1, h2⟩ := ha; obtain ⟨rfl, h3, h4⟩ := hb
  exact ⟨by rw [Int32.toInt_sub]; exact Int.bmod_eq_of_le (by omega) (by omega), by omega, by omega⟩
theorem own_Imul {a b v : Int32} {m n A B : Int} (hv : a * b = v) (ha : own_I a m A) (hb : own_I b n B) (h : decide (A * B < 2147483648) = true) : own_I v (m * n) (A * B) := by
  subst hv; simp only [decide_eq_true_eq] at h; obtain ⟨rfl, h1⟩ := ha; obtain ⟨rfl, h3⟩ := hb
  have hb := own_bmul h1 h3
  exact ⟨by rw [Int32.toInt_mul]; exact Int.bmod_eq_of_le (by omega) (by omega), hb⟩
theorem own_Ladd {a b v : Int64} {m n A B : Int} (hv : a + b = v) (ha : own_L a m A) (hb : own_L b n B) (h : decide (A + B < 9223372036854775808) = true) : own_L v (m + n) (A + B) := by
  subst hv; simp only [decide_eq_true_eq] at h; obtain ⟨rfl, h1, h2⟩ := ha; obtain ⟨rfl, h3, h4⟩ := hb
  exact ⟨by rw [Int64.toInt_add]; exact Int.bmod_eq_of_le (by omega) (by omega), by omega, by omega⟩
theorem own_Lsub {a b v : Int64} {m n A B : Int} (hv : a - b = v) (ha : own_L a m A) (hb : own_L b n B) (h : decide (A + B < 9223372036854775808) = true) : own_L v (m - n) (A + B) := by
  subst hv; simp only [decide_eq_true_eq] at h; obtain ⟨rfl, h1, h2⟩ := ha; obtain ⟨rfl, h3, h4⟩ := hb
  exact ⟨by rw [Int64.toInt_sub]; exact Int.bmod_eq_of_le (by omega) (by omega), by omega, by omega⟩
theorem own_Lmul {a b v : Int64} {m n A B : Int} (hv : a * b = v) (ha : own_L a m A) (hb : own_L b n B) (h : decide (A * B < 9223372036854775808) = true) : own_L v (m * n) (A * B) := by
  subst hv; simp only [decide_eq_true_eq] at h; obtain ⟨rfl, h1⟩ := ha; obtain ⟨rfl, h3⟩ := hb
  have hb := own_bmul h1 h3
  exact ⟨by rw [Int64.toInt_mul]; exact Int.bmod_eq_of_le (by omega) (by omega), hb⟩
theorem own_Ii2l {a : Int32} {v : Int64} {m A : Int} (hv : Int32.toInt64 a = v) (ha : own_I a m A) : own_L v m A := by
  subst hv; exact ⟨by rw [Int32.toInt_toInt64]; exact ha.1, ha.2⟩
theorem own_Icast {v : Int32} {n n' A A' : Int} (h : own_I v n A) (hn : n = n') (hA : A ≤ A') : own_I v n' A' := by
  subst hn; exact ⟨h.1, by have := h.2; omega, by have := h.2; omega⟩
theorem own_Lcast {v : Int64} {n n' A A' : Int} (h : own_L v n A) (hn : n = n') (hA : A ≤ A') : own_L v n' A' := by
  subst hn; exact ⟨h.1, by have := h.2; omega, by have := h.2; omega⟩
theorem own_Bi2d {v : Int32} {n A : Int} (h : own_I v n A) : own_B (i2d v) n 0 A := by
  obtain ⟨rfl, h1⟩ := h; exact ⟨own_i2d v, h1⟩
theorem own_Bl2d {v : Int64} {n A : Int} (h : own_L v n A) (hA : decide (A ≤ 9007199254740992) = true) : own_B (l2d v) n 0 A := by
  simp only [decide_eq_true_eq] at hA; obtain ⟨rfl, h1⟩ := h; exact ⟨own_l2d (by omega), h1⟩
theorem own_Irng (v : Int32) : own_I v v.toInt 2147483648 := ⟨rfl, by have := Jvm.RoadKit.rng32 v; omega, by have := Jvm.RoadKit.rng32 v; omega⟩
theorem own_Iand {x m v : Int32} {B : Int} (hv : x &&& m = v) (hB : m.toInt = B) (h0 : 0 ≤ B) : own_I v v.toInt B := by
  have := Jvm.RoadKit.c_and x m (by omega); rw [hv] at this; exact ⟨rfl, by omega, by omega⟩
end OwnFP
section OwnStep
open Jvm Jvm.ClassFile Sem Op Lib Jvm.Free Jvm.Stand Jvm.LawKit Jvm.RoadKit
variable {tb : Tables} [Ours tb] {e : Env} {below : List Frame} {T target : State} {m : MethodId} {c : Code} {pc pc' : Nat} {L : Array Slot} {S : List Value}
theorem own_s_iadd (h : At T m c below) (hx : tb.exec = Jvm.exec) {x y v : Int32} (hd : decode c.code pc = .ok (.iadd, 1)) (hp : pc + 1 = pc') (hv : x + y = v)
    (hr : Steps tb e below (T.setTop (mkF m pc' L (.int v :: S))) target) : Steps tb e below (T.setTop (mkF m pc L (.int y :: .int x :: S))) target := by
  subst hv hp; exact XS.iadd h hx rfl hd rfl hr
theorem own_s_ladd (h : At T m c below) (hx : tb.exec = Jvm.exec) {x y v : Int64} (hd : decode c.code pc = .ok (.ladd, 1)) (hp : pc + 1 = pc') (hv : x + y = v)
    (hr : Steps tb e below (T.setTop (mkF m pc' L (.long v :: S))) target) : Steps tb e below (T.setTop (mkF m pc L (.long y :: .long x :: S))) target := by
  subst hv hp; exact XS.ladd h hx rfl hd rfl hr
theorem own_s_isub (h : At T m c below) (hx : tb.exec = Jvm.exec) {x y v : Int32} (hd : decode c.code pc = .ok (.isub, 1)) (hp : pc + 1 = pc') (hv : x - y = v)
    (hr : Steps tb e below (T.setTop (mkF m pc' L (.int v :: S))) target) : Steps tb e below (T.setTop (mkF m pc L (.int y :: .int x :: S))) target := by
  subst hv hp; exact XS.isub h hx rfl hd rfl hr
theorem own_s_lsub (h : At T m c below) (hx : tb.exec = Jvm.exec) {x y v : Int64} (hd : decode c.code pc = .ok (.lsub, 1)) (hp : pc + 1 = pc') (hv : x - y = v)
    (hr : Steps tb e below (T.setTop (mkF m pc' L (.long v :: S))) target) : Steps tb e below (T.setTop (mkF m pc L (.long y :: .long x :: S))) target := by
  subst hv hp; exact XS.lsub h hx rfl hd rfl hr
theorem own_s_imul (h : At T m c below) (hx : tb.exec = Jvm.exec) {x y v : Int32} (hd : decode c.code pc = .ok (.imul, 1)) (hp : pc + 1 = pc') (hv : x * y = v)
    (hr : Steps tb e below (T.setTop (mkF m pc' L (.int v :: S))) target) : Steps tb e below (T.setTop (mkF m pc L (.int y :: .int x :: S))) target := by
  subst hv hp; exact XS.imul h hx rfl hd rfl hr
theorem own_s_lmul (h : At T m c below) (hx : tb.exec = Jvm.exec) {x y v : Int64} (hd : decode c.code pc = .ok (.lmul, 1)) (hp : pc + 1 = pc') (hv : x * y = v)
    (hr : Steps tb e below (T.setTop (mkF m pc' L (.long v :: S))) target) : Steps tb e below (T.setTop (mkF m pc L (.long y :: .long x :: S))) target := by
  subst hv hp; exact XS.lmul h hx rfl hd rfl hr
theorem own_s_iand (h : At T m c below) (hx : tb.exec = Jvm.exec) {x y v : Int32} (hd : decode c.code pc = .ok (.iand, 1)) (hp : pc + 1 = pc') (hv : x &&& y = v)
    (hr : Steps tb e below (T.setTop (mkF m pc' L (.int v :: S))) target) : Steps tb e below (T.setTop (mkF m pc L (.int y :: .int x :: S))) target := by
  subst hv hp; exact XS.iand h hx rfl hd rfl hr
theorem own_s_land (h : At T m c below) (hx : tb.exec = Jvm.exec) {x y v : Int64} (hd : decode c.code pc = .ok (.land, 1)) (hp : pc + 1 = pc') (hv : x &&& y = v)
    (hr : Steps tb e below (T.setTop (mkF m pc' L (.long v :: S))) target) : Steps tb e below (T.setTop (mkF m pc L (.long y :: .long x :: S))) target := by
  subst hv hp; exact XS.land h hx rfl hd rfl hr
theorem own_s_ior (h : At T m c below) (hx : tb.exec = Jvm.exec) {x y v : Int32} (hd : decode c.code pc = .ok (.ior, 1)) (hp : pc + 1 = pc') (hv : x ||| y = v)
    (hr : Steps tb e below (T.setTop (mkF m pc' L (.int v :: S))) target) : Steps tb e below (T.setTop (mkF m pc L (.int y :: .int x :: S))) target := by
  subst hv hp; exact XS.ior h hx rfl hd rfl hr
theorem own_s_lor (h : At T m c below) (hx : tb.exec = Jvm.exec) {x y v : Int64} (hd : decode c.code pc = .ok (.lor, 1)) (hp : pc + 1 = pc') (hv : x ||| y = v)
    (hr : Steps tb e below (T.setTop (mkF m pc' L (.long v :: S))) target) : Steps tb e below (T.setTop (mkF m pc L (.long y :: .long x :: S))) target := by
  subst hv hp; exact XS.lor h hx rfl hd rfl hr
theorem own_s_ixor (h : At T m c below) (hx : tb.exec = Jvm.exec) {x y v : Int32} (hd : decode c.code pc = .ok (.ixor, 1)) (hp : pc + 1 = pc') (hv : x ^^^ y = v)
    (hr : Steps tb e below (T.setTop (mkF m pc' L (.int v :: S))) target) : Steps tb e below (T.setTop (mkF m pc L (.int y :: .int x :: S))) target := by
  subst hv hp; exact XS.ixor h hx rfl hd rfl hr
theorem own_s_lxor (h : At T m c below) (hx : tb.exec = Jvm.exec) {x y v : Int64} (hd : decode c.code pc = .ok (.lxor, 1)) (hp : pc + 1 = pc') (hv : x ^^^ y = v)
    (hr : Steps tb e below (T.setTop (mkF m pc' L (.long v :: S))) target) : Steps tb e below (T.setTop (mkF m pc L (.long y :: .long x :: S))) target := by
  subst hv hp; exact XS.lxor h hx rfl hd rfl hr
theorem own_s_idiv (h : At T m c below) (hx : tb.exec = Jvm.exec) {x y v : Int32} (hd : decode c.code pc = .ok (.idiv, 1)) (hp : pc + 1 = pc') (hy : y ≠ 0) (hv : x / y = v)
    (hr : Steps tb e below (T.setTop (mkF m pc' L (.int v :: S))) target) : Steps tb e below (T.setTop (mkF m pc L (.int y :: .int x :: S))) target := by
  subst hv hp; exact XS.idiv h hx rfl hd rfl hy hr
theorem own_s_irem (h : At T m c below) (hx : tb.exec = Jvm.exec) {x y v : Int32} (hd : decode c.code pc = .ok (.irem, 1)) (hp : pc + 1 = pc') (hy : y ≠ 0) (hv : x % y = v)
    (hr : Steps tb e below (T.setTop (mkF m pc' L (.int v :: S))) target) : Steps tb e below (T.setTop (mkF m pc L (.int y :: .int x :: S))) target := by
  subst hv hp; rw [← irem_eq_mod] at hr; exact XS.irem h hx rfl hd rfl hy hr
theorem own_s_ldiv (h : At T m c below) (hx : tb.exec = Jvm.exec) {x y v : Int64} (hd : decode c.code pc = .ok (.ldiv, 1)) (hp : pc + 1 = pc') (hy : y ≠ 0) (hv : x / y = v)
    (hr : Steps tb e below (T.setTop (mkF m pc' L (.long v :: S))) target) : Steps tb e below (T.setTop (mkF m pc L (.long y :: .long x :: S))) target := by
  subst hv hp; exact XS.ldiv h hx rfl hd rfl hy hr
theorem own_s_lrem (h : At T m c below) (hx : tb.exec = Jvm.exec) {x y v : Int64} (hd : decode c.code pc = .ok (.lrem, 1)) (hp : pc + 1 = pc') (hy : y ≠ 0) (hv : x % y = v)
    (hr : Steps tb e below (T.setTop (mkF m pc' L (.long v :: S))) target) : Steps tb e below (T.setTop (mkF m pc L (.long y :: .long x :: S))) target := by
  subst hv hp; rw [← lrem_mod] at hr; exact XS.lrem h hx rfl hd rfl hy hr
theorem own_s_ishl (h : At T m c below) (hx : tb.exec = Jvm.exec) {x y v : Int32} (hd : decode c.code pc = .ok (.ishl, 1)) (hp : pc + 1 = pc') (hv : x <<< (y &&& 31) = v)
    (hr : Steps tb e below (T.setTop (mkF m pc' L (.int v :: S))) target) : Steps tb e below (T.setTop (mkF m pc L (.int y :: .int x :: S))) target := by
  subst hv hp; exact XS.ishl h hx rfl hd rfl hr
theorem own_s_ishr (h : At T m c below) (hx : tb.exec = Jvm.exec) {x y v : Int32} (hd : decode c.code pc = .ok (.ishr, 1)) (hp : pc + 1 = pc') (hv : x >>> (y &&& 31) = v)
    (hr : Steps tb e below (T.setTop (mkF m pc' L (.int v :: S))) target) : Steps tb e below (T.setTop (mkF m pc L (.int y :: .int x :: S))) target := by
  subst hv hp; exact XS.ishr h hx rfl hd rfl hr
theorem own_s_iushr (h : At T m c below) (hx : tb.exec = Jvm.exec) {x y v : Int32} (hd : decode c.code pc = .ok (.iushr, 1)) (hp : pc + 1 = pc') (hv : (x.toUInt32 >>> (y &&& 31).toUInt32).toInt32 = v)
    (hr : Steps tb e below (T.setTop (mkF m pc' L (.int v :: S))) target) : Steps tb e below (T.setTop (mkF m pc L (.int y :: .int x :: S))) target := by
  subst hv hp; exact XS.iushr h hx rfl hd rfl hr
theorem own_s_lshl (h : At T m c below) (hx : tb.exec = Jvm.exec) {x v : Int64} {y : Int32} (hd : decode c.code pc = .ok (.lshl, 1)) (hp : pc + 1 = pc') (hv : x <<< (y &&& 63).toInt64 = v)
    (hr : Steps tb e below (T.setTop (mkF m pc' L (.long v :: S))) target) : Steps tb e below (T.setTop (mkF m pc L (.int y :: .long x :: S))) target := by
  subst hv hp; exact XS.lshl h hx rfl hd rfl hr
theorem own_s_lshr (h : At T m c below) (hx : tb.exec = Jvm.exec) {x v : Int64} {y : Int32} (hd : decode c.code pc = .ok (.lshr, 1)) (hp : pc + 1 = pc') (hv : x >>> (y &&& 63).toInt64 = v)
    (hr : Steps tb e below (T.setTop (mkF m pc' L (.long v :: S))) target) : Steps tb e below (T.setTop (mkF m pc L (.int y :: .long x :: S))) target := by
  subst hv hp; exact XS.lshr h hx rfl hd rfl hr
theorem own_s_lushr (h : At T m c below) (hx : tb.exec = Jvm.exec) {x v : Int64} {y : Int32} (hd : decode c.code pc = .ok (.lushr, 1)) (hp : pc + 1 = pc') (hv : (x.toUInt64 >>> (y &&& 63).toInt64.toUInt64).toInt64 = v)
    (hr : Steps tb e below (T.setTop (mkF m pc' L (.long v :: S))) target) : Steps tb e below (T.setTop (mkF m pc L (.int y :: .long x :: S))) target := by
  subst hv hp; exact XS.lushr h hx rfl hd rfl hr
theorem own_s_i2l (h : At T m c below) (hx : tb.exec = Jvm.exec) {x : Int32} {v : Int64} (hd : decode c.code pc = .ok (.i2l, 1)) (hp : pc + 1 = pc') (hv : x.toInt64 = v)
    (hr : Steps tb e below (T.setTop (mkF m pc' L (.long v :: S))) target) : Steps tb e below (T.setTop (mkF m pc L (.int x :: S))) target := by
  subst hv hp; exact XS.i2l h hx rfl hd rfl hr
theorem own_s_l2i (h : At T m c below) (hx : tb.exec = Jvm.exec) {x : Int64} {v : Int32} (hd : decode c.code pc = .ok (.l2i, 1)) (hp : pc + 1 = pc') (hv : x.toInt32 = v)
    (hr : Steps tb e below (T.setTop (mkF m pc' L (.int v :: S))) target) : Steps tb e below (T.setTop (mkF m pc L (.long x :: S))) target := by
  subst hv hp; exact XS.l2i h hx rfl hd rfl hr
theorem own_s_i2b (h : At T m c below) (hx : tb.exec = Jvm.exec) {x : Int32} {v : Int32} (hd : decode c.code pc = .ok (.i2b, 1)) (hp : pc + 1 = pc') (hv : x.toInt8.toInt32 = v)
    (hr : Steps tb e below (T.setTop (mkF m pc' L (.int v :: S))) target) : Steps tb e below (T.setTop (mkF m pc L (.int x :: S))) target := by
  subst hv hp; exact XS.i2b h hx rfl hd rfl hr
theorem own_s_i2s (h : At T m c below) (hx : tb.exec = Jvm.exec) {x : Int32} {v : Int32} (hd : decode c.code pc = .ok (.i2s, 1)) (hp : pc + 1 = pc') (hv : x.toInt16.toInt32 = v)
    (hr : Steps tb e below (T.setTop (mkF m pc' L (.int v :: S))) target) : Steps tb e below (T.setTop (mkF m pc L (.int x :: S))) target := by
  subst hv hp; exact XS.i2s h hx rfl hd rfl hr
theorem own_s_ineg (h : At T m c below) (hx : tb.exec = Jvm.exec) {x : Int32} {v : Int32} (hd : decode c.code pc = .ok (.ineg, 1)) (hp : pc + 1 = pc') (hv : -x = v)
    (hr : Steps tb e below (T.setTop (mkF m pc' L (.int v :: S))) target) : Steps tb e below (T.setTop (mkF m pc L (.int x :: S))) target := by
  subst hv hp; exact XS.ineg h hx rfl hd rfl hr
theorem own_s_lneg (h : At T m c below) (hx : tb.exec = Jvm.exec) {x : Int64} {v : Int64} (hd : decode c.code pc = .ok (.lneg, 1)) (hp : pc + 1 = pc') (hv : -x = v)
    (hr : Steps tb e below (T.setTop (mkF m pc' L (.long v :: S))) target) : Steps tb e below (T.setTop (mkF m pc L (.long x :: S))) target := by
  subst hv hp; exact XS.lneg h hx rfl hd rfl hr
theorem own_s_i2d (h : At T m c below) (hx : tb.exec = Jvm.exec) {x : Int32} {v : UInt64} (hd : decode c.code pc = .ok (.i2d, 1)) (hp : pc + 1 = pc') (hv : FP.i2d x = v)
    (hr : Steps tb e below (T.setTop (mkF m pc' L (.double v :: S))) target) : Steps tb e below (T.setTop (mkF m pc L (.int x :: S))) target := by
  subst hv hp; exact XS.i2dS h hx rfl hd rfl rfl hr
theorem own_s_l2d (h : At T m c below) (hx : tb.exec = Jvm.exec) {x : Int64} {v : UInt64} (hd : decode c.code pc = .ok (.l2d, 1)) (hp : pc + 1 = pc') (hv : FP.l2d x = v)
    (hr : Steps tb e below (T.setTop (mkF m pc' L (.double v :: S))) target) : Steps tb e below (T.setTop (mkF m pc L (.long x :: S))) target := by
  subst hv hp; exact XS.l2dS h hx rfl hd rfl rfl hr
theorem own_s_dneg (h : At T m c below) (hx : tb.exec = Jvm.exec) {x : UInt64} {v : UInt64} (hd : decode c.code pc = .ok (.dneg, 1)) (hp : pc + 1 = pc') (hv : FP.dneg x = v)
    (hr : Steps tb e below (T.setTop (mkF m pc' L (.double v :: S))) target) : Steps tb e below (T.setTop (mkF m pc L (.double x :: S))) target := by
  subst hv hp; exact XS.dnegS h hx rfl hd rfl rfl hr
theorem own_s_dadd (h : At T m c below) (hx : tb.exec = Jvm.exec) {x y v : UInt64} (hd : decode c.code pc = .ok (.dadd, 1)) (hp : pc + 1 = pc') (hn : Jvm.Free.Fl.NoNaN64 (FP.dadd x y)) (hv : FP.dadd x y = v)
    (hr : Steps tb e below (T.setTop (mkF m pc' L (.double v :: S))) target) : Steps tb e below (T.setTop (mkF m pc L (.double y :: .double x :: S))) target := by
  subst hv hp; exact XS.daddS h hx rfl hd rfl hn rfl hr
theorem own_s_dsub (h : At T m c below) (hx : tb.exec = Jvm.exec) {x y v : UInt64} (hd : decode c.code pc = .ok (.dsub, 1)) (hp : pc + 1 = pc') (hn : Jvm.Free.Fl.NoNaN64 (FP.dsub x y)) (hv : FP.dsub x y = v)
    (hr : Steps tb e below (T.setTop (mkF m pc' L (.double v :: S))) target) : Steps tb e below (T.setTop (mkF m pc L (.double y :: .double x :: S))) target := by
  subst hv hp; exact XS.dsubS h hx rfl hd rfl hn rfl hr
theorem own_s_dmul (h : At T m c below) (hx : tb.exec = Jvm.exec) {x y v : UInt64} (hd : decode c.code pc = .ok (.dmul, 1)) (hp : pc + 1 = pc') (hn : Jvm.Free.Fl.NoNaN64 (FP.dmul x y)) (hv : FP.dmul x y = v)
    (hr : Steps tb e below (T.setTop (mkF m pc' L (.double v :: S))) target) : Steps tb e below (T.setTop (mkF m pc L (.double y :: .double x :: S))) target := by
  subst hv hp; exact XS.dmulS h hx rfl hd rfl hn rfl hr
theorem own_s_ddiv (h : At T m c below) (hx : tb.exec = Jvm.exec) {x y v : UInt64} (hd : decode c.code pc = .ok (.ddiv, 1)) (hp : pc + 1 = pc') (hn : Jvm.Free.Fl.NoNaN64 (FP.ddiv x y)) (hv : FP.ddiv x y = v)
    (hr : Steps tb e below (T.setTop (mkF m pc' L (.double v :: S))) target) : Steps tb e below (T.setTop (mkF m pc L (.double y :: .double x :: S))) target := by
  subst hv hp; exact XS.ddivS h hx rfl hd rfl hn rfl hr
theorem own_s_dcmp (h : At T m c below) (hx : tb.exec = Jvm.exec) {o : CmpOp} {x y : UInt64} {v : Int32} (hd : decode c.code pc = .ok (.dcmp o, 1)) (hp : pc + 1 = pc') (hv : Op.cmpValue (FP.dcmp x y) o = v)
    (hr : Steps tb e below (T.setTop (mkF m pc' L (.int v :: S))) target) : Steps tb e below (T.setTop (mkF m pc L (.double y :: .double x :: S))) target := by
  subst hv hp; exact XS.dcmpS h hx rfl hd rfl rfl hr
theorem own_s_lcmp (h : At T m c below) (hx : tb.exec = Jvm.exec) {x y : Int64} {v : Int32} (hd : decode c.code pc = .ok (.lcmp, 1)) (hp : pc + 1 = pc') (hv : lcmpW x y = v)
    (hr : Steps tb e below (T.setTop (mkF m pc' L (.int v :: S))) target) : Steps tb e below (T.setTop (mkF m pc L (.long y :: .long x :: S))) target := by
  subst hv hp; exact XS.lcmp h hx rfl hd rfl hr
theorem own_s_iconst (h : At T m c below) (hx : tb.exec = Jvm.exec) {i : Int} {v : Int32} (hd : decode c.code pc = .ok (.iconst i, 1)) (hp : pc + 1 = pc') (hv : Int32.ofInt i = v)
    (hr : Steps tb e below (T.setTop (mkF m pc' L (.int v :: S))) target) : Steps tb e below (T.setTop (mkF m pc L S)) target := by
  subst hv hp; exact XS.iconst h hx rfl hd hr
theorem own_s_bipush (h : At T m c below) (hx : tb.exec = Jvm.exec) {i : Int} {v : Int32} (hd : decode c.code pc = .ok (.bipush i, 2)) (hp : pc + 2 = pc') (hv : (Int8.ofInt i).toInt32 = v)
    (hr : Steps tb e below (T.setTop (mkF m pc' L (.int v :: S))) target) : Steps tb e below (T.setTop (mkF m pc L S)) target := by
  subst hv hp; exact XS.bipush h hx rfl hd hr
theorem own_s_sipush (h : At T m c below) (hx : tb.exec = Jvm.exec) {i : Int} {v : Int32} (hd : decode c.code pc = .ok (.sipush i, 3)) (hp : pc + 3 = pc') (hv : (Int16.ofInt i).toInt32 = v)
    (hr : Steps tb e below (T.setTop (mkF m pc' L (.int v :: S))) target) : Steps tb e below (T.setTop (mkF m pc L S)) target := by
  subst hv hp; exact XS.sipush h hx rfl hd hr
theorem own_s_lconst (h : At T m c below) (hx : tb.exec = Jvm.exec) {k : Fin 2} {v : Int64} (hd : decode c.code pc = .ok (.lconst k, 1)) (hp : pc + 1 = pc') (hv : Int64.ofNat k = v)
    (hr : Steps tb e below (T.setTop (mkF m pc' L (.long v :: S))) target) : Steps tb e below (T.setTop (mkF m pc L S)) target := by
  subst hv hp; exact XS.lconst h hx rfl hd hr
theorem own_s_dconst0 (h : At T m c below) (hx : tb.exec = Jvm.exec)  (hd : decode c.code pc = .ok (.dconst 0, 1)) (hp : pc + 1 = pc') 
    (hr : Steps tb e below (T.setTop (mkF m pc' L (.double 0 :: S))) target) : Steps tb e below (T.setTop (mkF m pc L S)) target := by
  subst hp; exact XS.dconst0 h hx rfl hd rfl hr
theorem own_s_dconst1 (h : At T m c below) (hx : tb.exec = Jvm.exec)  (hd : decode c.code pc = .ok (.dconst 1, 1)) (hp : pc + 1 = pc') 
    (hr : Steps tb e below (T.setTop (mkF m pc' L (.double 4607182418800017408 :: S))) target) : Steps tb e below (T.setTop (mkF m pc L S)) target := by
  subst hp; exact XS.dconst1 h hx rfl hd rfl hr
theorem own_s_aconst_null (h : At T m c below) (hx : tb.exec = Jvm.exec)  (hd : decode c.code pc = .ok (.aconst_null, 1)) (hp : pc + 1 = pc') 
    (hr : Steps tb e below (T.setTop (mkF m pc' L (.null :: S))) target) : Steps tb e below (T.setTop (mkF m pc L S)) target := by
  subst hp; exact XS.aconstNull h hx rfl hd hr
theorem own_s_dup (h : At T m c below) (hx : tb.exec = Jvm.exec) {x : Value} (hd : decode c.code pc = .ok (.dup, 1)) (hp : pc + 1 = pc') (hc : x.category = 1)
    (hr : Steps tb e below (T.setTop (mkF m pc' L (x :: x :: S))) target) : Steps tb e below (T.setTop (mkF m pc L (x :: S))) target := by
  subst hp; exact XS.dup h hx rfl hd rfl hc hr
theorem own_s_dupX1 (h : At T m c below) (hx : tb.exec = Jvm.exec) {x y : Value} (hd : decode c.code pc = .ok (.dup_x1, 1)) (hp : pc + 1 = pc') (hc : x.category = 1) (hc' : y.category = 1)
    (hr : Steps tb e below (T.setTop (mkF m pc' L (x :: y :: x :: S))) target) : Steps tb e below (T.setTop (mkF m pc L (x :: y :: S))) target := by
  subst hp; exact XS.dupX1 h hx rfl hd rfl hc hc' hr
theorem own_s_pop (h : At T m c below) (hx : tb.exec = Jvm.exec) {x : Value} (hd : decode c.code pc = .ok (.pop, 1)) (hp : pc + 1 = pc') (hc : x.category = 1)
    (hr : Steps tb e below (T.setTop (mkF m pc' L S)) target) : Steps tb e below (T.setTop (mkF m pc L (x :: S))) target := by
  subst hp; exact XS.pop h hx rfl hd rfl hc hr
theorem own_s_iloadN (h : At T m c below) (hx : tb.exec = Jvm.exec) {k : Fin 4} {v : Int32} (hd : decode c.code pc = .ok (.iload_n k, 1)) (hp : pc + 1 = pc') (hl : L[k.val]? = some (.val (.int v)))
    (hr : Steps tb e below (T.setTop (mkF m pc' L (.int v :: S))) target) : Steps tb e below (T.setTop (mkF m pc L S)) target := by
  subst hp; exact XS.iloadN h hx rfl hd hl hr
theorem own_s_iload (h : At T m c below) (hx : tb.exec = Jvm.exec) {k : Nat} {v : Int32} (hd : decode c.code pc = .ok (.iload k, 2)) (hp : pc + 2 = pc') (hl : L[k]? = some (.val (.int v)))
    (hr : Steps tb e below (T.setTop (mkF m pc' L (.int v :: S))) target) : Steps tb e below (T.setTop (mkF m pc L S)) target := by
  subst hp; exact XS.iload h hx rfl hd hl hr
theorem own_s_istoreN (h : At T m c below) (hx : tb.exec = Jvm.exec) {k : Fin 4} {v : Int32} {L' : Array Slot} (hd : decode c.code pc = .ok (.istore_n k, 1)) (hp : pc + 1 = pc') (hl : storeLocals L k.val (.int v) = some L')
    (hr : Steps tb e below (T.setTop (mkF m pc' L' S)) target) : Steps tb e below (T.setTop (mkF m pc L (.int v :: S))) target := by
  subst hp; exact XS.istoreN h hx rfl hd rfl hl hr
theorem own_s_istore (h : At T m c below) (hx : tb.exec = Jvm.exec) {k : Nat} {v : Int32} {L' : Array Slot} (hd : decode c.code pc = .ok (.istore k, 2)) (hp : pc + 2 = pc') (hl : storeLocals L k (.int v) = some L')
    (hr : Steps tb e below (T.setTop (mkF m pc' L' S)) target) : Steps tb e below (T.setTop (mkF m pc L (.int v :: S))) target := by
  subst hp; exact XS.istore h hx rfl hd rfl hl hr
theorem own_s_lloadN (h : At T m c below) (hx : tb.exec = Jvm.exec) {k : Fin 4} {v : Int64} (hd : decode c.code pc = .ok (.lload_n k, 1)) (hp : pc + 1 = pc') (hl : L[k.val]? = some (.val (.long v)))
    (hr : Steps tb e below (T.setTop (mkF m pc' L (.long v :: S))) target) : Steps tb e below (T.setTop (mkF m pc L S)) target := by
  subst hp; exact XS.lloadN h hx rfl hd hl hr
theorem own_s_lload (h : At T m c below) (hx : tb.exec = Jvm.exec) {k : Nat} {v : Int64} (hd : decode c.code pc = .ok (.lload k, 2)) (hp : pc + 2 = pc') (hl : L[k]? = some (.val (.long v)))
    (hr : Steps tb e below (T.setTop (mkF m pc' L (.long v :: S))) target) : Steps tb e below (T.setTop (mkF m pc L S)) target := by
  subst hp; exact XS.lload h hx rfl hd hl hr
theorem own_s_lstoreN (h : At T m c below) (hx : tb.exec = Jvm.exec) {k : Fin 4} {v : Int64} {L' : Array Slot} (hd : decode c.code pc = .ok (.lstore_n k, 1)) (hp : pc + 1 = pc') (hl : storeLocals L k.val (.long v) = some L')
    (hr : Steps tb e below (T.setTop (mkF m pc' L' S)) target) : Steps tb e below (T.setTop (mkF m pc L (.long v :: S))) target := by
  subst hp; exact XS.lstoreN h hx rfl hd rfl hl hr
theorem own_s_lstore (h : At T m c below) (hx : tb.exec = Jvm.exec) {k : Nat} {v : Int64} {L' : Array Slot} (hd : decode c.code pc = .ok (.lstore k, 2)) (hp : pc + 2 = pc') (hl : storeLocals L k (.long v) = some L')
    (hr : Steps tb e below (T.setTop (mkF m pc' L' S)) target) : Steps tb e below (T.setTop (mkF m pc L (.long v :: S))) target := by
  subst hp; exact XS.lstore h hx rfl hd rfl hl hr
theorem own_s_dloadN (h : At T m c below) (hx : tb.exec = Jvm.exec) {k : Fin 4} {v : UInt64} (hd : decode c.code pc = .ok (.dload_n k, 1)) (hp : pc + 1 = pc') (hl : L[k.val]? = some (.val (.double v)))
    (hr : Steps tb e below (T.setTop (mkF m pc' L (.double v :: S))) target) : Steps tb e below (T.setTop (mkF m pc L S)) target := by
  subst hp; exact XS.dloadN h hx rfl hd hl hr
theorem own_s_dload (h : At T m c below) (hx : tb.exec = Jvm.exec) {k : Nat} {v : UInt64} (hd : decode c.code pc = .ok (.dload k, 2)) (hp : pc + 2 = pc') (hl : L[k]? = some (.val (.double v)))
    (hr : Steps tb e below (T.setTop (mkF m pc' L (.double v :: S))) target) : Steps tb e below (T.setTop (mkF m pc L S)) target := by
  subst hp; exact XS.dload h hx rfl hd hl hr
theorem own_s_dstoreN (h : At T m c below) (hx : tb.exec = Jvm.exec) {k : Fin 4} {v : UInt64} {L' : Array Slot} (hd : decode c.code pc = .ok (.dstore_n k, 1)) (hp : pc + 1 = pc') (hl : storeLocals L k.val (.double v) = some L')
    (hr : Steps tb e below (T.setTop (mkF m pc' L' S)) target) : Steps tb e below (T.setTop (mkF m pc L (.double v :: S))) target := by
  subst hp; exact XS.dstoreN h hx rfl hd rfl hl hr
theorem own_s_dstore (h : At T m c below) (hx : tb.exec = Jvm.exec) {k : Nat} {v : UInt64} {L' : Array Slot} (hd : decode c.code pc = .ok (.dstore k, 2)) (hp : pc + 2 = pc') (hl : storeLocals L k (.double v) = some L')
    (hr : Steps tb e below (T.setTop (mkF m pc' L' S)) target) : Steps tb e below (T.setTop (mkF m pc L (.double v :: S))) target := by
  subst hp; exact XS.dstore h hx rfl hd rfl hl hr
theorem own_s_aloadN (h : At T m c below) (hx : tb.exec = Jvm.exec) {k : Fin 4} {v : Value} (hd : decode c.code pc = .ok (.aload_n k, 1)) (hp : pc + 1 = pc') (hl : L[k.val]? = some (.val v)) (hr0 : v.isRef = true)
    (hr : Steps tb e below (T.setTop (mkF m pc' L (v :: S))) target) : Steps tb e below (T.setTop (mkF m pc L S)) target := by
  subst hp; exact XS.aloadN h hx rfl hd hl hr0 hr
theorem own_s_aload (h : At T m c below) (hx : tb.exec = Jvm.exec) {k : Nat} {v : Value} (hd : decode c.code pc = .ok (.aload k, 2)) (hp : pc + 2 = pc') (hl : L[k]? = some (.val v)) (hr0 : v.isRef = true)
    (hr : Steps tb e below (T.setTop (mkF m pc' L (v :: S))) target) : Steps tb e below (T.setTop (mkF m pc L S)) target := by
  subst hp; exact XS.aload h hx rfl hd hl hr0 hr
theorem own_s_astoreN (h : At T m c below) (hx : tb.exec = Jvm.exec) {k : Fin 4} {v : Value} {L' : Array Slot} (hd : decode c.code pc = .ok (.astore_n k, 1)) (hp : pc + 1 = pc') (hr0 : v.isRef = true) (hl : storeLocals L k.val v = some L')
    (hr : Steps tb e below (T.setTop (mkF m pc' L' S)) target) : Steps tb e below (T.setTop (mkF m pc L (v :: S))) target := by
  subst hp; exact XS.astoreN h hx rfl hd rfl hr0 hl hr
theorem own_s_astore (h : At T m c below) (hx : tb.exec = Jvm.exec) {k : Nat} {v : Value} {L' : Array Slot} (hd : decode c.code pc = .ok (.astore k, 2)) (hp : pc + 2 = pc') (hr0 : v.isRef = true) (hl : storeLocals L k v = some L')
    (hr : Steps tb e below (T.setTop (mkF m pc' L' S)) target) : Steps tb e below (T.setTop (mkF m pc L (v :: S))) target := by
  subst hp; exact XS.astore h hx rfl hd rfl hr0 hl hr
theorem own_s_iinc (h : At T m c below) (hx : tb.exec = Jvm.exec) {k : Nat} {cst : Int} {x v : Int32} {L' : Array Slot} (hd : decode c.code pc = .ok (.iinc k cst, 3)) (hp : pc + 3 = pc') (hl : L[k]? = some (.val (.int x))) (hv : x + Int32.ofInt cst = v) (hl' : storeLocals L k (.int v) = some L')
    (hr : Steps tb e below (T.setTop (mkF m pc' L' S)) target) : Steps tb e below (T.setTop (mkF m pc L S)) target := by
  subst hv hp; exact XS.iinc h hx rfl hd hl hl' hr
theorem own_s_goto (h : At T m c below) (hx : tb.exec = Jvm.exec)  {o : Int} (hd : decode c.code pc = .ok (.goto o, 3)) (ho : 0 ≤ (pc : Int) + o) (hp : ((pc : Int) + o).toNat = pc') 
    (hr : Steps tb e below (T.setTop (mkF m pc' L S)) target) : Steps tb e below (T.setTop (mkF m pc L S)) target := by
  exact XS.goto h hx rfl rfl hd ho hp hr
theorem own_s_ifYes (h : At T m c below) (hx : tb.exec = Jvm.exec) {cd : ClassFile.Cond} {x : Int32} {o : Int} (hd : decode c.code pc = .ok (.ifCond cd o, 3)) (ho : 0 ≤ (pc : Int) + o) (hp : ((pc : Int) + o).toNat = pc') (hc : ifCond.holds cd x = true)
    (hr : Steps tb e below (T.setTop (mkF m pc' L S)) target) : Steps tb e below (T.setTop (mkF m pc L (.int x :: S))) target := by
  exact XS.ifYes h hx rfl rfl hd rfl hc ho hp hr
theorem own_s_icmpYes (h : At T m c below) (hx : tb.exec = Jvm.exec) {cd : ClassFile.Cond} {x y : Int32} {o : Int} (hd : decode c.code pc = .ok (.if_icmp cd o, 3)) (ho : 0 ≤ (pc : Int) + o) (hp : ((pc : Int) + o).toNat = pc') (hc : if_icmp.holds cd x y = true)
    (hr : Steps tb e below (T.setTop (mkF m pc' L S)) target) : Steps tb e below (T.setTop (mkF m pc L (.int y :: .int x :: S))) target := by
  exact XS.icmpYes h hx rfl rfl hd rfl hc ho hp hr
theorem own_s_ifNo (h : At T m c below) (hx : tb.exec = Jvm.exec) {cd : ClassFile.Cond} {o : Int} {x : Int32} (hd : decode c.code pc = .ok (.ifCond cd o, 3)) (hp : pc + 3 = pc') (hc : ifCond.holds cd x = false)
    (hr : Steps tb e below (T.setTop (mkF m pc' L S)) target) : Steps tb e below (T.setTop (mkF m pc L (.int x :: S))) target := by
  subst hp; exact XS.ifNo h hx rfl hd rfl hc hr
theorem own_s_icmpNo (h : At T m c below) (hx : tb.exec = Jvm.exec) {cd : ClassFile.Cond} {o : Int} {x y : Int32} (hd : decode c.code pc = .ok (.if_icmp cd o, 3)) (hp : pc + 3 = pc') (hc : if_icmp.holds cd x y = false)
    (hr : Steps tb e below (T.setTop (mkF m pc' L S)) target) : Steps tb e below (T.setTop (mkF m pc L (.int y :: .int x :: S))) target := by
  subst hp; exact XS.icmpNo h hx rfl hd rfl hc hr
theorem own_s_ifnullYes (h : At T m c below) (hx : tb.exec = Jvm.exec)  {o : Int} (hd : decode c.code pc = .ok (.ifnull o, 3)) (ho : 0 ≤ (pc : Int) + o) (hp : ((pc : Int) + o).toNat = pc') 
    (hr : Steps tb e below (T.setTop (mkF m pc' L S)) target) : Steps tb e below (T.setTop (mkF m pc L (.null :: S))) target := by
  exact XS.ifnullYes h hx rfl rfl hd rfl ho hp hr
theorem own_s_ifnullNo (h : At T m c below) (hx : tb.exec = Jvm.exec) {o : Int} {b : Addr} (hd : decode c.code pc = .ok (.ifnull o, 3)) (hp : pc + 3 = pc') 
    (hr : Steps tb e below (T.setTop (mkF m pc' L S)) target) : Steps tb e below (T.setTop (mkF m pc L (.ref b :: S))) target := by
  subst hp; exact XS.ifnullNo h hx rfl hd rfl hr
theorem own_s_ifnonnullYes (h : At T m c below) (hx : tb.exec = Jvm.exec) {b : Addr} {o : Int} (hd : decode c.code pc = .ok (.ifnonnull o, 3)) (ho : 0 ≤ (pc : Int) + o) (hp : ((pc : Int) + o).toNat = pc') 
    (hr : Steps tb e below (T.setTop (mkF m pc' L S)) target) : Steps tb e below (T.setTop (mkF m pc L (.ref b :: S))) target := by
  exact XS.ifnonnullYes h hx rfl rfl hd rfl ho hp hr
theorem own_s_ifnonnullNo (h : At T m c below) (hx : tb.exec = Jvm.exec) {o : Int} (hd : decode c.code pc = .ok (.ifnonnull o, 3)) (hp : pc + 3 = pc') 
    (hr : Steps tb e below (T.setTop (mkF m pc' L S)) target) : Steps tb e below (T.setTop (mkF m pc L (.null :: S))) target := by
  subst hp; exact XS.ifnonnullNo h hx rfl hd rfl hr
end OwnStep
section OwnHeap
open Jvm Jvm.ClassFile Sem Op Lib Jvm.Free Jvm.Stand Jvm.LawKit Jvm.RoadKit
variable {p : Program} {l : Launch} {e : Env} {R : Room} {s : State} {m : MethodId} {args : Array Value} {below : List Frame} {meth : Method} {c : Code} {T : State} {locs : List Loc} {cells slots : Nat} {Z : State} {a0 : Array Value} {h : Heap} {pc pc' : Nat} {L : Array Slot} {S : List Value} {a : Addr} {k : ClassId} {z : Int32} {vs : List Value} {dv : Value}
theorem own_newD (X : Stand p l e R s m args below meth c T locs cells slots) (hx : p.tables.exec = Jvm.exec) (hZ : Z.Warmed39 s.vm) (w : (Jvm.Cond.arrayClass .double).before a0 Z = true) (eT : T.heap = h) (n : Nat) (hz : z.toNatClampNeg = n) (hz0 : ¬ z < 0) (hb : n * 8 ≤ 536870912) (hc : cells + 1 ≤ R.cells) (hl : slots + n ≤ R.slots) (hd : decode c.code pc = .ok (.newarray .double, 2)) (hp : pc + 2 = pc') :
    ∃ T' h' k b, Stand p l e R s m args below meth c T' locs (cells + 1) (slots + n) ∧ T'.heap = h' ∧ Ext h h' ∧ b = h.size ∧ Arv Z h' b k .double z (List.replicate n (.double 0)) (.double 0) ∧ ∀ target, Steps p.tables e below (T'.setTop (mkF m pc' L (.ref b :: S))) target → Steps p.tables e below (T.setTop (mkF m pc L (.int z :: S))) target := by
  subst hp
  obtain ⟨T', h', k, X', e', E, A, st⟩ := newP X hx hZ (aty := .double) w eT (g := mkF m pc L (.int z :: S)) rfl hd rfl hz0 (cap := n) (Nat.le_of_eq hz) hb hc hl
  exact ⟨T', h', k, h.size, X', e', E, rfl, (Arv.new A hz0).pad (pad_rep [] (.double 0) n), st⟩
theorem own_newJ (X : Stand p l e R s m args below meth c T locs cells slots) (hx : p.tables.exec = Jvm.exec) (hZ : Z.Warmed39 s.vm) (w : (Jvm.Cond.arrayClass .long).before a0 Z = true) (eT : T.heap = h) (n : Nat) (hz : z.toNatClampNeg = n) (hz0 : ¬ z < 0) (hb : n * 8 ≤ 536870912) (hc : cells + 1 ≤ R.cells) (hl : slots + n ≤ R.slots) (hd : decode c.code pc = .ok (.newarray .long, 2)) (hp : pc + 2 = pc') :
    ∃ T' h' k b, Stand p l e R s m args below meth c T' locs (cells + 1) (slots + n) ∧ T'.heap = h' ∧ Ext h h' ∧ b = h.size ∧ Arv Z h' b k .long z (List.replicate n (.long 0)) (.long 0) ∧ ∀ target, Steps p.tables e below (T'.setTop (mkF m pc' L (.ref b :: S))) target → Steps p.tables e below (T.setTop (mkF m pc L (.int z :: S))) target := by
  subst hp
  obtain ⟨T', h', k, X', e', E, A, st⟩ := newP X hx hZ (aty := .long) w eT (g := mkF m pc L (.int z :: S)) rfl hd rfl hz0 (cap := n) (Nat.le_of_eq hz) hb hc hl
  exact ⟨T', h', k, h.size, X', e', E, rfl, (Arv.new A hz0).pad (pad_rep [] (.long 0) n), st⟩
theorem own_stD (X : Stand p l e R s m args below meth c T locs cells slots) (hx : p.tables.exec = Jvm.exec) (hZ : Z.Warmed39 s.vm) (eT : T.heap = h) (V : Arv Z h a k .double z vs dv) {j : Int32} {x : UInt64} (hj : ¬ j < 0 ∧ j < z) (i : Nat) (hi : j.toNatClampNeg = i) (hl : i < vs.length) (hd : decode c.code pc = .ok (.dastore, 1)) (hp : pc + 1 = pc') :
    ∃ T' h', Stand p l e R s m args below meth c T' (locs ++ [⟨a, j.toNatClampNeg⟩]) cells slots ∧ T'.heap = h' ∧ Wr h h' a j.toNatClampNeg (.double x) ∧ Arv Z h' a k .double z (vs.set i (.double x)) dv ∧ ∀ target, Steps p.tables e below (T'.setTop (mkF m pc' L S)) target → Steps p.tables e below (T.setTop (mkF m pc L (.double x :: .int j :: .ref a :: S))) target := by
  subst hp
  obtain ⟨cl, A, q1, S1, q3, H, G⟩ := V
  obtain ⟨T', h', X', e', W, st⟩ := stD X hx hZ eT A (j := j) (x := x) (inb_of S1 hj) (g := mkF m pc L (.double x :: .int j :: .ref a :: S)) rfl rfl hd
  exact ⟨T', h', X', e', W, Arv.set A q1 S1 q3 H G rfl W i hi hl, st⟩
theorem own_ldD (X : Stand p l e R s m args below meth c T locs cells slots) (hx : p.tables.exec = Jvm.exec) (hZ : Z.Warmed39 s.vm) (eT : T.heap = h) (V : Arv Z h a k .double z vs dv) {j : Int32} {x : UInt64} (hj : ¬ j < 0 ∧ j < z) (hv : vs.getD j.toNatClampNeg dv = .double x) (hd : decode c.code pc = .ok (.daload, 1)) (hp : pc + 1 = pc') {target : State}
    (hr : Steps p.tables e below (T.setTop (mkF m pc' L (.double x :: S))) target) : Steps p.tables e below (T.setTop (mkF m pc L (.int j :: .ref a :: S))) target := by
  subst hp
  obtain ⟨cl, A, q1, S1, q3, H, G⟩ := V
  exact X.daload hx (j := j) (v := .double x) (by rw [eT]; exact A.1) (State.isArrayOf_alike hZ.alike A.2.1) A.2.2 (inb_of S1 hj) (H.at (inb_of S1 hj) hv) (g := mkF m pc L (.int j :: .ref a :: S)) rfl rfl hd target hr
theorem own_len {ty : FieldType} (X : Stand p l e R s m args below meth c T locs cells slots) (hx : p.tables.exec = Jvm.exec) (hZ : Z.Warmed39 s.vm) (eT : T.heap = h) (V : Arv Z h a k ty z vs dv) (hd : decode c.code pc = .ok (.arraylength, 1)) (hp : pc + 1 = pc') {target : State}
    (hr : Steps p.tables e below (T.setTop (mkF m pc' L (.int z :: S))) target) : Steps p.tables e below (T.setTop (mkF m pc L (.ref a :: S))) target := by
  subst hp
  obtain ⟨cl, A, q1, S1, q3, H, G⟩ := V
  refine X.arraylength hx (by rw [eT]; exact A.1) (State.isArrayOf_alike hZ.alike A.2.1) (g := mkF m pc L (.ref a :: S)) rfl rfl hd target ?_
  rw [len_of S1 q3]
  exact hr
theorem own_retI (X : Stand p l e R s m args below meth c T locs cells slots) (hx : p.tables.exec = Jvm.exec) {x : Int32} (hret : meth.sig.returnType = some .int) (hd : decode c.code pc = .ok (.ireturn, 1)) {fs : List Frame}
    (hl : ∀ (f : JFrame) (acts : List Action), f.method = m → f.locked = none → f.entered = [] → (doReturn e (T.setTop f) acts (some (.int x))).1 = T.setFrames fs) : Steps p.tables e below (T.setTop (mkF m pc L (.int x :: S))) (T.setFrames fs) := by
  have hm' : T.vm.method? m = some meth := X.method'
  have hn : narrow .int (.int x) = .int x := rfl
  show Steps p.tables e below (T.setTop { method := m, pc := pc, locals := L, stack := _ :: S, locked := none }) _
  jvm_step X.here [X.here.top, hx, hd, hm', hret, hn]
  first | (intro acts; rw [hl _ acts rfl rfl rfl]) | rw [hl _ _ rfl rfl rfl]
  exact Steps.refl _
theorem own_retD (X : Stand p l e R s m args below meth c T locs cells slots) (hx : p.tables.exec = Jvm.exec) {x : UInt64} (hret : meth.sig.returnType = some .double) (hd : decode c.code pc = .ok (.dreturn, 1)) {fs : List Frame}
    (hl : ∀ (f : JFrame) (acts : List Action), f.method = m → f.locked = none → f.entered = [] → (doReturn e (T.setTop f) acts (some (.double x))).1 = T.setFrames fs) : Steps p.tables e below (T.setTop (mkF m pc L (.double x :: S))) (T.setFrames fs) := by
  have hm' : T.vm.method? m = some meth := X.method'
  show Steps p.tables e below (T.setTop { method := m, pc := pc, locals := L, stack := _ :: S, locked := none }) _
  jvm_step X.here [X.here.top, hx, hd, hm', hret, narrow]
  first | (intro acts; rw [hl _ acts rfl rfl rfl]) | rw [hl _ _ rfl rfl rfl]
  exact Steps.refl _
theorem own_retJ (X : Stand p l e R s m args below meth c T locs cells slots) (hx : p.tables.exec = Jvm.exec) {x : Int64} (hret : meth.sig.returnType = some .long) (hd : decode c.code pc = .ok (.lreturn, 1)) {fs : List Frame}
    (hl : ∀ (f : JFrame) (acts : List Action), f.method = m → f.locked = none → f.entered = [] → (doReturn e (T.setTop f) acts (some (.long x))).1 = T.setFrames fs) : Steps p.tables e below (T.setTop (mkF m pc L (.long x :: S))) (T.setFrames fs) := by
  have hm' : T.vm.method? m = some meth := X.method'
  show Steps p.tables e below (T.setTop { method := m, pc := pc, locals := L, stack := _ :: S, locked := none }) _
  jvm_step X.here [X.here.top, hx, hd, hm', hret, narrow]
  first | (intro acts; rw [hl _ acts rfl rfl rfl]) | rw [hl _ _ rfl rfl rfl]
  exact Steps.refl _
theorem own_retR (X : Stand p l e R s m args below meth c T locs cells slots) (hx : p.tables.exec = Jvm.exec) {b : Addr} {t : FieldType} (hret : meth.sig.returnType = some t) (ht : t.isReference = true) (hd : decode c.code pc = .ok (.areturn, 1)) {fs : List Frame}
    (hl : ∀ (f : JFrame) (acts : List Action), f.method = m → f.locked = none → f.entered = [] → (doReturn e (T.setTop f) acts (some (.ref b))).1 = T.setFrames fs) : Steps p.tables e below (T.setTop (mkF m pc L (.ref b :: S))) (T.setFrames fs) := by
  have hm' : T.vm.method? m = some meth := X.method'
  show Steps p.tables e below (T.setTop { method := m, pc := pc, locals := L, stack := _ :: S, locked := none }) _
  jvm_step X.here [X.here.top, hx, hd, hm', hret, Value.isRef, ht]
  first | (intro acts; rw [hl _ acts rfl rfl rfl]) | rw [hl _ _ rfl rfl rfl]
  exact Steps.refl _
end OwnHeap
open Jvm Jvm.ClassFile Sem Op Lib Jvm.Free Jvm.Stand Jvm.LawKit Jvm.RoadKit Bundle Jvm.Pilot.@@N@@.Jvm.D
def own_Q0 (n0 : Nat) (v : Option Value) (h : Heap) (L : List Loc) : Prop := v = some (.int 1) ∧ Fr n0 L
def own_QP (r : Option Value) (h0 : Heap) (n0 : Nat) (v : Option Value) (h : Heap) (L : List Loc) : Prop := v = r ∧ Fr n0 L ∧ h = h0
theorem own_modN (x : Int32) : ∀ v, x &&& 2147483647 = v → v % 5 = 0 ∨ v % 5 = 1 ∨ v % 5 = 2 ∨ v % 5 = 3 ∨ v % 5 = 4 := by
  intro v hv
  have h1 := c_mask x 2147483647 31 (by decide) (by decide)
  rw [hv] at h1
  have h2 := (c_irem v 5 5 (by decide)).1 (by omega)
  have e : ∀ k : Int32, v % 5 = k ↔ (v % 5).toInt = k.toInt := fun k => Int32.toInt_inj.symm
  simp only [e, show (0 : Int32).toInt = 0 from rfl, show (1 : Int32).toInt = 1 from rfl, show (2 : Int32).toInt = 2 from rfl, show (3 : Int32).toInt = 3 from rfl, show (4 : Int32).toInt = 4 from rfl]
  omega
theorem own_d1_0 : decode prog_64_method_2_code 0 = .ok (.dconst 0, 1) := by decide +kernel
theorem own_d1_1 : decode prog_64_method_2_code 1 = .ok (.dstore_n 1, 1) := by decide +kernel
theorem own_d1_2 : decode prog_64_method_2_code 2 = .ok (.aload_n 0, 1) := by decide +kernel
theorem own_d1_3 : decode prog_64_method_2_code 3 = .ok (.astore_n 3, 1) := by decide +kernel
theorem own_d1_4 : decode prog_64_method_2_code 4 = .ok (.aload_n 3, 1) := by decide +kernel
theorem own_d1_5 : decode prog_64_method_2_code 5 = .ok (.arraylength, 1) := by decide +kernel
theorem own_d1_6 : decode prog_64_method_2_code 6 = .ok (.istore 4, 2) := by decide +kernel
theorem own_d1_8 : decode prog_64_method_2_code 8 = .ok (.iconst 0, 1) := by decide +kernel
theorem own_d1_9 : decode prog_64_method_2_code 9 = .ok (.istore 5, 2) := by decide +kernel
theorem own_d1_11 : decode prog_64_method_2_code 11 = .ok (.iload 5, 2) := by decide +kernel
theorem own_d1_13 : decode prog_64_method_2_code 13 = .ok (.iload 4, 2) := by decide +kernel
theorem own_d1_15 : decode prog_64_method_2_code 15 = .ok (.if_icmp .ge 20, 3) := by decide +kernel
theorem own_d1_35 : decode prog_64_method_2_code 35 = .ok (.dload_n 1, 1) := by decide +kernel
theorem own_d1_36 : decode prog_64_method_2_code 36 = .ok (.dreturn, 1) := by decide +kernel
theorem own_pn_com_example_hachure_hachure_render_DashWalk : plainName "com/example/hachure/hachure/render/DashWalk" = true := by first | (simp [plainName, overriddenIn]; done) | decide +kernel
theorem own_ef_c0 (m : MethodId) (q : Addr) : entryFrame m #[(.ref q)] 8 = mkF m 0 #[.val (.ref q), .unset, .unset, .unset, .unset, .unset, .unset, .unset] [] := by first | (simp [entryFrame, mkF, argsToLocals, Value.category]; done) | rfl
set_option maxRecDepth 65536 in
set_option maxHeartbeats 40000000 in
theorem own_rm_c0 (l : Launch) (Z : State) (a0 : Array Value) (hw : ∀ d ∈ tables_1, d.before a0 Z = true) (ws : List Jvm.Cond) (q : Addr) {qk : ClassId} (h0 : Heap) (n0 : Nat) (Z0 : n0 ≤ h0.size) (V_q : Arv Z h0 q qk .double (0 : Int32) [] (.double 0))  :
    MetFree l (⟨"com/example/hachure/hachure/render/DashWalk", "period", "([D)D"⟩ : MethodName) (head1 (Jvm.Cond.code (⟨"com/example/hachure/hachure/render/DashWalk", "period", "([D)D"⟩ : MethodName) prog_64_method_2_code 8 (some .double) :: ws) ({ frames := 0, cells := 0, slots := 0, locals := 0 } : Room)) (fun a U => a = #[(.ref q)] ∧ Z.Warmed39 U.vm ∧ U.heap = h0) (fun _ _ _ _ _ => True) (fun _ U o U' => ∃ v L, o = .returned v ∧ own_QP (some (.double 0)) h0 n0 v U'.heap L ∧ FrameEnd U o U' L ({ frames := 0, cells := 0, slots := 0, locals := 0 } : Room).cells ({ frames := 0, cells := 0, slots := 0, locals := 0 } : Room).slots) := by
  refine MetFree.of_bodySF (plainFor_of_name own_pn_com_example_hachure_hachure_render_DashWalk) hisR ?_
  intro p e s m args below meth c s₁ Bd hml0 hP hK
  obtain ⟨rfl, hZ, hh⟩ := hP
  have hx := Bd.exec
  have hby := Bd.bytes
  have hml : c.maxLocals = 8 := hml0
  have hown : s.vm.findClass "com/example/hachure/hachure/render/DashWalk" = some m.cls := findClass_of_methodNamed Bd.named
  have hnm := (name_of_methodNamed Bd.named Bd.method).1
  have X0 : Stand p l e ({ frames := 0, cells := 0, slots := 0, locals := 0 } : Room) s m #[(.ref q)] below meth c s₁ [] 0 0 := Stand.of_body Bd
  have e0 : s₁.heap = h0 := by rw [← hh, Bd.state]; rfl
  have N0 := Fr.nil n0
  have pre0 : ∀ t, Steps p.tables e below (s₁.setTop (mkF m 0 #[.val (.ref q), .unset, .unset, .unset, .unset, .unset, .unset, .unset] [])) t → Steps p.tables e below (s₁.setTop (entryFrame m #[(.ref q)] 8)) t := fun t k => castTop (own_ef_c0 m q) k
  obtain ⟨fs, hr, hrun, hended, hW, hsame⟩ := X0.leave (v := some (.double 0)) (fun h => by rw [Bd.returns] at h; cases h)
  refine ⟨_, _, pre0 _ ?_, hrun, hended, _, _, rfl, ?_, ⟨_, rfl⟩, hW, hsame.mono (by decide) (by decide)⟩
  · refine own_s_dconst0 X0.here hx (hb hby own_d1_0) (pc' := 1) rfl  ?_
    refine own_s_dstoreN X0.here hx (hb hby own_d1_1) (pc' := 2) rfl (L' := #[.val (.ref q), .val (.double 0), .second, .unset, .unset, .unset, .unset, .unset]) rfl ?_
    refine own_s_aloadN X0.here hx (hb hby own_d1_2) (pc' := 3) rfl rfl rfl ?_
    refine own_s_astoreN X0.here hx (hb hby own_d1_3) (pc' := 4) rfl rfl (L' := #[.val (.ref q), .val (.double 0), .second, .val (.ref q), .unset, .unset, .unset, .unset]) rfl ?_
    refine own_s_aloadN X0.here hx (hb hby own_d1_4) (pc' := 5) rfl rfl rfl ?_
    refine own_len X0 hx hZ e0 V_q (hb hby own_d1_5) (pc' := 6) rfl ?_
    refine own_s_istore X0.here hx (hb hby own_d1_6) (pc' := 8) rfl (L' := #[.val (.ref q), .val (.double 0), .second, .val (.ref q), .val (.int (0 : Int32)), .unset, .unset, .unset]) rfl ?_
    refine own_s_iconst X0.here hx (hb hby own_d1_8) (pc' := 9) rfl (v := (0 : Int32)) (by decide) ?_
    refine own_s_istore X0.here hx (hb hby own_d1_9) (pc' := 11) rfl (L' := #[.val (.ref q), .val (.double 0), .second, .val (.ref q), .val (.int (0 : Int32)), .val (.int (0 : Int32)), .unset, .unset]) rfl ?_
    refine own_s_iload X0.here hx (hb hby own_d1_11) (pc' := 13) rfl rfl ?_
    refine own_s_iload X0.here hx (hb hby own_d1_13) (pc' := 15) rfl rfl ?_
    refine own_s_icmpYes X0.here hx (hb hby own_d1_15) (by decide) (pc' := 35) (by decide) (by decide) ?_
    refine own_s_dloadN X0.here hx (hb hby own_d1_35) (pc' := 36) rfl rfl ?_
    exact own_retD X0 hx Bd.returns (hb hby own_d1_36) hr
  · show own_QP (some (.double 0)) h0 n0 _ s₁.heap _
    rw [e0]
    exact ⟨rfl, N0, rfl⟩
theorem own_pd_285bD29D : parseMethodDescriptor "([D)D" = some ⟨[(.array .double)], some .double⟩ := by decide +kernel
theorem own_pn_com_example_hachure_hachure_render_DashWalkPeriodPinLaw : plainName "com/example/hachure/hachure/render/DashWalkPeriodPinLaw" = true := by first | (simp [plainName, overriddenIn]; done) | decide +kernel
theorem own_ef_w0 (m : MethodId) (p0 : Int32) (p1 : Int32) (p2 : Int32) (p3 : Int32) (p4 : Int32) : entryFrame m #[(.int p0), (.int p1), (.int p2), (.int p3), (.int p4)] maxLocals = mkF m 0 #[.val (.int p0), .val (.int p1), .val (.int p2), .val (.int p3), .val (.int p4), .unset, .unset, .unset, .unset, .unset, .unset, .unset, .unset, .unset, .unset, .unset, .unset] [] := by first | (simp [entryFrame, mkF, argsToLocals, Value.category, maxLocals]; done) | rfl
set_option maxRecDepth 65536 in
set_option maxHeartbeats 40000000 in
theorem own_rm_w0 (l : Launch) (Z : State) (a0 : Array Value) (hw : ∀ d ∈ tables_1, d.before a0 Z = true) (ws : List Jvm.Cond) (p0 : Int32) (p1 : Int32) (p2 : Int32) (p3 : Int32) (p4 : Int32) {w0_v3 : Int32} {w0_v11 : Int32} {w0_v16 : UInt64} {w0_v22 : Int32} {w0_v27 : UInt64} {w0_v33 : Int32} {w0_v38 : UInt64} {w0_v45 : Int32} {w0_v50 : UInt64} (h0 : Heap) (n0 : Nat) (Z0 : n0 ≤ h0.size)  (w0_hv3 : p0 &&& (2147483647 : Int32) = w0_v3) (w0_hv5 : w0_v3 % (5 : Int32) = (0 : Int32)) (w0_hv11 : p1 &&& (65535 : Int32) = w0_v11) (w0_hn16 : Jvm.Free.Fl.NoNaN64 (FP.ddiv (FP.i2d w0_v11) (4620693217682128896 : UInt64))) (w0_hv16 : FP.ddiv (FP.i2d w0_v11) (4620693217682128896 : UInt64) = w0_v16) (w0_hv22 : p2 &&& (65535 : Int32) = w0_v22) (w0_hn27 : Jvm.Free.Fl.NoNaN64 (FP.ddiv (FP.i2d w0_v22) (4620693217682128896 : UInt64))) (w0_hv27 : FP.ddiv (FP.i2d w0_v22) (4620693217682128896 : UInt64) = w0_v27) (w0_hv33 : p3 &&& (65535 : Int32) = w0_v33) (w0_hn38 : Jvm.Free.Fl.NoNaN64 (FP.ddiv (FP.i2d w0_v33) (4620693217682128896 : UInt64))) (w0_hv38 : FP.ddiv (FP.i2d w0_v33) (4620693217682128896 : UInt64) = w0_v38) (w0_hv45 : p4 &&& (65535 : Int32) = w0_v45) (w0_hn50 : Jvm.Free.Fl.NoNaN64 (FP.ddiv (FP.i2d w0_v45) (4620693217682128896 : UInt64))) (w0_hv50 : FP.ddiv (FP.i2d w0_v45) (4620693217682128896 : UInt64) = w0_v50) (w0_hc207 : Op.cmpValue (FP.dcmp 0 0) .l = (0 : Int32)) :
    MetFree l x (head1 (Jvm.Cond.code x code maxLocals ret :: ws) room_1) (fun a U => a = #[(.int p0), (.int p1), (.int p2), (.int p3), (.int p4)] ∧ Z.Warmed39 U.vm ∧ U.heap = h0) (fun _ _ _ _ _ => True) (fun _ U o U' => ∃ v L, o = .returned v ∧ own_Q0 n0 v U'.heap L ∧ FrameEnd U o U' L room_1.cells room_1.slots) := by
  refine MetFree.of_bodySF (plainFor_of_name own_pn_com_example_hachure_hachure_render_DashWalkPeriodPinLaw) hisR ?_
  intro p e s m args below meth c s₁ Bd hml0 hP hK
  obtain ⟨rfl, hZ, hh⟩ := hP
  have hx := Bd.exec
  have hby := Bd.bytes
  have hml : c.maxLocals = 17 := hml0
  have hown : s.vm.findClass "com/example/hachure/hachure/render/DashWalkPeriodPinLaw" = some m.cls := findClass_of_methodNamed Bd.named
  have hnm := (name_of_methodNamed Bd.named Bd.method).1
  have X0 : Stand p l e room_1 s m #[(.int p0), (.int p1), (.int p2), (.int p3), (.int p4)] below meth c s₁ [] 0 0 := Stand.of_body Bd
  have e0 : s₁.heap = h0 := by rw [← hh, Bd.state]; rfl
  have N0 := Fr.nil n0
  have pre0 : ∀ t, Steps p.tables e below (s₁.setTop (mkF m 0 #[.val (.int p0), .val (.int p1), .val (.int p2), .val (.int p3), .val (.int p4), .unset, .unset, .unset, .unset, .unset, .unset, .unset, .unset, .unset, .unset, .unset, .unset] [])) t → Steps p.tables e below (s₁.setTop (entryFrame m #[(.int p0), (.int p1), (.int p2), (.int p3), (.int p4)] maxLocals)) t := fun t k => castTop (own_ef_w0 m p0 p1 p2 p3 p4) k
  obtain ⟨Tw01, hw01, kw01, bw01, Xw01, ew01, Ew01, Gw01, Vw01, stw01⟩ := own_newD (L := #[.val (.int p0), .val (.int p1), .val (.int p2), .val (.int p3), .val (.int p4), .val (.int (0 : Int32)), .val (.double w0_v16), .second, .val (.double w0_v27), .second, .val (.double w0_v38), .second, .val (.double w0_v50), .second, .unset, .unset, .unset]) (S := []) X0 hx hZ (hw _ (List.mem_of_getElem? (i := 3) rfl)) e0 (z := (0 : Int32)) 0 (by decide) (by decide) (by decide) (by decide) (by decide) (hb hby at_59) (pc' := 61) rfl
  have g_bw01 : n0 ≤ bw01 := Nat.le_trans Z0 (Nat.le_of_eq Gw01.symm)
  have sz_bw01 : h0.size ≤ bw01 := Nat.le_trans (Keep.refl h0 []).1 (Nat.le_of_eq Gw01.symm)
  have Zw01 : n0 ≤ hw01.size := Nat.le_trans Z0 Ew01.1
  have KKw01 := (Keep.refl h0 []).ext Ew01
  have V_bw01 : Arv Z hw01 bw01 kw01 .double (0 : Int32) [] (.double 0) := Vw01
  obtain ⟨_, _, ⟨Tw02, Lw02, kw02, nw02⟩, -, Xw02, ⟨Lcw02, hQw02, lw02, yw02, zw02⟩, stw02⟩ := Jvm.LawKit.callS Xw01 hx (y := (⟨"com/example/hachure/hachure/render/DashWalk", "period", "([D)D"⟩ : MethodName)) hown (mvT hZ (hw _ (List.mem_of_getElem? (i := 4) rfl))) (mvT hZ (hw _ (List.mem_of_getElem? (i := 5) rfl))) (mvT hZ (hw _ (List.mem_of_getElem? (i := 6) rfl))) (mvT hZ (hw _ (List.mem_of_getElem? (i := 7) rfl))) (by decide) (backOf (W := 0) (own_rm_c0 l Z a0 hw [] bw01 hw01 n0 Zw01 V_bw01) hZ (hw _ (List.mem_of_getElem? (i := 7) rfl)) (hw _ (List.mem_of_getElem? (i := 6) rfl)) (by decide) (by decide)) (g := (mkF m 202 #[.val (.int p0), .val (.int p1), .val (.int p2), .val (.int p3), .val (.int p4), .val (.int (0 : Int32)), .val (.double w0_v16), .second, .val (.double w0_v27), .second, .val (.double w0_v38), .second, .val (.double w0_v50), .second, .val (.ref bw01), .val (.double 0), .second] [(.ref bw01)])) rfl (by rw [hml]; rfl) (argsL := [(.ref bw01)]) (rest := []) (lenOf own_pd_285bD29D rfl) rfl (by show 2 * 0 + _ ≤ _; exact Nat.le_of_eq rfl) (hb hby at_202) (fun _ _ => ⟨rfl, ew01, (by decide : 1 + 0 ≤ _), (by decide : 0 + 0 ≤ _)⟩)
  dsimp only [Pt.U, Pt.locs, Pt.cells, Pt.slots] at Xw02 lw02 yw02 zw02 stw02 hQw02
  subst lw02 yw02 zw02
  obtain ⟨rfl, Nw02q, ew02⟩ := hQw02
  have Nw02 := Fr.app N0 Nw02q
  obtain ⟨fs, hr, hrun, hended, hW, hsame⟩ := Xw02.leave (v := some (.int (1 : Int32))) (fun h => by rw [Bd.returns] at h; cases h)
  refine ⟨_, _, pre0 _ ?_, hrun, hended, _, _, rfl, ?_, ⟨_, rfl⟩, hW, hsame.mono (by decide) (by decide)⟩
  · refine own_s_iloadN X0.here hx (hb hby at_0) (pc' := 1) rfl rfl ?_
    refine X0.ldcInt hx hown (mvT hZ (hw _ (List.mem_of_getElem? (i := 0) rfl))) (g := (mkF m 1 #[.val (.int p0), .val (.int p1), .val (.int p2), .val (.int p3), .val (.int p4), .unset, .unset, .unset, .unset, .unset, .unset, .unset, .unset, .unset, .unset, .unset, .unset] [(.int p0)])) rfl (hb hby at_1) _ ?_
    show Steps p.tables e below (s₁.setTop (mkF m 3 #[.val (.int p0), .val (.int p1), .val (.int p2), .val (.int p3), .val (.int p4), .unset, .unset, .unset, .unset, .unset, .unset, .unset, .unset, .unset, .unset, .unset, .unset] [(.int (2147483647 : Int32)), (.int p0)])) _
    refine own_s_iand X0.here hx (hb hby at_3) (pc' := 4) rfl (v := w0_v3) w0_hv3 ?_
    refine own_s_iconst X0.here hx (hb hby at_4) (pc' := 5) rfl (v := (5 : Int32)) (by decide) ?_
    refine own_s_irem X0.here hx (hb hby at_5) (pc' := 6) rfl (by decide) (v := (0 : Int32)) w0_hv5 ?_
    refine own_s_istore X0.here hx (hb hby at_6) (pc' := 8) rfl (L' := #[.val (.int p0), .val (.int p1), .val (.int p2), .val (.int p3), .val (.int p4), .val (.int (0 : Int32)), .unset, .unset, .unset, .unset, .unset, .unset, .unset, .unset, .unset, .unset, .unset]) rfl ?_
    refine own_s_iloadN X0.here hx (hb hby at_8) (pc' := 9) rfl rfl ?_
    refine X0.ldcInt hx hown (mvT hZ (hw _ (List.mem_of_getElem? (i := 1) rfl))) (g := (mkF m 9 #[.val (.int p0), .val (.int p1), .val (.int p2), .val (.int p3), .val (.int p4), .val (.int (0 : Int32)), .unset, .unset, .unset, .unset, .unset, .unset, .unset, .unset, .unset, .unset, .unset] [(.int p1)])) rfl (hb hby at_9) _ ?_
    show Steps p.tables e below (s₁.setTop (mkF m 11 #[.val (.int p0), .val (.int p1), .val (.int p2), .val (.int p3), .val (.int p4), .val (.int (0 : Int32)), .unset, .unset, .unset, .unset, .unset, .unset, .unset, .unset, .unset, .unset, .unset] [(.int (65535 : Int32)), (.int p1)])) _
    refine own_s_iand X0.here hx (hb hby at_11) (pc' := 12) rfl (v := w0_v11) w0_hv11 ?_
    refine own_s_i2d X0.here hx (hb hby at_12) (pc' := 13) rfl (v := (FP.i2d w0_v11)) rfl ?_
    refine X0.ldc2DoubleC hx hown (mvT hZ (hw _ (List.mem_of_getElem? (i := 2) rfl))) (g := (mkF m 13 #[.val (.int p0), .val (.int p1), .val (.int p2), .val (.int p3), .val (.int p4), .val (.int (0 : Int32)), .unset, .unset, .unset, .unset, .unset, .unset, .unset, .unset, .unset, .unset, .unset] [(.double (FP.i2d w0_v11))])) rfl (hb hby at_13) _ ?_
    show Steps p.tables e below (s₁.setTop (mkF m 16 #[.val (.int p0), .val (.int p1), .val (.int p2), .val (.int p3), .val (.int p4), .val (.int (0 : Int32)), .unset, .unset, .unset, .unset, .unset, .unset, .unset, .unset, .unset, .unset, .unset] [(.double (4620693217682128896 : UInt64)), (.double (FP.i2d w0_v11))])) _
    refine own_s_ddiv X0.here hx (hb hby at_16) (pc' := 17) rfl w0_hn16 (v := w0_v16) w0_hv16 ?_
    refine own_s_dstore X0.here hx (hb hby at_17) (pc' := 19) rfl (L' := #[.val (.int p0), .val (.int p1), .val (.int p2), .val (.int p3), .val (.int p4), .val (.int (0 : Int32)), .val (.double w0_v16), .second, .unset, .unset, .unset, .unset, .unset, .unset, .unset, .unset, .unset]) rfl ?_
    refine own_s_iloadN X0.here hx (hb hby at_19) (pc' := 20) rfl rfl ?_
    refine X0.ldcInt hx hown (mvT hZ (hw _ (List.mem_of_getElem? (i := 1) rfl))) (g := (mkF m 20 #[.val (.int p0), .val (.int p1), .val (.int p2), .val (.int p3), .val (.int p4), .val (.int (0 : Int32)), .val (.double w0_v16), .second, .unset, .unset, .unset, .unset, .unset, .unset, .unset, .unset, .unset] [(.int p2)])) rfl (hb hby at_20) _ ?_
    show Steps p.tables e below (s₁.setTop (mkF m 22 #[.val (.int p0), .val (.int p1), .val (.int p2), .val (.int p3), .val (.int p4), .val (.int (0 : Int32)), .val (.double w0_v16), .second, .unset, .unset, .unset, .unset, .unset, .unset, .unset, .unset, .unset] [(.int (65535 : Int32)), (.int p2)])) _
    refine own_s_iand X0.here hx (hb hby at_22) (pc' := 23) rfl (v := w0_v22) w0_hv22 ?_
    refine own_s_i2d X0.here hx (hb hby at_23) (pc' := 24) rfl (v := (FP.i2d w0_v22)) rfl ?_
    refine X0.ldc2DoubleC hx hown (mvT hZ (hw _ (List.mem_of_getElem? (i := 2) rfl))) (g := (mkF m 24 #[.val (.int p0), .val (.int p1), .val (.int p2), .val (.int p3), .val (.int p4), .val (.int (0 : Int32)), .val (.double w0_v16), .second, .unset, .unset, .unset, .unset, .unset, .unset, .unset, .unset, .unset] [(.double (FP.i2d w0_v22))])) rfl (hb hby at_24) _ ?_
    show Steps p.tables e below (s₁.setTop (mkF m 27 #[.val (.int p0), .val (.int p1), .val (.int p2), .val (.int p3), .val (.int p4), .val (.int (0 : Int32)), .val (.double w0_v16), .second, .unset, .unset, .unset, .unset, .unset, .unset, .unset, .unset, .unset] [(.double (4620693217682128896 : UInt64)), (.double (FP.i2d w0_v22))])) _
    refine own_s_ddiv X0.here hx (hb hby at_27) (pc' := 28) rfl w0_hn27 (v := w0_v27) w0_hv27 ?_
    refine own_s_dstore X0.here hx (hb hby at_28) (pc' := 30) rfl (L' := #[.val (.int p0), .val (.int p1), .val (.int p2), .val (.int p3), .val (.int p4), .val (.int (0 : Int32)), .val (.double w0_v16), .second, .val (.double w0_v27), .second, .unset, .unset, .unset, .unset, .unset, .unset, .unset]) rfl ?_
    refine own_s_iloadN X0.here hx (hb hby at_30) (pc' := 31) rfl rfl ?_
    refine X0.ldcInt hx hown (mvT hZ (hw _ (List.mem_of_getElem? (i := 1) rfl))) (g := (mkF m 31 #[.val (.int p0), .val (.int p1), .val (.int p2), .val (.int p3), .val (.int p4), .val (.int (0 : Int32)), .val (.double w0_v16), .second, .val (.double w0_v27), .second, .unset, .unset, .unset, .unset, .unset, .unset, .unset] [(.int p3)])) rfl (hb hby at_31) _ ?_
    show Steps p.tables e below (s₁.setTop (mkF m 33 #[.val (.int p0), .val (.int p1), .val (.int p2), .val (.int p3), .val (.int p4), .val (.int (0 : Int32)), .val (.double w0_v16), .second, .val (.double w0_v27), .second, .unset, .unset, .unset, .unset, .unset, .unset, .unset] [(.int (65535 : Int32)), (.int p3)])) _
    refine own_s_iand X0.here hx (hb hby at_33) (pc' := 34) rfl (v := w0_v33) w0_hv33 ?_
    refine own_s_i2d X0.here hx (hb hby at_34) (pc' := 35) rfl (v := (FP.i2d w0_v33)) rfl ?_
    refine X0.ldc2DoubleC hx hown (mvT hZ (hw _ (List.mem_of_getElem? (i := 2) rfl))) (g := (mkF m 35 #[.val (.int p0), .val (.int p1), .val (.int p2), .val (.int p3), .val (.int p4), .val (.int (0 : Int32)), .val (.double w0_v16), .second, .val (.double w0_v27), .second, .unset, .unset, .unset, .unset, .unset, .unset, .unset] [(.double (FP.i2d w0_v33))])) rfl (hb hby at_35) _ ?_
    show Steps p.tables e below (s₁.setTop (mkF m 38 #[.val (.int p0), .val (.int p1), .val (.int p2), .val (.int p3), .val (.int p4), .val (.int (0 : Int32)), .val (.double w0_v16), .second, .val (.double w0_v27), .second, .unset, .unset, .unset, .unset, .unset, .unset, .unset] [(.double (4620693217682128896 : UInt64)), (.double (FP.i2d w0_v33))])) _
    refine own_s_ddiv X0.here hx (hb hby at_38) (pc' := 39) rfl w0_hn38 (v := w0_v38) w0_hv38 ?_
    refine own_s_dstore X0.here hx (hb hby at_39) (pc' := 41) rfl (L' := #[.val (.int p0), .val (.int p1), .val (.int p2), .val (.int p3), .val (.int p4), .val (.int (0 : Int32)), .val (.double w0_v16), .second, .val (.double w0_v27), .second, .val (.double w0_v38), .second, .unset, .unset, .unset, .unset, .unset]) rfl ?_
    refine own_s_iload X0.here hx (hb hby at_41) (pc' := 43) rfl rfl ?_
    refine X0.ldcInt hx hown (mvT hZ (hw _ (List.mem_of_getElem? (i := 1) rfl))) (g := (mkF m 43 #[.val (.int p0), .val (.int p1), .val (.int p2), .val (.int p3), .val (.int p4), .val (.int (0 : Int32)), .val (.double w0_v16), .second, .val (.double w0_v27), .second, .val (.double w0_v38), .second, .unset, .unset, .unset, .unset, .unset] [(.int p4)])) rfl (hb hby at_43) _ ?_
    show Steps p.tables e below (s₁.setTop (mkF m 45 #[.val (.int p0), .val (.int p1), .val (.int p2), .val (.int p3), .val (.int p4), .val (.int (0 : Int32)), .val (.double w0_v16), .second, .val (.double w0_v27), .second, .val (.double w0_v38), .second, .unset, .unset, .unset, .unset, .unset] [(.int (65535 : Int32)), (.int p4)])) _
    refine own_s_iand X0.here hx (hb hby at_45) (pc' := 46) rfl (v := w0_v45) w0_hv45 ?_
    refine own_s_i2d X0.here hx (hb hby at_46) (pc' := 47) rfl (v := (FP.i2d w0_v45)) rfl ?_
    refine X0.ldc2DoubleC hx hown (mvT hZ (hw _ (List.mem_of_getElem? (i := 2) rfl))) (g := (mkF m 47 #[.val (.int p0), .val (.int p1), .val (.int p2), .val (.int p3), .val (.int p4), .val (.int (0 : Int32)), .val (.double w0_v16), .second, .val (.double w0_v27), .second, .val (.double w0_v38), .second, .unset, .unset, .unset, .unset, .unset] [(.double (FP.i2d w0_v45))])) rfl (hb hby at_47) _ ?_
    show Steps p.tables e below (s₁.setTop (mkF m 50 #[.val (.int p0), .val (.int p1), .val (.int p2), .val (.int p3), .val (.int p4), .val (.int (0 : Int32)), .val (.double w0_v16), .second, .val (.double w0_v27), .second, .val (.double w0_v38), .second, .unset, .unset, .unset, .unset, .unset] [(.double (4620693217682128896 : UInt64)), (.double (FP.i2d w0_v45))])) _
    refine own_s_ddiv X0.here hx (hb hby at_50) (pc' := 51) rfl w0_hn50 (v := w0_v50) w0_hv50 ?_
    refine own_s_dstore X0.here hx (hb hby at_51) (pc' := 53) rfl (L' := #[.val (.int p0), .val (.int p1), .val (.int p2), .val (.int p3), .val (.int p4), .val (.int (0 : Int32)), .val (.double w0_v16), .second, .val (.double w0_v27), .second, .val (.double w0_v38), .second, .val (.double w0_v50), .second, .unset, .unset, .unset]) rfl ?_
    refine own_s_iload X0.here hx (hb hby at_53) (pc' := 55) rfl rfl ?_
    refine own_s_ifNo X0.here hx (hb hby at_55) (pc' := 58) rfl (by decide) ?_
    refine own_s_iconst X0.here hx (hb hby at_58) (pc' := 59) rfl (v := (0 : Int32)) (by decide) ?_
    refine stw01 _ ?_
    refine own_s_astore Xw01.here hx (hb hby at_61) (pc' := 63) rfl rfl (L' := #[.val (.int p0), .val (.int p1), .val (.int p2), .val (.int p3), .val (.int p4), .val (.int (0 : Int32)), .val (.double w0_v16), .second, .val (.double w0_v27), .second, .val (.double w0_v38), .second, .val (.double w0_v50), .second, .val (.ref bw01), .unset, .unset]) rfl ?_
    refine own_s_dconst0 Xw01.here hx (hb hby at_63) (pc' := 64) rfl  ?_
    refine own_s_dstore Xw01.here hx (hb hby at_64) (pc' := 66) rfl (L' := #[.val (.int p0), .val (.int p1), .val (.int p2), .val (.int p3), .val (.int p4), .val (.int (0 : Int32)), .val (.double w0_v16), .second, .val (.double w0_v27), .second, .val (.double w0_v38), .second, .val (.double w0_v50), .second, .val (.ref bw01), .val (.double 0), .second]) rfl ?_
    refine own_s_goto Xw01.here hx (hb hby at_66) (by decide) (pc' := 200) (by decide) ?_
    refine own_s_aload Xw01.here hx (hb hby at_200) (pc' := 202) rfl rfl rfl ?_
    refine stw02 _ ?_
    show Steps p.tables e below (Tw02.setTop (mkF m 205 #[.val (.int p0), .val (.int p1), .val (.int p2), .val (.int p3), .val (.int p4), .val (.int (0 : Int32)), .val (.double w0_v16), .second, .val (.double w0_v27), .second, .val (.double w0_v38), .second, .val (.double w0_v50), .second, .val (.ref bw01), .val (.double 0), .second] [(.double 0)])) _
    refine own_s_dload Xw02.here hx (hb hby at_205) (pc' := 207) rfl rfl ?_
    refine own_s_dcmp Xw02.here hx (hb hby at_207) (pc' := 208) rfl (v := (0 : Int32)) w0_hc207 ?_
    refine own_s_ifNo Xw02.here hx (hb hby at_208) (pc' := 211) rfl (by decide) ?_
    refine own_s_iconst Xw02.here hx (hb hby at_211) (pc' := 212) rfl (v := (1 : Int32)) (by decide) ?_
    refine own_s_goto Xw02.here hx (hb hby at_212) (by decide) (pc' := 216) (by decide) ?_
    exact retN Xw02 hx (t := .boolean) Bd.returns (by simp) (hb hby at_216) hr
  · show own_Q0 n0 _ Tw02.heap _
    rw [ew02]
    exact ⟨rfl, Nw02⟩
theorem own_d1_18 : decode prog_64_method_2_code 18 = .ok (.aload_n 3, 1) := by decide +kernel
theorem own_d1_19 : decode prog_64_method_2_code 19 = .ok (.iload 5, 2) := by decide +kernel
theorem own_d1_21 : decode prog_64_method_2_code 21 = .ok (.daload, 1) := by decide +kernel
theorem own_d1_22 : decode prog_64_method_2_code 22 = .ok (.dstore 6, 2) := by decide +kernel
theorem own_d1_24 : decode prog_64_method_2_code 24 = .ok (.dload_n 1, 1) := by decide +kernel
theorem own_d1_25 : decode prog_64_method_2_code 25 = .ok (.dload 6, 2) := by decide +kernel
theorem own_d1_27 : decode prog_64_method_2_code 27 = .ok (.dadd, 1) := by decide +kernel
theorem own_d1_28 : decode prog_64_method_2_code 28 = .ok (.dstore_n 1, 1) := by decide +kernel
theorem own_d1_29 : decode prog_64_method_2_code 29 = .ok (.iinc 5 1, 3) := by decide +kernel
theorem own_d1_32 : decode prog_64_method_2_code 32 = .ok (.goto (-21), 3) := by decide +kernel
theorem own_ef_c1 (m : MethodId) (q : Addr) : entryFrame m #[(.ref q)] 8 = mkF m 0 #[.val (.ref q), .unset, .unset, .unset, .unset, .unset, .unset, .unset] [] := by first | (simp [entryFrame, mkF, argsToLocals, Value.category]; done) | rfl
set_option maxRecDepth 65536 in
set_option maxHeartbeats 40000000 in
theorem own_rm_c1 (l : Launch) (Z : State) (a0 : Array Value) (hw : ∀ d ∈ tables_1, d.before a0 Z = true) (ws : List Jvm.Cond) (q : Addr) (d0 : UInt64) {qk : ClassId} {c1_v27 : UInt64} (h0 : Heap) (n0 : Nat) (Z0 : n0 ≤ h0.size) (V_q : Arv Z h0 q qk .double (1 : Int32) [(.double d0)] (.double 0)) (c1_hn27 : Jvm.Free.Fl.NoNaN64 (FP.dadd 0 d0)) (c1_hv27 : FP.dadd 0 d0 = c1_v27) :
    MetFree l (⟨"com/example/hachure/hachure/render/DashWalk", "period", "([D)D"⟩ : MethodName) (head1 (Jvm.Cond.code (⟨"com/example/hachure/hachure/render/DashWalk", "period", "([D)D"⟩ : MethodName) prog_64_method_2_code 8 (some .double) :: ws) ({ frames := 0, cells := 0, slots := 0, locals := 0 } : Room)) (fun a U => a = #[(.ref q)] ∧ Z.Warmed39 U.vm ∧ U.heap = h0) (fun _ _ _ _ _ => True) (fun _ U o U' => ∃ v L, o = .returned v ∧ own_QP (some (.double c1_v27)) h0 n0 v U'.heap L ∧ FrameEnd U o U' L ({ frames := 0, cells := 0, slots := 0, locals := 0 } : Room).cells ({ frames := 0, cells := 0, slots := 0, locals := 0 } : Room).slots) := by
  refine MetFree.of_bodySF (plainFor_of_name own_pn_com_example_hachure_hachure_render_DashWalk) hisR ?_
  intro p e s m args below meth c s₁ Bd hml0 hP hK
  obtain ⟨rfl, hZ, hh⟩ := hP
  have hx := Bd.exec
  have hby := Bd.bytes
  have hml : c.maxLocals = 8 := hml0
  have hown : s.vm.findClass "com/example/hachure/hachure/render/DashWalk" = some m.cls := findClass_of_methodNamed Bd.named
  have hnm := (name_of_methodNamed Bd.named Bd.method).1
  have X0 : Stand p l e ({ frames := 0, cells := 0, slots := 0, locals := 0 } : Room) s m #[(.ref q)] below meth c s₁ [] 0 0 := Stand.of_body Bd
  have e0 : s₁.heap = h0 := by rw [← hh, Bd.state]; rfl
  have N0 := Fr.nil n0
  have pre0 : ∀ t, Steps p.tables e below (s₁.setTop (mkF m 0 #[.val (.ref q), .unset, .unset, .unset, .unset, .unset, .unset, .unset] [])) t → Steps p.tables e below (s₁.setTop (entryFrame m #[(.ref q)] 8)) t := fun t k => castTop (own_ef_c1 m q) k
  obtain ⟨fs, hr, hrun, hended, hW, hsame⟩ := X0.leave (v := some (.double c1_v27)) (fun h => by rw [Bd.returns] at h; cases h)
  refine ⟨_, _, pre0 _ ?_, hrun, hended, _, _, rfl, ?_, ⟨_, rfl⟩, hW, hsame.mono (by decide) (by decide)⟩
  · refine own_s_dconst0 X0.here hx (hb hby own_d1_0) (pc' := 1) rfl  ?_
    refine own_s_dstoreN X0.here hx (hb hby own_d1_1) (pc' := 2) rfl (L' := #[.val (.ref q), .val (.double 0), .second, .unset, .unset, .unset, .unset, .unset]) rfl ?_
    refine own_s_aloadN X0.here hx (hb hby own_d1_2) (pc' := 3) rfl rfl rfl ?_
    refine own_s_astoreN X0.here hx (hb hby own_d1_3) (pc' := 4) rfl rfl (L' := #[.val (.ref q), .val (.double 0), .second, .val (.ref q), .unset, .unset, .unset, .unset]) rfl ?_
    refine own_s_aloadN X0.here hx (hb hby own_d1_4) (pc' := 5) rfl rfl rfl ?_
    refine own_len X0 hx hZ e0 V_q (hb hby own_d1_5) (pc' := 6) rfl ?_
    refine own_s_istore X0.here hx (hb hby own_d1_6) (pc' := 8) rfl (L' := #[.val (.ref q), .val (.double 0), .second, .val (.ref q), .val (.int (1 : Int32)), .unset, .unset, .unset]) rfl ?_
    refine own_s_iconst X0.here hx (hb hby own_d1_8) (pc' := 9) rfl (v := (0 : Int32)) (by decide) ?_
    refine own_s_istore X0.here hx (hb hby own_d1_9) (pc' := 11) rfl (L' := #[.val (.ref q), .val (.double 0), .second, .val (.ref q), .val (.int (1 : Int32)), .val (.int (0 : Int32)), .unset, .unset]) rfl ?_
    refine own_s_iload X0.here hx (hb hby own_d1_11) (pc' := 13) rfl rfl ?_
    refine own_s_iload X0.here hx (hb hby own_d1_13) (pc' := 15) rfl rfl ?_
    refine own_s_icmpNo X0.here hx (hb hby own_d1_15) (pc' := 18) rfl (by decide) ?_
    refine own_s_aloadN X0.here hx (hb hby own_d1_18) (pc' := 19) rfl rfl rfl ?_
    refine own_s_iload X0.here hx (hb hby own_d1_19) (pc' := 21) rfl rfl ?_
    refine own_ldD X0 hx hZ e0 V_q (j := (0 : Int32)) (x := d0) (by decide) rfl (hb hby own_d1_21) (pc' := 22) rfl ?_
    refine own_s_dstore X0.here hx (hb hby own_d1_22) (pc' := 24) rfl (L' := #[.val (.ref q), .val (.double 0), .second, .val (.ref q), .val (.int (1 : Int32)), .val (.int (0 : Int32)), .val (.double d0), .second]) rfl ?_
    refine own_s_dloadN X0.here hx (hb hby own_d1_24) (pc' := 25) rfl rfl ?_
    refine own_s_dload X0.here hx (hb hby own_d1_25) (pc' := 27) rfl rfl ?_
    refine own_s_dadd X0.here hx (hb hby own_d1_27) (pc' := 28) rfl c1_hn27 (v := c1_v27) c1_hv27 ?_
    refine own_s_dstoreN X0.here hx (hb hby own_d1_28) (pc' := 29) rfl (L' := #[.val (.ref q), .val (.double c1_v27), .second, .val (.ref q), .val (.int (1 : Int32)), .val (.int (0 : Int32)), .val (.double d0), .second]) rfl ?_
    refine own_s_iinc X0.here hx (hb hby own_d1_29) (pc' := 32) rfl rfl (v := (1 : Int32)) (by decide) (L' := #[.val (.ref q), .val (.double c1_v27), .second, .val (.ref q), .val (.int (1 : Int32)), .val (.int (1 : Int32)), .val (.double d0), .second]) rfl ?_
    refine own_s_goto X0.here hx (hb hby own_d1_32) (by decide) (pc' := 11) (by decide) ?_
    refine own_s_iload X0.here hx (hb hby own_d1_11) (pc' := 13) rfl rfl ?_
    refine own_s_iload X0.here hx (hb hby own_d1_13) (pc' := 15) rfl rfl ?_
    refine own_s_icmpYes X0.here hx (hb hby own_d1_15) (by decide) (pc' := 35) (by decide) (by decide) ?_
    refine own_s_dloadN X0.here hx (hb hby own_d1_35) (pc' := 36) rfl rfl ?_
    exact own_retD X0 hx Bd.returns (hb hby own_d1_36) hr
  · show own_QP (some (.double c1_v27)) h0 n0 _ s₁.heap _
    rw [e0]
    exact ⟨rfl, N0, rfl⟩
theorem own_ef_w1 (m : MethodId) (p0 : Int32) (p1 : Int32) (p2 : Int32) (p3 : Int32) (p4 : Int32) : entryFrame m #[(.int p0), (.int p1), (.int p2), (.int p3), (.int p4)] maxLocals = mkF m 0 #[.val (.int p0), .val (.int p1), .val (.int p2), .val (.int p3), .val (.int p4), .unset, .unset, .unset, .unset, .unset, .unset, .unset, .unset, .unset, .unset, .unset, .unset] [] := by first | (simp [entryFrame, mkF, argsToLocals, Value.category, maxLocals]; done) | rfl
set_option maxRecDepth 65536 in
set_option maxHeartbeats 40000000 in
theorem own_rm_w1 (l : Launch) (Z : State) (a0 : Array Value) (hw : ∀ d ∈ tables_1, d.before a0 Z = true) (ws : List Jvm.Cond) (p0 : Int32) (p1 : Int32) (p2 : Int32) (p3 : Int32) (p4 : Int32) {w1_v3 : Int32} {w1_v11 : Int32} {w1_v16 : UInt64} {w1_v22 : Int32} {w1_v27 : UInt64} {w1_v33 : Int32} {w1_v38 : UInt64} {w1_v45 : Int32} {w1_v50 : UInt64} {w1_c202_c1_v27 : UInt64} (h0 : Heap) (n0 : Nat) (Z0 : n0 ≤ h0.size)  (w1_hv3 : p0 &&& (2147483647 : Int32) = w1_v3) (w1_hv5 : w1_v3 % (5 : Int32) = (1 : Int32)) (w1_hv11 : p1 &&& (65535 : Int32) = w1_v11) (w1_hn16 : Jvm.Free.Fl.NoNaN64 (FP.ddiv (FP.i2d w1_v11) (4620693217682128896 : UInt64))) (w1_hv16 : FP.ddiv (FP.i2d w1_v11) (4620693217682128896 : UInt64) = w1_v16) (w1_hv22 : p2 &&& (65535 : Int32) = w1_v22) (w1_hn27 : Jvm.Free.Fl.NoNaN64 (FP.ddiv (FP.i2d w1_v22) (4620693217682128896 : UInt64))) (w1_hv27 : FP.ddiv (FP.i2d w1_v22) (4620693217682128896 : UInt64) = w1_v27) (w1_hv33 : p3 &&& (65535 : Int32) = w1_v33) (w1_hn38 : Jvm.Free.Fl.NoNaN64 (FP.ddiv (FP.i2d w1_v33) (4620693217682128896 : UInt64))) (w1_hv38 : FP.ddiv (FP.i2d w1_v33) (4620693217682128896 : UInt64) = w1_v38) (w1_hv45 : p4 &&& (65535 : Int32) = w1_v45) (w1_hn50 : Jvm.Free.Fl.NoNaN64 (FP.ddiv (FP.i2d w1_v45) (4620693217682128896 : UInt64))) (w1_hv50 : FP.ddiv (FP.i2d w1_v45) (4620693217682128896 : UInt64) = w1_v50) (w1_c202_c1_hn27 : Jvm.Free.Fl.NoNaN64 (FP.dadd 0 w1_v16)) (w1_c202_c1_hv27 : FP.dadd 0 w1_v16 = w1_c202_c1_v27) (w1_hc207 : Op.cmpValue (FP.dcmp w1_c202_c1_v27 w1_v16) .l = (0 : Int32)) :
    MetFree l x (head1 (Jvm.Cond.code x code maxLocals ret :: ws) room_1) (fun a U => a = #[(.int p0), (.int p1), (.int p2), (.int p3), (.int p4)] ∧ Z.Warmed39 U.vm ∧ U.heap = h0) (fun _ _ _ _ _ => True) (fun _ U o U' => ∃ v L, o = .returned v ∧ own_Q0 n0 v U'.heap L ∧ FrameEnd U o U' L room_1.cells room_1.slots) := by
  refine MetFree.of_bodySF (plainFor_of_name own_pn_com_example_hachure_hachure_render_DashWalkPeriodPinLaw) hisR ?_
  intro p e s m args below meth c s₁ Bd hml0 hP hK
  obtain ⟨rfl, hZ, hh⟩ := hP
  have hx := Bd.exec
  have hby := Bd.bytes
  have hml : c.maxLocals = 17 := hml0
  have hown : s.vm.findClass "com/example/hachure/hachure/render/DashWalkPeriodPinLaw" = some m.cls := findClass_of_methodNamed Bd.named
  have hnm := (name_of_methodNamed Bd.named Bd.method).1
  have X0 : Stand p l e room_1 s m #[(.int p0), (.int p1), (.int p2), (.int p3), (.int p4)] below meth c s₁ [] 0 0 := Stand.of_body Bd
  have e0 : s₁.heap = h0 := by rw [← hh, Bd.state]; rfl
  have N0 := Fr.nil n0
  have pre0 : ∀ t, Steps p.tables e below (s₁.setTop (mkF m 0 #[.val (.int p0), .val (.int p1), .val (.int p2), .val (.int p3), .val (.int p4), .unset, .unset, .unset, .unset, .unset, .unset, .unset, .unset, .unset, .unset, .unset, .unset] [])) t → Steps p.tables e below (s₁.setTop (entryFrame m #[(.int p0), (.int p1), (.int p2), (.int p3), (.int p4)] maxLocals)) t := fun t k => castTop (own_ef_w1 m p0 p1 p2 p3 p4) k
  obtain ⟨Tw11, hw11, kw11, bw11, Xw11, ew11, Ew11, Gw11, Vw11, stw11⟩ := own_newD (L := #[.val (.int p0), .val (.int p1), .val (.int p2), .val (.int p3), .val (.int p4), .val (.int (1 : Int32)), .val (.double w1_v16), .second, .val (.double w1_v27), .second, .val (.double w1_v38), .second, .val (.double w1_v50), .second, .unset, .unset, .unset]) (S := []) X0 hx hZ (hw _ (List.mem_of_getElem? (i := 3) rfl)) e0 (z := (1 : Int32)) 1 (by decide) (by decide) (by decide) (by decide) (by decide) (hb hby at_76) (pc' := 78) rfl
  have g_bw11 : n0 ≤ bw11 := Nat.le_trans Z0 (Nat.le_of_eq Gw11.symm)
  have sz_bw11 : h0.size ≤ bw11 := Nat.le_trans (Keep.refl h0 []).1 (Nat.le_of_eq Gw11.symm)
  have Zw11 : n0 ≤ hw11.size := Nat.le_trans Z0 Ew11.1
  have KKw11 := (Keep.refl h0 []).ext Ew11
  have V_bw11 : Arv Z hw11 bw11 kw11 .double (1 : Int32) [(.double 0)] (.double 0) := Vw11
  obtain ⟨Tw12, hw12, Xw12, ew12, Ww12, Vw12, stw12⟩ := own_stD (L := #[.val (.int p0), .val (.int p1), .val (.int p2), .val (.int p3), .val (.int p4), .val (.int (1 : Int32)), .val (.double w1_v16), .second, .val (.double w1_v27), .second, .val (.double w1_v38), .second, .val (.double w1_v50), .second, .unset, .unset, .unset]) (S := [(.ref bw11)]) Xw11 hx hZ ew11 V_bw11 (j := (0 : Int32)) (x := w1_v16) (by decide) 0 (by decide) (Nat.le_of_ble_eq_true rfl) (hb hby at_82) (pc' := 83) rfl
  have Zw12 : n0 ≤ hw12.size := Nat.le_trans Zw11 (Nat.le_of_eq Ww12.size.symm)
  have KKw12 := KKw11.wr Ww12 (Or.inr sz_bw11)
  have V_bw11_w12 : Arv Z hw12 bw11 kw11 .double (1 : Int32) [(.double w1_v16)] (.double 0) := Vw12
  have Nw12 := Fr.snoc Xw12 N0 g_bw11
  obtain ⟨_, _, ⟨Tw13, Lw13, kw13, nw13⟩, -, Xw13, ⟨Lcw13, hQw13, lw13, yw13, zw13⟩, stw13⟩ := Jvm.LawKit.callS Xw12 hx (y := (⟨"com/example/hachure/hachure/render/DashWalk", "period", "([D)D"⟩ : MethodName)) hown (mvT hZ (hw _ (List.mem_of_getElem? (i := 4) rfl))) (mvT hZ (hw _ (List.mem_of_getElem? (i := 5) rfl))) (mvT hZ (hw _ (List.mem_of_getElem? (i := 6) rfl))) (mvT hZ (hw _ (List.mem_of_getElem? (i := 7) rfl))) (by decide) (backOf (W := 0) (own_rm_c1 l Z a0 hw [] bw11 w1_v16 hw12 n0 Zw12 V_bw11_w12 w1_c202_c1_hn27 w1_c202_c1_hv27) hZ (hw _ (List.mem_of_getElem? (i := 7) rfl)) (hw _ (List.mem_of_getElem? (i := 6) rfl)) (by decide) (by decide)) (g := (mkF m 202 #[.val (.int p0), .val (.int p1), .val (.int p2), .val (.int p3), .val (.int p4), .val (.int (1 : Int32)), .val (.double w1_v16), .second, .val (.double w1_v27), .second, .val (.double w1_v38), .second, .val (.double w1_v50), .second, .val (.ref bw11), .val (.double w1_v16), .second] [(.ref bw11)])) rfl (by rw [hml]; rfl) (argsL := [(.ref bw11)]) (rest := []) (lenOf own_pd_285bD29D rfl) rfl (by show 2 * 0 + _ ≤ _; exact Nat.le_of_eq rfl) (hb hby at_202) (fun _ _ => ⟨rfl, ew12, (by decide : 1 + 0 ≤ _), (by decide : 1 + 0 ≤ _)⟩)
  dsimp only [Pt.U, Pt.locs, Pt.cells, Pt.slots] at Xw13 lw13 yw13 zw13 stw13 hQw13
  subst lw13 yw13 zw13
  obtain ⟨rfl, Nw13q, ew13⟩ := hQw13
  have Nw13 := Fr.app Nw12 Nw13q
  obtain ⟨fs, hr, hrun, hended, hW, hsame⟩ := Xw13.leave (v := some (.int (1 : Int32))) (fun h => by rw [Bd.returns] at h; cases h)
  refine ⟨_, _, pre0 _ ?_, hrun, hended, _, _, rfl, ?_, ⟨_, rfl⟩, hW, hsame.mono (by decide) (by decide)⟩
  · refine own_s_iloadN X0.here hx (hb hby at_0) (pc' := 1) rfl rfl ?_
    refine X0.ldcInt hx hown (mvT hZ (hw _ (List.mem_of_getElem? (i := 0) rfl))) (g := (mkF m 1 #[.val (.int p0), .val (.int p1), .val (.int p2), .val (.int p3), .val (.int p4), .unset, .unset, .unset, .unset, .unset, .unset, .unset, .unset, .unset, .unset, .unset, .unset] [(.int p0)])) rfl (hb hby at_1) _ ?_
    show Steps p.tables e below (s₁.setTop (mkF m 3 #[.val (.int p0), .val (.int p1), .val (.int p2), .val (.int p3), .val (.int p4), .unset, .unset, .unset, .unset, .unset, .unset, .unset, .unset, .unset, .unset, .unset, .unset] [(.int (2147483647 : Int32)), (.int p0)])) _
    refine own_s_iand X0.here hx (hb hby at_3) (pc' := 4) rfl (v := w1_v3) w1_hv3 ?_
    refine own_s_iconst X0.here hx (hb hby at_4) (pc' := 5) rfl (v := (5 : Int32)) (by decide) ?_
    refine own_s_irem X0.here hx (hb hby at_5) (pc' := 6) rfl (by decide) (v := (1 : Int32)) w1_hv5 ?_
    refine own_s_istore X0.here hx (hb hby at_6) (pc' := 8) rfl (L' := #[.val (.int p0), .val (.int p1), .val (.int p2), .val (.int p3), .val (.int p4), .val (.int (1 : Int32)), .unset, .unset, .unset, .unset, .unset, .unset, .unset, .unset, .unset, .unset, .unset]) rfl ?_
    refine own_s_iloadN X0.here hx (hb hby at_8) (pc' := 9) rfl rfl ?_
    refine X0.ldcInt hx hown (mvT hZ (hw _ (List.mem_of_getElem? (i := 1) rfl))) (g := (mkF m 9 #[.val (.int p0), .val (.int p1), .val (.int p2), .val (.int p3), .val (.int p4), .val (.int (1 : Int32)), .unset, .unset, .unset, .unset, .unset, .unset, .unset, .unset, .unset, .unset, .unset] [(.int p1)])) rfl (hb hby at_9) _ ?_
    show Steps p.tables e below (s₁.setTop (mkF m 11 #[.val (.int p0), .val (.int p1), .val (.int p2), .val (.int p3), .val (.int p4), .val (.int (1 : Int32)), .unset, .unset, .unset, .unset, .unset, .unset, .unset, .unset, .unset, .unset, .unset] [(.int (65535 : Int32)), (.int p1)])) _
    refine own_s_iand X0.here hx (hb hby at_11) (pc' := 12) rfl (v := w1_v11) w1_hv11 ?_
    refine own_s_i2d X0.here hx (hb hby at_12) (pc' := 13) rfl (v := (FP.i2d w1_v11)) rfl ?_
    refine X0.ldc2DoubleC hx hown (mvT hZ (hw _ (List.mem_of_getElem? (i := 2) rfl))) (g := (mkF m 13 #[.val (.int p0), .val (.int p1), .val (.int p2), .val (.int p3), .val (.int p4), .val (.int (1 : Int32)), .unset, .unset, .unset, .unset, .unset, .unset, .unset, .unset, .unset, .unset, .unset] [(.double (FP.i2d w1_v11))])) rfl (hb hby at_13) _ ?_
    show Steps p.tables e below (s₁.setTop (mkF m 16 #[.val (.int p0), .val (.int p1), .val (.int p2), .val (.int p3), .val (.int p4), .val (.int (1 : Int32)), .unset, .unset, .unset, .unset, .unset, .unset, .unset, .unset, .unset, .unset, .unset] [(.double (4620693217682128896 : UInt64)), (.double (FP.i2d w1_v11))])) _
    refine own_s_ddiv X0.here hx (hb hby at_16) (pc' := 17) rfl w1_hn16 (v := w1_v16) w1_hv16 ?_
    refine own_s_dstore X0.here hx (hb hby at_17) (pc' := 19) rfl (L' := #[.val (.int p0), .val (.int p1), .val (.int p2), .val (.int p3), .val (.int p4), .val (.int (1 : Int32)), .val (.double w1_v16), .second, .unset, .unset, .unset, .unset, .unset, .unset, .unset, .unset, .unset]) rfl ?_
    refine own_s_iloadN X0.here hx (hb hby at_19) (pc' := 20) rfl rfl ?_
    refine X0.ldcInt hx hown (mvT hZ (hw _ (List.mem_of_getElem? (i := 1) rfl))) (g := (mkF m 20 #[.val (.int p0), .val (.int p1), .val (.int p2), .val (.int p3), .val (.int p4), .val (.int (1 : Int32)), .val (.double w1_v16), .second, .unset, .unset, .unset, .unset, .unset, .unset, .unset, .unset, .unset] [(.int p2)])) rfl (hb hby at_20) _ ?_
    show Steps p.tables e below (s₁.setTop (mkF m 22 #[.val (.int p0), .val (.int p1), .val (.int p2), .val (.int p3), .val (.int p4), .val (.int (1 : Int32)), .val (.double w1_v16), .second, .unset, .unset, .unset, .unset, .unset, .unset, .unset, .unset, .unset] [(.int (65535 : Int32)), (.int p2)])) _
    refine own_s_iand X0.here hx (hb hby at_22) (pc' := 23) rfl (v := w1_v22) w1_hv22 ?_
    refine own_s_i2d X0.here hx (hb hby at_23) (pc' := 24) rfl (v := (FP.i2d w1_v22)) rfl ?_
    refine X0.ldc2DoubleC hx hown (mvT hZ (hw _ (List.mem_of_getElem? (i := 2) rfl))) (g := (mkF m 24 #[.val (.int p0), .val (.int p1), .val (.int p2), .val (.int p3), .val (.int p4), .val (.int (1 : Int32)), .val (.double w1_v16), .second, .unset, .unset, .unset, .unset, .unset, .unset, .unset, .unset, .unset] [(.double (FP.i2d w1_v22))])) rfl (hb hby at_24) _ ?_
    show Steps p.tables e below (s₁.setTop (mkF m 27 #[.val (.int p0), .val (.int p1), .val (.int p2), .val (.int p3), .val (.int p4), .val (.int (1 : Int32)), .val (.double w1_v16), .second, .unset, .unset, .unset, .unset, .unset, .unset, .unset, .unset, .unset] [(.double (4620693217682128896 : UInt64)), (.double (FP.i2d w1_v22))])) _
    refine own_s_ddiv X0.here hx (hb hby at_27) (pc' := 28) rfl w1_hn27 (v := w1_v27) w1_hv27 ?_
    refine own_s_dstore X0.here hx (hb hby at_28) (pc' := 30) rfl (L' := #[.val (.int p0), .val (.int p1), .val (.int p2), .val (.int p3), .val (.int p4), .val (.int (1 : Int32)), .val (.double w1_v16), .second, .val (.double w1_v27), .second, .unset, .unset, .unset, .unset, .unset, .unset, .unset]) rfl ?_
    refine own_s_iloadN X0.here hx (hb hby at_30) (pc' := 31) rfl rfl ?_
    refine X0.ldcInt hx hown (mvT hZ (hw _ (List.mem_of_getElem? (i := 1) rfl))) (g := (mkF m 31 #[.val (.int p0), .val (.int p1), .val (.int p2), .val (.int p3), .val (.int p4), .val (.int (1 : Int32)), .val (.double w1_v16), .second, .val (.double w1_v27), .second, .unset, .unset, .unset, .unset, .unset, .unset, .unset] [(.int p3)])) rfl (hb hby at_31) _ ?_
    show Steps p.tables e below (s₁.setTop (mkF m 33 #[.val (.int p0), .val (.int p1), .val (.int p2), .val (.int p3), .val (.int p4), .val (.int (1 : Int32)), .val (.double w1_v16), .second, .val (.double w1_v27), .second, .unset, .unset, .unset, .unset, .unset, .unset, .unset] [(.int (65535 : Int32)), (.int p3)])) _
    refine own_s_iand X0.here hx (hb hby at_33) (pc' := 34) rfl (v := w1_v33) w1_hv33 ?_
    refine own_s_i2d X0.here hx (hb hby at_34) (pc' := 35) rfl (v := (FP.i2d w1_v33)) rfl ?_
    refine X0.ldc2DoubleC hx hown (mvT hZ (hw _ (List.mem_of_getElem? (i := 2) rfl))) (g := (mkF m 35 #[.val (.int p0), .val (.int p1), .val (.int p2), .val (.int p3), .val (.int p4), .val (.int (1 : Int32)), .val (.double w1_v16), .second, .val (.double w1_v27), .second, .unset, .unset, .unset, .unset, .unset, .unset, .unset] [(.double (FP.i2d w1_v33))])) rfl (hb hby at_35) _ ?_
    show Steps p.tables e below (s₁.setTop (mkF m 38 #[.val (.int p0), .val (.int p1), .val (.int p2), .val (.int p3), .val (.int p4), .val (.int (1 : Int32)), .val (.double w1_v16), .second, .val (.double w1_v27), .second, .unset, .unset, .unset, .unset, .unset, .unset, .unset] [(.double (4620693217682128896 : UInt64)), (.double (FP.i2d w1_v33))])) _
    refine own_s_ddiv X0.here hx (hb hby at_38) (pc' := 39) rfl w1_hn38 (v := w1_v38) w1_hv38 ?_
    refine own_s_dstore X0.here hx (hb hby at_39) (pc' := 41) rfl (L' := #[.val (.int p0), .val (.int p1), .val (.int p2), .val (.int p3), .val (.int p4), .val (.int (1 : Int32)), .val (.double w1_v16), .second, .val (.double w1_v27), .second, .val (.double w1_v38), .second, .unset, .unset, .unset, .unset, .unset]) rfl ?_
    refine own_s_iload X0.here hx (hb hby at_41) (pc' := 43) rfl rfl ?_
    refine X0.ldcInt hx hown (mvT hZ (hw _ (List.mem_of_getElem? (i := 1) rfl))) (g := (mkF m 43 #[.val (.int p0), .val (.int p1), .val (.int p2), .val (.int p3), .val (.int p4), .val (.int (1 : Int32)), .val (.double w1_v16), .second, .val (.double w1_v27), .second, .val (.double w1_v38), .second, .unset, .unset, .unset, .unset, .unset] [(.int p4)])) rfl (hb hby at_43) _ ?_
    show Steps p.tables e below (s₁.setTop (mkF m 45 #[.val (.int p0), .val (.int p1), .val (.int p2), .val (.int p3), .val (.int p4), .val (.int (1 : Int32)), .val (.double w1_v16), .second, .val (.double w1_v27), .second, .val (.double w1_v38), .second, .unset, .unset, .unset, .unset, .unset] [(.int (65535 : Int32)), (.int p4)])) _
    refine own_s_iand X0.here hx (hb hby at_45) (pc' := 46) rfl (v := w1_v45) w1_hv45 ?_
    refine own_s_i2d X0.here hx (hb hby at_46) (pc' := 47) rfl (v := (FP.i2d w1_v45)) rfl ?_
    refine X0.ldc2DoubleC hx hown (mvT hZ (hw _ (List.mem_of_getElem? (i := 2) rfl))) (g := (mkF m 47 #[.val (.int p0), .val (.int p1), .val (.int p2), .val (.int p3), .val (.int p4), .val (.int (1 : Int32)), .val (.double w1_v16), .second, .val (.double w1_v27), .second, .val (.double w1_v38), .second, .unset, .unset, .unset, .unset, .unset] [(.double (FP.i2d w1_v45))])) rfl (hb hby at_47) _ ?_
    show Steps p.tables e below (s₁.setTop (mkF m 50 #[.val (.int p0), .val (.int p1), .val (.int p2), .val (.int p3), .val (.int p4), .val (.int (1 : Int32)), .val (.double w1_v16), .second, .val (.double w1_v27), .second, .val (.double w1_v38), .second, .unset, .unset, .unset, .unset, .unset] [(.double (4620693217682128896 : UInt64)), (.double (FP.i2d w1_v45))])) _
    refine own_s_ddiv X0.here hx (hb hby at_50) (pc' := 51) rfl w1_hn50 (v := w1_v50) w1_hv50 ?_
    refine own_s_dstore X0.here hx (hb hby at_51) (pc' := 53) rfl (L' := #[.val (.int p0), .val (.int p1), .val (.int p2), .val (.int p3), .val (.int p4), .val (.int (1 : Int32)), .val (.double w1_v16), .second, .val (.double w1_v27), .second, .val (.double w1_v38), .second, .val (.double w1_v50), .second, .unset, .unset, .unset]) rfl ?_
    refine own_s_iload X0.here hx (hb hby at_53) (pc' := 55) rfl rfl ?_
    refine own_s_ifYes X0.here hx (hb hby at_55) (by decide) (pc' := 69) (by decide) (by decide) ?_
    refine own_s_iload X0.here hx (hb hby at_69) (pc' := 71) rfl rfl ?_
    refine own_s_iconst X0.here hx (hb hby at_71) (pc' := 72) rfl (v := (1 : Int32)) (by decide) ?_
    refine own_s_icmpNo X0.here hx (hb hby at_72) (pc' := 75) rfl (by decide) ?_
    refine own_s_iconst X0.here hx (hb hby at_75) (pc' := 76) rfl (v := (1 : Int32)) (by decide) ?_
    refine stw11 _ ?_
    refine own_s_dup Xw11.here hx (hb hby at_78) (pc' := 79) rfl rfl ?_
    refine own_s_iconst Xw11.here hx (hb hby at_79) (pc' := 80) rfl (v := (0 : Int32)) (by decide) ?_
    refine own_s_dload Xw11.here hx (hb hby at_80) (pc' := 82) rfl rfl ?_
    refine stw12 _ ?_
    refine own_s_astore Xw12.here hx (hb hby at_83) (pc' := 85) rfl rfl (L' := #[.val (.int p0), .val (.int p1), .val (.int p2), .val (.int p3), .val (.int p4), .val (.int (1 : Int32)), .val (.double w1_v16), .second, .val (.double w1_v27), .second, .val (.double w1_v38), .second, .val (.double w1_v50), .second, .val (.ref bw11), .unset, .unset]) rfl ?_
    refine own_s_dload Xw12.here hx (hb hby at_85) (pc' := 87) rfl rfl ?_
    refine own_s_dstore Xw12.here hx (hb hby at_87) (pc' := 89) rfl (L' := #[.val (.int p0), .val (.int p1), .val (.int p2), .val (.int p3), .val (.int p4), .val (.int (1 : Int32)), .val (.double w1_v16), .second, .val (.double w1_v27), .second, .val (.double w1_v38), .second, .val (.double w1_v50), .second, .val (.ref bw11), .val (.double w1_v16), .second]) rfl ?_
    refine own_s_goto Xw12.here hx (hb hby at_89) (by decide) (pc' := 200) (by decide) ?_
    refine own_s_aload Xw12.here hx (hb hby at_200) (pc' := 202) rfl rfl rfl ?_
    refine stw13 _ ?_
    show Steps p.tables e below (Tw13.setTop (mkF m 205 #[.val (.int p0), .val (.int p1), .val (.int p2), .val (.int p3), .val (.int p4), .val (.int (1 : Int32)), .val (.double w1_v16), .second, .val (.double w1_v27), .second, .val (.double w1_v38), .second, .val (.double w1_v50), .second, .val (.ref bw11), .val (.double w1_v16), .second] [(.double w1_c202_c1_v27)])) _
    refine own_s_dload Xw13.here hx (hb hby at_205) (pc' := 207) rfl rfl ?_
    refine own_s_dcmp Xw13.here hx (hb hby at_207) (pc' := 208) rfl (v := (0 : Int32)) w1_hc207 ?_
    refine own_s_ifNo Xw13.here hx (hb hby at_208) (pc' := 211) rfl (by decide) ?_
    refine own_s_iconst Xw13.here hx (hb hby at_211) (pc' := 212) rfl (v := (1 : Int32)) (by decide) ?_
    refine own_s_goto Xw13.here hx (hb hby at_212) (by decide) (pc' := 216) (by decide) ?_
    exact retN Xw13 hx (t := .boolean) Bd.returns (by simp) (hb hby at_216) hr
  · show own_Q0 n0 _ Tw13.heap _
    rw [ew13]
    exact ⟨rfl, Nw13⟩
theorem own_ef_c2 (m : MethodId) (q : Addr) : entryFrame m #[(.ref q)] 8 = mkF m 0 #[.val (.ref q), .unset, .unset, .unset, .unset, .unset, .unset, .unset] [] := by first | (simp [entryFrame, mkF, argsToLocals, Value.category]; done) | rfl
set_option maxRecDepth 65536 in
set_option maxHeartbeats 40000000 in
theorem own_rm_c2 (l : Launch) (Z : State) (a0 : Array Value) (hw : ∀ d ∈ tables_1, d.before a0 Z = true) (ws : List Jvm.Cond) (q : Addr) (d0 : UInt64) (d1 : UInt64) {qk : ClassId} {c2_v27 : UInt64} {c2_v27_2 : UInt64} (h0 : Heap) (n0 : Nat) (Z0 : n0 ≤ h0.size) (V_q : Arv Z h0 q qk .double (2 : Int32) [(.double d0), (.double d1)] (.double 0)) (c2_hn27 : Jvm.Free.Fl.NoNaN64 (FP.dadd 0 d0)) (c2_hv27 : FP.dadd 0 d0 = c2_v27) (c2_hn27_2 : Jvm.Free.Fl.NoNaN64 (FP.dadd c2_v27 d1)) (c2_hv27_2 : FP.dadd c2_v27 d1 = c2_v27_2) :
    MetFree l (⟨"com/example/hachure/hachure/render/DashWalk", "period", "([D)D"⟩ : MethodName) (head1 (Jvm.Cond.code (⟨"com/example/hachure/hachure/render/DashWalk", "period", "([D)D"⟩ : MethodName) prog_64_method_2_code 8 (some .double) :: ws) ({ frames := 0, cells := 0, slots := 0, locals := 0 } : Room)) (fun a U => a = #[(.ref q)] ∧ Z.Warmed39 U.vm ∧ U.heap = h0) (fun _ _ _ _ _ => True) (fun _ U o U' => ∃ v L, o = .returned v ∧ own_QP (some (.double c2_v27_2)) h0 n0 v U'.heap L ∧ FrameEnd U o U' L ({ frames := 0, cells := 0, slots := 0, locals := 0 } : Room).cells ({ frames := 0, cells := 0, slots := 0, locals := 0 } : Room).slots) := by
  refine MetFree.of_bodySF (plainFor_of_name own_pn_com_example_hachure_hachure_render_DashWalk) hisR ?_
  intro p e s m args below meth c s₁ Bd hml0 hP hK
  obtain ⟨rfl, hZ, hh⟩ := hP
  have hx := Bd.exec
  have hby := Bd.bytes
  have hml : c.maxLocals = 8 := hml0
  have hown : s.vm.findClass "com/example/hachure/hachure/render/DashWalk" = some m.cls := findClass_of_methodNamed Bd.named
  have hnm := (name_of_methodNamed Bd.named Bd.method).1
  have X0 : Stand p l e ({ frames := 0, cells := 0, slots := 0, locals := 0 } : Room) s m #[(.ref q)] below meth c s₁ [] 0 0 := Stand.of_body Bd
  have e0 : s₁.heap = h0 := by rw [← hh, Bd.state]; rfl
  have N0 := Fr.nil n0
  have pre0 : ∀ t, Steps p.tables e below (s₁.setTop (mkF m 0 #[.val (.ref q), .unset, .unset, .unset, .unset, .unset, .unset, .unset] [])) t → Steps p.tables e below (s₁.setTop (entryFrame m #[(.ref q)] 8)) t := fun t k => castTop (own_ef_c2 m q) k
  obtain ⟨fs, hr, hrun, hended, hW, hsame⟩ := X0.leave (v := some (.double c2_v27_2)) (fun h => by rw [Bd.returns] at h; cases h)
  refine ⟨_, _, pre0 _ ?_, hrun, hended, _, _, rfl, ?_, ⟨_, rfl⟩, hW, hsame.mono (by decide) (by decide)⟩
  · refine own_s_dconst0 X0.here hx (hb hby own_d1_0) (pc' := 1) rfl  ?_
    refine own_s_dstoreN X0.here hx (hb hby own_d1_1) (pc' := 2) rfl (L' := #[.val (.ref q), .val (.double 0), .second, .unset, .unset, .unset, .unset, .unset]) rfl ?_
    refine own_s_aloadN X0.here hx (hb hby own_d1_2) (pc' := 3) rfl rfl rfl ?_
    refine own_s_astoreN X0.here hx (hb hby own_d1_3) (pc' := 4) rfl rfl (L' := #[.val (.ref q), .val (.double 0), .second, .val (.ref q), .unset, .unset, .unset, .unset]) rfl ?_
    refine own_s_aloadN X0.here hx (hb hby own_d1_4) (pc' := 5) rfl rfl rfl ?_
    refine own_len X0 hx hZ e0 V_q (hb hby own_d1_5) (pc' := 6) rfl ?_
    refine own_s_istore X0.here hx (hb hby own_d1_6) (pc' := 8) rfl (L' := #[.val (.ref q), .val (.double 0), .second, .val (.ref q), .val (.int (2 : Int32)), .unset, .unset, .unset]) rfl ?_
    refine own_s_iconst X0.here hx (hb hby own_d1_8) (pc' := 9) rfl (v := (0 : Int32)) (by decide) ?_
    refine own_s_istore X0.here hx (hb hby own_d1_9) (pc' := 11) rfl (L' := #[.val (.ref q), .val (.double 0), .second, .val (.ref q), .val (.int (2 : Int32)), .val (.int (0 : Int32)), .unset, .unset]) rfl ?_
    refine own_s_iload X0.here hx (hb hby own_d1_11) (pc' := 13) rfl rfl ?_
    refine own_s_iload X0.here hx (hb hby own_d1_13) (pc' := 15) rfl rfl ?_
    refine own_s_icmpNo X0.here hx (hb hby own_d1_15) (pc' := 18) rfl (by decide) ?_
    refine own_s_aloadN X0.here hx (hb hby own_d1_18) (pc' := 19) rfl rfl rfl ?_
    refine own_s_iload X0.here hx (hb hby own_d1_19) (pc' := 21) rfl rfl ?_
    refine own_ldD X0 hx hZ e0 V_q (j := (0 : Int32)) (x := d0) (by decide) rfl (hb hby own_d1_21) (pc' := 22) rfl ?_
    refine own_s_dstore X0.here hx (hb hby own_d1_22) (pc' := 24) rfl (L' := #[.val (.ref q), .val (.double 0), .second, .val (.ref q), .val (.int (2 : Int32)), .val (.int (0 : Int32)), .val (.double d0), .second]) rfl ?_
    refine own_s_dloadN X0.here hx (hb hby own_d1_24) (pc' := 25) rfl rfl ?_
    refine own_s_dload X0.here hx (hb hby own_d1_25) (pc' := 27) rfl rfl ?_
    refine own_s_dadd X0.here hx (hb hby own_d1_27) (pc' := 28) rfl c2_hn27 (v := c2_v27) c2_hv27 ?_
    refine own_s_dstoreN X0.here hx (hb hby own_d1_28) (pc' := 29) rfl (L' := #[.val (.ref q), .val (.double c2_v27), .second, .val (.ref q), .val (.int (2 : Int32)), .val (.int (0 : Int32)), .val (.double d0), .second]) rfl ?_
    refine own_s_iinc X0.here hx (hb hby own_d1_29) (pc' := 32) rfl rfl (v := (1 : Int32)) (by decide) (L' := #[.val (.ref q), .val (.double c2_v27), .second, .val (.ref q), .val (.int (2 : Int32)), .val (.int (1 : Int32)), .val (.double d0), .second]) rfl ?_
    refine own_s_goto X0.here hx (hb hby own_d1_32) (by decide) (pc' := 11) (by decide) ?_
    refine own_s_iload X0.here hx (hb hby own_d1_11) (pc' := 13) rfl rfl ?_
    refine own_s_iload X0.here hx (hb hby own_d1_13) (pc' := 15) rfl rfl ?_
    refine own_s_icmpNo X0.here hx (hb hby own_d1_15) (pc' := 18) rfl (by decide) ?_
    refine own_s_aloadN X0.here hx (hb hby own_d1_18) (pc' := 19) rfl rfl rfl ?_
    refine own_s_iload X0.here hx (hb hby own_d1_19) (pc' := 21) rfl rfl ?_
    refine own_ldD X0 hx hZ e0 V_q (j := (1 : Int32)) (x := d1) (by decide) rfl (hb hby own_d1_21) (pc' := 22) rfl ?_
    refine own_s_dstore X0.here hx (hb hby own_d1_22) (pc' := 24) rfl (L' := #[.val (.ref q), .val (.double c2_v27), .second, .val (.ref q), .val (.int (2 : Int32)), .val (.int (1 : Int32)), .val (.double d1), .second]) rfl ?_
    refine own_s_dloadN X0.here hx (hb hby own_d1_24) (pc' := 25) rfl rfl ?_
    refine own_s_dload X0.here hx (hb hby own_d1_25) (pc' := 27) rfl rfl ?_
    refine own_s_dadd X0.here hx (hb hby own_d1_27) (pc' := 28) rfl c2_hn27_2 (v := c2_v27_2) c2_hv27_2 ?_
    refine own_s_dstoreN X0.here hx (hb hby own_d1_28) (pc' := 29) rfl (L' := #[.val (.ref q), .val (.double c2_v27_2), .second, .val (.ref q), .val (.int (2 : Int32)), .val (.int (1 : Int32)), .val (.double d1), .second]) rfl ?_
    refine own_s_iinc X0.here hx (hb hby own_d1_29) (pc' := 32) rfl rfl (v := (2 : Int32)) (by decide) (L' := #[.val (.ref q), .val (.double c2_v27_2), .second, .val (.ref q), .val (.int (2 : Int32)), .val (.int (2 : Int32)), .val (.double d1), .second]) rfl ?_
    refine own_s_goto X0.here hx (hb hby own_d1_32) (by decide) (pc' := 11) (by decide) ?_
    refine own_s_iload X0.here hx (hb hby own_d1_11) (pc' := 13) rfl rfl ?_
    refine own_s_iload X0.here hx (hb hby own_d1_13) (pc' := 15) rfl rfl ?_
    refine own_s_icmpYes X0.here hx (hb hby own_d1_15) (by decide) (pc' := 35) (by decide) (by decide) ?_
    refine own_s_dloadN X0.here hx (hb hby own_d1_35) (pc' := 36) rfl rfl ?_
    exact own_retD X0 hx Bd.returns (hb hby own_d1_36) hr
  · show own_QP (some (.double c2_v27_2)) h0 n0 _ s₁.heap _
    rw [e0]
    exact ⟨rfl, N0, rfl⟩
theorem own_ef_w2 (m : MethodId) (p0 : Int32) (p1 : Int32) (p2 : Int32) (p3 : Int32) (p4 : Int32) : entryFrame m #[(.int p0), (.int p1), (.int p2), (.int p3), (.int p4)] maxLocals = mkF m 0 #[.val (.int p0), .val (.int p1), .val (.int p2), .val (.int p3), .val (.int p4), .unset, .unset, .unset, .unset, .unset, .unset, .unset, .unset, .unset, .unset, .unset, .unset] [] := by first | (simp [entryFrame, mkF, argsToLocals, Value.category, maxLocals]; done) | rfl
set_option maxRecDepth 65536 in
set_option maxHeartbeats 40000000 in
theorem own_rm_w2 (l : Launch) (Z : State) (a0 : Array Value) (hw : ∀ d ∈ tables_1, d.before a0 Z = true) (ws : List Jvm.Cond) (p0 : Int32) (p1 : Int32) (p2 : Int32) (p3 : Int32) (p4 : Int32) {w2_v3 : Int32} {w2_v11 : Int32} {w2_v16 : UInt64} {w2_v22 : Int32} {w2_v27 : UInt64} {w2_v33 : Int32} {w2_v38 : UInt64} {w2_v45 : Int32} {w2_v50 : UInt64} {w2_v117 : UInt64} {w2_c202_c2_v27 : UInt64} {w2_c202_c2_v27_2 : UInt64} (h0 : Heap) (n0 : Nat) (Z0 : n0 ≤ h0.size)  (w2_hv3 : p0 &&& (2147483647 : Int32) = w2_v3) (w2_hv5 : w2_v3 % (5 : Int32) = (2 : Int32)) (w2_hv11 : p1 &&& (65535 : Int32) = w2_v11) (w2_hn16 : Jvm.Free.Fl.NoNaN64 (FP.ddiv (FP.i2d w2_v11) (4620693217682128896 : UInt64))) (w2_hv16 : FP.ddiv (FP.i2d w2_v11) (4620693217682128896 : UInt64) = w2_v16) (w2_hv22 : p2 &&& (65535 : Int32) = w2_v22) (w2_hn27 : Jvm.Free.Fl.NoNaN64 (FP.ddiv (FP.i2d w2_v22) (4620693217682128896 : UInt64))) (w2_hv27 : FP.ddiv (FP.i2d w2_v22) (4620693217682128896 : UInt64) = w2_v27) (w2_hv33 : p3 &&& (65535 : Int32) = w2_v33) (w2_hn38 : Jvm.Free.Fl.NoNaN64 (FP.ddiv (FP.i2d w2_v33) (4620693217682128896 : UInt64))) (w2_hv38 : FP.ddiv (FP.i2d w2_v33) (4620693217682128896 : UInt64) = w2_v38) (w2_hv45 : p4 &&& (65535 : Int32) = w2_v45) (w2_hn50 : Jvm.Free.Fl.NoNaN64 (FP.ddiv (FP.i2d w2_v45) (4620693217682128896 : UInt64))) (w2_hv50 : FP.ddiv (FP.i2d w2_v45) (4620693217682128896 : UInt64) = w2_v50) (w2_hn117 : Jvm.Free.Fl.NoNaN64 (FP.dadd w2_v16 w2_v27)) (w2_hv117 : FP.dadd w2_v16 w2_v27 = w2_v117) (w2_c202_c2_hn27 : Jvm.Free.Fl.NoNaN64 (FP.dadd 0 w2_v16)) (w2_c202_c2_hv27 : FP.dadd 0 w2_v16 = w2_c202_c2_v27) (w2_c202_c2_hn27_2 : Jvm.Free.Fl.NoNaN64 (FP.dadd w2_c202_c2_v27 w2_v27)) (w2_c202_c2_hv27_2 : FP.dadd w2_c202_c2_v27 w2_v27 = w2_c202_c2_v27_2) (w2_hc207 : Op.cmpValue (FP.dcmp w2_c202_c2_v27_2 w2_v117) .l = (0 : Int32)) :
    MetFree l x (head1 (Jvm.Cond.code x code maxLocals ret :: ws) room_1) (fun a U => a = #[(.int p0), (.int p1), (.int p2), (.int p3), (.int p4)] ∧ Z.Warmed39 U.vm ∧ U.heap = h0) (fun _ _ _ _ _ => True) (fun _ U o U' => ∃ v L, o = .returned v ∧ own_Q0 n0 v U'.heap L ∧ FrameEnd U o U' L room_1.cells room_1.slots) := by
  refine MetFree.of_bodySF (plainFor_of_name own_pn_com_example_hachure_hachure_render_DashWalkPeriodPinLaw) hisR ?_
  intro p e s m args below meth c s₁ Bd hml0 hP hK
  obtain ⟨rfl, hZ, hh⟩ := hP
  have hx := Bd.exec
  have hby := Bd.bytes
  have hml : c.maxLocals = 17 := hml0
  have hown : s.vm.findClass "com/example/hachure/hachure/render/DashWalkPeriodPinLaw" = some m.cls := findClass_of_methodNamed Bd.named
  have hnm := (name_of_methodNamed Bd.named Bd.method).1
  have X0 : Stand p l e room_1 s m #[(.int p0), (.int p1), (.int p2), (.int p3), (.int p4)] below meth c s₁ [] 0 0 := Stand.of_body Bd
  have e0 : s₁.heap = h0 := by rw [← hh, Bd.state]; rfl
  have N0 := Fr.nil n0
  have pre0 : ∀ t, Steps p.tables e below (s₁.setTop (mkF m 0 #[.val (.int p0), .val (.int p1), .val (.int p2), .val (.int p3), .val (.int p4), .unset, .unset, .unset, .unset, .unset, .unset, .unset, .unset, .unset, .unset, .unset, .unset] [])) t → Steps p.tables e below (s₁.setTop (entryFrame m #[(.int p0), (.int p1), (.int p2), (.int p3), (.int p4)] maxLocals)) t := fun t k => castTop (own_ef_w2 m p0 p1 p2 p3 p4) k
  obtain ⟨Tw21, hw21, kw21, bw21, Xw21, ew21, Ew21, Gw21, Vw21, stw21⟩ := own_newD (L := #[.val (.int p0), .val (.int p1), .val (.int p2), .val (.int p3), .val (.int p4), .val (.int (2 : Int32)), .val (.double w2_v16), .second, .val (.double w2_v27), .second, .val (.double w2_v38), .second, .val (.double w2_v50), .second, .unset, .unset, .unset]) (S := []) X0 hx hZ (hw _ (List.mem_of_getElem? (i := 3) rfl)) e0 (z := (2 : Int32)) 2 (by decide) (by decide) (by decide) (by decide) (by decide) (hb hby at_99) (pc' := 101) rfl
  have g_bw21 : n0 ≤ bw21 := Nat.le_trans Z0 (Nat.le_of_eq Gw21.symm)
  have sz_bw21 : h0.size ≤ bw21 := Nat.le_trans (Keep.refl h0 []).1 (Nat.le_of_eq Gw21.symm)
  have Zw21 : n0 ≤ hw21.size := Nat.le_trans Z0 Ew21.1
  have KKw21 := (Keep.refl h0 []).ext Ew21
  have V_bw21 : Arv Z hw21 bw21 kw21 .double (2 : Int32) [(.double 0), (.double 0)] (.double 0) := Vw21
  obtain ⟨Tw22, hw22, Xw22, ew22, Ww22, Vw22, stw22⟩ := own_stD (L := #[.val (.int p0), .val (.int p1), .val (.int p2), .val (.int p3), .val (.int p4), .val (.int (2 : Int32)), .val (.double w2_v16), .second, .val (.double w2_v27), .second, .val (.double w2_v38), .second, .val (.double w2_v50), .second, .unset, .unset, .unset]) (S := [(.ref bw21)]) Xw21 hx hZ ew21 V_bw21 (j := (0 : Int32)) (x := w2_v16) (by decide) 0 (by decide) (Nat.le_of_ble_eq_true rfl) (hb hby at_105) (pc' := 106) rfl
  have Zw22 : n0 ≤ hw22.size := Nat.le_trans Zw21 (Nat.le_of_eq Ww22.size.symm)
  have KKw22 := KKw21.wr Ww22 (Or.inr sz_bw21)
  have V_bw21_w22 : Arv Z hw22 bw21 kw21 .double (2 : Int32) [(.double w2_v16), (.double 0)] (.double 0) := Vw22
  have Nw22 := Fr.snoc Xw22 N0 g_bw21
  obtain ⟨Tw23, hw23, Xw23, ew23, Ww23, Vw23, stw23⟩ := own_stD (L := #[.val (.int p0), .val (.int p1), .val (.int p2), .val (.int p3), .val (.int p4), .val (.int (2 : Int32)), .val (.double w2_v16), .second, .val (.double w2_v27), .second, .val (.double w2_v38), .second, .val (.double w2_v50), .second, .unset, .unset, .unset]) (S := [(.ref bw21)]) Xw22 hx hZ ew22 V_bw21_w22 (j := (1 : Int32)) (x := w2_v27) (by decide) 1 (by decide) (Nat.le_of_ble_eq_true rfl) (hb hby at_110) (pc' := 111) rfl
  have Zw23 : n0 ≤ hw23.size := Nat.le_trans Zw22 (Nat.le_of_eq Ww23.size.symm)
  have KKw23 := KKw22.wr Ww23 (Or.inr sz_bw21)
  have V_bw21_w23 : Arv Z hw23 bw21 kw21 .double (2 : Int32) [(.double w2_v16), (.double w2_v27)] (.double 0) := Vw23
  have Nw23 := Fr.snoc Xw23 Nw22 g_bw21
  obtain ⟨_, _, ⟨Tw24, Lw24, kw24, nw24⟩, -, Xw24, ⟨Lcw24, hQw24, lw24, yw24, zw24⟩, stw24⟩ := Jvm.LawKit.callS Xw23 hx (y := (⟨"com/example/hachure/hachure/render/DashWalk", "period", "([D)D"⟩ : MethodName)) hown (mvT hZ (hw _ (List.mem_of_getElem? (i := 4) rfl))) (mvT hZ (hw _ (List.mem_of_getElem? (i := 5) rfl))) (mvT hZ (hw _ (List.mem_of_getElem? (i := 6) rfl))) (mvT hZ (hw _ (List.mem_of_getElem? (i := 7) rfl))) (by decide) (backOf (W := 0) (own_rm_c2 l Z a0 hw [] bw21 w2_v16 w2_v27 hw23 n0 Zw23 V_bw21_w23 w2_c202_c2_hn27 w2_c202_c2_hv27 w2_c202_c2_hn27_2 w2_c202_c2_hv27_2) hZ (hw _ (List.mem_of_getElem? (i := 7) rfl)) (hw _ (List.mem_of_getElem? (i := 6) rfl)) (by decide) (by decide)) (g := (mkF m 202 #[.val (.int p0), .val (.int p1), .val (.int p2), .val (.int p3), .val (.int p4), .val (.int (2 : Int32)), .val (.double w2_v16), .second, .val (.double w2_v27), .second, .val (.double w2_v38), .second, .val (.double w2_v50), .second, .val (.ref bw21), .val (.double w2_v117), .second] [(.ref bw21)])) rfl (by rw [hml]; rfl) (argsL := [(.ref bw21)]) (rest := []) (lenOf own_pd_285bD29D rfl) rfl (by show 2 * 0 + _ ≤ _; exact Nat.le_of_eq rfl) (hb hby at_202) (fun _ _ => ⟨rfl, ew23, (by decide : 1 + 0 ≤ _), (by decide : 2 + 0 ≤ _)⟩)
  dsimp only [Pt.U, Pt.locs, Pt.cells, Pt.slots] at Xw24 lw24 yw24 zw24 stw24 hQw24
  subst lw24 yw24 zw24
  obtain ⟨rfl, Nw24q, ew24⟩ := hQw24
  have Nw24 := Fr.app Nw23 Nw24q
  obtain ⟨fs, hr, hrun, hended, hW, hsame⟩ := Xw24.leave (v := some (.int (1 : Int32))) (fun h => by rw [Bd.returns] at h; cases h)
  refine ⟨_, _, pre0 _ ?_, hrun, hended, _, _, rfl, ?_, ⟨_, rfl⟩, hW, hsame.mono (by decide) (by decide)⟩
  · refine own_s_iloadN X0.here hx (hb hby at_0) (pc' := 1) rfl rfl ?_
    refine X0.ldcInt hx hown (mvT hZ (hw _ (List.mem_of_getElem? (i := 0) rfl))) (g := (mkF m 1 #[.val (.int p0), .val (.int p1), .val (.int p2), .val (.int p3), .val (.int p4), .unset, .unset, .unset, .unset, .unset, .unset, .unset, .unset, .unset, .unset, .unset, .unset] [(.int p0)])) rfl (hb hby at_1) _ ?_
    show Steps p.tables e below (s₁.setTop (mkF m 3 #[.val (.int p0), .val (.int p1), .val (.int p2), .val (.int p3), .val (.int p4), .unset, .unset, .unset, .unset, .unset, .unset, .unset, .unset, .unset, .unset, .unset, .unset] [(.int (2147483647 : Int32)), (.int p0)])) _
    refine own_s_iand X0.here hx (hb hby at_3) (pc' := 4) rfl (v := w2_v3) w2_hv3 ?_
    refine own_s_iconst X0.here hx (hb hby at_4) (pc' := 5) rfl (v := (5 : Int32)) (by decide) ?_
    refine own_s_irem X0.here hx (hb hby at_5) (pc' := 6) rfl (by decide) (v := (2 : Int32)) w2_hv5 ?_
    refine own_s_istore X0.here hx (hb hby at_6) (pc' := 8) rfl (L' := #[.val (.int p0), .val (.int p1), .val (.int p2), .val (.int p3), .val (.int p4), .val (.int (2 : Int32)), .unset, .unset, .unset, .unset, .unset, .unset, .unset, .unset, .unset, .unset, .unset]) rfl ?_
    refine own_s_iloadN X0.here hx (hb hby at_8) (pc' := 9) rfl rfl ?_
    refine X0.ldcInt hx hown (mvT hZ (hw _ (List.mem_of_getElem? (i := 1) rfl))) (g := (mkF m 9 #[.val (.int p0), .val (.int p1), .val (.int p2), .val (.int p3), .val (.int p4), .val (.int (2 : Int32)), .unset, .unset, .unset, .unset, .unset, .unset, .unset, .unset, .unset, .unset, .unset] [(.int p1)])) rfl (hb hby at_9) _ ?_
    show Steps p.tables e below (s₁.setTop (mkF m 11 #[.val (.int p0), .val (.int p1), .val (.int p2), .val (.int p3), .val (.int p4), .val (.int (2 : Int32)), .unset, .unset, .unset, .unset, .unset, .unset, .unset, .unset, .unset, .unset, .unset] [(.int (65535 : Int32)), (.int p1)])) _
    refine own_s_iand X0.here hx (hb hby at_11) (pc' := 12) rfl (v := w2_v11) w2_hv11 ?_
    refine own_s_i2d X0.here hx (hb hby at_12) (pc' := 13) rfl (v := (FP.i2d w2_v11)) rfl ?_
    refine X0.ldc2DoubleC hx hown (mvT hZ (hw _ (List.mem_of_getElem? (i := 2) rfl))) (g := (mkF m 13 #[.val (.int p0), .val (.int p1), .val (.int p2), .val (.int p3), .val (.int p4), .val (.int (2 : Int32)), .unset, .unset, .unset, .unset, .unset, .unset, .unset, .unset, .unset, .unset, .unset] [(.double (FP.i2d w2_v11))])) rfl (hb hby at_13) _ ?_
    show Steps p.tables e below (s₁.setTop (mkF m 16 #[.val (.int p0), .val (.int p1), .val (.int p2), .val (.int p3), .val (.int p4), .val (.int (2 : Int32)), .unset, .unset, .unset, .unset, .unset, .unset, .unset, .unset, .unset, .unset, .unset] [(.double (4620693217682128896 : UInt64)), (.double (FP.i2d w2_v11))])) _
    refine own_s_ddiv X0.here hx (hb hby at_16) (pc' := 17) rfl w2_hn16 (v := w2_v16) w2_hv16 ?_
    refine own_s_dstore X0.here hx (hb hby at_17) (pc' := 19) rfl (L' := #[.val (.int p0), .val (.int p1), .val (.int p2), .val (.int p3), .val (.int p4), .val (.int (2 : Int32)), .val (.double w2_v16), .second, .unset, .unset, .unset, .unset, .unset, .unset, .unset, .unset, .unset]) rfl ?_
    refine own_s_iloadN X0.here hx (hb hby at_19) (pc' := 20) rfl rfl ?_
    refine X0.ldcInt hx hown (mvT hZ (hw _ (List.mem_of_getElem? (i := 1) rfl))) (g := (mkF m 20 #[.val (.int p0), .val (.int p1), .val (.int p2), .val (.int p3), .val (.int p4), .val (.int (2 : Int32)), .val (.double w2_v16), .second, .unset, .unset, .unset, .unset, .unset, .unset, .unset, .unset, .unset] [(.int p2)])) rfl (hb hby at_20) _ ?_
    show Steps p.tables e below (s₁.setTop (mkF m 22 #[.val (.int p0), .val (.int p1), .val (.int p2), .val (.int p3), .val (.int p4), .val (.int (2 : Int32)), .val (.double w2_v16), .second, .unset, .unset, .unset, .unset, .unset, .unset, .unset, .unset, .unset] [(.int (65535 : Int32)), (.int p2)])) _
    refine own_s_iand X0.here hx (hb hby at_22) (pc' := 23) rfl (v := w2_v22) w2_hv22 ?_
    refine own_s_i2d X0.here hx (hb hby at_23) (pc' := 24) rfl (v := (FP.i2d w2_v22)) rfl ?_
    refine X0.ldc2DoubleC hx hown (mvT hZ (hw _ (List.mem_of_getElem? (i := 2) rfl))) (g := (mkF m 24 #[.val (.int p0), .val (.int p1), .val (.int p2), .val (.int p3), .val (.int p4), .val (.int (2 : Int32)), .val (.double w2_v16), .second, .unset, .unset, .unset, .unset, .unset, .unset, .unset, .unset, .unset] [(.double (FP.i2d w2_v22))])) rfl (hb hby at_24) _ ?_
    show Steps p.tables e below (s₁.setTop (mkF m 27 #[.val (.int p0), .val (.int p1), .val (.int p2), .val (.int p3), .val (.int p4), .val (.int (2 : Int32)), .val (.double w2_v16), .second, .unset, .unset, .unset, .unset, .unset, .unset, .unset, .unset, .unset] [(.double (4620693217682128896 : UInt64)), (.double (FP.i2d w2_v22))])) _
    refine own_s_ddiv X0.here hx (hb hby at_27) (pc' := 28) rfl w2_hn27 (v := w2_v27) w2_hv27 ?_
    refine own_s_dstore X0.here hx (hb hby at_28) (pc' := 30) rfl (L' := #[.val (.int p0), .val (.int p1), .val (.int p2), .val (.int p3), .val (.int p4), .val (.int (2 : Int32)), .val (.double w2_v16), .second, .val (.double w2_v27), .second, .unset, .unset, .unset, .unset, .unset, .unset, .unset]) rfl ?_
    refine own_s_iloadN X0.here hx (hb hby at_30) (pc' := 31) rfl rfl ?_
    refine X0.ldcInt hx hown (mvT hZ (hw _ (List.mem_of_getElem? (i := 1) rfl))) (g := (mkF m 31 #[.val (.int p0), .val (.int p1), .val (.int p2), .val (.int p3), .val (.int p4), .val (.int (2 : Int32)), .val (.double w2_v16), .second, .val (.double w2_v27), .second, .unset, .unset, .unset, .unset, .unset, .unset, .unset] [(.int p3)])) rfl (hb hby at_31) _ ?_
    show Steps p.tables e below (s₁.setTop (mkF m 33 #[.val (.int p0), .val (.int p1), .val (.int p2), .val (.int p3), .val (.int p4), .val (.int (2 : Int32)), .val (.double w2_v16), .second, .val (.double w2_v27), .second, .unset, .unset, .unset, .unset, .unset, .unset, .unset] [(.int (65535 : Int32)), (.int p3)])) _
    refine own_s_iand X0.here hx (hb hby at_33) (pc' := 34) rfl (v := w2_v33) w2_hv33 ?_
    refine own_s_i2d X0.here hx (hb hby at_34) (pc' := 35) rfl (v := (FP.i2d w2_v33)) rfl ?_
    refine X0.ldc2DoubleC hx hown (mvT hZ (hw _ (List.mem_of_getElem? (i := 2) rfl))) (g := (mkF m 35 #[.val (.int p0), .val (.int p1), .val (.int p2), .val (.int p3), .val (.int p4), .val (.int (2 : Int32)), .val (.double w2_v16), .second, .val (.double w2_v27), .second, .unset, .unset, .unset, .unset, .unset, .unset, .unset] [(.double (FP.i2d w2_v33))])) rfl (hb hby at_35) _ ?_
    show Steps p.tables e below (s₁.setTop (mkF m 38 #[.val (.int p0), .val (.int p1), .val (.int p2), .val (.int p3), .val (.int p4), .val (.int (2 : Int32)), .val (.double w2_v16), .second, .val (.double w2_v27), .second, .unset, .unset, .unset, .unset, .unset, .unset, .unset] [(.double (4620693217682128896 : UInt64)), (.double (FP.i2d w2_v33))])) _
    refine own_s_ddiv X0.here hx (hb hby at_38) (pc' := 39) rfl w2_hn38 (v := w2_v38) w2_hv38 ?_
    refine own_s_dstore X0.here hx (hb hby at_39) (pc' := 41) rfl (L' := #[.val (.int p0), .val (.int p1), .val (.int p2), .val (.int p3), .val (.int p4), .val (.int (2 : Int32)), .val (.double w2_v16), .second, .val (.double w2_v27), .second, .val (.double w2_v38), .second, .unset, .unset, .unset, .unset, .unset]) rfl ?_
    refine own_s_iload X0.here hx (hb hby at_41) (pc' := 43) rfl rfl ?_
    refine X0.ldcInt hx hown (mvT hZ (hw _ (List.mem_of_getElem? (i := 1) rfl))) (g := (mkF m 43 #[.val (.int p0), .val (.int p1), .val (.int p2), .val (.int p3), .val (.int p4), .val (.int (2 : Int32)), .val (.double w2_v16), .second, .val (.double w2_v27), .second, .val (.double w2_v38), .second, .unset, .unset, .unset, .unset, .unset] [(.int p4)])) rfl (hb hby at_43) _ ?_
    show Steps p.tables e below (s₁.setTop (mkF m 45 #[.val (.int p0), .val (.int p1), .val (.int p2), .val (.int p3), .val (.int p4), .val (.int (2 : Int32)), .val (.double w2_v16), .second, .val (.double w2_v27), .second, .val (.double w2_v38), .second, .unset, .unset, .unset, .unset, .unset] [(.int (65535 : Int32)), (.int p4)])) _
    refine own_s_iand X0.here hx (hb hby at_45) (pc' := 46) rfl (v := w2_v45) w2_hv45 ?_
    refine own_s_i2d X0.here hx (hb hby at_46) (pc' := 47) rfl (v := (FP.i2d w2_v45)) rfl ?_
    refine X0.ldc2DoubleC hx hown (mvT hZ (hw _ (List.mem_of_getElem? (i := 2) rfl))) (g := (mkF m 47 #[.val (.int p0), .val (.int p1), .val (.int p2), .val (.int p3), .val (.int p4), .val (.int (2 : Int32)), .val (.double w2_v16), .second, .val (.double w2_v27), .second, .val (.double w2_v38), .second, .unset, .unset, .unset, .unset, .unset] [(.double (FP.i2d w2_v45))])) rfl (hb hby at_47) _ ?_
    show Steps p.tables e below (s₁.setTop (mkF m 50 #[.val (.int p0), .val (.int p1), .val (.int p2), .val (.int p3), .val (.int p4), .val (.int (2 : Int32)), .val (.double w2_v16), .second, .val (.double w2_v27), .second, .val (.double w2_v38), .second, .unset, .unset, .unset, .unset, .unset] [(.double (4620693217682128896 : UInt64)), (.double (FP.i2d w2_v45))])) _
    refine own_s_ddiv X0.here hx (hb hby at_50) (pc' := 51) rfl w2_hn50 (v := w2_v50) w2_hv50 ?_
    refine own_s_dstore X0.here hx (hb hby at_51) (pc' := 53) rfl (L' := #[.val (.int p0), .val (.int p1), .val (.int p2), .val (.int p3), .val (.int p4), .val (.int (2 : Int32)), .val (.double w2_v16), .second, .val (.double w2_v27), .second, .val (.double w2_v38), .second, .val (.double w2_v50), .second, .unset, .unset, .unset]) rfl ?_
    refine own_s_iload X0.here hx (hb hby at_53) (pc' := 55) rfl rfl ?_
    refine own_s_ifYes X0.here hx (hb hby at_55) (by decide) (pc' := 69) (by decide) (by decide) ?_
    refine own_s_iload X0.here hx (hb hby at_69) (pc' := 71) rfl rfl ?_
    refine own_s_iconst X0.here hx (hb hby at_71) (pc' := 72) rfl (v := (1 : Int32)) (by decide) ?_
    refine own_s_icmpYes X0.here hx (hb hby at_72) (by decide) (pc' := 92) (by decide) (by decide) ?_
    refine own_s_iload X0.here hx (hb hby at_92) (pc' := 94) rfl rfl ?_
    refine own_s_iconst X0.here hx (hb hby at_94) (pc' := 95) rfl (v := (2 : Int32)) (by decide) ?_
    refine own_s_icmpNo X0.here hx (hb hby at_95) (pc' := 98) rfl (by decide) ?_
    refine own_s_iconst X0.here hx (hb hby at_98) (pc' := 99) rfl (v := (2 : Int32)) (by decide) ?_
    refine stw21 _ ?_
    refine own_s_dup Xw21.here hx (hb hby at_101) (pc' := 102) rfl rfl ?_
    refine own_s_iconst Xw21.here hx (hb hby at_102) (pc' := 103) rfl (v := (0 : Int32)) (by decide) ?_
    refine own_s_dload Xw21.here hx (hb hby at_103) (pc' := 105) rfl rfl ?_
    refine stw22 _ ?_
    refine own_s_dup Xw22.here hx (hb hby at_106) (pc' := 107) rfl rfl ?_
    refine own_s_iconst Xw22.here hx (hb hby at_107) (pc' := 108) rfl (v := (1 : Int32)) (by decide) ?_
    refine own_s_dload Xw22.here hx (hb hby at_108) (pc' := 110) rfl rfl ?_
    refine stw23 _ ?_
    refine own_s_astore Xw23.here hx (hb hby at_111) (pc' := 113) rfl rfl (L' := #[.val (.int p0), .val (.int p1), .val (.int p2), .val (.int p3), .val (.int p4), .val (.int (2 : Int32)), .val (.double w2_v16), .second, .val (.double w2_v27), .second, .val (.double w2_v38), .second, .val (.double w2_v50), .second, .val (.ref bw21), .unset, .unset]) rfl ?_
    refine own_s_dload Xw23.here hx (hb hby at_113) (pc' := 115) rfl rfl ?_
    refine own_s_dload Xw23.here hx (hb hby at_115) (pc' := 117) rfl rfl ?_
    refine own_s_dadd Xw23.here hx (hb hby at_117) (pc' := 118) rfl w2_hn117 (v := w2_v117) w2_hv117 ?_
    refine own_s_dstore Xw23.here hx (hb hby at_118) (pc' := 120) rfl (L' := #[.val (.int p0), .val (.int p1), .val (.int p2), .val (.int p3), .val (.int p4), .val (.int (2 : Int32)), .val (.double w2_v16), .second, .val (.double w2_v27), .second, .val (.double w2_v38), .second, .val (.double w2_v50), .second, .val (.ref bw21), .val (.double w2_v117), .second]) rfl ?_
    refine own_s_goto Xw23.here hx (hb hby at_120) (by decide) (pc' := 200) (by decide) ?_
    refine own_s_aload Xw23.here hx (hb hby at_200) (pc' := 202) rfl rfl rfl ?_
    refine stw24 _ ?_
    show Steps p.tables e below (Tw24.setTop (mkF m 205 #[.val (.int p0), .val (.int p1), .val (.int p2), .val (.int p3), .val (.int p4), .val (.int (2 : Int32)), .val (.double w2_v16), .second, .val (.double w2_v27), .second, .val (.double w2_v38), .second, .val (.double w2_v50), .second, .val (.ref bw21), .val (.double w2_v117), .second] [(.double w2_c202_c2_v27_2)])) _
    refine own_s_dload Xw24.here hx (hb hby at_205) (pc' := 207) rfl rfl ?_
    refine own_s_dcmp Xw24.here hx (hb hby at_207) (pc' := 208) rfl (v := (0 : Int32)) w2_hc207 ?_
    refine own_s_ifNo Xw24.here hx (hb hby at_208) (pc' := 211) rfl (by decide) ?_
    refine own_s_iconst Xw24.here hx (hb hby at_211) (pc' := 212) rfl (v := (1 : Int32)) (by decide) ?_
    refine own_s_goto Xw24.here hx (hb hby at_212) (by decide) (pc' := 216) (by decide) ?_
    exact retN Xw24 hx (t := .boolean) Bd.returns (by simp) (hb hby at_216) hr
  · show own_Q0 n0 _ Tw24.heap _
    rw [ew24]
    exact ⟨rfl, Nw24⟩
theorem own_ef_c3 (m : MethodId) (q : Addr) : entryFrame m #[(.ref q)] 8 = mkF m 0 #[.val (.ref q), .unset, .unset, .unset, .unset, .unset, .unset, .unset] [] := by first | (simp [entryFrame, mkF, argsToLocals, Value.category]; done) | rfl
set_option maxRecDepth 65536 in
set_option maxHeartbeats 40000000 in
theorem own_rm_c3 (l : Launch) (Z : State) (a0 : Array Value) (hw : ∀ d ∈ tables_1, d.before a0 Z = true) (ws : List Jvm.Cond) (q : Addr) (d0 : UInt64) (d1 : UInt64) (d2 : UInt64) {qk : ClassId} {c3_v27 : UInt64} {c3_v27_2 : UInt64} {c3_v27_3 : UInt64} (h0 : Heap) (n0 : Nat) (Z0 : n0 ≤ h0.size) (V_q : Arv Z h0 q qk .double (3 : Int32) [(.double d0), (.double d1), (.double d2)] (.double 0)) (c3_hn27 : Jvm.Free.Fl.NoNaN64 (FP.dadd 0 d0)) (c3_hv27 : FP.dadd 0 d0 = c3_v27) (c3_hn27_2 : Jvm.Free.Fl.NoNaN64 (FP.dadd c3_v27 d1)) (c3_hv27_2 : FP.dadd c3_v27 d1 = c3_v27_2) (c3_hn27_3 : Jvm.Free.Fl.NoNaN64 (FP.dadd c3_v27_2 d2)) (c3_hv27_3 : FP.dadd c3_v27_2 d2 = c3_v27_3) :
    MetFree l (⟨"com/example/hachure/hachure/render/DashWalk", "period", "([D)D"⟩ : MethodName) (head1 (Jvm.Cond.code (⟨"com/example/hachure/hachure/render/DashWalk", "period", "([D)D"⟩ : MethodName) prog_64_method_2_code 8 (some .double) :: ws) ({ frames := 0, cells := 0, slots := 0, locals := 0 } : Room)) (fun a U => a = #[(.ref q)] ∧ Z.Warmed39 U.vm ∧ U.heap = h0) (fun _ _ _ _ _ => True) (fun _ U o U' => ∃ v L, o = .returned v ∧ own_QP (some (.double c3_v27_3)) h0 n0 v U'.heap L ∧ FrameEnd U o U' L ({ frames := 0, cells := 0, slots := 0, locals := 0 } : Room).cells ({ frames := 0, cells := 0, slots := 0, locals := 0 } : Room).slots) := by
  refine MetFree.of_bodySF (plainFor_of_name own_pn_com_example_hachure_hachure_render_DashWalk) hisR ?_
  intro p e s m args below meth c s₁ Bd hml0 hP hK
  obtain ⟨rfl, hZ, hh⟩ := hP
  have hx := Bd.exec
  have hby := Bd.bytes
  have hml : c.maxLocals = 8 := hml0
  have hown : s.vm.findClass "com/example/hachure/hachure/render/DashWalk" = some m.cls := findClass_of_methodNamed Bd.named
  have hnm := (name_of_methodNamed Bd.named Bd.method).1
  have X0 : Stand p l e ({ frames := 0, cells := 0, slots := 0, locals := 0 } : Room) s m #[(.ref q)] below meth c s₁ [] 0 0 := Stand.of_body Bd
  have e0 : s₁.heap = h0 := by rw [← hh, Bd.state]; rfl
  have N0 := Fr.nil n0
  have pre0 : ∀ t, Steps p.tables e below (s₁.setTop (mkF m 0 #[.val (.ref q), .unset, .unset, .unset, .unset, .unset, .unset, .unset] [])) t → Steps p.tables e below (s₁.setTop (entryFrame m #[(.ref q)] 8)) t := fun t k => castTop (own_ef_c3 m q) k
  obtain ⟨fs, hr, hrun, hended, hW, hsame⟩ := X0.leave (v := some (.double c3_v27_3)) (fun h => by rw [Bd.returns] at h; cases h)
  refine ⟨_, _, pre0 _ ?_, hrun, hended, _, _, rfl, ?_, ⟨_, rfl⟩, hW, hsame.mono (by decide) (by decide)⟩
  · refine own_s_dconst0 X0.here hx (hb hby own_d1_0) (pc' := 1) rfl  ?_
    refine own_s_dstoreN X0.here hx (hb hby own_d1_1) (pc' := 2) rfl (L' := #[.val (.ref q), .val (.double 0), .second, .unset, .unset, .unset, .unset, .unset]) rfl ?_
    refine own_s_aloadN X0.here hx (hb hby own_d1_2) (pc' := 3) rfl rfl rfl ?_
    refine own_s_astoreN X0.here hx (hb hby own_d1_3) (pc' := 4) rfl rfl (L' := #[.val (.ref q), .val (.double 0), .second, .val (.ref q), .unset, .unset, .unset, .unset]) rfl ?_
    refine own_s_aloadN X0.here hx (hb hby own_d1_4) (pc' := 5) rfl rfl rfl ?_
    refine own_len X0 hx hZ e0 V_q (hb hby own_d1_5) (pc' := 6) rfl ?_
    refine own_s_istore X0.here hx (hb hby own_d1_6) (pc' := 8) rfl (L' := #[.val (.ref q), .val (.double 0), .second, .val (.ref q), .val (.int (3 : Int32)), .unset, .unset, .unset]) rfl ?_
    refine own_s_iconst X0.here hx (hb hby own_d1_8) (pc' := 9) rfl (v := (0 : Int32)) (by decide) ?_
    refine own_s_istore X0.here hx (hb hby own_d1_9) (pc' := 11) rfl (L' := #[.val (.ref q), .val (.double 0), .second, .val (.ref q), .val (.int (3 : Int32)), .val (.int (0 : Int32)), .unset, .unset]) rfl ?_
    refine own_s_iload X0.here hx (hb hby own_d1_11) (pc' := 13) rfl rfl ?_
    refine own_s_iload X0.here hx (hb hby own_d1_13) (pc' := 15) rfl rfl ?_
    refine own_s_icmpNo X0.here hx (hb hby own_d1_15) (pc' := 18) rfl (by decide) ?_
    refine own_s_aloadN X0.here hx (hb hby own_d1_18) (pc' := 19) rfl rfl rfl ?_
    refine own_s_iload X0.here hx (hb hby own_d1_19) (pc' := 21) rfl rfl ?_
    refine own_ldD X0 hx hZ e0 V_q (j := (0 : Int32)) (x := d0) (by decide) rfl (hb hby own_d1_21) (pc' := 22) rfl ?_
    refine own_s_dstore X0.here hx (hb hby own_d1_22) (pc' := 24) rfl (L' := #[.val (.ref q), .val (.double 0), .second, .val (.ref q), .val (.int (3 : Int32)), .val (.int (0 : Int32)), .val (.double d0), .second]) rfl ?_
    refine own_s_dloadN X0.here hx (hb hby own_d1_24) (pc' := 25) rfl rfl ?_
    refine own_s_dload X0.here hx (hb hby own_d1_25) (pc' := 27) rfl rfl ?_
    refine own_s_dadd X0.here hx (hb hby own_d1_27) (pc' := 28) rfl c3_hn27 (v := c3_v27) c3_hv27 ?_
    refine own_s_dstoreN X0.here hx (hb hby own_d1_28) (pc' := 29) rfl (L' := #[.val (.ref q), .val (.double c3_v27), .second, .val (.ref q), .val (.int (3 : Int32)), .val (.int (0 : Int32)), .val (.double d0), .second]) rfl ?_
    refine own_s_iinc X0.here hx (hb hby own_d1_29) (pc' := 32) rfl rfl (v := (1 : Int32)) (by decide) (L' := #[.val (.ref q), .val (.double c3_v27), .second, .val (.ref q), .val (.int (3 : Int32)), .val (.int (1 : Int32)), .val (.double d0), .second]) rfl ?_
    refine own_s_goto X0.here hx (hb hby own_d1_32) (by decide) (pc' := 11) (by decide) ?_
    refine own_s_iload X0.here hx (hb hby own_d1_11) (pc' := 13) rfl rfl ?_
    refine own_s_iload X0.here hx (hb hby own_d1_13) (pc' := 15) rfl rfl ?_
    refine own_s_icmpNo X0.here hx (hb hby own_d1_15) (pc' := 18) rfl (by decide) ?_
    refine own_s_aloadN X0.here hx (hb hby own_d1_18) (pc' := 19) rfl rfl rfl ?_
    refine own_s_iload X0.here hx (hb hby own_d1_19) (pc' := 21) rfl rfl ?_
    refine own_ldD X0 hx hZ e0 V_q (j := (1 : Int32)) (x := d1) (by decide) rfl (hb hby own_d1_21) (pc' := 22) rfl ?_
    refine own_s_dstore X0.here hx (hb hby own_d1_22) (pc' := 24) rfl (L' := #[.val (.ref q), .val (.double c3_v27), .second, .val (.ref q), .val (.int (3 : Int32)), .val (.int (1 : Int32)), .val (.double d1), .second]) rfl ?_
    refine own_s_dloadN X0.here hx (hb hby own_d1_24) (pc' := 25) rfl rfl ?_
    refine own_s_dload X0.here hx (hb hby own_d1_25) (pc' := 27) rfl rfl ?_
    refine own_s_dadd X0.here hx (hb hby own_d1_27) (pc' := 28) rfl c3_hn27_2 (v := c3_v27_2) c3_hv27_2 ?_
    refine own_s_dstoreN X0.here hx (hb hby own_d1_28) (pc' := 29) rfl (L' := #[.val (.ref q), .val (.double c3_v27_2), .second, .val (.ref q), .val (.int (3 : Int32)), .val (.int (1 : Int32)), .val (.double d1), .second]) rfl ?_
    refine own_s_iinc X0.here hx (hb hby own_d1_29) (pc' := 32) rfl rfl (v := (2 : Int32)) (by decide) (L' := #[.val (.ref q), .val (.double c3_v27_2), .second, .val (.ref q), .val (.int (3 : Int32)), .val (.int (2 : Int32)), .val (.double d1), .second]) rfl ?_
    refine own_s_goto X0.here hx (hb hby own_d1_32) (by decide) (pc' := 11) (by decide) ?_
    refine own_s_iload X0.here hx (hb hby own_d1_11) (pc' := 13) rfl rfl ?_
    refine own_s_iload X0.here hx (hb hby own_d1_13) (pc' := 15) rfl rfl ?_
    refine own_s_icmpNo X0.here hx (hb hby own_d1_15) (pc' := 18) rfl (by decide) ?_
    refine own_s_aloadN X0.here hx (hb hby own_d1_18) (pc' := 19) rfl rfl rfl ?_
    refine own_s_iload X0.here hx (hb hby own_d1_19) (pc' := 21) rfl rfl ?_
    refine own_ldD X0 hx hZ e0 V_q (j := (2 : Int32)) (x := d2) (by decide) rfl (hb hby own_d1_21) (pc' := 22) rfl ?_
    refine own_s_dstore X0.here hx (hb hby own_d1_22) (pc' := 24) rfl (L' := #[.val (.ref q), .val (.double c3_v27_2), .second, .val (.ref q), .val (.int (3 : Int32)), .val (.int (2 : Int32)), .val (.double d2), .second]) rfl ?_
    refine own_s_dloadN X0.here hx (hb hby own_d1_24) (pc' := 25) rfl rfl ?_
    refine own_s_dload X0.here hx (hb hby own_d1_25) (pc' := 27) rfl rfl ?_
    refine own_s_dadd X0.here hx (hb hby own_d1_27) (pc' := 28) rfl c3_hn27_3 (v := c3_v27_3) c3_hv27_3 ?_
    refine own_s_dstoreN X0.here hx (hb hby own_d1_28) (pc' := 29) rfl (L' := #[.val (.ref q), .val (.double c3_v27_3), .second, .val (.ref q), .val (.int (3 : Int32)), .val (.int (2 : Int32)), .val (.double d2), .second]) rfl ?_
    refine own_s_iinc X0.here hx (hb hby own_d1_29) (pc' := 32) rfl rfl (v := (3 : Int32)) (by decide) (L' := #[.val (.ref q), .val (.double c3_v27_3), .second, .val (.ref q), .val (.int (3 : Int32)), .val (.int (3 : Int32)), .val (.double d2), .second]) rfl ?_
    refine own_s_goto X0.here hx (hb hby own_d1_32) (by decide) (pc' := 11) (by decide) ?_
    refine own_s_iload X0.here hx (hb hby own_d1_11) (pc' := 13) rfl rfl ?_
    refine own_s_iload X0.here hx (hb hby own_d1_13) (pc' := 15) rfl rfl ?_
    refine own_s_icmpYes X0.here hx (hb hby own_d1_15) (by decide) (pc' := 35) (by decide) (by decide) ?_
    refine own_s_dloadN X0.here hx (hb hby own_d1_35) (pc' := 36) rfl rfl ?_
    exact own_retD X0 hx Bd.returns (hb hby own_d1_36) hr
  · show own_QP (some (.double c3_v27_3)) h0 n0 _ s₁.heap _
    rw [e0]
    exact ⟨rfl, N0, rfl⟩
theorem own_ef_w3 (m : MethodId) (p0 : Int32) (p1 : Int32) (p2 : Int32) (p3 : Int32) (p4 : Int32) : entryFrame m #[(.int p0), (.int p1), (.int p2), (.int p3), (.int p4)] maxLocals = mkF m 0 #[.val (.int p0), .val (.int p1), .val (.int p2), .val (.int p3), .val (.int p4), .unset, .unset, .unset, .unset, .unset, .unset, .unset, .unset, .unset, .unset, .unset, .unset] [] := by first | (simp [entryFrame, mkF, argsToLocals, Value.category, maxLocals]; done) | rfl
set_option maxRecDepth 65536 in
set_option maxHeartbeats 40000000 in
theorem own_rm_w3 (l : Launch) (Z : State) (a0 : Array Value) (hw : ∀ d ∈ tables_1, d.before a0 Z = true) (ws : List Jvm.Cond) (p0 : Int32) (p1 : Int32) (p2 : Int32) (p3 : Int32) (p4 : Int32) {w3_v3 : Int32} {w3_v11 : Int32} {w3_v16 : UInt64} {w3_v22 : Int32} {w3_v27 : UInt64} {w3_v33 : Int32} {w3_v38 : UInt64} {w3_v45 : Int32} {w3_v50 : UInt64} {w3_v153 : UInt64} {w3_v156 : UInt64} {w3_c202_c3_v27 : UInt64} {w3_c202_c3_v27_2 : UInt64} {w3_c202_c3_v27_3 : UInt64} (h0 : Heap) (n0 : Nat) (Z0 : n0 ≤ h0.size)  (w3_hv3 : p0 &&& (2147483647 : Int32) = w3_v3) (w3_hv5 : w3_v3 % (5 : Int32) = (3 : Int32)) (w3_hv11 : p1 &&& (65535 : Int32) = w3_v11) (w3_hn16 : Jvm.Free.Fl.NoNaN64 (FP.ddiv (FP.i2d w3_v11) (4620693217682128896 : UInt64))) (w3_hv16 : FP.ddiv (FP.i2d w3_v11) (4620693217682128896 : UInt64) = w3_v16) (w3_hv22 : p2 &&& (65535 : Int32) = w3_v22) (w3_hn27 : Jvm.Free.Fl.NoNaN64 (FP.ddiv (FP.i2d w3_v22) (4620693217682128896 : UInt64))) (w3_hv27 : FP.ddiv (FP.i2d w3_v22) (4620693217682128896 : UInt64) = w3_v27) (w3_hv33 : p3 &&& (65535 : Int32) = w3_v33) (w3_hn38 : Jvm.Free.Fl.NoNaN64 (FP.ddiv (FP.i2d w3_v33) (4620693217682128896 : UInt64))) (w3_hv38 : FP.ddiv (FP.i2d w3_v33) (4620693217682128896 : UInt64) = w3_v38) (w3_hv45 : p4 &&& (65535 : Int32) = w3_v45) (w3_hn50 : Jvm.Free.Fl.NoNaN64 (FP.ddiv (FP.i2d w3_v45) (4620693217682128896 : UInt64))) (w3_hv50 : FP.ddiv (FP.i2d w3_v45) (4620693217682128896 : UInt64) = w3_v50) (w3_hn153 : Jvm.Free.Fl.NoNaN64 (FP.dadd w3_v16 w3_v27)) (w3_hv153 : FP.dadd w3_v16 w3_v27 = w3_v153) (w3_hn156 : Jvm.Free.Fl.NoNaN64 (FP.dadd w3_v153 w3_v38)) (w3_hv156 : FP.dadd w3_v153 w3_v38 = w3_v156) (w3_c202_c3_hn27 : Jvm.Free.Fl.NoNaN64 (FP.dadd 0 w3_v16)) (w3_c202_c3_hv27 : FP.dadd 0 w3_v16 = w3_c202_c3_v27) (w3_c202_c3_hn27_2 : Jvm.Free.Fl.NoNaN64 (FP.dadd w3_c202_c3_v27 w3_v27)) (w3_c202_c3_hv27_2 : FP.dadd w3_c202_c3_v27 w3_v27 = w3_c202_c3_v27_2) (w3_c202_c3_hn27_3 : Jvm.Free.Fl.NoNaN64 (FP.dadd w3_c202_c3_v27_2 w3_v38)) (w3_c202_c3_hv27_3 : FP.dadd w3_c202_c3_v27_2 w3_v38 = w3_c202_c3_v27_3) (w3_hc207 : Op.cmpValue (FP.dcmp w3_c202_c3_v27_3 w3_v156) .l = (0 : Int32)) :
    MetFree l x (head1 (Jvm.Cond.code x code maxLocals ret :: ws) room_1) (fun a U => a = #[(.int p0), (.int p1), (.int p2), (.int p3), (.int p4)] ∧ Z.Warmed39 U.vm ∧ U.heap = h0) (fun _ _ _ _ _ => True) (fun _ U o U' => ∃ v L, o = .returned v ∧ own_Q0 n0 v U'.heap L ∧ FrameEnd U o U' L room_1.cells room_1.slots) := by
  refine MetFree.of_bodySF (plainFor_of_name own_pn_com_example_hachure_hachure_render_DashWalkPeriodPinLaw) hisR ?_
  intro p e s m args below meth c s₁ Bd hml0 hP hK
  obtain ⟨rfl, hZ, hh⟩ := hP
  have hx := Bd.exec
  have hby := Bd.bytes
  have hml : c.maxLocals = 17 := hml0
  have hown : s.vm.findClass "com/example/hachure/hachure/render/DashWalkPeriodPinLaw" = some m.cls := findClass_of_methodNamed Bd.named
  have hnm := (name_of_methodNamed Bd.named Bd.method).1
  have X0 : Stand p l e room_1 s m #[(.int p0), (.int p1), (.int p2), (.int p3), (.int p4)] below meth c s₁ [] 0 0 := Stand.of_body Bd
  have e0 : s₁.heap = h0 := by rw [← hh, Bd.state]; rfl
  have N0 := Fr.nil n0
  have pre0 : ∀ t, Steps p.tables e below (s₁.setTop (mkF m 0 #[.val (.int p0), .val (.int p1), .val (.int p2), .val (.int p3), .val (.int p4), .unset, .unset, .unset, .unset, .unset, .unset, .unset, .unset, .unset, .unset, .unset, .unset] [])) t → Steps p.tables e below (s₁.setTop (entryFrame m #[(.int p0), (.int p1), (.int p2), (.int p3), (.int p4)] maxLocals)) t := fun t k => castTop (own_ef_w3 m p0 p1 p2 p3 p4) k
  obtain ⟨Tw31, hw31, kw31, bw31, Xw31, ew31, Ew31, Gw31, Vw31, stw31⟩ := own_newD (L := #[.val (.int p0), .val (.int p1), .val (.int p2), .val (.int p3), .val (.int p4), .val (.int (3 : Int32)), .val (.double w3_v16), .second, .val (.double w3_v27), .second, .val (.double w3_v38), .second, .val (.double w3_v50), .second, .unset, .unset, .unset]) (S := []) X0 hx hZ (hw _ (List.mem_of_getElem? (i := 3) rfl)) e0 (z := (3 : Int32)) 3 (by decide) (by decide) (by decide) (by decide) (by decide) (hb hby at_130) (pc' := 132) rfl
  have g_bw31 : n0 ≤ bw31 := Nat.le_trans Z0 (Nat.le_of_eq Gw31.symm)
  have sz_bw31 : h0.size ≤ bw31 := Nat.le_trans (Keep.refl h0 []).1 (Nat.le_of_eq Gw31.symm)
  have Zw31 : n0 ≤ hw31.size := Nat.le_trans Z0 Ew31.1
  have KKw31 := (Keep.refl h0 []).ext Ew31
  have V_bw31 : Arv Z hw31 bw31 kw31 .double (3 : Int32) [(.double 0), (.double 0), (.double 0)] (.double 0) := Vw31
  obtain ⟨Tw32, hw32, Xw32, ew32, Ww32, Vw32, stw32⟩ := own_stD (L := #[.val (.int p0), .val (.int p1), .val (.int p2), .val (.int p3), .val (.int p4), .val (.int (3 : Int32)), .val (.double w3_v16), .second, .val (.double w3_v27), .second, .val (.double w3_v38), .second, .val (.double w3_v50), .second, .unset, .unset, .unset]) (S := [(.ref bw31)]) Xw31 hx hZ ew31 V_bw31 (j := (0 : Int32)) (x := w3_v16) (by decide) 0 (by decide) (Nat.le_of_ble_eq_true rfl) (hb hby at_136) (pc' := 137) rfl
  have Zw32 : n0 ≤ hw32.size := Nat.le_trans Zw31 (Nat.le_of_eq Ww32.size.symm)
  have KKw32 := KKw31.wr Ww32 (Or.inr sz_bw31)
  have V_bw31_w32 : Arv Z hw32 bw31 kw31 .double (3 : Int32) [(.double w3_v16), (.double 0), (.double 0)] (.double 0) := Vw32
  have Nw32 := Fr.snoc Xw32 N0 g_bw31
  obtain ⟨Tw33, hw33, Xw33, ew33, Ww33, Vw33, stw33⟩ := own_stD (L := #[.val (.int p0), .val (.int p1), .val (.int p2), .val (.int p3), .val (.int p4), .val (.int (3 : Int32)), .val (.double w3_v16), .second, .val (.double w3_v27), .second, .val (.double w3_v38), .second, .val (.double w3_v50), .second, .unset, .unset, .unset]) (S := [(.ref bw31)]) Xw32 hx hZ ew32 V_bw31_w32 (j := (1 : Int32)) (x := w3_v27) (by decide) 1 (by decide) (Nat.le_of_ble_eq_true rfl) (hb hby at_141) (pc' := 142) rfl
  have Zw33 : n0 ≤ hw33.size := Nat.le_trans Zw32 (Nat.le_of_eq Ww33.size.symm)
  have KKw33 := KKw32.wr Ww33 (Or.inr sz_bw31)
  have V_bw31_w33 : Arv Z hw33 bw31 kw31 .double (3 : Int32) [(.double w3_v16), (.double w3_v27), (.double 0)] (.double 0) := Vw33
  have Nw33 := Fr.snoc Xw33 Nw32 g_bw31
  obtain ⟨Tw34, hw34, Xw34, ew34, Ww34, Vw34, stw34⟩ := own_stD (L := #[.val (.int p0), .val (.int p1), .val (.int p2), .val (.int p3), .val (.int p4), .val (.int (3 : Int32)), .val (.double w3_v16), .second, .val (.double w3_v27), .second, .val (.double w3_v38), .second, .val (.double w3_v50), .second, .unset, .unset, .unset]) (S := [(.ref bw31)]) Xw33 hx hZ ew33 V_bw31_w33 (j := (2 : Int32)) (x := w3_v38) (by decide) 2 (by decide) (Nat.le_of_ble_eq_true rfl) (hb hby at_146) (pc' := 147) rfl
  have Zw34 : n0 ≤ hw34.size := Nat.le_trans Zw33 (Nat.le_of_eq Ww34.size.symm)
  have KKw34 := KKw33.wr Ww34 (Or.inr sz_bw31)
  have V_bw31_w34 : Arv Z hw34 bw31 kw31 .double (3 : Int32) [(.double w3_v16), (.double w3_v27), (.double w3_v38)] (.double 0) := Vw34
  have Nw34 := Fr.snoc Xw34 Nw33 g_bw31
  obtain ⟨_, _, ⟨Tw35, Lw35, kw35, nw35⟩, -, Xw35, ⟨Lcw35, hQw35, lw35, yw35, zw35⟩, stw35⟩ := Jvm.LawKit.callS Xw34 hx (y := (⟨"com/example/hachure/hachure/render/DashWalk", "period", "([D)D"⟩ : MethodName)) hown (mvT hZ (hw _ (List.mem_of_getElem? (i := 4) rfl))) (mvT hZ (hw _ (List.mem_of_getElem? (i := 5) rfl))) (mvT hZ (hw _ (List.mem_of_getElem? (i := 6) rfl))) (mvT hZ (hw _ (List.mem_of_getElem? (i := 7) rfl))) (by decide) (backOf (W := 0) (own_rm_c3 l Z a0 hw [] bw31 w3_v16 w3_v27 w3_v38 hw34 n0 Zw34 V_bw31_w34 w3_c202_c3_hn27 w3_c202_c3_hv27 w3_c202_c3_hn27_2 w3_c202_c3_hv27_2 w3_c202_c3_hn27_3 w3_c202_c3_hv27_3) hZ (hw _ (List.mem_of_getElem? (i := 7) rfl)) (hw _ (List.mem_of_getElem? (i := 6) rfl)) (by decide) (by decide)) (g := (mkF m 202 #[.val (.int p0), .val (.int p1), .val (.int p2), .val (.int p3), .val (.int p4), .val (.int (3 : Int32)), .val (.double w3_v16), .second, .val (.double w3_v27), .second, .val (.double w3_v38), .second, .val (.double w3_v50), .second, .val (.ref bw31), .val (.double w3_v156), .second] [(.ref bw31)])) rfl (by rw [hml]; rfl) (argsL := [(.ref bw31)]) (rest := []) (lenOf own_pd_285bD29D rfl) rfl (by show 2 * 0 + _ ≤ _; exact Nat.le_of_eq rfl) (hb hby at_202) (fun _ _ => ⟨rfl, ew34, (by decide : 1 + 0 ≤ _), (by decide : 3 + 0 ≤ _)⟩)
  dsimp only [Pt.U, Pt.locs, Pt.cells, Pt.slots] at Xw35 lw35 yw35 zw35 stw35 hQw35
  subst lw35 yw35 zw35
  obtain ⟨rfl, Nw35q, ew35⟩ := hQw35
  have Nw35 := Fr.app Nw34 Nw35q
  obtain ⟨fs, hr, hrun, hended, hW, hsame⟩ := Xw35.leave (v := some (.int (1 : Int32))) (fun h => by rw [Bd.returns] at h; cases h)
  refine ⟨_, _, pre0 _ ?_, hrun, hended, _, _, rfl, ?_, ⟨_, rfl⟩, hW, hsame.mono (by decide) (by decide)⟩
  · refine own_s_iloadN X0.here hx (hb hby at_0) (pc' := 1) rfl rfl ?_
    refine X0.ldcInt hx hown (mvT hZ (hw _ (List.mem_of_getElem? (i := 0) rfl))) (g := (mkF m 1 #[.val (.int p0), .val (.int p1), .val (.int p2), .val (.int p3), .val (.int p4), .unset, .unset, .unset, .unset, .unset, .unset, .unset, .unset, .unset, .unset, .unset, .unset] [(.int p0)])) rfl (hb hby at_1) _ ?_
    show Steps p.tables e below (s₁.setTop (mkF m 3 #[.val (.int p0), .val (.int p1), .val (.int p2), .val (.int p3), .val (.int p4), .unset, .unset, .unset, .unset, .unset, .unset, .unset, .unset, .unset, .unset, .unset, .unset] [(.int (2147483647 : Int32)), (.int p0)])) _
    refine own_s_iand X0.here hx (hb hby at_3) (pc' := 4) rfl (v := w3_v3) w3_hv3 ?_
    refine own_s_iconst X0.here hx (hb hby at_4) (pc' := 5) rfl (v := (5 : Int32)) (by decide) ?_
    refine own_s_irem X0.here hx (hb hby at_5) (pc' := 6) rfl (by decide) (v := (3 : Int32)) w3_hv5 ?_
    refine own_s_istore X0.here hx (hb hby at_6) (pc' := 8) rfl (L' := #[.val (.int p0), .val (.int p1), .val (.int p2), .val (.int p3), .val (.int p4), .val (.int (3 : Int32)), .unset, .unset, .unset, .unset, .unset, .unset, .unset, .unset, .unset, .unset, .unset]) rfl ?_
    refine own_s_iloadN X0.here hx (hb hby at_8) (pc' := 9) rfl rfl ?_
    refine X0.ldcInt hx hown (mvT hZ (hw _ (List.mem_of_getElem? (i := 1) rfl))) (g := (mkF m 9 #[.val (.int p0), .val (.int p1), .val (.int p2), .val (.int p3), .val (.int p4), .val (.int (3 : Int32)), .unset, .unset, .unset, .unset, .unset, .unset, .unset, .unset, .unset, .unset, .unset] [(.int p1)])) rfl (hb hby at_9) _ ?_
    show Steps p.tables e below (s₁.setTop (mkF m 11 #[.val (.int p0), .val (.int p1), .val (.int p2), .val (.int p3), .val (.int p4), .val (.int (3 : Int32)), .unset, .unset, .unset, .unset, .unset, .unset, .unset, .unset, .unset, .unset, .unset] [(.int (65535 : Int32)), (.int p1)])) _
    refine own_s_iand X0.here hx (hb hby at_11) (pc' := 12) rfl (v := w3_v11) w3_hv11 ?_
    refine own_s_i2d X0.here hx (hb hby at_12) (pc' := 13) rfl (v := (FP.i2d w3_v11)) rfl ?_
    refine X0.ldc2DoubleC hx hown (mvT hZ (hw _ (List.mem_of_getElem? (i := 2) rfl))) (g := (mkF m 13 #[.val (.int p0), .val (.int p1), .val (.int p2), .val (.int p3), .val (.int p4), .val (.int (3 : Int32)), .unset, .unset, .unset, .unset, .unset, .unset, .unset, .unset, .unset, .unset, .unset] [(.double (FP.i2d w3_v11))])) rfl (hb hby at_13) _ ?_
    show Steps p.tables e below (s₁.setTop (mkF m 16 #[.val (.int p0), .val (.int p1), .val (.int p2), .val (.int p3), .val (.int p4), .val (.int (3 : Int32)), .unset, .unset, .unset, .unset, .unset, .unset, .unset, .unset, .unset, .unset, .unset] [(.double (4620693217682128896 : UInt64)), (.double (FP.i2d w3_v11))])) _
    refine own_s_ddiv X0.here hx (hb hby at_16) (pc' := 17) rfl w3_hn16 (v := w3_v16) w3_hv16 ?_
    refine own_s_dstore X0.here hx (hb hby at_17) (pc' := 19) rfl (L' := #[.val (.int p0), .val (.int p1), .val (.int p2), .val (.int p3), .val (.int p4), .val (.int (3 : Int32)), .val (.double w3_v16), .second, .unset, .unset, .unset, .unset, .unset, .unset, .unset, .unset, .unset]) rfl ?_
    refine own_s_iloadN X0.here hx (hb hby at_19) (pc' := 20) rfl rfl ?_
    refine X0.ldcInt hx hown (mvT hZ (hw _ (List.mem_of_getElem? (i := 1) rfl))) (g := (mkF m 20 #[.val (.int p0), .val (.int p1), .val (.int p2), .val (.int p3), .val (.int p4), .val (.int (3 : Int32)), .val (.double w3_v16), .second, .unset, .unset, .unset, .unset, .unset, .unset, .unset, .unset, .unset] [(.int p2)])) rfl (hb hby at_20) _ ?_
    show Steps p.tables e below (s₁.setTop (mkF m 22 #[.val (.int p0), .val (.int p1), .val (.int p2), .val (.int p3), .val (.int p4), .val (.int (3 : Int32)), .val (.double w3_v16), .second, .unset, .unset, .unset, .unset, .unset, .unset, .unset, .unset, .unset] [(.int (65535 : Int32)), (.int p2)])) _
    refine own_s_iand X0.here hx (hb hby at_22) (pc' := 23) rfl (v := w3_v22) w3_hv22 ?_
    refine own_s_i2d X0.here hx (hb hby at_23) (pc' := 24) rfl (v := (FP.i2d w3_v22)) rfl ?_
    refine X0.ldc2DoubleC hx hown (mvT hZ (hw _ (List.mem_of_getElem? (i := 2) rfl))) (g := (mkF m 24 #[.val (.int p0), .val (.int p1), .val (.int p2), .val (.int p3), .val (.int p4), .val (.int (3 : Int32)), .val (.double w3_v16), .second, .unset, .unset, .unset, .unset, .unset, .unset, .unset, .unset, .unset] [(.double (FP.i2d w3_v22))])) rfl (hb hby at_24) _ ?_
    show Steps p.tables e below (s₁.setTop (mkF m 27 #[.val (.int p0), .val (.int p1), .val (.int p2), .val (.int p3), .val (.int p4), .val (.int (3 : Int32)), .val (.double w3_v16), .second, .unset, .unset, .unset, .unset, .unset, .unset, .unset, .unset, .unset] [(.double (4620693217682128896 : UInt64)), (.double (FP.i2d w3_v22))])) _
    refine own_s_ddiv X0.here hx (hb hby at_27) (pc' := 28) rfl w3_hn27 (v := w3_v27) w3_hv27 ?_
    refine own_s_dstore X0.here hx (hb hby at_28) (pc' := 30) rfl (L' := #[.val (.int p0), .val (.int p1), .val (.int p2), .val (.int p3), .val (.int p4), .val (.int (3 : Int32)), .val (.double w3_v16), .second, .val (.double w3_v27), .second, .unset, .unset, .unset, .unset, .unset, .unset, .unset]) rfl ?_
    refine own_s_iloadN X0.here hx (hb hby at_30) (pc' := 31) rfl rfl ?_
    refine X0.ldcInt hx hown (mvT hZ (hw _ (List.mem_of_getElem? (i := 1) rfl))) (g := (mkF m 31 #[.val (.int p0), .val (.int p1), .val (.int p2), .val (.int p3), .val (.int p4), .val (.int (3 : Int32)), .val (.double w3_v16), .second, .val (.double w3_v27), .second, .unset, .unset, .unset, .unset, .unset, .unset, .unset] [(.int p3)])) rfl (hb hby at_31) _ ?_
    show Steps p.tables e below (s₁.setTop (mkF m 33 #[.val (.int p0), .val (.int p1), .val (.int p2), .val (.int p3), .val (.int p4), .val (.int (3 : Int32)), .val (.double w3_v16), .second, .val (.double w3_v27), .second, .unset, .unset, .unset, .unset, .unset, .unset, .unset] [(.int (65535 : Int32)), (.int p3)])) _
    refine own_s_iand X0.here hx (hb hby at_33) (pc' := 34) rfl (v := w3_v33) w3_hv33 ?_
    refine own_s_i2d X0.here hx (hb hby at_34) (pc' := 35) rfl (v := (FP.i2d w3_v33)) rfl ?_
    refine X0.ldc2DoubleC hx hown (mvT hZ (hw _ (List.mem_of_getElem? (i := 2) rfl))) (g := (mkF m 35 #[.val (.int p0), .val (.int p1), .val (.int p2), .val (.int p3), .val (.int p4), .val (.int (3 : Int32)), .val (.double w3_v16), .second, .val (.double w3_v27), .second, .unset, .unset, .unset, .unset, .unset, .unset, .unset] [(.double (FP.i2d w3_v33))])) rfl (hb hby at_35) _ ?_
    show Steps p.tables e below (s₁.setTop (mkF m 38 #[.val (.int p0), .val (.int p1), .val (.int p2), .val (.int p3), .val (.int p4), .val (.int (3 : Int32)), .val (.double w3_v16), .second, .val (.double w3_v27), .second, .unset, .unset, .unset, .unset, .unset, .unset, .unset] [(.double (4620693217682128896 : UInt64)), (.double (FP.i2d w3_v33))])) _
    refine own_s_ddiv X0.here hx (hb hby at_38) (pc' := 39) rfl w3_hn38 (v := w3_v38) w3_hv38 ?_
    refine own_s_dstore X0.here hx (hb hby at_39) (pc' := 41) rfl (L' := #[.val (.int p0), .val (.int p1), .val (.int p2), .val (.int p3), .val (.int p4), .val (.int (3 : Int32)), .val (.double w3_v16), .second, .val (.double w3_v27), .second, .val (.double w3_v38), .second, .unset, .unset, .unset, .unset, .unset]) rfl ?_
    refine own_s_iload X0.here hx (hb hby at_41) (pc' := 43) rfl rfl ?_
    refine X0.ldcInt hx hown (mvT hZ (hw _ (List.mem_of_getElem? (i := 1) rfl))) (g := (mkF m 43 #[.val (.int p0), .val (.int p1), .val (.int p2), .val (.int p3), .val (.int p4), .val (.int (3 : Int32)), .val (.double w3_v16), .second, .val (.double w3_v27), .second, .val (.double w3_v38), .second, .unset, .unset, .unset, .unset, .unset] [(.int p4)])) rfl (hb hby at_43) _ ?_
    show Steps p.tables e below (s₁.setTop (mkF m 45 #[.val (.int p0), .val (.int p1), .val (.int p2), .val (.int p3), .val (.int p4), .val (.int (3 : Int32)), .val (.double w3_v16), .second, .val (.double w3_v27), .second, .val (.double w3_v38), .second, .unset, .unset, .unset, .unset, .unset] [(.int (65535 : Int32)), (.int p4)])) _
    refine own_s_iand X0.here hx (hb hby at_45) (pc' := 46) rfl (v := w3_v45) w3_hv45 ?_
    refine own_s_i2d X0.here hx (hb hby at_46) (pc' := 47) rfl (v := (FP.i2d w3_v45)) rfl ?_
    refine X0.ldc2DoubleC hx hown (mvT hZ (hw _ (List.mem_of_getElem? (i := 2) rfl))) (g := (mkF m 47 #[.val (.int p0), .val (.int p1), .val (.int p2), .val (.int p3), .val (.int p4), .val (.int (3 : Int32)), .val (.double w3_v16), .second, .val (.double w3_v27), .second, .val (.double w3_v38), .second, .unset, .unset, .unset, .unset, .unset] [(.double (FP.i2d w3_v45))])) rfl (hb hby at_47) _ ?_
    show Steps p.tables e below (s₁.setTop (mkF m 50 #[.val (.int p0), .val (.int p1), .val (.int p2), .val (.int p3), .val (.int p4), .val (.int (3 : Int32)), .val (.double w3_v16), .second, .val (.double w3_v27), .second, .val (.double w3_v38), .second, .unset, .unset, .unset, .unset, .unset] [(.double (4620693217682128896 : UInt64)), (.double (FP.i2d w3_v45))])) _
    refine own_s_ddiv X0.here hx (hb hby at_50) (pc' := 51) rfl w3_hn50 (v := w3_v50) w3_hv50 ?_
    refine own_s_dstore X0.here hx (hb hby at_51) (pc' := 53) rfl (L' := #[.val (.int p0), .val (.int p1), .val (.int p2), .val (.int p3), .val (.int p4), .val (.int (3 : Int32)), .val (.double w3_v16), .second, .val (.double w3_v27), .second, .val (.double w3_v38), .second, .val (.double w3_v50), .second, .unset, .unset, .unset]) rfl ?_
    refine own_s_iload X0.here hx (hb hby at_53) (pc' := 55) rfl rfl ?_
    refine own_s_ifYes X0.here hx (hb hby at_55) (by decide) (pc' := 69) (by decide) (by decide) ?_
    refine own_s_iload X0.here hx (hb hby at_69) (pc' := 71) rfl rfl ?_
    refine own_s_iconst X0.here hx (hb hby at_71) (pc' := 72) rfl (v := (1 : Int32)) (by decide) ?_
    refine own_s_icmpYes X0.here hx (hb hby at_72) (by decide) (pc' := 92) (by decide) (by decide) ?_
    refine own_s_iload X0.here hx (hb hby at_92) (pc' := 94) rfl rfl ?_
    refine own_s_iconst X0.here hx (hb hby at_94) (pc' := 95) rfl (v := (2 : Int32)) (by decide) ?_
    refine own_s_icmpYes X0.here hx (hb hby at_95) (by decide) (pc' := 123) (by decide) (by decide) ?_
    refine own_s_iload X0.here hx (hb hby at_123) (pc' := 125) rfl rfl ?_
    refine own_s_iconst X0.here hx (hb hby at_125) (pc' := 126) rfl (v := (3 : Int32)) (by decide) ?_
    refine own_s_icmpNo X0.here hx (hb hby at_126) (pc' := 129) rfl (by decide) ?_
    refine own_s_iconst X0.here hx (hb hby at_129) (pc' := 130) rfl (v := (3 : Int32)) (by decide) ?_
    refine stw31 _ ?_
    refine own_s_dup Xw31.here hx (hb hby at_132) (pc' := 133) rfl rfl ?_
    refine own_s_iconst Xw31.here hx (hb hby at_133) (pc' := 134) rfl (v := (0 : Int32)) (by decide) ?_
    refine own_s_dload Xw31.here hx (hb hby at_134) (pc' := 136) rfl rfl ?_
    refine stw32 _ ?_
    refine own_s_dup Xw32.here hx (hb hby at_137) (pc' := 138) rfl rfl ?_
    refine own_s_iconst Xw32.here hx (hb hby at_138) (pc' := 139) rfl (v := (1 : Int32)) (by decide) ?_
    refine own_s_dload Xw32.here hx (hb hby at_139) (pc' := 141) rfl rfl ?_
    refine stw33 _ ?_
    refine own_s_dup Xw33.here hx (hb hby at_142) (pc' := 143) rfl rfl ?_
    refine own_s_iconst Xw33.here hx (hb hby at_143) (pc' := 144) rfl (v := (2 : Int32)) (by decide) ?_
    refine own_s_dload Xw33.here hx (hb hby at_144) (pc' := 146) rfl rfl ?_
    refine stw34 _ ?_
    refine own_s_astore Xw34.here hx (hb hby at_147) (pc' := 149) rfl rfl (L' := #[.val (.int p0), .val (.int p1), .val (.int p2), .val (.int p3), .val (.int p4), .val (.int (3 : Int32)), .val (.double w3_v16), .second, .val (.double w3_v27), .second, .val (.double w3_v38), .second, .val (.double w3_v50), .second, .val (.ref bw31), .unset, .unset]) rfl ?_
    refine own_s_dload Xw34.here hx (hb hby at_149) (pc' := 151) rfl rfl ?_
    refine own_s_dload Xw34.here hx (hb hby at_151) (pc' := 153) rfl rfl ?_
    refine own_s_dadd Xw34.here hx (hb hby at_153) (pc' := 154) rfl w3_hn153 (v := w3_v153) w3_hv153 ?_
    refine own_s_dload Xw34.here hx (hb hby at_154) (pc' := 156) rfl rfl ?_
    refine own_s_dadd Xw34.here hx (hb hby at_156) (pc' := 157) rfl w3_hn156 (v := w3_v156) w3_hv156 ?_
    refine own_s_dstore Xw34.here hx (hb hby at_157) (pc' := 159) rfl (L' := #[.val (.int p0), .val (.int p1), .val (.int p2), .val (.int p3), .val (.int p4), .val (.int (3 : Int32)), .val (.double w3_v16), .second, .val (.double w3_v27), .second, .val (.double w3_v38), .second, .val (.double w3_v50), .second, .val (.ref bw31), .val (.double w3_v156), .second]) rfl ?_
    refine own_s_goto Xw34.here hx (hb hby at_159) (by decide) (pc' := 200) (by decide) ?_
    refine own_s_aload Xw34.here hx (hb hby at_200) (pc' := 202) rfl rfl rfl ?_
    refine stw35 _ ?_
    show Steps p.tables e below (Tw35.setTop (mkF m 205 #[.val (.int p0), .val (.int p1), .val (.int p2), .val (.int p3), .val (.int p4), .val (.int (3 : Int32)), .val (.double w3_v16), .second, .val (.double w3_v27), .second, .val (.double w3_v38), .second, .val (.double w3_v50), .second, .val (.ref bw31), .val (.double w3_v156), .second] [(.double w3_c202_c3_v27_3)])) _
    refine own_s_dload Xw35.here hx (hb hby at_205) (pc' := 207) rfl rfl ?_
    refine own_s_dcmp Xw35.here hx (hb hby at_207) (pc' := 208) rfl (v := (0 : Int32)) w3_hc207 ?_
    refine own_s_ifNo Xw35.here hx (hb hby at_208) (pc' := 211) rfl (by decide) ?_
    refine own_s_iconst Xw35.here hx (hb hby at_211) (pc' := 212) rfl (v := (1 : Int32)) (by decide) ?_
    refine own_s_goto Xw35.here hx (hb hby at_212) (by decide) (pc' := 216) (by decide) ?_
    exact retN Xw35 hx (t := .boolean) Bd.returns (by simp) (hb hby at_216) hr
  · show own_Q0 n0 _ Tw35.heap _
    rw [ew35]
    exact ⟨rfl, Nw35⟩
theorem own_ef_c4 (m : MethodId) (q : Addr) : entryFrame m #[(.ref q)] 8 = mkF m 0 #[.val (.ref q), .unset, .unset, .unset, .unset, .unset, .unset, .unset] [] := by first | (simp [entryFrame, mkF, argsToLocals, Value.category]; done) | rfl
set_option maxRecDepth 65536 in
set_option maxHeartbeats 40000000 in
theorem own_rm_c4 (l : Launch) (Z : State) (a0 : Array Value) (hw : ∀ d ∈ tables_1, d.before a0 Z = true) (ws : List Jvm.Cond) (q : Addr) (d0 : UInt64) (d1 : UInt64) (d2 : UInt64) (d3 : UInt64) {qk : ClassId} {c4_v27 : UInt64} {c4_v27_2 : UInt64} {c4_v27_3 : UInt64} {c4_v27_4 : UInt64} (h0 : Heap) (n0 : Nat) (Z0 : n0 ≤ h0.size) (V_q : Arv Z h0 q qk .double (4 : Int32) [(.double d0), (.double d1), (.double d2), (.double d3)] (.double 0)) (c4_hn27 : Jvm.Free.Fl.NoNaN64 (FP.dadd 0 d0)) (c4_hv27 : FP.dadd 0 d0 = c4_v27) (c4_hn27_2 : Jvm.Free.Fl.NoNaN64 (FP.dadd c4_v27 d1)) (c4_hv27_2 : FP.dadd c4_v27 d1 = c4_v27_2) (c4_hn27_3 : Jvm.Free.Fl.NoNaN64 (FP.dadd c4_v27_2 d2)) (c4_hv27_3 : FP.dadd c4_v27_2 d2 = c4_v27_3) (c4_hn27_4 : Jvm.Free.Fl.NoNaN64 (FP.dadd c4_v27_3 d3)) (c4_hv27_4 : FP.dadd c4_v27_3 d3 = c4_v27_4) :
    MetFree l (⟨"com/example/hachure/hachure/render/DashWalk", "period", "([D)D"⟩ : MethodName) (head1 (Jvm.Cond.code (⟨"com/example/hachure/hachure/render/DashWalk", "period", "([D)D"⟩ : MethodName) prog_64_method_2_code 8 (some .double) :: ws) ({ frames := 0, cells := 0, slots := 0, locals := 0 } : Room)) (fun a U => a = #[(.ref q)] ∧ Z.Warmed39 U.vm ∧ U.heap = h0) (fun _ _ _ _ _ => True) (fun _ U o U' => ∃ v L, o = .returned v ∧ own_QP (some (.double c4_v27_4)) h0 n0 v U'.heap L ∧ FrameEnd U o U' L ({ frames := 0, cells := 0, slots := 0, locals := 0 } : Room).cells ({ frames := 0, cells := 0, slots := 0, locals := 0 } : Room).slots) := by
  refine MetFree.of_bodySF (plainFor_of_name own_pn_com_example_hachure_hachure_render_DashWalk) hisR ?_
  intro p e s m args below meth c s₁ Bd hml0 hP hK
  obtain ⟨rfl, hZ, hh⟩ := hP
  have hx := Bd.exec
  have hby := Bd.bytes
  have hml : c.maxLocals = 8 := hml0
  have hown : s.vm.findClass "com/example/hachure/hachure/render/DashWalk" = some m.cls := findClass_of_methodNamed Bd.named
  have hnm := (name_of_methodNamed Bd.named Bd.method).1
  have X0 : Stand p l e ({ frames := 0, cells := 0, slots := 0, locals := 0 } : Room) s m #[(.ref q)] below meth c s₁ [] 0 0 := Stand.of_body Bd
  have e0 : s₁.heap = h0 := by rw [← hh, Bd.state]; rfl
  have N0 := Fr.nil n0
  have pre0 : ∀ t, Steps p.tables e below (s₁.setTop (mkF m 0 #[.val (.ref q), .unset, .unset, .unset, .unset, .unset, .unset, .unset] [])) t → Steps p.tables e below (s₁.setTop (entryFrame m #[(.ref q)] 8)) t := fun t k => castTop (own_ef_c4 m q) k
  obtain ⟨fs, hr, hrun, hended, hW, hsame⟩ := X0.leave (v := some (.double c4_v27_4)) (fun h => by rw [Bd.returns] at h; cases h)
  refine ⟨_, _, pre0 _ ?_, hrun, hended, _, _, rfl, ?_, ⟨_, rfl⟩, hW, hsame.mono (by decide) (by decide)⟩
  · refine own_s_dconst0 X0.here hx (hb hby own_d1_0) (pc' := 1) rfl  ?_
    refine own_s_dstoreN X0.here hx (hb hby own_d1_1) (pc' := 2) rfl (L' := #[.val (.ref q), .val (.double 0), .second, .unset, .unset, .unset, .unset, .unset]) rfl ?_
    refine own_s_aloadN X0.here hx (hb hby own_d1_2) (pc' := 3) rfl rfl rfl ?_
    refine own_s_astoreN X0.here hx (hb hby own_d1_3) (pc' := 4) rfl rfl (L' := #[.val (.ref q), .val (.double 0), .second, .val (.ref q), .unset, .unset, .unset, .unset]) rfl ?_
    refine own_s_aloadN X0.here hx (hb hby own_d1_4) (pc' := 5) rfl rfl rfl ?_
    refine own_len X0 hx hZ e0 V_q (hb hby own_d1_5) (pc' := 6) rfl ?_
    refine own_s_istore X0.here hx (hb hby own_d1_6) (pc' := 8) rfl (L' := #[.val (.ref q), .val (.double 0), .second, .val (.ref q), .val (.int (4 : Int32)), .unset, .unset, .unset]) rfl ?_
    refine own_s_iconst X0.here hx (hb hby own_d1_8) (pc' := 9) rfl (v := (0 : Int32)) (by decide) ?_
    refine own_s_istore X0.here hx (hb hby own_d1_9) (pc' := 11) rfl (L' := #[.val (.ref q), .val (.double 0), .second, .val (.ref q), .val (.int (4 : Int32)), .val (.int (0 : Int32)), .unset, .unset]) rfl ?_
    refine own_s_iload X0.here hx (hb hby own_d1_11) (pc' := 13) rfl rfl ?_
    refine own_s_iload X0.here hx (hb hby own_d1_13) (pc' := 15) rfl rfl ?_
    refine own_s_icmpNo X0.here hx (hb hby own_d1_15) (pc' := 18) rfl (by decide) ?_
    refine own_s_aloadN X0.here hx (hb hby own_d1_18) (pc' := 19) rfl rfl rfl ?_
    refine own_s_iload X0.here hx (hb hby own_d1_19) (pc' := 21) rfl rfl ?_
    refine own_ldD X0 hx hZ e0 V_q (j := (0 : Int32)) (x := d0) (by decide) rfl (hb hby own_d1_21) (pc' := 22) rfl ?_
    refine own_s_dstore X0.here hx (hb hby own_d1_22) (pc' := 24) rfl (L' := #[.val (.ref q), .val (.double 0), .second, .val (.ref q), .val (.int (4 : Int32)), .val (.int (0 : Int32)), .val (.double d0), .second]) rfl ?_
    refine own_s_dloadN X0.here hx (hb hby own_d1_24) (pc' := 25) rfl rfl ?_
    refine own_s_dload X0.here hx (hb hby own_d1_25) (pc' := 27) rfl rfl ?_
    refine own_s_dadd X0.here hx (hb hby own_d1_27) (pc' := 28) rfl c4_hn27 (v := c4_v27) c4_hv27 ?_
    refine own_s_dstoreN X0.here hx (hb hby own_d1_28) (pc' := 29) rfl (L' := #[.val (.ref q), .val (.double c4_v27), .second, .val (.ref q), .val (.int (4 : Int32)), .val (.int (0 : Int32)), .val (.double d0), .second]) rfl ?_
    refine own_s_iinc X0.here hx (hb hby own_d1_29) (pc' := 32) rfl rfl (v := (1 : Int32)) (by decide) (L' := #[.val (.ref q), .val (.double c4_v27), .second, .val (.ref q), .val (.int (4 : Int32)), .val (.int (1 : Int32)), .val (.double d0), .second]) rfl ?_
    refine own_s_goto X0.here hx (hb hby own_d1_32) (by decide) (pc' := 11) (by decide) ?_
    refine own_s_iload X0.here hx (hb hby own_d1_11) (pc' := 13) rfl rfl ?_
    refine own_s_iload X0.here hx (hb hby own_d1_13) (pc' := 15) rfl rfl ?_
    refine own_s_icmpNo X0.here hx (hb hby own_d1_15) (pc' := 18) rfl (by decide) ?_
    refine own_s_aloadN X0.here hx (hb hby own_d1_18) (pc' := 19) rfl rfl rfl ?_
    refine own_s_iload X0.here hx (hb hby own_d1_19) (pc' := 21) rfl rfl ?_
    refine own_ldD X0 hx hZ e0 V_q (j := (1 : Int32)) (x := d1) (by decide) rfl (hb hby own_d1_21) (pc' := 22) rfl ?_
    refine own_s_dstore X0.here hx (hb hby own_d1_22) (pc' := 24) rfl (L' := #[.val (.ref q), .val (.double c4_v27), .second, .val (.ref q), .val (.int (4 : Int32)), .val (.int (1 : Int32)), .val (.double d1), .second]) rfl ?_
    refine own_s_dloadN X0.here hx (hb hby own_d1_24) (pc' := 25) rfl rfl ?_
    refine own_s_dload X0.here hx (hb hby own_d1_25) (pc' := 27) rfl rfl ?_
    refine own_s_dadd X0.here hx (hb hby own_d1_27) (pc' := 28) rfl c4_hn27_2 (v := c4_v27_2) c4_hv27_2 ?_
    refine own_s_dstoreN X0.here hx (hb hby own_d1_28) (pc' := 29) rfl (L' := #[.val (.ref q), .val (.double c4_v27_2), .second, .val (.ref q), .val (.int (4 : Int32)), .val (.int (1 : Int32)), .val (.double d1), .second]) rfl ?_
    refine own_s_iinc X0.here hx (hb hby own_d1_29) (pc' := 32) rfl rfl (v := (2 : Int32)) (by decide) (L' := #[.val (.ref q), .val (.double c4_v27_2), .second, .val (.ref q), .val (.int (4 : Int32)), .val (.int (2 : Int32)), .val (.double d1), .second]) rfl ?_
    refine own_s_goto X0.here hx (hb hby own_d1_32) (by decide) (pc' := 11) (by decide) ?_
    refine own_s_iload X0.here hx (hb hby own_d1_11) (pc' := 13) rfl rfl ?_
    refine own_s_iload X0.here hx (hb hby own_d1_13) (pc' := 15) rfl rfl ?_
    refine own_s_icmpNo X0.here hx (hb hby own_d1_15) (pc' := 18) rfl (by decide) ?_
    refine own_s_aloadN X0.here hx (hb hby own_d1_18) (pc' := 19) rfl rfl rfl ?_
    refine own_s_iload X0.here hx (hb hby own_d1_19) (pc' := 21) rfl rfl ?_
    refine own_ldD X0 hx hZ e0 V_q (j := (2 : Int32)) (x := d2) (by decide) rfl (hb hby own_d1_21) (pc' := 22) rfl ?_
    refine own_s_dstore X0.here hx (hb hby own_d1_22) (pc' := 24) rfl (L' := #[.val (.ref q), .val (.double c4_v27_2), .second, .val (.ref q), .val (.int (4 : Int32)), .val (.int (2 : Int32)), .val (.double d2), .second]) rfl ?_
    refine own_s_dloadN X0.here hx (hb hby own_d1_24) (pc' := 25) rfl rfl ?_
    refine own_s_dload X0.here hx (hb hby own_d1_25) (pc' := 27) rfl rfl ?_
    refine own_s_dadd X0.here hx (hb hby own_d1_27) (pc' := 28) rfl c4_hn27_3 (v := c4_v27_3) c4_hv27_3 ?_
    refine own_s_dstoreN X0.here hx (hb hby own_d1_28) (pc' := 29) rfl (L' := #[.val (.ref q), .val (.double c4_v27_3), .second, .val (.ref q), .val (.int (4 : Int32)), .val (.int (2 : Int32)), .val (.double d2), .second]) rfl ?_
    refine own_s_iinc X0.here hx (hb hby own_d1_29) (pc' := 32) rfl rfl (v := (3 : Int32)) (by decide) (L' := #[.val (.ref q), .val (.double c4_v27_3), .second, .val (.ref q), .val (.int (4 : Int32)), .val (.int (3 : Int32)), .val (.double d2), .second]) rfl ?_
    refine own_s_goto X0.here hx (hb hby own_d1_32) (by decide) (pc' := 11) (by decide) ?_
    refine own_s_iload X0.here hx (hb hby own_d1_11) (pc' := 13) rfl rfl ?_
    refine own_s_iload X0.here hx (hb hby own_d1_13) (pc' := 15) rfl rfl ?_
    refine own_s_icmpNo X0.here hx (hb hby own_d1_15) (pc' := 18) rfl (by decide) ?_
    refine own_s_aloadN X0.here hx (hb hby own_d1_18) (pc' := 19) rfl rfl rfl ?_
    refine own_s_iload X0.here hx (hb hby own_d1_19) (pc' := 21) rfl rfl ?_
    refine own_ldD X0 hx hZ e0 V_q (j := (3 : Int32)) (x := d3) (by decide) rfl (hb hby own_d1_21) (pc' := 22) rfl ?_
    refine own_s_dstore X0.here hx (hb hby own_d1_22) (pc' := 24) rfl (L' := #[.val (.ref q), .val (.double c4_v27_3), .second, .val (.ref q), .val (.int (4 : Int32)), .val (.int (3 : Int32)), .val (.double d3), .second]) rfl ?_
    refine own_s_dloadN X0.here hx (hb hby own_d1_24) (pc' := 25) rfl rfl ?_
    refine own_s_dload X0.here hx (hb hby own_d1_25) (pc' := 27) rfl rfl ?_
    refine own_s_dadd X0.here hx (hb hby own_d1_27) (pc' := 28) rfl c4_hn27_4 (v := c4_v27_4) c4_hv27_4 ?_
    refine own_s_dstoreN X0.here hx (hb hby own_d1_28) (pc' := 29) rfl (L' := #[.val (.ref q), .val (.double c4_v27_4), .second, .val (.ref q), .val (.int (4 : Int32)), .val (.int (3 : Int32)), .val (.double d3), .second]) rfl ?_
    refine own_s_iinc X0.here hx (hb hby own_d1_29) (pc' := 32) rfl rfl (v := (4 : Int32)) (by decide) (L' := #[.val (.ref q), .val (.double c4_v27_4), .second, .val (.ref q), .val (.int (4 : Int32)), .val (.int (4 : Int32)), .val (.double d3), .second]) rfl ?_
    refine own_s_goto X0.here hx (hb hby own_d1_32) (by decide) (pc' := 11) (by decide) ?_
    refine own_s_iload X0.here hx (hb hby own_d1_11) (pc' := 13) rfl rfl ?_
    refine own_s_iload X0.here hx (hb hby own_d1_13) (pc' := 15) rfl rfl ?_
    refine own_s_icmpYes X0.here hx (hb hby own_d1_15) (by decide) (pc' := 35) (by decide) (by decide) ?_
    refine own_s_dloadN X0.here hx (hb hby own_d1_35) (pc' := 36) rfl rfl ?_
    exact own_retD X0 hx Bd.returns (hb hby own_d1_36) hr
  · show own_QP (some (.double c4_v27_4)) h0 n0 _ s₁.heap _
    rw [e0]
    exact ⟨rfl, N0, rfl⟩
theorem own_ef_w4 (m : MethodId) (p0 : Int32) (p1 : Int32) (p2 : Int32) (p3 : Int32) (p4 : Int32) : entryFrame m #[(.int p0), (.int p1), (.int p2), (.int p3), (.int p4)] maxLocals = mkF m 0 #[.val (.int p0), .val (.int p1), .val (.int p2), .val (.int p3), .val (.int p4), .unset, .unset, .unset, .unset, .unset, .unset, .unset, .unset, .unset, .unset, .unset, .unset] [] := by first | (simp [entryFrame, mkF, argsToLocals, Value.category, maxLocals]; done) | rfl
set_option maxRecDepth 65536 in
set_option maxHeartbeats 40000000 in
theorem own_rm_w4 (l : Launch) (Z : State) (a0 : Array Value) (hw : ∀ d ∈ tables_1, d.before a0 Z = true) (ws : List Jvm.Cond) (p0 : Int32) (p1 : Int32) (p2 : Int32) (p3 : Int32) (p4 : Int32) {w4_v3 : Int32} {w4_v11 : Int32} {w4_v16 : UInt64} {w4_v22 : Int32} {w4_v27 : UInt64} {w4_v33 : Int32} {w4_v38 : UInt64} {w4_v45 : Int32} {w4_v50 : UInt64} {w4_v191 : UInt64} {w4_v194 : UInt64} {w4_v197 : UInt64} {w4_c202_c4_v27 : UInt64} {w4_c202_c4_v27_2 : UInt64} {w4_c202_c4_v27_3 : UInt64} {w4_c202_c4_v27_4 : UInt64} (h0 : Heap) (n0 : Nat) (Z0 : n0 ≤ h0.size)  (w4_hv3 : p0 &&& (2147483647 : Int32) = w4_v3) (w4_hv5 : w4_v3 % (5 : Int32) = (4 : Int32)) (w4_hv11 : p1 &&& (65535 : Int32) = w4_v11) (w4_hn16 : Jvm.Free.Fl.NoNaN64 (FP.ddiv (FP.i2d w4_v11) (4620693217682128896 : UInt64))) (w4_hv16 : FP.ddiv (FP.i2d w4_v11) (4620693217682128896 : UInt64) = w4_v16) (w4_hv22 : p2 &&& (65535 : Int32) = w4_v22) (w4_hn27 : Jvm.Free.Fl.NoNaN64 (FP.ddiv (FP.i2d w4_v22) (4620693217682128896 : UInt64))) (w4_hv27 : FP.ddiv (FP.i2d w4_v22) (4620693217682128896 : UInt64) = w4_v27) (w4_hv33 : p3 &&& (65535 : Int32) = w4_v33) (w4_hn38 : Jvm.Free.Fl.NoNaN64 (FP.ddiv (FP.i2d w4_v33) (4620693217682128896 : UInt64))) (w4_hv38 : FP.ddiv (FP.i2d w4_v33) (4620693217682128896 : UInt64) = w4_v38) (w4_hv45 : p4 &&& (65535 : Int32) = w4_v45) (w4_hn50 : Jvm.Free.Fl.NoNaN64 (FP.ddiv (FP.i2d w4_v45) (4620693217682128896 : UInt64))) (w4_hv50 : FP.ddiv (FP.i2d w4_v45) (4620693217682128896 : UInt64) = w4_v50) (w4_hn191 : Jvm.Free.Fl.NoNaN64 (FP.dadd w4_v16 w4_v27)) (w4_hv191 : FP.dadd w4_v16 w4_v27 = w4_v191) (w4_hn194 : Jvm.Free.Fl.NoNaN64 (FP.dadd w4_v191 w4_v38)) (w4_hv194 : FP.dadd w4_v191 w4_v38 = w4_v194) (w4_hn197 : Jvm.Free.Fl.NoNaN64 (FP.dadd w4_v194 w4_v50)) (w4_hv197 : FP.dadd w4_v194 w4_v50 = w4_v197) (w4_c202_c4_hn27 : Jvm.Free.Fl.NoNaN64 (FP.dadd 0 w4_v16)) (w4_c202_c4_hv27 : FP.dadd 0 w4_v16 = w4_c202_c4_v27) (w4_c202_c4_hn27_2 : Jvm.Free.Fl.NoNaN64 (FP.dadd w4_c202_c4_v27 w4_v27)) (w4_c202_c4_hv27_2 : FP.dadd w4_c202_c4_v27 w4_v27 = w4_c202_c4_v27_2) (w4_c202_c4_hn27_3 : Jvm.Free.Fl.NoNaN64 (FP.dadd w4_c202_c4_v27_2 w4_v38)) (w4_c202_c4_hv27_3 : FP.dadd w4_c202_c4_v27_2 w4_v38 = w4_c202_c4_v27_3) (w4_c202_c4_hn27_4 : Jvm.Free.Fl.NoNaN64 (FP.dadd w4_c202_c4_v27_3 w4_v50)) (w4_c202_c4_hv27_4 : FP.dadd w4_c202_c4_v27_3 w4_v50 = w4_c202_c4_v27_4) (w4_hc207 : Op.cmpValue (FP.dcmp w4_c202_c4_v27_4 w4_v197) .l = (0 : Int32)) :
    MetFree l x (head1 (Jvm.Cond.code x code maxLocals ret :: ws) room_1) (fun a U => a = #[(.int p0), (.int p1), (.int p2), (.int p3), (.int p4)] ∧ Z.Warmed39 U.vm ∧ U.heap = h0) (fun _ _ _ _ _ => True) (fun _ U o U' => ∃ v L, o = .returned v ∧ own_Q0 n0 v U'.heap L ∧ FrameEnd U o U' L room_1.cells room_1.slots) := by
  refine MetFree.of_bodySF (plainFor_of_name own_pn_com_example_hachure_hachure_render_DashWalkPeriodPinLaw) hisR ?_
  intro p e s m args below meth c s₁ Bd hml0 hP hK
  obtain ⟨rfl, hZ, hh⟩ := hP
  have hx := Bd.exec
  have hby := Bd.bytes
  have hml : c.maxLocals = 17 := hml0
  have hown : s.vm.findClass "com/example/hachure/hachure/render/DashWalkPeriodPinLaw" = some m.cls := findClass_of_methodNamed Bd.named
  have hnm := (name_of_methodNamed Bd.named Bd.method).1
  have X0 : Stand p l e room_1 s m #[(.int p0), (.int p1), (.int p2), (.int p3), (.int p4)] below meth c s₁ [] 0 0 := Stand.of_body Bd
  have e0 : s₁.heap = h0 := by rw [← hh, Bd.state]; rfl
  have N0 := Fr.nil n0
  have pre0 : ∀ t, Steps p.tables e below (s₁.setTop (mkF m 0 #[.val (.int p0), .val (.int p1), .val (.int p2), .val (.int p3), .val (.int p4), .unset, .unset, .unset, .unset, .unset, .unset, .unset, .unset, .unset, .unset, .unset, .unset] [])) t → Steps p.tables e below (s₁.setTop (entryFrame m #[(.int p0), (.int p1), (.int p2), (.int p3), (.int p4)] maxLocals)) t := fun t k => castTop (own_ef_w4 m p0 p1 p2 p3 p4) k
  obtain ⟨Tw41, hw41, kw41, bw41, Xw41, ew41, Ew41, Gw41, Vw41, stw41⟩ := own_newD (L := #[.val (.int p0), .val (.int p1), .val (.int p2), .val (.int p3), .val (.int p4), .val (.int (4 : Int32)), .val (.double w4_v16), .second, .val (.double w4_v27), .second, .val (.double w4_v38), .second, .val (.double w4_v50), .second, .unset, .unset, .unset]) (S := []) X0 hx hZ (hw _ (List.mem_of_getElem? (i := 3) rfl)) e0 (z := (4 : Int32)) 4 (by decide) (by decide) (by decide) (by decide) (by decide) (hb hby at_163) (pc' := 165) rfl
  have g_bw41 : n0 ≤ bw41 := Nat.le_trans Z0 (Nat.le_of_eq Gw41.symm)
  have sz_bw41 : h0.size ≤ bw41 := Nat.le_trans (Keep.refl h0 []).1 (Nat.le_of_eq Gw41.symm)
  have Zw41 : n0 ≤ hw41.size := Nat.le_trans Z0 Ew41.1
  have KKw41 := (Keep.refl h0 []).ext Ew41
  have V_bw41 : Arv Z hw41 bw41 kw41 .double (4 : Int32) [(.double 0), (.double 0), (.double 0), (.double 0)] (.double 0) := Vw41
  obtain ⟨Tw42, hw42, Xw42, ew42, Ww42, Vw42, stw42⟩ := own_stD (L := #[.val (.int p0), .val (.int p1), .val (.int p2), .val (.int p3), .val (.int p4), .val (.int (4 : Int32)), .val (.double w4_v16), .second, .val (.double w4_v27), .second, .val (.double w4_v38), .second, .val (.double w4_v50), .second, .unset, .unset, .unset]) (S := [(.ref bw41)]) Xw41 hx hZ ew41 V_bw41 (j := (0 : Int32)) (x := w4_v16) (by decide) 0 (by decide) (Nat.le_of_ble_eq_true rfl) (hb hby at_169) (pc' := 170) rfl
  have Zw42 : n0 ≤ hw42.size := Nat.le_trans Zw41 (Nat.le_of_eq Ww42.size.symm)
  have KKw42 := KKw41.wr Ww42 (Or.inr sz_bw41)
  have V_bw41_w42 : Arv Z hw42 bw41 kw41 .double (4 : Int32) [(.double w4_v16), (.double 0), (.double 0), (.double 0)] (.double 0) := Vw42
  have Nw42 := Fr.snoc Xw42 N0 g_bw41
  obtain ⟨Tw43, hw43, Xw43, ew43, Ww43, Vw43, stw43⟩ := own_stD (L := #[.val (.int p0), .val (.int p1), .val (.int p2), .val (.int p3), .val (.int p4), .val (.int (4 : Int32)), .val (.double w4_v16), .second, .val (.double w4_v27), .second, .val (.double w4_v38), .second, .val (.double w4_v50), .second, .unset, .unset, .unset]) (S := [(.ref bw41)]) Xw42 hx hZ ew42 V_bw41_w42 (j := (1 : Int32)) (x := w4_v27) (by decide) 1 (by decide) (Nat.le_of_ble_eq_true rfl) (hb hby at_174) (pc' := 175) rfl
  have Zw43 : n0 ≤ hw43.size := Nat.le_trans Zw42 (Nat.le_of_eq Ww43.size.symm)
  have KKw43 := KKw42.wr Ww43 (Or.inr sz_bw41)
  have V_bw41_w43 : Arv Z hw43 bw41 kw41 .double (4 : Int32) [(.double w4_v16), (.double w4_v27), (.double 0), (.double 0)] (.double 0) := Vw43
  have Nw43 := Fr.snoc Xw43 Nw42 g_bw41
  obtain ⟨Tw44, hw44, Xw44, ew44, Ww44, Vw44, stw44⟩ := own_stD (L := #[.val (.int p0), .val (.int p1), .val (.int p2), .val (.int p3), .val (.int p4), .val (.int (4 : Int32)), .val (.double w4_v16), .second, .val (.double w4_v27), .second, .val (.double w4_v38), .second, .val (.double w4_v50), .second, .unset, .unset, .unset]) (S := [(.ref bw41)]) Xw43 hx hZ ew43 V_bw41_w43 (j := (2 : Int32)) (x := w4_v38) (by decide) 2 (by decide) (Nat.le_of_ble_eq_true rfl) (hb hby at_179) (pc' := 180) rfl
  have Zw44 : n0 ≤ hw44.size := Nat.le_trans Zw43 (Nat.le_of_eq Ww44.size.symm)
  have KKw44 := KKw43.wr Ww44 (Or.inr sz_bw41)
  have V_bw41_w44 : Arv Z hw44 bw41 kw41 .double (4 : Int32) [(.double w4_v16), (.double w4_v27), (.double w4_v38), (.double 0)] (.double 0) := Vw44
  have Nw44 := Fr.snoc Xw44 Nw43 g_bw41
  obtain ⟨Tw45, hw45, Xw45, ew45, Ww45, Vw45, stw45⟩ := own_stD (L := #[.val (.int p0), .val (.int p1), .val (.int p2), .val (.int p3), .val (.int p4), .val (.int (4 : Int32)), .val (.double w4_v16), .second, .val (.double w4_v27), .second, .val (.double w4_v38), .second, .val (.double w4_v50), .second, .unset, .unset, .unset]) (S := [(.ref bw41)]) Xw44 hx hZ ew44 V_bw41_w44 (j := (3 : Int32)) (x := w4_v50) (by decide) 3 (by decide) (Nat.le_of_ble_eq_true rfl) (hb hby at_184) (pc' := 185) rfl
  have Zw45 : n0 ≤ hw45.size := Nat.le_trans Zw44 (Nat.le_of_eq Ww45.size.symm)
  have KKw45 := KKw44.wr Ww45 (Or.inr sz_bw41)
  have V_bw41_w45 : Arv Z hw45 bw41 kw41 .double (4 : Int32) [(.double w4_v16), (.double w4_v27), (.double w4_v38), (.double w4_v50)] (.double 0) := Vw45
  have Nw45 := Fr.snoc Xw45 Nw44 g_bw41
  obtain ⟨_, _, ⟨Tw46, Lw46, kw46, nw46⟩, -, Xw46, ⟨Lcw46, hQw46, lw46, yw46, zw46⟩, stw46⟩ := Jvm.LawKit.callS Xw45 hx (y := (⟨"com/example/hachure/hachure/render/DashWalk", "period", "([D)D"⟩ : MethodName)) hown (mvT hZ (hw _ (List.mem_of_getElem? (i := 4) rfl))) (mvT hZ (hw _ (List.mem_of_getElem? (i := 5) rfl))) (mvT hZ (hw _ (List.mem_of_getElem? (i := 6) rfl))) (mvT hZ (hw _ (List.mem_of_getElem? (i := 7) rfl))) (by decide) (backOf (W := 0) (own_rm_c4 l Z a0 hw [] bw41 w4_v16 w4_v27 w4_v38 w4_v50 hw45 n0 Zw45 V_bw41_w45 w4_c202_c4_hn27 w4_c202_c4_hv27 w4_c202_c4_hn27_2 w4_c202_c4_hv27_2 w4_c202_c4_hn27_3 w4_c202_c4_hv27_3 w4_c202_c4_hn27_4 w4_c202_c4_hv27_4) hZ (hw _ (List.mem_of_getElem? (i := 7) rfl)) (hw _ (List.mem_of_getElem? (i := 6) rfl)) (by decide) (by decide)) (g := (mkF m 202 #[.val (.int p0), .val (.int p1), .val (.int p2), .val (.int p3), .val (.int p4), .val (.int (4 : Int32)), .val (.double w4_v16), .second, .val (.double w4_v27), .second, .val (.double w4_v38), .second, .val (.double w4_v50), .second, .val (.ref bw41), .val (.double w4_v197), .second] [(.ref bw41)])) rfl (by rw [hml]; rfl) (argsL := [(.ref bw41)]) (rest := []) (lenOf own_pd_285bD29D rfl) rfl (by show 2 * 0 + _ ≤ _; exact Nat.le_of_eq rfl) (hb hby at_202) (fun _ _ => ⟨rfl, ew45, (by decide : 1 + 0 ≤ _), (by decide : 4 + 0 ≤ _)⟩)
  dsimp only [Pt.U, Pt.locs, Pt.cells, Pt.slots] at Xw46 lw46 yw46 zw46 stw46 hQw46
  subst lw46 yw46 zw46
  obtain ⟨rfl, Nw46q, ew46⟩ := hQw46
  have Nw46 := Fr.app Nw45 Nw46q
  obtain ⟨fs, hr, hrun, hended, hW, hsame⟩ := Xw46.leave (v := some (.int (1 : Int32))) (fun h => by rw [Bd.returns] at h; cases h)
  refine ⟨_, _, pre0 _ ?_, hrun, hended, _, _, rfl, ?_, ⟨_, rfl⟩, hW, hsame.mono (by decide) (by decide)⟩
  · refine own_s_iloadN X0.here hx (hb hby at_0) (pc' := 1) rfl rfl ?_
    refine X0.ldcInt hx hown (mvT hZ (hw _ (List.mem_of_getElem? (i := 0) rfl))) (g := (mkF m 1 #[.val (.int p0), .val (.int p1), .val (.int p2), .val (.int p3), .val (.int p4), .unset, .unset, .unset, .unset, .unset, .unset, .unset, .unset, .unset, .unset, .unset, .unset] [(.int p0)])) rfl (hb hby at_1) _ ?_
    show Steps p.tables e below (s₁.setTop (mkF m 3 #[.val (.int p0), .val (.int p1), .val (.int p2), .val (.int p3), .val (.int p4), .unset, .unset, .unset, .unset, .unset, .unset, .unset, .unset, .unset, .unset, .unset, .unset] [(.int (2147483647 : Int32)), (.int p0)])) _
    refine own_s_iand X0.here hx (hb hby at_3) (pc' := 4) rfl (v := w4_v3) w4_hv3 ?_
    refine own_s_iconst X0.here hx (hb hby at_4) (pc' := 5) rfl (v := (5 : Int32)) (by decide) ?_
    refine own_s_irem X0.here hx (hb hby at_5) (pc' := 6) rfl (by decide) (v := (4 : Int32)) w4_hv5 ?_
    refine own_s_istore X0.here hx (hb hby at_6) (pc' := 8) rfl (L' := #[.val (.int p0), .val (.int p1), .val (.int p2), .val (.int p3), .val (.int p4), .val (.int (4 : Int32)), .unset, .unset, .unset, .unset, .unset, .unset, .unset, .unset, .unset, .unset, .unset]) rfl ?_
    refine own_s_iloadN X0.here hx (hb hby at_8) (pc' := 9) rfl rfl ?_
    refine X0.ldcInt hx hown (mvT hZ (hw _ (List.mem_of_getElem? (i := 1) rfl))) (g := (mkF m 9 #[.val (.int p0), .val (.int p1), .val (.int p2), .val (.int p3), .val (.int p4), .val (.int (4 : Int32)), .unset, .unset, .unset, .unset, .unset, .unset, .unset, .unset, .unset, .unset, .unset] [(.int p1)])) rfl (hb hby at_9) _ ?_
    show Steps p.tables e below (s₁.setTop (mkF m 11 #[.val (.int p0), .val (.int p1), .val (.int p2), .val (.int p3), .val (.int p4), .val (.int (4 : Int32)), .unset, .unset, .unset, .unset, .unset, .unset, .unset, .unset, .unset, .unset, .unset] [(.int (65535 : Int32)), (.int p1)])) _
    refine own_s_iand X0.here hx (hb hby at_11) (pc' := 12) rfl (v := w4_v11) w4_hv11 ?_
    refine own_s_i2d X0.here hx (hb hby at_12) (pc' := 13) rfl (v := (FP.i2d w4_v11)) rfl ?_
    refine X0.ldc2DoubleC hx hown (mvT hZ (hw _ (List.mem_of_getElem? (i := 2) rfl))) (g := (mkF m 13 #[.val (.int p0), .val (.int p1), .val (.int p2), .val (.int p3), .val (.int p4), .val (.int (4 : Int32)), .unset, .unset, .unset, .unset, .unset, .unset, .unset, .unset, .unset, .unset, .unset] [(.double (FP.i2d w4_v11))])) rfl (hb hby at_13) _ ?_
    show Steps p.tables e below (s₁.setTop (mkF m 16 #[.val (.int p0), .val (.int p1), .val (.int p2), .val (.int p3), .val (.int p4), .val (.int (4 : Int32)), .unset, .unset, .unset, .unset, .unset, .unset, .unset, .unset, .unset, .unset, .unset] [(.double (4620693217682128896 : UInt64)), (.double (FP.i2d w4_v11))])) _
    refine own_s_ddiv X0.here hx (hb hby at_16) (pc' := 17) rfl w4_hn16 (v := w4_v16) w4_hv16 ?_
    refine own_s_dstore X0.here hx (hb hby at_17) (pc' := 19) rfl (L' := #[.val (.int p0), .val (.int p1), .val (.int p2), .val (.int p3), .val (.int p4), .val (.int (4 : Int32)), .val (.double w4_v16), .second, .unset, .unset, .unset, .unset, .unset, .unset, .unset, .unset, .unset]) rfl ?_
    refine own_s_iloadN X0.here hx (hb hby at_19) (pc' := 20) rfl rfl ?_
    refine X0.ldcInt hx hown (mvT hZ (hw _ (List.mem_of_getElem? (i := 1) rfl))) (g := (mkF m 20 #[.val (.int p0), .val (.int p1), .val (.int p2), .val (.int p3), .val (.int p4), .val (.int (4 : Int32)), .val (.double w4_v16), .second, .unset, .unset, .unset, .unset, .unset, .unset, .unset, .unset, .unset] [(.int p2)])) rfl (hb hby at_20) _ ?_
    show Steps p.tables e below (s₁.setTop (mkF m 22 #[.val (.int p0), .val (.int p1), .val (.int p2), .val (.int p3), .val (.int p4), .val (.int (4 : Int32)), .val (.double w4_v16), .second, .unset, .unset, .unset, .unset, .unset, .unset, .unset, .unset, .unset] [(.int (65535 : Int32)), (.int p2)])) _
    refine own_s_iand X0.here hx (hb hby at_22) (pc' := 23) rfl (v := w4_v22) w4_hv22 ?_
    refine own_s_i2d X0.here hx (hb hby at_23) (pc' := 24) rfl (v := (FP.i2d w4_v22)) rfl ?_
    refine X0.ldc2DoubleC hx hown (mvT hZ (hw _ (List.mem_of_getElem? (i := 2) rfl))) (g := (mkF m 24 #[.val (.int p0), .val (.int p1), .val (.int p2), .val (.int p3), .val (.int p4), .val (.int (4 : Int32)), .val (.double w4_v16), .second, .unset, .unset, .unset, .unset, .unset, .unset, .unset, .unset, .unset] [(.double (FP.i2d w4_v22))])) rfl (hb hby at_24) _ ?_
    show Steps p.tables e below (s₁.setTop (mkF m 27 #[.val (.int p0), .val (.int p1), .val (.int p2), .val (.int p3), .val (.int p4), .val (.int (4 : Int32)), .val (.double w4_v16), .second, .unset, .unset, .unset, .unset, .unset, .unset, .unset, .unset, .unset] [(.double (4620693217682128896 : UInt64)), (.double (FP.i2d w4_v22))])) _
    refine own_s_ddiv X0.here hx (hb hby at_27) (pc' := 28) rfl w4_hn27 (v := w4_v27) w4_hv27 ?_
    refine own_s_dstore X0.here hx (hb hby at_28) (pc' := 30) rfl (L' := #[.val (.int p0), .val (.int p1), .val (.int p2), .val (.int p3), .val (.int p4), .val (.int (4 : Int32)), .val (.double w4_v16), .second, .val (.double w4_v27), .second, .unset, .unset, .unset, .unset, .unset, .unset, .unset]) rfl ?_
    refine own_s_iloadN X0.here hx (hb hby at_30) (pc' := 31) rfl rfl ?_
    refine X0.ldcInt hx hown (mvT hZ (hw _ (List.mem_of_getElem? (i := 1) rfl))) (g := (mkF m 31 #[.val (.int p0), .val (.int p1), .val (.int p2), .val (.int p3), .val (.int p4), .val (.int (4 : Int32)), .val (.double w4_v16), .second, .val (.double w4_v27), .second, .unset, .unset, .unset, .unset, .unset, .unset, .unset] [(.int p3)])) rfl (hb hby at_31) _ ?_
    show Steps p.tables e below (s₁.setTop (mkF m 33 #[.val (.int p0), .val (.int p1), .val (.int p2), .val (.int p3), .val (.int p4), .val (.int (4 : Int32)), .val (.double w4_v16), .second, .val (.double w4_v27), .second, .unset, .unset, .unset, .unset, .unset, .unset, .unset] [(.int (65535 : Int32)), (.int p3)])) _
    refine own_s_iand X0.here hx (hb hby at_33) (pc' := 34) rfl (v := w4_v33) w4_hv33 ?_
    refine own_s_i2d X0.here hx (hb hby at_34) (pc' := 35) rfl (v := (FP.i2d w4_v33)) rfl ?_
    refine X0.ldc2DoubleC hx hown (mvT hZ (hw _ (List.mem_of_getElem? (i := 2) rfl))) (g := (mkF m 35 #[.val (.int p0), .val (.int p1), .val (.int p2), .val (.int p3), .val (.int p4), .val (.int (4 : Int32)), .val (.double w4_v16), .second, .val (.double w4_v27), .second, .unset, .unset, .unset, .unset, .unset, .unset, .unset] [(.double (FP.i2d w4_v33))])) rfl (hb hby at_35) _ ?_
    show Steps p.tables e below (s₁.setTop (mkF m 38 #[.val (.int p0), .val (.int p1), .val (.int p2), .val (.int p3), .val (.int p4), .val (.int (4 : Int32)), .val (.double w4_v16), .second, .val (.double w4_v27), .second, .unset, .unset, .unset, .unset, .unset, .unset, .unset] [(.double (4620693217682128896 : UInt64)), (.double (FP.i2d w4_v33))])) _
    refine own_s_ddiv X0.here hx (hb hby at_38) (pc' := 39) rfl w4_hn38 (v := w4_v38) w4_hv38 ?_
    refine own_s_dstore X0.here hx (hb hby at_39) (pc' := 41) rfl (L' := #[.val (.int p0), .val (.int p1), .val (.int p2), .val (.int p3), .val (.int p4), .val (.int (4 : Int32)), .val (.double w4_v16), .second, .val (.double w4_v27), .second, .val (.double w4_v38), .second, .unset, .unset, .unset, .unset, .unset]) rfl ?_
    refine own_s_iload X0.here hx (hb hby at_41) (pc' := 43) rfl rfl ?_
    refine X0.ldcInt hx hown (mvT hZ (hw _ (List.mem_of_getElem? (i := 1) rfl))) (g := (mkF m 43 #[.val (.int p0), .val (.int p1), .val (.int p2), .val (.int p3), .val (.int p4), .val (.int (4 : Int32)), .val (.double w4_v16), .second, .val (.double w4_v27), .second, .val (.double w4_v38), .second, .unset, .unset, .unset, .unset, .unset] [(.int p4)])) rfl (hb hby at_43) _ ?_
    show Steps p.tables e below (s₁.setTop (mkF m 45 #[.val (.int p0), .val (.int p1), .val (.int p2), .val (.int p3), .val (.int p4), .val (.int (4 : Int32)), .val (.double w4_v16), .second, .val (.double w4_v27), .second, .val (.double w4_v38), .second, .unset, .unset, .unset, .unset, .unset] [(.int (65535 : Int32)), (.int p4)])) _
    refine own_s_iand X0.here hx (hb hby at_45) (pc' := 46) rfl (v := w4_v45) w4_hv45 ?_
    refine own_s_i2d X0.here hx (hb hby at_46) (pc' := 47) rfl (v := (FP.i2d w4_v45)) rfl ?_
    refine X0.ldc2DoubleC hx hown (mvT hZ (hw _ (List.mem_of_getElem? (i := 2) rfl))) (g := (mkF m 47 #[.val (.int p0), .val (.int p1), .val (.int p2), .val (.int p3), .val (.int p4), .val (.int (4 : Int32)), .val (.double w4_v16), .second, .val (.double w4_v27), .second, .val (.double w4_v38), .second, .unset, .unset, .unset, .unset, .unset] [(.double (FP.i2d w4_v45))])) rfl (hb hby at_47) _ ?_
    show Steps p.tables e below (s₁.setTop (mkF m 50 #[.val (.int p0), .val (.int p1), .val (.int p2), .val (.int p3), .val (.int p4), .val (.int (4 : Int32)), .val (.double w4_v16), .second, .val (.double w4_v27), .second, .val (.double w4_v38), .second, .unset, .unset, .unset, .unset, .unset] [(.double (4620693217682128896 : UInt64)), (.double (FP.i2d w4_v45))])) _
    refine own_s_ddiv X0.here hx (hb hby at_50) (pc' := 51) rfl w4_hn50 (v := w4_v50) w4_hv50 ?_
    refine own_s_dstore X0.here hx (hb hby at_51) (pc' := 53) rfl (L' := #[.val (.int p0), .val (.int p1), .val (.int p2), .val (.int p3), .val (.int p4), .val (.int (4 : Int32)), .val (.double w4_v16), .second, .val (.double w4_v27), .second, .val (.double w4_v38), .second, .val (.double w4_v50), .second, .unset, .unset, .unset]) rfl ?_
    refine own_s_iload X0.here hx (hb hby at_53) (pc' := 55) rfl rfl ?_
    refine own_s_ifYes X0.here hx (hb hby at_55) (by decide) (pc' := 69) (by decide) (by decide) ?_
    refine own_s_iload X0.here hx (hb hby at_69) (pc' := 71) rfl rfl ?_
    refine own_s_iconst X0.here hx (hb hby at_71) (pc' := 72) rfl (v := (1 : Int32)) (by decide) ?_
    refine own_s_icmpYes X0.here hx (hb hby at_72) (by decide) (pc' := 92) (by decide) (by decide) ?_
    refine own_s_iload X0.here hx (hb hby at_92) (pc' := 94) rfl rfl ?_
    refine own_s_iconst X0.here hx (hb hby at_94) (pc' := 95) rfl (v := (2 : Int32)) (by decide) ?_
    refine own_s_icmpYes X0.here hx (hb hby at_95) (by decide) (pc' := 123) (by decide) (by decide) ?_
    refine own_s_iload X0.here hx (hb hby at_123) (pc' := 125) rfl rfl ?_
    refine own_s_iconst X0.here hx (hb hby at_125) (pc' := 126) rfl (v := (3 : Int32)) (by decide) ?_
    refine own_s_icmpYes X0.here hx (hb hby at_126) (by decide) (pc' := 162) (by decide) (by decide) ?_
    refine own_s_iconst X0.here hx (hb hby at_162) (pc' := 163) rfl (v := (4 : Int32)) (by decide) ?_
    refine stw41 _ ?_
    refine own_s_dup Xw41.here hx (hb hby at_165) (pc' := 166) rfl rfl ?_
    refine own_s_iconst Xw41.here hx (hb hby at_166) (pc' := 167) rfl (v := (0 : Int32)) (by decide) ?_
    refine own_s_dload Xw41.here hx (hb hby at_167) (pc' := 169) rfl rfl ?_
    refine stw42 _ ?_
    refine own_s_dup Xw42.here hx (hb hby at_170) (pc' := 171) rfl rfl ?_
    refine own_s_iconst Xw42.here hx (hb hby at_171) (pc' := 172) rfl (v := (1 : Int32)) (by decide) ?_
    refine own_s_dload Xw42.here hx (hb hby at_172) (pc' := 174) rfl rfl ?_
    refine stw43 _ ?_
    refine own_s_dup Xw43.here hx (hb hby at_175) (pc' := 176) rfl rfl ?_
    refine own_s_iconst Xw43.here hx (hb hby at_176) (pc' := 177) rfl (v := (2 : Int32)) (by decide) ?_
    refine own_s_dload Xw43.here hx (hb hby at_177) (pc' := 179) rfl rfl ?_
    refine stw44 _ ?_
    refine own_s_dup Xw44.here hx (hb hby at_180) (pc' := 181) rfl rfl ?_
    refine own_s_iconst Xw44.here hx (hb hby at_181) (pc' := 182) rfl (v := (3 : Int32)) (by decide) ?_
    refine own_s_dload Xw44.here hx (hb hby at_182) (pc' := 184) rfl rfl ?_
    refine stw45 _ ?_
    refine own_s_astore Xw45.here hx (hb hby at_185) (pc' := 187) rfl rfl (L' := #[.val (.int p0), .val (.int p1), .val (.int p2), .val (.int p3), .val (.int p4), .val (.int (4 : Int32)), .val (.double w4_v16), .second, .val (.double w4_v27), .second, .val (.double w4_v38), .second, .val (.double w4_v50), .second, .val (.ref bw41), .unset, .unset]) rfl ?_
    refine own_s_dload Xw45.here hx (hb hby at_187) (pc' := 189) rfl rfl ?_
    refine own_s_dload Xw45.here hx (hb hby at_189) (pc' := 191) rfl rfl ?_
    refine own_s_dadd Xw45.here hx (hb hby at_191) (pc' := 192) rfl w4_hn191 (v := w4_v191) w4_hv191 ?_
    refine own_s_dload Xw45.here hx (hb hby at_192) (pc' := 194) rfl rfl ?_
    refine own_s_dadd Xw45.here hx (hb hby at_194) (pc' := 195) rfl w4_hn194 (v := w4_v194) w4_hv194 ?_
    refine own_s_dload Xw45.here hx (hb hby at_195) (pc' := 197) rfl rfl ?_
    refine own_s_dadd Xw45.here hx (hb hby at_197) (pc' := 198) rfl w4_hn197 (v := w4_v197) w4_hv197 ?_
    refine own_s_dstore Xw45.here hx (hb hby at_198) (pc' := 200) rfl (L' := #[.val (.int p0), .val (.int p1), .val (.int p2), .val (.int p3), .val (.int p4), .val (.int (4 : Int32)), .val (.double w4_v16), .second, .val (.double w4_v27), .second, .val (.double w4_v38), .second, .val (.double w4_v50), .second, .val (.ref bw41), .val (.double w4_v197), .second]) rfl ?_
    refine own_s_aload Xw45.here hx (hb hby at_200) (pc' := 202) rfl rfl rfl ?_
    refine stw46 _ ?_
    show Steps p.tables e below (Tw46.setTop (mkF m 205 #[.val (.int p0), .val (.int p1), .val (.int p2), .val (.int p3), .val (.int p4), .val (.int (4 : Int32)), .val (.double w4_v16), .second, .val (.double w4_v27), .second, .val (.double w4_v38), .second, .val (.double w4_v50), .second, .val (.ref bw41), .val (.double w4_v197), .second] [(.double w4_c202_c4_v27_4)])) _
    refine own_s_dload Xw46.here hx (hb hby at_205) (pc' := 207) rfl rfl ?_
    refine own_s_dcmp Xw46.here hx (hb hby at_207) (pc' := 208) rfl (v := (0 : Int32)) w4_hc207 ?_
    refine own_s_ifNo Xw46.here hx (hb hby at_208) (pc' := 211) rfl (by decide) ?_
    refine own_s_iconst Xw46.here hx (hb hby at_211) (pc' := 212) rfl (v := (1 : Int32)) (by decide) ?_
    refine own_s_goto Xw46.here hx (hb hby at_212) (by decide) (pc' := 216) (by decide) ?_
    exact retN Xw46 hx (t := .boolean) Bd.returns (by simp) (hb hby at_216) hr
  · show own_Q0 n0 _ Tw46.heap _
    rw [ew46]
    exact ⟨rfl, Nw46⟩
set_option maxRecDepth 65536 in
set_option maxHeartbeats 40000000 in
theorem own_rm0 (l : Launch) (Z : State) (a0 : Array Value) (hw : ∀ d ∈ tables_1, d.before a0 Z = true) (ws : List Jvm.Cond) (p0 : Int32) (p1 : Int32) (p2 : Int32) (p3 : Int32) (p4 : Int32) (h0 : Heap) (n0 : Nat) (Z0 : n0 ≤ h0.size)  :
    MetFree l x (head1 (Jvm.Cond.code x code maxLocals ret :: ws) room_1) (fun a U => a = #[(.int p0), (.int p1), (.int p2), (.int p3), (.int p4)] ∧ Z.Warmed39 U.vm ∧ U.heap = h0) (fun _ _ _ _ _ => True) (fun _ U o U' => ∃ v L, o = .returned v ∧ own_Q0 n0 v U'.heap L ∧ FrameEnd U o U' L room_1.cells room_1.slots) := by
  obtain ⟨v3, hv3⟩ : ∃ v, p0 &&& 2147483647 = v := ⟨_, rfl⟩
  rcases own_modN p0 v3 hv3 with hn | hn | hn | hn | hn
  · obtain ⟨v11, hv11⟩ : ∃ v, p1 &&& (65535 : Int32) = v := ⟨_, rfl⟩
    have L_v11 := own_Iand (B := 65535) hv11 (by decide) (by decide)
    obtain ⟨v16, hv16⟩ : ∃ v, FP.ddiv (FP.i2d v11) (4620693217682128896 : UInt64) = v := ⟨_, rfl⟩
    have Id1 : own_B (FP.i2d v11) (v11.toInt) 0 65535 := own_Bi2d L_v11
    have Ic2 : own_B (4620693217682128896 : UInt64) (1) (3) 1 := ⟨⟨(Jvm.FP.Core.fin_bits _).mpr (by decide), by decide, by decide +kernel⟩, by decide, by decide⟩
    have J3 : own_B (FP.ddiv (FP.i2d v11) (4620693217682128896 : UInt64)) (v11.toInt) (-3) 65535 := own_Bcast (own_Bdiv Id1 Ic2.is (by decide)) rfl (by decide) (by decide)
    have J3n := J3.nn
    rw [hv16] at J3
    obtain ⟨v22, hv22⟩ : ∃ v, p2 &&& (65535 : Int32) = v := ⟨_, rfl⟩
    have L_v22 := own_Iand (B := 65535) hv22 (by decide) (by decide)
    obtain ⟨v27, hv27⟩ : ∃ v, FP.ddiv (FP.i2d v22) (4620693217682128896 : UInt64) = v := ⟨_, rfl⟩
    have Id4 : own_B (FP.i2d v22) (v22.toInt) 0 65535 := own_Bi2d L_v22
    have J5 : own_B (FP.ddiv (FP.i2d v22) (4620693217682128896 : UInt64)) (v22.toInt) (-3) 65535 := own_Bcast (own_Bdiv Id4 Ic2.is (by decide)) rfl (by decide) (by decide)
    have J5n := J5.nn
    rw [hv27] at J5
    obtain ⟨v33, hv33⟩ : ∃ v, p3 &&& (65535 : Int32) = v := ⟨_, rfl⟩
    have L_v33 := own_Iand (B := 65535) hv33 (by decide) (by decide)
    obtain ⟨v38, hv38⟩ : ∃ v, FP.ddiv (FP.i2d v33) (4620693217682128896 : UInt64) = v := ⟨_, rfl⟩
    have Id6 : own_B (FP.i2d v33) (v33.toInt) 0 65535 := own_Bi2d L_v33
    have J7 : own_B (FP.ddiv (FP.i2d v33) (4620693217682128896 : UInt64)) (v33.toInt) (-3) 65535 := own_Bcast (own_Bdiv Id6 Ic2.is (by decide)) rfl (by decide) (by decide)
    have J7n := J7.nn
    rw [hv38] at J7
    obtain ⟨v45, hv45⟩ : ∃ v, p4 &&& (65535 : Int32) = v := ⟨_, rfl⟩
    have L_v45 := own_Iand (B := 65535) hv45 (by decide) (by decide)
    obtain ⟨v50, hv50⟩ : ∃ v, FP.ddiv (FP.i2d v45) (4620693217682128896 : UInt64) = v := ⟨_, rfl⟩
    have Id8 : own_B (FP.i2d v45) (v45.toInt) 0 65535 := own_Bi2d L_v45
    have J9 : own_B (FP.ddiv (FP.i2d v45) (4620693217682128896 : UInt64)) (v45.toInt) (-3) 65535 := own_Bcast (own_Bdiv Id8 Ic2.is (by decide)) rfl (by decide) (by decide)
    have J9n := J9.nn
    rw [hv50] at J9
    have Ic10 : own_B 0 (0) (0) 0 := ⟨⟨(Jvm.FP.Core.fin_bits _).mpr (by decide), by decide, by decide +kernel⟩, by decide, by decide⟩
    exact own_rm_w0 l Z a0 hw ws p0 p1 p2 p3 p4 h0 n0 Z0 (w0_hv3 := hv3) (w0_hv5 := hn) (w0_hv11 := hv11) (w0_hn16 := J3n) (w0_hv16 := hv16) (w0_hv22 := hv22) (w0_hn27 := J5n) (w0_hv27 := hv27) (w0_hv33 := hv33) (w0_hn38 := J7n) (w0_hv38 := hv38) (w0_hv45 := hv45) (w0_hn50 := J9n) (w0_hv50 := hv50) (w0_hc207 := (own_eq0 Ic10.is Ic10.is (by first | rfl | omega | grind) _))
  · obtain ⟨v11, hv11⟩ : ∃ v, p1 &&& (65535 : Int32) = v := ⟨_, rfl⟩
    have L_v11 := own_Iand (B := 65535) hv11 (by decide) (by decide)
    obtain ⟨v16, hv16⟩ : ∃ v, FP.ddiv (FP.i2d v11) (4620693217682128896 : UInt64) = v := ⟨_, rfl⟩
    have Id1 : own_B (FP.i2d v11) (v11.toInt) 0 65535 := own_Bi2d L_v11
    have Ic2 : own_B (4620693217682128896 : UInt64) (1) (3) 1 := ⟨⟨(Jvm.FP.Core.fin_bits _).mpr (by decide), by decide, by decide +kernel⟩, by decide, by decide⟩
    have J3 : own_B (FP.ddiv (FP.i2d v11) (4620693217682128896 : UInt64)) (v11.toInt) (-3) 65535 := own_Bcast (own_Bdiv Id1 Ic2.is (by decide)) rfl (by decide) (by decide)
    have J3n := J3.nn
    rw [hv16] at J3
    obtain ⟨v22, hv22⟩ : ∃ v, p2 &&& (65535 : Int32) = v := ⟨_, rfl⟩
    have L_v22 := own_Iand (B := 65535) hv22 (by decide) (by decide)
    obtain ⟨v27, hv27⟩ : ∃ v, FP.ddiv (FP.i2d v22) (4620693217682128896 : UInt64) = v := ⟨_, rfl⟩
    have Id4 : own_B (FP.i2d v22) (v22.toInt) 0 65535 := own_Bi2d L_v22
    have J5 : own_B (FP.ddiv (FP.i2d v22) (4620693217682128896 : UInt64)) (v22.toInt) (-3) 65535 := own_Bcast (own_Bdiv Id4 Ic2.is (by decide)) rfl (by decide) (by decide)
    have J5n := J5.nn
    rw [hv27] at J5
    obtain ⟨v33, hv33⟩ : ∃ v, p3 &&& (65535 : Int32) = v := ⟨_, rfl⟩
    have L_v33 := own_Iand (B := 65535) hv33 (by decide) (by decide)
    obtain ⟨v38, hv38⟩ : ∃ v, FP.ddiv (FP.i2d v33) (4620693217682128896 : UInt64) = v := ⟨_, rfl⟩
    have Id6 : own_B (FP.i2d v33) (v33.toInt) 0 65535 := own_Bi2d L_v33
    have J7 : own_B (FP.ddiv (FP.i2d v33) (4620693217682128896 : UInt64)) (v33.toInt) (-3) 65535 := own_Bcast (own_Bdiv Id6 Ic2.is (by decide)) rfl (by decide) (by decide)
    have J7n := J7.nn
    rw [hv38] at J7
    obtain ⟨v45, hv45⟩ : ∃ v, p4 &&& (65535 : Int32) = v := ⟨_, rfl⟩
    have L_v45 := own_Iand (B := 65535) hv45 (by decide) (by decide)
    obtain ⟨v50, hv50⟩ : ∃ v, FP.ddiv (FP.i2d v45) (4620693217682128896 : UInt64) = v := ⟨_, rfl⟩
    have Id8 : own_B (FP.i2d v45) (v45.toInt) 0 65535 := own_Bi2d L_v45
    have J9 : own_B (FP.ddiv (FP.i2d v45) (4620693217682128896 : UInt64)) (v45.toInt) (-3) 65535 := own_Bcast (own_Bdiv Id8 Ic2.is (by decide)) rfl (by decide) (by decide)
    have J9n := J9.nn
    rw [hv50] at J9
    obtain ⟨c202_c1_v27, c202_c1_hv27⟩ : ∃ v, FP.dadd 0 v16 = v := ⟨_, rfl⟩
    have Ic10 : own_B 0 (0) (0) 0 := ⟨⟨(Jvm.FP.Core.fin_bits _).mpr (by decide), by decide, by decide +kernel⟩, by decide, by decide⟩
    have J11 : own_B (FP.dadd 0 v16) ((0) * 8 + (v11.toInt)) (-3) 65535 := own_Bcast (own_Badd (own_Bcast (own_Bshift 3 8 Ic10 (by decide)) rfl (by decide : _ = (-3 : Int)) (Int.le_refl _)) J3 (by decide)) rfl (by decide) (by decide)
    have J11n := J11.nn
    rw [c202_c1_hv27] at J11
    exact own_rm_w1 l Z a0 hw ws p0 p1 p2 p3 p4 h0 n0 Z0 (w1_hv3 := hv3) (w1_hv5 := hn) (w1_hv11 := hv11) (w1_hn16 := J3n) (w1_hv16 := hv16) (w1_hv22 := hv22) (w1_hn27 := J5n) (w1_hv27 := hv27) (w1_hv33 := hv33) (w1_hn38 := J7n) (w1_hv38 := hv38) (w1_hv45 := hv45) (w1_hn50 := J9n) (w1_hv50 := hv50) (w1_c202_c1_hn27 := J11n) (w1_c202_c1_hv27 := c202_c1_hv27) (w1_hc207 := (own_eq0 J11.is J3.is (by first | rfl | omega | grind) _))
  · obtain ⟨v11, hv11⟩ : ∃ v, p1 &&& (65535 : Int32) = v := ⟨_, rfl⟩
    have L_v11 := own_Iand (B := 65535) hv11 (by decide) (by decide)
    obtain ⟨v16, hv16⟩ : ∃ v, FP.ddiv (FP.i2d v11) (4620693217682128896 : UInt64) = v := ⟨_, rfl⟩
    have Id1 : own_B (FP.i2d v11) (v11.toInt) 0 65535 := own_Bi2d L_v11
    have Ic2 : own_B (4620693217682128896 : UInt64) (1) (3) 1 := ⟨⟨(Jvm.FP.Core.fin_bits _).mpr (by decide), by decide, by decide +kernel⟩, by decide, by decide⟩
    have J3 : own_B (FP.ddiv (FP.i2d v11) (4620693217682128896 : UInt64)) (v11.toInt) (-3) 65535 := own_Bcast (own_Bdiv Id1 Ic2.is (by decide)) rfl (by decide) (by decide)
    have J3n := J3.nn
    rw [hv16] at J3
    obtain ⟨v22, hv22⟩ : ∃ v, p2 &&& (65535 : Int32) = v := ⟨_, rfl⟩
    have L_v22 := own_Iand (B := 65535) hv22 (by decide) (by decide)
    obtain ⟨v27, hv27⟩ : ∃ v, FP.ddiv (FP.i2d v22) (4620693217682128896 : UInt64) = v := ⟨_, rfl⟩
    have Id4 : own_B (FP.i2d v22) (v22.toInt) 0 65535 := own_Bi2d L_v22
    have J5 : own_B (FP.ddiv (FP.i2d v22) (4620693217682128896 : UInt64)) (v22.toInt) (-3) 65535 := own_Bcast (own_Bdiv Id4 Ic2.is (by decide)) rfl (by decide) (by decide)
    have J5n := J5.nn
    rw [hv27] at J5
    obtain ⟨v33, hv33⟩ : ∃ v, p3 &&& (65535 : Int32) = v := ⟨_, rfl⟩
    have L_v33 := own_Iand (B := 65535) hv33 (by decide) (by decide)
    obtain ⟨v38, hv38⟩ : ∃ v, FP.ddiv (FP.i2d v33) (4620693217682128896 : UInt64) = v := ⟨_, rfl⟩
    have Id6 : own_B (FP.i2d v33) (v33.toInt) 0 65535 := own_Bi2d L_v33
    have J7 : own_B (FP.ddiv (FP.i2d v33) (4620693217682128896 : UInt64)) (v33.toInt) (-3) 65535 := own_Bcast (own_Bdiv Id6 Ic2.is (by decide)) rfl (by decide) (by decide)
    have J7n := J7.nn
    rw [hv38] at J7
    obtain ⟨v45, hv45⟩ : ∃ v, p4 &&& (65535 : Int32) = v := ⟨_, rfl⟩
    have L_v45 := own_Iand (B := 65535) hv45 (by decide) (by decide)
    obtain ⟨v50, hv50⟩ : ∃ v, FP.ddiv (FP.i2d v45) (4620693217682128896 : UInt64) = v := ⟨_, rfl⟩
    have Id8 : own_B (FP.i2d v45) (v45.toInt) 0 65535 := own_Bi2d L_v45
    have J9 : own_B (FP.ddiv (FP.i2d v45) (4620693217682128896 : UInt64)) (v45.toInt) (-3) 65535 := own_Bcast (own_Bdiv Id8 Ic2.is (by decide)) rfl (by decide) (by decide)
    have J9n := J9.nn
    rw [hv50] at J9
    obtain ⟨v117, hv117⟩ : ∃ v, FP.dadd v16 v27 = v := ⟨_, rfl⟩
    have J10 : own_B (FP.dadd v16 v27) ((v11.toInt) + (v22.toInt)) (-3) 131070 := own_Bcast (own_Badd J3 J5 (by decide)) rfl (by decide) (by decide)
    have J10n := J10.nn
    rw [hv117] at J10
    obtain ⟨c202_c2_v27, c202_c2_hv27⟩ : ∃ v, FP.dadd 0 v16 = v := ⟨_, rfl⟩
    have Ic11 : own_B 0 (0) (0) 0 := ⟨⟨(Jvm.FP.Core.fin_bits _).mpr (by decide), by decide, by decide +kernel⟩, by decide, by decide⟩
    have J12 : own_B (FP.dadd 0 v16) ((0) * 8 + (v11.toInt)) (-3) 65535 := own_Bcast (own_Badd (own_Bcast (own_Bshift 3 8 Ic11 (by decide)) rfl (by decide : _ = (-3 : Int)) (Int.le_refl _)) J3 (by decide)) rfl (by decide) (by decide)
    have J12n := J12.nn
    rw [c202_c2_hv27] at J12
    obtain ⟨c202_c2_v27_2, c202_c2_hv27_2⟩ : ∃ v, FP.dadd c202_c2_v27 v27 = v := ⟨_, rfl⟩
    have J13 : own_B (FP.dadd c202_c2_v27 v27) (((0) * 8 + (v11.toInt)) + (v22.toInt)) (-3) 131070 := own_Bcast (own_Badd J12 J5 (by decide)) rfl (by decide) (by decide)
    have J13n := J13.nn
    rw [c202_c2_hv27_2] at J13
    exact own_rm_w2 l Z a0 hw ws p0 p1 p2 p3 p4 h0 n0 Z0 (w2_hv3 := hv3) (w2_hv5 := hn) (w2_hv11 := hv11) (w2_hn16 := J3n) (w2_hv16 := hv16) (w2_hv22 := hv22) (w2_hn27 := J5n) (w2_hv27 := hv27) (w2_hv33 := hv33) (w2_hn38 := J7n) (w2_hv38 := hv38) (w2_hv45 := hv45) (w2_hn50 := J9n) (w2_hv50 := hv50) (w2_hn117 := J10n) (w2_hv117 := hv117) (w2_c202_c2_hn27 := J12n) (w2_c202_c2_hv27 := c202_c2_hv27) (w2_c202_c2_hn27_2 := J13n) (w2_c202_c2_hv27_2 := c202_c2_hv27_2) (w2_hc207 := (own_eq0 J13.is J10.is (by first | rfl | omega | grind) _))
  · obtain ⟨v11, hv11⟩ : ∃ v, p1 &&& (65535 : Int32) = v := ⟨_, rfl⟩
    have L_v11 := own_Iand (B := 65535) hv11 (by decide) (by decide)
    obtain ⟨v16, hv16⟩ : ∃ v, FP.ddiv (FP.i2d v11) (4620693217682128896 : UInt64) = v := ⟨_, rfl⟩
    have Id1 : own_B (FP.i2d v11) (v11.toInt) 0 65535 := own_Bi2d L_v11
    have Ic2 : own_B (4620693217682128896 : UInt64) (1) (3) 1 := ⟨⟨(Jvm.FP.Core.fin_bits _).mpr (by decide), by decide, by decide +kernel⟩, by decide, by decide⟩
    have J3 : own_B (FP.ddiv (FP.i2d v11) (4620693217682128896 : UInt64)) (v11.toInt) (-3) 65535 := own_Bcast (own_Bdiv Id1 Ic2.is (by decide)) rfl (by decide) (by decide)
    have J3n := J3.nn
    rw [hv16] at J3
    obtain ⟨v22, hv22⟩ : ∃ v, p2 &&& (65535 : Int32) = v := ⟨_, rfl⟩
    have L_v22 := own_Iand (B := 65535) hv22 (by decide) (by decide)
    obtain ⟨v27, hv27⟩ : ∃ v, FP.ddiv (FP.i2d v22) (4620693217682128896 : UInt64) = v := ⟨_, rfl⟩
    have Id4 : own_B (FP.i2d v22) (v22.toInt) 0 65535 := own_Bi2d L_v22
    have J5 : own_B (FP.ddiv (FP.i2d v22) (4620693217682128896 : UInt64)) (v22.toInt) (-3) 65535 := own_Bcast (own_Bdiv Id4 Ic2.is (by decide)) rfl (by decide) (by decide)
    have J5n := J5.nn
    rw [hv27] at J5
    obtain ⟨v33, hv33⟩ : ∃ v, p3 &&& (65535 : Int32) = v := ⟨_, rfl⟩
    have L_v33 := own_Iand (B := 65535) hv33 (by decide) (by decide)
    obtain ⟨v38, hv38⟩ : ∃ v, FP.ddiv (FP.i2d v33) (4620693217682128896 : UInt64) = v := ⟨_, rfl⟩
    have Id6 : own_B (FP.i2d v33) (v33.toInt) 0 65535 := own_Bi2d L_v33
    have J7 : own_B (FP.ddiv (FP.i2d v33) (4620693217682128896 : UInt64)) (v33.toInt) (-3) 65535 := own_Bcast (own_Bdiv Id6 Ic2.is (by decide)) rfl (by decide) (by decide)
    have J7n := J7.nn
    rw [hv38] at J7
    obtain ⟨v45, hv45⟩ : ∃ v, p4 &&& (65535 : Int32) = v := ⟨_, rfl⟩
    have L_v45 := own_Iand (B := 65535) hv45 (by decide) (by decide)
    obtain ⟨v50, hv50⟩ : ∃ v, FP.ddiv (FP.i2d v45) (4620693217682128896 : UInt64) = v := ⟨_, rfl⟩
    have Id8 : own_B (FP.i2d v45) (v45.toInt) 0 65535 := own_Bi2d L_v45
    have J9 : own_B (FP.ddiv (FP.i2d v45) (4620693217682128896 : UInt64)) (v45.toInt) (-3) 65535 := own_Bcast (own_Bdiv Id8 Ic2.is (by decide)) rfl (by decide) (by decide)
    have J9n := J9.nn
    rw [hv50] at J9
    obtain ⟨v153, hv153⟩ : ∃ v, FP.dadd v16 v27 = v := ⟨_, rfl⟩
    have J10 : own_B (FP.dadd v16 v27) ((v11.toInt) + (v22.toInt)) (-3) 131070 := own_Bcast (own_Badd J3 J5 (by decide)) rfl (by decide) (by decide)
    have J10n := J10.nn
    rw [hv153] at J10
    obtain ⟨v156, hv156⟩ : ∃ v, FP.dadd v153 v38 = v := ⟨_, rfl⟩
    have J11 : own_B (FP.dadd v153 v38) (((v11.toInt) + (v22.toInt)) + (v33.toInt)) (-3) 196605 := own_Bcast (own_Badd J10 J7 (by decide)) rfl (by decide) (by decide)
    have J11n := J11.nn
    rw [hv156] at J11
    obtain ⟨c202_c3_v27, c202_c3_hv27⟩ : ∃ v, FP.dadd 0 v16 = v := ⟨_, rfl⟩
    have Ic12 : own_B 0 (0) (0) 0 := ⟨⟨(Jvm.FP.Core.fin_bits _).mpr (by decide), by decide, by decide +kernel⟩, by decide, by decide⟩
    have J13 : own_B (FP.dadd 0 v16) ((0) * 8 + (v11.toInt)) (-3) 65535 := own_Bcast (own_Badd (own_Bcast (own_Bshift 3 8 Ic12 (by decide)) rfl (by decide : _ = (-3 : Int)) (Int.le_refl _)) J3 (by decide)) rfl (by decide) (by decide)
    have J13n := J13.nn
    rw [c202_c3_hv27] at J13
    obtain ⟨c202_c3_v27_2, c202_c3_hv27_2⟩ : ∃ v, FP.dadd c202_c3_v27 v27 = v := ⟨_, rfl⟩
    have J14 : own_B (FP.dadd c202_c3_v27 v27) (((0) * 8 + (v11.toInt)) + (v22.toInt)) (-3) 131070 := own_Bcast (own_Badd J13 J5 (by decide)) rfl (by decide) (by decide)
    have J14n := J14.nn
    rw [c202_c3_hv27_2] at J14
    obtain ⟨c202_c3_v27_3, c202_c3_hv27_3⟩ : ∃ v, FP.dadd c202_c3_v27_2 v38 = v := ⟨_, rfl⟩
    have J15 : own_B (FP.dadd c202_c3_v27_2 v38) ((((0) * 8 + (v11.toInt)) + (v22.toInt)) + (v33.toInt)) (-3) 196605 := own_Bcast (own_Badd J14 J7 (by decide)) rfl (by decide) (by decide)
    have J15n := J15.nn
    rw [c202_c3_hv27_3] at J15
    exact own_rm_w3 l Z a0 hw ws p0 p1 p2 p3 p4 h0 n0 Z0 (w3_hv3 := hv3) (w3_hv5 := hn) (w3_hv11 := hv11) (w3_hn16 := J3n) (w3_hv16 := hv16) (w3_hv22 := hv22) (w3_hn27 := J5n) (w3_hv27 := hv27) (w3_hv33 := hv33) (w3_hn38 := J7n) (w3_hv38 := hv38) (w3_hv45 := hv45) (w3_hn50 := J9n) (w3_hv50 := hv50) (w3_hn153 := J10n) (w3_hv153 := hv153) (w3_hn156 := J11n) (w3_hv156 := hv156) (w3_c202_c3_hn27 := J13n) (w3_c202_c3_hv27 := c202_c3_hv27) (w3_c202_c3_hn27_2 := J14n) (w3_c202_c3_hv27_2 := c202_c3_hv27_2) (w3_c202_c3_hn27_3 := J15n) (w3_c202_c3_hv27_3 := c202_c3_hv27_3) (w3_hc207 := (own_eq0 J15.is J11.is (by first | rfl | omega | grind) _))
  · obtain ⟨v11, hv11⟩ : ∃ v, p1 &&& (65535 : Int32) = v := ⟨_, rfl⟩
    have L_v11 := own_Iand (B := 65535) hv11 (by decide) (by decide)
    obtain ⟨v16, hv16⟩ : ∃ v, FP.ddiv (FP.i2d v11) (4620693217682128896 : UInt64) = v := ⟨_, rfl⟩
    have Id1 : own_B (FP.i2d v11) (v11.toInt) 0 65535 := own_Bi2d L_v11
    have Ic2 : own_B (4620693217682128896 : UInt64) (1) (3) 1 := ⟨⟨(Jvm.FP.Core.fin_bits _).mpr (by decide), by decide, by decide +kernel⟩, by decide, by decide⟩
    have J3 : own_B (FP.ddiv (FP.i2d v11) (4620693217682128896 : UInt64)) (v11.toInt) (-3) 65535 := own_Bcast (own_Bdiv Id1 Ic2.is (by decide)) rfl (by decide) (by decide)
    have J3n := J3.nn
    rw [hv16] at J3
    obtain ⟨v22, hv22⟩ : ∃ v, p2 &&& (65535 : Int32) = v := ⟨_, rfl⟩
    have L_v22 := own_Iand (B := 65535) hv22 (by decide) (by decide)
    obtain ⟨v27, hv27⟩ : ∃ v, FP.ddiv (FP.i2d v22) (4620693217682128896 : UInt64) = v := ⟨_, rfl⟩
    have Id4 : own_B (FP.i2d v22) (v22.toInt) 0 65535 := own_Bi2d L_v22
    have J5 : own_B (FP.ddiv (FP.i2d v22) (4620693217682128896 : UInt64)) (v22.toInt) (-3) 65535 := own_Bcast (own_Bdiv Id4 Ic2.is (by decide)) rfl (by decide) (by decide)
    have J5n := J5.nn
    rw [hv27] at J5
    obtain ⟨v33, hv33⟩ : ∃ v, p3 &&& (65535 : Int32) = v := ⟨_, rfl⟩
    have L_v33 := own_Iand (B := 65535) hv33 (by decide) (by decide)
    obtain ⟨v38, hv38⟩ : ∃ v, FP.ddiv (FP.i2d v33) (4620693217682128896 : UInt64) = v := ⟨_, rfl⟩
    have Id6 : own_B (FP.i2d v33) (v33.toInt) 0 65535 := own_Bi2d L_v33
    have J7 : own_B (FP.ddiv (FP.i2d v33) (4620693217682128896 : UInt64)) (v33.toInt) (-3) 65535 := own_Bcast (own_Bdiv Id6 Ic2.is (by decide)) rfl (by decide) (by decide)
    have J7n := J7.nn
    rw [hv38] at J7
    obtain ⟨v45, hv45⟩ : ∃ v, p4 &&& (65535 : Int32) = v := ⟨_, rfl⟩
    have L_v45 := own_Iand (B := 65535) hv45 (by decide) (by decide)
    obtain ⟨v50, hv50⟩ : ∃ v, FP.ddiv (FP.i2d v45) (4620693217682128896 : UInt64) = v := ⟨_, rfl⟩
    have Id8 : own_B (FP.i2d v45) (v45.toInt) 0 65535 := own_Bi2d L_v45
    have J9 : own_B (FP.ddiv (FP.i2d v45) (4620693217682128896 : UInt64)) (v45.toInt) (-3) 65535 := own_Bcast (own_Bdiv Id8 Ic2.is (by decide)) rfl (by decide) (by decide)
    have J9n := J9.nn
    rw [hv50] at J9
    obtain ⟨v191, hv191⟩ : ∃ v, FP.dadd v16 v27 = v := ⟨_, rfl⟩
    have J10 : own_B (FP.dadd v16 v27) ((v11.toInt) + (v22.toInt)) (-3) 131070 := own_Bcast (own_Badd J3 J5 (by decide)) rfl (by decide) (by decide)
    have J10n := J10.nn
    rw [hv191] at J10
    obtain ⟨v194, hv194⟩ : ∃ v, FP.dadd v191 v38 = v := ⟨_, rfl⟩
    have J11 : own_B (FP.dadd v191 v38) (((v11.toInt) + (v22.toInt)) + (v33.toInt)) (-3) 196605 := own_Bcast (own_Badd J10 J7 (by decide)) rfl (by decide) (by decide)
    have J11n := J11.nn
    rw [hv194] at J11
    obtain ⟨v197, hv197⟩ : ∃ v, FP.dadd v194 v50 = v := ⟨_, rfl⟩
    have J12 : own_B (FP.dadd v194 v50) ((((v11.toInt) + (v22.toInt)) + (v33.toInt)) + (v45.toInt)) (-3) 262140 := own_Bcast (own_Badd J11 J9 (by decide)) rfl (by decide) (by decide)
    have J12n := J12.nn
    rw [hv197] at J12
    obtain ⟨c202_c4_v27, c202_c4_hv27⟩ : ∃ v, FP.dadd 0 v16 = v := ⟨_, rfl⟩
    have Ic13 : own_B 0 (0) (0) 0 := ⟨⟨(Jvm.FP.Core.fin_bits _).mpr (by decide), by decide, by decide +kernel⟩, by decide, by decide⟩
    have J14 : own_B (FP.dadd 0 v16) ((0) * 8 + (v11.toInt)) (-3) 65535 := own_Bcast (own_Badd (own_Bcast (own_Bshift 3 8 Ic13 (by decide)) rfl (by decide : _ = (-3 : Int)) (Int.le_refl _)) J3 (by decide)) rfl (by decide) (by decide)
    have J14n := J14.nn
    rw [c202_c4_hv27] at J14
    obtain ⟨c202_c4_v27_2, c202_c4_hv27_2⟩ : ∃ v, FP.dadd c202_c4_v27 v27 = v := ⟨_, rfl⟩
    have J15 : own_B (FP.dadd c202_c4_v27 v27) (((0) * 8 + (v11.toInt)) + (v22.toInt)) (-3) 131070 := own_Bcast (own_Badd J14 J5 (by decide)) rfl (by decide) (by decide)
    have J15n := J15.nn
    rw [c202_c4_hv27_2] at J15
    obtain ⟨c202_c4_v27_3, c202_c4_hv27_3⟩ : ∃ v, FP.dadd c202_c4_v27_2 v38 = v := ⟨_, rfl⟩
    have J16 : own_B (FP.dadd c202_c4_v27_2 v38) ((((0) * 8 + (v11.toInt)) + (v22.toInt)) + (v33.toInt)) (-3) 196605 := own_Bcast (own_Badd J15 J7 (by decide)) rfl (by decide) (by decide)
    have J16n := J16.nn
    rw [c202_c4_hv27_3] at J16
    obtain ⟨c202_c4_v27_4, c202_c4_hv27_4⟩ : ∃ v, FP.dadd c202_c4_v27_3 v50 = v := ⟨_, rfl⟩
    have J17 : own_B (FP.dadd c202_c4_v27_3 v50) (((((0) * 8 + (v11.toInt)) + (v22.toInt)) + (v33.toInt)) + (v45.toInt)) (-3) 262140 := own_Bcast (own_Badd J16 J9 (by decide)) rfl (by decide) (by decide)
    have J17n := J17.nn
    rw [c202_c4_hv27_4] at J17
    exact own_rm_w4 l Z a0 hw ws p0 p1 p2 p3 p4 h0 n0 Z0 (w4_hv3 := hv3) (w4_hv5 := hn) (w4_hv11 := hv11) (w4_hn16 := J3n) (w4_hv16 := hv16) (w4_hv22 := hv22) (w4_hn27 := J5n) (w4_hv27 := hv27) (w4_hv33 := hv33) (w4_hn38 := J7n) (w4_hv38 := hv38) (w4_hv45 := hv45) (w4_hn50 := J9n) (w4_hv50 := hv50) (w4_hn191 := J10n) (w4_hv191 := hv191) (w4_hn194 := J11n) (w4_hv194 := hv194) (w4_hn197 := J12n) (w4_hv197 := hv197) (w4_c202_c4_hn27 := J14n) (w4_c202_c4_hv27 := c202_c4_hv27) (w4_c202_c4_hn27_2 := J15n) (w4_c202_c4_hv27_2 := c202_c4_hv27_2) (w4_c202_c4_hn27_3 := J16n) (w4_c202_c4_hv27_3 := c202_c4_hv27_3) (w4_c202_c4_hn27_4 := J17n) (w4_c202_c4_hv27_4 := c202_c4_hv27_4) (w4_hc207 := (own_eq0 J17.is J12.is (by first | rfl | omega | grind) _))
set_option maxRecDepth 65536 in
set_option maxHeartbeats 40000000 in
theorem comes_1 {Post : Tables → Env → Array Value → State → Outcome → State → Prop} (hpost : ∀ tb e args s v u, (limb_1_1.after args s (.returned v) u = true ∧ limb_1_2.after args s (.returned v) u = true ∧ True) → FrameEnd s (.returned v) u (Jvm.fieldLocs frame_1_writes args s ++ Jvm.arrayLocs frame_1_arrays args s ++ Jvm.staticLocs frame_1_statics s) 16 128 → Post tb e args s (.returned v) u) :
    ArmFor flags0 classFile x code maxLocals ret World_1 tables_1 room_1 Calls_1 rest_1 Pre_1 Post := by
  intro l hfl _ _ p e ha hc hk s m args below hf hA hF happ hP
  obtain ⟨hcalls, hrest, hpre⟩ := hP
  obtain ⟨-, -, -, hnamed, -, -, -, hat⟩ := (Spec.applies_iff hf).mp happ
  obtain ⟨hg, hn⟩ := and_e (Cond.before_iff.mp (show (Jvm.Cond.and given_1 narrow_1).before args s = true from hpre))
  obtain ⟨hcount, g0⟩ := and_e hg
  obtain ⟨a0, g1⟩ := and_e g0
  obtain ⟨a1, g2⟩ := and_e g1
  obtain ⟨a2, g3⟩ := and_e g2
  obtain ⟨a3, g4⟩ := and_e g3
  have a4 := g4
  obtain ⟨w0, w1, w2, w3, w4, rfl⟩ : ∃ w0 w1 w2 w3 w4 : Value, args = #[w0, w1, w2, w3, w4] := by
    have hs : args.size = 5 := by simpa [Cond.value, given_1] using hcount
    obtain ⟨L⟩ := args
    match L, hs with
    | [w0, w1, w2, w3, w4], _ => exact ⟨w0, w1, w2, w3, w4, rfl⟩
  have hw := fun d (hd : d ∈ tables_1) => atoms_spec (ws := Jvm.Cond.code x code maxLocals ret :: tables_1) hat d (List.mem_cons_of_mem _ hd)
  obtain ⟨i0, ei0⟩ := is_v a0
  obtain rfl : w0 = (.int i0) := Option.some.inj ei0
  obtain ⟨i1, ei1⟩ := is_v a1
  obtain rfl : w1 = (.int i1) := Option.some.inj ei1
  obtain ⟨i2, ei2⟩ := is_v a2
  obtain rfl : w2 = (.int i2) := Option.some.inj ei2
  obtain ⟨i3, ei3⟩ := is_v a3
  obtain rfl : w3 = (.int i3) := Option.some.inj ei3
  obtain ⟨i4, ei4⟩ := is_v a4
  obtain rfl : w4 = (.int i4) := Option.some.inj ei4
  obtain ⟨n, o, h1, h2, h3, _, L, rfl, ⟨rfl, N⟩, hq⟩ := own_rm0 l s _ hw tables_1 i0 i1 i2 i3 i4 s.heap s.heap.size (Nat.le_refl _)  p e ha hc hk s m _ below hf ((Spec.applies_iff_loose hf).mp happ).1 ⟨rfl, State.Warmed39.refl s, rfl⟩ trivial
  refine ⟨n, _, h1, h2, h3, hpost _ _ _ _ _ _ ⟨Cond.after_iff.mpr rfl, Cond.after_iff.mpr (eq_i res_at (Term.int_eval (1)) rfl), trivial⟩ ⟨hq.1, hq.2.1, (hq.2.2.sift fun y hy => Or.inr (N y hy)).mono (by decide) (by decide)⟩⟩
theorem main_1_1 : Claimed_1_1 := comes_1 fun _ _ _ _ _ _ h hF => ⟨h.1, hF⟩
theorem main_1_2 : Claimed_1_2 := comes_1 fun _ _ _ _ _ _ h hF => ⟨h.2.1, hF⟩
end Jvm.Pilot.@@N@@
namespace Jvm.Pilot.@@N@@
open Jvm Jvm.ClassFile Sem Op Lib Jvm.Free Jvm.Stand Jvm.Pilot.@@N@@.Jvm.D
/-! MADE BY PROGRAM (witnessworld.py) out of the Statement's table words and the real class files: 11 classes; the members and pool entries that the words name. The judged class is class 1, her method 1. -/
namespace start1
open Jvm.ClassFile
def u (s : String) : CpInfo := .utf8 (stringToUtf16 s)
/-- a pool by its gaps: so many unusable entries, then the entry; so many at the end -/
def gap : Nat → List CpInfo → List CpInfo
  | 0, r => r
  | n + 1, r => .unusable :: gap n r
def poolList (es : List (Nat × CpInfo)) (last : Nat) : List CpInfo := es.foldr (fun e r => gap e.1 (e.2 :: r)) (gap last [])
def pool (es : List (Nat × CpInfo)) (last : Nat) : Array CpInfo := ⟨poolList es last⟩
def fileOf (pool : Array CpInfo) (this : Nat) (attrs : Array Attribute := #[]) (ms : Array MethodInfo := #[]) (fl : Nat := 33) (sup : Nat := 0) (ifs : Array Nat := #[]) (fds : Array FieldInfo := #[]) : ClassFile where
  minorVersion := 0
  majorVersion := 65
  constantPool := pool
  accessFlags := fl
  thisClass := this
  superClass := sup
  interfaces := ifs
  fields := fds
  methods := ms
  attributes := attrs
def plain (name : String) (sup : Option ClassId) : Class where
  name := name
  kind := .ordinary
  loader := none
  accessFlags := 33
  super := sup
  interfaces := #[]
  cf := none
  fields := #[]
  methods := #[]
  instanceTypes := #[]
  staticTypes := #[]
  resolved := #[]
  callSites := []
  init := .initialized
  statics := none
  mirror := none

def pool0 : Array CpInfo := pool [(5, u "<init>"), (0, u "()V"), (1, .class_ 10), (1, u "java/lang/Object")] 113

def k0m0 : Method := { name := "<init>", desc := "()V", sig := { parameters := [], returnType := none }, accessFlags := 1, code := none }
/-- java/lang/Object -/
def k0 : Class := { plain "java/lang/Object" none with
  accessFlags := 33
  interfaces := #[]
  cf := some (fileOf pool0 8 #[] #[{ accessFlags := 1, nameIndex := 5, descriptorIndex := 6, attributes := #[] }] 33 0 #[] #[])
  fields := #[]
  methods := #[k0m0]
  instanceTypes := #[]
  staticTypes := #[]
  resolved := Array.replicate 124 none
  statics := none }

def pool1 : Array CpInfo := pool [(2, .class_ 4), (1, u "java/lang/Object"), (0, u "<init>"), (0, u "()V"), (0, .integer 2147483647), (0, .integer 65535), (0, .double 4620693217682128896), (1, .methodref 12 13), (0, .class_ 14), (0, .nameAndType 15 16), (0, u "com/example/hachure/hachure/render/DashWalk"), (0, u "period"), (0, u "([D)D"), (0, .class_ 18), (0, u "com/example/hachure/hachure/render/DashWalkPeriodPinLaw"), (2, u "law"), (0, u "(IIIII)Z")] 5

def k1m0 : Method := { name := "<init>", desc := "()V", sig := { parameters := [], returnType := none }, accessFlags := 1, code := none }
def k1c1 : Code := { maxStack := 5, maxLocals := 17, code := code, exceptionTable := #[], attributes := #[] }
def k1m1 : Method := { name := "law", desc := "(IIIII)Z", sig := { parameters := [.int, .int, .int, .int, .int], returnType := some .boolean }, accessFlags := 9, code := some k1c1 }
/-- com/example/hachure/hachure/render/DashWalkPeriodPinLaw -/
def k1 : Class := { plain "com/example/hachure/hachure/render/DashWalkPeriodPinLaw" (some 0) with
  accessFlags := 49
  interfaces := #[]
  cf := some (fileOf pool1 17 #[] #[{ accessFlags := 1, nameIndex := 5, descriptorIndex := 6, attributes := #[] }, { accessFlags := 9, nameIndex := 21, descriptorIndex := 22, attributes := #[] }] 49 2 #[] #[])
  fields := #[]
  methods := #[k1m0, k1m1]
  instanceTypes := #[]
  staticTypes := #[]
  resolved := Array.replicate 28 none
  statics := none }

def pool2 : Array CpInfo := pool [(2, .class_ 4), (1, u "java/lang/Object"), (3, .class_ 10), (1, u "com/example/hachure/hachure/render/DashWalk"), (0, u "pattern"), (0, u "[D"), (2, u "starts"), (2, u "period"), (0, u "D"), (16, u "([D)D"), (18, u "index"), (0, u "I"), (2, u "at"), (2, u "start"), (2, u "end"), (6, u "count"), (0, u "J"), (7, u "anchorIndex"), (28, u "anchor"), (2, u "anchorInto"), (5, u "periods")] 25

def k2c0 : Code := { maxStack := 4, maxLocals := 8, code := prog_64_method_2_code, exceptionTable := #[], attributes := #[] }
def k2m0 : Method := { name := "period", desc := "([D)D", sig := { parameters := [(.array .double)], returnType := some .double }, accessFlags := 8, code := some k2c0 }
/-- com/example/hachure/hachure/render/DashWalk -/
def k2 : Class := { plain "com/example/hachure/hachure/render/DashWalk" (some 0) with
  accessFlags := 48
  interfaces := #[]
  cf := some (fileOf pool2 8 #[] #[{ accessFlags := 8, nameIndex := 18, descriptorIndex := 36, attributes := #[] }] 48 2 #[] #[{ accessFlags := 18, nameIndex := 11, descriptorIndex := 12, attributes := #[] }, { accessFlags := 18, nameIndex := 18, descriptorIndex := 19, attributes := #[] }, { accessFlags := 18, nameIndex := 15, descriptorIndex := 12, attributes := #[] }, { accessFlags := 2, nameIndex := 110, descriptorIndex := 19, attributes := #[] }, { accessFlags := 2, nameIndex := 81, descriptorIndex := 56, attributes := #[] }, { accessFlags := 2, nameIndex := 113, descriptorIndex := 19, attributes := #[] }, { accessFlags := 2, nameIndex := 72, descriptorIndex := 73, attributes := #[] }, { accessFlags := 2, nameIndex := 119, descriptorIndex := 73, attributes := #[] }, { accessFlags := 2, nameIndex := 55, descriptorIndex := 56, attributes := #[] }, { accessFlags := 2, nameIndex := 62, descriptorIndex := 19, attributes := #[] }, { accessFlags := 2, nameIndex := 65, descriptorIndex := 19, attributes := #[] }, { accessFlags := 2, nameIndex := 59, descriptorIndex := 19, attributes := #[] }])
  fields := #[{ name := "pattern", type := (.array .double), accessFlags := 18, slot := 0, constantValue := 0 }, { name := "period", type := .double, accessFlags := 18, slot := 1, constantValue := 0 }, { name := "starts", type := (.array .double), accessFlags := 18, slot := 2, constantValue := 0 }, { name := "anchor", type := .double, accessFlags := 2, slot := 3, constantValue := 0 }, { name := "anchorIndex", type := .int, accessFlags := 2, slot := 4, constantValue := 0 }, { name := "anchorInto", type := .double, accessFlags := 2, slot := 5, constantValue := 0 }, { name := "count", type := .long, accessFlags := 2, slot := 6, constantValue := 0 }, { name := "periods", type := .long, accessFlags := 2, slot := 7, constantValue := 0 }, { name := "index", type := .int, accessFlags := 2, slot := 8, constantValue := 0 }, { name := "start", type := .double, accessFlags := 2, slot := 9, constantValue := 0 }, { name := "end", type := .double, accessFlags := 2, slot := 10, constantValue := 0 }, { name := "at", type := .double, accessFlags := 2, slot := 11, constantValue := 0 }]
  methods := #[k2m0]
  instanceTypes := #[(.array .double), .double, (.array .double), .double, .int, .double, .long, .long, .int, .double, .double, .double]
  staticTypes := #[]
  resolved := Array.replicate 145 none
  statics := none }

def pool3 : Array CpInfo := pool [(1, u "java/lang/Cloneable"), (0, .class_ 1), (0, u "java/lang/Object"), (0, .class_ 3)] 3

/-- java/lang/Cloneable -/
def k3 : Class := { plain "java/lang/Cloneable" (some 0) with
  accessFlags := 1537
  interfaces := #[]
  cf := some (fileOf pool3 2 #[] #[] 1537 4 #[] #[])
  fields := #[]
  methods := #[]
  instanceTypes := #[]
  staticTypes := #[]
  resolved := Array.replicate 8 none
  statics := none }

def pool4 : Array CpInfo := pool [(1, u "java/io/Serializable"), (0, .class_ 1), (0, u "java/lang/Object"), (0, .class_ 3)] 3

/-- java/io/Serializable -/
def k4 : Class := { plain "java/io/Serializable" (some 0) with
  accessFlags := 1537
  interfaces := #[]
  cf := some (fileOf pool4 2 #[] #[] 1537 4 #[] #[])
  fields := #[]
  methods := #[]
  instanceTypes := #[]
  staticTypes := #[]
  resolved := Array.replicate 8 none
  statics := none }

/-- the primitive byte -/
def k5 : Class := { plain "byte" none with kind := .primitive 'B', accessFlags := 0x411 }
/-- [B -/
def k6 : Class := { plain "[B" (some 0) with kind := .array 5 .byte, interfaces := #[3, 4], accessFlags := 1041 }

/-- the primitive double -/
def k7 : Class := { plain "double" none with kind := .primitive 'D', accessFlags := 0x411 }
/-- [D -/
def k8 : Class := { plain "[D" (some 0) with kind := .array 7 .double, interfaces := #[3, 4], accessFlags := 1041 }

/-- the primitive int -/
def k9 : Class := { plain "int" none with kind := .primitive 'I', accessFlags := 0x411 }
/-- [I -/
def k10 : Class := { plain "[I" (some 0) with kind := .array 9 .int, interfaces := #[3, 4], accessFlags := 1041 }

def heap : Heap := #[]
def classes : Array Class := #[k0, k1, k2, k3, k4, k5, k6, k7, k8, k9, k10]
def interned : List (Array UInt16 × Addr) := []
def slotsUsed : Nat := 0
def theMethod : MethodId := ⟨1, 1⟩
def args0 : Array Value := #[.int 3, .int 4, .int 5, .int 6, .int 7]
def aboutOver (below : List Frame) : State where
  vm := { classes := classes, interned := interned.toArray }
  heap := heap
  slotsUsed := slotsUsed
  threads := #[{ frames := .invoking theMethod args0 :: below }]
def below0 : List Frame := [.native { method := ⟨0, 0⟩, args := #[] }]
def about1 : State := aboutOver below0
def p0 : Program := .bare "" "" ""
def e0 : Env := launch0.env 0 0 0
theorem w_frames : about1.frames = Frame.invoking theMethod args0 :: below0 := rfl
set_option maxRecDepth 65536 in
theorem w_args : argsFit about1.vm theMethod args0 = true := by decide +kernel
set_option maxRecDepth 65536 in
theorem w_heap : heapFits about1 = true := by decide +kernel
set_option maxRecDepth 65536 in
theorem w_runnable : about1.curStatus? = some .runnable := by decide +kernel
set_option maxRecDepth 65536 in
theorem w_alone : about1.alone = true := by decide +kernel
set_option maxRecDepth 65536 in
theorem w_named : about1.methodNamed? x = some theMethod := by decide +kernel
set_option maxRecDepth 65536 in
theorem w_hears : about1.hears theMethod below0 = true := by decide +kernel
set_option maxRecDepth 65536 in
theorem w_ripe : about1.ripe theMethod args0 below0 = true := by decide +kernel
theorem w_running : about1.status = .running := rfl
set_option maxRecDepth 65536 in
theorem w_room : about1.hasRoom e0.platform room_1 = true :=
  launch0.hasRoom_least _ room_1 (by decide +kernel) (by decide +kernel) (by decide +kernel) (by decide +kernel) (by decide +kernel) (by decide +kernel)
theorem allAtoms_all (ts : List Jvm.Cond) (a : Array Jvm.Value) (st : Jvm.State) : (allAtoms ts).before a st = ts.all (fun c => c.before a st) := by
  induction ts with
  | nil => rfl
  | cons c t ih =>
    show (Jvm.Cond.and c (allAtoms t)).before a st = _
    rw [Jvm.Cond.before_and, ih, List.all_cons]
def words1 : List Jvm.Cond := Jvm.Cond.code x code maxLocals ret :: tables_1
/-- a 'code' word, met by the world's own term for the bytes: nothing is compared byte by byte -/
theorem code_word {y : MethodName} {bytes : ByteArray} {mx : Nat} {rt : Option FieldType} {a : Array Value} {s : State} {m : MethodId} {meth : Method} {c : Code} (h1 : s.methodNamed? y = some m) (h2 : s.vm.method? m = some meth) (h3 : meth.code = some c) (h4 : c.code = bytes)
    (h5 : (c.maxLocals == mx && c.exceptionTable.isEmpty && decide (c.maxStack ≤ mostOperands) && decide (meth.sig.returnType = rt) && !meth.locks && decide (parseMethodDescriptor y.desc = some meth.sig)) = true) : (Jvm.Cond.code y bytes mx rt).before a s = true := by
  simp only [Bool.and_eq_true, beq_iff_eq, Bool.not_eq_true', decide_eq_true_eq] at h5
  obtain ⟨⟨⟨⟨⟨g1, g2⟩, g3⟩, g4⟩, g5⟩, g6⟩ := h5
  simp [Cond.before, Cond.holds, Cond.value, h1, h2, h3, h4, g1, g2, g3, g4, g5, g6]
def isCode : Jvm.Cond → Bool
  | .code _ _ _ _ => true
  | _ => false
theorem all_split {L : List Jvm.Cond} {P : Jvm.Cond → Bool} (h1 : L.all (fun c => isCode c || P c) = true) (h2 : ∀ c ∈ L.filter isCode, P c = true) : L.all P = true := by
  refine List.all_eq_true.mpr fun c hc => ?_
  have h := List.all_eq_true.mp h1 c hc
  rcases Bool.eq_false_or_eq_true (isCode c) with hi | hi
  · exact h2 c (List.mem_filter.mpr ⟨hc, hi⟩)
  · simpa [hi] using h
set_option maxRecDepth 65536 in
theorem w_c0 : (Jvm.Cond.code x code maxLocals ret).before args0 about1 = true := code_word (m := ⟨1, 1⟩) (meth := k1m1) (c := k1c1) (by decide +kernel) rfl rfl rfl (by decide +kernel)
set_option maxRecDepth 65536 in
theorem w_c1 : (Jvm.Cond.code ({ cls := "com/example/hachure/hachure/render/DashWalk", name := "period", desc := "([D)D" } : Jvm.MethodName) prog_64_method_2_code (8 : Nat) (Option.some Jvm.ClassFile.FieldType.double)).before args0 about1 = true := code_word (m := ⟨2, 0⟩) (meth := k2m0) (c := k2c0) (by decide +kernel) rfl rfl rfl (by decide +kernel)
def codes1 : List Jvm.Cond := [Jvm.Cond.code x code maxLocals ret, Jvm.Cond.code ({ cls := "com/example/hachure/hachure/render/DashWalk", name := "period", desc := "([D)D" } : Jvm.MethodName) prog_64_method_2_code (8 : Nat) (Option.some Jvm.ClassFile.FieldType.double)]
set_option maxRecDepth 65536 in
theorem codes_eq : words1.filter isCode = codes1 := rfl
theorem w_codes : ∀ c ∈ words1.filter isCode, c.before args0 about1 = true := by
  rw [codes_eq]
  intro c hc
  simp only [codes1, List.mem_cons, List.not_mem_nil, or_false] at hc
  rcases hc with rfl | rfl
  · exact w_c0
  · exact w_c1
set_option maxRecDepth 65536 in
theorem w_t1 : words1.all (fun c => isCode c || c.before args0 about1) = true := by decide +kernel
theorem w_tables : (allAtoms (Jvm.Cond.code x code maxLocals ret :: tables_1)).before args0 about1 = true := by
  rw [allAtoms_all]
  show words1.all (fun c => c.before args0 about1) = true
  refine all_split ?_ w_codes
  rw [w_t1]
set_option maxRecDepth 65536 in
theorem w_case : (Jvm.Cond.and given_1 narrow_1).before args0 about1 = true := by decide +kernel
theorem w_applies : (headSpec (Jvm.Cond.code x code maxLocals ret :: tables_1) room_1).applies x e0.platform about1 = true :=
  (Spec.applies_iff w_frames).mpr ⟨w_running, w_runnable, w_alone, w_named, w_hears, w_ripe, w_room, w_tables⟩
theorem atStart : AtStart classFile x code maxLocals ret World_1 tables_1 room_1 Calls_1 rest_1 Pre_1 launch0 p0 e0 about1 theMethod args0 below0 :=
  ⟨lists_1, trivial, launch0.admits_env _ _ _, launch0.least_env, fairChoices_fair.cas, fairChoices_fair.clock, w_frames, w_args, w_heap, w_applies, trivial, trivial, w_case⟩
end start1
theorem witness_1 : WitnessClaimed_1 := ⟨start1.p0, start1.e0, start1.about1, start1.theMethod, start1.args0, start1.below0, start1.atStart⟩
end Jvm.Pilot.@@N@@
