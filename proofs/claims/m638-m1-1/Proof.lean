import JvmDerived
import JvmDerived.Pilot.@@N@@Statement
import JvmDerived.Pilot.@@N@@Code
set_option linter.unusedVariables false
set_option linter.unusedSimpArgs false
namespace Jvm.Pilot.@@N@@
section OwnFP
open Jvm.FP.Core
/-! Exact doubles: own_Is x n e says that the double x is finite and worth n * 2^e. -/
def own_Is (x : UInt64) (n : Int) (e : Int) : Prop := DFin x ∧ -1074 ≤ e ∧ zval b64 (val64 x) = n * ((2 ^ (e + 1074).toNat : Nat) : Int)
theorem own_qmax : b64.qmax = 971 := by decide
theorem own_pp : b64.p = 53 := rfl
theorem own_powc {a b u v : Nat} (h : a * 2 ^ u = b * 2 ^ v) {w : Int} (hw : w = (u : Int) - v) : a * 2 ^ w.toNat = b * 2 ^ (-w).toNat := by
  subst hw
  have hu : u = ((u : Int) - v).toNat + min u v := by omega
  have hv : v = (-((u : Int) - v)).toNat + min u v := by omega
  have h2 : a * 2 ^ (((u : Int) - v).toNat + min u v) = b * 2 ^ ((-((u : Int) - v)).toNat + min u v) := by rw [← hu, ← hv]; exact h
  rw [Nat.pow_add, Nat.pow_add, ← Nat.mul_assoc, ← Nat.mul_assoc] at h2
  exact Nat.eq_of_mul_eq_mul_right (Nat.two_pow_pos _) h2
theorem own_signed_abs (s : Bool) (c : Nat) : (signed s c).natAbs = c := by cases s <;> simp [signed]
theorem own_signed_mul (s t : Bool) (c d : Nat) : signed (s != t) (c * d) = signed s c * signed t d := by
  cases s <;> cases t <;> simp [signed, Int.natCast_mul, Int.neg_mul, Int.mul_neg]
theorem own_signed_scale (s : Bool) (c d : Nat) : signed s (c * d) = signed s c * (d : Int) := by cases s <;> simp [signed, Int.natCast_mul, Int.neg_mul]
theorem own_round {s : Bool} {c : Nat} {q : Int} {M : Nat} {e : Int} (h2 : -2148 ≤ q) (hM : M < 9007199254740992) (he1 : -1074 ≤ e) (he2 : e ≤ 971) (h : inUnits c q (-2148) = M * 2 ^ (e + 2148).toNat) :
    ∃ c' q', round b64 (.fin s c q) = .fin s c' q' ∧ inUnits c' q' b64.qmin = M * 2 ^ (e + 1074).toNat := by
  have hq : b64.qmin = -1074 := qmin_b64
  obtain ⟨c', q', h1, h3⟩ := round_exact good_b64 s (c := M) (q := e) (show M < 2 ^ 53 from hM) (by rw [hq]; omega) (by rw [own_qmax]; omega)
  refine ⟨c', q', ?_, ?_⟩
  · rw [← h1]
    show roundRatio b64 s c 1 q = roundRatio b64 s M 1 e
    refine roundRatio_congr (by decide) (by decide) ?_
    unfold inUnits at h
    have h4 := own_powc (u := (q - -2148).toNat) (v := (e + 2148).toNat) h (w := q - e) (by omega)
    rw [Nat.mul_one, Nat.mul_one, h4, show -(q - e) = e - q by omega]
  · rw [h3]; unfold inUnits; rw [hq, show e - -1074 = e + 1074 by omega]
theorem own_fin_split {x : UInt64} {n e : Int} (h : own_Is x n e) : ∃ s c q, val64 x = .fin s c q ∧ Jvm.FP.Core.fits b64 (.fin s c q) ∧ signed s (inUnits c q b64.qmin) = n * ((2 ^ (e + 1074).toNat : Nat) : Int) ∧ -1074 ≤ q := by
  obtain ⟨⟨s, c, q, hv⟩, he, hz⟩ := h
  have hf := val64_fits x
  rw [hv] at hf hz
  have := hf.2.1
  rw [qmin_b64] at this
  exact ⟨s, c, q, hv, hf, hz, this⟩
theorem own_Is_of {x : UInt64} {s : Bool} {c : Nat} {q n e : Int} (hv : val64 x = .fin s c q) (he : -1074 ≤ e) (h : signed s (inUnits c q b64.qmin) = n * ((2 ^ (e + 1074).toNat : Nat) : Int)) : own_Is x n e :=
  ⟨⟨s, c, q, hv⟩, he, by rw [hv]; exact h⟩
theorem own_sum {s : Bool} {c : Nat} {q n e : Int} (hq : -1074 ≤ q) (hn : n.natAbs < 9007199254740992) (he1 : -1074 ≤ e) (he2 : e ≤ 971) (h : signed s (inUnits c q b64.qmin) = n * ((2 ^ (e + 1074).toNat : Nat) : Int)) :
    ∃ c' q', round b64 (.fin s c q) = .fin s c' q' ∧ signed s (inUnits c' q' b64.qmin) = n * ((2 ^ (e + 1074).toNat : Nat) : Int) := by
  have h1 : inUnits c q b64.qmin = n.natAbs * 2 ^ (e + 1074).toNat := by
    rw [← own_signed_abs s (inUnits c q b64.qmin), h, Int.natAbs_mul, Int.natAbs_natCast]
  have h2 : inUnits c q (-2148) = n.natAbs * 2 ^ (e + 2148).toNat := by
    rw [inUnits_move c (r := b64.qmin) (by rw [qmin_b64]; omega) (by rw [qmin_b64]; omega), h1, qmin_b64, Nat.mul_assoc, ← Nat.pow_add]
    congr 2; omega
  obtain ⟨c', q', h3, h4⟩ := own_round (s := s) (by omega) hn he1 he2 h2
  exact ⟨c', q', h3, by rw [h4, ← h1, h]⟩
theorem own_add {x y : UInt64} {m n e : Int} (hx : own_Is x m e) (hy : own_Is y n e) (he : e ≤ 971) (hb : (m + n).natAbs < 9007199254740992) : own_Is (dadd x y) (m + n) e := by
  have he1 := hx.2.1
  obtain ⟨s, c, q, vx, fx, zx, -⟩ := own_fin_split hx
  obtain ⟨t, d, r, vy, fy, zy, -⟩ := own_fin_split hy
  obtain ⟨sg, N, E, h1, h2, h3⟩ := sum_units fx fy
  have h4 : signed sg (inUnits N E b64.qmin) = (m + n) * ((2 ^ (e + 1074).toNat : Nat) : Int) := by
    rw [h3, Int.add_mul, ← zx, ← zy]; rfl
  obtain ⟨c', q', h5, h6⟩ := own_sum (by rw [qmin_b64] at h2; exact h2) hb he1 he h4
  exact own_Is_of (by rw [val64_dadd, vx, vy, h1, h5]) he1 h6
theorem own_sub {x y : UInt64} {m n e : Int} (hx : own_Is x m e) (hy : own_Is y n e) (he : e ≤ 971) (hb : (m - n).natAbs < 9007199254740992) : own_Is (dsub x y) (m - n) e := by
  have he1 := hx.2.1
  obtain ⟨s, c, q, vx, fx, zx, -⟩ := own_fin_split hx
  obtain ⟨t, d, r, vy, fy, zy, -⟩ := own_fin_split hy
  have fy' : Jvm.FP.Core.fits b64 (.fin (!t) d r) := fy
  obtain ⟨sg, N, E, h1, h2, h3⟩ := sum_units (t := !t) fx fy'
  have h4 : signed sg (inUnits N E b64.qmin) = (m - n) * ((2 ^ (e + 1074).toNat : Nat) : Int) := by
    rw [h3, Int.sub_mul, ← zx, ← zy]
    show signed s (inUnits c q b64.qmin) + signed (!t) (inUnits d r b64.qmin) = _
    rw [signed_not]; omega
  obtain ⟨c', q', h5, h6⟩ := own_sum (by rw [qmin_b64] at h2; exact h2) hb he1 he h4
  refine own_Is_of (s := sg) (c := c') (q := q') ?_ he1 h6
  rw [val64_dsub, vx, vy]
  show round b64 (exactSum (.fin s c q) (.fin (!t) d r)) = _
  rw [h1, h5]
theorem own_mul {x y : UInt64} {m n e1 e2 e : Int} (hx : own_Is x m e1) (hy : own_Is y n e2) (hee : e1 + e2 = e) (he1 : -1074 ≤ e) (he2 : e ≤ 971) (hb : (m * n).natAbs < 9007199254740992) : own_Is (dmul x y) (m * n) e := by
  subst hee
  have hx1 := hx.2.1
  have hy1 := hy.2.1
  obtain ⟨s, c, q, vx, fx, zx, qx⟩ := own_fin_split hx
  obtain ⟨t, d, r, vy, fy, zy, qy⟩ := own_fin_split hy
  obtain ⟨h1, h2, h3⟩ := product_units fx fy
  have hs : signed (s != t) (inUnits (c * d) (q + r) (-2148)) = (m * n) * ((2 ^ (e1 + e2 + 2148).toNat : Nat) : Int) := by
    have h4 : inUnits (c * d) (q + r) (-2148) = inUnits c q b64.qmin * inUnits d r b64.qmin := by
      have := h3
      rw [qmin_b64] at this ⊢
      exact this
    rw [h4, own_signed_mul, zx, zy, show (e1 + e2 + 2148).toNat = (e1 + 1074).toNat + (e2 + 1074).toNat by omega, Nat.pow_add, Int.natCast_mul]
    simp only [Int.mul_assoc, Int.mul_left_comm, Int.mul_comm]
  have h5 : inUnits (c * d) (q + r) (-2148) = (m * n).natAbs * 2 ^ (e1 + e2 + 2148).toNat := by
    rw [← own_signed_abs (s != t) (inUnits (c * d) (q + r) (-2148)), hs, Int.natAbs_mul, Int.natAbs_natCast]
  obtain ⟨c', q', h6, h7⟩ := own_round (s := (s != t)) (by omega) hb he1 he2 h5
  refine own_Is_of (s := (s != t)) (c := c') (q := q') (by rw [val64_dmul, vx, vy, h1, h6]) he1 ?_
  rw [h5, own_signed_scale] at hs
  have h8 : signed (s != t) (m * n).natAbs = m * n := Int.eq_of_mul_eq_mul_right (by have := Nat.two_pow_pos (e1 + e2 + 2148).toNat; omega) hs
  rw [h7, own_signed_scale, h8]
/-- the quotient of two exact doubles is the rounded ratio of their numbers -/
theorem own_divR {x y : UInt64} {m n e1 e2 : Int} (hx : own_Is x m e1) (hy : own_Is y n e2) (hn : n ≠ 0) :
    val64 (ddiv x y) = roundRatio b64 (sgn (val64 x) != sgn (val64 y)) m.natAbs n.natAbs (e1 - e2) ∧ signed (sgn (val64 x)) m.natAbs = m ∧ signed (sgn (val64 y)) n.natAbs = n := by
  have hx1 := hx.2.1
  have hy1 := hy.2.1
  obtain ⟨s, c, q, vx, fx, zx, qx⟩ := own_fin_split hx
  obtain ⟨t, d, r, vy, fy, zy, qy⟩ := own_fin_split hy
  have ax : inUnits c q b64.qmin = m.natAbs * 2 ^ (e1 + 1074).toNat := by
    rw [← own_signed_abs s (inUnits c q b64.qmin), zx, Int.natAbs_mul, Int.natAbs_natCast]
  have ay : inUnits d r b64.qmin = n.natAbs * 2 ^ (e2 + 1074).toNat := by
    rw [← own_signed_abs t (inUnits d r b64.qmin), zy, Int.natAbs_mul, Int.natAbs_natCast]
  have sx : signed s m.natAbs = m := by
    rw [ax, own_signed_scale] at zx
    exact Int.eq_of_mul_eq_mul_right (by have := Nat.two_pow_pos (e1 + 1074).toNat; omega) zx
  have sy : signed t n.natAbs = n := by
    rw [ay, own_signed_scale] at zy
    exact Int.eq_of_mul_eq_mul_right (by have := Nat.two_pow_pos (e2 + 1074).toNat; omega) zy
  have nn : n.natAbs ≠ 0 := by omega
  have hd : d ≠ 0 := by
    rintro rfl
    have : n.natAbs * 2 ^ (e2 + 1074).toNat = 0 := by rw [← ay]; unfold inUnits; simp
    rcases Nat.mul_eq_zero.mp this with h | h
    · exact nn h
    · have := Nat.two_pow_pos (e2 + 1074).toNat; omega
  refine ⟨?_, by rw [vx]; exact sx, by rw [vy]; exact sy⟩
  rw [val64_ddiv, vx, vy]
  show (if d = 0 then _ else roundRatio b64 (s != t) c d (q - r)) = roundRatio b64 (s != t) _ _ _
  rw [if_neg hd]
  refine roundRatio_congr (by omega) (by omega) ?_
  unfold inUnits at ax ay
  rw [qmin_b64] at ax ay
  have key : c * n.natAbs * 2 ^ ((q - -1074).toNat + (e2 + 1074).toNat) = m.natAbs * d * 2 ^ ((e1 + 1074).toNat + (r - -1074).toNat) := by
    have e3 : c * n.natAbs * 2 ^ ((q - -1074).toNat + (e2 + 1074).toNat) = (c * 2 ^ (q - -1074).toNat) * (n.natAbs * 2 ^ (e2 + 1074).toNat) := by
      rw [Nat.pow_add]; simp only [Nat.mul_assoc, Nat.mul_left_comm, Nat.mul_comm]
    rw [e3, ax, ← ay, Nat.pow_add]
    simp only [Nat.mul_assoc, Nat.mul_left_comm, Nat.mul_comm]
  have h4 := own_powc key (w := (q - r) - (e1 - e2)) (by omega)
  rw [h4, show -((q - r) - (e1 - e2)) = (e1 - e2) - (q - r) by omega]
theorem own_div {x y : UInt64} {m n N e1 e2 e : Int} (hx : own_Is x m e1) (hy : own_Is y n e2) (hn : n ≠ 0) (hm : m = N * n) (hee : e1 - e2 = e) (he1 : -1074 ≤ e) (he2 : e ≤ 971) (hb : N.natAbs < 9007199254740992) : own_Is (ddiv x y) N e := by
  subst hee
  obtain ⟨h1, h2, h3⟩ := own_divR hx hy hn
  have hq : b64.qmin = -1074 := qmin_b64
  obtain ⟨c', q', h5, h6⟩ := round_exact good_b64 (sgn (val64 x) != sgn (val64 y)) (c := N.natAbs) (q := e1 - e2) (show _ < 2 ^ 53 from hb) (by rw [hq]; omega) (by rw [own_qmax]; omega)
  refine own_Is_of (s := (sgn (val64 x) != sgn (val64 y))) (c := c') (q := q') ?_ he1 ?_
  · rw [h1, ← h5]
    show roundRatio _ _ _ _ _ = roundRatio b64 (sgn (val64 x) != sgn (val64 y)) N.natAbs 1 (e1 - e2)
    refine roundRatio_congr (by omega) (by decide) ?_
    rw [hm, Int.natAbs_mul]; simp
  · rw [h6]; unfold inUnits
    rw [hq, show e1 - e2 - -1074 = e1 - e2 + 1074 by omega, own_signed_scale]
    congr 1
    have h7 := own_signed_mul (sgn (val64 x)) (sgn (val64 y)) N.natAbs (n.natAbs * n.natAbs)
    have h8 : signed (sgn (val64 x) != sgn (val64 y)) (m.natAbs * n.natAbs) = m * n := by rw [own_signed_mul, h2, h3]
    rw [hm, Int.natAbs_mul, Nat.mul_assoc, own_signed_scale] at h8
    have h9 : ((n.natAbs * n.natAbs : Nat) : Int) = n * n := Int.natAbs_mul_self
    rw [h9, Int.mul_assoc] at h8
    refine Int.eq_of_mul_eq_mul_right ?_ h8
    intro h0
    rcases Int.mul_eq_zero.mp h0 with h | h <;> exact hn h
theorem own_shift {x : UInt64} {n e e' : Int} (j : Nat) (hx : own_Is x n e) (hj : e' = e - j) (he : -1074 ≤ e') : own_Is x (n * (2 ^ j : Nat)) e' := by
  subst hj
  refine ⟨hx.1, he, ?_⟩
  rw [hx.2.2, show (e + 1074).toNat = j + (e - j + 1074).toNat by omega, Nat.pow_add, Int.natCast_mul, ← Int.mul_assoc]
theorem own_nn {x : UInt64} {n e : Int} (h : own_Is x n e) : Jvm.Free.Fl.NoNaN64 x := Jvm.Free.Fl.noNaN64_no.mpr h.1.notNaN
theorem own_cmp {x y : UInt64} {m n e : Int} (hx : own_Is x m e) (hy : own_Is y n e) : dcmp x y = some (compare m n) := by
  rw [dcmp_zval hx.1.ne_nan hy.1.ne_nan, hx.2.2, hy.2.2]
  have hp : (0 : Int) < ((2 ^ (e + 1074).toNat : Nat) : Int) := by have := Nat.two_pow_pos (e + 1074).toNat; omega
  congr 1
  refine compare_congr ⟨fun h => Int.lt_of_mul_lt_mul_right h (Int.le_of_lt hp), fun h => Int.mul_lt_mul_of_pos_right h hp⟩ ⟨fun h => Int.eq_of_mul_eq_mul_right (Int.ne_of_gt hp) h, fun h => by rw [h]⟩
theorem own_i2d (a : Int32) : own_Is (i2d a) a.toInt 0 := by
  have h := i2d_int a
  refine ⟨?_, by decide, ?_⟩
  · rw [i2d_l2d]; exact l2d_fin _
  · rw [DInt_zval h]; rfl
theorem own_l2d {a : Int64} (h : a.toInt.natAbs ≤ 9007199254740992) : own_Is (l2d a) a.toInt 0 := by
  have h := l2d_int (a := a) h
  exact ⟨l2d_fin _, by decide, by rw [DInt_zval h]; rfl⟩
/-- with a bound on the number -/
def own_B (x : UInt64) (n e B : Int) : Prop := own_Is x n e ∧ -B ≤ n ∧ n ≤ B
theorem own_B.is {x : UInt64} {n e B : Int} (h : own_B x n e B) : own_Is x n e := h.1
theorem own_B.nn {x : UInt64} {n e B : Int} (h : own_B x n e B) : Jvm.Free.Fl.NoNaN64 x := own_nn h.1
theorem own_Badd {x y : UInt64} {m n e A B : Int} (hx : own_B x m e A) (hy : own_B y n e B) (h : (decide (e ≤ 971) && decide (A + B < 9007199254740992)) = true) : own_B (dadd x y) (m + n) e (A + B) := by
  simp only [Bool.and_eq_true, decide_eq_true_eq] at h
  have := hx.2; have := hy.2
  exact ⟨own_add hx.1 hy.1 h.1 (by omega), by omega, by omega⟩
theorem own_Bsub {x y : UInt64} {m n e A B : Int} (hx : own_B x m e A) (hy : own_B y n e B) (h : (decide (e ≤ 971) && decide (A + B < 9007199254740992)) = true) : own_B (dsub x y) (m - n) e (A + B) := by
  simp only [Bool.and_eq_true, decide_eq_true_eq] at h
  have := hx.2; have := hy.2
  exact ⟨own_sub hx.1 hy.1 h.1 (by omega), by omega, by omega⟩
theorem own_bmul {m n A B : Int} (hm : -A ≤ m ∧ m ≤ A) (hn : -B ≤ n ∧ n ≤ B) : -(A * B) ≤ m * n ∧ m * n ≤ A * B := by
  have h : (m * n).natAbs ≤ A.toNat * B.toNat := by rw [Int.natAbs_mul]; exact Nat.mul_le_mul (by omega) (by omega)
  have h2 : ((A.toNat * B.toNat : Nat) : Int) = A * B := by rw [Int.natCast_mul, Int.toNat_of_nonneg (by omega), Int.toNat_of_nonneg (by omega)]
  omega
theorem own_Bmul {x y : UInt64} {m n e1 e2 A B : Int} (hx : own_B x m e1 A) (hy : own_B y n e2 B) (h : (decide (-1074 ≤ e1 + e2) && decide (e1 + e2 ≤ 971) && decide (A * B < 9007199254740992)) = true) : own_B (dmul x y) (m * n) (e1 + e2) (A * B) := by
  simp only [Bool.and_eq_true, decide_eq_true_eq] at h
  have hb := own_bmul hx.2 hy.2
  exact ⟨own_mul hx.1 hy.1 rfl h.1.1 h.1.2 (by omega), hb⟩
/-- an exact quotient by a power of two (n = 1 in y = 1 * 2^e2) -/
theorem own_Bdiv {x y : UInt64} {m e1 e2 A : Int} (hx : own_B x m e1 A) (hy : own_Is y 1 e2) (h : (decide (-1074 ≤ e1 - e2) && decide (e1 - e2 ≤ 971) && decide (A < 9007199254740992)) = true) : own_B (ddiv x y) m (e1 - e2) A := by
  simp only [Bool.and_eq_true, decide_eq_true_eq] at h
  have := hx.2
  exact ⟨own_div hx.1 hy (by decide) (Int.mul_one _).symm rfl h.1.1 h.1.2 (by omega), hx.2⟩
theorem own_Bshift {x : UInt64} {n e A : Int} (j : Nat) (P : Int) (hx : own_B x n e A) (h : (decide (-1074 ≤ e - j) && decide (((2 ^ j : Nat) : Int) = P)) = true) : own_B x (n * P) (e - j) (A * P) := by
  simp only [Bool.and_eq_true, decide_eq_true_eq] at h
  obtain ⟨h, rfl⟩ := h
  refine ⟨own_shift j hx.1 rfl h, ?_⟩
  have hp : (0 : Int) ≤ (2 ^ j : Nat) := Int.natCast_nonneg _
  have := hx.2
  constructor
  · rw [← Int.neg_mul]; exact Int.mul_le_mul_of_nonneg_right this.1 hp
  · exact Int.mul_le_mul_of_nonneg_right this.2 hp
theorem own_Bcast {x : UInt64} {n n' e e' A A' : Int} (h : own_B x n e A) (hn : n = n') (he : e = e') (hA : A ≤ A') : own_B x n' e' A' := by
  subst hn he; exact ⟨h.1, by have := h.2; omega, by have := h.2; omega⟩
theorem own_eq0 {x y : UInt64} {m n e : Int} (hx : own_Is x m e) (hy : own_Is y n e) (h : m = n) (o : ClassFile.CmpOp) : Op.cmpValue (Jvm.FP.dcmp x y) o = 0 := by
  show Op.cmpValue (dcmp x y) o = 0
  subst h
  rw [own_cmp hx hy, show compare m m = .eq from (compare_eq_iff m m).mpr rfl]; cases o <;> rfl
theorem own_cmpv {x y : UInt64} {m n e : Int} (hx : own_Is x m e) (hy : own_Is y n e) (o : ClassFile.CmpOp) : (m < n → Op.cmpValue (Jvm.FP.dcmp x y) o = -1) ∧ (m = n → Op.cmpValue (Jvm.FP.dcmp x y) o = 0) ∧ (n < m → Op.cmpValue (Jvm.FP.dcmp x y) o = 1) := by
  refine ⟨fun h => ?_, fun h => own_eq0 hx hy h o, fun h => ?_⟩
  · show Op.cmpValue (dcmp x y) o = -1
    rw [own_cmp hx hy, (compare_lt_iff m n).mpr h]; cases o <;> rfl
  · show Op.cmpValue (dcmp x y) o = 1
    rw [own_cmp hx hy, (compare_gt_iff m n).mpr h]; cases o <;> rfl
theorem own_one : own_Is 4607182418800017408 1 0 := ⟨(fin_bits _).mpr (by decide), by decide, by decide +kernel⟩
theorem own_zero : own_Is 0 0 0 := ⟨(fin_bits _).mpr (by decide), by decide, by decide +kernel⟩
/-! ints and longs with their numbers and bounds -/
def own_I (v : Int32) (n B : Int) : Prop := v.toInt = n ∧ -B ≤ n ∧ n ≤ B
def own_L (v : Int64) (n B : Int) : Prop := v.toInt = n ∧ -B ≤ n ∧ n ≤ B
theorem own_Iadd {a b v : Int32} {m n A B : Int} (hv : a + b = v) (ha : own_I a m A) (hb : own_I b n B) (h : decide (A + B < 2147483648) = true) : own_I v (m + n) (A + B) := by
  subst hv; simp only [decide_eq_true_eq] at h; obtain ⟨rfl, h1, h2⟩ := ha; obtain ⟨rfl, h3, h4⟩ := hb
  exact ⟨by rw [Int32.toInt_add]; exact Int.bmod_eq_of_le (by omega) (by omega), by omega, by omega⟩
theorem own_Isub {a b v : Int32} {m n A B : Int} (hv : a - b = v) (ha : own_I a m A) (hb : own_I b n B) (h : decide (A + B < 2147483648) = true) : own_I v (m - n) (A + B) := by
  subst hv; simp only [decide_eq_true_eq] at h; obtain ⟨rfl, h1, h2⟩ := ha; obtain ⟨rfl, h3, h4⟩ := hb
  exact ⟨by rw [Int32.toInt_sub]; exact Int.bmod_eq_of_le (by omega) (by omega), by omega, by omega⟩
theorem own_Imul {a b v : Int32} {m n A B : Int} (hv : a * b = v) (ha : own_I a m A) (hb : own_I b n B) (h : decide (A * B < 2147483648) = true) : own_I v (m * n) (A * B) := by
  subst hv; simp only [decide_eq_true_eq] at h; obtain ⟨rfl, h1⟩ := ha; obtain ⟨rfl, h3⟩ := hb
  have hb := own_bmul h1 h3
  exact ⟨by rw [Int32.toInt_mul]; exact Int.bmod_eq_of_le (by omega) (by omega), hb⟩
theorem own_Ladd {a b v : Int64} {m n A B : Int} (hv : a + b = v) (ha : own_L a m A) (hb : own_L b n B) (h : decide (A + B < 9223372036854775808) = true) : own_L v (m + n) (A + B) := by
  subst hv; simp only [decide_eq_true_eq] at h; obtain ⟨rfl, h1, h2⟩ := ha; obtain ⟨rfl, h3, h4⟩ := hb
  exact ⟨by rw [Int64.toInt_add]; exact Int.bmod_eq_of_le (by omega) (by omega), by omega, by omega⟩
theorem own_Lsub {a b v : Int64} {m n A B : Int} (hv : a - b = v) (ha : own_L a m A) (hb : own_L b n B) (h : decide (A + B < 9223372036854775808) = true) : own_L v (m - n) (A + B) := by
  subst hv; simp only [decide_eq_true_eq] at h; obtain ⟨rfl, h1, h2⟩ := ha; obtain ⟨rfl, h3, h4⟩ := hb
  exact ⟨by rw [Int64.toInt_sub]; exact Int.bmod_eq_of_le (by omega) (by omega), by omega, by omega⟩
theorem own_Lmul {a b v : Int64} {m n A B : Int} (hv : a * b = v) (ha : own_L a m A) (hb : own_L b n B) (h : decide (A * B < 9223372036854775808) = true) : own_L v (m * n) (A * B) := by
  subst hv; simp only [decide_eq_true_eq] at h; obtain ⟨rfl, h1⟩ := ha; obtain ⟨rfl, h3⟩ := hb
  have hb := own_bmul h1 h3
  exact ⟨by rw [Int64.toInt_mul]; exact Int.bmod_eq_of_le (by omega) (by omega), hb⟩
theorem own_Ii2l {a : Int32} {v : Int64} {m A : Int} (hv : Int32.toInt64 a = v) (ha : own_I a m A) : own_L v m A := by
  subst hv; exact ⟨by rw [Int32.toInt_toInt64]; exact ha.1, ha.2⟩
theorem own_Icast {v : Int32} {n n' A A' : Int} (h : own_I v n A) (hn : n = n') (hA : A ≤ A') : own_I v n' A' := by
  subst hn; exact ⟨h.1, by have := h.2; omega, by have := h.2; omega⟩
theorem own_Lcast {v : Int64} {n n' A A' : Int} (h : own_L v n A) (hn : n = n') (hA : A ≤ A') : own_L v n' A' := by
  subst hn; exact ⟨h.1, by have := h.2; omega, by have := h.2; omega⟩
theorem own_Bi2d {v : Int32} {n A : Int} (h : own_I v n A) : own_B (i2d v) n 0 A := by
  obtain ⟨rfl, h1⟩ := h; exact ⟨own_i2d v, h1⟩
theorem own_Bl2d {v : Int64} {n A : Int} (h : own_L v n A) (hA : decide (A ≤ 9007199254740992) = true) : own_B (l2d v) n 0 A := by
  simp only [decide_eq_true_eq] at hA; obtain ⟨rfl, h1⟩ := h; exact ⟨own_l2d (by omega), h1⟩
theorem own_Irng (v : Int32) : own_I v v.toInt 2147483648 := ⟨rfl, by have := Jvm.RoadKit.rng32 v; omega, by have := Jvm.RoadKit.rng32 v; omega⟩
theorem own_Iand {x m v : Int32} {B : Int} (hv : x &&& m = v) (hB : m.toInt = B) (h0 : 0 ≤ B) : own_I v v.toInt B := by
  have := Jvm.RoadKit.c_and x m (by omega); rw [hv] at this; exact ⟨rfl, by omega, by omega⟩
end OwnFP
section OwnStep
open Jvm Jvm.ClassFile Sem Op Lib Jvm.Free Jvm.Stand Jvm.LawKit Jvm.RoadKit
variable {tb : Tables} [Ours tb] {e : Env} {below : List Frame} {T target : State} {m : MethodId} {c : Code} {pc pc' : Nat} {L : Array Slot} {S : List Value}
theorem own_s_iadd (h : At T m c below) (hx : tb.exec = Jvm.exec) {x y v : Int32} (hd : decode c.code pc = .ok (.iadd, 1)) (hp : pc + 1 = pc') (hv : x + y = v)
    (hr : Steps tb e below (T.setTop (mkF m pc' L (.int v :: S))) target) : Steps tb e below (T.setTop (mkF m pc L (.int y :: .int x :: S))) target := by
  subst hv hp; exact XS.iadd h hx rfl hd rfl hr
theorem own_s_ladd (h : At T m c below) (hx : tb.exec = Jvm.exec) {x y v : Int64} (hd : decode c.code pc = .ok (.ladd, 1)) (hp : pc + 1 = pc') (hv : x + y = v)
    (hr : Steps tb e below (T.setTop (mkF m pc' L (.long v :: S))) target) : Steps tb e below (T.setTop (mkF m pc L (.long y :: .long x :: S))) target := by
  subst hv hp; exact XS.ladd h hx rfl hd rfl hr
theorem own_s_isub (h : At T m c below) (hx : tb.exec = Jvm.exec) {x y v : Int32} (hd : decode c.code pc = .ok (.isub, 1)) (hp : pc + 1 = pc') (hv : x - y = v)
    (hr : Steps tb e below (T.setTop (mkF m pc' L (.int v :: S))) target) : Steps tb e below (T.setTop (mkF m pc L (.int y :: .int x :: S))) target := by
  subst hv hp; exact XS.isub h hx rfl hd rfl hr
theorem own_s_lsub (h : At T m c below) (hx : tb.exec = Jvm.exec) {x y v : Int64} (hd : decode c.code pc = .ok (.lsub, 1)) (hp : pc + 1 = pc') (hv : x - y = v)
    (hr : Steps tb e below (T.setTop (mkF m pc' L (.long v :: S))) target) : Steps tb e below (T.setTop (mkF m pc L (.long y :: .long x :: S))) target := by
  subst hv hp; exact XS.lsub h hx rfl hd rfl hr
theorem own_s_imul (h : At T m c below) (hx : tb.exec = Jvm.exec) {x y v : Int32} (hd : decode c.code pc = .ok (.imul, 1)) (hp : pc + 1 = pc') (hv : x * y = v)
    (hr : Steps tb e below (T.setTop (mkF m pc' L (.int v :: S))) target) : Steps tb e below (T.setTop (mkF m pc L (.int y :: .int x :: S))) target := by
  subst hv hp; exact XS.imul h hx rfl hd rfl hr
theorem own_s_lmul (h : At T m c below) (hx : tb.exec = Jvm.exec) {x y v : Int64} (hd : decode c.code pc = .ok (.lmul, 1)) (hp : pc + 1 = pc') (hv : x * y = v)
    (hr : Steps tb e below (T.setTop (mkF m pc' L (.long v :: S))) target) : Steps tb e below (T.setTop (mkF m pc L (.long y :: .long x :: S))) target := by
  subst hv hp; exact XS.lmul h hx rfl hd rfl hr
theorem own_s_iand (h : At T m c below) (hx : tb.exec = Jvm.exec) {x y v : Int32} (hd : decode c.code pc = .ok (.iand, 1)) (hp : pc + 1 = pc') (hv : x &&& y = v)
    (hr : Steps tb e below (T.setTop (mkF m pc' L (.int v :: S))) target) : Steps tb e below (T.setTop (mkF m pc L (.int y :: .int x :: S))) target := by
  subst hv hp; exact XS.iand h hx rfl hd rfl hr
theorem own_s_land (h : At T m c below) (hx : tb.exec = Jvm.exec) {x y v : Int64} (hd : decode c.code pc = .ok (.land, 1)) (hp : pc + 1 = pc') (hv : x &&& y = v)
    (hr : Steps tb e below (T.setTop (mkF m pc' L (.long v :: S))) target) : Steps tb e below (T.setTop (mkF m pc L (.long y :: .long x :: S))) target := by
  subst hv hp; exact XS.land h hx rfl hd rfl hr
theorem own_s_ior (h : At T m c below) (hx : tb.exec = Jvm.exec) {x y v : Int32} (hd : decode c.code pc = .ok (.ior, 1)) (hp : pc + 1 = pc') (hv : x ||| y = v)
    (hr : Steps tb e below (T.setTop (mkF m pc' L (.int v :: S))) target) : Steps tb e below (T.setTop (mkF m pc L (.int y :: .int x :: S))) target := by
  subst hv hp; exact XS.ior h hx rfl hd rfl hr
theorem own_s_lor (h : At T m c below) (hx : tb.exec = Jvm.exec) {x y v : Int64} (hd : decode c.code pc = .ok (.lor, 1)) (hp : pc + 1 = pc') (hv : x ||| y = v)
    (hr : Steps tb e below (T.setTop (mkF m pc' L (.long v :: S))) target) : Steps tb e below (T.setTop (mkF m pc L (.long y :: .long x :: S))) target := by
  subst hv hp; exact XS.lor h hx rfl hd rfl hr
theorem own_s_ixor (h : At T m c below) (hx : tb.exec = Jvm.exec) {x y v : Int32} (hd : decode c.code pc = .ok (.ixor, 1)) (hp : pc + 1 = pc') (hv : x ^^^ y = v)
    (hr : Steps tb e below (T.setTop (mkF m pc' L (.int v :: S))) target) : Steps tb e below (T.setTop (mkF m pc L (.int y :: .int x :: S))) target := by
  subst hv hp; exact XS.ixor h hx rfl hd rfl hr
theorem own_s_lxor (h : At T m c below) (hx : tb.exec = Jvm.exec) {x y v : Int64} (hd : decode c.code pc = .ok (.lxor, 1)) (hp : pc + 1 = pc') (hv : x ^^^ y = v)
    (hr : Steps tb e below (T.setTop (mkF m pc' L (.long v :: S))) target) : Steps tb e below (T.setTop (mkF m pc L (.long y :: .long x :: S))) target := by
  subst hv hp; exact XS.lxor h hx rfl hd rfl hr
theorem own_s_idiv (h : At T m c below) (hx : tb.exec = Jvm.exec) {x y v : Int32} (hd : decode c.code pc = .ok (.idiv, 1)) (hp : pc + 1 = pc') (hy : y ≠ 0) (hv : x / y = v)
    (hr : Steps tb e below (T.setTop (mkF m pc' L (.int v :: S))) target) : Steps tb e below (T.setTop (mkF m pc L (.int y :: .int x :: S))) target := by
  subst hv hp; exact XS.idiv h hx rfl hd rfl hy hr
theorem own_s_irem (h : At T m c below) (hx : tb.exec = Jvm.exec) {x y v : Int32} (hd : decode c.code pc = .ok (.irem, 1)) (hp : pc + 1 = pc') (hy : y ≠ 0) (hv : x % y = v)
    (hr : Steps tb e below (T.setTop (mkF m pc' L (.int v :: S))) target) : Steps tb e below (T.setTop (mkF m pc L (.int y :: .int x :: S))) target := by
  subst hv hp; rw [← irem_eq_mod] at hr; exact XS.irem h hx rfl hd rfl hy hr
theorem own_s_ldiv (h : At T m c below) (hx : tb.exec = Jvm.exec) {x y v : Int64} (hd : decode c.code pc = .ok (.ldiv, 1)) (hp : pc + 1 = pc') (hy : y ≠ 0) (hv : x / y = v)
    (hr : Steps tb e below (T.setTop (mkF m pc' L (.long v :: S))) target) : Steps tb e below (T.setTop (mkF m pc L (.long y :: .long x :: S))) target := by
  subst hv hp; exact XS.ldiv h hx rfl hd rfl hy hr
theorem own_s_lrem (h : At T m c below) (hx : tb.exec = Jvm.exec) {x y v : Int64} (hd : decode c.code pc = .ok (.lrem, 1)) (hp : pc + 1 = pc') (hy : y ≠ 0) (hv : x % y = v)
    (hr : Steps tb e below (T.setTop (mkF m pc' L (.long v :: S))) target) : Steps tb e below (T.setTop (mkF m pc L (.long y :: .long x :: S))) target := by
  subst hv hp; rw [← lrem_mod] at hr; exact XS.lrem h hx rfl hd rfl hy hr
theorem own_s_ishl (h : At T m c below) (hx : tb.exec = Jvm.exec) {x y v : Int32} (hd : decode c.code pc = .ok (.ishl, 1)) (hp : pc + 1 = pc') (hv : x <<< (y &&& 31) = v)
    (hr : Steps tb e below (T.setTop (mkF m pc' L (.int v :: S))) target) : Steps tb e below (T.setTop (mkF m pc L (.int y :: .int x :: S))) target := by
  subst hv hp; exact XS.ishl h hx rfl hd rfl hr
theorem own_s_ishr (h : At T m c below) (hx : tb.exec = Jvm.exec) {x y v : Int32} (hd : decode c.code pc = .ok (.ishr, 1)) (hp : pc + 1 = pc') (hv : x >>> (y &&& 31) = v)
    (hr : Steps tb e below (T.setTop (mkF m pc' L (.int v :: S))) target) : Steps tb e below (T.setTop (mkF m pc L (.int y :: .int x :: S))) target := by
  subst hv hp; exact XS.ishr h hx rfl hd rfl hr
theorem own_s_iushr (h : At T m c below) (hx : tb.exec = Jvm.exec) {x y v : Int32} (hd : decode c.code pc = .ok (.iushr, 1)) (hp : pc + 1 = pc') (hv : (x.toUInt32 >>> (y &&& 31).toUInt32).toInt32 = v)
    (hr : Steps tb e below (T.setTop (mkF m pc' L (.int v :: S))) target) : Steps tb e below (T.setTop (mkF m pc L (.int y :: .int x :: S))) target := by
  subst hv hp; exact XS.iushr h hx rfl hd rfl hr
theorem own_s_lshl (h : At T m c below) (hx : tb.exec = Jvm.exec) {x v : Int64} {y : Int32} (hd : decode c.code pc = .ok (.lshl, 1)) (hp : pc + 1 = pc') (hv : x <<< (y &&& 63).toInt64 = v)
    (hr : Steps tb e below (T.setTop (mkF m pc' L (.long v :: S))) target) : Steps tb e below (T.setTop (mkF m pc L (.int y :: .long x :: S))) target := by
  subst hv hp; exact XS.lshl h hx rfl hd rfl hr
theorem own_s_lshr (h : At T m c below) (hx : tb.exec = Jvm.exec) {x v : Int64} {y : Int32} (hd : decode c.code pc = .ok (.lshr, 1)) (hp : pc + 1 = pc') (hv : x >>> (y &&& 63).toInt64 = v)
    (hr : Steps tb e below (T.setTop (mkF m pc' L (.long v :: S))) target) : Steps tb e below (T.setTop (mkF m pc L (.int y :: .long x :: S))) target := by
  subst hv hp; exact XS.lshr h hx rfl hd rfl hr
theorem own_s_lushr (h : At T m c below) (hx : tb.exec = Jvm.exec) {x v : Int64} {y : Int32} (hd : decode c.code pc = .ok (.lushr, 1)) (hp : pc + 1 = pc') (hv : (x.toUInt64 >>> (y &&& 63).toInt64.toUInt64).toInt64 = v)
    (hr : Steps tb e below (T.setTop (mkF m pc' L (.long v :: S))) target) : Steps tb e below (T.setTop (mkF m pc L (.int y :: .long x :: S))) target := by
  subst hv hp; exact XS.lushr h hx rfl hd rfl hr
theorem own_s_i2l (h : At T m c below) (hx : tb.exec = Jvm.exec) {x : Int32} {v : Int64} (hd : decode c.code pc = .ok (.i2l, 1)) (hp : pc + 1 = pc') (hv : x.toInt64 = v)
    (hr : Steps tb e below (T.setTop (mkF m pc' L (.long v :: S))) target) : Steps tb e below (T.setTop (mkF m pc L (.int x :: S))) target := by
  subst hv hp; exact XS.i2l h hx rfl hd rfl hr
theorem own_s_l2i (h : At T m c below) (hx : tb.exec = Jvm.exec) {x : Int64} {v : Int32} (hd : decode c.code pc = .ok (.l2i, 1)) (hp : pc + 1 = pc') (hv : x.toInt32 = v)
    (hr : Steps tb e below (T.setTop (mkF m pc' L (.int v :: S))) target) : Steps tb e below (T.setTop (mkF m pc L (.long x :: S))) target := by
  subst hv hp; exact XS.l2i h hx rfl hd rfl hr
theorem own_s_i2b (h : At T m c below) (hx : tb.exec = Jvm.exec) {x : Int32} {v : Int32} (hd : decode c.code pc = .ok (.i2b, 1)) (hp : pc + 1 = pc') (hv : x.toInt8.toInt32 = v)
    (hr : Steps tb e below (T.setTop (mkF m pc' L (.int v :: S))) target) : Steps tb e below (T.setTop (mkF m pc L (.int x :: S))) target := by
  subst hv hp; exact XS.i2b h hx rfl hd rfl hr
theorem own_s_i2s (h : At T m c below) (hx : tb.exec = Jvm.exec) {x : Int32} {v : Int32} (hd : decode c.code pc = .ok (.i2s, 1)) (hp : pc + 1 = pc') (hv : x.toInt16.toInt32 = v)
    (hr : Steps tb e below (T.setTop (mkF m pc' L (.int v :: S))) target) : Steps tb e below (T.setTop (mkF m pc L (.int x :: S))) target := by
  subst hv hp; exact XS.i2s h hx rfl hd rfl hr
theorem own_s_ineg (h : At T m c below) (hx : tb.exec = Jvm.exec) {x : Int32} {v : Int32} (hd : decode c.code pc = .ok (.ineg, 1)) (hp : pc + 1 = pc') (hv : -x = v)
    (hr : Steps tb e below (T.setTop (mkF m pc' L (.int v :: S))) target) : Steps tb e below (T.setTop (mkF m pc L (.int x :: S))) target := by
  subst hv hp; exact XS.ineg h hx rfl hd rfl hr
theorem own_s_lneg (h : At T m c below) (hx : tb.exec = Jvm.exec) {x : Int64} {v : Int64} (hd : decode c.code pc = .ok (.lneg, 1)) (hp : pc + 1 = pc') (hv : -x = v)
    (hr : Steps tb e below (T.setTop (mkF m pc' L (.long v :: S))) target) : Steps tb e below (T.setTop (mkF m pc L (.long x :: S))) target := by
  subst hv hp; exact XS.lneg h hx rfl hd rfl hr
theorem own_s_i2d (h : At T m c below) (hx : tb.exec = Jvm.exec) {x : Int32} {v : UInt64} (hd : decode c.code pc = .ok (.i2d, 1)) (hp : pc + 1 = pc') (hv : FP.i2d x = v)
    (hr : Steps tb e below (T.setTop (mkF m pc' L (.double v :: S))) target) : Steps tb e below (T.setTop (mkF m pc L (.int x :: S))) target := by
  subst hv hp; exact XS.i2dS h hx rfl hd rfl rfl hr
theorem own_s_l2d (h : At T m c below) (hx : tb.exec = Jvm.exec) {x : Int64} {v : UInt64} (hd : decode c.code pc = .ok (.l2d, 1)) (hp : pc + 1 = pc') (hv : FP.l2d x = v)
    (hr : Steps tb e below (T.setTop (mkF m pc' L (.double v :: S))) target) : Steps tb e below (T.setTop (mkF m pc L (.long x :: S))) target := by
  subst hv hp; exact XS.l2dS h hx rfl hd rfl rfl hr
theorem own_s_dneg (h : At T m c below) (hx : tb.exec = Jvm.exec) {x : UInt64} {v : UInt64} (hd : decode c.code pc = .ok (.dneg, 1)) (hp : pc + 1 = pc') (hv : FP.dneg x = v)
    (hr : Steps tb e below (T.setTop (mkF m pc' L (.double v :: S))) target) : Steps tb e below (T.setTop (mkF m pc L (.double x :: S))) target := by
  subst hv hp; exact XS.dnegS h hx rfl hd rfl rfl hr
theorem own_s_dadd (h : At T m c below) (hx : tb.exec = Jvm.exec) {x y v : UInt64} (hd : decode c.code pc = .ok (.dadd, 1)) (hp : pc + 1 = pc') (hn : Jvm.Free.Fl.NoNaN64 (FP.dadd x y)) (hv : FP.dadd x y = v)
    (hr : Steps tb e below (T.setTop (mkF m pc' L (.double v :: S))) target) : Steps tb e below (T.setTop (mkF m pc L (.double y :: .double x :: S))) target := by
  subst hv hp; exact XS.daddS h hx rfl hd rfl hn rfl hr
theorem own_s_dsub (h : At T m c below) (hx : tb.exec = Jvm.exec) {x y v : UInt64} (hd : decode c.code pc = .ok (.dsub, 1)) (hp : pc + 1 = pc') (hn : Jvm.Free.Fl.NoNaN64 (FP.dsub x y)) (hv : FP.dsub x y = v)
    (hr : Steps tb e below (T.setTop (mkF m pc' L (.double v :: S))) target) : Steps tb e below (T.setTop (mkF m pc L (.double y :: .double x :: S))) target := by
  subst hv hp; exact XS.dsubS h hx rfl hd rfl hn rfl hr
theorem own_s_dmul (h : At T m c below) (hx : tb.exec = Jvm.exec) {x y v : UInt64} (hd : decode c.code pc = .ok (.dmul, 1)) (hp : pc + 1 = pc') (hn : Jvm.Free.Fl.NoNaN64 (FP.dmul x y)) (hv : FP.dmul x y = v)
    (hr : Steps tb e below (T.setTop (mkF m pc' L (.double v :: S))) target) : Steps tb e below (T.setTop (mkF m pc L (.double y :: .double x :: S))) target := by
  subst hv hp; exact XS.dmulS h hx rfl hd rfl hn rfl hr
theorem own_s_ddiv (h : At T m c below) (hx : tb.exec = Jvm.exec) {x y v : UInt64} (hd : decode c.code pc = .ok (.ddiv, 1)) (hp : pc + 1 = pc') (hn : Jvm.Free.Fl.NoNaN64 (FP.ddiv x y)) (hv : FP.ddiv x y = v)
    (hr : Steps tb e below (T.setTop (mkF m pc' L (.double v :: S))) target) : Steps tb e below (T.setTop (mkF m pc L (.double y :: .double x :: S))) target := by
  subst hv hp; exact XS.ddivS h hx rfl hd rfl hn rfl hr
theorem own_s_dcmp (h : At T m c below) (hx : tb.exec = Jvm.exec) {o : CmpOp} {x y : UInt64} {v : Int32} (hd : decode c.code pc = .ok (.dcmp o, 1)) (hp : pc + 1 = pc') (hv : Op.cmpValue (FP.dcmp x y) o = v)
    (hr : Steps tb e below (T.setTop (mkF m pc' L (.int v :: S))) target) : Steps tb e below (T.setTop (mkF m pc L (.double y :: .double x :: S))) target := by
  subst hv hp; exact XS.dcmpS h hx rfl hd rfl rfl hr
theorem own_s_lcmp (h : At T m c below) (hx : tb.exec = Jvm.exec) {x y : Int64} {v : Int32} (hd : decode c.code pc = .ok (.lcmp, 1)) (hp : pc + 1 = pc') (hv : lcmpW x y = v)
    (hr : Steps tb e below (T.setTop (mkF m pc' L (.int v :: S))) target) : Steps tb e below (T.setTop (mkF m pc L (.long y :: .long x :: S))) target := by
  subst hv hp; exact XS.lcmp h hx rfl hd rfl hr
theorem own_s_iconst (h : At T m c below) (hx : tb.exec = Jvm.exec) {i : Int} {v : Int32} (hd : decode c.code pc = .ok (.iconst i, 1)) (hp : pc + 1 = pc') (hv : Int32.ofInt i = v)
    (hr : Steps tb e below (T.setTop (mkF m pc' L (.int v :: S))) target) : Steps tb e below (T.setTop (mkF m pc L S)) target := by
  subst hv hp; exact XS.iconst h hx rfl hd hr
theorem own_s_bipush (h : At T m c below) (hx : tb.exec = Jvm.exec) {i : Int} {v : Int32} (hd : decode c.code pc = .ok (.bipush i, 2)) (hp : pc + 2 = pc') (hv : (Int8.ofInt i).toInt32 = v)
    (hr : Steps tb e below (T.setTop (mkF m pc' L (.int v :: S))) target) : Steps tb e below (T.setTop (mkF m pc L S)) target := by
  subst hv hp; exact XS.bipush h hx rfl hd hr
theorem own_s_sipush (h : At T m c below) (hx : tb.exec = Jvm.exec) {i : Int} {v : Int32} (hd : decode c.code pc = .ok (.sipush i, 3)) (hp : pc + 3 = pc') (hv : (Int16.ofInt i).toInt32 = v)
    (hr : Steps tb e below (T.setTop (mkF m pc' L (.int v :: S))) target) : Steps tb e below (T.setTop (mkF m pc L S)) target := by
  subst hv hp; exact XS.sipush h hx rfl hd hr
theorem own_s_lconst (h : At T m c below) (hx : tb.exec = Jvm.exec) {k : Fin 2} {v : Int64} (hd : decode c.code pc = .ok (.lconst k, 1)) (hp : pc + 1 = pc') (hv : Int64.ofNat k = v)
    (hr : Steps tb e below (T.setTop (mkF m pc' L (.long v :: S))) target) : Steps tb e below (T.setTop (mkF m pc L S)) target := by
  subst hv hp; exact XS.lconst h hx rfl hd hr
theorem own_s_dconst0 (h : At T m c below) (hx : tb.exec = Jvm.exec)  (hd : decode c.code pc = .ok (.dconst 0, 1)) (hp : pc + 1 = pc') 
    (hr : Steps tb e below (T.setTop (mkF m pc' L (.double 0 :: S))) target) : Steps tb e below (T.setTop (mkF m pc L S)) target := by
  subst hp; exact XS.dconst0 h hx rfl hd rfl hr
theorem own_s_dconst1 (h : At T m c below) (hx : tb.exec = Jvm.exec)  (hd : decode c.code pc = .ok (.dconst 1, 1)) (hp : pc + 1 = pc') 
    (hr : Steps tb e below (T.setTop (mkF m pc' L (.double 4607182418800017408 :: S))) target) : Steps tb e below (T.setTop (mkF m pc L S)) target := by
  subst hp; exact XS.dconst1 h hx rfl hd rfl hr
theorem own_s_aconst_null (h : At T m c below) (hx : tb.exec = Jvm.exec)  (hd : decode c.code pc = .ok (.aconst_null, 1)) (hp : pc + 1 = pc') 
    (hr : Steps tb e below (T.setTop (mkF m pc' L (.null :: S))) target) : Steps tb e below (T.setTop (mkF m pc L S)) target := by
  subst hp; exact XS.aconstNull h hx rfl hd hr
theorem own_s_dup (h : At T m c below) (hx : tb.exec = Jvm.exec) {x : Value} (hd : decode c.code pc = .ok (.dup, 1)) (hp : pc + 1 = pc') (hc : x.category = 1)
    (hr : Steps tb e below (T.setTop (mkF m pc' L (x :: x :: S))) target) : Steps tb e below (T.setTop (mkF m pc L (x :: S))) target := by
  subst hp; exact XS.dup h hx rfl hd rfl hc hr
theorem own_s_dupX1 (h : At T m c below) (hx : tb.exec = Jvm.exec) {x y : Value} (hd : decode c.code pc = .ok (.dup_x1, 1)) (hp : pc + 1 = pc') (hc : x.category = 1) (hc' : y.category = 1)
    (hr : Steps tb e below (T.setTop (mkF m pc' L (x :: y :: x :: S))) target) : Steps tb e below (T.setTop (mkF m pc L (x :: y :: S))) target := by
  subst hp; exact XS.dupX1 h hx rfl hd rfl hc hc' hr
theorem own_s_pop (h : At T m c below) (hx : tb.exec = Jvm.exec) {x : Value} (hd : decode c.code pc = .ok (.pop, 1)) (hp : pc + 1 = pc') (hc : x.category = 1)
    (hr : Steps tb e below (T.setTop (mkF m pc' L S)) target) : Steps tb e below (T.setTop (mkF m pc L (x :: S))) target := by
  subst hp; exact XS.pop h hx rfl hd rfl hc hr
theorem own_s_iloadN (h : At T m c below) (hx : tb.exec = Jvm.exec) {k : Fin 4} {v : Int32} (hd : decode c.code pc = .ok (.iload_n k, 1)) (hp : pc + 1 = pc') (hl : L[k.val]? = some (.val (.int v)))
    (hr : Steps tb e below (T.setTop (mkF m pc' L (.int v :: S))) target) : Steps tb e below (T.setTop (mkF m pc L S)) target := by
  subst hp; exact XS.iloadN h hx rfl hd hl hr
theorem own_s_iload (h : At T m c below) (hx : tb.exec = Jvm.exec) {k : Nat} {v : Int32} (hd : decode c.code pc = .ok (.iload k, 2)) (hp : pc + 2 = pc') (hl : L[k]? = some (.val (.int v)))
    (hr : Steps tb e below (T.setTop (mkF m pc' L (.int v :: S))) target) : Steps tb e below (T.setTop (mkF m pc L S)) target := by
  subst hp; exact XS.iload h hx rfl hd hl hr
theorem own_s_istoreN (h : At T m c below) (hx : tb.exec = Jvm.exec) {k : Fin 4} {v : Int32} {L' : Array Slot} (hd : decode c.code pc = .ok (.istore_n k, 1)) (hp : pc + 1 = pc') (hl : storeLocals L k.val (.int v) = some L')
    (hr : Steps tb e below (T.setTop (mkF m pc' L' S)) target) : Steps tb e below (T.setTop (mkF m pc L (.int v :: S))) target := by
  subst hp; exact XS.istoreN h hx rfl hd rfl hl hr
theorem own_s_istore (h : At T m c below) (hx : tb.exec = Jvm.exec) {k : Nat} {v : Int32} {L' : Array Slot} (hd : decode c.code pc = .ok (.istore k, 2)) (hp : pc + 2 = pc') (hl : storeLocals L k (.int v) = some L')
    (hr : Steps tb e below (T.setTop (mkF m pc' L' S)) target) : Steps tb e below (T.setTop (mkF m pc L (.int v :: S))) target := by
  subst hp; exact XS.istore h hx rfl hd rfl hl hr
theorem own_s_lloadN (h : At T m c below) (hx : tb.exec = Jvm.exec) {k : Fin 4} {v : Int64} (hd : decode c.code pc = .ok (.lload_n k, 1)) (hp : pc + 1 = pc') (hl : L[k.val]? = some (.val (.long v)))
    (hr : Steps tb e below (T.setTop (mkF m pc' L (.long v :: S))) target) : Steps tb e below (T.setTop (mkF m pc L S)) target := by
  subst hp; exact XS.lloadN h hx rfl hd hl hr
theorem own_s_lload (h : At T m c below) (hx : tb.exec = Jvm.exec) {k : Nat} {v : Int64} (hd : decode c.code pc = .ok (.lload k, 2)) (hp : pc + 2 = pc') (hl : L[k]? = some (.val (.long v)))
    (hr : Steps tb e below (T.setTop (mkF m pc' L (.long v :: S))) target) : Steps tb e below (T.setTop (mkF m pc L S)) target := by
  subst hp; exact XS.lload h hx rfl hd hl hr
theorem own_s_lstoreN (h : At T m c below) (hx : tb.exec = Jvm.exec) {k : Fin 4} {v : Int64} {L' : Array Slot} (hd : decode c.code pc = .ok (.lstore_n k, 1)) (hp : pc + 1 = pc') (hl : storeLocals L k.val (.long v) = some L')
    (hr : Steps tb e below (T.setTop (mkF m pc' L' S)) target) : Steps tb e below (T.setTop (mkF m pc L (.long v :: S))) target := by
  subst hp; exact XS.lstoreN h hx rfl hd rfl hl hr
theorem own_s_lstore (h : At T m c below) (hx : tb.exec = Jvm.exec) {k : Nat} {v : Int64} {L' : Array Slot} (hd : decode c.code pc = .ok (.lstore k, 2)) (hp : pc + 2 = pc') (hl : storeLocals L k (.long v) = some L')
    (hr : Steps tb e below (T.setTop (mkF m pc' L' S)) target) : Steps tb e below (T.setTop (mkF m pc L (.long v :: S))) target := by
  subst hp; exact XS.lstore h hx rfl hd rfl hl hr
theorem own_s_dloadN (h : At T m c below) (hx : tb.exec = Jvm.exec) {k : Fin 4} {v : UInt64} (hd : decode c.code pc = .ok (.dload_n k, 1)) (hp : pc + 1 = pc') (hl : L[k.val]? = some (.val (.double v)))
    (hr : Steps tb e below (T.setTop (mkF m pc' L (.double v :: S))) target) : Steps tb e below (T.setTop (mkF m pc L S)) target := by
  subst hp; exact XS.dloadN h hx rfl hd hl hr
theorem own_s_dload (h : At T m c below) (hx : tb.exec = Jvm.exec) {k : Nat} {v : UInt64} (hd : decode c.code pc = .ok (.dload k, 2)) (hp : pc + 2 = pc') (hl : L[k]? = some (.val (.double v)))
    (hr : Steps tb e below (T.setTop (mkF m pc' L (.double v :: S))) target) : Steps tb e below (T.setTop (mkF m pc L S)) target := by
  subst hp; exact XS.dload h hx rfl hd hl hr
theorem own_s_dstoreN (h : At T m c below) (hx : tb.exec = Jvm.exec) {k : Fin 4} {v : UInt64} {L' : Array Slot} (hd : decode c.code pc = .ok (.dstore_n k, 1)) (hp : pc + 1 = pc') (hl : storeLocals L k.val (.double v) = some L')
    (hr : Steps tb e below (T.setTop (mkF m pc' L' S)) target) : Steps tb e below (T.setTop (mkF m pc L (.double v :: S))) target := by
  subst hp; exact XS.dstoreN h hx rfl hd rfl hl hr
theorem own_s_dstore (h : At T m c below) (hx : tb.exec = Jvm.exec) {k : Nat} {v : UInt64} {L' : Array Slot} (hd : decode c.code pc = .ok (.dstore k, 2)) (hp : pc + 2 = pc') (hl : storeLocals L k (.double v) = some L')
    (hr : Steps tb e below (T.setTop (mkF m pc' L' S)) target) : Steps tb e below (T.setTop (mkF m pc L (.double v :: S))) target := by
  subst hp; exact XS.dstore h hx rfl hd rfl hl hr
theorem own_s_aloadN (h : At T m c below) (hx : tb.exec = Jvm.exec) {k : Fin 4} {v : Value} (hd : decode c.code pc = .ok (.aload_n k, 1)) (hp : pc + 1 = pc') (hl : L[k.val]? = some (.val v)) (hr0 : v.isRef = true)
    (hr : Steps tb e below (T.setTop (mkF m pc' L (v :: S))) target) : Steps tb e below (T.setTop (mkF m pc L S)) target := by
  subst hp; exact XS.aloadN h hx rfl hd hl hr0 hr
theorem own_s_aload (h : At T m c below) (hx : tb.exec = Jvm.exec) {k : Nat} {v : Value} (hd : decode c.code pc = .ok (.aload k, 2)) (hp : pc + 2 = pc') (hl : L[k]? = some (.val v)) (hr0 : v.isRef = true)
    (hr : Steps tb e below (T.setTop (mkF m pc' L (v :: S))) target) : Steps tb e below (T.setTop (mkF m pc L S)) target := by
  subst hp; exact XS.aload h hx rfl hd hl hr0 hr
theorem own_s_astoreN (h : At T m c below) (hx : tb.exec = Jvm.exec) {k : Fin 4} {v : Value} {L' : Array Slot} (hd : decode c.code pc = .ok (.astore_n k, 1)) (hp : pc + 1 = pc') (hr0 : v.isRef = true) (hl : storeLocals L k.val v = some L')
    (hr : Steps tb e below (T.setTop (mkF m pc' L' S)) target) : Steps tb e below (T.setTop (mkF m pc L (v :: S))) target := by
  subst hp; exact XS.astoreN h hx rfl hd rfl hr0 hl hr
theorem own_s_astore (h : At T m c below) (hx : tb.exec = Jvm.exec) {k : Nat} {v : Value} {L' : Array Slot} (hd : decode c.code pc = .ok (.astore k, 2)) (hp : pc + 2 = pc') (hr0 : v.isRef = true) (hl : storeLocals L k v = some L')
    (hr : Steps tb e below (T.setTop (mkF m pc' L' S)) target) : Steps tb e below (T.setTop (mkF m pc L (v :: S))) target := by
  subst hp; exact XS.astore h hx rfl hd rfl hr0 hl hr
theorem own_s_iinc (h : At T m c below) (hx : tb.exec = Jvm.exec) {k : Nat} {cst : Int} {x v : Int32} {L' : Array Slot} (hd : decode c.code pc = .ok (.iinc k cst, 3)) (hp : pc + 3 = pc') (hl : L[k]? = some (.val (.int x))) (hv : x + Int32.ofInt cst = v) (hl' : storeLocals L k (.int v) = some L')
    (hr : Steps tb e below (T.setTop (mkF m pc' L' S)) target) : Steps tb e below (T.setTop (mkF m pc L S)) target := by
  subst hv hp; exact XS.iinc h hx rfl hd hl hl' hr
theorem own_s_goto (h : At T m c below) (hx : tb.exec = Jvm.exec)  {o : Int} (hd : decode c.code pc = .ok (.goto o, 3)) (ho : 0 ≤ (pc : Int) + o) (hp : ((pc : Int) + o).toNat = pc') 
    (hr : Steps tb e below (T.setTop (mkF m pc' L S)) target) : Steps tb e below (T.setTop (mkF m pc L S)) target := by
  exact XS.goto h hx rfl rfl hd ho hp hr
theorem own_s_ifYes (h : At T m c below) (hx : tb.exec = Jvm.exec) {cd : ClassFile.Cond} {x : Int32} {o : Int} (hd : decode c.code pc = .ok (.ifCond cd o, 3)) (ho : 0 ≤ (pc : Int) + o) (hp : ((pc : Int) + o).toNat = pc') (hc : ifCond.holds cd x = true)
    (hr : Steps tb e below (T.setTop (mkF m pc' L S)) target) : Steps tb e below (T.setTop (mkF m pc L (.int x :: S))) target := by
  exact XS.ifYes h hx rfl rfl hd rfl hc ho hp hr
theorem own_s_icmpYes (h : At T m c below) (hx : tb.exec = Jvm.exec) {cd : ClassFile.Cond} {x y : Int32} {o : Int} (hd : decode c.code pc = .ok (.if_icmp cd o, 3)) (ho : 0 ≤ (pc : Int) + o) (hp : ((pc : Int) + o).toNat = pc') (hc : if_icmp.holds cd x y = true)
    (hr : Steps tb e below (T.setTop (mkF m pc' L S)) target) : Steps tb e below (T.setTop (mkF m pc L (.int y :: .int x :: S))) target := by
  exact XS.icmpYes h hx rfl rfl hd rfl hc ho hp hr
theorem own_s_ifNo (h : At T m c below) (hx : tb.exec = Jvm.exec) {cd : ClassFile.Cond} {o : Int} {x : Int32} (hd : decode c.code pc = .ok (.ifCond cd o, 3)) (hp : pc + 3 = pc') (hc : ifCond.holds cd x = false)
    (hr : Steps tb e below (T.setTop (mkF m pc' L S)) target) : Steps tb e below (T.setTop (mkF m pc L (.int x :: S))) target := by
  subst hp; exact XS.ifNo h hx rfl hd rfl hc hr
theorem own_s_icmpNo (h : At T m c below) (hx : tb.exec = Jvm.exec) {cd : ClassFile.Cond} {o : Int} {x y : Int32} (hd : decode c.code pc = .ok (.if_icmp cd o, 3)) (hp : pc + 3 = pc') (hc : if_icmp.holds cd x y = false)
    (hr : Steps tb e below (T.setTop (mkF m pc' L S)) target) : Steps tb e below (T.setTop (mkF m pc L (.int y :: .int x :: S))) target := by
  subst hp; exact XS.icmpNo h hx rfl hd rfl hc hr
theorem own_s_ifnullYes (h : At T m c below) (hx : tb.exec = Jvm.exec)  {o : Int} (hd : decode c.code pc = .ok (.ifnull o, 3)) (ho : 0 ≤ (pc : Int) + o) (hp : ((pc : Int) + o).toNat = pc') 
    (hr : Steps tb e below (T.setTop (mkF m pc' L S)) target) : Steps tb e below (T.setTop (mkF m pc L (.null :: S))) target := by
  exact XS.ifnullYes h hx rfl rfl hd rfl ho hp hr
theorem own_s_ifnullNo (h : At T m c below) (hx : tb.exec = Jvm.exec) {o : Int} {b : Addr} (hd : decode c.code pc = .ok (.ifnull o, 3)) (hp : pc + 3 = pc') 
    (hr : Steps tb e below (T.setTop (mkF m pc' L S)) target) : Steps tb e below (T.setTop (mkF m pc L (.ref b :: S))) target := by
  subst hp; exact XS.ifnullNo h hx rfl hd rfl hr
theorem own_s_ifnonnullYes (h : At T m c below) (hx : tb.exec = Jvm.exec) {b : Addr} {o : Int} (hd : decode c.code pc = .ok (.ifnonnull o, 3)) (ho : 0 ≤ (pc : Int) + o) (hp : ((pc : Int) + o).toNat = pc') 
    (hr : Steps tb e below (T.setTop (mkF m pc' L S)) target) : Steps tb e below (T.setTop (mkF m pc L (.ref b :: S))) target := by
  exact XS.ifnonnullYes h hx rfl rfl hd rfl ho hp hr
theorem own_s_ifnonnullNo (h : At T m c below) (hx : tb.exec = Jvm.exec) {o : Int} (hd : decode c.code pc = .ok (.ifnonnull o, 3)) (hp : pc + 3 = pc') 
    (hr : Steps tb e below (T.setTop (mkF m pc' L S)) target) : Steps tb e below (T.setTop (mkF m pc L (.null :: S))) target := by
  subst hp; exact XS.ifnonnullNo h hx rfl hd rfl hr
end OwnStep
section OwnHeap
open Jvm Jvm.ClassFile Sem Op Lib Jvm.Free Jvm.Stand Jvm.LawKit Jvm.RoadKit
variable {p : Program} {l : Launch} {e : Env} {R : Room} {s : State} {m : MethodId} {args : Array Value} {below : List Frame} {meth : Method} {c : Code} {T : State} {locs : List Loc} {cells slots : Nat} {Z : State} {a0 : Array Value} {h : Heap} {pc pc' : Nat} {L : Array Slot} {S : List Value} {a : Addr} {k : ClassId} {z : Int32} {vs : List Value} {dv : Value}
theorem own_newD (X : Stand p l e R s m args below meth c T locs cells slots) (hx : p.tables.exec = Jvm.exec) (hZ : Z.Warmed39 s.vm) (w : (Jvm.Cond.arrayClass .double).before a0 Z = true) (eT : T.heap = h) (n : Nat) (hz : z.toNatClampNeg = n) (hz0 : ¬ z < 0) (hb : n * 8 ≤ 536870912) (hc : cells + 1 ≤ R.cells) (hl : slots + n ≤ R.slots) (hd : decode c.code pc = .ok (.newarray .double, 2)) (hp : pc + 2 = pc') :
    ∃ T' h' k b, Stand p l e R s m args below meth c T' locs (cells + 1) (slots + n) ∧ T'.heap = h' ∧ Ext h h' ∧ b = h.size ∧ Arv Z h' b k .double z (List.replicate n (.double 0)) (.double 0) ∧ ∀ target, Steps p.tables e below (T'.setTop (mkF m pc' L (.ref b :: S))) target → Steps p.tables e below (T.setTop (mkF m pc L (.int z :: S))) target := by
  subst hp
  obtain ⟨T', h', k, X', e', E, A, st⟩ := newP X hx hZ (aty := .double) w eT (g := mkF m pc L (.int z :: S)) rfl hd rfl hz0 (cap := n) (Nat.le_of_eq hz) hb hc hl
  exact ⟨T', h', k, h.size, X', e', E, rfl, (Arv.new A hz0).pad (pad_rep [] (.double 0) n), st⟩
theorem own_newJ (X : Stand p l e R s m args below meth c T locs cells slots) (hx : p.tables.exec = Jvm.exec) (hZ : Z.Warmed39 s.vm) (w : (Jvm.Cond.arrayClass .long).before a0 Z = true) (eT : T.heap = h) (n : Nat) (hz : z.toNatClampNeg = n) (hz0 : ¬ z < 0) (hb : n * 8 ≤ 536870912) (hc : cells + 1 ≤ R.cells) (hl : slots + n ≤ R.slots) (hd : decode c.code pc = .ok (.newarray .long, 2)) (hp : pc + 2 = pc') :
    ∃ T' h' k b, Stand p l e R s m args below meth c T' locs (cells + 1) (slots + n) ∧ T'.heap = h' ∧ Ext h h' ∧ b = h.size ∧ Arv Z h' b k .long z (List.replicate n (.long 0)) (.long 0) ∧ ∀ target, Steps p.tables e below (T'.setTop (mkF m pc' L (.ref b :: S))) target → Steps p.tables e below (T.setTop (mkF m pc L (.int z :: S))) target := by
  subst hp
  obtain ⟨T', h', k, X', e', E, A, st⟩ := newP X hx hZ (aty := .long) w eT (g := mkF m pc L (.int z :: S)) rfl hd rfl hz0 (cap := n) (Nat.le_of_eq hz) hb hc hl
  exact ⟨T', h', k, h.size, X', e', E, rfl, (Arv.new A hz0).pad (pad_rep [] (.long 0) n), st⟩
theorem own_stD (X : Stand p l e R s m args below meth c T locs cells slots) (hx : p.tables.exec = Jvm.exec) (hZ : Z.Warmed39 s.vm) (eT : T.heap = h) (V : Arv Z h a k .double z vs dv) {j : Int32} {x : UInt64} (hj : ¬ j < 0 ∧ j < z) (i : Nat) (hi : j.toNatClampNeg = i) (hl : i < vs.length) (hd : decode c.code pc = .ok (.dastore, 1)) (hp : pc + 1 = pc') :
    ∃ T' h', Stand p l e R s m args below meth c T' (locs ++ [⟨a, j.toNatClampNeg⟩]) cells slots ∧ T'.heap = h' ∧ Wr h h' a j.toNatClampNeg (.double x) ∧ Arv Z h' a k .double z (vs.set i (.double x)) dv ∧ ∀ target, Steps p.tables e below (T'.setTop (mkF m pc' L S)) target → Steps p.tables e below (T.setTop (mkF m pc L (.double x :: .int j :: .ref a :: S))) target := by
  subst hp
  obtain ⟨cl, A, q1, S1, q3, H, G⟩ := V
  obtain ⟨T', h', X', e', W, st⟩ := stD X hx hZ eT A (j := j) (x := x) (inb_of S1 hj) (g := mkF m pc L (.double x :: .int j :: .ref a :: S)) rfl rfl hd
  exact ⟨T', h', X', e', W, Arv.set A q1 S1 q3 H G rfl W i hi hl, st⟩
theorem own_ldD (X : Stand p l e R s m args below meth c T locs cells slots) (hx : p.tables.exec = Jvm.exec) (hZ : Z.Warmed39 s.vm) (eT : T.heap = h) (V : Arv Z h a k .double z vs dv) {j : Int32} {x : UInt64} (hj : ¬ j < 0 ∧ j < z) (hv : vs.getD j.toNatClampNeg dv = .double x) (hd : decode c.code pc = .ok (.daload, 1)) (hp : pc + 1 = pc') {target : State}
    (hr : Steps p.tables e below (T.setTop (mkF m pc' L (.double x :: S))) target) : Steps p.tables e below (T.setTop (mkF m pc L (.int j :: .ref a :: S))) target := by
  subst hp
  obtain ⟨cl, A, q1, S1, q3, H, G⟩ := V
  exact X.daload hx (j := j) (v := .double x) (by rw [eT]; exact A.1) (State.isArrayOf_alike hZ.alike A.2.1) A.2.2 (inb_of S1 hj) (H.at (inb_of S1 hj) hv) (g := mkF m pc L (.int j :: .ref a :: S)) rfl rfl hd target hr
theorem own_len {ty : FieldType} (X : Stand p l e R s m args below meth c T locs cells slots) (hx : p.tables.exec = Jvm.exec) (hZ : Z.Warmed39 s.vm) (eT : T.heap = h) (V : Arv Z h a k ty z vs dv) (hd : decode c.code pc = .ok (.arraylength, 1)) (hp : pc + 1 = pc') {target : State}
    (hr : Steps p.tables e below (T.setTop (mkF m pc' L (.int z :: S))) target) : Steps p.tables e below (T.setTop (mkF m pc L (.ref a :: S))) target := by
  subst hp
  obtain ⟨cl, A, q1, S1, q3, H, G⟩ := V
  refine X.arraylength hx (by rw [eT]; exact A.1) (State.isArrayOf_alike hZ.alike A.2.1) (g := mkF m pc L (.ref a :: S)) rfl rfl hd target ?_
  rw [len_of S1 q3]
  exact hr
theorem own_retI (X : Stand p l e R s m args below meth c T locs cells slots) (hx : p.tables.exec = Jvm.exec) {x : Int32} (hret : meth.sig.returnType = some .int) (hd : decode c.code pc = .ok (.ireturn, 1)) {fs : List Frame}
    (hl : ∀ (f : JFrame) (acts : List Action), f.method = m → f.locked = none → f.entered = [] → (doReturn e (T.setTop f) acts (some (.int x))).1 = T.setFrames fs) : Steps p.tables e below (T.setTop (mkF m pc L (.int x :: S))) (T.setFrames fs) := by
  have hm' : T.vm.method? m = some meth := X.method'
  have hn : narrow .int (.int x) = .int x := rfl
  show Steps p.tables e below (T.setTop { method := m, pc := pc, locals := L, stack := _ :: S, locked := none }) _
  jvm_step X.here [X.here.top, hx, hd, hm', hret, hn]
  first | (intro acts; rw [hl _ acts rfl rfl rfl]) | rw [hl _ _ rfl rfl rfl]
  exact Steps.refl _
theorem own_retD (X : Stand p l e R s m args below meth c T locs cells slots) (hx : p.tables.exec = Jvm.exec) {x : UInt64} (hret : meth.sig.returnType = some .double) (hd : decode c.code pc = .ok (.dreturn, 1)) {fs : List Frame}
    (hl : ∀ (f : JFrame) (acts : List Action), f.method = m → f.locked = none → f.entered = [] → (doReturn e (T.setTop f) acts (some (.double x))).1 = T.setFrames fs) : Steps p.tables e below (T.setTop (mkF m pc L (.double x :: S))) (T.setFrames fs) := by
  have hm' : T.vm.method? m = some meth := X.method'
  show Steps p.tables e below (T.setTop { method := m, pc := pc, locals := L, stack := _ :: S, locked := none }) _
  jvm_step X.here [X.here.top, hx, hd, hm', hret, narrow]
  first | (intro acts; rw [hl _ acts rfl rfl rfl]) | rw [hl _ _ rfl rfl rfl]
  exact Steps.refl _
theorem own_retJ (X : Stand p l e R s m args below meth c T locs cells slots) (hx : p.tables.exec = Jvm.exec) {x : Int64} (hret : meth.sig.returnType = some .long) (hd : decode c.code pc = .ok (.lreturn, 1)) {fs : List Frame}
    (hl : ∀ (f : JFrame) (acts : List Action), f.method = m → f.locked = none → f.entered = [] → (doReturn e (T.setTop f) acts (some (.long x))).1 = T.setFrames fs) : Steps p.tables e below (T.setTop (mkF m pc L (.long x :: S))) (T.setFrames fs) := by
  have hm' : T.vm.method? m = some meth := X.method'
  show Steps p.tables e below (T.setTop { method := m, pc := pc, locals := L, stack := _ :: S, locked := none }) _
  jvm_step X.here [X.here.top, hx, hd, hm', hret, narrow]
  first | (intro acts; rw [hl _ acts rfl rfl rfl]) | rw [hl _ _ rfl rfl rfl]
  exact Steps.refl _
theorem own_retR (X : Stand p l e R s m args below meth c T locs cells slots) (hx : p.tables.exec = Jvm.exec) {b : Addr} {t : FieldType} (hret : meth.sig.returnType = some t) (ht : t.isReference = true) (hd : decode c.code pc = .ok (.areturn, 1)) {fs : List Frame}
    (hl : ∀ (f : JFrame) (acts : List Action), f.method = m → f.locked = none → f.entered = [] → (doReturn e (T.setTop f) acts (some (.ref b))).1 = T.setFrames fs) : Steps p.tables e below (T.setTop (mkF m pc L (.ref b :: S))) (T.setFrames fs) := by
  have hm' : T.vm.method? m = some meth := X.method'
  show Steps p.tables e below (T.setTop { method := m, pc := pc, locals := L, stack := _ :: S, locked := none }) _
  jvm_step X.here [X.here.top, hx, hd, hm', hret, Value.isRef, ht]
  first | (intro acts; rw [hl _ acts rfl rfl rfl]) | rw [hl _ _ rfl rfl rfl]
  exact Steps.refl _
end OwnHeap
open Jvm Jvm.ClassFile Sem Op Lib Jvm.Free Jvm.Stand Jvm.LawKit Jvm.RoadKit Bundle Jvm.Pilot.@@N@@.Jvm.D
def own_Q0 (n0 : Nat) (v : Option Value) (h : Heap) (L : List Loc) : Prop := v = some (.int 1) ∧ Fr n0 L
def own_QP (r : Option Value) (h0 : Heap) (n0 : Nat) (v : Option Value) (h : Heap) (L : List Loc) : Prop := v = r ∧ Fr n0 L ∧ h = h0
theorem own_modN (x : Int32) : ∀ v, x &&& 2147483647 = v → v % 5 = 0 ∨ v % 5 = 1 ∨ v % 5 = 2 ∨ v % 5 = 3 ∨ v % 5 = 4 := by
  intro v hv
  have h1 := c_mask x 2147483647 31 (by decide) (by decide)
  rw [hv] at h1
  have h2 := (c_irem v 5 5 (by decide)).1 (by omega)
  have e : ∀ k : Int32, v % 5 = k ↔ (v % 5).toInt = k.toInt := fun k => Int32.toInt_inj.symm
  simp only [e, show (0 : Int32).toInt = 0 from rfl, show (1 : Int32).toInt = 1 from rfl, show (2 : Int32).toInt = 2 from rfl, show (3 : Int32).toInt = 3 from rfl, show (4 : Int32).toInt = 4 from rfl]
  omega
section OwnLn
open Jvm.FP.Core
theorem own_pow1 {x : UInt64} {n : Int} (e : Nat) (hx : own_Is x n 0) (hn : n = ((2 ^ e : Nat) : Int)) : own_Is x 1 e := by
  refine ⟨hx.1, by omega, ?_⟩
  rw [hx.2.2, hn, show ((e : Int) + 1074).toNat = e + (0 + 1074 : Int).toNat by omega, Nat.pow_add, Int.natCast_mul, Int.one_mul]
theorem own_shl1 : ∀ S : Fin 32, ((1 : Int64) <<< (Int32.ofNat S.val &&& 63).toInt64).toInt = ((2 ^ S.val : Nat) : Int) ∧ ((2 ^ S.val : Nat) : Int) ≤ 2147483648 ∧ (1 : Int) ≤ ((2 ^ S.val : Nat) : Int) := by decide
theorem own_shk : ∀ S : Fin 32, (Int32.ofNat S.val).toBitVec.toNat % 64 = S.val := by decide
theorem own_lshl (S : Fin 32) {x v : Int64} {n B P : Int} (hP : ((2 ^ S.val : Nat) : Int) = P) (hv : x <<< (Int32.ofNat S.val &&& 63).toInt64 = v) (hx : own_L x n B) (hb : -4611686018427387904 ≤ n * P ∧ n * P ≤ 4611686018427387904) : v.toInt = n * P := by
  have h := Jvm.RoadKit.c_lshl x (Int32.ofNat S.val) S.val (own_shk S)
  rw [show x <<< (Int32.ofNat S.val &&& 0x3f).toInt64 = v from hv, hP, hx.1] at h
  have := Jvm.RoadKit.rng64 v
  omega
theorem own_masked (x m : Int32) (k : Nat) (hk : k ≤ 31) (hm : m.toBitVec.toNat = 2 ^ k - 1) (N : Nat) (hN : 2 ^ k = N) : ∃ E : Fin N, x &&& m = Int32.ofNat E.val := by
  have h := Jvm.RoadKit.c_mask x m k hk hm
  have hp : 0 < 2 ^ k := Nat.two_pow_pos k
  have hle : 2 ^ k ≤ 2 ^ 31 := Nat.pow_le_pow_right (by decide) hk
  have h0 : 0 ≤ x.toInt % ((2 ^ k : Nat) : Int) := Int.emod_nonneg _ (by omega)
  have h1 : x.toInt % ((2 ^ k : Nat) : Int) < ((2 ^ k : Nat) : Int) := Int.emod_lt_of_pos _ (by omega)
  refine ⟨⟨(x.toInt % ((2 ^ k : Nat) : Int)).toNat, by omega⟩, ?_⟩
  apply Int32.toInt_inj.mp
  rw [h, Int32.toInt_ofNat_of_lt (by simp only; omega)]
  simp only; omega
end OwnLn
theorem own_d1_0 : decode prog_2_method_17_code 0 = .ok (.iload_n 2, 1) := by decide +kernel
theorem own_d1_1 : decode prog_2_method_17_code 1 = .ok (.ifCond .ne 7, 3) := by decide +kernel
theorem own_d1_4 : decode prog_2_method_17_code 4 = .ok (.dconst 1, 1) := by decide +kernel
theorem own_d1_5 : decode prog_2_method_17_code 5 = .ok (.dload_n 0, 1) := by decide +kernel
theorem own_d1_6 : decode prog_2_method_17_code 6 = .ok (.dsub, 1) := by decide +kernel
theorem own_d1_7 : decode prog_2_method_17_code 7 = .ok (.dreturn, 1) := by decide +kernel
theorem own_pn_com_example_tally_odds_tallyodds_Bm25 : plainName "com/example/tally_odds/tallyodds/Bm25" = true := by first | (simp [plainName, overriddenIn]; done) | decide +kernel
theorem own_ef_c0 (m : MethodId) (b : UInt64) (av : UInt64) : entryFrame m #[(.double b), (.int (0 : Int32)), (.double av)] 5 = mkF m 0 #[.val (.double b), .second, .val (.int (0 : Int32)), .val (.double av), .second] [] := by first | (simp [entryFrame, mkF, argsToLocals, Value.category]; done) | rfl
set_option maxRecDepth 65536 in
set_option maxHeartbeats 40000000 in
theorem own_rm_c0 (l : Launch) (Z : State) (a0 : Array Value) (hw : ∀ d ∈ tables_1, d.before a0 Z = true) (ws : List Jvm.Cond) (b : UInt64) (av : UInt64) {c0_v6 : UInt64} (h0 : Heap) (n0 : Nat) (Z0 : n0 ≤ h0.size)  (c0_hn6 : Jvm.Free.Fl.NoNaN64 (FP.dsub 4607182418800017408 b)) (c0_hv6 : FP.dsub 4607182418800017408 b = c0_v6) :
    MetFree l (⟨"com/example/tally_odds/tallyodds/Bm25", "lengthNorm", "(DID)D"⟩ : MethodName) (head1 (Jvm.Cond.code (⟨"com/example/tally_odds/tallyodds/Bm25", "lengthNorm", "(DID)D"⟩ : MethodName) prog_2_method_17_code 5 (some .double) :: ws) ({ frames := 0, cells := 0, slots := 0, locals := 0 } : Room)) (fun a U => a = #[(.double b), (.int (0 : Int32)), (.double av)] ∧ Z.Warmed39 U.vm ∧ U.heap = h0) (fun _ _ _ _ _ => True) (fun _ U o U' => ∃ v L, o = .returned v ∧ own_QP (some (.double c0_v6)) h0 n0 v U'.heap L ∧ FrameEnd U o U' L ({ frames := 0, cells := 0, slots := 0, locals := 0 } : Room).cells ({ frames := 0, cells := 0, slots := 0, locals := 0 } : Room).slots) := by
  refine MetFree.of_bodySF (plainFor_of_name own_pn_com_example_tally_odds_tallyodds_Bm25) hisR ?_
  intro p e s m args below meth c s₁ Bd hml0 hP hK
  obtain ⟨rfl, hZ, hh⟩ := hP
  have hx := Bd.exec
  have hby := Bd.bytes
  have hml : c.maxLocals = 5 := hml0
  have hown : s.vm.findClass "com/example/tally_odds/tallyodds/Bm25" = some m.cls := findClass_of_methodNamed Bd.named
  have hnm := (name_of_methodNamed Bd.named Bd.method).1
  have X0 : Stand p l e ({ frames := 0, cells := 0, slots := 0, locals := 0 } : Room) s m #[(.double b), (.int (0 : Int32)), (.double av)] below meth c s₁ [] 0 0 := Stand.of_body Bd
  have e0 : s₁.heap = h0 := by rw [← hh, Bd.state]; rfl
  have N0 := Fr.nil n0
  have pre0 : ∀ t, Steps p.tables e below (s₁.setTop (mkF m 0 #[.val (.double b), .second, .val (.int (0 : Int32)), .val (.double av), .second] [])) t → Steps p.tables e below (s₁.setTop (entryFrame m #[(.double b), (.int (0 : Int32)), (.double av)] 5)) t := fun t k => castTop (own_ef_c0 m b av) k
  obtain ⟨fs, hr, hrun, hended, hW, hsame⟩ := X0.leave (v := some (.double c0_v6)) (fun h => by rw [Bd.returns] at h; cases h)
  refine ⟨_, _, pre0 _ ?_, hrun, hended, _, _, rfl, ?_, ⟨_, rfl⟩, hW, hsame.mono (by decide) (by decide)⟩
  · refine own_s_iloadN X0.here hx (hb hby own_d1_0) (pc' := 1) rfl rfl ?_
    refine own_s_ifNo X0.here hx (hb hby own_d1_1) (pc' := 4) rfl (by decide) ?_
    refine own_s_dconst1 X0.here hx (hb hby own_d1_4) (pc' := 5) rfl  ?_
    refine own_s_dloadN X0.here hx (hb hby own_d1_5) (pc' := 6) rfl rfl ?_
    refine own_s_dsub X0.here hx (hb hby own_d1_6) (pc' := 7) rfl c0_hn6 (v := c0_v6) c0_hv6 ?_
    exact own_retD X0 hx Bd.returns (hb hby own_d1_7) hr
  · show own_QP (some (.double c0_v6)) h0 n0 _ s₁.heap _
    rw [e0]
    exact ⟨rfl, N0, rfl⟩
theorem own_d1_8 : decode prog_2_method_17_code 8 = .ok (.dconst 1, 1) := by decide +kernel
theorem own_d1_9 : decode prog_2_method_17_code 9 = .ok (.dload_n 0, 1) := by decide +kernel
theorem own_d1_10 : decode prog_2_method_17_code 10 = .ok (.dsub, 1) := by decide +kernel
theorem own_d1_11 : decode prog_2_method_17_code 11 = .ok (.dload_n 0, 1) := by decide +kernel
theorem own_d1_12 : decode prog_2_method_17_code 12 = .ok (.iload_n 2, 1) := by decide +kernel
theorem own_d1_13 : decode prog_2_method_17_code 13 = .ok (.i2d, 1) := by decide +kernel
theorem own_d1_14 : decode prog_2_method_17_code 14 = .ok (.dmul, 1) := by decide +kernel
theorem own_d1_15 : decode prog_2_method_17_code 15 = .ok (.dload_n 3, 1) := by decide +kernel
theorem own_d1_16 : decode prog_2_method_17_code 16 = .ok (.ddiv, 1) := by decide +kernel
theorem own_d1_17 : decode prog_2_method_17_code 17 = .ok (.dadd, 1) := by decide +kernel
theorem own_d1_18 : decode prog_2_method_17_code 18 = .ok (.dreturn, 1) := by decide +kernel
theorem own_ef_ct (m : MethodId) (b : UInt64) (dl : Int32) (av : UInt64) : entryFrame m #[(.double b), (.int dl), (.double av)] 5 = mkF m 0 #[.val (.double b), .second, .val (.int dl), .val (.double av), .second] [] := by first | (simp [entryFrame, mkF, argsToLocals, Value.category]; done) | rfl
set_option maxRecDepth 65536 in
set_option maxHeartbeats 40000000 in
theorem own_rm_ct (l : Launch) (Z : State) (a0 : Array Value) (hw : ∀ d ∈ tables_1, d.before a0 Z = true) (ws : List Jvm.Cond) (b : UInt64) (dl : Int32) (av : UInt64) {ct_v10 : UInt64} {ct_v14 : UInt64} {ct_v16 : UInt64} {ct_v17 : UInt64} (h0 : Heap) (n0 : Nat) (Z0 : n0 ≤ h0.size)  (ct_hb1 : ifCond.holds .ne dl = true) (ct_hn10 : Jvm.Free.Fl.NoNaN64 (FP.dsub 4607182418800017408 b)) (ct_hv10 : FP.dsub 4607182418800017408 b = ct_v10) (ct_hn14 : Jvm.Free.Fl.NoNaN64 (FP.dmul b (FP.i2d dl))) (ct_hv14 : FP.dmul b (FP.i2d dl) = ct_v14) (ct_hn16 : Jvm.Free.Fl.NoNaN64 (FP.ddiv ct_v14 av)) (ct_hv16 : FP.ddiv ct_v14 av = ct_v16) (ct_hn17 : Jvm.Free.Fl.NoNaN64 (FP.dadd ct_v10 ct_v16)) (ct_hv17 : FP.dadd ct_v10 ct_v16 = ct_v17) :
    MetFree l (⟨"com/example/tally_odds/tallyodds/Bm25", "lengthNorm", "(DID)D"⟩ : MethodName) (head1 (Jvm.Cond.code (⟨"com/example/tally_odds/tallyodds/Bm25", "lengthNorm", "(DID)D"⟩ : MethodName) prog_2_method_17_code 5 (some .double) :: ws) ({ frames := 0, cells := 0, slots := 0, locals := 0 } : Room)) (fun a U => a = #[(.double b), (.int dl), (.double av)] ∧ Z.Warmed39 U.vm ∧ U.heap = h0) (fun _ _ _ _ _ => True) (fun _ U o U' => ∃ v L, o = .returned v ∧ own_QP (some (.double ct_v17)) h0 n0 v U'.heap L ∧ FrameEnd U o U' L ({ frames := 0, cells := 0, slots := 0, locals := 0 } : Room).cells ({ frames := 0, cells := 0, slots := 0, locals := 0 } : Room).slots) := by
  refine MetFree.of_bodySF (plainFor_of_name own_pn_com_example_tally_odds_tallyodds_Bm25) hisR ?_
  intro p e s m args below meth c s₁ Bd hml0 hP hK
  obtain ⟨rfl, hZ, hh⟩ := hP
  have hx := Bd.exec
  have hby := Bd.bytes
  have hml : c.maxLocals = 5 := hml0
  have hown : s.vm.findClass "com/example/tally_odds/tallyodds/Bm25" = some m.cls := findClass_of_methodNamed Bd.named
  have hnm := (name_of_methodNamed Bd.named Bd.method).1
  have X0 : Stand p l e ({ frames := 0, cells := 0, slots := 0, locals := 0 } : Room) s m #[(.double b), (.int dl), (.double av)] below meth c s₁ [] 0 0 := Stand.of_body Bd
  have e0 : s₁.heap = h0 := by rw [← hh, Bd.state]; rfl
  have N0 := Fr.nil n0
  have pre0 : ∀ t, Steps p.tables e below (s₁.setTop (mkF m 0 #[.val (.double b), .second, .val (.int dl), .val (.double av), .second] [])) t → Steps p.tables e below (s₁.setTop (entryFrame m #[(.double b), (.int dl), (.double av)] 5)) t := fun t k => castTop (own_ef_ct m b dl av) k
  obtain ⟨fs, hr, hrun, hended, hW, hsame⟩ := X0.leave (v := some (.double ct_v17)) (fun h => by rw [Bd.returns] at h; cases h)
  refine ⟨_, _, pre0 _ ?_, hrun, hended, _, _, rfl, ?_, ⟨_, rfl⟩, hW, hsame.mono (by decide) (by decide)⟩
  · refine own_s_iloadN X0.here hx (hb hby own_d1_0) (pc' := 1) rfl rfl ?_
    refine own_s_ifYes X0.here hx (hb hby own_d1_1) (by decide) (pc' := 8) (by decide) ct_hb1 ?_
    refine own_s_dconst1 X0.here hx (hb hby own_d1_8) (pc' := 9) rfl  ?_
    refine own_s_dloadN X0.here hx (hb hby own_d1_9) (pc' := 10) rfl rfl ?_
    refine own_s_dsub X0.here hx (hb hby own_d1_10) (pc' := 11) rfl ct_hn10 (v := ct_v10) ct_hv10 ?_
    refine own_s_dloadN X0.here hx (hb hby own_d1_11) (pc' := 12) rfl rfl ?_
    refine own_s_iloadN X0.here hx (hb hby own_d1_12) (pc' := 13) rfl rfl ?_
    refine own_s_i2d X0.here hx (hb hby own_d1_13) (pc' := 14) rfl (v := (FP.i2d dl)) rfl ?_
    refine own_s_dmul X0.here hx (hb hby own_d1_14) (pc' := 15) rfl ct_hn14 (v := ct_v14) ct_hv14 ?_
    refine own_s_dloadN X0.here hx (hb hby own_d1_15) (pc' := 16) rfl rfl ?_
    refine own_s_ddiv X0.here hx (hb hby own_d1_16) (pc' := 17) rfl ct_hn16 (v := ct_v16) ct_hv16 ?_
    refine own_s_dadd X0.here hx (hb hby own_d1_17) (pc' := 18) rfl ct_hn17 (v := ct_v17) ct_hv17 ?_
    exact own_retD X0 hx Bd.returns (hb hby own_d1_18) hr
  · show own_QP (some (.double ct_v17)) h0 n0 _ s₁.heap _
    rw [e0]
    exact ⟨rfl, N0, rfl⟩
theorem own_ef_cf (m : MethodId) (b : UInt64) (dl : Int32) (av : UInt64) : entryFrame m #[(.double b), (.int dl), (.double av)] 5 = mkF m 0 #[.val (.double b), .second, .val (.int dl), .val (.double av), .second] [] := by first | (simp [entryFrame, mkF, argsToLocals, Value.category]; done) | rfl
set_option maxRecDepth 65536 in
set_option maxHeartbeats 40000000 in
theorem own_rm_cf (l : Launch) (Z : State) (a0 : Array Value) (hw : ∀ d ∈ tables_1, d.before a0 Z = true) (ws : List Jvm.Cond) (b : UInt64) (dl : Int32) (av : UInt64) {cf_v6 : UInt64} (h0 : Heap) (n0 : Nat) (Z0 : n0 ≤ h0.size)  (cf_hb1 : ifCond.holds .ne dl = false) (cf_hn6 : Jvm.Free.Fl.NoNaN64 (FP.dsub 4607182418800017408 b)) (cf_hv6 : FP.dsub 4607182418800017408 b = cf_v6) :
    MetFree l (⟨"com/example/tally_odds/tallyodds/Bm25", "lengthNorm", "(DID)D"⟩ : MethodName) (head1 (Jvm.Cond.code (⟨"com/example/tally_odds/tallyodds/Bm25", "lengthNorm", "(DID)D"⟩ : MethodName) prog_2_method_17_code 5 (some .double) :: ws) ({ frames := 0, cells := 0, slots := 0, locals := 0 } : Room)) (fun a U => a = #[(.double b), (.int dl), (.double av)] ∧ Z.Warmed39 U.vm ∧ U.heap = h0) (fun _ _ _ _ _ => True) (fun _ U o U' => ∃ v L, o = .returned v ∧ own_QP (some (.double cf_v6)) h0 n0 v U'.heap L ∧ FrameEnd U o U' L ({ frames := 0, cells := 0, slots := 0, locals := 0 } : Room).cells ({ frames := 0, cells := 0, slots := 0, locals := 0 } : Room).slots) := by
  refine MetFree.of_bodySF (plainFor_of_name own_pn_com_example_tally_odds_tallyodds_Bm25) hisR ?_
  intro p e s m args below meth c s₁ Bd hml0 hP hK
  obtain ⟨rfl, hZ, hh⟩ := hP
  have hx := Bd.exec
  have hby := Bd.bytes
  have hml : c.maxLocals = 5 := hml0
  have hown : s.vm.findClass "com/example/tally_odds/tallyodds/Bm25" = some m.cls := findClass_of_methodNamed Bd.named
  have hnm := (name_of_methodNamed Bd.named Bd.method).1
  have X0 : Stand p l e ({ frames := 0, cells := 0, slots := 0, locals := 0 } : Room) s m #[(.double b), (.int dl), (.double av)] below meth c s₁ [] 0 0 := Stand.of_body Bd
  have e0 : s₁.heap = h0 := by rw [← hh, Bd.state]; rfl
  have N0 := Fr.nil n0
  have pre0 : ∀ t, Steps p.tables e below (s₁.setTop (mkF m 0 #[.val (.double b), .second, .val (.int dl), .val (.double av), .second] [])) t → Steps p.tables e below (s₁.setTop (entryFrame m #[(.double b), (.int dl), (.double av)] 5)) t := fun t k => castTop (own_ef_cf m b dl av) k
  obtain ⟨fs, hr, hrun, hended, hW, hsame⟩ := X0.leave (v := some (.double cf_v6)) (fun h => by rw [Bd.returns] at h; cases h)
  refine ⟨_, _, pre0 _ ?_, hrun, hended, _, _, rfl, ?_, ⟨_, rfl⟩, hW, hsame.mono (by decide) (by decide)⟩
  · refine own_s_iloadN X0.here hx (hb hby own_d1_0) (pc' := 1) rfl rfl ?_
    refine own_s_ifNo X0.here hx (hb hby own_d1_1) (pc' := 4) rfl cf_hb1 ?_
    refine own_s_dconst1 X0.here hx (hb hby own_d1_4) (pc' := 5) rfl  ?_
    refine own_s_dloadN X0.here hx (hb hby own_d1_5) (pc' := 6) rfl rfl ?_
    refine own_s_dsub X0.here hx (hb hby own_d1_6) (pc' := 7) rfl cf_hn6 (v := cf_v6) cf_hv6 ?_
    exact own_retD X0 hx Bd.returns (hb hby own_d1_7) hr
  · show own_QP (some (.double cf_v6)) h0 n0 _ s₁.heap _
    rw [e0]
    exact ⟨rfl, N0, rfl⟩
theorem own_pd_28DID29D : parseMethodDescriptor "(DID)D" = some ⟨[.double, .int, .double], some .double⟩ := by decide +kernel
theorem own_pn_com_example_tally_odds_tallyodds_Bm25LengthNormPinLaw : plainName "com/example/tally_odds/tallyodds/Bm25LengthNormPinLaw" = true := by first | (simp [plainName, overriddenIn]; done) | decide +kernel
theorem own_ef_w1 (m : MethodId) (p0 : Int32) (p1 : Int32) (p2 : Int32) (p3 : Int32) : entryFrame m #[(.int p0), (.int p1), (.int p2), (.int p3)] maxLocals = mkF m 0 #[.val (.int p0), .val (.int p1), .val (.int p2), .val (.int p3), .unset, .unset, .unset, .unset, .unset, .unset, .unset, .unset, .unset, .unset] [] := by first | (simp [entryFrame, mkF, argsToLocals, Value.category, maxLocals]; done) | rfl
set_option maxRecDepth 65536 in
set_option maxHeartbeats 40000000 in
theorem own_rm_w1 (l : Launch) (Z : State) (a0 : Array Value) (hw : ∀ d ∈ tables_1, d.before a0 Z = true) (ws : List Jvm.Cond) (p0 : Int32) (p1 : Int32) (p2 : Int32) (p3 : Int32) {w1_v3 : Int32} {w1_v5 : Int32} {w1_v14 : UInt64} {w1_v19 : Int32} {w1_v25 : Int32} {w1_c45_c0_v6 : UInt64} {w1_v55 : Int32} {w1_v60 : UInt64} (h0 : Heap) (n0 : Nat) (Z0 : n0 ≤ h0.size)  (w1_hv3 : p0 &&& (2147483647 : Int32) = w1_v3) (w1_hv5 : w1_v3 % (5 : Int32) = w1_v5) (w1_hn14 : Jvm.Free.Fl.NoNaN64 (FP.ddiv (FP.i2d w1_v5) (4616189618054758400 : UInt64))) (w1_hv14 : FP.ddiv (FP.i2d w1_v5) (4616189618054758400 : UInt64) = w1_v14) (w1_hv19 : p3 &&& (1 : Int32) = w1_v19) (w1_hb20 : ifCond.holds .eq w1_v19 = false) (w1_hv25 : p3 &&& (2 : Int32) = w1_v25) (w1_hb26 : ifCond.holds .eq w1_v25 = false) (w1_c45_c0_hn6 : Jvm.Free.Fl.NoNaN64 (FP.dsub 4607182418800017408 w1_v14)) (w1_c45_c0_hv6 : FP.dsub 4607182418800017408 w1_v14 = w1_c45_c0_v6) (w1_hv55 : (4 : Int32) - w1_v5 = w1_v55) (w1_hn60 : Jvm.Free.Fl.NoNaN64 (FP.ddiv (FP.i2d w1_v55) (4616189618054758400 : UInt64))) (w1_hv60 : FP.ddiv (FP.i2d w1_v55) (4616189618054758400 : UInt64) = w1_v60) (w1_hc61 : Op.cmpValue (FP.dcmp w1_c45_c0_v6 w1_v60) .l = (0 : Int32)) :
    MetFree l x (head1 (Jvm.Cond.code x code maxLocals ret :: ws) room_1) (fun a U => a = #[(.int p0), (.int p1), (.int p2), (.int p3)] ∧ Z.Warmed39 U.vm ∧ U.heap = h0) (fun _ _ _ _ _ => True) (fun _ U o U' => ∃ v L, o = .returned v ∧ own_Q0 n0 v U'.heap L ∧ FrameEnd U o U' L room_1.cells room_1.slots) := by
  refine MetFree.of_bodySF (plainFor_of_name own_pn_com_example_tally_odds_tallyodds_Bm25LengthNormPinLaw) hisR ?_
  intro p e s m args below meth c s₁ Bd hml0 hP hK
  obtain ⟨rfl, hZ, hh⟩ := hP
  have hx := Bd.exec
  have hby := Bd.bytes
  have hml : c.maxLocals = 14 := hml0
  have hown : s.vm.findClass "com/example/tally_odds/tallyodds/Bm25LengthNormPinLaw" = some m.cls := findClass_of_methodNamed Bd.named
  have hnm := (name_of_methodNamed Bd.named Bd.method).1
  have X0 : Stand p l e room_1 s m #[(.int p0), (.int p1), (.int p2), (.int p3)] below meth c s₁ [] 0 0 := Stand.of_body Bd
  have e0 : s₁.heap = h0 := by rw [← hh, Bd.state]; rfl
  have N0 := Fr.nil n0
  have pre0 : ∀ t, Steps p.tables e below (s₁.setTop (mkF m 0 #[.val (.int p0), .val (.int p1), .val (.int p2), .val (.int p3), .unset, .unset, .unset, .unset, .unset, .unset, .unset, .unset, .unset, .unset] [])) t → Steps p.tables e below (s₁.setTop (entryFrame m #[(.int p0), (.int p1), (.int p2), (.int p3)] maxLocals)) t := fun t k => castTop (own_ef_w1 m p0 p1 p2 p3) k
  obtain ⟨_, _, ⟨Tw11, Lw11, kw11, nw11⟩, -, Xw11, ⟨Lcw11, hQw11, lw11, yw11, zw11⟩, stw11⟩ := Jvm.LawKit.callS X0 hx (y := (⟨"com/example/tally_odds/tallyodds/Bm25", "lengthNorm", "(DID)D"⟩ : MethodName)) hown (mvT hZ (hw _ (List.mem_of_getElem? (i := 2) rfl))) (mvT hZ (hw _ (List.mem_of_getElem? (i := 3) rfl))) (mvT hZ (hw _ (List.mem_of_getElem? (i := 4) rfl))) (mvT hZ (hw _ (List.mem_of_getElem? (i := 5) rfl))) (by decide) (backOf (W := 0) (own_rm_c0 l Z a0 hw [] w1_v14 0 h0 n0 Z0 w1_c45_c0_hn6 w1_c45_c0_hv6) hZ (hw _ (List.mem_of_getElem? (i := 5) rfl)) (hw _ (List.mem_of_getElem? (i := 4) rfl)) (by decide) (by decide)) (g := (mkF m 45 #[.val (.int p0), .val (.int p1), .val (.int p2), .val (.int p3), .val (.int w1_v5), .val (.double w1_v14), .second, .val (.double 0), .second, .unset, .unset, .unset, .unset, .unset] [(.double 0), (.int (0 : Int32)), (.double w1_v14)])) rfl (by rw [hml]; rfl) (argsL := [(.double w1_v14), (.int (0 : Int32)), (.double 0)]) (rest := []) (lenOf own_pd_28DID29D rfl) rfl (by show 2 * 0 + _ ≤ _; exact Nat.le_of_eq rfl) (hb hby at_45) (fun _ _ => ⟨rfl, e0, (by decide : 0 + 0 ≤ _), (by decide : 0 + 0 ≤ _)⟩)
  dsimp only [Pt.U, Pt.locs, Pt.cells, Pt.slots] at Xw11 lw11 yw11 zw11 stw11 hQw11
  subst lw11 yw11 zw11
  obtain ⟨rfl, Nw11q, ew11⟩ := hQw11
  have Nw11 := Fr.app N0 Nw11q
  obtain ⟨fs, hr, hrun, hended, hW, hsame⟩ := Xw11.leave (v := some (.int (1 : Int32))) (fun h => by rw [Bd.returns] at h; cases h)
  refine ⟨_, _, pre0 _ ?_, hrun, hended, _, _, rfl, ?_, ⟨_, rfl⟩, hW, hsame.mono (by decide) (by decide)⟩
  · refine own_s_iloadN X0.here hx (hb hby at_0) (pc' := 1) rfl rfl ?_
    refine X0.ldcInt hx hown (mvT hZ (hw _ (List.mem_of_getElem? (i := 0) rfl))) (g := (mkF m 1 #[.val (.int p0), .val (.int p1), .val (.int p2), .val (.int p3), .unset, .unset, .unset, .unset, .unset, .unset, .unset, .unset, .unset, .unset] [(.int p0)])) rfl (hb hby at_1) _ ?_
    show Steps p.tables e below (s₁.setTop (mkF m 3 #[.val (.int p0), .val (.int p1), .val (.int p2), .val (.int p3), .unset, .unset, .unset, .unset, .unset, .unset, .unset, .unset, .unset, .unset] [(.int (2147483647 : Int32)), (.int p0)])) _
    refine own_s_iand X0.here hx (hb hby at_3) (pc' := 4) rfl (v := w1_v3) w1_hv3 ?_
    refine own_s_iconst X0.here hx (hb hby at_4) (pc' := 5) rfl (v := (5 : Int32)) (by decide) ?_
    refine own_s_irem X0.here hx (hb hby at_5) (pc' := 6) rfl (by decide) (v := w1_v5) w1_hv5 ?_
    refine own_s_istore X0.here hx (hb hby at_6) (pc' := 8) rfl (L' := #[.val (.int p0), .val (.int p1), .val (.int p2), .val (.int p3), .val (.int w1_v5), .unset, .unset, .unset, .unset, .unset, .unset, .unset, .unset, .unset]) rfl ?_
    refine own_s_iload X0.here hx (hb hby at_8) (pc' := 10) rfl rfl ?_
    refine own_s_i2d X0.here hx (hb hby at_10) (pc' := 11) rfl (v := (FP.i2d w1_v5)) rfl ?_
    refine X0.ldc2DoubleC hx hown (mvT hZ (hw _ (List.mem_of_getElem? (i := 1) rfl))) (g := (mkF m 11 #[.val (.int p0), .val (.int p1), .val (.int p2), .val (.int p3), .val (.int w1_v5), .unset, .unset, .unset, .unset, .unset, .unset, .unset, .unset, .unset] [(.double (FP.i2d w1_v5))])) rfl (hb hby at_11) _ ?_
    show Steps p.tables e below (s₁.setTop (mkF m 14 #[.val (.int p0), .val (.int p1), .val (.int p2), .val (.int p3), .val (.int w1_v5), .unset, .unset, .unset, .unset, .unset, .unset, .unset, .unset, .unset] [(.double (4616189618054758400 : UInt64)), (.double (FP.i2d w1_v5))])) _
    refine own_s_ddiv X0.here hx (hb hby at_14) (pc' := 15) rfl w1_hn14 (v := w1_v14) w1_hv14 ?_
    refine own_s_dstore X0.here hx (hb hby at_15) (pc' := 17) rfl (L' := #[.val (.int p0), .val (.int p1), .val (.int p2), .val (.int p3), .val (.int w1_v5), .val (.double w1_v14), .second, .unset, .unset, .unset, .unset, .unset, .unset, .unset]) rfl ?_
    refine own_s_iloadN X0.here hx (hb hby at_17) (pc' := 18) rfl rfl ?_
    refine own_s_iconst X0.here hx (hb hby at_18) (pc' := 19) rfl (v := (1 : Int32)) (by decide) ?_
    refine own_s_iand X0.here hx (hb hby at_19) (pc' := 20) rfl (v := w1_v19) w1_hv19 ?_
    refine own_s_ifNo X0.here hx (hb hby at_20) (pc' := 23) rfl w1_hb20 ?_
    refine own_s_iloadN X0.here hx (hb hby at_23) (pc' := 24) rfl rfl ?_
    refine own_s_iconst X0.here hx (hb hby at_24) (pc' := 25) rfl (v := (2 : Int32)) (by decide) ?_
    refine own_s_iand X0.here hx (hb hby at_25) (pc' := 26) rfl (v := w1_v25) w1_hv25 ?_
    refine own_s_ifNo X0.here hx (hb hby at_26) (pc' := 29) rfl w1_hb26 ?_
    refine own_s_dconst0 X0.here hx (hb hby at_29) (pc' := 30) rfl  ?_
    refine own_s_goto X0.here hx (hb hby at_30) (by decide) (pc' := 38) (by decide) ?_
    refine own_s_dstore X0.here hx (hb hby at_38) (pc' := 40) rfl (L' := #[.val (.int p0), .val (.int p1), .val (.int p2), .val (.int p3), .val (.int w1_v5), .val (.double w1_v14), .second, .val (.double 0), .second, .unset, .unset, .unset, .unset, .unset]) rfl ?_
    refine own_s_dload X0.here hx (hb hby at_40) (pc' := 42) rfl rfl ?_
    refine own_s_iconst X0.here hx (hb hby at_42) (pc' := 43) rfl (v := (0 : Int32)) (by decide) ?_
    refine own_s_dload X0.here hx (hb hby at_43) (pc' := 45) rfl rfl ?_
    refine stw11 _ ?_
    show Steps p.tables e below (Tw11.setTop (mkF m 48 #[.val (.int p0), .val (.int p1), .val (.int p2), .val (.int p3), .val (.int w1_v5), .val (.double w1_v14), .second, .val (.double 0), .second, .unset, .unset, .unset, .unset, .unset] [(.double w1_c45_c0_v6)])) _
    refine own_s_dstore Xw11.here hx (hb hby at_48) (pc' := 50) rfl (L' := #[.val (.int p0), .val (.int p1), .val (.int p2), .val (.int p3), .val (.int w1_v5), .val (.double w1_v14), .second, .val (.double 0), .second, .val (.double w1_c45_c0_v6), .second, .unset, .unset, .unset]) rfl ?_
    refine own_s_dload Xw11.here hx (hb hby at_50) (pc' := 52) rfl rfl ?_
    refine own_s_iconst Xw11.here hx (hb hby at_52) (pc' := 53) rfl (v := (4 : Int32)) (by decide) ?_
    refine own_s_iload Xw11.here hx (hb hby at_53) (pc' := 55) rfl rfl ?_
    refine own_s_isub Xw11.here hx (hb hby at_55) (pc' := 56) rfl (v := w1_v55) w1_hv55 ?_
    refine own_s_i2d Xw11.here hx (hb hby at_56) (pc' := 57) rfl (v := (FP.i2d w1_v55)) rfl ?_
    refine Xw11.ldc2DoubleC hx hown (mvT hZ (hw _ (List.mem_of_getElem? (i := 1) rfl))) (g := (mkF m 57 #[.val (.int p0), .val (.int p1), .val (.int p2), .val (.int p3), .val (.int w1_v5), .val (.double w1_v14), .second, .val (.double 0), .second, .val (.double w1_c45_c0_v6), .second, .unset, .unset, .unset] [(.double (FP.i2d w1_v55)), (.double w1_c45_c0_v6)])) rfl (hb hby at_57) _ ?_
    show Steps p.tables e below (Tw11.setTop (mkF m 60 #[.val (.int p0), .val (.int p1), .val (.int p2), .val (.int p3), .val (.int w1_v5), .val (.double w1_v14), .second, .val (.double 0), .second, .val (.double w1_c45_c0_v6), .second, .unset, .unset, .unset] [(.double (4616189618054758400 : UInt64)), (.double (FP.i2d w1_v55)), (.double w1_c45_c0_v6)])) _
    refine own_s_ddiv Xw11.here hx (hb hby at_60) (pc' := 61) rfl w1_hn60 (v := w1_v60) w1_hv60 ?_
    refine own_s_dcmp Xw11.here hx (hb hby at_61) (pc' := 62) rfl (v := (0 : Int32)) w1_hc61 ?_
    refine own_s_ifNo Xw11.here hx (hb hby at_62) (pc' := 65) rfl (by decide) ?_
    refine own_s_iconst Xw11.here hx (hb hby at_65) (pc' := 66) rfl (v := (1 : Int32)) (by decide) ?_
    refine own_s_goto Xw11.here hx (hb hby at_66) (by decide) (pc' := 70) (by decide) ?_
    exact retN Xw11 hx (t := .boolean) Bd.returns (by simp) (hb hby at_70) hr
  · show own_Q0 n0 _ Tw11.heap _
    rw [ew11]
    exact ⟨rfl, Nw11⟩
theorem own_ef_w2 (m : MethodId) (p0 : Int32) (p1 : Int32) (p2 : Int32) (p3 : Int32) : entryFrame m #[(.int p0), (.int p1), (.int p2), (.int p3)] maxLocals = mkF m 0 #[.val (.int p0), .val (.int p1), .val (.int p2), .val (.int p3), .unset, .unset, .unset, .unset, .unset, .unset, .unset, .unset, .unset, .unset] [] := by first | (simp [entryFrame, mkF, argsToLocals, Value.category, maxLocals]; done) | rfl
set_option maxRecDepth 65536 in
set_option maxHeartbeats 40000000 in
theorem own_rm_w2 (l : Launch) (Z : State) (a0 : Array Value) (hw : ∀ d ∈ tables_1, d.before a0 Z = true) (ws : List Jvm.Cond) (p0 : Int32) (p1 : Int32) (p2 : Int32) (p3 : Int32) {w2_v3 : Int32} {w2_v5 : Int32} {w2_v14 : UInt64} {w2_v19 : Int32} {w2_v25 : Int32} {w2_v36 : Int32} {w2_c45_c0_v6 : UInt64} {w2_v55 : Int32} {w2_v60 : UInt64} (h0 : Heap) (n0 : Nat) (Z0 : n0 ≤ h0.size)  (w2_hv3 : p0 &&& (2147483647 : Int32) = w2_v3) (w2_hv5 : w2_v3 % (5 : Int32) = w2_v5) (w2_hn14 : Jvm.Free.Fl.NoNaN64 (FP.ddiv (FP.i2d w2_v5) (4616189618054758400 : UInt64))) (w2_hv14 : FP.ddiv (FP.i2d w2_v5) (4616189618054758400 : UInt64) = w2_v14) (w2_hv19 : p3 &&& (1 : Int32) = w2_v19) (w2_hb20 : ifCond.holds .eq w2_v19 = false) (w2_hv25 : p3 &&& (2 : Int32) = w2_v25) (w2_hb26 : ifCond.holds .eq w2_v25 = true) (w2_hv36 : p2 &&& (2147483647 : Int32) = w2_v36) (w2_c45_c0_hn6 : Jvm.Free.Fl.NoNaN64 (FP.dsub 4607182418800017408 w2_v14)) (w2_c45_c0_hv6 : FP.dsub 4607182418800017408 w2_v14 = w2_c45_c0_v6) (w2_hv55 : (4 : Int32) - w2_v5 = w2_v55) (w2_hn60 : Jvm.Free.Fl.NoNaN64 (FP.ddiv (FP.i2d w2_v55) (4616189618054758400 : UInt64))) (w2_hv60 : FP.ddiv (FP.i2d w2_v55) (4616189618054758400 : UInt64) = w2_v60) (w2_hc61 : Op.cmpValue (FP.dcmp w2_c45_c0_v6 w2_v60) .l = (0 : Int32)) :
    MetFree l x (head1 (Jvm.Cond.code x code maxLocals ret :: ws) room_1) (fun a U => a = #[(.int p0), (.int p1), (.int p2), (.int p3)] ∧ Z.Warmed39 U.vm ∧ U.heap = h0) (fun _ _ _ _ _ => True) (fun _ U o U' => ∃ v L, o = .returned v ∧ own_Q0 n0 v U'.heap L ∧ FrameEnd U o U' L room_1.cells room_1.slots) := by
  refine MetFree.of_bodySF (plainFor_of_name own_pn_com_example_tally_odds_tallyodds_Bm25LengthNormPinLaw) hisR ?_
  intro p e s m args below meth c s₁ Bd hml0 hP hK
  obtain ⟨rfl, hZ, hh⟩ := hP
  have hx := Bd.exec
  have hby := Bd.bytes
  have hml : c.maxLocals = 14 := hml0
  have hown : s.vm.findClass "com/example/tally_odds/tallyodds/Bm25LengthNormPinLaw" = some m.cls := findClass_of_methodNamed Bd.named
  have hnm := (name_of_methodNamed Bd.named Bd.method).1
  have X0 : Stand p l e room_1 s m #[(.int p0), (.int p1), (.int p2), (.int p3)] below meth c s₁ [] 0 0 := Stand.of_body Bd
  have e0 : s₁.heap = h0 := by rw [← hh, Bd.state]; rfl
  have N0 := Fr.nil n0
  have pre0 : ∀ t, Steps p.tables e below (s₁.setTop (mkF m 0 #[.val (.int p0), .val (.int p1), .val (.int p2), .val (.int p3), .unset, .unset, .unset, .unset, .unset, .unset, .unset, .unset, .unset, .unset] [])) t → Steps p.tables e below (s₁.setTop (entryFrame m #[(.int p0), (.int p1), (.int p2), (.int p3)] maxLocals)) t := fun t k => castTop (own_ef_w2 m p0 p1 p2 p3) k
  obtain ⟨_, _, ⟨Tw21, Lw21, kw21, nw21⟩, -, Xw21, ⟨Lcw21, hQw21, lw21, yw21, zw21⟩, stw21⟩ := Jvm.LawKit.callS X0 hx (y := (⟨"com/example/tally_odds/tallyodds/Bm25", "lengthNorm", "(DID)D"⟩ : MethodName)) hown (mvT hZ (hw _ (List.mem_of_getElem? (i := 2) rfl))) (mvT hZ (hw _ (List.mem_of_getElem? (i := 3) rfl))) (mvT hZ (hw _ (List.mem_of_getElem? (i := 4) rfl))) (mvT hZ (hw _ (List.mem_of_getElem? (i := 5) rfl))) (by decide) (backOf (W := 0) (own_rm_c0 l Z a0 hw [] w2_v14 (FP.i2d w2_v36) h0 n0 Z0 w2_c45_c0_hn6 w2_c45_c0_hv6) hZ (hw _ (List.mem_of_getElem? (i := 5) rfl)) (hw _ (List.mem_of_getElem? (i := 4) rfl)) (by decide) (by decide)) (g := (mkF m 45 #[.val (.int p0), .val (.int p1), .val (.int p2), .val (.int p3), .val (.int w2_v5), .val (.double w2_v14), .second, .val (.double (FP.i2d w2_v36)), .second, .unset, .unset, .unset, .unset, .unset] [(.double (FP.i2d w2_v36)), (.int (0 : Int32)), (.double w2_v14)])) rfl (by rw [hml]; rfl) (argsL := [(.double w2_v14), (.int (0 : Int32)), (.double (FP.i2d w2_v36))]) (rest := []) (lenOf own_pd_28DID29D rfl) rfl (by show 2 * 0 + _ ≤ _; exact Nat.le_of_eq rfl) (hb hby at_45) (fun _ _ => ⟨rfl, e0, (by decide : 0 + 0 ≤ _), (by decide : 0 + 0 ≤ _)⟩)
  dsimp only [Pt.U, Pt.locs, Pt.cells, Pt.slots] at Xw21 lw21 yw21 zw21 stw21 hQw21
  subst lw21 yw21 zw21
  obtain ⟨rfl, Nw21q, ew21⟩ := hQw21
  have Nw21 := Fr.app N0 Nw21q
  obtain ⟨fs, hr, hrun, hended, hW, hsame⟩ := Xw21.leave (v := some (.int (1 : Int32))) (fun h => by rw [Bd.returns] at h; cases h)
  refine ⟨_, _, pre0 _ ?_, hrun, hended, _, _, rfl, ?_, ⟨_, rfl⟩, hW, hsame.mono (by decide) (by decide)⟩
  · refine own_s_iloadN X0.here hx (hb hby at_0) (pc' := 1) rfl rfl ?_
    refine X0.ldcInt hx hown (mvT hZ (hw _ (List.mem_of_getElem? (i := 0) rfl))) (g := (mkF m 1 #[.val (.int p0), .val (.int p1), .val (.int p2), .val (.int p3), .unset, .unset, .unset, .unset, .unset, .unset, .unset, .unset, .unset, .unset] [(.int p0)])) rfl (hb hby at_1) _ ?_
    show Steps p.tables e below (s₁.setTop (mkF m 3 #[.val (.int p0), .val (.int p1), .val (.int p2), .val (.int p3), .unset, .unset, .unset, .unset, .unset, .unset, .unset, .unset, .unset, .unset] [(.int (2147483647 : Int32)), (.int p0)])) _
    refine own_s_iand X0.here hx (hb hby at_3) (pc' := 4) rfl (v := w2_v3) w2_hv3 ?_
    refine own_s_iconst X0.here hx (hb hby at_4) (pc' := 5) rfl (v := (5 : Int32)) (by decide) ?_
    refine own_s_irem X0.here hx (hb hby at_5) (pc' := 6) rfl (by decide) (v := w2_v5) w2_hv5 ?_
    refine own_s_istore X0.here hx (hb hby at_6) (pc' := 8) rfl (L' := #[.val (.int p0), .val (.int p1), .val (.int p2), .val (.int p3), .val (.int w2_v5), .unset, .unset, .unset, .unset, .unset, .unset, .unset, .unset, .unset]) rfl ?_
    refine own_s_iload X0.here hx (hb hby at_8) (pc' := 10) rfl rfl ?_
    refine own_s_i2d X0.here hx (hb hby at_10) (pc' := 11) rfl (v := (FP.i2d w2_v5)) rfl ?_
    refine X0.ldc2DoubleC hx hown (mvT hZ (hw _ (List.mem_of_getElem? (i := 1) rfl))) (g := (mkF m 11 #[.val (.int p0), .val (.int p1), .val (.int p2), .val (.int p3), .val (.int w2_v5), .unset, .unset, .unset, .unset, .unset, .unset, .unset, .unset, .unset] [(.double (FP.i2d w2_v5))])) rfl (hb hby at_11) _ ?_
    show Steps p.tables e below (s₁.setTop (mkF m 14 #[.val (.int p0), .val (.int p1), .val (.int p2), .val (.int p3), .val (.int w2_v5), .unset, .unset, .unset, .unset, .unset, .unset, .unset, .unset, .unset] [(.double (4616189618054758400 : UInt64)), (.double (FP.i2d w2_v5))])) _
    refine own_s_ddiv X0.here hx (hb hby at_14) (pc' := 15) rfl w2_hn14 (v := w2_v14) w2_hv14 ?_
    refine own_s_dstore X0.here hx (hb hby at_15) (pc' := 17) rfl (L' := #[.val (.int p0), .val (.int p1), .val (.int p2), .val (.int p3), .val (.int w2_v5), .val (.double w2_v14), .second, .unset, .unset, .unset, .unset, .unset, .unset, .unset]) rfl ?_
    refine own_s_iloadN X0.here hx (hb hby at_17) (pc' := 18) rfl rfl ?_
    refine own_s_iconst X0.here hx (hb hby at_18) (pc' := 19) rfl (v := (1 : Int32)) (by decide) ?_
    refine own_s_iand X0.here hx (hb hby at_19) (pc' := 20) rfl (v := w2_v19) w2_hv19 ?_
    refine own_s_ifNo X0.here hx (hb hby at_20) (pc' := 23) rfl w2_hb20 ?_
    refine own_s_iloadN X0.here hx (hb hby at_23) (pc' := 24) rfl rfl ?_
    refine own_s_iconst X0.here hx (hb hby at_24) (pc' := 25) rfl (v := (2 : Int32)) (by decide) ?_
    refine own_s_iand X0.here hx (hb hby at_25) (pc' := 26) rfl (v := w2_v25) w2_hv25 ?_
    refine own_s_ifYes X0.here hx (hb hby at_26) (by decide) (pc' := 33) (by decide) w2_hb26 ?_
    refine own_s_iloadN X0.here hx (hb hby at_33) (pc' := 34) rfl rfl ?_
    refine X0.ldcInt hx hown (mvT hZ (hw _ (List.mem_of_getElem? (i := 0) rfl))) (g := (mkF m 34 #[.val (.int p0), .val (.int p1), .val (.int p2), .val (.int p3), .val (.int w2_v5), .val (.double w2_v14), .second, .unset, .unset, .unset, .unset, .unset, .unset, .unset] [(.int p2)])) rfl (hb hby at_34) _ ?_
    show Steps p.tables e below (s₁.setTop (mkF m 36 #[.val (.int p0), .val (.int p1), .val (.int p2), .val (.int p3), .val (.int w2_v5), .val (.double w2_v14), .second, .unset, .unset, .unset, .unset, .unset, .unset, .unset] [(.int (2147483647 : Int32)), (.int p2)])) _
    refine own_s_iand X0.here hx (hb hby at_36) (pc' := 37) rfl (v := w2_v36) w2_hv36 ?_
    refine own_s_i2d X0.here hx (hb hby at_37) (pc' := 38) rfl (v := (FP.i2d w2_v36)) rfl ?_
    refine own_s_dstore X0.here hx (hb hby at_38) (pc' := 40) rfl (L' := #[.val (.int p0), .val (.int p1), .val (.int p2), .val (.int p3), .val (.int w2_v5), .val (.double w2_v14), .second, .val (.double (FP.i2d w2_v36)), .second, .unset, .unset, .unset, .unset, .unset]) rfl ?_
    refine own_s_dload X0.here hx (hb hby at_40) (pc' := 42) rfl rfl ?_
    refine own_s_iconst X0.here hx (hb hby at_42) (pc' := 43) rfl (v := (0 : Int32)) (by decide) ?_
    refine own_s_dload X0.here hx (hb hby at_43) (pc' := 45) rfl rfl ?_
    refine stw21 _ ?_
    show Steps p.tables e below (Tw21.setTop (mkF m 48 #[.val (.int p0), .val (.int p1), .val (.int p2), .val (.int p3), .val (.int w2_v5), .val (.double w2_v14), .second, .val (.double (FP.i2d w2_v36)), .second, .unset, .unset, .unset, .unset, .unset] [(.double w2_c45_c0_v6)])) _
    refine own_s_dstore Xw21.here hx (hb hby at_48) (pc' := 50) rfl (L' := #[.val (.int p0), .val (.int p1), .val (.int p2), .val (.int p3), .val (.int w2_v5), .val (.double w2_v14), .second, .val (.double (FP.i2d w2_v36)), .second, .val (.double w2_c45_c0_v6), .second, .unset, .unset, .unset]) rfl ?_
    refine own_s_dload Xw21.here hx (hb hby at_50) (pc' := 52) rfl rfl ?_
    refine own_s_iconst Xw21.here hx (hb hby at_52) (pc' := 53) rfl (v := (4 : Int32)) (by decide) ?_
    refine own_s_iload Xw21.here hx (hb hby at_53) (pc' := 55) rfl rfl ?_
    refine own_s_isub Xw21.here hx (hb hby at_55) (pc' := 56) rfl (v := w2_v55) w2_hv55 ?_
    refine own_s_i2d Xw21.here hx (hb hby at_56) (pc' := 57) rfl (v := (FP.i2d w2_v55)) rfl ?_
    refine Xw21.ldc2DoubleC hx hown (mvT hZ (hw _ (List.mem_of_getElem? (i := 1) rfl))) (g := (mkF m 57 #[.val (.int p0), .val (.int p1), .val (.int p2), .val (.int p3), .val (.int w2_v5), .val (.double w2_v14), .second, .val (.double (FP.i2d w2_v36)), .second, .val (.double w2_c45_c0_v6), .second, .unset, .unset, .unset] [(.double (FP.i2d w2_v55)), (.double w2_c45_c0_v6)])) rfl (hb hby at_57) _ ?_
    show Steps p.tables e below (Tw21.setTop (mkF m 60 #[.val (.int p0), .val (.int p1), .val (.int p2), .val (.int p3), .val (.int w2_v5), .val (.double w2_v14), .second, .val (.double (FP.i2d w2_v36)), .second, .val (.double w2_c45_c0_v6), .second, .unset, .unset, .unset] [(.double (4616189618054758400 : UInt64)), (.double (FP.i2d w2_v55)), (.double w2_c45_c0_v6)])) _
    refine own_s_ddiv Xw21.here hx (hb hby at_60) (pc' := 61) rfl w2_hn60 (v := w2_v60) w2_hv60 ?_
    refine own_s_dcmp Xw21.here hx (hb hby at_61) (pc' := 62) rfl (v := (0 : Int32)) w2_hc61 ?_
    refine own_s_ifNo Xw21.here hx (hb hby at_62) (pc' := 65) rfl (by decide) ?_
    refine own_s_iconst Xw21.here hx (hb hby at_65) (pc' := 66) rfl (v := (1 : Int32)) (by decide) ?_
    refine own_s_goto Xw21.here hx (hb hby at_66) (by decide) (pc' := 70) (by decide) ?_
    exact retN Xw21 hx (t := .boolean) Bd.returns (by simp) (hb hby at_70) hr
  · show own_Q0 n0 _ Tw21.heap _
    rw [ew21]
    exact ⟨rfl, Nw21⟩
theorem own_ef_w3t (m : MethodId) (p0 : Int32) (p1 : Int32) (p2 : Int32) (p3 : Int32) : entryFrame m #[(.int p0), (.int p1), (.int p2), (.int p3)] maxLocals = mkF m 0 #[.val (.int p0), .val (.int p1), .val (.int p2), .val (.int p3), .unset, .unset, .unset, .unset, .unset, .unset, .unset, .unset, .unset, .unset] [] := by first | (simp [entryFrame, mkF, argsToLocals, Value.category, maxLocals]; done) | rfl
set_option maxRecDepth 65536 in
set_option maxHeartbeats 40000000 in
theorem own_rm_w3t (l : Launch) (Z : State) (a0 : Array Value) (hw : ∀ d ∈ tables_1, d.before a0 Z = true) (ws : List Jvm.Cond) (p0 : Int32) (p1 : Int32) (p2 : Int32) (p3 : Int32) {w3t_v3 : Int32} {w3t_v5 : Int32} {w3t_v14 : UInt64} {w3t_v19 : Int32} {w3t_v73 : Int32} {w3t_v80 : Int32} {w3t_v86 : Int64} {w3t_c95_ct_v10 : UInt64} {w3t_c95_ct_v14 : UInt64} {w3t_c95_ct_v16 : UInt64} {w3t_c95_ct_v17 : UInt64} {w3t_v103 : Int32} {w3t_v104 : Int64} {w3t_v107 : Int64} {w3t_v110 : Int64} {w3t_v112 : Int64} {w3t_v113 : Int64} {w3t_v114 : Int64} {w3t_v125 : UInt64} {w3t_v126 : UInt64} (h0 : Heap) (n0 : Nat) (Z0 : n0 ≤ h0.size)  (w3t_hv3 : p0 &&& (2147483647 : Int32) = w3t_v3) (w3t_hv5 : w3t_v3 % (5 : Int32) = w3t_v5) (w3t_hn14 : Jvm.Free.Fl.NoNaN64 (FP.ddiv (FP.i2d w3t_v5) (4616189618054758400 : UInt64))) (w3t_hv14 : FP.ddiv (FP.i2d w3t_v5) (4616189618054758400 : UInt64) = w3t_v14) (w3t_hv19 : p3 &&& (1 : Int32) = w3t_v19) (w3t_hb20 : ifCond.holds .eq w3t_v19 = true) (w3t_hv73 : p3 &&& (2 : Int32) = w3t_v73) (w3t_hb74 : ifCond.holds .ne w3t_v73 = false) (w3t_hv80 : p2 &&& (31 : Int32) = w3t_v80) (w3t_hv86 : (1 : Int64) <<< (w3t_v80 &&& 63).toInt64 = w3t_v86) (w3t_c95_ct_hb1 : ifCond.holds .ne p1 = true) (w3t_c95_ct_hn10 : Jvm.Free.Fl.NoNaN64 (FP.dsub 4607182418800017408 w3t_v14)) (w3t_c95_ct_hv10 : FP.dsub 4607182418800017408 w3t_v14 = w3t_c95_ct_v10) (w3t_c95_ct_hn14 : Jvm.Free.Fl.NoNaN64 (FP.dmul w3t_v14 (FP.i2d p1))) (w3t_c95_ct_hv14 : FP.dmul w3t_v14 (FP.i2d p1) = w3t_c95_ct_v14) (w3t_c95_ct_hn16 : Jvm.Free.Fl.NoNaN64 (FP.ddiv w3t_c95_ct_v14 (FP.l2d w3t_v86))) (w3t_c95_ct_hv16 : FP.ddiv w3t_c95_ct_v14 (FP.l2d w3t_v86) = w3t_c95_ct_v16) (w3t_c95_ct_hn17 : Jvm.Free.Fl.NoNaN64 (FP.dadd w3t_c95_ct_v10 w3t_c95_ct_v16)) (w3t_c95_ct_hv17 : FP.dadd w3t_c95_ct_v10 w3t_c95_ct_v16 = w3t_c95_ct_v17) (w3t_hv103 : (4 : Int32) - w3t_v5 = w3t_v103) (w3t_hv104 : Int32.toInt64 w3t_v103 = w3t_v104) (w3t_hv107 : w3t_v104 * w3t_v86 = w3t_v107) (w3t_hv110 : Int32.toInt64 w3t_v5 = w3t_v110) (w3t_hv112 : Int32.toInt64 p1 = w3t_v112) (w3t_hv113 : w3t_v110 * w3t_v112 = w3t_v113) (w3t_hv114 : w3t_v107 + w3t_v113 = w3t_v114) (w3t_hn125 : Jvm.Free.Fl.NoNaN64 (FP.dmul (4616189618054758400 : UInt64) (FP.l2d w3t_v86))) (w3t_hv125 : FP.dmul (4616189618054758400 : UInt64) (FP.l2d w3t_v86) = w3t_v125) (w3t_hn126 : Jvm.Free.Fl.NoNaN64 (FP.dmul w3t_c95_ct_v17 w3t_v125)) (w3t_hv126 : FP.dmul w3t_c95_ct_v17 w3t_v125 = w3t_v126) (w3t_hc130 : Op.cmpValue (FP.dcmp w3t_v126 (FP.l2d w3t_v114)) .l = (0 : Int32)) :
    MetFree l x (head1 (Jvm.Cond.code x code maxLocals ret :: ws) room_1) (fun a U => a = #[(.int p0), (.int p1), (.int p2), (.int p3)] ∧ Z.Warmed39 U.vm ∧ U.heap = h0) (fun _ _ _ _ _ => True) (fun _ U o U' => ∃ v L, o = .returned v ∧ own_Q0 n0 v U'.heap L ∧ FrameEnd U o U' L room_1.cells room_1.slots) := by
  refine MetFree.of_bodySF (plainFor_of_name own_pn_com_example_tally_odds_tallyodds_Bm25LengthNormPinLaw) hisR ?_
  intro p e s m args below meth c s₁ Bd hml0 hP hK
  obtain ⟨rfl, hZ, hh⟩ := hP
  have hx := Bd.exec
  have hby := Bd.bytes
  have hml : c.maxLocals = 14 := hml0
  have hown : s.vm.findClass "com/example/tally_odds/tallyodds/Bm25LengthNormPinLaw" = some m.cls := findClass_of_methodNamed Bd.named
  have hnm := (name_of_methodNamed Bd.named Bd.method).1
  have X0 : Stand p l e room_1 s m #[(.int p0), (.int p1), (.int p2), (.int p3)] below meth c s₁ [] 0 0 := Stand.of_body Bd
  have e0 : s₁.heap = h0 := by rw [← hh, Bd.state]; rfl
  have N0 := Fr.nil n0
  have pre0 : ∀ t, Steps p.tables e below (s₁.setTop (mkF m 0 #[.val (.int p0), .val (.int p1), .val (.int p2), .val (.int p3), .unset, .unset, .unset, .unset, .unset, .unset, .unset, .unset, .unset, .unset] [])) t → Steps p.tables e below (s₁.setTop (entryFrame m #[(.int p0), (.int p1), (.int p2), (.int p3)] maxLocals)) t := fun t k => castTop (own_ef_w3t m p0 p1 p2 p3) k
  obtain ⟨_, _, ⟨Tw3t1, Lw3t1, kw3t1, nw3t1⟩, -, Xw3t1, ⟨Lcw3t1, hQw3t1, lw3t1, yw3t1, zw3t1⟩, stw3t1⟩ := Jvm.LawKit.callS X0 hx (y := (⟨"com/example/tally_odds/tallyodds/Bm25", "lengthNorm", "(DID)D"⟩ : MethodName)) hown (mvT hZ (hw _ (List.mem_of_getElem? (i := 2) rfl))) (mvT hZ (hw _ (List.mem_of_getElem? (i := 3) rfl))) (mvT hZ (hw _ (List.mem_of_getElem? (i := 4) rfl))) (mvT hZ (hw _ (List.mem_of_getElem? (i := 5) rfl))) (by decide) (backOf (W := 0) (own_rm_ct l Z a0 hw [] w3t_v14 p1 (FP.l2d w3t_v86) h0 n0 Z0 w3t_c95_ct_hb1 w3t_c95_ct_hn10 w3t_c95_ct_hv10 w3t_c95_ct_hn14 w3t_c95_ct_hv14 w3t_c95_ct_hn16 w3t_c95_ct_hv16 w3t_c95_ct_hn17 w3t_c95_ct_hv17) hZ (hw _ (List.mem_of_getElem? (i := 5) rfl)) (hw _ (List.mem_of_getElem? (i := 4) rfl)) (by decide) (by decide)) (g := (mkF m 95 #[.val (.int p0), .val (.int p1), .val (.int p2), .val (.int p3), .val (.int w3t_v5), .val (.double w3t_v14), .second, .val (.int w3t_v80), .val (.long w3t_v86), .second, .unset, .unset, .unset, .unset] [(.double (FP.l2d w3t_v86)), (.int p1), (.double w3t_v14)])) rfl (by rw [hml]; rfl) (argsL := [(.double w3t_v14), (.int p1), (.double (FP.l2d w3t_v86))]) (rest := []) (lenOf own_pd_28DID29D rfl) rfl (by show 2 * 0 + _ ≤ _; exact Nat.le_of_eq rfl) (hb hby at_95) (fun _ _ => ⟨rfl, e0, (by decide : 0 + 0 ≤ _), (by decide : 0 + 0 ≤ _)⟩)
  dsimp only [Pt.U, Pt.locs, Pt.cells, Pt.slots] at Xw3t1 lw3t1 yw3t1 zw3t1 stw3t1 hQw3t1
  subst lw3t1 yw3t1 zw3t1
  obtain ⟨rfl, Nw3t1q, ew3t1⟩ := hQw3t1
  have Nw3t1 := Fr.app N0 Nw3t1q
  obtain ⟨fs, hr, hrun, hended, hW, hsame⟩ := Xw3t1.leave (v := some (.int (1 : Int32))) (fun h => by rw [Bd.returns] at h; cases h)
  refine ⟨_, _, pre0 _ ?_, hrun, hended, _, _, rfl, ?_, ⟨_, rfl⟩, hW, hsame.mono (by decide) (by decide)⟩
  · refine own_s_iloadN X0.here hx (hb hby at_0) (pc' := 1) rfl rfl ?_
    refine X0.ldcInt hx hown (mvT hZ (hw _ (List.mem_of_getElem? (i := 0) rfl))) (g := (mkF m 1 #[.val (.int p0), .val (.int p1), .val (.int p2), .val (.int p3), .unset, .unset, .unset, .unset, .unset, .unset, .unset, .unset, .unset, .unset] [(.int p0)])) rfl (hb hby at_1) _ ?_
    show Steps p.tables e below (s₁.setTop (mkF m 3 #[.val (.int p0), .val (.int p1), .val (.int p2), .val (.int p3), .unset, .unset, .unset, .unset, .unset, .unset, .unset, .unset, .unset, .unset] [(.int (2147483647 : Int32)), (.int p0)])) _
    refine own_s_iand X0.here hx (hb hby at_3) (pc' := 4) rfl (v := w3t_v3) w3t_hv3 ?_
    refine own_s_iconst X0.here hx (hb hby at_4) (pc' := 5) rfl (v := (5 : Int32)) (by decide) ?_
    refine own_s_irem X0.here hx (hb hby at_5) (pc' := 6) rfl (by decide) (v := w3t_v5) w3t_hv5 ?_
    refine own_s_istore X0.here hx (hb hby at_6) (pc' := 8) rfl (L' := #[.val (.int p0), .val (.int p1), .val (.int p2), .val (.int p3), .val (.int w3t_v5), .unset, .unset, .unset, .unset, .unset, .unset, .unset, .unset, .unset]) rfl ?_
    refine own_s_iload X0.here hx (hb hby at_8) (pc' := 10) rfl rfl ?_
    refine own_s_i2d X0.here hx (hb hby at_10) (pc' := 11) rfl (v := (FP.i2d w3t_v5)) rfl ?_
    refine X0.ldc2DoubleC hx hown (mvT hZ (hw _ (List.mem_of_getElem? (i := 1) rfl))) (g := (mkF m 11 #[.val (.int p0), .val (.int p1), .val (.int p2), .val (.int p3), .val (.int w3t_v5), .unset, .unset, .unset, .unset, .unset, .unset, .unset, .unset, .unset] [(.double (FP.i2d w3t_v5))])) rfl (hb hby at_11) _ ?_
    show Steps p.tables e below (s₁.setTop (mkF m 14 #[.val (.int p0), .val (.int p1), .val (.int p2), .val (.int p3), .val (.int w3t_v5), .unset, .unset, .unset, .unset, .unset, .unset, .unset, .unset, .unset] [(.double (4616189618054758400 : UInt64)), (.double (FP.i2d w3t_v5))])) _
    refine own_s_ddiv X0.here hx (hb hby at_14) (pc' := 15) rfl w3t_hn14 (v := w3t_v14) w3t_hv14 ?_
    refine own_s_dstore X0.here hx (hb hby at_15) (pc' := 17) rfl (L' := #[.val (.int p0), .val (.int p1), .val (.int p2), .val (.int p3), .val (.int w3t_v5), .val (.double w3t_v14), .second, .unset, .unset, .unset, .unset, .unset, .unset, .unset]) rfl ?_
    refine own_s_iloadN X0.here hx (hb hby at_17) (pc' := 18) rfl rfl ?_
    refine own_s_iconst X0.here hx (hb hby at_18) (pc' := 19) rfl (v := (1 : Int32)) (by decide) ?_
    refine own_s_iand X0.here hx (hb hby at_19) (pc' := 20) rfl (v := w3t_v19) w3t_hv19 ?_
    refine own_s_ifYes X0.here hx (hb hby at_20) (by decide) (pc' := 71) (by decide) w3t_hb20 ?_
    refine own_s_iloadN X0.here hx (hb hby at_71) (pc' := 72) rfl rfl ?_
    refine own_s_iconst X0.here hx (hb hby at_72) (pc' := 73) rfl (v := (2 : Int32)) (by decide) ?_
    refine own_s_iand X0.here hx (hb hby at_73) (pc' := 74) rfl (v := w3t_v73) w3t_hv73 ?_
    refine own_s_ifNo X0.here hx (hb hby at_74) (pc' := 77) rfl w3t_hb74 ?_
    refine own_s_iloadN X0.here hx (hb hby at_77) (pc' := 78) rfl rfl ?_
    refine own_s_bipush X0.here hx (hb hby at_78) (pc' := 80) rfl (v := (31 : Int32)) (by decide) ?_
    refine own_s_iand X0.here hx (hb hby at_80) (pc' := 81) rfl (v := w3t_v80) w3t_hv80 ?_
    refine own_s_istore X0.here hx (hb hby at_81) (pc' := 83) rfl (L' := #[.val (.int p0), .val (.int p1), .val (.int p2), .val (.int p3), .val (.int w3t_v5), .val (.double w3t_v14), .second, .val (.int w3t_v80), .unset, .unset, .unset, .unset, .unset, .unset]) rfl ?_
    refine own_s_lconst X0.here hx (hb hby at_83) (pc' := 84) rfl (v := (1 : Int64)) (by decide) ?_
    refine own_s_iload X0.here hx (hb hby at_84) (pc' := 86) rfl rfl ?_
    refine own_s_lshl X0.here hx (hb hby at_86) (pc' := 87) rfl (v := w3t_v86) w3t_hv86 ?_
    refine own_s_lstore X0.here hx (hb hby at_87) (pc' := 89) rfl (L' := #[.val (.int p0), .val (.int p1), .val (.int p2), .val (.int p3), .val (.int w3t_v5), .val (.double w3t_v14), .second, .val (.int w3t_v80), .val (.long w3t_v86), .second, .unset, .unset, .unset, .unset]) rfl ?_
    refine own_s_dload X0.here hx (hb hby at_89) (pc' := 91) rfl rfl ?_
    refine own_s_iloadN X0.here hx (hb hby at_91) (pc' := 92) rfl rfl ?_
    refine own_s_lload X0.here hx (hb hby at_92) (pc' := 94) rfl rfl ?_
    refine own_s_l2d X0.here hx (hb hby at_94) (pc' := 95) rfl (v := (FP.l2d w3t_v86)) rfl ?_
    refine stw3t1 _ ?_
    show Steps p.tables e below (Tw3t1.setTop (mkF m 98 #[.val (.int p0), .val (.int p1), .val (.int p2), .val (.int p3), .val (.int w3t_v5), .val (.double w3t_v14), .second, .val (.int w3t_v80), .val (.long w3t_v86), .second, .unset, .unset, .unset, .unset] [(.double w3t_c95_ct_v17)])) _
    refine own_s_dstore Xw3t1.here hx (hb hby at_98) (pc' := 100) rfl (L' := #[.val (.int p0), .val (.int p1), .val (.int p2), .val (.int p3), .val (.int w3t_v5), .val (.double w3t_v14), .second, .val (.int w3t_v80), .val (.long w3t_v86), .second, .val (.double w3t_c95_ct_v17), .second, .unset, .unset]) rfl ?_
    refine own_s_iconst Xw3t1.here hx (hb hby at_100) (pc' := 101) rfl (v := (4 : Int32)) (by decide) ?_
    refine own_s_iload Xw3t1.here hx (hb hby at_101) (pc' := 103) rfl rfl ?_
    refine own_s_isub Xw3t1.here hx (hb hby at_103) (pc' := 104) rfl (v := w3t_v103) w3t_hv103 ?_
    refine own_s_i2l Xw3t1.here hx (hb hby at_104) (pc' := 105) rfl (v := w3t_v104) w3t_hv104 ?_
    refine own_s_lload Xw3t1.here hx (hb hby at_105) (pc' := 107) rfl rfl ?_
    refine own_s_lmul Xw3t1.here hx (hb hby at_107) (pc' := 108) rfl (v := w3t_v107) w3t_hv107 ?_
    refine own_s_iload Xw3t1.here hx (hb hby at_108) (pc' := 110) rfl rfl ?_
    refine own_s_i2l Xw3t1.here hx (hb hby at_110) (pc' := 111) rfl (v := w3t_v110) w3t_hv110 ?_
    refine own_s_iloadN Xw3t1.here hx (hb hby at_111) (pc' := 112) rfl rfl ?_
    refine own_s_i2l Xw3t1.here hx (hb hby at_112) (pc' := 113) rfl (v := w3t_v112) w3t_hv112 ?_
    refine own_s_lmul Xw3t1.here hx (hb hby at_113) (pc' := 114) rfl (v := w3t_v113) w3t_hv113 ?_
    refine own_s_ladd Xw3t1.here hx (hb hby at_114) (pc' := 115) rfl (v := w3t_v114) w3t_hv114 ?_
    refine own_s_lstore Xw3t1.here hx (hb hby at_115) (pc' := 117) rfl (L' := #[.val (.int p0), .val (.int p1), .val (.int p2), .val (.int p3), .val (.int w3t_v5), .val (.double w3t_v14), .second, .val (.int w3t_v80), .val (.long w3t_v86), .second, .val (.double w3t_c95_ct_v17), .second, .val (.long w3t_v114), .second]) rfl ?_
    refine own_s_dload Xw3t1.here hx (hb hby at_117) (pc' := 119) rfl rfl ?_
    refine Xw3t1.ldc2DoubleC hx hown (mvT hZ (hw _ (List.mem_of_getElem? (i := 1) rfl))) (g := (mkF m 119 #[.val (.int p0), .val (.int p1), .val (.int p2), .val (.int p3), .val (.int w3t_v5), .val (.double w3t_v14), .second, .val (.int w3t_v80), .val (.long w3t_v86), .second, .val (.double w3t_c95_ct_v17), .second, .val (.long w3t_v114), .second] [(.double w3t_c95_ct_v17)])) rfl (hb hby at_119) _ ?_
    show Steps p.tables e below (Tw3t1.setTop (mkF m 122 #[.val (.int p0), .val (.int p1), .val (.int p2), .val (.int p3), .val (.int w3t_v5), .val (.double w3t_v14), .second, .val (.int w3t_v80), .val (.long w3t_v86), .second, .val (.double w3t_c95_ct_v17), .second, .val (.long w3t_v114), .second] [(.double (4616189618054758400 : UInt64)), (.double w3t_c95_ct_v17)])) _
    refine own_s_lload Xw3t1.here hx (hb hby at_122) (pc' := 124) rfl rfl ?_
    refine own_s_l2d Xw3t1.here hx (hb hby at_124) (pc' := 125) rfl (v := (FP.l2d w3t_v86)) rfl ?_
    refine own_s_dmul Xw3t1.here hx (hb hby at_125) (pc' := 126) rfl w3t_hn125 (v := w3t_v125) w3t_hv125 ?_
    refine own_s_dmul Xw3t1.here hx (hb hby at_126) (pc' := 127) rfl w3t_hn126 (v := w3t_v126) w3t_hv126 ?_
    refine own_s_lload Xw3t1.here hx (hb hby at_127) (pc' := 129) rfl rfl ?_
    refine own_s_l2d Xw3t1.here hx (hb hby at_129) (pc' := 130) rfl (v := (FP.l2d w3t_v114)) rfl ?_
    refine own_s_dcmp Xw3t1.here hx (hb hby at_130) (pc' := 131) rfl (v := (0 : Int32)) w3t_hc130 ?_
    refine own_s_ifNo Xw3t1.here hx (hb hby at_131) (pc' := 134) rfl (by decide) ?_
    refine own_s_iconst Xw3t1.here hx (hb hby at_134) (pc' := 135) rfl (v := (1 : Int32)) (by decide) ?_
    refine own_s_goto Xw3t1.here hx (hb hby at_135) (by decide) (pc' := 139) (by decide) ?_
    exact retN Xw3t1 hx (t := .boolean) Bd.returns (by simp) (hb hby at_139) hr
  · show own_Q0 n0 _ Tw3t1.heap _
    rw [ew3t1]
    exact ⟨rfl, Nw3t1⟩
theorem own_ef_w3f (m : MethodId) (p0 : Int32) (p1 : Int32) (p2 : Int32) (p3 : Int32) : entryFrame m #[(.int p0), (.int p1), (.int p2), (.int p3)] maxLocals = mkF m 0 #[.val (.int p0), .val (.int p1), .val (.int p2), .val (.int p3), .unset, .unset, .unset, .unset, .unset, .unset, .unset, .unset, .unset, .unset] [] := by first | (simp [entryFrame, mkF, argsToLocals, Value.category, maxLocals]; done) | rfl
set_option maxRecDepth 65536 in
set_option maxHeartbeats 40000000 in
theorem own_rm_w3f (l : Launch) (Z : State) (a0 : Array Value) (hw : ∀ d ∈ tables_1, d.before a0 Z = true) (ws : List Jvm.Cond) (p0 : Int32) (p1 : Int32) (p2 : Int32) (p3 : Int32) {w3f_v3 : Int32} {w3f_v5 : Int32} {w3f_v14 : UInt64} {w3f_v19 : Int32} {w3f_v73 : Int32} {w3f_v80 : Int32} {w3f_v86 : Int64} {w3f_c95_cf_v6 : UInt64} {w3f_v103 : Int32} {w3f_v104 : Int64} {w3f_v107 : Int64} {w3f_v110 : Int64} {w3f_v112 : Int64} {w3f_v113 : Int64} {w3f_v114 : Int64} {w3f_v125 : UInt64} {w3f_v126 : UInt64} (h0 : Heap) (n0 : Nat) (Z0 : n0 ≤ h0.size)  (w3f_hv3 : p0 &&& (2147483647 : Int32) = w3f_v3) (w3f_hv5 : w3f_v3 % (5 : Int32) = w3f_v5) (w3f_hn14 : Jvm.Free.Fl.NoNaN64 (FP.ddiv (FP.i2d w3f_v5) (4616189618054758400 : UInt64))) (w3f_hv14 : FP.ddiv (FP.i2d w3f_v5) (4616189618054758400 : UInt64) = w3f_v14) (w3f_hv19 : p3 &&& (1 : Int32) = w3f_v19) (w3f_hb20 : ifCond.holds .eq w3f_v19 = true) (w3f_hv73 : p3 &&& (2 : Int32) = w3f_v73) (w3f_hb74 : ifCond.holds .ne w3f_v73 = false) (w3f_hv80 : p2 &&& (31 : Int32) = w3f_v80) (w3f_hv86 : (1 : Int64) <<< (w3f_v80 &&& 63).toInt64 = w3f_v86) (w3f_c95_cf_hb1 : ifCond.holds .ne p1 = false) (w3f_c95_cf_hn6 : Jvm.Free.Fl.NoNaN64 (FP.dsub 4607182418800017408 w3f_v14)) (w3f_c95_cf_hv6 : FP.dsub 4607182418800017408 w3f_v14 = w3f_c95_cf_v6) (w3f_hv103 : (4 : Int32) - w3f_v5 = w3f_v103) (w3f_hv104 : Int32.toInt64 w3f_v103 = w3f_v104) (w3f_hv107 : w3f_v104 * w3f_v86 = w3f_v107) (w3f_hv110 : Int32.toInt64 w3f_v5 = w3f_v110) (w3f_hv112 : Int32.toInt64 p1 = w3f_v112) (w3f_hv113 : w3f_v110 * w3f_v112 = w3f_v113) (w3f_hv114 : w3f_v107 + w3f_v113 = w3f_v114) (w3f_hn125 : Jvm.Free.Fl.NoNaN64 (FP.dmul (4616189618054758400 : UInt64) (FP.l2d w3f_v86))) (w3f_hv125 : FP.dmul (4616189618054758400 : UInt64) (FP.l2d w3f_v86) = w3f_v125) (w3f_hn126 : Jvm.Free.Fl.NoNaN64 (FP.dmul w3f_c95_cf_v6 w3f_v125)) (w3f_hv126 : FP.dmul w3f_c95_cf_v6 w3f_v125 = w3f_v126) (w3f_hc130 : Op.cmpValue (FP.dcmp w3f_v126 (FP.l2d w3f_v114)) .l = (0 : Int32)) :
    MetFree l x (head1 (Jvm.Cond.code x code maxLocals ret :: ws) room_1) (fun a U => a = #[(.int p0), (.int p1), (.int p2), (.int p3)] ∧ Z.Warmed39 U.vm ∧ U.heap = h0) (fun _ _ _ _ _ => True) (fun _ U o U' => ∃ v L, o = .returned v ∧ own_Q0 n0 v U'.heap L ∧ FrameEnd U o U' L room_1.cells room_1.slots) := by
  refine MetFree.of_bodySF (plainFor_of_name own_pn_com_example_tally_odds_tallyodds_Bm25LengthNormPinLaw) hisR ?_
  intro p e s m args below meth c s₁ Bd hml0 hP hK
  obtain ⟨rfl, hZ, hh⟩ := hP
  have hx := Bd.exec
  have hby := Bd.bytes
  have hml : c.maxLocals = 14 := hml0
  have hown : s.vm.findClass "com/example/tally_odds/tallyodds/Bm25LengthNormPinLaw" = some m.cls := findClass_of_methodNamed Bd.named
  have hnm := (name_of_methodNamed Bd.named Bd.method).1
  have X0 : Stand p l e room_1 s m #[(.int p0), (.int p1), (.int p2), (.int p3)] below meth c s₁ [] 0 0 := Stand.of_body Bd
  have e0 : s₁.heap = h0 := by rw [← hh, Bd.state]; rfl
  have N0 := Fr.nil n0
  have pre0 : ∀ t, Steps p.tables e below (s₁.setTop (mkF m 0 #[.val (.int p0), .val (.int p1), .val (.int p2), .val (.int p3), .unset, .unset, .unset, .unset, .unset, .unset, .unset, .unset, .unset, .unset] [])) t → Steps p.tables e below (s₁.setTop (entryFrame m #[(.int p0), (.int p1), (.int p2), (.int p3)] maxLocals)) t := fun t k => castTop (own_ef_w3f m p0 p1 p2 p3) k
  obtain ⟨_, _, ⟨Tw3f1, Lw3f1, kw3f1, nw3f1⟩, -, Xw3f1, ⟨Lcw3f1, hQw3f1, lw3f1, yw3f1, zw3f1⟩, stw3f1⟩ := Jvm.LawKit.callS X0 hx (y := (⟨"com/example/tally_odds/tallyodds/Bm25", "lengthNorm", "(DID)D"⟩ : MethodName)) hown (mvT hZ (hw _ (List.mem_of_getElem? (i := 2) rfl))) (mvT hZ (hw _ (List.mem_of_getElem? (i := 3) rfl))) (mvT hZ (hw _ (List.mem_of_getElem? (i := 4) rfl))) (mvT hZ (hw _ (List.mem_of_getElem? (i := 5) rfl))) (by decide) (backOf (W := 0) (own_rm_cf l Z a0 hw [] w3f_v14 p1 (FP.l2d w3f_v86) h0 n0 Z0 w3f_c95_cf_hb1 w3f_c95_cf_hn6 w3f_c95_cf_hv6) hZ (hw _ (List.mem_of_getElem? (i := 5) rfl)) (hw _ (List.mem_of_getElem? (i := 4) rfl)) (by decide) (by decide)) (g := (mkF m 95 #[.val (.int p0), .val (.int p1), .val (.int p2), .val (.int p3), .val (.int w3f_v5), .val (.double w3f_v14), .second, .val (.int w3f_v80), .val (.long w3f_v86), .second, .unset, .unset, .unset, .unset] [(.double (FP.l2d w3f_v86)), (.int p1), (.double w3f_v14)])) rfl (by rw [hml]; rfl) (argsL := [(.double w3f_v14), (.int p1), (.double (FP.l2d w3f_v86))]) (rest := []) (lenOf own_pd_28DID29D rfl) rfl (by show 2 * 0 + _ ≤ _; exact Nat.le_of_eq rfl) (hb hby at_95) (fun _ _ => ⟨rfl, e0, (by decide : 0 + 0 ≤ _), (by decide : 0 + 0 ≤ _)⟩)
  dsimp only [Pt.U, Pt.locs, Pt.cells, Pt.slots] at Xw3f1 lw3f1 yw3f1 zw3f1 stw3f1 hQw3f1
  subst lw3f1 yw3f1 zw3f1
  obtain ⟨rfl, Nw3f1q, ew3f1⟩ := hQw3f1
  have Nw3f1 := Fr.app N0 Nw3f1q
  obtain ⟨fs, hr, hrun, hended, hW, hsame⟩ := Xw3f1.leave (v := some (.int (1 : Int32))) (fun h => by rw [Bd.returns] at h; cases h)
  refine ⟨_, _, pre0 _ ?_, hrun, hended, _, _, rfl, ?_, ⟨_, rfl⟩, hW, hsame.mono (by decide) (by decide)⟩
  · refine own_s_iloadN X0.here hx (hb hby at_0) (pc' := 1) rfl rfl ?_
    refine X0.ldcInt hx hown (mvT hZ (hw _ (List.mem_of_getElem? (i := 0) rfl))) (g := (mkF m 1 #[.val (.int p0), .val (.int p1), .val (.int p2), .val (.int p3), .unset, .unset, .unset, .unset, .unset, .unset, .unset, .unset, .unset, .unset] [(.int p0)])) rfl (hb hby at_1) _ ?_
    show Steps p.tables e below (s₁.setTop (mkF m 3 #[.val (.int p0), .val (.int p1), .val (.int p2), .val (.int p3), .unset, .unset, .unset, .unset, .unset, .unset, .unset, .unset, .unset, .unset] [(.int (2147483647 : Int32)), (.int p0)])) _
    refine own_s_iand X0.here hx (hb hby at_3) (pc' := 4) rfl (v := w3f_v3) w3f_hv3 ?_
    refine own_s_iconst X0.here hx (hb hby at_4) (pc' := 5) rfl (v := (5 : Int32)) (by decide) ?_
    refine own_s_irem X0.here hx (hb hby at_5) (pc' := 6) rfl (by decide) (v := w3f_v5) w3f_hv5 ?_
    refine own_s_istore X0.here hx (hb hby at_6) (pc' := 8) rfl (L' := #[.val (.int p0), .val (.int p1), .val (.int p2), .val (.int p3), .val (.int w3f_v5), .unset, .unset, .unset, .unset, .unset, .unset, .unset, .unset, .unset]) rfl ?_
    refine own_s_iload X0.here hx (hb hby at_8) (pc' := 10) rfl rfl ?_
    refine own_s_i2d X0.here hx (hb hby at_10) (pc' := 11) rfl (v := (FP.i2d w3f_v5)) rfl ?_
    refine X0.ldc2DoubleC hx hown (mvT hZ (hw _ (List.mem_of_getElem? (i := 1) rfl))) (g := (mkF m 11 #[.val (.int p0), .val (.int p1), .val (.int p2), .val (.int p3), .val (.int w3f_v5), .unset, .unset, .unset, .unset, .unset, .unset, .unset, .unset, .unset] [(.double (FP.i2d w3f_v5))])) rfl (hb hby at_11) _ ?_
    show Steps p.tables e below (s₁.setTop (mkF m 14 #[.val (.int p0), .val (.int p1), .val (.int p2), .val (.int p3), .val (.int w3f_v5), .unset, .unset, .unset, .unset, .unset, .unset, .unset, .unset, .unset] [(.double (4616189618054758400 : UInt64)), (.double (FP.i2d w3f_v5))])) _
    refine own_s_ddiv X0.here hx (hb hby at_14) (pc' := 15) rfl w3f_hn14 (v := w3f_v14) w3f_hv14 ?_
    refine own_s_dstore X0.here hx (hb hby at_15) (pc' := 17) rfl (L' := #[.val (.int p0), .val (.int p1), .val (.int p2), .val (.int p3), .val (.int w3f_v5), .val (.double w3f_v14), .second, .unset, .unset, .unset, .unset, .unset, .unset, .unset]) rfl ?_
    refine own_s_iloadN X0.here hx (hb hby at_17) (pc' := 18) rfl rfl ?_
    refine own_s_iconst X0.here hx (hb hby at_18) (pc' := 19) rfl (v := (1 : Int32)) (by decide) ?_
    refine own_s_iand X0.here hx (hb hby at_19) (pc' := 20) rfl (v := w3f_v19) w3f_hv19 ?_
    refine own_s_ifYes X0.here hx (hb hby at_20) (by decide) (pc' := 71) (by decide) w3f_hb20 ?_
    refine own_s_iloadN X0.here hx (hb hby at_71) (pc' := 72) rfl rfl ?_
    refine own_s_iconst X0.here hx (hb hby at_72) (pc' := 73) rfl (v := (2 : Int32)) (by decide) ?_
    refine own_s_iand X0.here hx (hb hby at_73) (pc' := 74) rfl (v := w3f_v73) w3f_hv73 ?_
    refine own_s_ifNo X0.here hx (hb hby at_74) (pc' := 77) rfl w3f_hb74 ?_
    refine own_s_iloadN X0.here hx (hb hby at_77) (pc' := 78) rfl rfl ?_
    refine own_s_bipush X0.here hx (hb hby at_78) (pc' := 80) rfl (v := (31 : Int32)) (by decide) ?_
    refine own_s_iand X0.here hx (hb hby at_80) (pc' := 81) rfl (v := w3f_v80) w3f_hv80 ?_
    refine own_s_istore X0.here hx (hb hby at_81) (pc' := 83) rfl (L' := #[.val (.int p0), .val (.int p1), .val (.int p2), .val (.int p3), .val (.int w3f_v5), .val (.double w3f_v14), .second, .val (.int w3f_v80), .unset, .unset, .unset, .unset, .unset, .unset]) rfl ?_
    refine own_s_lconst X0.here hx (hb hby at_83) (pc' := 84) rfl (v := (1 : Int64)) (by decide) ?_
    refine own_s_iload X0.here hx (hb hby at_84) (pc' := 86) rfl rfl ?_
    refine own_s_lshl X0.here hx (hb hby at_86) (pc' := 87) rfl (v := w3f_v86) w3f_hv86 ?_
    refine own_s_lstore X0.here hx (hb hby at_87) (pc' := 89) rfl (L' := #[.val (.int p0), .val (.int p1), .val (.int p2), .val (.int p3), .val (.int w3f_v5), .val (.double w3f_v14), .second, .val (.int w3f_v80), .val (.long w3f_v86), .second, .unset, .unset, .unset, .unset]) rfl ?_
    refine own_s_dload X0.here hx (hb hby at_89) (pc' := 91) rfl rfl ?_
    refine own_s_iloadN X0.here hx (hb hby at_91) (pc' := 92) rfl rfl ?_
    refine own_s_lload X0.here hx (hb hby at_92) (pc' := 94) rfl rfl ?_
    refine own_s_l2d X0.here hx (hb hby at_94) (pc' := 95) rfl (v := (FP.l2d w3f_v86)) rfl ?_
    refine stw3f1 _ ?_
    show Steps p.tables e below (Tw3f1.setTop (mkF m 98 #[.val (.int p0), .val (.int p1), .val (.int p2), .val (.int p3), .val (.int w3f_v5), .val (.double w3f_v14), .second, .val (.int w3f_v80), .val (.long w3f_v86), .second, .unset, .unset, .unset, .unset] [(.double w3f_c95_cf_v6)])) _
    refine own_s_dstore Xw3f1.here hx (hb hby at_98) (pc' := 100) rfl (L' := #[.val (.int p0), .val (.int p1), .val (.int p2), .val (.int p3), .val (.int w3f_v5), .val (.double w3f_v14), .second, .val (.int w3f_v80), .val (.long w3f_v86), .second, .val (.double w3f_c95_cf_v6), .second, .unset, .unset]) rfl ?_
    refine own_s_iconst Xw3f1.here hx (hb hby at_100) (pc' := 101) rfl (v := (4 : Int32)) (by decide) ?_
    refine own_s_iload Xw3f1.here hx (hb hby at_101) (pc' := 103) rfl rfl ?_
    refine own_s_isub Xw3f1.here hx (hb hby at_103) (pc' := 104) rfl (v := w3f_v103) w3f_hv103 ?_
    refine own_s_i2l Xw3f1.here hx (hb hby at_104) (pc' := 105) rfl (v := w3f_v104) w3f_hv104 ?_
    refine own_s_lload Xw3f1.here hx (hb hby at_105) (pc' := 107) rfl rfl ?_
    refine own_s_lmul Xw3f1.here hx (hb hby at_107) (pc' := 108) rfl (v := w3f_v107) w3f_hv107 ?_
    refine own_s_iload Xw3f1.here hx (hb hby at_108) (pc' := 110) rfl rfl ?_
    refine own_s_i2l Xw3f1.here hx (hb hby at_110) (pc' := 111) rfl (v := w3f_v110) w3f_hv110 ?_
    refine own_s_iloadN Xw3f1.here hx (hb hby at_111) (pc' := 112) rfl rfl ?_
    refine own_s_i2l Xw3f1.here hx (hb hby at_112) (pc' := 113) rfl (v := w3f_v112) w3f_hv112 ?_
    refine own_s_lmul Xw3f1.here hx (hb hby at_113) (pc' := 114) rfl (v := w3f_v113) w3f_hv113 ?_
    refine own_s_ladd Xw3f1.here hx (hb hby at_114) (pc' := 115) rfl (v := w3f_v114) w3f_hv114 ?_
    refine own_s_lstore Xw3f1.here hx (hb hby at_115) (pc' := 117) rfl (L' := #[.val (.int p0), .val (.int p1), .val (.int p2), .val (.int p3), .val (.int w3f_v5), .val (.double w3f_v14), .second, .val (.int w3f_v80), .val (.long w3f_v86), .second, .val (.double w3f_c95_cf_v6), .second, .val (.long w3f_v114), .second]) rfl ?_
    refine own_s_dload Xw3f1.here hx (hb hby at_117) (pc' := 119) rfl rfl ?_
    refine Xw3f1.ldc2DoubleC hx hown (mvT hZ (hw _ (List.mem_of_getElem? (i := 1) rfl))) (g := (mkF m 119 #[.val (.int p0), .val (.int p1), .val (.int p2), .val (.int p3), .val (.int w3f_v5), .val (.double w3f_v14), .second, .val (.int w3f_v80), .val (.long w3f_v86), .second, .val (.double w3f_c95_cf_v6), .second, .val (.long w3f_v114), .second] [(.double w3f_c95_cf_v6)])) rfl (hb hby at_119) _ ?_
    show Steps p.tables e below (Tw3f1.setTop (mkF m 122 #[.val (.int p0), .val (.int p1), .val (.int p2), .val (.int p3), .val (.int w3f_v5), .val (.double w3f_v14), .second, .val (.int w3f_v80), .val (.long w3f_v86), .second, .val (.double w3f_c95_cf_v6), .second, .val (.long w3f_v114), .second] [(.double (4616189618054758400 : UInt64)), (.double w3f_c95_cf_v6)])) _
    refine own_s_lload Xw3f1.here hx (hb hby at_122) (pc' := 124) rfl rfl ?_
    refine own_s_l2d Xw3f1.here hx (hb hby at_124) (pc' := 125) rfl (v := (FP.l2d w3f_v86)) rfl ?_
    refine own_s_dmul Xw3f1.here hx (hb hby at_125) (pc' := 126) rfl w3f_hn125 (v := w3f_v125) w3f_hv125 ?_
    refine own_s_dmul Xw3f1.here hx (hb hby at_126) (pc' := 127) rfl w3f_hn126 (v := w3f_v126) w3f_hv126 ?_
    refine own_s_lload Xw3f1.here hx (hb hby at_127) (pc' := 129) rfl rfl ?_
    refine own_s_l2d Xw3f1.here hx (hb hby at_129) (pc' := 130) rfl (v := (FP.l2d w3f_v114)) rfl ?_
    refine own_s_dcmp Xw3f1.here hx (hb hby at_130) (pc' := 131) rfl (v := (0 : Int32)) w3f_hc130 ?_
    refine own_s_ifNo Xw3f1.here hx (hb hby at_131) (pc' := 134) rfl (by decide) ?_
    refine own_s_iconst Xw3f1.here hx (hb hby at_134) (pc' := 135) rfl (v := (1 : Int32)) (by decide) ?_
    refine own_s_goto Xw3f1.here hx (hb hby at_135) (by decide) (pc' := 139) (by decide) ?_
    exact retN Xw3f1 hx (t := .boolean) Bd.returns (by simp) (hb hby at_139) hr
  · show own_Q0 n0 _ Tw3f1.heap _
    rw [ew3f1]
    exact ⟨rfl, Nw3f1⟩
theorem own_ef_w4t (m : MethodId) (p0 : Int32) (p1 : Int32) (p2 : Int32) (p3 : Int32) : entryFrame m #[(.int p0), (.int p1), (.int p2), (.int p3)] maxLocals = mkF m 0 #[.val (.int p0), .val (.int p1), .val (.int p2), .val (.int p3), .unset, .unset, .unset, .unset, .unset, .unset, .unset, .unset, .unset, .unset] [] := by first | (simp [entryFrame, mkF, argsToLocals, Value.category, maxLocals]; done) | rfl
set_option maxRecDepth 65536 in
set_option maxHeartbeats 40000000 in
theorem own_rm_w4t (l : Launch) (Z : State) (a0 : Array Value) (hw : ∀ d ∈ tables_1, d.before a0 Z = true) (ws : List Jvm.Cond) (p0 : Int32) (p1 : Int32) (p2 : Int32) (p3 : Int32) {w4t_v3 : Int32} {w4t_v5 : Int32} {w4t_v14 : UInt64} {w4t_v19 : Int32} {w4t_v73 : Int32} {w4t_v143 : Int32} {w4t_v150 : Int64} {w4t_v152 : UInt64} {w4t_c160_ct_v10 : UInt64} {w4t_c160_ct_v14 : UInt64} {w4t_c160_ct_v16 : UInt64} {w4t_c160_ct_v17 : UInt64} {w4t_v168 : Int32} {w4t_v169 : Int64} {w4t_v172 : Int64} {w4t_v174 : Int64} {w4t_v175 : Int64} {w4t_v178 : Int64} {w4t_v179 : Int64} {w4t_v187 : UInt64} (h0 : Heap) (n0 : Nat) (Z0 : n0 ≤ h0.size)  (w4t_hv3 : p0 &&& (2147483647 : Int32) = w4t_v3) (w4t_hv5 : w4t_v3 % (5 : Int32) = w4t_v5) (w4t_hn14 : Jvm.Free.Fl.NoNaN64 (FP.ddiv (FP.i2d w4t_v5) (4616189618054758400 : UInt64))) (w4t_hv14 : FP.ddiv (FP.i2d w4t_v5) (4616189618054758400 : UInt64) = w4t_v14) (w4t_hv19 : p3 &&& (1 : Int32) = w4t_v19) (w4t_hb20 : ifCond.holds .eq w4t_v19 = true) (w4t_hv73 : p3 &&& (2 : Int32) = w4t_v73) (w4t_hb74 : ifCond.holds .ne w4t_v73 = true) (w4t_hv143 : p2 &&& (15 : Int32) = w4t_v143) (w4t_hv150 : (1 : Int64) <<< (w4t_v143 &&& 63).toInt64 = w4t_v150) (w4t_hn152 : Jvm.Free.Fl.NoNaN64 (FP.ddiv 4607182418800017408 (FP.l2d w4t_v150))) (w4t_hv152 : FP.ddiv 4607182418800017408 (FP.l2d w4t_v150) = w4t_v152) (w4t_c160_ct_hb1 : ifCond.holds .ne p1 = true) (w4t_c160_ct_hn10 : Jvm.Free.Fl.NoNaN64 (FP.dsub 4607182418800017408 w4t_v14)) (w4t_c160_ct_hv10 : FP.dsub 4607182418800017408 w4t_v14 = w4t_c160_ct_v10) (w4t_c160_ct_hn14 : Jvm.Free.Fl.NoNaN64 (FP.dmul w4t_v14 (FP.i2d p1))) (w4t_c160_ct_hv14 : FP.dmul w4t_v14 (FP.i2d p1) = w4t_c160_ct_v14) (w4t_c160_ct_hn16 : Jvm.Free.Fl.NoNaN64 (FP.ddiv w4t_c160_ct_v14 w4t_v152)) (w4t_c160_ct_hv16 : FP.ddiv w4t_c160_ct_v14 w4t_v152 = w4t_c160_ct_v16) (w4t_c160_ct_hn17 : Jvm.Free.Fl.NoNaN64 (FP.dadd w4t_c160_ct_v10 w4t_c160_ct_v16)) (w4t_c160_ct_hv17 : FP.dadd w4t_c160_ct_v10 w4t_c160_ct_v16 = w4t_c160_ct_v17) (w4t_hv168 : (4 : Int32) - w4t_v5 = w4t_v168) (w4t_hv169 : Int32.toInt64 w4t_v168 = w4t_v169) (w4t_hv172 : Int32.toInt64 w4t_v5 = w4t_v172) (w4t_hv174 : Int32.toInt64 p1 = w4t_v174) (w4t_hv175 : w4t_v172 * w4t_v174 = w4t_v175) (w4t_hv178 : w4t_v175 <<< (w4t_v143 &&& 63).toInt64 = w4t_v178) (w4t_hv179 : w4t_v169 + w4t_v178 = w4t_v179) (w4t_hn187 : Jvm.Free.Fl.NoNaN64 (FP.dmul w4t_c160_ct_v17 (4616189618054758400 : UInt64))) (w4t_hv187 : FP.dmul w4t_c160_ct_v17 (4616189618054758400 : UInt64) = w4t_v187) (w4t_hc191 : Op.cmpValue (FP.dcmp w4t_v187 (FP.l2d w4t_v179)) .l = (0 : Int32)) :
    MetFree l x (head1 (Jvm.Cond.code x code maxLocals ret :: ws) room_1) (fun a U => a = #[(.int p0), (.int p1), (.int p2), (.int p3)] ∧ Z.Warmed39 U.vm ∧ U.heap = h0) (fun _ _ _ _ _ => True) (fun _ U o U' => ∃ v L, o = .returned v ∧ own_Q0 n0 v U'.heap L ∧ FrameEnd U o U' L room_1.cells room_1.slots) := by
  refine MetFree.of_bodySF (plainFor_of_name own_pn_com_example_tally_odds_tallyodds_Bm25LengthNormPinLaw) hisR ?_
  intro p e s m args below meth c s₁ Bd hml0 hP hK
  obtain ⟨rfl, hZ, hh⟩ := hP
  have hx := Bd.exec
  have hby := Bd.bytes
  have hml : c.maxLocals = 14 := hml0
  have hown : s.vm.findClass "com/example/tally_odds/tallyodds/Bm25LengthNormPinLaw" = some m.cls := findClass_of_methodNamed Bd.named
  have hnm := (name_of_methodNamed Bd.named Bd.method).1
  have X0 : Stand p l e room_1 s m #[(.int p0), (.int p1), (.int p2), (.int p3)] below meth c s₁ [] 0 0 := Stand.of_body Bd
  have e0 : s₁.heap = h0 := by rw [← hh, Bd.state]; rfl
  have N0 := Fr.nil n0
  have pre0 : ∀ t, Steps p.tables e below (s₁.setTop (mkF m 0 #[.val (.int p0), .val (.int p1), .val (.int p2), .val (.int p3), .unset, .unset, .unset, .unset, .unset, .unset, .unset, .unset, .unset, .unset] [])) t → Steps p.tables e below (s₁.setTop (entryFrame m #[(.int p0), (.int p1), (.int p2), (.int p3)] maxLocals)) t := fun t k => castTop (own_ef_w4t m p0 p1 p2 p3) k
  obtain ⟨_, _, ⟨Tw4t1, Lw4t1, kw4t1, nw4t1⟩, -, Xw4t1, ⟨Lcw4t1, hQw4t1, lw4t1, yw4t1, zw4t1⟩, stw4t1⟩ := Jvm.LawKit.callS X0 hx (y := (⟨"com/example/tally_odds/tallyodds/Bm25", "lengthNorm", "(DID)D"⟩ : MethodName)) hown (mvT hZ (hw _ (List.mem_of_getElem? (i := 2) rfl))) (mvT hZ (hw _ (List.mem_of_getElem? (i := 3) rfl))) (mvT hZ (hw _ (List.mem_of_getElem? (i := 4) rfl))) (mvT hZ (hw _ (List.mem_of_getElem? (i := 5) rfl))) (by decide) (backOf (W := 0) (own_rm_ct l Z a0 hw [] w4t_v14 p1 w4t_v152 h0 n0 Z0 w4t_c160_ct_hb1 w4t_c160_ct_hn10 w4t_c160_ct_hv10 w4t_c160_ct_hn14 w4t_c160_ct_hv14 w4t_c160_ct_hn16 w4t_c160_ct_hv16 w4t_c160_ct_hn17 w4t_c160_ct_hv17) hZ (hw _ (List.mem_of_getElem? (i := 5) rfl)) (hw _ (List.mem_of_getElem? (i := 4) rfl)) (by decide) (by decide)) (g := (mkF m 160 #[.val (.int p0), .val (.int p1), .val (.int p2), .val (.int p3), .val (.int w4t_v5), .val (.double w4t_v14), .second, .val (.int w4t_v143), .val (.double w4t_v152), .second, .unset, .unset, .unset, .unset] [(.double w4t_v152), (.int p1), (.double w4t_v14)])) rfl (by rw [hml]; rfl) (argsL := [(.double w4t_v14), (.int p1), (.double w4t_v152)]) (rest := []) (lenOf own_pd_28DID29D rfl) rfl (by show 2 * 0 + _ ≤ _; exact Nat.le_of_eq rfl) (hb hby at_160) (fun _ _ => ⟨rfl, e0, (by decide : 0 + 0 ≤ _), (by decide : 0 + 0 ≤ _)⟩)
  dsimp only [Pt.U, Pt.locs, Pt.cells, Pt.slots] at Xw4t1 lw4t1 yw4t1 zw4t1 stw4t1 hQw4t1
  subst lw4t1 yw4t1 zw4t1
  obtain ⟨rfl, Nw4t1q, ew4t1⟩ := hQw4t1
  have Nw4t1 := Fr.app N0 Nw4t1q
  obtain ⟨fs, hr, hrun, hended, hW, hsame⟩ := Xw4t1.leave (v := some (.int (1 : Int32))) (fun h => by rw [Bd.returns] at h; cases h)
  refine ⟨_, _, pre0 _ ?_, hrun, hended, _, _, rfl, ?_, ⟨_, rfl⟩, hW, hsame.mono (by decide) (by decide)⟩
  · refine own_s_iloadN X0.here hx (hb hby at_0) (pc' := 1) rfl rfl ?_
    refine X0.ldcInt hx hown (mvT hZ (hw _ (List.mem_of_getElem? (i := 0) rfl))) (g := (mkF m 1 #[.val (.int p0), .val (.int p1), .val (.int p2), .val (.int p3), .unset, .unset, .unset, .unset, .unset, .unset, .unset, .unset, .unset, .unset] [(.int p0)])) rfl (hb hby at_1) _ ?_
    show Steps p.tables e below (s₁.setTop (mkF m 3 #[.val (.int p0), .val (.int p1), .val (.int p2), .val (.int p3), .unset, .unset, .unset, .unset, .unset, .unset, .unset, .unset, .unset, .unset] [(.int (2147483647 : Int32)), (.int p0)])) _
    refine own_s_iand X0.here hx (hb hby at_3) (pc' := 4) rfl (v := w4t_v3) w4t_hv3 ?_
    refine own_s_iconst X0.here hx (hb hby at_4) (pc' := 5) rfl (v := (5 : Int32)) (by decide) ?_
    refine own_s_irem X0.here hx (hb hby at_5) (pc' := 6) rfl (by decide) (v := w4t_v5) w4t_hv5 ?_
    refine own_s_istore X0.here hx (hb hby at_6) (pc' := 8) rfl (L' := #[.val (.int p0), .val (.int p1), .val (.int p2), .val (.int p3), .val (.int w4t_v5), .unset, .unset, .unset, .unset, .unset, .unset, .unset, .unset, .unset]) rfl ?_
    refine own_s_iload X0.here hx (hb hby at_8) (pc' := 10) rfl rfl ?_
    refine own_s_i2d X0.here hx (hb hby at_10) (pc' := 11) rfl (v := (FP.i2d w4t_v5)) rfl ?_
    refine X0.ldc2DoubleC hx hown (mvT hZ (hw _ (List.mem_of_getElem? (i := 1) rfl))) (g := (mkF m 11 #[.val (.int p0), .val (.int p1), .val (.int p2), .val (.int p3), .val (.int w4t_v5), .unset, .unset, .unset, .unset, .unset, .unset, .unset, .unset, .unset] [(.double (FP.i2d w4t_v5))])) rfl (hb hby at_11) _ ?_
    show Steps p.tables e below (s₁.setTop (mkF m 14 #[.val (.int p0), .val (.int p1), .val (.int p2), .val (.int p3), .val (.int w4t_v5), .unset, .unset, .unset, .unset, .unset, .unset, .unset, .unset, .unset] [(.double (4616189618054758400 : UInt64)), (.double (FP.i2d w4t_v5))])) _
    refine own_s_ddiv X0.here hx (hb hby at_14) (pc' := 15) rfl w4t_hn14 (v := w4t_v14) w4t_hv14 ?_
    refine own_s_dstore X0.here hx (hb hby at_15) (pc' := 17) rfl (L' := #[.val (.int p0), .val (.int p1), .val (.int p2), .val (.int p3), .val (.int w4t_v5), .val (.double w4t_v14), .second, .unset, .unset, .unset, .unset, .unset, .unset, .unset]) rfl ?_
    refine own_s_iloadN X0.here hx (hb hby at_17) (pc' := 18) rfl rfl ?_
    refine own_s_iconst X0.here hx (hb hby at_18) (pc' := 19) rfl (v := (1 : Int32)) (by decide) ?_
    refine own_s_iand X0.here hx (hb hby at_19) (pc' := 20) rfl (v := w4t_v19) w4t_hv19 ?_
    refine own_s_ifYes X0.here hx (hb hby at_20) (by decide) (pc' := 71) (by decide) w4t_hb20 ?_
    refine own_s_iloadN X0.here hx (hb hby at_71) (pc' := 72) rfl rfl ?_
    refine own_s_iconst X0.here hx (hb hby at_72) (pc' := 73) rfl (v := (2 : Int32)) (by decide) ?_
    refine own_s_iand X0.here hx (hb hby at_73) (pc' := 74) rfl (v := w4t_v73) w4t_hv73 ?_
    refine own_s_ifYes X0.here hx (hb hby at_74) (by decide) (pc' := 140) (by decide) w4t_hb74 ?_
    refine own_s_iloadN X0.here hx (hb hby at_140) (pc' := 141) rfl rfl ?_
    refine own_s_bipush X0.here hx (hb hby at_141) (pc' := 143) rfl (v := (15 : Int32)) (by decide) ?_
    refine own_s_iand X0.here hx (hb hby at_143) (pc' := 144) rfl (v := w4t_v143) w4t_hv143 ?_
    refine own_s_istore X0.here hx (hb hby at_144) (pc' := 146) rfl (L' := #[.val (.int p0), .val (.int p1), .val (.int p2), .val (.int p3), .val (.int w4t_v5), .val (.double w4t_v14), .second, .val (.int w4t_v143), .unset, .unset, .unset, .unset, .unset, .unset]) rfl ?_
    refine own_s_dconst1 X0.here hx (hb hby at_146) (pc' := 147) rfl  ?_
    refine own_s_lconst X0.here hx (hb hby at_147) (pc' := 148) rfl (v := (1 : Int64)) (by decide) ?_
    refine own_s_iload X0.here hx (hb hby at_148) (pc' := 150) rfl rfl ?_
    refine own_s_lshl X0.here hx (hb hby at_150) (pc' := 151) rfl (v := w4t_v150) w4t_hv150 ?_
    refine own_s_l2d X0.here hx (hb hby at_151) (pc' := 152) rfl (v := (FP.l2d w4t_v150)) rfl ?_
    refine own_s_ddiv X0.here hx (hb hby at_152) (pc' := 153) rfl w4t_hn152 (v := w4t_v152) w4t_hv152 ?_
    refine own_s_dstore X0.here hx (hb hby at_153) (pc' := 155) rfl (L' := #[.val (.int p0), .val (.int p1), .val (.int p2), .val (.int p3), .val (.int w4t_v5), .val (.double w4t_v14), .second, .val (.int w4t_v143), .val (.double w4t_v152), .second, .unset, .unset, .unset, .unset]) rfl ?_
    refine own_s_dload X0.here hx (hb hby at_155) (pc' := 157) rfl rfl ?_
    refine own_s_iloadN X0.here hx (hb hby at_157) (pc' := 158) rfl rfl ?_
    refine own_s_dload X0.here hx (hb hby at_158) (pc' := 160) rfl rfl ?_
    refine stw4t1 _ ?_
    show Steps p.tables e below (Tw4t1.setTop (mkF m 163 #[.val (.int p0), .val (.int p1), .val (.int p2), .val (.int p3), .val (.int w4t_v5), .val (.double w4t_v14), .second, .val (.int w4t_v143), .val (.double w4t_v152), .second, .unset, .unset, .unset, .unset] [(.double w4t_c160_ct_v17)])) _
    refine own_s_dstore Xw4t1.here hx (hb hby at_163) (pc' := 165) rfl (L' := #[.val (.int p0), .val (.int p1), .val (.int p2), .val (.int p3), .val (.int w4t_v5), .val (.double w4t_v14), .second, .val (.int w4t_v143), .val (.double w4t_v152), .second, .val (.double w4t_c160_ct_v17), .second, .unset, .unset]) rfl ?_
    refine own_s_iconst Xw4t1.here hx (hb hby at_165) (pc' := 166) rfl (v := (4 : Int32)) (by decide) ?_
    refine own_s_iload Xw4t1.here hx (hb hby at_166) (pc' := 168) rfl rfl ?_
    refine own_s_isub Xw4t1.here hx (hb hby at_168) (pc' := 169) rfl (v := w4t_v168) w4t_hv168 ?_
    refine own_s_i2l Xw4t1.here hx (hb hby at_169) (pc' := 170) rfl (v := w4t_v169) w4t_hv169 ?_
    refine own_s_iload Xw4t1.here hx (hb hby at_170) (pc' := 172) rfl rfl ?_
    refine own_s_i2l Xw4t1.here hx (hb hby at_172) (pc' := 173) rfl (v := w4t_v172) w4t_hv172 ?_
    refine own_s_iloadN Xw4t1.here hx (hb hby at_173) (pc' := 174) rfl rfl ?_
    refine own_s_i2l Xw4t1.here hx (hb hby at_174) (pc' := 175) rfl (v := w4t_v174) w4t_hv174 ?_
    refine own_s_lmul Xw4t1.here hx (hb hby at_175) (pc' := 176) rfl (v := w4t_v175) w4t_hv175 ?_
    refine own_s_iload Xw4t1.here hx (hb hby at_176) (pc' := 178) rfl rfl ?_
    refine own_s_lshl Xw4t1.here hx (hb hby at_178) (pc' := 179) rfl (v := w4t_v178) w4t_hv178 ?_
    refine own_s_ladd Xw4t1.here hx (hb hby at_179) (pc' := 180) rfl (v := w4t_v179) w4t_hv179 ?_
    refine own_s_lstore Xw4t1.here hx (hb hby at_180) (pc' := 182) rfl (L' := #[.val (.int p0), .val (.int p1), .val (.int p2), .val (.int p3), .val (.int w4t_v5), .val (.double w4t_v14), .second, .val (.int w4t_v143), .val (.double w4t_v152), .second, .val (.double w4t_c160_ct_v17), .second, .val (.long w4t_v179), .second]) rfl ?_
    refine own_s_dload Xw4t1.here hx (hb hby at_182) (pc' := 184) rfl rfl ?_
    refine Xw4t1.ldc2DoubleC hx hown (mvT hZ (hw _ (List.mem_of_getElem? (i := 1) rfl))) (g := (mkF m 184 #[.val (.int p0), .val (.int p1), .val (.int p2), .val (.int p3), .val (.int w4t_v5), .val (.double w4t_v14), .second, .val (.int w4t_v143), .val (.double w4t_v152), .second, .val (.double w4t_c160_ct_v17), .second, .val (.long w4t_v179), .second] [(.double w4t_c160_ct_v17)])) rfl (hb hby at_184) _ ?_
    show Steps p.tables e below (Tw4t1.setTop (mkF m 187 #[.val (.int p0), .val (.int p1), .val (.int p2), .val (.int p3), .val (.int w4t_v5), .val (.double w4t_v14), .second, .val (.int w4t_v143), .val (.double w4t_v152), .second, .val (.double w4t_c160_ct_v17), .second, .val (.long w4t_v179), .second] [(.double (4616189618054758400 : UInt64)), (.double w4t_c160_ct_v17)])) _
    refine own_s_dmul Xw4t1.here hx (hb hby at_187) (pc' := 188) rfl w4t_hn187 (v := w4t_v187) w4t_hv187 ?_
    refine own_s_lload Xw4t1.here hx (hb hby at_188) (pc' := 190) rfl rfl ?_
    refine own_s_l2d Xw4t1.here hx (hb hby at_190) (pc' := 191) rfl (v := (FP.l2d w4t_v179)) rfl ?_
    refine own_s_dcmp Xw4t1.here hx (hb hby at_191) (pc' := 192) rfl (v := (0 : Int32)) w4t_hc191 ?_
    refine own_s_ifNo Xw4t1.here hx (hb hby at_192) (pc' := 195) rfl (by decide) ?_
    refine own_s_iconst Xw4t1.here hx (hb hby at_195) (pc' := 196) rfl (v := (1 : Int32)) (by decide) ?_
    refine own_s_goto Xw4t1.here hx (hb hby at_196) (by decide) (pc' := 200) (by decide) ?_
    exact retN Xw4t1 hx (t := .boolean) Bd.returns (by simp) (hb hby at_200) hr
  · show own_Q0 n0 _ Tw4t1.heap _
    rw [ew4t1]
    exact ⟨rfl, Nw4t1⟩
theorem own_ef_w4f (m : MethodId) (p0 : Int32) (p1 : Int32) (p2 : Int32) (p3 : Int32) : entryFrame m #[(.int p0), (.int p1), (.int p2), (.int p3)] maxLocals = mkF m 0 #[.val (.int p0), .val (.int p1), .val (.int p2), .val (.int p3), .unset, .unset, .unset, .unset, .unset, .unset, .unset, .unset, .unset, .unset] [] := by first | (simp [entryFrame, mkF, argsToLocals, Value.category, maxLocals]; done) | rfl
set_option maxRecDepth 65536 in
set_option maxHeartbeats 40000000 in
theorem own_rm_w4f (l : Launch) (Z : State) (a0 : Array Value) (hw : ∀ d ∈ tables_1, d.before a0 Z = true) (ws : List Jvm.Cond) (p0 : Int32) (p1 : Int32) (p2 : Int32) (p3 : Int32) {w4f_v3 : Int32} {w4f_v5 : Int32} {w4f_v14 : UInt64} {w4f_v19 : Int32} {w4f_v73 : Int32} {w4f_v143 : Int32} {w4f_v150 : Int64} {w4f_v152 : UInt64} {w4f_c160_cf_v6 : UInt64} {w4f_v168 : Int32} {w4f_v169 : Int64} {w4f_v172 : Int64} {w4f_v174 : Int64} {w4f_v175 : Int64} {w4f_v178 : Int64} {w4f_v179 : Int64} {w4f_v187 : UInt64} (h0 : Heap) (n0 : Nat) (Z0 : n0 ≤ h0.size)  (w4f_hv3 : p0 &&& (2147483647 : Int32) = w4f_v3) (w4f_hv5 : w4f_v3 % (5 : Int32) = w4f_v5) (w4f_hn14 : Jvm.Free.Fl.NoNaN64 (FP.ddiv (FP.i2d w4f_v5) (4616189618054758400 : UInt64))) (w4f_hv14 : FP.ddiv (FP.i2d w4f_v5) (4616189618054758400 : UInt64) = w4f_v14) (w4f_hv19 : p3 &&& (1 : Int32) = w4f_v19) (w4f_hb20 : ifCond.holds .eq w4f_v19 = true) (w4f_hv73 : p3 &&& (2 : Int32) = w4f_v73) (w4f_hb74 : ifCond.holds .ne w4f_v73 = true) (w4f_hv143 : p2 &&& (15 : Int32) = w4f_v143) (w4f_hv150 : (1 : Int64) <<< (w4f_v143 &&& 63).toInt64 = w4f_v150) (w4f_hn152 : Jvm.Free.Fl.NoNaN64 (FP.ddiv 4607182418800017408 (FP.l2d w4f_v150))) (w4f_hv152 : FP.ddiv 4607182418800017408 (FP.l2d w4f_v150) = w4f_v152) (w4f_c160_cf_hb1 : ifCond.holds .ne p1 = false) (w4f_c160_cf_hn6 : Jvm.Free.Fl.NoNaN64 (FP.dsub 4607182418800017408 w4f_v14)) (w4f_c160_cf_hv6 : FP.dsub 4607182418800017408 w4f_v14 = w4f_c160_cf_v6) (w4f_hv168 : (4 : Int32) - w4f_v5 = w4f_v168) (w4f_hv169 : Int32.toInt64 w4f_v168 = w4f_v169) (w4f_hv172 : Int32.toInt64 w4f_v5 = w4f_v172) (w4f_hv174 : Int32.toInt64 p1 = w4f_v174) (w4f_hv175 : w4f_v172 * w4f_v174 = w4f_v175) (w4f_hv178 : w4f_v175 <<< (w4f_v143 &&& 63).toInt64 = w4f_v178) (w4f_hv179 : w4f_v169 + w4f_v178 = w4f_v179) (w4f_hn187 : Jvm.Free.Fl.NoNaN64 (FP.dmul w4f_c160_cf_v6 (4616189618054758400 : UInt64))) (w4f_hv187 : FP.dmul w4f_c160_cf_v6 (4616189618054758400 : UInt64) = w4f_v187) (w4f_hc191 : Op.cmpValue (FP.dcmp w4f_v187 (FP.l2d w4f_v179)) .l = (0 : Int32)) :
    MetFree l x (head1 (Jvm.Cond.code x code maxLocals ret :: ws) room_1) (fun a U => a = #[(.int p0), (.int p1), (.int p2), (.int p3)] ∧ Z.Warmed39 U.vm ∧ U.heap = h0) (fun _ _ _ _ _ => True) (fun _ U o U' => ∃ v L, o = .returned v ∧ own_Q0 n0 v U'.heap L ∧ FrameEnd U o U' L room_1.cells room_1.slots) := by
  refine MetFree.of_bodySF (plainFor_of_name own_pn_com_example_tally_odds_tallyodds_Bm25LengthNormPinLaw) hisR ?_
  intro p e s m args below meth c s₁ Bd hml0 hP hK
  obtain ⟨rfl, hZ, hh⟩ := hP
  have hx := Bd.exec
  have hby := Bd.bytes
  have hml : c.maxLocals = 14 := hml0
  have hown : s.vm.findClass "com/example/tally_odds/tallyodds/Bm25LengthNormPinLaw" = some m.cls := findClass_of_methodNamed Bd.named
  have hnm := (name_of_methodNamed Bd.named Bd.method).1
  have X0 : Stand p l e room_1 s m #[(.int p0), (.int p1), (.int p2), (.int p3)] below meth c s₁ [] 0 0 := Stand.of_body Bd
  have e0 : s₁.heap = h0 := by rw [← hh, Bd.state]; rfl
  have N0 := Fr.nil n0
  have pre0 : ∀ t, Steps p.tables e below (s₁.setTop (mkF m 0 #[.val (.int p0), .val (.int p1), .val (.int p2), .val (.int p3), .unset, .unset, .unset, .unset, .unset, .unset, .unset, .unset, .unset, .unset] [])) t → Steps p.tables e below (s₁.setTop (entryFrame m #[(.int p0), (.int p1), (.int p2), (.int p3)] maxLocals)) t := fun t k => castTop (own_ef_w4f m p0 p1 p2 p3) k
  obtain ⟨_, _, ⟨Tw4f1, Lw4f1, kw4f1, nw4f1⟩, -, Xw4f1, ⟨Lcw4f1, hQw4f1, lw4f1, yw4f1, zw4f1⟩, stw4f1⟩ := Jvm.LawKit.callS X0 hx (y := (⟨"com/example/tally_odds/tallyodds/Bm25", "lengthNorm", "(DID)D"⟩ : MethodName)) hown (mvT hZ (hw _ (List.mem_of_getElem? (i := 2) rfl))) (mvT hZ (hw _ (List.mem_of_getElem? (i := 3) rfl))) (mvT hZ (hw _ (List.mem_of_getElem? (i := 4) rfl))) (mvT hZ (hw _ (List.mem_of_getElem? (i := 5) rfl))) (by decide) (backOf (W := 0) (own_rm_cf l Z a0 hw [] w4f_v14 p1 w4f_v152 h0 n0 Z0 w4f_c160_cf_hb1 w4f_c160_cf_hn6 w4f_c160_cf_hv6) hZ (hw _ (List.mem_of_getElem? (i := 5) rfl)) (hw _ (List.mem_of_getElem? (i := 4) rfl)) (by decide) (by decide)) (g := (mkF m 160 #[.val (.int p0), .val (.int p1), .val (.int p2), .val (.int p3), .val (.int w4f_v5), .val (.double w4f_v14), .second, .val (.int w4f_v143), .val (.double w4f_v152), .second, .unset, .unset, .unset, .unset] [(.double w4f_v152), (.int p1), (.double w4f_v14)])) rfl (by rw [hml]; rfl) (argsL := [(.double w4f_v14), (.int p1), (.double w4f_v152)]) (rest := []) (lenOf own_pd_28DID29D rfl) rfl (by show 2 * 0 + _ ≤ _; exact Nat.le_of_eq rfl) (hb hby at_160) (fun _ _ => ⟨rfl, e0, (by decide : 0 + 0 ≤ _), (by decide : 0 + 0 ≤ _)⟩)
  dsimp only [Pt.U, Pt.locs, Pt.cells, Pt.slots] at Xw4f1 lw4f1 yw4f1 zw4f1 stw4f1 hQw4f1
  subst lw4f1 yw4f1 zw4f1
  obtain ⟨rfl, Nw4f1q, ew4f1⟩ := hQw4f1
  have Nw4f1 := Fr.app N0 Nw4f1q
  obtain ⟨fs, hr, hrun, hended, hW, hsame⟩ := Xw4f1.leave (v := some (.int (1 : Int32))) (fun h => by rw [Bd.returns] at h; cases h)
  refine ⟨_, _, pre0 _ ?_, hrun, hended, _, _, rfl, ?_, ⟨_, rfl⟩, hW, hsame.mono (by decide) (by decide)⟩
  · refine own_s_iloadN X0.here hx (hb hby at_0) (pc' := 1) rfl rfl ?_
    refine X0.ldcInt hx hown (mvT hZ (hw _ (List.mem_of_getElem? (i := 0) rfl))) (g := (mkF m 1 #[.val (.int p0), .val (.int p1), .val (.int p2), .val (.int p3), .unset, .unset, .unset, .unset, .unset, .unset, .unset, .unset, .unset, .unset] [(.int p0)])) rfl (hb hby at_1) _ ?_
    show Steps p.tables e below (s₁.setTop (mkF m 3 #[.val (.int p0), .val (.int p1), .val (.int p2), .val (.int p3), .unset, .unset, .unset, .unset, .unset, .unset, .unset, .unset, .unset, .unset] [(.int (2147483647 : Int32)), (.int p0)])) _
    refine own_s_iand X0.here hx (hb hby at_3) (pc' := 4) rfl (v := w4f_v3) w4f_hv3 ?_
    refine own_s_iconst X0.here hx (hb hby at_4) (pc' := 5) rfl (v := (5 : Int32)) (by decide) ?_
    refine own_s_irem X0.here hx (hb hby at_5) (pc' := 6) rfl (by decide) (v := w4f_v5) w4f_hv5 ?_
    refine own_s_istore X0.here hx (hb hby at_6) (pc' := 8) rfl (L' := #[.val (.int p0), .val (.int p1), .val (.int p2), .val (.int p3), .val (.int w4f_v5), .unset, .unset, .unset, .unset, .unset, .unset, .unset, .unset, .unset]) rfl ?_
    refine own_s_iload X0.here hx (hb hby at_8) (pc' := 10) rfl rfl ?_
    refine own_s_i2d X0.here hx (hb hby at_10) (pc' := 11) rfl (v := (FP.i2d w4f_v5)) rfl ?_
    refine X0.ldc2DoubleC hx hown (mvT hZ (hw _ (List.mem_of_getElem? (i := 1) rfl))) (g := (mkF m 11 #[.val (.int p0), .val (.int p1), .val (.int p2), .val (.int p3), .val (.int w4f_v5), .unset, .unset, .unset, .unset, .unset, .unset, .unset, .unset, .unset] [(.double (FP.i2d w4f_v5))])) rfl (hb hby at_11) _ ?_
    show Steps p.tables e below (s₁.setTop (mkF m 14 #[.val (.int p0), .val (.int p1), .val (.int p2), .val (.int p3), .val (.int w4f_v5), .unset, .unset, .unset, .unset, .unset, .unset, .unset, .unset, .unset] [(.double (4616189618054758400 : UInt64)), (.double (FP.i2d w4f_v5))])) _
    refine own_s_ddiv X0.here hx (hb hby at_14) (pc' := 15) rfl w4f_hn14 (v := w4f_v14) w4f_hv14 ?_
    refine own_s_dstore X0.here hx (hb hby at_15) (pc' := 17) rfl (L' := #[.val (.int p0), .val (.int p1), .val (.int p2), .val (.int p3), .val (.int w4f_v5), .val (.double w4f_v14), .second, .unset, .unset, .unset, .unset, .unset, .unset, .unset]) rfl ?_
    refine own_s_iloadN X0.here hx (hb hby at_17) (pc' := 18) rfl rfl ?_
    refine own_s_iconst X0.here hx (hb hby at_18) (pc' := 19) rfl (v := (1 : Int32)) (by decide) ?_
    refine own_s_iand X0.here hx (hb hby at_19) (pc' := 20) rfl (v := w4f_v19) w4f_hv19 ?_
    refine own_s_ifYes X0.here hx (hb hby at_20) (by decide) (pc' := 71) (by decide) w4f_hb20 ?_
    refine own_s_iloadN X0.here hx (hb hby at_71) (pc' := 72) rfl rfl ?_
    refine own_s_iconst X0.here hx (hb hby at_72) (pc' := 73) rfl (v := (2 : Int32)) (by decide) ?_
    refine own_s_iand X0.here hx (hb hby at_73) (pc' := 74) rfl (v := w4f_v73) w4f_hv73 ?_
    refine own_s_ifYes X0.here hx (hb hby at_74) (by decide) (pc' := 140) (by decide) w4f_hb74 ?_
    refine own_s_iloadN X0.here hx (hb hby at_140) (pc' := 141) rfl rfl ?_
    refine own_s_bipush X0.here hx (hb hby at_141) (pc' := 143) rfl (v := (15 : Int32)) (by decide) ?_
    refine own_s_iand X0.here hx (hb hby at_143) (pc' := 144) rfl (v := w4f_v143) w4f_hv143 ?_
    refine own_s_istore X0.here hx (hb hby at_144) (pc' := 146) rfl (L' := #[.val (.int p0), .val (.int p1), .val (.int p2), .val (.int p3), .val (.int w4f_v5), .val (.double w4f_v14), .second, .val (.int w4f_v143), .unset, .unset, .unset, .unset, .unset, .unset]) rfl ?_
    refine own_s_dconst1 X0.here hx (hb hby at_146) (pc' := 147) rfl  ?_
    refine own_s_lconst X0.here hx (hb hby at_147) (pc' := 148) rfl (v := (1 : Int64)) (by decide) ?_
    refine own_s_iload X0.here hx (hb hby at_148) (pc' := 150) rfl rfl ?_
    refine own_s_lshl X0.here hx (hb hby at_150) (pc' := 151) rfl (v := w4f_v150) w4f_hv150 ?_
    refine own_s_l2d X0.here hx (hb hby at_151) (pc' := 152) rfl (v := (FP.l2d w4f_v150)) rfl ?_
    refine own_s_ddiv X0.here hx (hb hby at_152) (pc' := 153) rfl w4f_hn152 (v := w4f_v152) w4f_hv152 ?_
    refine own_s_dstore X0.here hx (hb hby at_153) (pc' := 155) rfl (L' := #[.val (.int p0), .val (.int p1), .val (.int p2), .val (.int p3), .val (.int w4f_v5), .val (.double w4f_v14), .second, .val (.int w4f_v143), .val (.double w4f_v152), .second, .unset, .unset, .unset, .unset]) rfl ?_
    refine own_s_dload X0.here hx (hb hby at_155) (pc' := 157) rfl rfl ?_
    refine own_s_iloadN X0.here hx (hb hby at_157) (pc' := 158) rfl rfl ?_
    refine own_s_dload X0.here hx (hb hby at_158) (pc' := 160) rfl rfl ?_
    refine stw4f1 _ ?_
    show Steps p.tables e below (Tw4f1.setTop (mkF m 163 #[.val (.int p0), .val (.int p1), .val (.int p2), .val (.int p3), .val (.int w4f_v5), .val (.double w4f_v14), .second, .val (.int w4f_v143), .val (.double w4f_v152), .second, .unset, .unset, .unset, .unset] [(.double w4f_c160_cf_v6)])) _
    refine own_s_dstore Xw4f1.here hx (hb hby at_163) (pc' := 165) rfl (L' := #[.val (.int p0), .val (.int p1), .val (.int p2), .val (.int p3), .val (.int w4f_v5), .val (.double w4f_v14), .second, .val (.int w4f_v143), .val (.double w4f_v152), .second, .val (.double w4f_c160_cf_v6), .second, .unset, .unset]) rfl ?_
    refine own_s_iconst Xw4f1.here hx (hb hby at_165) (pc' := 166) rfl (v := (4 : Int32)) (by decide) ?_
    refine own_s_iload Xw4f1.here hx (hb hby at_166) (pc' := 168) rfl rfl ?_
    refine own_s_isub Xw4f1.here hx (hb hby at_168) (pc' := 169) rfl (v := w4f_v168) w4f_hv168 ?_
    refine own_s_i2l Xw4f1.here hx (hb hby at_169) (pc' := 170) rfl (v := w4f_v169) w4f_hv169 ?_
    refine own_s_iload Xw4f1.here hx (hb hby at_170) (pc' := 172) rfl rfl ?_
    refine own_s_i2l Xw4f1.here hx (hb hby at_172) (pc' := 173) rfl (v := w4f_v172) w4f_hv172 ?_
    refine own_s_iloadN Xw4f1.here hx (hb hby at_173) (pc' := 174) rfl rfl ?_
    refine own_s_i2l Xw4f1.here hx (hb hby at_174) (pc' := 175) rfl (v := w4f_v174) w4f_hv174 ?_
    refine own_s_lmul Xw4f1.here hx (hb hby at_175) (pc' := 176) rfl (v := w4f_v175) w4f_hv175 ?_
    refine own_s_iload Xw4f1.here hx (hb hby at_176) (pc' := 178) rfl rfl ?_
    refine own_s_lshl Xw4f1.here hx (hb hby at_178) (pc' := 179) rfl (v := w4f_v178) w4f_hv178 ?_
    refine own_s_ladd Xw4f1.here hx (hb hby at_179) (pc' := 180) rfl (v := w4f_v179) w4f_hv179 ?_
    refine own_s_lstore Xw4f1.here hx (hb hby at_180) (pc' := 182) rfl (L' := #[.val (.int p0), .val (.int p1), .val (.int p2), .val (.int p3), .val (.int w4f_v5), .val (.double w4f_v14), .second, .val (.int w4f_v143), .val (.double w4f_v152), .second, .val (.double w4f_c160_cf_v6), .second, .val (.long w4f_v179), .second]) rfl ?_
    refine own_s_dload Xw4f1.here hx (hb hby at_182) (pc' := 184) rfl rfl ?_
    refine Xw4f1.ldc2DoubleC hx hown (mvT hZ (hw _ (List.mem_of_getElem? (i := 1) rfl))) (g := (mkF m 184 #[.val (.int p0), .val (.int p1), .val (.int p2), .val (.int p3), .val (.int w4f_v5), .val (.double w4f_v14), .second, .val (.int w4f_v143), .val (.double w4f_v152), .second, .val (.double w4f_c160_cf_v6), .second, .val (.long w4f_v179), .second] [(.double w4f_c160_cf_v6)])) rfl (hb hby at_184) _ ?_
    show Steps p.tables e below (Tw4f1.setTop (mkF m 187 #[.val (.int p0), .val (.int p1), .val (.int p2), .val (.int p3), .val (.int w4f_v5), .val (.double w4f_v14), .second, .val (.int w4f_v143), .val (.double w4f_v152), .second, .val (.double w4f_c160_cf_v6), .second, .val (.long w4f_v179), .second] [(.double (4616189618054758400 : UInt64)), (.double w4f_c160_cf_v6)])) _
    refine own_s_dmul Xw4f1.here hx (hb hby at_187) (pc' := 188) rfl w4f_hn187 (v := w4f_v187) w4f_hv187 ?_
    refine own_s_lload Xw4f1.here hx (hb hby at_188) (pc' := 190) rfl rfl ?_
    refine own_s_l2d Xw4f1.here hx (hb hby at_190) (pc' := 191) rfl (v := (FP.l2d w4f_v179)) rfl ?_
    refine own_s_dcmp Xw4f1.here hx (hb hby at_191) (pc' := 192) rfl (v := (0 : Int32)) w4f_hc191 ?_
    refine own_s_ifNo Xw4f1.here hx (hb hby at_192) (pc' := 195) rfl (by decide) ?_
    refine own_s_iconst Xw4f1.here hx (hb hby at_195) (pc' := 196) rfl (v := (1 : Int32)) (by decide) ?_
    refine own_s_goto Xw4f1.here hx (hb hby at_196) (by decide) (pc' := 200) (by decide) ?_
    exact retN Xw4f1 hx (t := .boolean) Bd.returns (by simp) (hb hby at_200) hr
  · show own_Q0 n0 _ Tw4f1.heap _
    rw [ew4f1]
    exact ⟨rfl, Nw4f1⟩
set_option maxRecDepth 65536 in
set_option maxHeartbeats 40000000 in
theorem own_rm0 (l : Launch) (Z : State) (a0 : Array Value) (hw : ∀ d ∈ tables_1, d.before a0 Z = true) (ws : List Jvm.Cond) (p0 : Int32) (p1 : Int32) (p2 : Int32) (p3 : Int32) (h0 : Heap) (n0 : Nat) (Z0 : n0 ≤ h0.size)  :
    MetFree l x (head1 (Jvm.Cond.code x code maxLocals ret :: ws) room_1) (fun a U => a = #[(.int p0), (.int p1), (.int p2), (.int p3)] ∧ Z.Warmed39 U.vm ∧ U.heap = h0) (fun _ _ _ _ _ => True) (fun _ U o U' => ∃ v L, o = .returned v ∧ own_Q0 n0 v U'.heap L ∧ FrameEnd U o U' L room_1.cells room_1.slots) := by
  obtain ⟨v3, hv3⟩ : ∃ v, p0 &&& 2147483647 = v := ⟨_, rfl⟩
  have hk5 := own_modN p0 v3 hv3
  obtain ⟨v5, hv5⟩ : ∃ v, v3 % 5 = v := ⟨_, rfl⟩
  rw [hv5] at hk5
  have bk : 0 ≤ v5.toInt ∧ v5.toInt ≤ 4 := by rcases hk5 with h | h | h | h | h <;> rw [h] <;> decide
  have i4 : own_Is 4616189618054758400 1 2 := ⟨(Jvm.FP.Core.fin_bits _).mpr (by decide), by decide, by decide +kernel⟩
  have iB := own_div (own_i2d v5) i4 (by decide) (Int.mul_one _).symm (e := -2) (by decide) (by decide) (by decide) (by omega)
  obtain ⟨v14, h14⟩ : ∃ v, FP.ddiv (FP.i2d v5) 4616189618054758400 = v := ⟨_, rfl⟩
  have h14n : Jvm.Free.Fl.NoNaN64 (FP.ddiv (FP.i2d v5) 4616189618054758400) := own_nn iB
  rw [show Jvm.FP.Core.ddiv (Jvm.FP.Core.i2d v5) 4616189618054758400 = v14 from h14] at iB
  have i1 := own_shift 2 own_one (e' := -2) (by decide) (by decide)
  rw [show (1 : Int) * ((2 ^ 2 : Nat) : Int) = 4 by decide] at i1
  have i6 := own_sub i1 iB (by decide) (by omega)
  obtain ⟨v6, h6⟩ : ∃ v, FP.dsub 4607182418800017408 v14 = v := ⟨_, rfl⟩
  have h6n : Jvm.Free.Fl.NoNaN64 (FP.dsub 4607182418800017408 v14) := own_nn i6
  rw [show Jvm.FP.Core.dsub 4607182418800017408 v14 = v6 from h6] at i6
  obtain ⟨v19, h19⟩ : ∃ v, p3 &&& 1 = v := ⟨_, rfl⟩
  obtain ⟨v25, h25⟩ : ∃ v, p3 &&& 2 = v := ⟨_, rfl⟩
  obtain ⟨m4, hm4⟩ : ∃ v, (4 : Int32) - v5 = v := ⟨_, rfl⟩
  have L5 : own_I v5 v5.toInt 4 := ⟨rfl, by omega, by omega⟩
  have Lm : own_I m4 (4 - v5.toInt) 8 := own_Icast (own_Isub hm4 (⟨by decide, by decide, by decide⟩ : own_I (4 : Int32) 4 4) L5 (by decide)) rfl (by decide)
  by_cases q1 : v19 = 0
  · have f20 : ifCond.holds .eq v19 = true := XT.i0_eq_t q1
    obtain ⟨w104, h104⟩ : ∃ v, Int32.toInt64 m4 = v := ⟨_, rfl⟩
    obtain ⟨w110, h110⟩ : ∃ v, Int32.toInt64 v5 = v := ⟨_, rfl⟩
    obtain ⟨w112, h112⟩ : ∃ v, Int32.toInt64 p1 = v := ⟨_, rfl⟩
    obtain ⟨w113, h113⟩ : ∃ v, w110 * w112 = v := ⟨_, rfl⟩
    have L104 := own_Ii2l h104 Lm
    have L110 := own_Ii2l h110 L5
    have L112 := own_Ii2l h112 (own_Irng p1)
    have L113 := own_Lmul h113 L110 L112 (by decide)
    have bkd := own_bmul (m := v5.toInt) (n := p1.toInt) (A := 4) (B := 2147483648) (by omega) (by have := rng32 p1; omega)
    by_cases q2 : v25 = 0
    · have f74 : ifCond.holds .ne v25 = false := XT.i0_ne_f q2
      obtain ⟨S, hS⟩ := own_masked p2 31 5 (by decide) (by decide) 32 (by decide)
      obtain ⟨a, ha⟩ : ∃ v, (1 : Int64) <<< (Int32.ofNat S.val &&& 63).toInt64 = v := ⟨_, rfl⟩
      have hA := own_shl1 S
      rw [ha] at hA
      obtain ⟨P, hP⟩ : ∃ P : Int, ((2 ^ S.val : Nat) : Int) = P := ⟨_, rfl⟩
      rw [hP] at hA
      have hSl : (S.val : Int) < 32 := by have := S.isLt; omega
      have ia := own_pow1 S.val (own_l2d (a := a) (by omega)) (by omega)
      have l125 := own_mul i4 ia (e := 2 + (S.val : Int)) rfl (by omega) (by omega) (by decide)
      obtain ⟨w125, h125⟩ : ∃ v, FP.dmul 4616189618054758400 (FP.l2d a) = v := ⟨_, rfl⟩
      have h125n : Jvm.Free.Fl.NoNaN64 (FP.dmul 4616189618054758400 (FP.l2d a)) := own_nn l125
      rw [show Jvm.FP.Core.dmul 4616189618054758400 (Jvm.FP.Core.l2d a) = w125 from h125] at l125
      obtain ⟨w107, h107⟩ : ∃ v, w104 * a = v := ⟨_, rfl⟩
      obtain ⟨w114, h114⟩ : ∃ v, w107 + w113 = v := ⟨_, rfl⟩
      have La : own_L a P 2147483648 := ⟨hA.1, by omega, by omega⟩
      have L107 := own_Lmul h107 L104 La (by decide)
      have L114 := own_Ladd h114 L107 L113 (by decide)
      have D114 := own_Bl2d L114 (by decide)
      have bmp := own_bmul (m := 4 - v5.toInt) (n := P) (A := 4) (B := 2147483648) (by omega) (by omega)
      obtain ⟨MP, hMP⟩ : ∃ z : Int, (4 - v5.toInt) * P = z := ⟨_, rfl⟩
      obtain ⟨KD, hKD⟩ : ∃ z : Int, v5.toInt * p1.toInt = z := ⟨_, rfl⟩
      rw [hMP] at bmp
      rw [hKD] at bkd
      have i6' := own_shift S.val i6 (e' := -2 - (S.val : Int)) (by omega) (by omega)
      rw [hP, hMP] at i6'
      by_cases q3 : p1 = 0
      · have g1 : ifCond.holds .ne p1 = false := XT.i0_ne_f q3
        have l126 := own_mul i6' l125 (e := 0) (by omega) (by decide) (by decide) (by omega)
        obtain ⟨w126, h126⟩ : ∃ v, FP.dmul v6 w125 = v := ⟨_, rfl⟩
        have h126n : Jvm.Free.Fl.NoNaN64 (FP.dmul v6 w125) := own_nn l126
        rw [show Jvm.FP.Core.dmul v6 w125 = w126 from h126] at l126
        have z1 : p1.toInt = 0 := by rw [q3]; decide
        have f130 : Op.cmpValue (FP.dcmp w126 (FP.l2d w114)) .l = 0 := own_eq0 l126 D114.is (by rw [hMP, z1]; omega) _
        exact own_rm_w3f l Z a0 hw ws p0 p1 p2 p3 h0 n0 Z0 (w3f_hv3 := hv3) (w3f_hv5 := hv5) (w3f_hn14 := h14n) (w3f_hv14 := h14) (w3f_hv19 := h19) (w3f_hb20 := f20) (w3f_hv73 := h25) (w3f_hb74 := f74) (w3f_hv80 := hS) (w3f_hv86 := ha) (w3f_c95_cf_hb1 := g1) (w3f_c95_cf_hn6 := h6n) (w3f_c95_cf_hv6 := h6) (w3f_hv103 := hm4) (w3f_hv104 := h104) (w3f_hv107 := h107) (w3f_hv110 := h110) (w3f_hv112 := h112) (w3f_hv113 := h113) (w3f_hv114 := h114) (w3f_hn125 := h125n) (w3f_hv125 := h125) (w3f_hn126 := h126n) (w3f_hv126 := h126) (w3f_hc130 := f130)
      · have g1 : ifCond.holds .ne p1 = true := XT.i0_ne_t q3
        have j14 := own_mul iB (own_i2d p1) (e := -2) (by decide) (by decide) (by decide) (by omega)
        obtain ⟨w14, k14⟩ : ∃ v, FP.dmul v14 (FP.i2d p1) = v := ⟨_, rfl⟩
        have k14n : Jvm.Free.Fl.NoNaN64 (FP.dmul v14 (FP.i2d p1)) := own_nn j14
        rw [show Jvm.FP.Core.dmul v14 (Jvm.FP.Core.i2d p1) = w14 from k14] at j14
        rw [hKD] at j14
        have j16 := own_div j14 ia (by decide) (Int.mul_one _).symm (e := -2 - (S.val : Int)) (by omega) (by omega) (by omega) (by omega)
        obtain ⟨w16, k16⟩ : ∃ v, FP.ddiv w14 (FP.l2d a) = v := ⟨_, rfl⟩
        have k16n : Jvm.Free.Fl.NoNaN64 (FP.ddiv w14 (FP.l2d a)) := own_nn j16
        rw [show Jvm.FP.Core.ddiv w14 (Jvm.FP.Core.l2d a) = w16 from k16] at j16
        have j17 := own_add i6' j16 (by omega) (by omega)
        obtain ⟨w17, k17⟩ : ∃ v, FP.dadd v6 w16 = v := ⟨_, rfl⟩
        have k17n : Jvm.Free.Fl.NoNaN64 (FP.dadd v6 w16) := own_nn j17
        rw [show Jvm.FP.Core.dadd v6 w16 = w17 from k17] at j17
        have l126 := own_mul j17 l125 (e := 0) (by omega) (by decide) (by decide) (by omega)
        obtain ⟨w126, h126⟩ : ∃ v, FP.dmul w17 w125 = v := ⟨_, rfl⟩
        have h126n : Jvm.Free.Fl.NoNaN64 (FP.dmul w17 w125) := own_nn l126
        rw [show Jvm.FP.Core.dmul w17 w125 = w126 from h126] at l126
        have f130 : Op.cmpValue (FP.dcmp w126 (FP.l2d w114)) .l = 0 := own_eq0 l126 D114.is (by rw [hMP, hKD]; omega) _
        exact own_rm_w3t l Z a0 hw ws p0 p1 p2 p3 h0 n0 Z0 (w3t_hv3 := hv3) (w3t_hv5 := hv5) (w3t_hn14 := h14n) (w3t_hv14 := h14) (w3t_hv19 := h19) (w3t_hb20 := f20) (w3t_hv73 := h25) (w3t_hb74 := f74) (w3t_hv80 := hS) (w3t_hv86 := ha) (w3t_c95_ct_hb1 := g1) (w3t_c95_ct_hn10 := h6n) (w3t_c95_ct_hv10 := h6) (w3t_c95_ct_hn14 := k14n) (w3t_c95_ct_hv14 := k14) (w3t_c95_ct_hn16 := k16n) (w3t_c95_ct_hv16 := k16) (w3t_c95_ct_hn17 := k17n) (w3t_c95_ct_hv17 := k17) (w3t_hv103 := hm4) (w3t_hv104 := h104) (w3t_hv107 := h107) (w3t_hv110 := h110) (w3t_hv112 := h112) (w3t_hv113 := h113) (w3t_hv114 := h114) (w3t_hn125 := h125n) (w3t_hv125 := h125) (w3t_hn126 := h126n) (w3t_hv126 := h126) (w3t_hc130 := f130)
    · have f74 : ifCond.holds .ne v25 = true := XT.i0_ne_t q2
      obtain ⟨M0, hM0⟩ := own_masked p2 15 4 (by decide) (by decide) 16 (by decide)
      obtain ⟨S, hS0, hS16⟩ : ∃ S : Fin 32, M0.val = S.val ∧ S.val < 16 := ⟨⟨M0.val, by omega⟩, rfl, M0.isLt⟩
      have hS : p2 &&& 15 = Int32.ofNat S.val := by rw [hM0, hS0]
      obtain ⟨a, ha⟩ : ∃ v, (1 : Int64) <<< (Int32.ofNat S.val &&& 63).toInt64 = v := ⟨_, rfl⟩
      have hA := own_shl1 S
      rw [ha] at hA
      have hP15 : ((2 ^ S.val : Nat) : Int) ≤ 32768 := by have := Nat.pow_le_pow_right (n := 2) (by decide) (show S.val ≤ 15 by omega); omega
      obtain ⟨P, hP⟩ : ∃ P : Int, ((2 ^ S.val : Nat) : Int) = P := ⟨_, rfl⟩
      rw [hP] at hA hP15
      have ia := own_pow1 S.val (own_l2d (a := a) (by omega)) (by omega)
      have i152 := own_div own_one ia (by decide) (Int.mul_one _).symm (e := -(S.val : Int)) (by omega) (by omega) (by omega) (by decide)
      obtain ⟨w152, h152⟩ : ∃ v, FP.ddiv 4607182418800017408 (FP.l2d a) = v := ⟨_, rfl⟩
      have h152n : Jvm.Free.Fl.NoNaN64 (FP.ddiv 4607182418800017408 (FP.l2d a)) := own_nn i152
      rw [show Jvm.FP.Core.ddiv 4607182418800017408 (Jvm.FP.Core.l2d a) = w152 from h152] at i152
      obtain ⟨KD, hKD⟩ : ∃ z : Int, v5.toInt * p1.toInt = z := ⟨_, rfl⟩
      rw [hKD] at bkd L113
      have bkp := own_bmul (m := KD) (n := P) (A := 8589934592) (B := 32768) (by omega) (by omega)
      obtain ⟨w178, h178⟩ : ∃ v, w113 <<< (Int32.ofNat S.val &&& 63).toInt64 = v := ⟨_, rfl⟩
      have t178 := own_lshl S hP h178 L113 (by omega)
      obtain ⟨KP, hKP⟩ : ∃ z : Int, KD * P = z := ⟨_, rfl⟩
      rw [hKP] at bkp t178
      have L178 : own_L w178 KP 281474976710656 := ⟨t178, by omega, by omega⟩
      obtain ⟨w179, h179⟩ : ∃ v, w104 + w178 = v := ⟨_, rfl⟩
      have L179 := own_Ladd h179 L104 L178 (by decide)
      have D179 := own_Bl2d L179 (by decide)
      by_cases q3 : p1 = 0
      · have g1 : ifCond.holds .ne p1 = false := XT.i0_ne_f q3
        have l187 := own_mul i6 i4 (e := 0) (by decide) (by decide) (by decide) (by omega)
        obtain ⟨w187, h187⟩ : ∃ v, FP.dmul v6 4616189618054758400 = v := ⟨_, rfl⟩
        have h187n : Jvm.Free.Fl.NoNaN64 (FP.dmul v6 4616189618054758400) := own_nn l187
        rw [show Jvm.FP.Core.dmul v6 4616189618054758400 = w187 from h187] at l187
        have z1 : p1.toInt = 0 := by rw [q3]; decide
        have z2 : KP = 0 := by rw [z1, Int.mul_zero] at hKD; rw [← hKD, Int.zero_mul] at hKP; exact hKP.symm
        have f191 : Op.cmpValue (FP.dcmp w187 (FP.l2d w179)) .l = 0 := own_eq0 l187 D179.is (by rw [z2]; omega) _
        exact own_rm_w4f l Z a0 hw ws p0 p1 p2 p3 h0 n0 Z0 (w4f_hv3 := hv3) (w4f_hv5 := hv5) (w4f_hn14 := h14n) (w4f_hv14 := h14) (w4f_hv19 := h19) (w4f_hb20 := f20) (w4f_hv73 := h25) (w4f_hb74 := f74) (w4f_hv143 := hS) (w4f_hv150 := ha) (w4f_hn152 := h152n) (w4f_hv152 := h152) (w4f_c160_cf_hb1 := g1) (w4f_c160_cf_hn6 := h6n) (w4f_c160_cf_hv6 := h6) (w4f_hv168 := hm4) (w4f_hv169 := h104) (w4f_hv172 := h110) (w4f_hv174 := h112) (w4f_hv175 := h113) (w4f_hv178 := h178) (w4f_hv179 := h179) (w4f_hn187 := h187n) (w4f_hv187 := h187) (w4f_hc191 := f191)
      · have g1 : ifCond.holds .ne p1 = true := XT.i0_ne_t q3
        have j14 := own_mul iB (own_i2d p1) (e := -2) (by decide) (by decide) (by decide) (by omega)
        obtain ⟨w14, k14⟩ : ∃ v, FP.dmul v14 (FP.i2d p1) = v := ⟨_, rfl⟩
        have k14n : Jvm.Free.Fl.NoNaN64 (FP.dmul v14 (FP.i2d p1)) := own_nn j14
        rw [show Jvm.FP.Core.dmul v14 (Jvm.FP.Core.i2d p1) = w14 from k14] at j14
        rw [hKD] at j14
        have j16 := own_div j14 i152 (by decide) (Int.mul_one _).symm (e := -2 + (S.val : Int)) (by omega) (by omega) (by omega) (by omega)
        obtain ⟨w16, k16⟩ : ∃ v, FP.ddiv w14 w152 = v := ⟨_, rfl⟩
        have k16n : Jvm.Free.Fl.NoNaN64 (FP.ddiv w14 w152) := own_nn j16
        rw [show Jvm.FP.Core.ddiv w14 w152 = w16 from k16] at j16
        have j16' := own_shift S.val j16 (e' := -2) (by omega) (by decide)
        rw [hP, hKP] at j16'
        have j17 := own_add i6 j16' (by decide) (by omega)
        obtain ⟨w17, k17⟩ : ∃ v, FP.dadd v6 w16 = v := ⟨_, rfl⟩
        have k17n : Jvm.Free.Fl.NoNaN64 (FP.dadd v6 w16) := own_nn j17
        rw [show Jvm.FP.Core.dadd v6 w16 = w17 from k17] at j17
        have l187 := own_mul j17 i4 (e := 0) (by decide) (by decide) (by decide) (by omega)
        obtain ⟨w187, h187⟩ : ∃ v, FP.dmul w17 4616189618054758400 = v := ⟨_, rfl⟩
        have h187n : Jvm.Free.Fl.NoNaN64 (FP.dmul w17 4616189618054758400) := own_nn l187
        rw [show Jvm.FP.Core.dmul w17 4616189618054758400 = w187 from h187] at l187
        have f191 : Op.cmpValue (FP.dcmp w187 (FP.l2d w179)) .l = 0 := own_eq0 l187 D179.is (by omega) _
        exact own_rm_w4t l Z a0 hw ws p0 p1 p2 p3 h0 n0 Z0 (w4t_hv3 := hv3) (w4t_hv5 := hv5) (w4t_hn14 := h14n) (w4t_hv14 := h14) (w4t_hv19 := h19) (w4t_hb20 := f20) (w4t_hv73 := h25) (w4t_hb74 := f74) (w4t_hv143 := hS) (w4t_hv150 := ha) (w4t_hn152 := h152n) (w4t_hv152 := h152) (w4t_c160_ct_hb1 := g1) (w4t_c160_ct_hn10 := h6n) (w4t_c160_ct_hv10 := h6) (w4t_c160_ct_hn14 := k14n) (w4t_c160_ct_hv14 := k14) (w4t_c160_ct_hn16 := k16n) (w4t_c160_ct_hv16 := k16) (w4t_c160_ct_hn17 := k17n) (w4t_c160_ct_hv17 := k17) (w4t_hv168 := hm4) (w4t_hv169 := h104) (w4t_hv172 := h110) (w4t_hv174 := h112) (w4t_hv175 := h113) (w4t_hv178 := h178) (w4t_hv179 := h179) (w4t_hn187 := h187n) (w4t_hv187 := h187) (w4t_hc191 := f191)
  · have f20 : ifCond.holds .eq v19 = false := XT.i0_eq_f q1
    have l60 := own_div (own_i2d m4) i4 (by decide) (Int.mul_one _).symm (e := -2) (by decide) (by decide) (by decide) (by rw [Lm.1]; omega)
    obtain ⟨w60, h60⟩ : ∃ v, FP.ddiv (FP.i2d m4) 4616189618054758400 = v := ⟨_, rfl⟩
    have h60n : Jvm.Free.Fl.NoNaN64 (FP.ddiv (FP.i2d m4) 4616189618054758400) := own_nn l60
    rw [show Jvm.FP.Core.ddiv (Jvm.FP.Core.i2d m4) 4616189618054758400 = w60 from h60] at l60
    have f61 : Op.cmpValue (FP.dcmp v6 w60) .l = 0 := own_eq0 i6 l60 (by rw [Lm.1]) _
    by_cases q2 : v25 = 0
    · have f26 : ifCond.holds .eq v25 = true := XT.i0_eq_t q2
      exact own_rm_w2 l Z a0 hw ws p0 p1 p2 p3 h0 n0 Z0 (w2_hv3 := hv3) (w2_hv5 := hv5) (w2_hn14 := h14n) (w2_hv14 := h14) (w2_hv19 := h19) (w2_hb20 := f20) (w2_hv25 := h25) (w2_hb26 := f26) (w2_hv36 := rfl) (w2_c45_c0_hn6 := h6n) (w2_c45_c0_hv6 := h6) (w2_hv55 := hm4) (w2_hn60 := h60n) (w2_hv60 := h60) (w2_hc61 := f61)
    · have f26 : ifCond.holds .eq v25 = false := XT.i0_eq_f q2
      exact own_rm_w1 l Z a0 hw ws p0 p1 p2 p3 h0 n0 Z0 (w1_hv3 := hv3) (w1_hv5 := hv5) (w1_hn14 := h14n) (w1_hv14 := h14) (w1_hv19 := h19) (w1_hb20 := f20) (w1_hv25 := h25) (w1_hb26 := f26) (w1_c45_c0_hn6 := h6n) (w1_c45_c0_hv6 := h6) (w1_hv55 := hm4) (w1_hn60 := h60n) (w1_hv60 := h60) (w1_hc61 := f61)
set_option maxRecDepth 65536 in
set_option maxHeartbeats 40000000 in
theorem comes_1 {Post : Tables → Env → Array Value → State → Outcome → State → Prop} (hpost : ∀ tb e args s v u, (limb_1_1.after args s (.returned v) u = true ∧ limb_1_2.after args s (.returned v) u = true ∧ True) → FrameEnd s (.returned v) u (Jvm.fieldLocs frame_1_writes args s ++ Jvm.arrayLocs frame_1_arrays args s ++ Jvm.staticLocs frame_1_statics s) 0 0 → Post tb e args s (.returned v) u) :
    ArmFor flags0 classFile x code maxLocals ret World_1 tables_1 room_1 Calls_1 rest_1 Pre_1 Post := by
  intro l hfl _ _ p e ha hc hk s m args below hf hA hF happ hP
  obtain ⟨hcalls, hrest, hpre⟩ := hP
  obtain ⟨-, -, -, hnamed, -, -, -, hat⟩ := (Spec.applies_iff hf).mp happ
  obtain ⟨hg, hn⟩ := and_e (Cond.before_iff.mp (show (Jvm.Cond.and given_1 narrow_1).before args s = true from hpre))
  obtain ⟨hcount, g0⟩ := and_e hg
  obtain ⟨a0, g1⟩ := and_e g0
  obtain ⟨a1, g2⟩ := and_e g1
  obtain ⟨a2, g3⟩ := and_e g2
  have a3 := g3
  obtain ⟨w0, w1, w2, w3, rfl⟩ : ∃ w0 w1 w2 w3 : Value, args = #[w0, w1, w2, w3] := by
    have hs : args.size = 4 := by simpa [Cond.value, given_1] using hcount
    obtain ⟨L⟩ := args
    match L, hs with
    | [w0, w1, w2, w3], _ => exact ⟨w0, w1, w2, w3, rfl⟩
  have hw := fun d (hd : d ∈ tables_1) => atoms_spec (ws := Jvm.Cond.code x code maxLocals ret :: tables_1) hat d (List.mem_cons_of_mem _ hd)
  obtain ⟨i0, ei0⟩ := is_v a0
  obtain rfl : w0 = (.int i0) := Option.some.inj ei0
  obtain ⟨i1, ei1⟩ := is_v a1
  obtain rfl : w1 = (.int i1) := Option.some.inj ei1
  obtain ⟨i2, ei2⟩ := is_v a2
  obtain rfl : w2 = (.int i2) := Option.some.inj ei2
  obtain ⟨i3, ei3⟩ := is_v a3
  obtain rfl : w3 = (.int i3) := Option.some.inj ei3
  obtain ⟨n, o, h1, h2, h3, _, L, rfl, ⟨rfl, N⟩, hq⟩ := own_rm0 l s _ hw tables_1 i0 i1 i2 i3 s.heap s.heap.size (Nat.le_refl _)  p e ha hc hk s m _ below hf ((Spec.applies_iff_loose hf).mp happ).1 ⟨rfl, State.Warmed39.refl s, rfl⟩ trivial
  refine ⟨n, _, h1, h2, h3, hpost _ _ _ _ _ _ ⟨Cond.after_iff.mpr rfl, Cond.after_iff.mpr (eq_i res_at (Term.int_eval (1)) rfl), trivial⟩ ⟨hq.1, hq.2.1, (hq.2.2.sift fun y hy => Or.inr (N y hy)).mono (by decide) (by decide)⟩⟩
theorem main_1_1 : Claimed_1_1 := comes_1 fun _ _ _ _ _ _ h hF => ⟨h.1, hF⟩
theorem main_1_2 : Claimed_1_2 := comes_1 fun _ _ _ _ _ _ h hF => ⟨h.2.1, hF⟩
end Jvm.Pilot.@@N@@
namespace Jvm.Pilot.@@N@@
open Jvm Jvm.ClassFile Sem Op Lib Jvm.Free Jvm.Stand Jvm.Pilot.@@N@@.Jvm.D
/-! MADE BY PROGRAM (witnessworld.py) out of the Statement's table words and the real class files: 9 classes; the members and pool entries that the words name. The judged class is class 1, her method 1. -/
namespace start1
open Jvm.ClassFile
def u (s : String) : CpInfo := .utf8 (stringToUtf16 s)
/-- a pool by its gaps: so many unusable entries, then the entry; so many at the end -/
def gap : Nat → List CpInfo → List CpInfo
  | 0, r => r
  | n + 1, r => .unusable :: gap n r
def poolList (es : List (Nat × CpInfo)) (last : Nat) : List CpInfo := es.foldr (fun e r => gap e.1 (e.2 :: r)) (gap last [])
def pool (es : List (Nat × CpInfo)) (last : Nat) : Array CpInfo := ⟨poolList es last⟩
def fileOf (pool : Array CpInfo) (this : Nat) (attrs : Array Attribute := #[]) (ms : Array MethodInfo := #[]) (fl : Nat := 33) (sup : Nat := 0) (ifs : Array Nat := #[]) (fds : Array FieldInfo := #[]) : ClassFile where
  minorVersion := 0
  majorVersion := 65
  constantPool := pool
  accessFlags := fl
  thisClass := this
  superClass := sup
  interfaces := ifs
  fields := fds
  methods := ms
  attributes := attrs
def plain (name : String) (sup : Option ClassId) : Class where
  name := name
  kind := .ordinary
  loader := none
  accessFlags := 33
  super := sup
  interfaces := #[]
  cf := none
  fields := #[]
  methods := #[]
  instanceTypes := #[]
  staticTypes := #[]
  resolved := #[]
  callSites := []
  init := .initialized
  statics := none
  mirror := none

def pool0 : Array CpInfo := pool [(5, u "<init>"), (0, u "()V"), (1, .class_ 10), (1, u "java/lang/Object")] 113

def k0m0 : Method := { name := "<init>", desc := "()V", sig := { parameters := [], returnType := none }, accessFlags := 1, code := none }
/-- java/lang/Object -/
def k0 : Class := { plain "java/lang/Object" none with
  accessFlags := 33
  interfaces := #[]
  cf := some (fileOf pool0 8 #[] #[{ accessFlags := 1, nameIndex := 5, descriptorIndex := 6, attributes := #[] }] 33 0 #[] #[])
  fields := #[]
  methods := #[k0m0]
  instanceTypes := #[]
  staticTypes := #[]
  resolved := Array.replicate 124 none
  statics := none }

def pool1 : Array CpInfo := pool [(2, .class_ 4), (1, u "java/lang/Object"), (0, u "<init>"), (0, u "()V"), (0, .integer 2147483647), (0, .double 4616189618054758400), (1, .methodref 11 12), (0, .class_ 13), (0, .nameAndType 14 15), (0, u "com/example/tally_odds/tallyodds/Bm25"), (0, u "lengthNorm"), (0, u "(DID)D"), (0, .class_ 17), (0, u "com/example/tally_odds/tallyodds/Bm25LengthNormPinLaw"), (2, u "law"), (0, u "(IIII)Z")] 3

def k1m0 : Method := { name := "<init>", desc := "()V", sig := { parameters := [], returnType := none }, accessFlags := 1, code := none }
def k1c1 : Code := { maxStack := 6, maxLocals := 14, code := code, exceptionTable := #[], attributes := #[] }
def k1m1 : Method := { name := "law", desc := "(IIII)Z", sig := { parameters := [.int, .int, .int, .int], returnType := some .boolean }, accessFlags := 9, code := some k1c1 }
/-- com/example/tally_odds/tallyodds/Bm25LengthNormPinLaw -/
def k1 : Class := { plain "com/example/tally_odds/tallyodds/Bm25LengthNormPinLaw" (some 0) with
  accessFlags := 49
  interfaces := #[]
  cf := some (fileOf pool1 16 #[] #[{ accessFlags := 1, nameIndex := 5, descriptorIndex := 6, attributes := #[] }, { accessFlags := 9, nameIndex := 20, descriptorIndex := 21, attributes := #[] }] 49 2 #[] #[])
  fields := #[]
  methods := #[k1m0, k1m1]
  instanceTypes := #[]
  staticTypes := #[]
  resolved := Array.replicate 25 none
  statics := none }

def pool2 : Array CpInfo := pool [(1, .class_ 2), (0, u "com/example/tally_odds/tallyodds/Bm25"), (6, u "<init>"), (5, .class_ 17), (1, u "java/lang/Object"), (0, u "()V"), (17, u "k1"), (0, u "D"), (2, u "b"), (2, u "k3"), (33, u "lengthNorm"), (0, u "(DID)D"), (12, u "DEFAULT_K1"), (1, u "DEFAULT_B"), (0, u "DEFAULT_K3")] 49

def k2m0 : Method := { name := "<init>", desc := "()V", sig := { parameters := [], returnType := none }, accessFlags := 1, code := none }
def k2c1 : Code := { maxStack := 6, maxLocals := 5, code := prog_2_method_17_code, exceptionTable := #[], attributes := #[] }
def k2m1 : Method := { name := "lengthNorm", desc := "(DID)D", sig := { parameters := [.double, .int, .double], returnType := some .double }, accessFlags := 8, code := some k2c1 }
/-- com/example/tally_odds/tallyodds/Bm25 -/
def k2 : Class := { plain "com/example/tally_odds/tallyodds/Bm25" (some 0) with
  accessFlags := 33
  interfaces := #[]
  cf := some (fileOf pool2 1 #[] #[{ accessFlags := 1, nameIndex := 9, descriptorIndex := 18, attributes := #[] }, { accessFlags := 8, nameIndex := 77, descriptorIndex := 78, attributes := #[] }] 33 15 #[] #[{ accessFlags := 25, nameIndex := 91, descriptorIndex := 37, attributes := #[] }, { accessFlags := 25, nameIndex := 93, descriptorIndex := 37, attributes := #[] }, { accessFlags := 25, nameIndex := 94, descriptorIndex := 37, attributes := #[] }, { accessFlags := 18, nameIndex := 36, descriptorIndex := 37, attributes := #[] }, { accessFlags := 18, nameIndex := 40, descriptorIndex := 37, attributes := #[] }, { accessFlags := 18, nameIndex := 43, descriptorIndex := 37, attributes := #[] }])
  fields := #[{ name := "DEFAULT_K1", type := .double, accessFlags := 25, slot := 0, constantValue := 0 }, { name := "DEFAULT_B", type := .double, accessFlags := 25, slot := 1, constantValue := 0 }, { name := "DEFAULT_K3", type := .double, accessFlags := 25, slot := 2, constantValue := 0 }, { name := "k1", type := .double, accessFlags := 18, slot := 0, constantValue := 0 }, { name := "b", type := .double, accessFlags := 18, slot := 1, constantValue := 0 }, { name := "k3", type := .double, accessFlags := 18, slot := 2, constantValue := 0 }]
  methods := #[k2m0, k2m1]
  instanceTypes := #[.double, .double, .double]
  staticTypes := #[.double, .double, .double]
  resolved := Array.replicate 144 none
  statics := none }

def pool3 : Array CpInfo := pool [(1, u "java/lang/Cloneable"), (0, .class_ 1), (0, u "java/lang/Object"), (0, .class_ 3)] 3

/-- java/lang/Cloneable -/
def k3 : Class := { plain "java/lang/Cloneable" (some 0) with
  accessFlags := 1537
  interfaces := #[]
  cf := some (fileOf pool3 2 #[] #[] 1537 4 #[] #[])
  fields := #[]
  methods := #[]
  instanceTypes := #[]
  staticTypes := #[]
  resolved := Array.replicate 8 none
  statics := none }

def pool4 : Array CpInfo := pool [(1, u "java/io/Serializable"), (0, .class_ 1), (0, u "java/lang/Object"), (0, .class_ 3)] 3

/-- java/io/Serializable -/
def k4 : Class := { plain "java/io/Serializable" (some 0) with
  accessFlags := 1537
  interfaces := #[]
  cf := some (fileOf pool4 2 #[] #[] 1537 4 #[] #[])
  fields := #[]
  methods := #[]
  instanceTypes := #[]
  staticTypes := #[]
  resolved := Array.replicate 8 none
  statics := none }

/-- the primitive byte -/
def k5 : Class := { plain "byte" none with kind := .primitive 'B', accessFlags := 0x411 }
/-- [B -/
def k6 : Class := { plain "[B" (some 0) with kind := .array 5 .byte, interfaces := #[3, 4], accessFlags := 1041 }

/-- the primitive int -/
def k7 : Class := { plain "int" none with kind := .primitive 'I', accessFlags := 0x411 }
/-- [I -/
def k8 : Class := { plain "[I" (some 0) with kind := .array 7 .int, interfaces := #[3, 4], accessFlags := 1041 }

def heap : Heap := #[]
def classes : Array Class := #[k0, k1, k2, k3, k4, k5, k6, k7, k8]
def interned : List (Array UInt16 × Addr) := []
def slotsUsed : Nat := 0
def theMethod : MethodId := ⟨1, 1⟩
def args0 : Array Value := #[.int 3, .int 4, .int 5, .int 6]
def aboutOver (below : List Frame) : State where
  vm := { classes := classes, interned := interned.toArray }
  heap := heap
  slotsUsed := slotsUsed
  threads := #[{ frames := .invoking theMethod args0 :: below }]
def below0 : List Frame := [.native { method := ⟨0, 0⟩, args := #[] }]
def about1 : State := aboutOver below0
def p0 : Program := .bare "" "" ""
def e0 : Env := launch0.env 0 0 0
theorem w_frames : about1.frames = Frame.invoking theMethod args0 :: below0 := rfl
set_option maxRecDepth 65536 in
theorem w_args : argsFit about1.vm theMethod args0 = true := by decide +kernel
set_option maxRecDepth 65536 in
theorem w_heap : heapFits about1 = true := by decide +kernel
set_option maxRecDepth 65536 in
theorem w_runnable : about1.curStatus? = some .runnable := by decide +kernel
set_option maxRecDepth 65536 in
theorem w_alone : about1.alone = true := by decide +kernel
set_option maxRecDepth 65536 in
theorem w_named : about1.methodNamed? x = some theMethod := by decide +kernel
set_option maxRecDepth 65536 in
theorem w_hears : about1.hears theMethod below0 = true := by decide +kernel
set_option maxRecDepth 65536 in
theorem w_ripe : about1.ripe theMethod args0 below0 = true := by decide +kernel
theorem w_running : about1.status = .running := rfl
set_option maxRecDepth 65536 in
theorem w_room : about1.hasRoom e0.platform room_1 = true :=
  launch0.hasRoom_least _ room_1 (by decide +kernel) (by decide +kernel) (by decide +kernel) (by decide +kernel) (by decide +kernel) (by decide +kernel)
theorem allAtoms_all (ts : List Jvm.Cond) (a : Array Jvm.Value) (st : Jvm.State) : (allAtoms ts).before a st = ts.all (fun c => c.before a st) := by
  induction ts with
  | nil => rfl
  | cons c t ih =>
    show (Jvm.Cond.and c (allAtoms t)).before a st = _
    rw [Jvm.Cond.before_and, ih, List.all_cons]
def words1 : List Jvm.Cond := Jvm.Cond.code x code maxLocals ret :: tables_1
/-- a 'code' word, met by the world's own term for the bytes: nothing is compared byte by byte -/
theorem code_word {y : MethodName} {bytes : ByteArray} {mx : Nat} {rt : Option FieldType} {a : Array Value} {s : State} {m : MethodId} {meth : Method} {c : Code} (h1 : s.methodNamed? y = some m) (h2 : s.vm.method? m = some meth) (h3 : meth.code = some c) (h4 : c.code = bytes)
    (h5 : (c.maxLocals == mx && c.exceptionTable.isEmpty && decide (c.maxStack ≤ mostOperands) && decide (meth.sig.returnType = rt) && !meth.locks && decide (parseMethodDescriptor y.desc = some meth.sig)) = true) : (Jvm.Cond.code y bytes mx rt).before a s = true := by
  simp only [Bool.and_eq_true, beq_iff_eq, Bool.not_eq_true', decide_eq_true_eq] at h5
  obtain ⟨⟨⟨⟨⟨g1, g2⟩, g3⟩, g4⟩, g5⟩, g6⟩ := h5
  simp [Cond.before, Cond.holds, Cond.value, h1, h2, h3, h4, g1, g2, g3, g4, g5, g6]
def isCode : Jvm.Cond → Bool
  | .code _ _ _ _ => true
  | _ => false
theorem all_split {L : List Jvm.Cond} {P : Jvm.Cond → Bool} (h1 : L.all (fun c => isCode c || P c) = true) (h2 : ∀ c ∈ L.filter isCode, P c = true) : L.all P = true := by
  refine List.all_eq_true.mpr fun c hc => ?_
  have h := List.all_eq_true.mp h1 c hc
  rcases Bool.eq_false_or_eq_true (isCode c) with hi | hi
  · exact h2 c (List.mem_filter.mpr ⟨hc, hi⟩)
  · simpa [hi] using h
set_option maxRecDepth 65536 in
theorem w_c0 : (Jvm.Cond.code x code maxLocals ret).before args0 about1 = true := code_word (m := ⟨1, 1⟩) (meth := k1m1) (c := k1c1) (by decide +kernel) rfl rfl rfl (by decide +kernel)
set_option maxRecDepth 65536 in
theorem w_c1 : (Jvm.Cond.code ({ cls := "com/example/tally_odds/tallyodds/Bm25", name := "lengthNorm", desc := "(DID)D" } : Jvm.MethodName) prog_2_method_17_code (5 : Nat) (Option.some Jvm.ClassFile.FieldType.double)).before args0 about1 = true := code_word (m := ⟨2, 1⟩) (meth := k2m1) (c := k2c1) (by decide +kernel) rfl rfl rfl (by decide +kernel)
def codes1 : List Jvm.Cond := [Jvm.Cond.code x code maxLocals ret, Jvm.Cond.code ({ cls := "com/example/tally_odds/tallyodds/Bm25", name := "lengthNorm", desc := "(DID)D" } : Jvm.MethodName) prog_2_method_17_code (5 : Nat) (Option.some Jvm.ClassFile.FieldType.double)]
set_option maxRecDepth 65536 in
theorem codes_eq : words1.filter isCode = codes1 := rfl
theorem w_codes : ∀ c ∈ words1.filter isCode, c.before args0 about1 = true := by
  rw [codes_eq]
  intro c hc
  simp only [codes1, List.mem_cons, List.not_mem_nil, or_false] at hc
  rcases hc with rfl | rfl
  · exact w_c0
  · exact w_c1
set_option maxRecDepth 65536 in
theorem w_t1 : words1.all (fun c => isCode c || c.before args0 about1) = true := by decide +kernel
theorem w_tables : (allAtoms (Jvm.Cond.code x code maxLocals ret :: tables_1)).before args0 about1 = true := by
  rw [allAtoms_all]
  show words1.all (fun c => c.before args0 about1) = true
  refine all_split ?_ w_codes
  rw [w_t1]
set_option maxRecDepth 65536 in
theorem w_case : (Jvm.Cond.and given_1 narrow_1).before args0 about1 = true := by decide +kernel
theorem w_applies : (headSpec (Jvm.Cond.code x code maxLocals ret :: tables_1) room_1).applies x e0.platform about1 = true :=
  (Spec.applies_iff w_frames).mpr ⟨w_running, w_runnable, w_alone, w_named, w_hears, w_ripe, w_room, w_tables⟩
theorem atStart : AtStart classFile x code maxLocals ret World_1 tables_1 room_1 Calls_1 rest_1 Pre_1 launch0 p0 e0 about1 theMethod args0 below0 :=
  ⟨lists_1, trivial, launch0.admits_env _ _ _, launch0.least_env, fairChoices_fair.cas, fairChoices_fair.clock, w_frames, w_args, w_heap, w_applies, trivial, trivial, w_case⟩
end start1
theorem witness_1 : WitnessClaimed_1 := ⟨start1.p0, start1.e0, start1.about1, start1.theMethod, start1.args0, start1.below0, start1.atStart⟩
end Jvm.Pilot.@@N@@
