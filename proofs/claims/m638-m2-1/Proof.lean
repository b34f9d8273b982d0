import JvmDerived
import JvmDerived.Pilot.@@N@@Statement
import JvmDerived.Pilot.@@N@@Code
set_option linter.unusedVariables false
set_option linter.unusedSimpArgs false
namespace Jvm.Pilot.@@N@@
section OwnFP
open Jvm.FP.Core
/-! Exact doubles: own_Is x n e says that the double x is finite and worth n * 2^e. -/
def own_Is (x : UInt64) (n : Int) (e : Int) : Prop := DFin x ∧ -1074 ≤ e ∧ zval b64 (val64 x) = n * ((2 ^ (e + 1074).toNat : Nat) : Int)
theorem own_qmax : b64.qmax = 971 := by decide
theorem own_pp : b64.p = 53 := rfl
theorem own_powc {a b u v : Nat} (h : a * 2 ^ u = b * 2 ^ v) {w : Int} (hw : w = (u : Int) - v) : a * 2 ^ w.toNat = b * 2 ^ (-w).toNat := by
  subst hw
  have hu : u = ((u : Int) - v).toNat + min u v := by omega
  have hv : v = (-((u : Int) - v)).toNat + min u v := by omega
  have h2 : a * 2 ^ (((u : Int) - v).toNat + min u v) = b * 2 ^ ((-((u : Int) - v)).toNat + min u v) := by rw [← hu, ← hv]; exact h
  rw [Nat.pow_add, Nat.pow_add, ← Nat.mul_assoc, ← Nat.mul_assoc] at h2
  exact Nat.eq_of_mul_eq_mul_right (Nat.two_pow_pos _) h2
theorem own_signed_abs (s : Bool) (c : Nat) : (signed s c).natAbs = c := by cases s <;> simp [signed]
theorem own_signed_mul (s t : Bool) (c d : Nat) : signed (s != t) (c * d) = signed s c * signed t d := by
  cases s <;> cases t <;> simp [signed, Int.natCast_mul, Int.neg_mul, Int.mul_neg]
theorem own_signed_scale (s : Bool) (c d : Nat) : signed s (c * d) = signed s c * (d : Int) := by cases s <;> simp [signed, Int.natCast_mul, Int.neg_mul]
theorem own_round {s : Bool} {c : Nat} {q : Int} {M : Nat} {e : Int} (h2 : -2148 ≤ q) (hM : M < 9007199254740992) (he1 : -1074 ≤ e) (he2 : e ≤ 971) (h : inUnits c q (-2148) = M * 2 ^ (e + 2148).toNat) :
    ∃ c' q', round b64 (.fin s c q) = .fin s c' q' ∧ inUnits c' q' b64.qmin = M * 2 ^ (e + 1074).toNat := by
  have hq : b64.qmin = -1074 := qmin_b64
  obtain ⟨c', q', h1, h3⟩ := round_exact good_b64 s (c := M) (q := e) (show M < 2 ^ 53 from hM) (by rw [hq]; omega) (by rw [own_qmax]; omega)
  refine ⟨c', q', ?_, ?_⟩
  · rw [← h1]
    show roundRatio b64 s c 1 q = roundRatio b64 s M 1 e
    refine roundRatio_congr (by decide) (by decide) ?_
    unfold inUnits at h
    have h4 := own_powc (u := (q - -2148).toNat) (v := (e + 2148).toNat) h (w := q - e) (by omega)
    rw [Nat.mul_one, Nat.mul_one, h4, show -(q - e) = e - q by omega]
  · rw [h3]; unfold inUnits; rw [hq, show e - -1074 = e + 1074 by omega]
theorem own_fin_split {x : UInt64} {n e : Int} (h : own_Is x n e) : ∃ s c q, val64 x = .fin s c q ∧ Jvm.FP.Core.fits b64 (.fin s c q) ∧ signed s (inUnits c q b64.qmin) = n * ((2 ^ (e + 1074).toNat : Nat) : Int) ∧ -1074 ≤ q := by
  obtain ⟨⟨s, c, q, hv⟩, he, hz⟩ := h
  have hf := val64_fits x
  rw [hv] at hf hz
  have := hf.2.1
  rw [qmin_b64] at this
  exact ⟨s, c, q, hv, hf, hz, this⟩
theorem own_Is_of {x : UInt64} {s : Bool} {c : Nat} {q n e : Int} (hv : val64 x = .fin s c q) (he : -1074 ≤ e) (h : signed s (inUnits c q b64.qmin) = n * ((2 ^ (e + 1074).toNat : Nat) : Int)) : own_Is x n e :=
  ⟨⟨s, c, q, hv⟩, he, by rw [hv]; exact h⟩
theorem own_sum {s : Bool} {c : Nat} {q n e : Int} (hq : -1074 ≤ q) (hn : n.natAbs < 9007199254740992) (he1 : -1074 ≤ e) (he2 : e ≤ 971) (h : signed s (inUnits c q b64.qmin) = n * ((2 ^ (e + 1074).toNat : Nat) : Int)) :
    ∃ c' q', round b64 (.fin s c q) = .fin s c' q' ∧ signed s (inUnits c' q' b64.qmin) = n * ((2 ^ (e + 1074).toNat : Nat) : Int) := by
  have h1 : inUnits c q b64.qmin = n.natAbs * 2 ^ (e + 1074).toNat := by
    rw [← own_signed_abs s (inUnits c q b64.qmin), h, Int.natAbs_mul, Int.natAbs_natCast]
  have h2 : inUnits c q (-2148) = n.natAbs * 2 ^ (e + 2148).toNat := by
    rw [inUnits_move c (r := b64.qmin) (by rw [qmin_b64]; omega) (by rw [qmin_b64]; omega), h1, qmin_b64, Nat.mul_assoc, ← Nat.pow_add]
    congr 2; omega
  obtain ⟨c', q', h3, h4⟩ := own_round (s := s) (by omega) hn he1 he2 h2
  exact ⟨c', q', h3, by rw [h4, ← h1, h]⟩
theorem own_add {x y : UInt64} {m n e : Int} (hx : own_Is x m e) (hy : own_Is y n e) (he : e ≤ 971) (hb : (m + n).natAbs < 9007199254740992) : own_Is (dadd x y) (m + n) e := by
  have he1 := hx.2.1
  obtain ⟨s, c, q, vx, fx, zx, -⟩ := own_fin_split hx
  obtain ⟨t, d, r, vy, fy, zy, -⟩ := own_fin_split hy
  obtain ⟨sg, N, E, h1, h2, h3⟩ := sum_units fx fy
  have h4 : signed sg (inUnits N E b64.qmin) = (m + n) * ((2 ^ (e + 1074).toNat : Nat) : Int) := by
    rw [h3, Int.add_mul, ← zx, ← zy]; rfl
  obtain ⟨c', q', h5, h6⟩ := own_sum (by rw [qmin_b64] at h2; exact h2) hb he1 he h4
  exact own_Is_of (by rw [val64_dadd, vx, vy, h1, h5]) he1 h6
theorem own_sub {x y : UInt64} {m n e : Int} (hx : own_Is x m e) (hy : own_Is y n e) (he : e ≤ 971) (hb : (m - n).natAbs < 9007199254740992) : own_Is (dsub x y) (m - n) e := by
  have he1 := hx.2.1
  obtain ⟨s, c, q, vx, fx, zx, -⟩ := own_fin_split hx
  obtain ⟨t, d, r, vy, fy, zy, -⟩ := own_fin_split hy
  have fy' : Jvm.FP.Core.fits b64 (.fin (!t) d r) := fy
  obtain ⟨sg, N, E, h1, h2, h3⟩ := sum_units (t := !t) fx fy'
  have h4 : signed sg (inUnits N E b64.qmin) = (m - n) * ((2 ^ (e + 1074).toNat : Nat) : Int) := by
    rw [h3, Int.sub_mul, ← zx, ← zy]
    show signed s (inUnits c q b64.qmin) + signed (!t) (inUnits d r b64.qmin) = _
    rw [signed_not]; omega
  obtain ⟨c', q', h5, h6⟩ := own_sum (by rw [qmin_b64] at h2; exact h2) hb he1 he h4
  refine own_Is_of (s := sg) (c := c') (q := q') ?_ he1 h6
  rw [val64_dsub, vx, vy]
  show round b64 (exactSum (.fin s c q) (.fin (!t) d r)) = _
  rw [h1, h5]
theorem own_mul {x y : UInt64} {m n e1 e2 e : Int} (hx : own_Is x m e1) (hy : own_Is y n e2) (hee : e1 + e2 = e) (he1 : -1074 ≤ e) (he2 : e ≤ 971) (hb : (m * n).natAbs < 9007199254740992) : own_Is (dmul x y) (m * n) e := by
  subst hee
  have hx1 := hx.2.1
  have hy1 := hy.2.1
  obtain ⟨s, c, q, vx, fx, zx, qx⟩ := own_fin_split hx
  obtain ⟨t, d, r, vy, fy, zy, qy⟩ := own_fin_split hy
  obtain ⟨h1, h2, h3⟩ := product_units fx fy
  have hs : signed (s != t) (inUnits (c * d) (q + r) (-2148)) = (m * n) * ((2 ^ (e1 + e2 + 2148).toNat : Nat) : Int) := by
    have h4 : inUnits (c * d) (q + r) (-2148) = inUnits c q b64.qmin * inUnits d r b64.qmin := by
      have := h3
      rw [qmin_b64] at this ⊢
      exact this
    rw [h4, own_signed_mul, zx, zy, show (e1 + e2 + 2148).toNat = (e1 + 1074).toNat + (e2 + 1074).toNat by omega, Nat.pow_add, Int.natCast_mul]
    simp only [Int.mul_assoc, Int.mul_left_comm, Int.mul_comm]
  have h5 : inUnits (c * d) (q + r) (-2148) = (m * n).natAbs * 2 ^ (e1 + e2 + 2148).toNat := by
    rw [← own_signed_abs (s != t) (inUnits (c * d) (q + r) (-2148)), hs, Int.natAbs_mul, Int.natAbs_natCast]
  obtain ⟨c', q', h6, h7⟩ := own_round (s := (s != t)) (by omega) hb he1 he2 h5
  refine own_Is_of (s := (s != t)) (c := c') (q := q') (by rw [val64_dmul, vx, vy, h1, h6]) he1 ?_
  rw [h5, own_signed_scale] at hs
  have h8 : signed (s != t) (m * n).natAbs = m * n := Int.eq_of_mul_eq_mul_right (by have := Nat.two_pow_pos (e1 + e2 + 2148).toNat; omega) hs
  rw [h7, own_signed_scale, h8]
/-- the quotient of two exact doubles is the rounded ratio of their numbers -/
theorem own_divR {x y : UInt64} {m n e1 e2 : Int} (hx : own_Is x m e1) (hy : own_Is y n e2) (hn : n ≠ 0) :
    val64 (ddiv x y) = roundRatio b64 (sgn (val64 x) != sgn (val64 y)) m.natAbs n.natAbs (e1 - e2) ∧ signed (sgn (val64 x)) m.natAbs = m ∧ signed (sgn (val64 y)) n.natAbs = n := by
  have hx1 := hx.2.1
  have hy1 := hy.2.1
  obtain ⟨s, c, q, vx, fx, zx, qx⟩ := own_fin_split hx
  obtain ⟨t, d, r, vy, fy, zy, qy⟩ := own_fin_split hy
  have ax : inUnits c q b64.qmin = m.natAbs * 2 ^ (e1 + 1074).toNat := by
    rw [← own_signed_abs s (inUnits c q b64.qmin), zx, Int.natAbs_mul, Int.natAbs_natCast]
  have ay : inUnits d r b64.qmin = n.natAbs * 2 ^ (e2 + 1074).toNat := by
    rw [← own_signed_abs t (inUnits d r b64.qmin), zy, Int.natAbs_mul, Int.natAbs_natCast]
  have sx : signed s m.natAbs = m := by
    rw [ax, own_signed_scale] at zx
    exact Int.eq_of_mul_eq_mul_right (by have := Nat.two_pow_pos (e1 + 1074).toNat; omega) zx
  have sy : signed t n.natAbs = n := by
    rw [ay, own_signed_scale] at zy
    exact Int.eq_of_mul_eq_mul_right (by have := Nat.two_pow_pos (e2 + 1074).toNat; omega) zy
  have nn : n.natAbs ≠ 0 := by omega
  have hd : d ≠ 0 := by
    rintro rfl
    have : n.natAbs * 2 ^ (e2 + 1074).toNat = 0 := by rw [← ay]; unfold inUnits; simp
    rcases Nat.mul_eq_zero.mp this with h | h
    · exact nn h
    · have := Nat.two_pow_pos (e2 + 1074).toNat; omega
  refine ⟨?_, by rw [vx]; exact sx, by rw [vy]; exact sy⟩
  rw [val64_ddiv, vx, vy]
  show (if d = 0 then _ else roundRatio b64 (s != t) c d (q - r)) = roundRatio b64 (s != t) _ _ _
  rw [if_neg hd]
  refine roundRatio_congr (by omega) (by omega) ?_
  unfold inUnits at ax ay
  rw [qmin_b64] at ax ay
  have key : c * n.natAbs * 2 ^ ((q - -1074).toNat + (e2 + 1074).toNat) = m.natAbs * d * 2 ^ ((e1 + 1074).toNat + (r - -1074).toNat) := by
    have e3 : c * n.natAbs * 2 ^ ((q - -1074).toNat + (e2 + 1074).toNat) = (c * 2 ^ (q - -1074).toNat) * (n.natAbs * 2 ^ (e2 + 1074).toNat) := by
      rw [Nat.pow_add]; simp only [Nat.mul_assoc, Nat.mul_left_comm, Nat.mul_comm]
    rw [e3, ax, ← ay, Nat.pow_add]
    simp only [Nat.mul_assoc, Nat.mul_left_comm, Nat.mul_comm]
  have h4 := own_powc key (w := (q - r) - (e1 - e2)) (by omega)
  rw [h4, show -((q - r) - (e1 - e2)) = (e1 - e2) - (q - r) by omega]
theorem own_div {x y : UInt64} {m n N e1 e2 e : Int} (hx : own_Is x m e1) (hy : own_Is y n e2) (hn : n ≠ 0) (hm : m = N * n) (hee : e1 - e2 = e) (he1 : -1074 ≤ e) (he2 : e ≤ 971) (hb : N.natAbs < 9007199254740992) : own_Is (ddiv x y) N e := by
  subst hee
  obtain ⟨h1, h2, h3⟩ := own_divR hx hy hn
  have hq : b64.qmin = -1074 := qmin_b64
  obtain ⟨c', q', h5, h6⟩ := round_exact good_b64 (sgn (val64 x) != sgn (val64 y)) (c := N.natAbs) (q := e1 - e2) (show _ < 2 ^ 53 from hb) (by rw [hq]; omega) (by rw [own_qmax]; omega)
  refine own_Is_of (s := (sgn (val64 x) != sgn (val64 y))) (c := c') (q := q') ?_ he1 ?_
  · rw [h1, ← h5]
    show roundRatio _ _ _ _ _ = roundRatio b64 (sgn (val64 x) != sgn (val64 y)) N.natAbs 1 (e1 - e2)
    refine roundRatio_congr (by omega) (by decide) ?_
    rw [hm, Int.natAbs_mul]; simp
  · rw [h6]; unfold inUnits
    rw [hq, show e1 - e2 - -1074 = e1 - e2 + 1074 by omega, own_signed_scale]
    congr 1
    have h7 := own_signed_mul (sgn (val64 x)) (sgn (val64 y)) N.natAbs (n.natAbs * n.natAbs)
    have h8 : signed (sgn (val64 x) != sgn (val64 y)) (m.natAbs * n.natAbs) = m * n := by rw [own_signed_mul, h2, h3]
    rw [hm, Int.natAbs_mul, Nat.mul_assoc, own_signed_scale] at h8
    have h9 : ((n.natAbs * n.natAbs : Nat) : Int) = n * n := Int.natAbs_mul_self
    rw [h9, Int.mul_assoc] at h8
    refine Int.eq_of_mul_eq_mul_right ?_ h8
    intro h0
    rcases Int.mul_eq_zero.mp h0 with h | h <;> exact hn h
theorem own_shift {x : UInt64} {n e e' : Int} (j : Nat) (hx : own_Is x n e) (hj : e' = e - j) (he : -1074 ≤ e') : own_Is x (n * (2 ^ j : Nat)) e' := by
  subst hj
  refine ⟨hx.1, he, ?_⟩
  rw [hx.2.2, show (e + 1074).toNat = j + (e - j + 1074).toNat by omega, Nat.pow_add, Int.natCast_mul, ← Int.mul_assoc]
theorem own_nn {x : UInt64} {n e : Int} (h : own_Is x n e) : Jvm.Free.Fl.NoNaN64 x := Jvm.Free.Fl.noNaN64_no.mpr h.1.notNaN
theorem own_cmp {x y : UInt64} {m n e : Int} (hx : own_Is x m e) (hy : own_Is y n e) : dcmp x y = some (compare m n) := by
  rw [dcmp_zval hx.1.ne_nan hy.1.ne_nan, hx.2.2, hy.2.2]
  have hp : (0 : Int) < ((2 ^ (e + 1074).toNat : Nat) : Int) := by have := Nat.two_pow_pos (e + 1074).toNat; omega
  congr 1
  refine compare_congr ⟨fun h => Int.lt_of_mul_lt_mul_right h (Int.le_of_lt hp), fun h => Int.mul_lt_mul_of_pos_right h hp⟩ ⟨fun h => Int.eq_of_mul_eq_mul_right (Int.ne_of_gt hp) h, fun h => by rw [h]⟩
theorem own_i2d (a : Int32) : own_Is (i2d a) a.toInt 0 := by
  have h := i2d_int a
  refine ⟨?_, by decide, ?_⟩
  · rw [i2d_l2d]; exact l2d_fin _
  · rw [DInt_zval h]; rfl
theorem own_l2d {a : Int64} (h : a.toInt.natAbs ≤ 9007199254740992) : own_Is (l2d a) a.toInt 0 := by
  have h := l2d_int (a := a) h
  exact ⟨l2d_fin _, by decide, by rw [DInt_zval h]; rfl⟩
/-- with a bound on the number -/
def own_B (x : UInt64) (n e B : Int) : Prop := own_Is x n e ∧ -B ≤ n ∧ n ≤ B
theorem own_B.is {x : UInt64} {n e B : Int} (h : own_B x n e B) : own_Is x n e := h.1
theorem own_B.nn {x : UInt64} {n e B : Int} (h : own_B x n e B) : Jvm.Free.Fl.NoNaN64 x := own_nn h.1
theorem own_Badd {x y : UInt64} {m n e A B : Int} (hx : own_B x m e A) (hy : own_B y n e B) (h : (decide (e ≤ 971) && decide (A + B < 9007199254740992)) = true) : own_B (dadd x y) (m + n) e (A + B) := by
  simp only [Bool.and_eq_true, decide_eq_true_eq] at h
  have := hx.2; have := hy.2
  exact ⟨own_add hx.1 hy.1 h.1 (by omega), by omega, by omega⟩
theorem own_Bsub {x y : UInt64} {m n e A B : Int} (hx : own_B x m e A) (hy : own_B y n e B) (h : (decide (e ≤ 971) && decide (A + B < 9007199254740992)) = true) : own_B (dsub x y) (m - n) e (A + B) := by
  simp only [Bool.and_eq_true, decide_eq_true_eq] at h
  have := hx.2; have := hy.2
  exact ⟨own_sub hx.1 hy.1 h.1 (by omega), by omega, by omega⟩
theorem own_bmul {m n A B : Int} (hm : -A ≤ m ∧ m ≤ A) (hn : -B ≤ n ∧ n ≤ B) : -(A * B) ≤ m * n ∧ m * n ≤ A * B := by
  have h : (m * n).natAbs ≤ A.toNat * B.toNat := by rw [Int.natAbs_mul]; exact Nat.mul_le_mul (by omega) (by omega)
  have h2 : ((A.toNat * B.toNat : Nat) : Int) = A * B := by rw [Int.natCast_mul, Int.toNat_of_nonneg (by omega), Int.toNat_of_nonneg (by omega)]
  omega
theorem own_Bmul {x y : UInt64} {m n e1 e2 A B : Int} (hx : own_B x m e1 A) (hy : own_B y n e2 B) (h : (decide (-1074 ≤ e1 + e2) && decide (e1 + e2 ≤ 971) && decide (A * B < 9007199254740992)) = true) : own_B (dmul x y) (m * n) (e1 + e2) (A * B) := by
  simp only [Bool.and_eq_true, decide_eq_true_eq] at h
  have hb := own_bmul hx.2 hy.2
  exact ⟨own_mul hx.1 hy.1 rfl h.1.1 h.1.2 (by omega), hb⟩
/-- an exact quotient by a power of two (n = 1 in y = 1 * 2^e2) -/
theorem own_Bdiv {x y : UInt64} {m e1 e2 A : Int} (hx : own_B x m e1 A) (hy : own_Is y 1 e2) (h : (decide (-1074 ≤ e1 - e2) && decide (e1 - e2 ≤ 971) && decide (A < 9007199254740992)) = true) : own_B (ddiv x y) m (e1 - e2) A := by
  simp only [Bool.and_eq_true, decide_eq_true_eq] at h
  have := hx.2
  exact ⟨own_div hx.1 hy (by decide) (Int.mul_one _).symm rfl h.1.1 h.1.2 (by omega), hx.2⟩
theorem own_Bshift {x : UInt64} {n e A : Int} (j : Nat) (P : Int) (hx : own_B x n e A) (h : (decide (-1074 ≤ e - j) && decide (((2 ^ j : Nat) : Int) = P)) = true) : own_B x (n * P) (e - j) (A * P) := by
  simp only [Bool.and_eq_true, decide_eq_true_eq] at h
  obtain ⟨h, rfl⟩ := h
  refine ⟨own_shift j hx.1 rfl h, ?_⟩
  have hp : (0 : Int) ≤ (2 ^ j : Nat) := Int.natCast_nonneg _
  have := hx.2
  constructor
  · rw [← Int.neg_mul]; exact Int.mul_le_mul_of_nonneg_right this.1 hp
  · exact Int.mul_le_mul_of_nonneg_right this.2 hp
theorem own_Bcast {x : UInt64} {n n' e e' A A' : Int} (h : own_B x n e A) (hn : n = n') (he : e = e') (hA : A ≤ A') : own_B x n' e' A' := by
  subst hn he; exact ⟨h.1, by have := h.2; omega, by have := h.2; omega⟩
theorem own_eq0 {x y : UInt64} {m n e : Int} (hx : own_Is x m e) (hy : own_Is y n e) (h : m = n) (o : ClassFile.CmpOp) : Op.cmpValue (Jvm.FP.dcmp x y) o = 0 := by
  show Op.cmpValue (dcmp x y) o = 0
  subst h
  rw [own_cmp hx hy, show compare m m = .eq from (compare_eq_iff m m).mpr rfl]; cases o <;> rfl
theorem own_cmpv {x y : UInt64} {m n e : Int} (hx : own_Is x m e) (hy : own_Is y n e) (o : ClassFile.CmpOp) : (m < n → Op.cmpValue (Jvm.FP.dcmp x y) o = -1) ∧ (m = n → Op.cmpValue (Jvm.FP.dcmp x y) o = 0) ∧ (n < m → Op.cmpValue (Jvm.FP.dcmp x y) o = 1) := by
  refine ⟨fun h => ?_, fun h => own_eq0 hx hy h o, fun h => ?_⟩
  · show Op.cmpValue (dcmp x y) o = -1
    rw [own_cmp hx hy, (compare_lt_iff m n).mpr h]; cases o <;> rfl
  · show Op.cmpValue (dcmp x y) o = 1
    rw [own_cmp hx hy, (compare_gt_iff m n).mpr h]; cases o <;> rfl
theorem own_one : own_Is 4607182418800017408 1 0 := ⟨(fin_bits _).mpr (by decide), by decide, by decide +kernel⟩
theorem own_zero : own_Is 0 0 0 := ⟨(fin_bits _).mpr (by decide), by decide, by decide +kernel⟩
/-! ints and longs with their numbers and bounds -/
def own_I (v : Int32) (n B : Int) : Prop := v.toInt = n ∧ -B ≤ n ∧ n ≤ B
def own_L (v : Int64) (n B : Int) : Prop := v.toInt = n ∧ -B ≤ n ∧ n ≤ B
theorem own_Iadd {a b v : Int32} {m n A B : Int} (hv : a + b = v) (ha : own_I a m A) (hb : own_I b n B) (h : decide (A + B < 2147483648) = true) : own_I v (m + n) (A + B) := by
  subst hv; simp only [decide_eq_true_eq] at h; obtain ⟨rfl, h1, h2⟩ := ha; obtain ⟨rfl, h3, h4⟩ := hb
  exact ⟨by rw [Int32.toInt_add]; exact Int.bmod_eq_of_le (by omega) (by omega), by omega, by omega⟩
theorem own_Isub {a b v : Int32} {m n A B : Int} (hv : a - b = v) (ha : own_I a m A) (hb : own_I b n B) (h : decide (A + B < 2147483648) = true) : own_I v (m - n) (A + B) := by
  subst hv; simp only [decide_eq_true_eq] at h; obtain ⟨rfl, h1, h2⟩ := ha; obtain ⟨rfl, h3, h4⟩ := hb
  exact ⟨by rw [Int32.toInt_sub]; exact Int.bmod_eq_of_le (by omega) (by omega), by omega, by omega⟩
theorem own_Imul {a b v : Int32} {m n A B : Int} (hv : a * b = v) (ha : own_I a m A) (hb : own_I b n B) (h : decide (A * B < 2147483648) = true) : own_I v (m * n) (A * B) := by
  subst hv; simp only [decide_eq_true_eq] at h; obtain ⟨rfl, h1⟩ := ha; obtain ⟨rfl, h3⟩ := hb
  have hb := own_bmul h1 h3
  exact ⟨by rw [Int32.toInt_mul]; exact Int.bmod_eq_of_le (by omega) (by omega), hb⟩
theorem own_Ladd {a b v : Int64} {m n A B : Int} (hv : a + b = v) (ha : own_L a m A) (hb : own_L b n B) (h : decide (A + B < 9223372036854775808) = true) : own_L v (m + n) (A + B) := by
  subst hv; simp only [decide_eq_true_eq] at h; obtain ⟨rfl, h1, h2⟩ := ha; obtain ⟨rfl, h3, h4⟩ := hb
  exact ⟨by rw [Int64.toInt_add]; exact Int.bmod_eq_of_le (by omega) (by omega), by omega, by omega⟩
theorem own_Lsub {a b v : Int64} {m n A B : Int} (hv : a - b = v) (ha : own_L a m A) (hb : own_L b n B) (h : decide (A + B < 9223372036854775808) = true) : own_L v (m - n) (A + B) := by
  subst hv; simp only [decide_eq_true_eq] at h; obtain ⟨rfl, h1, h2⟩ := ha; obtain ⟨rfl, h3, h4⟩ := hb
  exact ⟨by rw [Int64.toInt_sub]; exact Int.bmod_eq_of_le (by omega) (by omega), by omega, by omega⟩
theorem own_Lmul {a b v : Int64} {m n A B : Int} (hv : a * b = v) (ha : own_L a m A) (hb : own_L b n B) (h : decide (A * B < 9223372036854775808) = true) : own_L v (m * n) (A * B) := by
  subst hv; simp only [decide_eq_true_eq] at h; obtain ⟨rfl, h1⟩ := ha; obtain ⟨rfl, h3⟩ := hb
  have hb := own_bmul h1 h3
  exact ⟨by rw [Int64.toInt_mul]; exact Int.bmod_eq_of_le (by omega) (by omega), hb⟩
theorem own_Ii2l {a : Int32} {v : Int64} {m A : Int} (hv : Int32.toInt64 a = v) (ha : own_I a m A) : own_L v m A := by
  subst hv; exact ⟨by rw [Int32.toInt_toInt64]; exact ha.1, ha.2⟩
theorem own_Icast {v : Int32} {n n' A A' : Int} (h : own_I v n A) (hn : n = n') (hA : A ≤ A') : own_I v n' A' := by
  subst hn; exact ⟨h.1, by have := h.2; omega, by have := h.2; omega⟩
theorem own_Lcast {v : Int64} {n n' A A' : Int} (h : own_L v n A) (hn : n = n') (hA : A ≤ A') : own_L v n' A' := by
  subst hn; exact ⟨h.1, by have := h.2; omega, by have := h.2; omega⟩
theorem own_Bi2d {v : Int32} {n A : Int} (h : own_I v n A) : own_B (i2d v) n 0 A := by
  obtain ⟨rfl, h1⟩ := h; exact ⟨own_i2d v, h1⟩
theorem own_Bl2d {v : Int64} {n A : Int} (h : own_L v n A) (hA : decide (A ≤ 9007199254740992) = true) : own_B (l2d v) n 0 A := by
  simp only [decide_eq_true_eq] at hA; obtain ⟨rfl, h1⟩ := h; exact ⟨own_l2d (by omega), h1⟩
theorem own_Irng (v : Int32) : own_I v v.toInt 2147483648 := ⟨rfl, by have := Jvm.RoadKit.rng32 v; omega, by have := Jvm.RoadKit.rng32 v; omega⟩
theorem own_Iand {x m v : Int32} {B : Int} (hv : x &&& m = v) (hB : m.toInt = B) (h0 : 0 ≤ B) : own_I v v.toInt B := by
  have := Jvm.RoadKit.c_and x m (by omega); rw [hv] at this; exact ⟨rfl, by omega, by omega⟩
end OwnFP
section OwnStep
open Jvm Jvm.ClassFile Sem Op Lib Jvm.Free Jvm.Stand Jvm.LawKit Jvm.RoadKit
variable {tb : Tables} [Ours tb] {e : Env} {below : List Frame} {T target : State} {m : MethodId} {c : Code} {pc pc' : Nat} {L : Array Slot} {S : List Value}
theorem own_s_iadd (h : At T m c below) (hx : tb.exec = Jvm.exec) {x y v : Int32} (hd : decode c.code pc = .ok (.iadd, 1)) (hp : pc + 1 = pc') (hv : x + y = v)
    (hr : Steps tb e below (T.setTop (mkF m pc' L (.int v :: S))) target) : Steps tb e below (T.setTop (mkF m pc L (.int y :: .int x :: S))) target := by
  subst hv hp; exact XS.iadd h hx rfl hd rfl hr
theorem own_s_ladd (h : At T m c below) (hx : tb.exec = Jvm.exec) {x y v : Int64} (hd : decode c.code pc = .ok (.ladd, 1)) (hp : pc + 1 = pc') (hv : x + y = v)
    (hr : Steps tb e below (T.setTop (mkF m pc' L (.long v :: S))) target) : Steps tb e below (T.setTop (mkF m pc L (.long y :: .long x :: S))) target := by
  subst hv hp; exact XS.ladd h hx rfl hd rfl hr
theorem own_s_isub (h : At T m c below) (hx : tb.exec = Jvm.exec) {x y v : Int32} (hd : decode c.code pc = .ok (.isub, 1)) (hp : pc + 1 = pc') (hv : x - y = v)
    (hr : Steps tb e below (T.setTop (mkF m pc' L (.int v :: S))) target) : Steps tb e below (T.setTop (mkF m pc L (.int y :: .int x :: S))) target := by
  subst hv hp; exact XS.isub h hx rfl hd rfl hr
theorem own_s_lsub (h : At T m c below) (hx : tb.exec = Jvm.exec) {x y v : Int64} (hd : decode c.code pc = .ok (.lsub, 1)) (hp : pc + 1 = pc') (hv : x - y = v)
    (hr : Steps tb e below (T.setTop (mkF m pc' L (.long v :: S))) target) : Steps tb e below (T.setTop (mkF m pc L (.long y :: .long x :: S))) target := by
  subst hv hp; exact XS.lsub h hx rfl hd rfl hr
theorem own_s_imul (h : At T m c below) (hx : tb.exec = Jvm.exec) {x y v : Int32} (hd : decode c.code pc = .ok (.imul, 1)) (hp : pc + 1 = pc') (hv : x * y = v)
    (hr : Steps tb e below (T.setTop (mkF m pc' L (.int v :: S))) target) : Steps tb e below (T.setTop (mkF m pc L (.int y :: .int x :: S))) target := by
  subst hv hp; exact XS.imul h hx rfl hd rfl hr
theorem own_s_lmul (h : At T m c below) (hx : tb.exec = Jvm.exec) {x y v : Int64} (hd : decode c.code pc = .ok (.lmul, 1)) (hp : pc + 1 = pc') (hv : x * y = v)
    (hr : Steps tb e below (T.setTop (mkF m pc' L (.long v :: S))) target) : Steps tb e below (T.setTop (mkF m pc L (.long y :: .long x :: S))) target := by
  subst hv hp; exact XS.lmul h hx rfl hd rfl hr
theorem own_s_iand (h : At T m c below) (hx : tb.exec = Jvm.exec) {x y v : Int32} (hd : decode c.code pc = .ok (.iand, 1)) (hp : pc + 1 = pc') (hv : x &&& y = v)
    (hr : Steps tb e below (T.setTop (mkF m pc' L (.int v :: S))) target) : Steps tb e below (T.setTop (mkF m pc L (.int y :: .int x :: S))) target := by
  subst hv hp; exact XS.iand h hx rfl hd rfl hr
theorem own_s_land (h : At T m c below) (hx : tb.exec = Jvm.exec) {x y v : Int64} (hd : decode c.code pc = .ok (.land, 1)) (hp : pc + 1 = pc') (hv : x &&& y = v)
    (hr : Steps tb e below (T.setTop (mkF m pc' L (.long v :: S))) target) : Steps tb e below (T.setTop (mkF m pc L (.long y :: .long x :: S))) target := by
  subst hv hp; exact XS.land h hx rfl hd rfl hr
theorem own_s_ior (h : At T m c below) (hx : tb.exec = Jvm.exec) {x y v : Int32} (hd : decode c.code pc = .ok (.ior, 1)) (hp : pc + 1 = pc') (hv : x ||| y = v)
    (hr : Steps tb e below (T.setTop (mkF m pc' L (.int v :: S))) target) : Steps tb e below (T.setTop (mkF m pc L (.int y :: .int x :: S))) target := by
  subst hv hp; exact XS.ior h hx rfl hd rfl hr
theorem own_s_lor (h : At T m c below) (hx : tb.exec = Jvm.exec) {x y v : Int64} (hd : decode c.code pc = .ok (.lor, 1)) (hp : pc + 1 = pc') (hv : x ||| y = v)
    (hr : Steps tb e below (T.setTop (mkF m pc' L (.long v :: S))) target) : Steps tb e below (T.setTop (mkF m pc L (.long y :: .long x :: S))) target := by
  subst hv hp; exact XS.lor h hx rfl hd rfl hr
theorem own_s_ixor (h : At T m c below) (hx : tb.exec = Jvm.exec) {x y v : Int32} (hd : decode c.code pc = .ok (.ixor, 1)) (hp : pc + 1 = pc') (hv : x ^^^ y = v)
    (hr : Steps tb e below (T.setTop (mkF m pc' L (.int v :: S))) target) : Steps tb e below (T.setTop (mkF m pc L (.int y :: .int x :: S))) target := by
  subst hv hp; exact XS.ixor h hx rfl hd rfl hr
theorem own_s_lxor (h : At T m c below) (hx : tb.exec = Jvm.exec) {x y v : Int64} (hd : decode c.code pc = .ok (.lxor, 1)) (hp : pc + 1 = pc') (hv : x ^^^ y = v)
    (hr : Steps tb e below (T.setTop (mkF m pc' L (.long v :: S))) target) : Steps tb e below (T.setTop (mkF m pc L (.long y :: .long x :: S))) target := by
  subst hv hp; exact XS.lxor h hx rfl hd rfl hr
theorem own_s_idiv (h : At T m c below) (hx : tb.exec = Jvm.exec) {x y v : Int32} (hd : decode c.code pc = .ok (.idiv, 1)) (hp : pc + 1 = pc') (hy : y ≠ 0) (hv : x / y = v)
    (hr : Steps tb e below (T.setTop (mkF m pc' L (.int v :: S))) target) : Steps tb e below (T.setTop (mkF m pc L (.int y :: .int x :: S))) target := by
  subst hv hp; exact XS.idiv h hx rfl hd rfl hy hr
theorem own_s_irem (h : At T m c below) (hx : tb.exec = Jvm.exec) {x y v : Int32} (hd : decode c.code pc = .ok (.irem, 1)) (hp : pc + 1 = pc') (hy : y ≠ 0) (hv : x % y = v)
    (hr : Steps tb e below (T.setTop (mkF m pc' L (.int v :: S))) target) : Steps tb e below (T.setTop (mkF m pc L (.int y :: .int x :: S))) target := by
  subst hv hp; rw [← irem_eq_mod] at hr; exact XS.irem h hx rfl hd rfl hy hr
theorem own_s_ldiv (h : At T m c below) (hx : tb.exec = Jvm.exec) {x y v : Int64} (hd : decode c.code pc = .ok (.ldiv, 1)) (hp : pc + 1 = pc') (hy : y ≠ 0) (hv : x / y = v)
    (hr : Steps tb e below (T.setTop (mkF m pc' L (.long v :: S))) target) : Steps tb e below (T.setTop (mkF m pc L (.long y :: .long x :: S))) target := by
  subst hv hp; exact XS.ldiv h hx rfl hd rfl hy hr
theorem own_s_lrem (h : At T m c below) (hx : tb.exec = Jvm.exec) {x y v : Int64} (hd : decode c.code pc = .ok (.lrem, 1)) (hp : pc + 1 = pc') (hy : y ≠ 0) (hv : x % y = v)
    (hr : Steps tb e below (T.setTop (mkF m pc' L (.long v :: S))) target) : Steps tb e below (T.setTop (mkF m pc L (.long y :: .long x :: S))) target := by
  subst hv hp; rw [← lrem_mod] at hr; exact XS.lrem h hx rfl hd rfl hy hr
theorem own_s_ishl (h : At T m c below) (hx : tb.exec = Jvm.exec) {x y v : Int32} (hd : decode c.code pc = .ok (.ishl, 1)) (hp : pc + 1 = pc') (hv : x <<< (y &&& 31) = v)
    (hr : Steps tb e below (T.setTop (mkF m pc' L (.int v :: S))) target) : Steps tb e below (T.setTop (mkF m pc L (.int y :: .int x :: S))) target := by
  subst hv hp; exact XS.ishl h hx rfl hd rfl hr
theorem own_s_ishr (h : At T m c below) (hx : tb.exec = Jvm.exec) {x y v : Int32} (hd : decode c.code pc = .ok (.ishr, 1)) (hp : pc + 1 = pc') (hv : x >>> (y &&& 31) = v)
    (hr : Steps tb e below (T.setTop (mkF m pc' L (.int v :: S))) target) : Steps tb e below (T.setTop (mkF m pc L (.int y :: .int x :: S))) target := by
  subst hv hp; exact XS.ishr h hx rfl hd rfl hr
theorem own_s_iushr (h : At T m c below) (hx : tb.exec = Jvm.exec) {x y v : Int32} (hd : decode c.code pc = .ok (.iushr, 1)) (hp : pc + 1 = pc') (hv : (x.toUInt32 >>> (y &&& 31).toUInt32).toInt32 = v)
    (hr : Steps tb e below (T.setTop (mkF m pc' L (.int v :: S))) target) : Steps tb e below (T.setTop (mkF m pc L (.int y :: .int x :: S))) target := by
  subst hv hp; exact XS.iushr h hx rfl hd rfl hr
theorem own_s_lshl (h : At T m c below) (hx : tb.exec = Jvm.exec) {x v : Int64} {y : Int32} (hd : decode c.code pc = .ok (.lshl, 1)) (hp : pc + 1 = pc') (hv : x <<< (y &&& 63).toInt64 = v)
    (hr : Steps tb e below (T.setTop (mkF m pc' L (.long v :: S))) target) : Steps tb e below (T.setTop (mkF m pc L (.int y :: .long x :: S))) target := by
  subst hv hp; exact XS.lshl h hx rfl hd rfl hr
theorem own_s_lshr (h : At T m c below) (hx : tb.exec = Jvm.exec) {x v : Int64} {y : Int32} (hd : decode c.code pc = .ok (.lshr, 1)) (hp : pc + 1 = pc') (hv : x >>> (y &&& 63).toInt64 = v)
    (hr : Steps tb e below (T.setTop (mkF m pc' L (.long v :: S))) target) : Steps tb e below (T.setTop (mkF m pc L (.int y :: .long x :: S))) target := by
  subst hv hp; exact XS.lshr h hx rfl hd rfl hr
theorem own_s_lushr (h : At T m c below) (hx : tb.exec = Jvm.exec) {x v : Int64} {y : Int32} (hd : decode c.code pc = .ok (.lushr, 1)) (hp : pc + 1 = pc') (hv : (x.toUInt64 >>> (y &&& 63).toInt64.toUInt64).toInt64 = v)
    (hr : Steps tb e below (T.setTop (mkF m pc' L (.long v :: S))) target) : Steps tb e below (T.setTop (mkF m pc L (.int y :: .long x :: S))) target := by
  subst hv hp; exact XS.lushr h hx rfl hd rfl hr
theorem own_s_i2l (h : At T m c below) (hx : tb.exec = Jvm.exec) {x : Int32} {v : Int64} (hd : decode c.code pc = .ok (.i2l, 1)) (hp : pc + 1 = pc') (hv : x.toInt64 = v)
    (hr : Steps tb e below (T.setTop (mkF m pc' L (.long v :: S))) target) : Steps tb e below (T.setTop (mkF m pc L (.int x :: S))) target := by
  subst hv hp; exact XS.i2l h hx rfl hd rfl hr
theorem own_s_l2i (h : At T m c below) (hx : tb.exec = Jvm.exec) {x : Int64} {v : Int32} (hd : decode c.code pc = .ok (.l2i, 1)) (hp : pc + 1 = pc') (hv : x.toInt32 = v)
    (hr : Steps tb e below (T.setTop (mkF m pc' L (.int v :: S))) target) : Steps tb e below (T.setTop (mkF m pc L (.long x :: S))) target := by
  subst hv hp; exact XS.l2i h hx rfl hd rfl hr
theorem own_s_i2b (h : At T m c below) (hx : tb.exec = Jvm.exec) {x : Int32} {v : Int32} (hd : decode c.code pc = .ok (.i2b, 1)) (hp : pc + 1 = pc') (hv : x.toInt8.toInt32 = v)
    (hr : Steps tb e below (T.setTop (mkF m pc' L (.int v :: S))) target) : Steps tb e below (T.setTop (mkF m pc L (.int x :: S))) target := by
  subst hv hp; exact XS.i2b h hx rfl hd rfl hr
theorem own_s_i2s (h : At T m c below) (hx : tb.exec = Jvm.exec) {x : Int32} {v : Int32} (hd : decode c.code pc = .ok (.i2s, 1)) (hp : pc + 1 = pc') (hv : x.toInt16.toInt32 = v)
    (hr : Steps tb e below (T.setTop (mkF m pc' L (.int v :: S))) target) : Steps tb e below (T.setTop (mkF m pc L (.int x :: S))) target := by
  subst hv hp; exact XS.i2s h hx rfl hd rfl hr
theorem own_s_ineg (h : At T m c below) (hx : tb.exec = Jvm.exec) {x : Int32} {v : Int32} (hd : decode c.code pc = .ok (.ineg, 1)) (hp : pc + 1 = pc') (hv : -x = v)
    (hr : Steps tb e below (T.setTop (mkF m pc' L (.int v :: S))) target) : Steps tb e below (T.setTop (mkF m pc L (.int x :: S))) target := by
  subst hv hp; exact XS.ineg h hx rfl hd rfl hr
theorem own_s_lneg (h : At T m c below) (hx : tb.exec = Jvm.exec) {x : Int64} {v : Int64} (hd : decode c.code pc = .ok (.lneg, 1)) (hp : pc + 1 = pc') (hv : -x = v)
    (hr : Steps tb e below (T.setTop (mkF m pc' L (.long v :: S))) target) : Steps tb e below (T.setTop (mkF m pc L (.long x :: S))) target := by
  subst hv hp; exact XS.lneg h hx rfl hd rfl hr
theorem own_s_i2d (h : At T m c below) (hx : tb.exec = Jvm.exec) {x : Int32} {v : UInt64} (hd : decode c.code pc = .ok (.i2d, 1)) (hp : pc + 1 = pc') (hv : FP.i2d x = v)
    (hr : Steps tb e below (T.setTop (mkF m pc' L (.double v :: S))) target) : Steps tb e below (T.setTop (mkF m pc L (.int x :: S))) target := by
  subst hv hp; exact XS.i2dS h hx rfl hd rfl rfl hr
theorem own_s_l2d (h : At T m c below) (hx : tb.exec = Jvm.exec) {x : Int64} {v : UInt64} (hd : decode c.code pc = .ok (.l2d, 1)) (hp : pc + 1 = pc') (hv : FP.l2d x = v)
    (hr : Steps tb e below (T.setTop (mkF m pc' L (.double v :: S))) target) : Steps tb e below (T.setTop (mkF m pc L (.long x :: S))) target := by
  subst hv hp; exact XS.l2dS h hx rfl hd rfl rfl hr
theorem own_s_dneg (h : At T m c below) (hx : tb.exec = Jvm.exec) {x : UInt64} {v : UInt64} (hd : decode c.code pc = .ok (.dneg, 1)) (hp : pc + 1 = pc') (hv : FP.dneg x = v)
    (hr : Steps tb e below (T.setTop (mkF m pc' L (.double v :: S))) target) : Steps tb e below (T.setTop (mkF m pc L (.double x :: S))) target := by
  subst hv hp; exact XS.dnegS h hx rfl hd rfl rfl hr
theorem own_s_dadd (h : At T m c below) (hx : tb.exec = Jvm.exec) {x y v : UInt64} (hd : decode c.code pc = .ok (.dadd, 1)) (hp : pc + 1 = pc') (hn : Jvm.Free.Fl.NoNaN64 (FP.dadd x y)) (hv : FP.dadd x y = v)
    (hr : Steps tb e below (T.setTop (mkF m pc' L (.double v :: S))) target) : Steps tb e below (T.setTop (mkF m pc L (.double y :: .double x :: S))) target := by
  subst hv hp; exact XS.daddS h hx rfl hd rfl hn rfl hr
theorem own_s_dsub (h : At T m c below) (hx : tb.exec = Jvm.exec) {x y v : UInt64} (hd : decode c.code pc = .ok (.dsub, 1)) (hp : pc + 1 = pc') (hn : Jvm.Free.Fl.NoNaN64 (FP.dsub x y)) (hv : FP.dsub x y = v)
    (hr : Steps tb e below (T.setTop (mkF m pc' L (.double v :: S))) target) : Steps tb e below (T.setTop (mkF m pc L (.double y :: .double x :: S))) target := by
  subst hv hp; exact XS.dsubS h hx rfl hd rfl hn rfl hr
theorem own_s_dmul (h : At T m c below) (hx : tb.exec = Jvm.exec) {x y v : UInt64} (hd : decode c.code pc = .ok (.dmul, 1)) (hp : pc + 1 = pc') (hn : Jvm.Free.Fl.NoNaN64 (FP.dmul x y)) (hv : FP.dmul x y = v)
    (hr : Steps tb e below (T.setTop (mkF m pc' L (.double v :: S))) target) : Steps tb e below (T.setTop (mkF m pc L (.double y :: .double x :: S))) target := by
  subst hv hp; exact XS.dmulS h hx rfl hd rfl hn rfl hr
theorem own_s_ddiv (h : At T m c below) (hx : tb.exec = Jvm.exec) {x y v : UInt64} (hd : decode c.code pc = .ok (.ddiv, 1)) (hp : pc + 1 = pc') (hn : Jvm.Free.Fl.NoNaN64 (FP.ddiv x y)) (hv : FP.ddiv x y = v)
    (hr : Steps tb e below (T.setTop (mkF m pc' L (.double v :: S))) target) : Steps tb e below (T.setTop (mkF m pc L (.double y :: .double x :: S))) target := by
  subst hv hp; exact XS.ddivS h hx rfl hd rfl hn rfl hr
theorem own_s_dcmp (h : At T m c below) (hx : tb.exec = Jvm.exec) {o : CmpOp} {x y : UInt64} {v : Int32} (hd : decode c.code pc = .ok (.dcmp o, 1)) (hp : pc + 1 = pc') (hv : Op.cmpValue (FP.dcmp x y) o = v)
    (hr : Steps tb e below (T.setTop (mkF m pc' L (.int v :: S))) target) : Steps tb e below (T.setTop (mkF m pc L (.double y :: .double x :: S))) target := by
  subst hv hp; exact XS.dcmpS h hx rfl hd rfl rfl hr
theorem own_s_lcmp (h : At T m c below) (hx : tb.exec = Jvm.exec) {x y : Int64} {v : Int32} (hd : decode c.code pc = .ok (.lcmp, 1)) (hp : pc + 1 = pc') (hv : lcmpW x y = v)
    (hr : Steps tb e below (T.setTop (mkF m pc' L (.int v :: S))) target) : Steps tb e below (T.setTop (mkF m pc L (.long y :: .long x :: S))) target := by
  subst hv hp; exact XS.lcmp h hx rfl hd rfl hr
theorem own_s_iconst (h : At T m c below) (hx : tb.exec = Jvm.exec) {i : Int} {v : Int32} (hd : decode c.code pc = .ok (.iconst i, 1)) (hp : pc + 1 = pc') (hv : Int32.ofInt i = v)
    (hr : Steps tb e below (T.setTop (mkF m pc' L (.int v :: S))) target) : Steps tb e below (T.setTop (mkF m pc L S)) target := by
  subst hv hp; exact XS.iconst h hx rfl hd hr
theorem own_s_bipush (h : At T m c below) (hx : tb.exec = Jvm.exec) {i : Int} {v : Int32} (hd : decode c.code pc = .ok (.bipush i, 2)) (hp : pc + 2 = pc') (hv : (Int8.ofInt i).toInt32 = v)
    (hr : Steps tb e below (T.setTop (mkF m pc' L (.int v :: S))) target) : Steps tb e below (T.setTop (mkF m pc L S)) target := by
  subst hv hp; exact XS.bipush h hx rfl hd hr
theorem own_s_sipush (h : At T m c below) (hx : tb.exec = Jvm.exec) {i : Int} {v : Int32} (hd : decode c.code pc = .ok (.sipush i, 3)) (hp : pc + 3 = pc') (hv : (Int16.ofInt i).toInt32 = v)
    (hr : Steps tb e below (T.setTop (mkF m pc' L (.int v :: S))) target) : Steps tb e below (T.setTop (mkF m pc L S)) target := by
  subst hv hp; exact XS.sipush h hx rfl hd hr
theorem own_s_lconst (h : At T m c below) (hx : tb.exec = Jvm.exec) {k : Fin 2} {v : Int64} (hd : decode c.code pc = .ok (.lconst k, 1)) (hp : pc + 1 = pc') (hv : Int64.ofNat k = v)
    (hr : Steps tb e below (T.setTop (mkF m pc' L (.long v :: S))) target) : Steps tb e below (T.setTop (mkF m pc L S)) target := by
  subst hv hp; exact XS.lconst h hx rfl hd hr
theorem own_s_dconst0 (h : At T m c below) (hx : tb.exec = Jvm.exec)  (hd : decode c.code pc = .ok (.dconst 0, 1)) (hp : pc + 1 = pc') 
    (hr : Steps tb e below (T.setTop (mkF m pc' L (.double 0 :: S))) target) : Steps tb e below (T.setTop (mkF m pc L S)) target := by
  subst hp; exact XS.dconst0 h hx rfl hd rfl hr
theorem own_s_dconst1 (h : At T m c below) (hx : tb.exec = Jvm.exec)  (hd : decode c.code pc = .ok (.dconst 1, 1)) (hp : pc + 1 = pc') 
    (hr : Steps tb e below (T.setTop (mkF m pc' L (.double 4607182418800017408 :: S))) target) : Steps tb e below (T.setTop (mkF m pc L S)) target := by
  subst hp; exact XS.dconst1 h hx rfl hd rfl hr
theorem own_s_aconst_null (h : At T m c below) (hx : tb.exec = Jvm.exec)  (hd : decode c.code pc = .ok (.aconst_null, 1)) (hp : pc + 1 = pc') 
    (hr : Steps tb e below (T.setTop (mkF m pc' L (.null :: S))) target) : Steps tb e below (T.setTop (mkF m pc L S)) target := by
  subst hp; exact XS.aconstNull h hx rfl hd hr
theorem own_s_dup (h : At T m c below) (hx : tb.exec = Jvm.exec) {x : Value} (hd : decode c.code pc = .ok (.dup, 1)) (hp : pc + 1 = pc') (hc : x.category = 1)
    (hr : Steps tb e below (T.setTop (mkF m pc' L (x :: x :: S))) target) : Steps tb e below (T.setTop (mkF m pc L (x :: S))) target := by
  subst hp; exact XS.dup h hx rfl hd rfl hc hr
theorem own_s_dupX1 (h : At T m c below) (hx : tb.exec = Jvm.exec) {x y : Value} (hd : decode c.code pc = .ok (.dup_x1, 1)) (hp : pc + 1 = pc') (hc : x.category = 1) (hc' : y.category = 1)
    (hr : Steps tb e below (T.setTop (mkF m pc' L (x :: y :: x :: S))) target) : Steps tb e below (T.setTop (mkF m pc L (x :: y :: S))) target := by
  subst hp; exact XS.dupX1 h hx rfl hd rfl hc hc' hr
theorem own_s_pop (h : At T m c below) (hx : tb.exec = Jvm.exec) {x : Value} (hd : decode c.code pc = .ok (.pop, 1)) (hp : pc + 1 = pc') (hc : x.category = 1)
    (hr : Steps tb e below (T.setTop (mkF m pc' L S)) target) : Steps tb e below (T.setTop (mkF m pc L (x :: S))) target := by
  subst hp; exact XS.pop h hx rfl hd rfl hc hr
theorem own_s_iloadN (h : At T m c below) (hx : tb.exec = Jvm.exec) {k : Fin 4} {v : Int32} (hd : decode c.code pc = .ok (.iload_n k, 1)) (hp : pc + 1 = pc') (hl : L[k.val]? = some (.val (.int v)))
    (hr : Steps tb e below (T.setTop (mkF m pc' L (.int v :: S))) target) : Steps tb e below (T.setTop (mkF m pc L S)) target := by
  subst hp; exact XS.iloadN h hx rfl hd hl hr
theorem own_s_iload (h : At T m c below) (hx : tb.exec = Jvm.exec) {k : Nat} {v : Int32} (hd : decode c.code pc = .ok (.iload k, 2)) (hp : pc + 2 = pc') (hl : L[k]? = some (.val (.int v)))
    (hr : Steps tb e below (T.setTop (mkF m pc' L (.int v :: S))) target) : Steps tb e below (T.setTop (mkF m pc L S)) target := by
  subst hp; exact XS.iload h hx rfl hd hl hr
theorem own_s_istoreN (h : At T m c below) (hx : tb.exec = Jvm.exec) {k : Fin 4} {v : Int32} {L' : Array Slot} (hd : decode c.code pc = .ok (.istore_n k, 1)) (hp : pc + 1 = pc') (hl : storeLocals L k.val (.int v) = some L')
    (hr : Steps tb e below (T.setTop (mkF m pc' L' S)) target) : Steps tb e below (T.setTop (mkF m pc L (.int v :: S))) target := by
  subst hp; exact XS.istoreN h hx rfl hd rfl hl hr
theorem own_s_istore (h : At T m c below) (hx : tb.exec = Jvm.exec) {k : Nat} {v : Int32} {L' : Array Slot} (hd : decode c.code pc = .ok (.istore k, 2)) (hp : pc + 2 = pc') (hl : storeLocals L k (.int v) = some L')
    (hr : Steps tb e below (T.setTop (mkF m pc' L' S)) target) : Steps tb e below (T.setTop (mkF m pc L (.int v :: S))) target := by
  subst hp; exact XS.istore h hx rfl hd rfl hl hr
theorem own_s_lloadN (h : At T m c below) (hx : tb.exec = Jvm.exec) {k : Fin 4} {v : Int64} (hd : decode c.code pc = .ok (.lload_n k, 1)) (hp : pc + 1 = pc') (hl : L[k.val]? = some (.val (.long v)))
    (hr : Steps tb e below (T.setTop (mkF m pc' L (.long v :: S))) target) : Steps tb e below (T.setTop (mkF m pc L S)) target := by
  subst hp; exact XS.lloadN h hx rfl hd hl hr
theorem own_s_lload (h : At T m c below) (hx : tb.exec = Jvm.exec) {k : Nat} {v : Int64} (hd : decode c.code pc = .ok (.lload k, 2)) (hp : pc + 2 = pc') (hl : L[k]? = some (.val (.long v)))
    (hr : Steps tb e below (T.setTop (mkF m pc' L (.long v :: S))) target) : Steps tb e below (T.setTop (mkF m pc L S)) target := by
  subst hp; exact XS.lload h hx rfl hd hl hr
theorem own_s_lstoreN (h : At T m c below) (hx : tb.exec = Jvm.exec) {k : Fin 4} {v : Int64} {L' : Array Slot} (hd : decode c.code pc = .ok (.lstore_n k, 1)) (hp : pc + 1 = pc') (hl : storeLocals L k.val (.long v) = some L')
    (hr : Steps tb e below (T.setTop (mkF m pc' L' S)) target) : Steps tb e below (T.setTop (mkF m pc L (.long v :: S))) target := by
  subst hp; exact XS.lstoreN h hx rfl hd rfl hl hr
theorem own_s_lstore (h : At T m c below) (hx : tb.exec = Jvm.exec) {k : Nat} {v : Int64} {L' : Array Slot} (hd : decode c.code pc = .ok (.lstore k, 2)) (hp : pc + 2 = pc') (hl : storeLocals L k (.long v) = some L')
    (hr : Steps tb e below (T.setTop (mkF m pc' L' S)) target) : Steps tb e below (T.setTop (mkF m pc L (.long v :: S))) target := by
  subst hp; exact XS.lstore h hx rfl hd rfl hl hr
theorem own_s_dloadN (h : At T m c below) (hx : tb.exec = Jvm.exec) {k : Fin 4} {v : UInt64} (hd : decode c.code pc = .ok (.dload_n k, 1)) (hp : pc + 1 = pc') (hl : L[k.val]? = some (.val (.double v)))
    (hr : Steps tb e below (T.setTop (mkF m pc' L (.double v :: S))) target) : Steps tb e below (T.setTop (mkF m pc L S)) target := by
  subst hp; exact XS.dloadN h hx rfl hd hl hr
theorem own_s_dload (h : At T m c below) (hx : tb.exec = Jvm.exec) {k : Nat} {v : UInt64} (hd : decode c.code pc = .ok (.dload k, 2)) (hp : pc + 2 = pc') (hl : L[k]? = some (.val (.double v)))
    (hr : Steps tb e below (T.setTop (mkF m pc' L (.double v :: S))) target) : Steps tb e below (T.setTop (mkF m pc L S)) target := by
  subst hp; exact XS.dload h hx rfl hd hl hr
theorem own_s_dstoreN (h : At T m c below) (hx : tb.exec = Jvm.exec) {k : Fin 4} {v : UInt64} {L' : Array Slot} (hd : decode c.code pc = .ok (.dstore_n k, 1)) (hp : pc + 1 = pc') (hl : storeLocals L k.val (.double v) = some L')
    (hr : Steps tb e below (T.setTop (mkF m pc' L' S)) target) : Steps tb e below (T.setTop (mkF m pc L (.double v :: S))) target := by
  subst hp; exact XS.dstoreN h hx rfl hd rfl hl hr
theorem own_s_dstore (h : At T m c below) (hx : tb.exec = Jvm.exec) {k : Nat} {v : UInt64} {L' : Array Slot} (hd : decode c.code pc = .ok (.dstore k, 2)) (hp : pc + 2 = pc') (hl : storeLocals L k (.double v) = some L')
    (hr : Steps tb e below (T.setTop (mkF m pc' L' S)) target) : Steps tb e below (T.setTop (mkF m pc L (.double v :: S))) target := by
  subst hp; exact XS.dstore h hx rfl hd rfl hl hr
theorem own_s_aloadN (h : At T m c below) (hx : tb.exec = Jvm.exec) {k : Fin 4} {v : Value} (hd : decode c.code pc = .ok (.aload_n k, 1)) (hp : pc + 1 = pc') (hl : L[k.val]? = some (.val v)) (hr0 : v.isRef = true)
    (hr : Steps tb e below (T.setTop (mkF m pc' L (v :: S))) target) : Steps tb e below (T.setTop (mkF m pc L S)) target := by
  subst hp; exact XS.aloadN h hx rfl hd hl hr0 hr
theorem own_s_aload (h : At T m c below) (hx : tb.exec = Jvm.exec) {k : Nat} {v : Value} (hd : decode c.code pc = .ok (.aload k, 2)) (hp : pc + 2 = pc') (hl : L[k]? = some (.val v)) (hr0 : v.isRef = true)
    (hr : Steps tb e below (T.setTop (mkF m pc' L (v :: S))) target) : Steps tb e below (T.setTop (mkF m pc L S)) target := by
  subst hp; exact XS.aload h hx rfl hd hl hr0 hr
theorem own_s_astoreN (h : At T m c below) (hx : tb.exec = Jvm.exec) {k : Fin 4} {v : Value} {L' : Array Slot} (hd : decode c.code pc = .ok (.astore_n k, 1)) (hp : pc + 1 = pc') (hr0 : v.isRef = true) (hl : storeLocals L k.val v = some L')
    (hr : Steps tb e below (T.setTop (mkF m pc' L' S)) target) : Steps tb e below (T.setTop (mkF m pc L (v :: S))) target := by
  subst hp; exact XS.astoreN h hx rfl hd rfl hr0 hl hr
theorem own_s_astore (h : At T m c below) (hx : tb.exec = Jvm.exec) {k : Nat} {v : Value} {L' : Array Slot} (hd : decode c.code pc = .ok (.astore k, 2)) (hp : pc + 2 = pc') (hr0 : v.isRef = true) (hl : storeLocals L k v = some L')
    (hr : Steps tb e below (T.setTop (mkF m pc' L' S)) target) : Steps tb e below (T.setTop (mkF m pc L (v :: S))) target := by
  subst hp; exact XS.astore h hx rfl hd rfl hr0 hl hr
theorem own_s_iinc (h : At T m c below) (hx : tb.exec = Jvm.exec) {k : Nat} {cst : Int} {x v : Int32} {L' : Array Slot} (hd : decode c.code pc = .ok (.iinc k cst, 3)) (hp : pc + 3 = pc') (hl : L[k]? = some (.val (.int x))) (hv : x + Int32.ofInt cst = v) (hl' : storeLocals L k (.int v) = some L')
    (hr : Steps tb e below (T.setTop (mkF m pc' L' S)) target) : Steps tb e below (T.setTop (mkF m pc L S)) target := by
  subst hv hp; exact XS.iinc h hx rfl hd hl hl' hr
theorem own_s_goto (h : At T m c below) (hx : tb.exec = Jvm.exec)  {o : Int} (hd : decode c.code pc = .ok (.goto o, 3)) (ho : 0 ≤ (pc : Int) + o) (hp : ((pc : Int) + o).toNat = pc') 
    (hr : Steps tb e below (T.setTop (mkF m pc' L S)) target) : Steps tb e below (T.setTop (mkF m pc L S)) target := by
  exact XS.goto h hx rfl rfl hd ho hp hr
theorem own_s_ifYes (h : At T m c below) (hx : tb.exec = Jvm.exec) {cd : ClassFile.Cond} {x : Int32} {o : Int} (hd : decode c.code pc = .ok (.ifCond cd o, 3)) (ho : 0 ≤ (pc : Int) + o) (hp : ((pc : Int) + o).toNat = pc') (hc : ifCond.holds cd x = true)
    (hr : Steps tb e below (T.setTop (mkF m pc' L S)) target) : Steps tb e below (T.setTop (mkF m pc L (.int x :: S))) target := by
  exact XS.ifYes h hx rfl rfl hd rfl hc ho hp hr
theorem own_s_icmpYes (h : At T m c below) (hx : tb.exec = Jvm.exec) {cd : ClassFile.Cond} {x y : Int32} {o : Int} (hd : decode c.code pc = .ok (.if_icmp cd o, 3)) (ho : 0 ≤ (pc : Int) + o) (hp : ((pc : Int) + o).toNat = pc') (hc : if_icmp.holds cd x y = true)
    (hr : Steps tb e below (T.setTop (mkF m pc' L S)) target) : Steps tb e below (T.setTop (mkF m pc L (.int y :: .int x :: S))) target := by
  exact XS.icmpYes h hx rfl rfl hd rfl hc ho hp hr
theorem own_s_ifNo (h : At T m c below) (hx : tb.exec = Jvm.exec) {cd : ClassFile.Cond} {o : Int} {x : Int32} (hd : decode c.code pc = .ok (.ifCond cd o, 3)) (hp : pc + 3 = pc') (hc : ifCond.holds cd x = false)
    (hr : Steps tb e below (T.setTop (mkF m pc' L S)) target) : Steps tb e below (T.setTop (mkF m pc L (.int x :: S))) target := by
  subst hp; exact XS.ifNo h hx rfl hd rfl hc hr
theorem own_s_icmpNo (h : At T m c below) (hx : tb.exec = Jvm.exec) {cd : ClassFile.Cond} {o : Int} {x y : Int32} (hd : decode c.code pc = .ok (.if_icmp cd o, 3)) (hp : pc + 3 = pc') (hc : if_icmp.holds cd x y = false)
    (hr : Steps tb e below (T.setTop (mkF m pc' L S)) target) : Steps tb e below (T.setTop (mkF m pc L (.int y :: .int x :: S))) target := by
  subst hp; exact XS.icmpNo h hx rfl hd rfl hc hr
theorem own_s_ifnullYes (h : At T m c below) (hx : tb.exec = Jvm.exec)  {o : Int} (hd : decode c.code pc = .ok (.ifnull o, 3)) (ho : 0 ≤ (pc : Int) + o) (hp : ((pc : Int) + o).toNat = pc') 
    (hr : Steps tb e below (T.setTop (mkF m pc' L S)) target) : Steps tb e below (T.setTop (mkF m pc L (.null :: S))) target := by
  exact XS.ifnullYes h hx rfl rfl hd rfl ho hp hr
theorem own_s_ifnullNo (h : At T m c below) (hx : tb.exec = Jvm.exec) {o : Int} {b : Addr} (hd : decode c.code pc = .ok (.ifnull o, 3)) (hp : pc + 3 = pc') 
    (hr : Steps tb e below (T.setTop (mkF m pc' L S)) target) : Steps tb e below (T.setTop (mkF m pc L (.ref b :: S))) target := by
  subst hp; exact XS.ifnullNo h hx rfl hd rfl hr
theorem own_s_ifnonnullYes (h : At T m c below) (hx : tb.exec = Jvm.exec) {b : Addr} {o : Int} (hd : decode c.code pc = .ok (.ifnonnull o, 3)) (ho : 0 ≤ (pc : Int) + o) (hp : ((pc : Int) + o).toNat = pc') 
    (hr : Steps tb e below (T.setTop (mkF m pc' L S)) target) : Steps tb e below (T.setTop (mkF m pc L (.ref b :: S))) target := by
  exact XS.ifnonnullYes h hx rfl rfl hd rfl ho hp hr
theorem own_s_ifnonnullNo (h : At T m c below) (hx : tb.exec = Jvm.exec) {o : Int} (hd : decode c.code pc = .ok (.ifnonnull o, 3)) (hp : pc + 3 = pc') 
    (hr : Steps tb e below (T.setTop (mkF m pc' L S)) target) : Steps tb e below (T.setTop (mkF m pc L (.null :: S))) target := by
  subst hp; exact XS.ifnonnullNo h hx rfl hd rfl hr
end OwnStep
section OwnHeap
open Jvm Jvm.ClassFile Sem Op Lib Jvm.Free Jvm.Stand Jvm.LawKit Jvm.RoadKit
variable {p : Program} {l : Launch} {e : Env} {R : Room} {s : State} {m : MethodId} {args : Array Value} {below : List Frame} {meth : Method} {c : Code} {T : State} {locs : List Loc} {cells slots : Nat} {Z : State} {a0 : Array Value} {h : Heap} {pc pc' : Nat} {L : Array Slot} {S : List Value} {a : Addr} {k : ClassId} {z : Int32} {vs : List Value} {dv : Value}
theorem own_newD (X : Stand p l e R s m args below meth c T locs cells slots) (hx : p.tables.exec = Jvm.exec) (hZ : Z.Warmed39 s.vm) (w : (Jvm.Cond.arrayClass .double).before a0 Z = true) (eT : T.heap = h) (n : Nat) (hz : z.toNatClampNeg = n) (hz0 : ¬ z < 0) (hb : n * 8 ≤ 536870912) (hc : cells + 1 ≤ R.cells) (hl : slots + n ≤ R.slots) (hd : decode c.code pc = .ok (.newarray .double, 2)) (hp : pc + 2 = pc') :
    ∃ T' h' k b, Stand p l e R s m args below meth c T' locs (cells + 1) (slots + n) ∧ T'.heap = h' ∧ Ext h h' ∧ b = h.size ∧ Arv Z h' b k .double z (List.replicate n (.double 0)) (.double 0) ∧ ∀ target, Steps p.tables e below (T'.setTop (mkF m pc' L (.ref b :: S))) target → Steps p.tables e below (T.setTop (mkF m pc L (.int z :: S))) target := by
  subst hp
  obtain ⟨T', h', k, X', e', E, A, st⟩ := newP X hx hZ (aty := .double) w eT (g := mkF m pc L (.int z :: S)) rfl hd rfl hz0 (cap := n) (Nat.le_of_eq hz) hb hc hl
  exact ⟨T', h', k, h.size, X', e', E, rfl, (Arv.new A hz0).pad (pad_rep [] (.double 0) n), st⟩
theorem own_newJ (X : Stand p l e R s m args below meth c T locs cells slots) (hx : p.tables.exec = Jvm.exec) (hZ : Z.Warmed39 s.vm) (w : (Jvm.Cond.arrayClass .long).before a0 Z = true) (eT : T.heap = h) (n : Nat) (hz : z.toNatClampNeg = n) (hz0 : ¬ z < 0) (hb : n * 8 ≤ 536870912) (hc : cells + 1 ≤ R.cells) (hl : slots + n ≤ R.slots) (hd : decode c.code pc = .ok (.newarray .long, 2)) (hp : pc + 2 = pc') :
    ∃ T' h' k b, Stand p l e R s m args below meth c T' locs (cells + 1) (slots + n) ∧ T'.heap = h' ∧ Ext h h' ∧ b = h.size ∧ Arv Z h' b k .long z (List.replicate n (.long 0)) (.long 0) ∧ ∀ target, Steps p.tables e below (T'.setTop (mkF m pc' L (.ref b :: S))) target → Steps p.tables e below (T.setTop (mkF m pc L (.int z :: S))) target := by
  subst hp
  obtain ⟨T', h', k, X', e', E, A, st⟩ := newP X hx hZ (aty := .long) w eT (g := mkF m pc L (.int z :: S)) rfl hd rfl hz0 (cap := n) (Nat.le_of_eq hz) hb hc hl
  exact ⟨T', h', k, h.size, X', e', E, rfl, (Arv.new A hz0).pad (pad_rep [] (.long 0) n), st⟩
theorem own_stD (X : Stand p l e R s m args below meth c T locs cells slots) (hx : p.tables.exec = Jvm.exec) (hZ : Z.Warmed39 s.vm) (eT : T.heap = h) (V : Arv Z h a k .double z vs dv) {j : Int32} {x : UInt64} (hj : ¬ j < 0 ∧ j < z) (i : Nat) (hi : j.toNatClampNeg = i) (hl : i < vs.length) (hd : decode c.code pc = .ok (.dastore, 1)) (hp : pc + 1 = pc') :
    ∃ T' h', Stand p l e R s m args below meth c T' (locs ++ [⟨a, j.toNatClampNeg⟩]) cells slots ∧ T'.heap = h' ∧ Wr h h' a j.toNatClampNeg (.double x) ∧ Arv Z h' a k .double z (vs.set i (.double x)) dv ∧ ∀ target, Steps p.tables e below (T'.setTop (mkF m pc' L S)) target → Steps p.tables e below (T.setTop (mkF m pc L (.double x :: .int j :: .ref a :: S))) target := by
  subst hp
  obtain ⟨cl, A, q1, S1, q3, H, G⟩ := V
  obtain ⟨T', h', X', e', W, st⟩ := stD X hx hZ eT A (j := j) (x := x) (inb_of S1 hj) (g := mkF m pc L (.double x :: .int j :: .ref a :: S)) rfl rfl hd
  exact ⟨T', h', X', e', W, Arv.set A q1 S1 q3 H G rfl W i hi hl, st⟩
theorem own_ldD (X : Stand p l e R s m args below meth c T locs cells slots) (hx : p.tables.exec = Jvm.exec) (hZ : Z.Warmed39 s.vm) (eT : T.heap = h) (V : Arv Z h a k .double z vs dv) {j : Int32} {x : UInt64} (hj : ¬ j < 0 ∧ j < z) (hv : vs.getD j.toNatClampNeg dv = .double x) (hd : decode c.code pc = .ok (.daload, 1)) (hp : pc + 1 = pc') {target : State}
    (hr : Steps p.tables e below (T.setTop (mkF m pc' L (.double x :: S))) target) : Steps p.tables e below (T.setTop (mkF m pc L (.int j :: .ref a :: S))) target := by
  subst hp
  obtain ⟨cl, A, q1, S1, q3, H, G⟩ := V
  exact X.daload hx (j := j) (v := .double x) (by rw [eT]; exact A.1) (State.isArrayOf_alike hZ.alike A.2.1) A.2.2 (inb_of S1 hj) (H.at (inb_of S1 hj) hv) (g := mkF m pc L (.int j :: .ref a :: S)) rfl rfl hd target hr
theorem own_len {ty : FieldType} (X : Stand p l e R s m args below meth c T locs cells slots) (hx : p.tables.exec = Jvm.exec) (hZ : Z.Warmed39 s.vm) (eT : T.heap = h) (V : Arv Z h a k ty z vs dv) (hd : decode c.code pc = .ok (.arraylength, 1)) (hp : pc + 1 = pc') {target : State}
    (hr : Steps p.tables e below (T.setTop (mkF m pc' L (.int z :: S))) target) : Steps p.tables e below (T.setTop (mkF m pc L (.ref a :: S))) target := by
  subst hp
  obtain ⟨cl, A, q1, S1, q3, H, G⟩ := V
  refine X.arraylength hx (by rw [eT]; exact A.1) (State.isArrayOf_alike hZ.alike A.2.1) (g := mkF m pc L (.ref a :: S)) rfl rfl hd target ?_
  rw [len_of S1 q3]
  exact hr
theorem own_retI (X : Stand p l e R s m args below meth c T locs cells slots) (hx : p.tables.exec = Jvm.exec) {x : Int32} (hret : meth.sig.returnType = some .int) (hd : decode c.code pc = .ok (.ireturn, 1)) {fs : List Frame}
    (hl : ∀ (f : JFrame) (acts : List Action), f.method = m → f.locked = none → f.entered = [] → (doReturn e (T.setTop f) acts (some (.int x))).1 = T.setFrames fs) : Steps p.tables e below (T.setTop (mkF m pc L (.int x :: S))) (T.setFrames fs) := by
  have hm' : T.vm.method? m = some meth := X.method'
  have hn : narrow .int (.int x) = .int x := rfl
  show Steps p.tables e below (T.setTop { method := m, pc := pc, locals := L, stack := _ :: S, locked := none }) _
  jvm_step X.here [X.here.top, hx, hd, hm', hret, hn]
  first | (intro acts; rw [hl _ acts rfl rfl rfl]) | rw [hl _ _ rfl rfl rfl]
  exact Steps.refl _
theorem own_retD (X : Stand p l e R s m args below meth c T locs cells slots) (hx : p.tables.exec = Jvm.exec) {x : UInt64} (hret : meth.sig.returnType = some .double) (hd : decode c.code pc = .ok (.dreturn, 1)) {fs : List Frame}
    (hl : ∀ (f : JFrame) (acts : List Action), f.method = m → f.locked = none → f.entered = [] → (doReturn e (T.setTop f) acts (some (.double x))).1 = T.setFrames fs) : Steps p.tables e below (T.setTop (mkF m pc L (.double x :: S))) (T.setFrames fs) := by
  have hm' : T.vm.method? m = some meth := X.method'
  show Steps p.tables e below (T.setTop { method := m, pc := pc, locals := L, stack := _ :: S, locked := none }) _
  jvm_step X.here [X.here.top, hx, hd, hm', hret, narrow]
  first | (intro acts; rw [hl _ acts rfl rfl rfl]) | rw [hl _ _ rfl rfl rfl]
  exact Steps.refl _
theorem own_retJ (X : Stand p l e R s m args below meth c T locs cells slots) (hx : p.tables.exec = Jvm.exec) {x : Int64} (hret : meth.sig.returnType = some .long) (hd : decode c.code pc = .ok (.lreturn, 1)) {fs : List Frame}
    (hl : ∀ (f : JFrame) (acts : List Action), f.method = m → f.locked = none → f.entered = [] → (doReturn e (T.setTop f) acts (some (.long x))).1 = T.setFrames fs) : Steps p.tables e below (T.setTop (mkF m pc L (.long x :: S))) (T.setFrames fs) := by
  have hm' : T.vm.method? m = some meth := X.method'
  show Steps p.tables e below (T.setTop { method := m, pc := pc, locals := L, stack := _ :: S, locked := none }) _
  jvm_step X.here [X.here.top, hx, hd, hm', hret, narrow]
  first | (intro acts; rw [hl _ acts rfl rfl rfl]) | rw [hl _ _ rfl rfl rfl]
  exact Steps.refl _
theorem own_retR (X : Stand p l e R s m args below meth c T locs cells slots) (hx : p.tables.exec = Jvm.exec) {b : Addr} {t : FieldType} (hret : meth.sig.returnType = some t) (ht : t.isReference = true) (hd : decode c.code pc = .ok (.areturn, 1)) {fs : List Frame}
    (hl : ∀ (f : JFrame) (acts : List Action), f.method = m → f.locked = none → f.entered = [] → (doReturn e (T.setTop f) acts (some (.ref b))).1 = T.setFrames fs) : Steps p.tables e below (T.setTop (mkF m pc L (.ref b :: S))) (T.setFrames fs) := by
  have hm' : T.vm.method? m = some meth := X.method'
  show Steps p.tables e below (T.setTop { method := m, pc := pc, locals := L, stack := _ :: S, locked := none }) _
  jvm_step X.here [X.here.top, hx, hd, hm', hret, Value.isRef, ht]
  first | (intro acts; rw [hl _ acts rfl rfl rfl]) | rw [hl _ _ rfl rfl rfl]
  exact Steps.refl _
end OwnHeap
open Jvm Jvm.ClassFile Sem Op Lib Jvm.Free Jvm.Stand Jvm.LawKit Jvm.RoadKit Bundle Jvm.Pilot.@@N@@.Jvm.D
def own_Q0 (n0 : Nat) (v : Option Value) (h : Heap) (L : List Loc) : Prop := v = some (.int 1) ∧ Fr n0 L
def own_QP (r : Option Value) (h0 : Heap) (n0 : Nat) (v : Option Value) (h : Heap) (L : List Loc) : Prop := v = r ∧ Fr n0 L ∧ h = h0
section OwnSat
open Jvm.FP.Core
theorem own_pow1 {x : UInt64} {n : Int} (e : Nat) (hx : own_Is x n 0) (hn : n = ((2 ^ e : Nat) : Int)) : own_Is x 1 e := by
  refine ⟨hx.1, by omega, ?_⟩
  rw [hx.2.2, hn, show ((e : Int) + 1074).toNat = e + (0 + 1074 : Int).toNat by omega, Nat.pow_add, Int.natCast_mul, Int.one_mul]
theorem own_sgn_pos {x : UInt64} {m e : Int} (hx : own_Is x m e) (hm : 0 < m) : sgn (val64 x) = false := by
  obtain ⟨s, c, q, vx, fx, zx, qx⟩ := own_fin_split hx
  have hp : (0 : Int) < ((2 ^ (e + 1074).toNat : Nat) : Int) := by have := Nat.two_pow_pos (e + 1074).toNat; omega
  have h1 : 0 < m * ((2 ^ (e + 1074).toNat : Nat) : Int) := Int.mul_pos hm hp
  rw [vx]; show s = false
  rw [← zx] at h1
  cases s
  · rfl
  · simp only [signed, if_true] at h1; omega
/-- two quotients of one ratio are alike -/
theorem own_div_same {x y x' y' : UInt64} {m n m' n' e1 e2 e1' e2' : Int} (hx : own_Is x m e1) (hy : own_Is y n e2) (hx' : own_Is x' m' e1') (hy' : own_Is y' n' e2') (hm : 0 < m) (hn : 0 < n) (hm' : 0 < m') (hn' : 0 < n')
    (h : m.natAbs * n'.natAbs * 2 ^ ((e1 - e2) - (e1' - e2')).toNat = m'.natAbs * n.natAbs * 2 ^ ((e1' - e2') - (e1 - e2)).toNat) : val64 (ddiv x y) = val64 (ddiv x' y') := by
  rw [(own_divR hx hy (by omega)).1, (own_divR hx' hy' (by omega)).1, own_sgn_pos hx hm, own_sgn_pos hy hn, own_sgn_pos hx' hm', own_sgn_pos hy' hn']
  exact roundRatio_congr (by omega) (by omega) h
theorem own_div_nn {x y : UInt64} {m n e1 e2 : Int} (hx : own_Is x m e1) (hy : own_Is y n e2) (hn : n ≠ 0) : Jvm.Free.Fl.NoNaN64 (ddiv x y) := by
  refine Jvm.Free.Fl.noNaN64_no.mpr ((notNaN_iff _).mpr ?_)
  rw [(own_divR hx hy hn).1]; exact roundRatio_ne_nan _ _ _ _ _
theorem own_cmp_same {x y : UInt64} (h : val64 x = val64 y) (hx : Jvm.Free.Fl.NoNaN64 x) (o : ClassFile.CmpOp) : Op.cmpValue (Jvm.FP.dcmp x y) o = 0 := by
  have hn := (notNaN_iff _).mp (Jvm.Free.Fl.noNaN64_no.mp hx)
  show Op.cmpValue (dcmp x y) o = 0
  rw [dcmp_zval hn (h ▸ hn), h, (compare_eq_iff _ _).mpr rfl]; cases o <;> rfl
theorem own_shl : ∀ E : Fin 16, ((1 : Int32) <<< (Int32.ofNat E.val &&& 31)).toInt = ((2 ^ E.val : Nat) : Int) ∧ ((2 ^ E.val : Nat) : Int) ≤ 32768 ∧ (1 : Int) ≤ ((2 ^ E.val : Nat) : Int) := by decide
theorem own_e0 : ∀ E : Fin 16, Int32.ofNat E.val = 0 → E.val = 0 := by decide
end OwnSat
theorem own_d1_0 : decode prog_2_method_18_code 0 = .ok (.dload_n 0, 1) := by decide +kernel
theorem own_d1_1 : decode prog_2_method_18_code 1 = .ok (.dload_n 2, 1) := by decide +kernel
theorem own_d1_2 : decode prog_2_method_18_code 2 = .ok (.dload_n 2, 1) := by decide +kernel
theorem own_d1_3 : decode prog_2_method_18_code 3 = .ok (.dconst 1, 1) := by decide +kernel
theorem own_d1_4 : decode prog_2_method_18_code 4 = .ok (.dadd, 1) := by decide +kernel
theorem own_d1_5 : decode prog_2_method_18_code 5 = .ok (.ddiv, 1) := by decide +kernel
theorem own_d1_6 : decode prog_2_method_18_code 6 = .ok (.dload 4, 2) := by decide +kernel
theorem own_d1_8 : decode prog_2_method_18_code 8 = .ok (.dmul, 1) := by decide +kernel
theorem own_d1_9 : decode prog_2_method_18_code 9 = .ok (.dload_n 0, 1) := by decide +kernel
theorem own_d1_10 : decode prog_2_method_18_code 10 = .ok (.dload_n 2, 1) := by decide +kernel
theorem own_d1_11 : decode prog_2_method_18_code 11 = .ok (.dconst 1, 1) := by decide +kernel
theorem own_d1_12 : decode prog_2_method_18_code 12 = .ok (.dadd, 1) := by decide +kernel
theorem own_d1_13 : decode prog_2_method_18_code 13 = .ok (.ddiv, 1) := by decide +kernel
theorem own_d1_14 : decode prog_2_method_18_code 14 = .ok (.dadd, 1) := by decide +kernel
theorem own_d1_15 : decode prog_2_method_18_code 15 = .ok (.ddiv, 1) := by decide +kernel
theorem own_d1_16 : decode prog_2_method_18_code 16 = .ok (.dreturn, 1) := by decide +kernel
theorem own_pn_com_example_tally_odds_tallyodds_Bm25 : plainName "com/example/tally_odds/tallyodds/Bm25" = true := by first | (simp [plainName, overriddenIn]; done) | decide +kernel
theorem own_ef_c (m : MethodId) (x1 : UInt64) (k1 : UInt64) (c1 : UInt64) : entryFrame m #[(.double x1), (.double k1), (.double c1)] 6 = mkF m 0 #[.val (.double x1), .second, .val (.double k1), .second, .val (.double c1), .second] [] := by first | (simp [entryFrame, mkF, argsToLocals, Value.category]; done) | rfl
set_option maxRecDepth 65536 in
set_option maxHeartbeats 40000000 in
theorem own_rm_c (l : Launch) (Z : State) (a0 : Array Value) (hw : ∀ d ∈ tables_1, d.before a0 Z = true) (ws : List Jvm.Cond) (x1 : UInt64) (k1 : UInt64) (c1 : UInt64) {c_v4 : UInt64} {c_v5 : UInt64} {c_v8 : UInt64} {c_v12 : UInt64} {c_v13 : UInt64} {c_v14 : UInt64} {c_v15 : UInt64} (h0 : Heap) (n0 : Nat) (Z0 : n0 ≤ h0.size)  (c_hn4 : Jvm.Free.Fl.NoNaN64 (FP.dadd k1 4607182418800017408)) (c_hv4 : FP.dadd k1 4607182418800017408 = c_v4) (c_hn5 : Jvm.Free.Fl.NoNaN64 (FP.ddiv k1 c_v4)) (c_hv5 : FP.ddiv k1 c_v4 = c_v5) (c_hn8 : Jvm.Free.Fl.NoNaN64 (FP.dmul c_v5 c1)) (c_hv8 : FP.dmul c_v5 c1 = c_v8) (c_hn12 : Jvm.Free.Fl.NoNaN64 (FP.dadd k1 4607182418800017408)) (c_hv12 : FP.dadd k1 4607182418800017408 = c_v12) (c_hn13 : Jvm.Free.Fl.NoNaN64 (FP.ddiv x1 c_v12)) (c_hv13 : FP.ddiv x1 c_v12 = c_v13) (c_hn14 : Jvm.Free.Fl.NoNaN64 (FP.dadd c_v8 c_v13)) (c_hv14 : FP.dadd c_v8 c_v13 = c_v14) (c_hn15 : Jvm.Free.Fl.NoNaN64 (FP.ddiv x1 c_v14)) (c_hv15 : FP.ddiv x1 c_v14 = c_v15) :
    MetFree l (⟨"com/example/tally_odds/tallyodds/Bm25", "saturation", "(DDD)D"⟩ : MethodName) (head1 (Jvm.Cond.code (⟨"com/example/tally_odds/tallyodds/Bm25", "saturation", "(DDD)D"⟩ : MethodName) prog_2_method_18_code 6 (some .double) :: ws) ({ frames := 0, cells := 0, slots := 0, locals := 0 } : Room)) (fun a U => a = #[(.double x1), (.double k1), (.double c1)] ∧ Z.Warmed39 U.vm ∧ U.heap = h0) (fun _ _ _ _ _ => True) (fun _ U o U' => ∃ v L, o = .returned v ∧ own_QP (some (.double c_v15)) h0 n0 v U'.heap L ∧ FrameEnd U o U' L ({ frames := 0, cells := 0, slots := 0, locals := 0 } : Room).cells ({ frames := 0, cells := 0, slots := 0, locals := 0 } : Room).slots) := by
  refine MetFree.of_bodySF (plainFor_of_name own_pn_com_example_tally_odds_tallyodds_Bm25) hisR ?_
  intro p e s m args below meth c s₁ Bd hml0 hP hK
  obtain ⟨rfl, hZ, hh⟩ := hP
  have hx := Bd.exec
  have hby := Bd.bytes
  have hml : c.maxLocals = 6 := hml0
  have hown : s.vm.findClass "com/example/tally_odds/tallyodds/Bm25" = some m.cls := findClass_of_methodNamed Bd.named
  have hnm := (name_of_methodNamed Bd.named Bd.method).1
  have X0 : Stand p l e ({ frames := 0, cells := 0, slots := 0, locals := 0 } : Room) s m #[(.double x1), (.double k1), (.double c1)] below meth c s₁ [] 0 0 := Stand.of_body Bd
  have e0 : s₁.heap = h0 := by rw [← hh, Bd.state]; rfl
  have N0 := Fr.nil n0
  have pre0 : ∀ t, Steps p.tables e below (s₁.setTop (mkF m 0 #[.val (.double x1), .second, .val (.double k1), .second, .val (.double c1), .second] [])) t → Steps p.tables e below (s₁.setTop (entryFrame m #[(.double x1), (.double k1), (.double c1)] 6)) t := fun t k => castTop (own_ef_c m x1 k1 c1) k
  obtain ⟨fs, hr, hrun, hended, hW, hsame⟩ := X0.leave (v := some (.double c_v15)) (fun h => by rw [Bd.returns] at h; cases h)
  refine ⟨_, _, pre0 _ ?_, hrun, hended, _, _, rfl, ?_, ⟨_, rfl⟩, hW, hsame.mono (by decide) (by decide)⟩
  · refine own_s_dloadN X0.here hx (hb hby own_d1_0) (pc' := 1) rfl rfl ?_
    refine own_s_dloadN X0.here hx (hb hby own_d1_1) (pc' := 2) rfl rfl ?_
    refine own_s_dloadN X0.here hx (hb hby own_d1_2) (pc' := 3) rfl rfl ?_
    refine own_s_dconst1 X0.here hx (hb hby own_d1_3) (pc' := 4) rfl  ?_
    refine own_s_dadd X0.here hx (hb hby own_d1_4) (pc' := 5) rfl c_hn4 (v := c_v4) c_hv4 ?_
    refine own_s_ddiv X0.here hx (hb hby own_d1_5) (pc' := 6) rfl c_hn5 (v := c_v5) c_hv5 ?_
    refine own_s_dload X0.here hx (hb hby own_d1_6) (pc' := 8) rfl rfl ?_
    refine own_s_dmul X0.here hx (hb hby own_d1_8) (pc' := 9) rfl c_hn8 (v := c_v8) c_hv8 ?_
    refine own_s_dloadN X0.here hx (hb hby own_d1_9) (pc' := 10) rfl rfl ?_
    refine own_s_dloadN X0.here hx (hb hby own_d1_10) (pc' := 11) rfl rfl ?_
    refine own_s_dconst1 X0.here hx (hb hby own_d1_11) (pc' := 12) rfl  ?_
    refine own_s_dadd X0.here hx (hb hby own_d1_12) (pc' := 13) rfl c_hn12 (v := c_v12) c_hv12 ?_
    refine own_s_ddiv X0.here hx (hb hby own_d1_13) (pc' := 14) rfl c_hn13 (v := c_v13) c_hv13 ?_
    refine own_s_dadd X0.here hx (hb hby own_d1_14) (pc' := 15) rfl c_hn14 (v := c_v14) c_hv14 ?_
    refine own_s_ddiv X0.here hx (hb hby own_d1_15) (pc' := 16) rfl c_hn15 (v := c_v15) c_hv15 ?_
    exact own_retD X0 hx Bd.returns (hb hby own_d1_16) hr
  · show own_QP (some (.double c_v15)) h0 n0 _ s₁.heap _
    rw [e0]
    exact ⟨rfl, N0, rfl⟩
theorem own_pd_28DDD29D : parseMethodDescriptor "(DDD)D" = some ⟨[.double, .double, .double], some .double⟩ := by decide +kernel
theorem own_pn_com_example_tally_odds_tallyodds_Bm25SaturationPinLaw : plainName "com/example/tally_odds/tallyodds/Bm25SaturationPinLaw" = true := by first | (simp [plainName, overriddenIn]; done) | decide +kernel
theorem own_ef_wtt (m : MethodId) (p0 : Int32) (p1 : Int32) (p2 : Int32) : entryFrame m #[(.int p0), (.int p1), (.int p2)] maxLocals = mkF m 0 #[.val (.int p0), .val (.int p1), .val (.int p2), .unset, .unset, .unset, .unset, .unset, .unset, .unset, .unset, .unset, .unset, .unset, .unset, .unset, .unset] [] := by first | (simp [entryFrame, mkF, argsToLocals, Value.category, maxLocals]; done) | rfl
set_option maxRecDepth 65536 in
set_option maxHeartbeats 40000000 in
theorem own_rm_wtt (l : Launch) (Z : State) (a0 : Array Value) (hw : ∀ d ∈ tables_1, d.before a0 Z = true) (ws : List Jvm.Cond) (p0 : Int32) (p1 : Int32) (p2 : Int32) {wtt_v3 : Int32} {wtt_v7 : Int32} {wtt_v13 : Int32} {wtt_v21 : Int32} {wtt_v22 : Int32} {wtt_v29 : Int32} {wtt_v38 : UInt64} {wtt_c47_c_v4 : UInt64} {wtt_c47_c_v5 : UInt64} {wtt_c47_c_v8 : UInt64} {wtt_c47_c_v12 : UInt64} {wtt_c47_c_v13 : UInt64} {wtt_c47_c_v14 : UInt64} {wtt_c47_c_v15 : UInt64} {wtt_v57 : UInt64} {wtt_v62 : UInt64} {wtt_v65 : UInt64} {wtt_v66 : UInt64} (h0 : Heap) (n0 : Nat) (Z0 : n0 ≤ h0.size)  (wtt_hv3 : p0 &&& (15 : Int32) = wtt_v3) (wtt_hv7 : (1 : Int32) <<< (wtt_v3 &&& 31) = wtt_v7) (wtt_hv13 : wtt_v7 - (1 : Int32) = wtt_v13) (wtt_hv21 : p1 &&& (65535 : Int32) = wtt_v21) (wtt_hv22 : (1 : Int32) + wtt_v21 = wtt_v22) (wtt_hv29 : p2 &&& (65535 : Int32) = wtt_v29) (wtt_hn38 : Jvm.Free.Fl.NoNaN64 (FP.ddiv (FP.i2d wtt_v29) (4616189618054758400 : UInt64))) (wtt_hv38 : FP.ddiv (FP.i2d wtt_v29) (4616189618054758400 : UInt64) = wtt_v38) (wtt_c47_c_hn4 : Jvm.Free.Fl.NoNaN64 (FP.dadd (FP.i2d wtt_v13) 4607182418800017408)) (wtt_c47_c_hv4 : FP.dadd (FP.i2d wtt_v13) 4607182418800017408 = wtt_c47_c_v4) (wtt_c47_c_hn5 : Jvm.Free.Fl.NoNaN64 (FP.ddiv (FP.i2d wtt_v13) wtt_c47_c_v4)) (wtt_c47_c_hv5 : FP.ddiv (FP.i2d wtt_v13) wtt_c47_c_v4 = wtt_c47_c_v5) (wtt_c47_c_hn8 : Jvm.Free.Fl.NoNaN64 (FP.dmul wtt_c47_c_v5 wtt_v38)) (wtt_c47_c_hv8 : FP.dmul wtt_c47_c_v5 wtt_v38 = wtt_c47_c_v8) (wtt_c47_c_hn12 : Jvm.Free.Fl.NoNaN64 (FP.dadd (FP.i2d wtt_v13) 4607182418800017408)) (wtt_c47_c_hv12 : FP.dadd (FP.i2d wtt_v13) 4607182418800017408 = wtt_c47_c_v12) (wtt_c47_c_hn13 : Jvm.Free.Fl.NoNaN64 (FP.ddiv (FP.i2d wtt_v22) wtt_c47_c_v12)) (wtt_c47_c_hv13 : FP.ddiv (FP.i2d wtt_v22) wtt_c47_c_v12 = wtt_c47_c_v13) (wtt_c47_c_hn14 : Jvm.Free.Fl.NoNaN64 (FP.dadd wtt_c47_c_v8 wtt_c47_c_v13)) (wtt_c47_c_hv14 : FP.dadd wtt_c47_c_v8 wtt_c47_c_v13 = wtt_c47_c_v14) (wtt_c47_c_hn15 : Jvm.Free.Fl.NoNaN64 (FP.ddiv (FP.i2d wtt_v22) wtt_c47_c_v14)) (wtt_c47_c_hv15 : FP.ddiv (FP.i2d wtt_v22) wtt_c47_c_v14 = wtt_c47_c_v15) (wtt_hn57 : Jvm.Free.Fl.NoNaN64 (FP.dmul (FP.i2d wtt_v7) (FP.i2d wtt_v22))) (wtt_hv57 : FP.dmul (FP.i2d wtt_v7) (FP.i2d wtt_v22) = wtt_v57) (wtt_hn62 : Jvm.Free.Fl.NoNaN64 (FP.dmul (FP.i2d wtt_v13) wtt_v38)) (wtt_hv62 : FP.dmul (FP.i2d wtt_v13) wtt_v38 = wtt_v62) (wtt_hn65 : Jvm.Free.Fl.NoNaN64 (FP.dadd wtt_v62 (FP.i2d wtt_v22))) (wtt_hv65 : FP.dadd wtt_v62 (FP.i2d wtt_v22) = wtt_v65) (wtt_hn66 : Jvm.Free.Fl.NoNaN64 (FP.ddiv wtt_v57 wtt_v65)) (wtt_hv66 : FP.ddiv wtt_v57 wtt_v65 = wtt_v66) (wtt_hc73 : Op.cmpValue (FP.dcmp wtt_c47_c_v15 wtt_v66) .l = (0 : Int32)) (wtt_hb85 : ifCond.holds .ne wtt_v3 = true) (wtt_hb109 : ifCond.holds .ne wtt_v29 = true) :
    MetFree l x (head1 (Jvm.Cond.code x code maxLocals ret :: ws) room_1) (fun a U => a = #[(.int p0), (.int p1), (.int p2)] ∧ Z.Warmed39 U.vm ∧ U.heap = h0) (fun _ _ _ _ _ => True) (fun _ U o U' => ∃ v L, o = .returned v ∧ own_Q0 n0 v U'.heap L ∧ FrameEnd U o U' L room_1.cells room_1.slots) := by
  refine MetFree.of_bodySF (plainFor_of_name own_pn_com_example_tally_odds_tallyodds_Bm25SaturationPinLaw) hisR ?_
  intro p e s m args below meth c s₁ Bd hml0 hP hK
  obtain ⟨rfl, hZ, hh⟩ := hP
  have hx := Bd.exec
  have hby := Bd.bytes
  have hml : c.maxLocals = 17 := hml0
  have hown : s.vm.findClass "com/example/tally_odds/tallyodds/Bm25SaturationPinLaw" = some m.cls := findClass_of_methodNamed Bd.named
  have hnm := (name_of_methodNamed Bd.named Bd.method).1
  have X0 : Stand p l e room_1 s m #[(.int p0), (.int p1), (.int p2)] below meth c s₁ [] 0 0 := Stand.of_body Bd
  have e0 : s₁.heap = h0 := by rw [← hh, Bd.state]; rfl
  have N0 := Fr.nil n0
  have pre0 : ∀ t, Steps p.tables e below (s₁.setTop (mkF m 0 #[.val (.int p0), .val (.int p1), .val (.int p2), .unset, .unset, .unset, .unset, .unset, .unset, .unset, .unset, .unset, .unset, .unset, .unset, .unset, .unset] [])) t → Steps p.tables e below (s₁.setTop (entryFrame m #[(.int p0), (.int p1), (.int p2)] maxLocals)) t := fun t k => castTop (own_ef_wtt m p0 p1 p2) k
  obtain ⟨_, _, ⟨Twtt1, Lwtt1, kwtt1, nwtt1⟩, -, Xwtt1, ⟨Lcwtt1, hQwtt1, lwtt1, ywtt1, zwtt1⟩, stwtt1⟩ := Jvm.LawKit.callS X0 hx (y := (⟨"com/example/tally_odds/tallyodds/Bm25", "saturation", "(DDD)D"⟩ : MethodName)) hown (mvT hZ (hw _ (List.mem_of_getElem? (i := 2) rfl))) (mvT hZ (hw _ (List.mem_of_getElem? (i := 3) rfl))) (mvT hZ (hw _ (List.mem_of_getElem? (i := 4) rfl))) (mvT hZ (hw _ (List.mem_of_getElem? (i := 5) rfl))) (by decide) (backOf (W := 0) (own_rm_c l Z a0 hw [] (FP.i2d wtt_v22) (FP.i2d wtt_v13) wtt_v38 h0 n0 Z0 wtt_c47_c_hn4 wtt_c47_c_hv4 wtt_c47_c_hn5 wtt_c47_c_hv5 wtt_c47_c_hn8 wtt_c47_c_hv8 wtt_c47_c_hn12 wtt_c47_c_hv12 wtt_c47_c_hn13 wtt_c47_c_hv13 wtt_c47_c_hn14 wtt_c47_c_hv14 wtt_c47_c_hn15 wtt_c47_c_hv15) hZ (hw _ (List.mem_of_getElem? (i := 5) rfl)) (hw _ (List.mem_of_getElem? (i := 4) rfl)) (by decide) (by decide)) (g := (mkF m 47 #[.val (.int p0), .val (.int p1), .val (.int p2), .val (.int wtt_v3), .val (.int wtt_v7), .val (.double (FP.i2d wtt_v13)), .second, .val (.double (FP.i2d wtt_v22)), .second, .val (.int wtt_v29), .val (.double wtt_v38), .second, .unset, .unset, .unset, .unset, .unset] [(.double wtt_v38), (.double (FP.i2d wtt_v13)), (.double (FP.i2d wtt_v22))])) rfl (by rw [hml]; rfl) (argsL := [(.double (FP.i2d wtt_v22)), (.double (FP.i2d wtt_v13)), (.double wtt_v38)]) (rest := []) (lenOf own_pd_28DDD29D rfl) rfl (by show 2 * 0 + _ ≤ _; exact Nat.le_of_eq rfl) (hb hby at_47) (fun _ _ => ⟨rfl, e0, (by decide : 0 + 0 ≤ _), (by decide : 0 + 0 ≤ _)⟩)
  dsimp only [Pt.U, Pt.locs, Pt.cells, Pt.slots] at Xwtt1 lwtt1 ywtt1 zwtt1 stwtt1 hQwtt1
  subst lwtt1 ywtt1 zwtt1
  obtain ⟨rfl, Nwtt1q, ewtt1⟩ := hQwtt1
  have Nwtt1 := Fr.app N0 Nwtt1q
  obtain ⟨fs, hr, hrun, hended, hW, hsame⟩ := Xwtt1.leave (v := some (.int (1 : Int32))) (fun h => by rw [Bd.returns] at h; cases h)
  refine ⟨_, _, pre0 _ ?_, hrun, hended, _, _, rfl, ?_, ⟨_, rfl⟩, hW, hsame.mono (by decide) (by decide)⟩
  · refine own_s_iloadN X0.here hx (hb hby at_0) (pc' := 1) rfl rfl ?_
    refine own_s_bipush X0.here hx (hb hby at_1) (pc' := 3) rfl (v := (15 : Int32)) (by decide) ?_
    refine own_s_iand X0.here hx (hb hby at_3) (pc' := 4) rfl (v := wtt_v3) wtt_hv3 ?_
    refine own_s_istoreN X0.here hx (hb hby at_4) (pc' := 5) rfl (L' := #[.val (.int p0), .val (.int p1), .val (.int p2), .val (.int wtt_v3), .unset, .unset, .unset, .unset, .unset, .unset, .unset, .unset, .unset, .unset, .unset, .unset, .unset]) rfl ?_
    refine own_s_iconst X0.here hx (hb hby at_5) (pc' := 6) rfl (v := (1 : Int32)) (by decide) ?_
    refine own_s_iloadN X0.here hx (hb hby at_6) (pc' := 7) rfl rfl ?_
    refine own_s_ishl X0.here hx (hb hby at_7) (pc' := 8) rfl (v := wtt_v7) wtt_hv7 ?_
    refine own_s_istore X0.here hx (hb hby at_8) (pc' := 10) rfl (L' := #[.val (.int p0), .val (.int p1), .val (.int p2), .val (.int wtt_v3), .val (.int wtt_v7), .unset, .unset, .unset, .unset, .unset, .unset, .unset, .unset, .unset, .unset, .unset, .unset]) rfl ?_
    refine own_s_iload X0.here hx (hb hby at_10) (pc' := 12) rfl rfl ?_
    refine own_s_iconst X0.here hx (hb hby at_12) (pc' := 13) rfl (v := (1 : Int32)) (by decide) ?_
    refine own_s_isub X0.here hx (hb hby at_13) (pc' := 14) rfl (v := wtt_v13) wtt_hv13 ?_
    refine own_s_i2d X0.here hx (hb hby at_14) (pc' := 15) rfl (v := (FP.i2d wtt_v13)) rfl ?_
    refine own_s_dstore X0.here hx (hb hby at_15) (pc' := 17) rfl (L' := #[.val (.int p0), .val (.int p1), .val (.int p2), .val (.int wtt_v3), .val (.int wtt_v7), .val (.double (FP.i2d wtt_v13)), .second, .unset, .unset, .unset, .unset, .unset, .unset, .unset, .unset, .unset, .unset]) rfl ?_
    refine own_s_iconst X0.here hx (hb hby at_17) (pc' := 18) rfl (v := (1 : Int32)) (by decide) ?_
    refine own_s_iloadN X0.here hx (hb hby at_18) (pc' := 19) rfl rfl ?_
    refine X0.ldcInt hx hown (mvT hZ (hw _ (List.mem_of_getElem? (i := 0) rfl))) (g := (mkF m 19 #[.val (.int p0), .val (.int p1), .val (.int p2), .val (.int wtt_v3), .val (.int wtt_v7), .val (.double (FP.i2d wtt_v13)), .second, .unset, .unset, .unset, .unset, .unset, .unset, .unset, .unset, .unset, .unset] [(.int p1), (.int (1 : Int32))])) rfl (hb hby at_19) _ ?_
    show Steps p.tables e below (s₁.setTop (mkF m 21 #[.val (.int p0), .val (.int p1), .val (.int p2), .val (.int wtt_v3), .val (.int wtt_v7), .val (.double (FP.i2d wtt_v13)), .second, .unset, .unset, .unset, .unset, .unset, .unset, .unset, .unset, .unset, .unset] [(.int (65535 : Int32)), (.int p1), (.int (1 : Int32))])) _
    refine own_s_iand X0.here hx (hb hby at_21) (pc' := 22) rfl (v := wtt_v21) wtt_hv21 ?_
    refine own_s_iadd X0.here hx (hb hby at_22) (pc' := 23) rfl (v := wtt_v22) wtt_hv22 ?_
    refine own_s_i2d X0.here hx (hb hby at_23) (pc' := 24) rfl (v := (FP.i2d wtt_v22)) rfl ?_
    refine own_s_dstore X0.here hx (hb hby at_24) (pc' := 26) rfl (L' := #[.val (.int p0), .val (.int p1), .val (.int p2), .val (.int wtt_v3), .val (.int wtt_v7), .val (.double (FP.i2d wtt_v13)), .second, .val (.double (FP.i2d wtt_v22)), .second, .unset, .unset, .unset, .unset, .unset, .unset, .unset, .unset]) rfl ?_
    refine own_s_iloadN X0.here hx (hb hby at_26) (pc' := 27) rfl rfl ?_
    refine X0.ldcInt hx hown (mvT hZ (hw _ (List.mem_of_getElem? (i := 0) rfl))) (g := (mkF m 27 #[.val (.int p0), .val (.int p1), .val (.int p2), .val (.int wtt_v3), .val (.int wtt_v7), .val (.double (FP.i2d wtt_v13)), .second, .val (.double (FP.i2d wtt_v22)), .second, .unset, .unset, .unset, .unset, .unset, .unset, .unset, .unset] [(.int p2)])) rfl (hb hby at_27) _ ?_
    show Steps p.tables e below (s₁.setTop (mkF m 29 #[.val (.int p0), .val (.int p1), .val (.int p2), .val (.int wtt_v3), .val (.int wtt_v7), .val (.double (FP.i2d wtt_v13)), .second, .val (.double (FP.i2d wtt_v22)), .second, .unset, .unset, .unset, .unset, .unset, .unset, .unset, .unset] [(.int (65535 : Int32)), (.int p2)])) _
    refine own_s_iand X0.here hx (hb hby at_29) (pc' := 30) rfl (v := wtt_v29) wtt_hv29 ?_
    refine own_s_istore X0.here hx (hb hby at_30) (pc' := 32) rfl (L' := #[.val (.int p0), .val (.int p1), .val (.int p2), .val (.int wtt_v3), .val (.int wtt_v7), .val (.double (FP.i2d wtt_v13)), .second, .val (.double (FP.i2d wtt_v22)), .second, .val (.int wtt_v29), .unset, .unset, .unset, .unset, .unset, .unset, .unset]) rfl ?_
    refine own_s_iload X0.here hx (hb hby at_32) (pc' := 34) rfl rfl ?_
    refine own_s_i2d X0.here hx (hb hby at_34) (pc' := 35) rfl (v := (FP.i2d wtt_v29)) rfl ?_
    refine X0.ldc2DoubleC hx hown (mvT hZ (hw _ (List.mem_of_getElem? (i := 1) rfl))) (g := (mkF m 35 #[.val (.int p0), .val (.int p1), .val (.int p2), .val (.int wtt_v3), .val (.int wtt_v7), .val (.double (FP.i2d wtt_v13)), .second, .val (.double (FP.i2d wtt_v22)), .second, .val (.int wtt_v29), .unset, .unset, .unset, .unset, .unset, .unset, .unset] [(.double (FP.i2d wtt_v29))])) rfl (hb hby at_35) _ ?_
    show Steps p.tables e below (s₁.setTop (mkF m 38 #[.val (.int p0), .val (.int p1), .val (.int p2), .val (.int wtt_v3), .val (.int wtt_v7), .val (.double (FP.i2d wtt_v13)), .second, .val (.double (FP.i2d wtt_v22)), .second, .val (.int wtt_v29), .unset, .unset, .unset, .unset, .unset, .unset, .unset] [(.double (4616189618054758400 : UInt64)), (.double (FP.i2d wtt_v29))])) _
    refine own_s_ddiv X0.here hx (hb hby at_38) (pc' := 39) rfl wtt_hn38 (v := wtt_v38) wtt_hv38 ?_
    refine own_s_dstore X0.here hx (hb hby at_39) (pc' := 41) rfl (L' := #[.val (.int p0), .val (.int p1), .val (.int p2), .val (.int wtt_v3), .val (.int wtt_v7), .val (.double (FP.i2d wtt_v13)), .second, .val (.double (FP.i2d wtt_v22)), .second, .val (.int wtt_v29), .val (.double wtt_v38), .second, .unset, .unset, .unset, .unset, .unset]) rfl ?_
    refine own_s_dload X0.here hx (hb hby at_41) (pc' := 43) rfl rfl ?_
    refine own_s_dload X0.here hx (hb hby at_43) (pc' := 45) rfl rfl ?_
    refine own_s_dload X0.here hx (hb hby at_45) (pc' := 47) rfl rfl ?_
    refine stwtt1 _ ?_
    show Steps p.tables e below (Twtt1.setTop (mkF m 50 #[.val (.int p0), .val (.int p1), .val (.int p2), .val (.int wtt_v3), .val (.int wtt_v7), .val (.double (FP.i2d wtt_v13)), .second, .val (.double (FP.i2d wtt_v22)), .second, .val (.int wtt_v29), .val (.double wtt_v38), .second, .unset, .unset, .unset, .unset, .unset] [(.double wtt_c47_c_v15)])) _
    refine own_s_dstore Xwtt1.here hx (hb hby at_50) (pc' := 52) rfl (L' := #[.val (.int p0), .val (.int p1), .val (.int p2), .val (.int wtt_v3), .val (.int wtt_v7), .val (.double (FP.i2d wtt_v13)), .second, .val (.double (FP.i2d wtt_v22)), .second, .val (.int wtt_v29), .val (.double wtt_v38), .second, .val (.double wtt_c47_c_v15), .second, .unset, .unset, .unset]) rfl ?_
    refine own_s_iload Xwtt1.here hx (hb hby at_52) (pc' := 54) rfl rfl ?_
    refine own_s_i2d Xwtt1.here hx (hb hby at_54) (pc' := 55) rfl (v := (FP.i2d wtt_v7)) rfl ?_
    refine own_s_dload Xwtt1.here hx (hb hby at_55) (pc' := 57) rfl rfl ?_
    refine own_s_dmul Xwtt1.here hx (hb hby at_57) (pc' := 58) rfl wtt_hn57 (v := wtt_v57) wtt_hv57 ?_
    refine own_s_dload Xwtt1.here hx (hb hby at_58) (pc' := 60) rfl rfl ?_
    refine own_s_dload Xwtt1.here hx (hb hby at_60) (pc' := 62) rfl rfl ?_
    refine own_s_dmul Xwtt1.here hx (hb hby at_62) (pc' := 63) rfl wtt_hn62 (v := wtt_v62) wtt_hv62 ?_
    refine own_s_dload Xwtt1.here hx (hb hby at_63) (pc' := 65) rfl rfl ?_
    refine own_s_dadd Xwtt1.here hx (hb hby at_65) (pc' := 66) rfl wtt_hn65 (v := wtt_v65) wtt_hv65 ?_
    refine own_s_ddiv Xwtt1.here hx (hb hby at_66) (pc' := 67) rfl wtt_hn66 (v := wtt_v66) wtt_hv66 ?_
    refine own_s_dstore Xwtt1.here hx (hb hby at_67) (pc' := 69) rfl (L' := #[.val (.int p0), .val (.int p1), .val (.int p2), .val (.int wtt_v3), .val (.int wtt_v7), .val (.double (FP.i2d wtt_v13)), .second, .val (.double (FP.i2d wtt_v22)), .second, .val (.int wtt_v29), .val (.double wtt_v38), .second, .val (.double wtt_c47_c_v15), .second, .val (.double wtt_v66), .second, .unset]) rfl ?_
    refine own_s_dload Xwtt1.here hx (hb hby at_69) (pc' := 71) rfl rfl ?_
    refine own_s_dload Xwtt1.here hx (hb hby at_71) (pc' := 73) rfl rfl ?_
    refine own_s_dcmp Xwtt1.here hx (hb hby at_73) (pc' := 74) rfl (v := (0 : Int32)) wtt_hc73 ?_
    refine own_s_ifNo Xwtt1.here hx (hb hby at_74) (pc' := 77) rfl (by decide) ?_
    refine own_s_iconst Xwtt1.here hx (hb hby at_77) (pc' := 78) rfl (v := (1 : Int32)) (by decide) ?_
    refine own_s_goto Xwtt1.here hx (hb hby at_78) (by decide) (pc' := 82) (by decide) ?_
    refine own_s_istore Xwtt1.here hx (hb hby at_82) (pc' := 84) rfl (L' := #[.val (.int p0), .val (.int p1), .val (.int p2), .val (.int wtt_v3), .val (.int wtt_v7), .val (.double (FP.i2d wtt_v13)), .second, .val (.double (FP.i2d wtt_v22)), .second, .val (.int wtt_v29), .val (.double wtt_v38), .second, .val (.double wtt_c47_c_v15), .second, .val (.double wtt_v66), .second, .val (.int (1 : Int32))]) rfl ?_
    refine own_s_iloadN Xwtt1.here hx (hb hby at_84) (pc' := 85) rfl rfl ?_
    refine own_s_ifYes Xwtt1.here hx (hb hby at_85) (by decide) (pc' := 107) (by decide) wtt_hb85 ?_
    refine own_s_iload Xwtt1.here hx (hb hby at_107) (pc' := 109) rfl rfl ?_
    refine own_s_ifYes Xwtt1.here hx (hb hby at_109) (by decide) (pc' := 133) (by decide) wtt_hb109 ?_
    refine own_s_iload Xwtt1.here hx (hb hby at_133) (pc' := 135) rfl rfl ?_
    exact retN Xwtt1 hx (t := .boolean) Bd.returns (by simp) (hb hby at_135) hr
  · show own_Q0 n0 _ Twtt1.heap _
    rw [ewtt1]
    exact ⟨rfl, Nwtt1⟩
theorem own_ef_wtf (m : MethodId) (p0 : Int32) (p1 : Int32) (p2 : Int32) : entryFrame m #[(.int p0), (.int p1), (.int p2)] maxLocals = mkF m 0 #[.val (.int p0), .val (.int p1), .val (.int p2), .unset, .unset, .unset, .unset, .unset, .unset, .unset, .unset, .unset, .unset, .unset, .unset, .unset, .unset] [] := by first | (simp [entryFrame, mkF, argsToLocals, Value.category, maxLocals]; done) | rfl
set_option maxRecDepth 65536 in
set_option maxHeartbeats 40000000 in
theorem own_rm_wtf (l : Launch) (Z : State) (a0 : Array Value) (hw : ∀ d ∈ tables_1, d.before a0 Z = true) (ws : List Jvm.Cond) (p0 : Int32) (p1 : Int32) (p2 : Int32) {wtf_v3 : Int32} {wtf_v7 : Int32} {wtf_v13 : Int32} {wtf_v21 : Int32} {wtf_v22 : Int32} {wtf_v29 : Int32} {wtf_v38 : UInt64} {wtf_c47_c_v4 : UInt64} {wtf_c47_c_v5 : UInt64} {wtf_c47_c_v8 : UInt64} {wtf_c47_c_v12 : UInt64} {wtf_c47_c_v13 : UInt64} {wtf_c47_c_v14 : UInt64} {wtf_c47_c_v15 : UInt64} {wtf_v57 : UInt64} {wtf_v62 : UInt64} {wtf_v65 : UInt64} {wtf_v66 : UInt64} (h0 : Heap) (n0 : Nat) (Z0 : n0 ≤ h0.size)  (wtf_hv3 : p0 &&& (15 : Int32) = wtf_v3) (wtf_hv7 : (1 : Int32) <<< (wtf_v3 &&& 31) = wtf_v7) (wtf_hv13 : wtf_v7 - (1 : Int32) = wtf_v13) (wtf_hv21 : p1 &&& (65535 : Int32) = wtf_v21) (wtf_hv22 : (1 : Int32) + wtf_v21 = wtf_v22) (wtf_hv29 : p2 &&& (65535 : Int32) = wtf_v29) (wtf_hn38 : Jvm.Free.Fl.NoNaN64 (FP.ddiv (FP.i2d wtf_v29) (4616189618054758400 : UInt64))) (wtf_hv38 : FP.ddiv (FP.i2d wtf_v29) (4616189618054758400 : UInt64) = wtf_v38) (wtf_c47_c_hn4 : Jvm.Free.Fl.NoNaN64 (FP.dadd (FP.i2d wtf_v13) 4607182418800017408)) (wtf_c47_c_hv4 : FP.dadd (FP.i2d wtf_v13) 4607182418800017408 = wtf_c47_c_v4) (wtf_c47_c_hn5 : Jvm.Free.Fl.NoNaN64 (FP.ddiv (FP.i2d wtf_v13) wtf_c47_c_v4)) (wtf_c47_c_hv5 : FP.ddiv (FP.i2d wtf_v13) wtf_c47_c_v4 = wtf_c47_c_v5) (wtf_c47_c_hn8 : Jvm.Free.Fl.NoNaN64 (FP.dmul wtf_c47_c_v5 wtf_v38)) (wtf_c47_c_hv8 : FP.dmul wtf_c47_c_v5 wtf_v38 = wtf_c47_c_v8) (wtf_c47_c_hn12 : Jvm.Free.Fl.NoNaN64 (FP.dadd (FP.i2d wtf_v13) 4607182418800017408)) (wtf_c47_c_hv12 : FP.dadd (FP.i2d wtf_v13) 4607182418800017408 = wtf_c47_c_v12) (wtf_c47_c_hn13 : Jvm.Free.Fl.NoNaN64 (FP.ddiv (FP.i2d wtf_v22) wtf_c47_c_v12)) (wtf_c47_c_hv13 : FP.ddiv (FP.i2d wtf_v22) wtf_c47_c_v12 = wtf_c47_c_v13) (wtf_c47_c_hn14 : Jvm.Free.Fl.NoNaN64 (FP.dadd wtf_c47_c_v8 wtf_c47_c_v13)) (wtf_c47_c_hv14 : FP.dadd wtf_c47_c_v8 wtf_c47_c_v13 = wtf_c47_c_v14) (wtf_c47_c_hn15 : Jvm.Free.Fl.NoNaN64 (FP.ddiv (FP.i2d wtf_v22) wtf_c47_c_v14)) (wtf_c47_c_hv15 : FP.ddiv (FP.i2d wtf_v22) wtf_c47_c_v14 = wtf_c47_c_v15) (wtf_hn57 : Jvm.Free.Fl.NoNaN64 (FP.dmul (FP.i2d wtf_v7) (FP.i2d wtf_v22))) (wtf_hv57 : FP.dmul (FP.i2d wtf_v7) (FP.i2d wtf_v22) = wtf_v57) (wtf_hn62 : Jvm.Free.Fl.NoNaN64 (FP.dmul (FP.i2d wtf_v13) wtf_v38)) (wtf_hv62 : FP.dmul (FP.i2d wtf_v13) wtf_v38 = wtf_v62) (wtf_hn65 : Jvm.Free.Fl.NoNaN64 (FP.dadd wtf_v62 (FP.i2d wtf_v22))) (wtf_hv65 : FP.dadd wtf_v62 (FP.i2d wtf_v22) = wtf_v65) (wtf_hn66 : Jvm.Free.Fl.NoNaN64 (FP.ddiv wtf_v57 wtf_v65)) (wtf_hv66 : FP.ddiv wtf_v57 wtf_v65 = wtf_v66) (wtf_hc73 : Op.cmpValue (FP.dcmp wtf_c47_c_v15 wtf_v66) .l = (0 : Int32)) (wtf_hb85 : ifCond.holds .ne wtf_v3 = true) (wtf_hb109 : ifCond.holds .ne wtf_v29 = false) (wtf_hc122 : Op.cmpValue (FP.dcmp wtf_c47_c_v15 (FP.i2d wtf_v7)) .l = (0 : Int32)) :
    MetFree l x (head1 (Jvm.Cond.code x code maxLocals ret :: ws) room_1) (fun a U => a = #[(.int p0), (.int p1), (.int p2)] ∧ Z.Warmed39 U.vm ∧ U.heap = h0) (fun _ _ _ _ _ => True) (fun _ U o U' => ∃ v L, o = .returned v ∧ own_Q0 n0 v U'.heap L ∧ FrameEnd U o U' L room_1.cells room_1.slots) := by
  refine MetFree.of_bodySF (plainFor_of_name own_pn_com_example_tally_odds_tallyodds_Bm25SaturationPinLaw) hisR ?_
  intro p e s m args below meth c s₁ Bd hml0 hP hK
  obtain ⟨rfl, hZ, hh⟩ := hP
  have hx := Bd.exec
  have hby := Bd.bytes
  have hml : c.maxLocals = 17 := hml0
  have hown : s.vm.findClass "com/example/tally_odds/tallyodds/Bm25SaturationPinLaw" = some m.cls := findClass_of_methodNamed Bd.named
  have hnm := (name_of_methodNamed Bd.named Bd.method).1
  have X0 : Stand p l e room_1 s m #[(.int p0), (.int p1), (.int p2)] below meth c s₁ [] 0 0 := Stand.of_body Bd
  have e0 : s₁.heap = h0 := by rw [← hh, Bd.state]; rfl
  have N0 := Fr.nil n0
  have pre0 : ∀ t, Steps p.tables e below (s₁.setTop (mkF m 0 #[.val (.int p0), .val (.int p1), .val (.int p2), .unset, .unset, .unset, .unset, .unset, .unset, .unset, .unset, .unset, .unset, .unset, .unset, .unset, .unset] [])) t → Steps p.tables e below (s₁.setTop (entryFrame m #[(.int p0), (.int p1), (.int p2)] maxLocals)) t := fun t k => castTop (own_ef_wtf m p0 p1 p2) k
  obtain ⟨_, _, ⟨Twtf1, Lwtf1, kwtf1, nwtf1⟩, -, Xwtf1, ⟨Lcwtf1, hQwtf1, lwtf1, ywtf1, zwtf1⟩, stwtf1⟩ := Jvm.LawKit.callS X0 hx (y := (⟨"com/example/tally_odds/tallyodds/Bm25", "saturation", "(DDD)D"⟩ : MethodName)) hown (mvT hZ (hw _ (List.mem_of_getElem? (i := 2) rfl))) (mvT hZ (hw _ (List.mem_of_getElem? (i := 3) rfl))) (mvT hZ (hw _ (List.mem_of_getElem? (i := 4) rfl))) (mvT hZ (hw _ (List.mem_of_getElem? (i := 5) rfl))) (by decide) (backOf (W := 0) (own_rm_c l Z a0 hw [] (FP.i2d wtf_v22) (FP.i2d wtf_v13) wtf_v38 h0 n0 Z0 wtf_c47_c_hn4 wtf_c47_c_hv4 wtf_c47_c_hn5 wtf_c47_c_hv5 wtf_c47_c_hn8 wtf_c47_c_hv8 wtf_c47_c_hn12 wtf_c47_c_hv12 wtf_c47_c_hn13 wtf_c47_c_hv13 wtf_c47_c_hn14 wtf_c47_c_hv14 wtf_c47_c_hn15 wtf_c47_c_hv15) hZ (hw _ (List.mem_of_getElem? (i := 5) rfl)) (hw _ (List.mem_of_getElem? (i := 4) rfl)) (by decide) (by decide)) (g := (mkF m 47 #[.val (.int p0), .val (.int p1), .val (.int p2), .val (.int wtf_v3), .val (.int wtf_v7), .val (.double (FP.i2d wtf_v13)), .second, .val (.double (FP.i2d wtf_v22)), .second, .val (.int wtf_v29), .val (.double wtf_v38), .second, .unset, .unset, .unset, .unset, .unset] [(.double wtf_v38), (.double (FP.i2d wtf_v13)), (.double (FP.i2d wtf_v22))])) rfl (by rw [hml]; rfl) (argsL := [(.double (FP.i2d wtf_v22)), (.double (FP.i2d wtf_v13)), (.double wtf_v38)]) (rest := []) (lenOf own_pd_28DDD29D rfl) rfl (by show 2 * 0 + _ ≤ _; exact Nat.le_of_eq rfl) (hb hby at_47) (fun _ _ => ⟨rfl, e0, (by decide : 0 + 0 ≤ _), (by decide : 0 + 0 ≤ _)⟩)
  dsimp only [Pt.U, Pt.locs, Pt.cells, Pt.slots] at Xwtf1 lwtf1 ywtf1 zwtf1 stwtf1 hQwtf1
  subst lwtf1 ywtf1 zwtf1
  obtain ⟨rfl, Nwtf1q, ewtf1⟩ := hQwtf1
  have Nwtf1 := Fr.app N0 Nwtf1q
  obtain ⟨fs, hr, hrun, hended, hW, hsame⟩ := Xwtf1.leave (v := some (.int (1 : Int32))) (fun h => by rw [Bd.returns] at h; cases h)
  refine ⟨_, _, pre0 _ ?_, hrun, hended, _, _, rfl, ?_, ⟨_, rfl⟩, hW, hsame.mono (by decide) (by decide)⟩
  · refine own_s_iloadN X0.here hx (hb hby at_0) (pc' := 1) rfl rfl ?_
    refine own_s_bipush X0.here hx (hb hby at_1) (pc' := 3) rfl (v := (15 : Int32)) (by decide) ?_
    refine own_s_iand X0.here hx (hb hby at_3) (pc' := 4) rfl (v := wtf_v3) wtf_hv3 ?_
    refine own_s_istoreN X0.here hx (hb hby at_4) (pc' := 5) rfl (L' := #[.val (.int p0), .val (.int p1), .val (.int p2), .val (.int wtf_v3), .unset, .unset, .unset, .unset, .unset, .unset, .unset, .unset, .unset, .unset, .unset, .unset, .unset]) rfl ?_
    refine own_s_iconst X0.here hx (hb hby at_5) (pc' := 6) rfl (v := (1 : Int32)) (by decide) ?_
    refine own_s_iloadN X0.here hx (hb hby at_6) (pc' := 7) rfl rfl ?_
    refine own_s_ishl X0.here hx (hb hby at_7) (pc' := 8) rfl (v := wtf_v7) wtf_hv7 ?_
    refine own_s_istore X0.here hx (hb hby at_8) (pc' := 10) rfl (L' := #[.val (.int p0), .val (.int p1), .val (.int p2), .val (.int wtf_v3), .val (.int wtf_v7), .unset, .unset, .unset, .unset, .unset, .unset, .unset, .unset, .unset, .unset, .unset, .unset]) rfl ?_
    refine own_s_iload X0.here hx (hb hby at_10) (pc' := 12) rfl rfl ?_
    refine own_s_iconst X0.here hx (hb hby at_12) (pc' := 13) rfl (v := (1 : Int32)) (by decide) ?_
    refine own_s_isub X0.here hx (hb hby at_13) (pc' := 14) rfl (v := wtf_v13) wtf_hv13 ?_
    refine own_s_i2d X0.here hx (hb hby at_14) (pc' := 15) rfl (v := (FP.i2d wtf_v13)) rfl ?_
    refine own_s_dstore X0.here hx (hb hby at_15) (pc' := 17) rfl (L' := #[.val (.int p0), .val (.int p1), .val (.int p2), .val (.int wtf_v3), .val (.int wtf_v7), .val (.double (FP.i2d wtf_v13)), .second, .unset, .unset, .unset, .unset, .unset, .unset, .unset, .unset, .unset, .unset]) rfl ?_
    refine own_s_iconst X0.here hx (hb hby at_17) (pc' := 18) rfl (v := (1 : Int32)) (by decide) ?_
    refine own_s_iloadN X0.here hx (hb hby at_18) (pc' := 19) rfl rfl ?_
    refine X0.ldcInt hx hown (mvT hZ (hw _ (List.mem_of_getElem? (i := 0) rfl))) (g := (mkF m 19 #[.val (.int p0), .val (.int p1), .val (.int p2), .val (.int wtf_v3), .val (.int wtf_v7), .val (.double (FP.i2d wtf_v13)), .second, .unset, .unset, .unset, .unset, .unset, .unset, .unset, .unset, .unset, .unset] [(.int p1), (.int (1 : Int32))])) rfl (hb hby at_19) _ ?_
    show Steps p.tables e below (s₁.setTop (mkF m 21 #[.val (.int p0), .val (.int p1), .val (.int p2), .val (.int wtf_v3), .val (.int wtf_v7), .val (.double (FP.i2d wtf_v13)), .second, .unset, .unset, .unset, .unset, .unset, .unset, .unset, .unset, .unset, .unset] [(.int (65535 : Int32)), (.int p1), (.int (1 : Int32))])) _
    refine own_s_iand X0.here hx (hb hby at_21) (pc' := 22) rfl (v := wtf_v21) wtf_hv21 ?_
    refine own_s_iadd X0.here hx (hb hby at_22) (pc' := 23) rfl (v := wtf_v22) wtf_hv22 ?_
    refine own_s_i2d X0.here hx (hb hby at_23) (pc' := 24) rfl (v := (FP.i2d wtf_v22)) rfl ?_
    refine own_s_dstore X0.here hx (hb hby at_24) (pc' := 26) rfl (L' := #[.val (.int p0), .val (.int p1), .val (.int p2), .val (.int wtf_v3), .val (.int wtf_v7), .val (.double (FP.i2d wtf_v13)), .second, .val (.double (FP.i2d wtf_v22)), .second, .unset, .unset, .unset, .unset, .unset, .unset, .unset, .unset]) rfl ?_
    refine own_s_iloadN X0.here hx (hb hby at_26) (pc' := 27) rfl rfl ?_
    refine X0.ldcInt hx hown (mvT hZ (hw _ (List.mem_of_getElem? (i := 0) rfl))) (g := (mkF m 27 #[.val (.int p0), .val (.int p1), .val (.int p2), .val (.int wtf_v3), .val (.int wtf_v7), .val (.double (FP.i2d wtf_v13)), .second, .val (.double (FP.i2d wtf_v22)), .second, .unset, .unset, .unset, .unset, .unset, .unset, .unset, .unset] [(.int p2)])) rfl (hb hby at_27) _ ?_
    show Steps p.tables e below (s₁.setTop (mkF m 29 #[.val (.int p0), .val (.int p1), .val (.int p2), .val (.int wtf_v3), .val (.int wtf_v7), .val (.double (FP.i2d wtf_v13)), .second, .val (.double (FP.i2d wtf_v22)), .second, .unset, .unset, .unset, .unset, .unset, .unset, .unset, .unset] [(.int (65535 : Int32)), (.int p2)])) _
    refine own_s_iand X0.here hx (hb hby at_29) (pc' := 30) rfl (v := wtf_v29) wtf_hv29 ?_
    refine own_s_istore X0.here hx (hb hby at_30) (pc' := 32) rfl (L' := #[.val (.int p0), .val (.int p1), .val (.int p2), .val (.int wtf_v3), .val (.int wtf_v7), .val (.double (FP.i2d wtf_v13)), .second, .val (.double (FP.i2d wtf_v22)), .second, .val (.int wtf_v29), .unset, .unset, .unset, .unset, .unset, .unset, .unset]) rfl ?_
    refine own_s_iload X0.here hx (hb hby at_32) (pc' := 34) rfl rfl ?_
    refine own_s_i2d X0.here hx (hb hby at_34) (pc' := 35) rfl (v := (FP.i2d wtf_v29)) rfl ?_
    refine X0.ldc2DoubleC hx hown (mvT hZ (hw _ (List.mem_of_getElem? (i := 1) rfl))) (g := (mkF m 35 #[.val (.int p0), .val (.int p1), .val (.int p2), .val (.int wtf_v3), .val (.int wtf_v7), .val (.double (FP.i2d wtf_v13)), .second, .val (.double (FP.i2d wtf_v22)), .second, .val (.int wtf_v29), .unset, .unset, .unset, .unset, .unset, .unset, .unset] [(.double (FP.i2d wtf_v29))])) rfl (hb hby at_35) _ ?_
    show Steps p.tables e below (s₁.setTop (mkF m 38 #[.val (.int p0), .val (.int p1), .val (.int p2), .val (.int wtf_v3), .val (.int wtf_v7), .val (.double (FP.i2d wtf_v13)), .second, .val (.double (FP.i2d wtf_v22)), .second, .val (.int wtf_v29), .unset, .unset, .unset, .unset, .unset, .unset, .unset] [(.double (4616189618054758400 : UInt64)), (.double (FP.i2d wtf_v29))])) _
    refine own_s_ddiv X0.here hx (hb hby at_38) (pc' := 39) rfl wtf_hn38 (v := wtf_v38) wtf_hv38 ?_
    refine own_s_dstore X0.here hx (hb hby at_39) (pc' := 41) rfl (L' := #[.val (.int p0), .val (.int p1), .val (.int p2), .val (.int wtf_v3), .val (.int wtf_v7), .val (.double (FP.i2d wtf_v13)), .second, .val (.double (FP.i2d wtf_v22)), .second, .val (.int wtf_v29), .val (.double wtf_v38), .second, .unset, .unset, .unset, .unset, .unset]) rfl ?_
    refine own_s_dload X0.here hx (hb hby at_41) (pc' := 43) rfl rfl ?_
    refine own_s_dload X0.here hx (hb hby at_43) (pc' := 45) rfl rfl ?_
    refine own_s_dload X0.here hx (hb hby at_45) (pc' := 47) rfl rfl ?_
    refine stwtf1 _ ?_
    show Steps p.tables e below (Twtf1.setTop (mkF m 50 #[.val (.int p0), .val (.int p1), .val (.int p2), .val (.int wtf_v3), .val (.int wtf_v7), .val (.double (FP.i2d wtf_v13)), .second, .val (.double (FP.i2d wtf_v22)), .second, .val (.int wtf_v29), .val (.double wtf_v38), .second, .unset, .unset, .unset, .unset, .unset] [(.double wtf_c47_c_v15)])) _
    refine own_s_dstore Xwtf1.here hx (hb hby at_50) (pc' := 52) rfl (L' := #[.val (.int p0), .val (.int p1), .val (.int p2), .val (.int wtf_v3), .val (.int wtf_v7), .val (.double (FP.i2d wtf_v13)), .second, .val (.double (FP.i2d wtf_v22)), .second, .val (.int wtf_v29), .val (.double wtf_v38), .second, .val (.double wtf_c47_c_v15), .second, .unset, .unset, .unset]) rfl ?_
    refine own_s_iload Xwtf1.here hx (hb hby at_52) (pc' := 54) rfl rfl ?_
    refine own_s_i2d Xwtf1.here hx (hb hby at_54) (pc' := 55) rfl (v := (FP.i2d wtf_v7)) rfl ?_
    refine own_s_dload Xwtf1.here hx (hb hby at_55) (pc' := 57) rfl rfl ?_
    refine own_s_dmul Xwtf1.here hx (hb hby at_57) (pc' := 58) rfl wtf_hn57 (v := wtf_v57) wtf_hv57 ?_
    refine own_s_dload Xwtf1.here hx (hb hby at_58) (pc' := 60) rfl rfl ?_
    refine own_s_dload Xwtf1.here hx (hb hby at_60) (pc' := 62) rfl rfl ?_
    refine own_s_dmul Xwtf1.here hx (hb hby at_62) (pc' := 63) rfl wtf_hn62 (v := wtf_v62) wtf_hv62 ?_
    refine own_s_dload Xwtf1.here hx (hb hby at_63) (pc' := 65) rfl rfl ?_
    refine own_s_dadd Xwtf1.here hx (hb hby at_65) (pc' := 66) rfl wtf_hn65 (v := wtf_v65) wtf_hv65 ?_
    refine own_s_ddiv Xwtf1.here hx (hb hby at_66) (pc' := 67) rfl wtf_hn66 (v := wtf_v66) wtf_hv66 ?_
    refine own_s_dstore Xwtf1.here hx (hb hby at_67) (pc' := 69) rfl (L' := #[.val (.int p0), .val (.int p1), .val (.int p2), .val (.int wtf_v3), .val (.int wtf_v7), .val (.double (FP.i2d wtf_v13)), .second, .val (.double (FP.i2d wtf_v22)), .second, .val (.int wtf_v29), .val (.double wtf_v38), .second, .val (.double wtf_c47_c_v15), .second, .val (.double wtf_v66), .second, .unset]) rfl ?_
    refine own_s_dload Xwtf1.here hx (hb hby at_69) (pc' := 71) rfl rfl ?_
    refine own_s_dload Xwtf1.here hx (hb hby at_71) (pc' := 73) rfl rfl ?_
    refine own_s_dcmp Xwtf1.here hx (hb hby at_73) (pc' := 74) rfl (v := (0 : Int32)) wtf_hc73 ?_
    refine own_s_ifNo Xwtf1.here hx (hb hby at_74) (pc' := 77) rfl (by decide) ?_
    refine own_s_iconst Xwtf1.here hx (hb hby at_77) (pc' := 78) rfl (v := (1 : Int32)) (by decide) ?_
    refine own_s_goto Xwtf1.here hx (hb hby at_78) (by decide) (pc' := 82) (by decide) ?_
    refine own_s_istore Xwtf1.here hx (hb hby at_82) (pc' := 84) rfl (L' := #[.val (.int p0), .val (.int p1), .val (.int p2), .val (.int wtf_v3), .val (.int wtf_v7), .val (.double (FP.i2d wtf_v13)), .second, .val (.double (FP.i2d wtf_v22)), .second, .val (.int wtf_v29), .val (.double wtf_v38), .second, .val (.double wtf_c47_c_v15), .second, .val (.double wtf_v66), .second, .val (.int (1 : Int32))]) rfl ?_
    refine own_s_iloadN Xwtf1.here hx (hb hby at_84) (pc' := 85) rfl rfl ?_
    refine own_s_ifYes Xwtf1.here hx (hb hby at_85) (by decide) (pc' := 107) (by decide) wtf_hb85 ?_
    refine own_s_iload Xwtf1.here hx (hb hby at_107) (pc' := 109) rfl rfl ?_
    refine own_s_ifNo Xwtf1.here hx (hb hby at_109) (pc' := 112) rfl wtf_hb109 ?_
    refine own_s_iload Xwtf1.here hx (hb hby at_112) (pc' := 114) rfl rfl ?_
    refine own_s_ifNo Xwtf1.here hx (hb hby at_114) (pc' := 117) rfl (by decide) ?_
    refine own_s_dload Xwtf1.here hx (hb hby at_117) (pc' := 119) rfl rfl ?_
    refine own_s_iload Xwtf1.here hx (hb hby at_119) (pc' := 121) rfl rfl ?_
    refine own_s_i2d Xwtf1.here hx (hb hby at_121) (pc' := 122) rfl (v := (FP.i2d wtf_v7)) rfl ?_
    refine own_s_dcmp Xwtf1.here hx (hb hby at_122) (pc' := 123) rfl (v := (0 : Int32)) wtf_hc122 ?_
    refine own_s_ifNo Xwtf1.here hx (hb hby at_123) (pc' := 126) rfl (by decide) ?_
    refine own_s_iconst Xwtf1.here hx (hb hby at_126) (pc' := 127) rfl (v := (1 : Int32)) (by decide) ?_
    refine own_s_goto Xwtf1.here hx (hb hby at_127) (by decide) (pc' := 131) (by decide) ?_
    refine own_s_istore Xwtf1.here hx (hb hby at_131) (pc' := 133) rfl (L' := #[.val (.int p0), .val (.int p1), .val (.int p2), .val (.int wtf_v3), .val (.int wtf_v7), .val (.double (FP.i2d wtf_v13)), .second, .val (.double (FP.i2d wtf_v22)), .second, .val (.int wtf_v29), .val (.double wtf_v38), .second, .val (.double wtf_c47_c_v15), .second, .val (.double wtf_v66), .second, .val (.int (1 : Int32))]) rfl ?_
    refine own_s_iload Xwtf1.here hx (hb hby at_133) (pc' := 135) rfl rfl ?_
    exact retN Xwtf1 hx (t := .boolean) Bd.returns (by simp) (hb hby at_135) hr
  · show own_Q0 n0 _ Twtf1.heap _
    rw [ewtf1]
    exact ⟨rfl, Nwtf1⟩
theorem own_ef_wft (m : MethodId) (p0 : Int32) (p1 : Int32) (p2 : Int32) : entryFrame m #[(.int p0), (.int p1), (.int p2)] maxLocals = mkF m 0 #[.val (.int p0), .val (.int p1), .val (.int p2), .unset, .unset, .unset, .unset, .unset, .unset, .unset, .unset, .unset, .unset, .unset, .unset, .unset, .unset] [] := by first | (simp [entryFrame, mkF, argsToLocals, Value.category, maxLocals]; done) | rfl
set_option maxRecDepth 65536 in
set_option maxHeartbeats 40000000 in
theorem own_rm_wft (l : Launch) (Z : State) (a0 : Array Value) (hw : ∀ d ∈ tables_1, d.before a0 Z = true) (ws : List Jvm.Cond) (p0 : Int32) (p1 : Int32) (p2 : Int32) {wft_v3 : Int32} {wft_v7 : Int32} {wft_v13 : Int32} {wft_v21 : Int32} {wft_v22 : Int32} {wft_v29 : Int32} {wft_v38 : UInt64} {wft_c47_c_v4 : UInt64} {wft_c47_c_v5 : UInt64} {wft_c47_c_v8 : UInt64} {wft_c47_c_v12 : UInt64} {wft_c47_c_v13 : UInt64} {wft_c47_c_v14 : UInt64} {wft_c47_c_v15 : UInt64} {wft_v57 : UInt64} {wft_v62 : UInt64} {wft_v65 : UInt64} {wft_v66 : UInt64} (h0 : Heap) (n0 : Nat) (Z0 : n0 ≤ h0.size)  (wft_hv3 : p0 &&& (15 : Int32) = wft_v3) (wft_hv7 : (1 : Int32) <<< (wft_v3 &&& 31) = wft_v7) (wft_hv13 : wft_v7 - (1 : Int32) = wft_v13) (wft_hv21 : p1 &&& (65535 : Int32) = wft_v21) (wft_hv22 : (1 : Int32) + wft_v21 = wft_v22) (wft_hv29 : p2 &&& (65535 : Int32) = wft_v29) (wft_hn38 : Jvm.Free.Fl.NoNaN64 (FP.ddiv (FP.i2d wft_v29) (4616189618054758400 : UInt64))) (wft_hv38 : FP.ddiv (FP.i2d wft_v29) (4616189618054758400 : UInt64) = wft_v38) (wft_c47_c_hn4 : Jvm.Free.Fl.NoNaN64 (FP.dadd (FP.i2d wft_v13) 4607182418800017408)) (wft_c47_c_hv4 : FP.dadd (FP.i2d wft_v13) 4607182418800017408 = wft_c47_c_v4) (wft_c47_c_hn5 : Jvm.Free.Fl.NoNaN64 (FP.ddiv (FP.i2d wft_v13) wft_c47_c_v4)) (wft_c47_c_hv5 : FP.ddiv (FP.i2d wft_v13) wft_c47_c_v4 = wft_c47_c_v5) (wft_c47_c_hn8 : Jvm.Free.Fl.NoNaN64 (FP.dmul wft_c47_c_v5 wft_v38)) (wft_c47_c_hv8 : FP.dmul wft_c47_c_v5 wft_v38 = wft_c47_c_v8) (wft_c47_c_hn12 : Jvm.Free.Fl.NoNaN64 (FP.dadd (FP.i2d wft_v13) 4607182418800017408)) (wft_c47_c_hv12 : FP.dadd (FP.i2d wft_v13) 4607182418800017408 = wft_c47_c_v12) (wft_c47_c_hn13 : Jvm.Free.Fl.NoNaN64 (FP.ddiv (FP.i2d wft_v22) wft_c47_c_v12)) (wft_c47_c_hv13 : FP.ddiv (FP.i2d wft_v22) wft_c47_c_v12 = wft_c47_c_v13) (wft_c47_c_hn14 : Jvm.Free.Fl.NoNaN64 (FP.dadd wft_c47_c_v8 wft_c47_c_v13)) (wft_c47_c_hv14 : FP.dadd wft_c47_c_v8 wft_c47_c_v13 = wft_c47_c_v14) (wft_c47_c_hn15 : Jvm.Free.Fl.NoNaN64 (FP.ddiv (FP.i2d wft_v22) wft_c47_c_v14)) (wft_c47_c_hv15 : FP.ddiv (FP.i2d wft_v22) wft_c47_c_v14 = wft_c47_c_v15) (wft_hn57 : Jvm.Free.Fl.NoNaN64 (FP.dmul (FP.i2d wft_v7) (FP.i2d wft_v22))) (wft_hv57 : FP.dmul (FP.i2d wft_v7) (FP.i2d wft_v22) = wft_v57) (wft_hn62 : Jvm.Free.Fl.NoNaN64 (FP.dmul (FP.i2d wft_v13) wft_v38)) (wft_hv62 : FP.dmul (FP.i2d wft_v13) wft_v38 = wft_v62) (wft_hn65 : Jvm.Free.Fl.NoNaN64 (FP.dadd wft_v62 (FP.i2d wft_v22))) (wft_hv65 : FP.dadd wft_v62 (FP.i2d wft_v22) = wft_v65) (wft_hn66 : Jvm.Free.Fl.NoNaN64 (FP.ddiv wft_v57 wft_v65)) (wft_hv66 : FP.ddiv wft_v57 wft_v65 = wft_v66) (wft_hc73 : Op.cmpValue (FP.dcmp wft_c47_c_v15 wft_v66) .l = (0 : Int32)) (wft_hb85 : ifCond.holds .ne wft_v3 = false) (wft_hc96 : Op.cmpValue (FP.dcmp wft_c47_c_v15 4607182418800017408) .l = (0 : Int32)) (wft_hb109 : ifCond.holds .ne wft_v29 = true) :
    MetFree l x (head1 (Jvm.Cond.code x code maxLocals ret :: ws) room_1) (fun a U => a = #[(.int p0), (.int p1), (.int p2)] ∧ Z.Warmed39 U.vm ∧ U.heap = h0) (fun _ _ _ _ _ => True) (fun _ U o U' => ∃ v L, o = .returned v ∧ own_Q0 n0 v U'.heap L ∧ FrameEnd U o U' L room_1.cells room_1.slots) := by
  refine MetFree.of_bodySF (plainFor_of_name own_pn_com_example_tally_odds_tallyodds_Bm25SaturationPinLaw) hisR ?_
  intro p e s m args below meth c s₁ Bd hml0 hP hK
  obtain ⟨rfl, hZ, hh⟩ := hP
  have hx := Bd.exec
  have hby := Bd.bytes
  have hml : c.maxLocals = 17 := hml0
  have hown : s.vm.findClass "com/example/tally_odds/tallyodds/Bm25SaturationPinLaw" = some m.cls := findClass_of_methodNamed Bd.named
  have hnm := (name_of_methodNamed Bd.named Bd.method).1
  have X0 : Stand p l e room_1 s m #[(.int p0), (.int p1), (.int p2)] below meth c s₁ [] 0 0 := Stand.of_body Bd
  have e0 : s₁.heap = h0 := by rw [← hh, Bd.state]; rfl
  have N0 := Fr.nil n0
  have pre0 : ∀ t, Steps p.tables e below (s₁.setTop (mkF m 0 #[.val (.int p0), .val (.int p1), .val (.int p2), .unset, .unset, .unset, .unset, .unset, .unset, .unset, .unset, .unset, .unset, .unset, .unset, .unset, .unset] [])) t → Steps p.tables e below (s₁.setTop (entryFrame m #[(.int p0), (.int p1), (.int p2)] maxLocals)) t := fun t k => castTop (own_ef_wft m p0 p1 p2) k
  obtain ⟨_, _, ⟨Twft1, Lwft1, kwft1, nwft1⟩, -, Xwft1, ⟨Lcwft1, hQwft1, lwft1, ywft1, zwft1⟩, stwft1⟩ := Jvm.LawKit.callS X0 hx (y := (⟨"com/example/tally_odds/tallyodds/Bm25", "saturation", "(DDD)D"⟩ : MethodName)) hown (mvT hZ (hw _ (List.mem_of_getElem? (i := 2) rfl))) (mvT hZ (hw _ (List.mem_of_getElem? (i := 3) rfl))) (mvT hZ (hw _ (List.mem_of_getElem? (i := 4) rfl))) (mvT hZ (hw _ (List.mem_of_getElem? (i := 5) rfl))) (by decide) (backOf (W := 0) (own_rm_c l Z a0 hw [] (FP.i2d wft_v22) (FP.i2d wft_v13) wft_v38 h0 n0 Z0 wft_c47_c_hn4 wft_c47_c_hv4 wft_c47_c_hn5 wft_c47_c_hv5 wft_c47_c_hn8 wft_c47_c_hv8 wft_c47_c_hn12 wft_c47_c_hv12 wft_c47_c_hn13 wft_c47_c_hv13 wft_c47_c_hn14 wft_c47_c_hv14 wft_c47_c_hn15 wft_c47_c_hv15) hZ (hw _ (List.mem_of_getElem? (i := 5) rfl)) (hw _ (List.mem_of_getElem? (i := 4) rfl)) (by decide) (by decide)) (g := (mkF m 47 #[.val (.int p0), .val (.int p1), .val (.int p2), .val (.int wft_v3), .val (.int wft_v7), .val (.double (FP.i2d wft_v13)), .second, .val (.double (FP.i2d wft_v22)), .second, .val (.int wft_v29), .val (.double wft_v38), .second, .unset, .unset, .unset, .unset, .unset] [(.double wft_v38), (.double (FP.i2d wft_v13)), (.double (FP.i2d wft_v22))])) rfl (by rw [hml]; rfl) (argsL := [(.double (FP.i2d wft_v22)), (.double (FP.i2d wft_v13)), (.double wft_v38)]) (rest := []) (lenOf own_pd_28DDD29D rfl) rfl (by show 2 * 0 + _ ≤ _; exact Nat.le_of_eq rfl) (hb hby at_47) (fun _ _ => ⟨rfl, e0, (by decide : 0 + 0 ≤ _), (by decide : 0 + 0 ≤ _)⟩)
  dsimp only [Pt.U, Pt.locs, Pt.cells, Pt.slots] at Xwft1 lwft1 ywft1 zwft1 stwft1 hQwft1
  subst lwft1 ywft1 zwft1
  obtain ⟨rfl, Nwft1q, ewft1⟩ := hQwft1
  have Nwft1 := Fr.app N0 Nwft1q
  obtain ⟨fs, hr, hrun, hended, hW, hsame⟩ := Xwft1.leave (v := some (.int (1 : Int32))) (fun h => by rw [Bd.returns] at h; cases h)
  refine ⟨_, _, pre0 _ ?_, hrun, hended, _, _, rfl, ?_, ⟨_, rfl⟩, hW, hsame.mono (by decide) (by decide)⟩
  · refine own_s_iloadN X0.here hx (hb hby at_0) (pc' := 1) rfl rfl ?_
    refine own_s_bipush X0.here hx (hb hby at_1) (pc' := 3) rfl (v := (15 : Int32)) (by decide) ?_
    refine own_s_iand X0.here hx (hb hby at_3) (pc' := 4) rfl (v := wft_v3) wft_hv3 ?_
    refine own_s_istoreN X0.here hx (hb hby at_4) (pc' := 5) rfl (L' := #[.val (.int p0), .val (.int p1), .val (.int p2), .val (.int wft_v3), .unset, .unset, .unset, .unset, .unset, .unset, .unset, .unset, .unset, .unset, .unset, .unset, .unset]) rfl ?_
    refine own_s_iconst X0.here hx (hb hby at_5) (pc' := 6) rfl (v := (1 : Int32)) (by decide) ?_
    refine own_s_iloadN X0.here hx (hb hby at_6) (pc' := 7) rfl rfl ?_
    refine own_s_ishl X0.here hx (hb hby at_7) (pc' := 8) rfl (v := wft_v7) wft_hv7 ?_
    refine own_s_istore X0.here hx (hb hby at_8) (pc' := 10) rfl (L' := #[.val (.int p0), .val (.int p1), .val (.int p2), .val (.int wft_v3), .val (.int wft_v7), .unset, .unset, .unset, .unset, .unset, .unset, .unset, .unset, .unset, .unset, .unset, .unset]) rfl ?_
    refine own_s_iload X0.here hx (hb hby at_10) (pc' := 12) rfl rfl ?_
    refine own_s_iconst X0.here hx (hb hby at_12) (pc' := 13) rfl (v := (1 : Int32)) (by decide) ?_
    refine own_s_isub X0.here hx (hb hby at_13) (pc' := 14) rfl (v := wft_v13) wft_hv13 ?_
    refine own_s_i2d X0.here hx (hb hby at_14) (pc' := 15) rfl (v := (FP.i2d wft_v13)) rfl ?_
    refine own_s_dstore X0.here hx (hb hby at_15) (pc' := 17) rfl (L' := #[.val (.int p0), .val (.int p1), .val (.int p2), .val (.int wft_v3), .val (.int wft_v7), .val (.double (FP.i2d wft_v13)), .second, .unset, .unset, .unset, .unset, .unset, .unset, .unset, .unset, .unset, .unset]) rfl ?_
    refine own_s_iconst X0.here hx (hb hby at_17) (pc' := 18) rfl (v := (1 : Int32)) (by decide) ?_
    refine own_s_iloadN X0.here hx (hb hby at_18) (pc' := 19) rfl rfl ?_
    refine X0.ldcInt hx hown (mvT hZ (hw _ (List.mem_of_getElem? (i := 0) rfl))) (g := (mkF m 19 #[.val (.int p0), .val (.int p1), .val (.int p2), .val (.int wft_v3), .val (.int wft_v7), .val (.double (FP.i2d wft_v13)), .second, .unset, .unset, .unset, .unset, .unset, .unset, .unset, .unset, .unset, .unset] [(.int p1), (.int (1 : Int32))])) rfl (hb hby at_19) _ ?_
    show Steps p.tables e below (s₁.setTop (mkF m 21 #[.val (.int p0), .val (.int p1), .val (.int p2), .val (.int wft_v3), .val (.int wft_v7), .val (.double (FP.i2d wft_v13)), .second, .unset, .unset, .unset, .unset, .unset, .unset, .unset, .unset, .unset, .unset] [(.int (65535 : Int32)), (.int p1), (.int (1 : Int32))])) _
    refine own_s_iand X0.here hx (hb hby at_21) (pc' := 22) rfl (v := wft_v21) wft_hv21 ?_
    refine own_s_iadd X0.here hx (hb hby at_22) (pc' := 23) rfl (v := wft_v22) wft_hv22 ?_
    refine own_s_i2d X0.here hx (hb hby at_23) (pc' := 24) rfl (v := (FP.i2d wft_v22)) rfl ?_
    refine own_s_dstore X0.here hx (hb hby at_24) (pc' := 26) rfl (L' := #[.val (.int p0), .val (.int p1), .val (.int p2), .val (.int wft_v3), .val (.int wft_v7), .val (.double (FP.i2d wft_v13)), .second, .val (.double (FP.i2d wft_v22)), .second, .unset, .unset, .unset, .unset, .unset, .unset, .unset, .unset]) rfl ?_
    refine own_s_iloadN X0.here hx (hb hby at_26) (pc' := 27) rfl rfl ?_
    refine X0.ldcInt hx hown (mvT hZ (hw _ (List.mem_of_getElem? (i := 0) rfl))) (g := (mkF m 27 #[.val (.int p0), .val (.int p1), .val (.int p2), .val (.int wft_v3), .val (.int wft_v7), .val (.double (FP.i2d wft_v13)), .second, .val (.double (FP.i2d wft_v22)), .second, .unset, .unset, .unset, .unset, .unset, .unset, .unset, .unset] [(.int p2)])) rfl (hb hby at_27) _ ?_
    show Steps p.tables e below (s₁.setTop (mkF m 29 #[.val (.int p0), .val (.int p1), .val (.int p2), .val (.int wft_v3), .val (.int wft_v7), .val (.double (FP.i2d wft_v13)), .second, .val (.double (FP.i2d wft_v22)), .second, .unset, .unset, .unset, .unset, .unset, .unset, .unset, .unset] [(.int (65535 : Int32)), (.int p2)])) _
    refine own_s_iand X0.here hx (hb hby at_29) (pc' := 30) rfl (v := wft_v29) wft_hv29 ?_
    refine own_s_istore X0.here hx (hb hby at_30) (pc' := 32) rfl (L' := #[.val (.int p0), .val (.int p1), .val (.int p2), .val (.int wft_v3), .val (.int wft_v7), .val (.double (FP.i2d wft_v13)), .second, .val (.double (FP.i2d wft_v22)), .second, .val (.int wft_v29), .unset, .unset, .unset, .unset, .unset, .unset, .unset]) rfl ?_
    refine own_s_iload X0.here hx (hb hby at_32) (pc' := 34) rfl rfl ?_
    refine own_s_i2d X0.here hx (hb hby at_34) (pc' := 35) rfl (v := (FP.i2d wft_v29)) rfl ?_
    refine X0.ldc2DoubleC hx hown (mvT hZ (hw _ (List.mem_of_getElem? (i := 1) rfl))) (g := (mkF m 35 #[.val (.int p0), .val (.int p1), .val (.int p2), .val (.int wft_v3), .val (.int wft_v7), .val (.double (FP.i2d wft_v13)), .second, .val (.double (FP.i2d wft_v22)), .second, .val (.int wft_v29), .unset, .unset, .unset, .unset, .unset, .unset, .unset] [(.double (FP.i2d wft_v29))])) rfl (hb hby at_35) _ ?_
    show Steps p.tables e below (s₁.setTop (mkF m 38 #[.val (.int p0), .val (.int p1), .val (.int p2), .val (.int wft_v3), .val (.int wft_v7), .val (.double (FP.i2d wft_v13)), .second, .val (.double (FP.i2d wft_v22)), .second, .val (.int wft_v29), .unset, .unset, .unset, .unset, .unset, .unset, .unset] [(.double (4616189618054758400 : UInt64)), (.double (FP.i2d wft_v29))])) _
    refine own_s_ddiv X0.here hx (hb hby at_38) (pc' := 39) rfl wft_hn38 (v := wft_v38) wft_hv38 ?_
    refine own_s_dstore X0.here hx (hb hby at_39) (pc' := 41) rfl (L' := #[.val (.int p0), .val (.int p1), .val (.int p2), .val (.int wft_v3), .val (.int wft_v7), .val (.double (FP.i2d wft_v13)), .second, .val (.double (FP.i2d wft_v22)), .second, .val (.int wft_v29), .val (.double wft_v38), .second, .unset, .unset, .unset, .unset, .unset]) rfl ?_
    refine own_s_dload X0.here hx (hb hby at_41) (pc' := 43) rfl rfl ?_
    refine own_s_dload X0.here hx (hb hby at_43) (pc' := 45) rfl rfl ?_
    refine own_s_dload X0.here hx (hb hby at_45) (pc' := 47) rfl rfl ?_
    refine stwft1 _ ?_
    show Steps p.tables e below (Twft1.setTop (mkF m 50 #[.val (.int p0), .val (.int p1), .val (.int p2), .val (.int wft_v3), .val (.int wft_v7), .val (.double (FP.i2d wft_v13)), .second, .val (.double (FP.i2d wft_v22)), .second, .val (.int wft_v29), .val (.double wft_v38), .second, .unset, .unset, .unset, .unset, .unset] [(.double wft_c47_c_v15)])) _
    refine own_s_dstore Xwft1.here hx (hb hby at_50) (pc' := 52) rfl (L' := #[.val (.int p0), .val (.int p1), .val (.int p2), .val (.int wft_v3), .val (.int wft_v7), .val (.double (FP.i2d wft_v13)), .second, .val (.double (FP.i2d wft_v22)), .second, .val (.int wft_v29), .val (.double wft_v38), .second, .val (.double wft_c47_c_v15), .second, .unset, .unset, .unset]) rfl ?_
    refine own_s_iload Xwft1.here hx (hb hby at_52) (pc' := 54) rfl rfl ?_
    refine own_s_i2d Xwft1.here hx (hb hby at_54) (pc' := 55) rfl (v := (FP.i2d wft_v7)) rfl ?_
    refine own_s_dload Xwft1.here hx (hb hby at_55) (pc' := 57) rfl rfl ?_
    refine own_s_dmul Xwft1.here hx (hb hby at_57) (pc' := 58) rfl wft_hn57 (v := wft_v57) wft_hv57 ?_
    refine own_s_dload Xwft1.here hx (hb hby at_58) (pc' := 60) rfl rfl ?_
    refine own_s_dload Xwft1.here hx (hb hby at_60) (pc' := 62) rfl rfl ?_
    refine own_s_dmul Xwft1.here hx (hb hby at_62) (pc' := 63) rfl wft_hn62 (v := wft_v62) wft_hv62 ?_
    refine own_s_dload Xwft1.here hx (hb hby at_63) (pc' := 65) rfl rfl ?_
    refine own_s_dadd Xwft1.here hx (hb hby at_65) (pc' := 66) rfl wft_hn65 (v := wft_v65) wft_hv65 ?_
    refine own_s_ddiv Xwft1.here hx (hb hby at_66) (pc' := 67) rfl wft_hn66 (v := wft_v66) wft_hv66 ?_
    refine own_s_dstore Xwft1.here hx (hb hby at_67) (pc' := 69) rfl (L' := #[.val (.int p0), .val (.int p1), .val (.int p2), .val (.int wft_v3), .val (.int wft_v7), .val (.double (FP.i2d wft_v13)), .second, .val (.double (FP.i2d wft_v22)), .second, .val (.int wft_v29), .val (.double wft_v38), .second, .val (.double wft_c47_c_v15), .second, .val (.double wft_v66), .second, .unset]) rfl ?_
    refine own_s_dload Xwft1.here hx (hb hby at_69) (pc' := 71) rfl rfl ?_
    refine own_s_dload Xwft1.here hx (hb hby at_71) (pc' := 73) rfl rfl ?_
    refine own_s_dcmp Xwft1.here hx (hb hby at_73) (pc' := 74) rfl (v := (0 : Int32)) wft_hc73 ?_
    refine own_s_ifNo Xwft1.here hx (hb hby at_74) (pc' := 77) rfl (by decide) ?_
    refine own_s_iconst Xwft1.here hx (hb hby at_77) (pc' := 78) rfl (v := (1 : Int32)) (by decide) ?_
    refine own_s_goto Xwft1.here hx (hb hby at_78) (by decide) (pc' := 82) (by decide) ?_
    refine own_s_istore Xwft1.here hx (hb hby at_82) (pc' := 84) rfl (L' := #[.val (.int p0), .val (.int p1), .val (.int p2), .val (.int wft_v3), .val (.int wft_v7), .val (.double (FP.i2d wft_v13)), .second, .val (.double (FP.i2d wft_v22)), .second, .val (.int wft_v29), .val (.double wft_v38), .second, .val (.double wft_c47_c_v15), .second, .val (.double wft_v66), .second, .val (.int (1 : Int32))]) rfl ?_
    refine own_s_iloadN Xwft1.here hx (hb hby at_84) (pc' := 85) rfl rfl ?_
    refine own_s_ifNo Xwft1.here hx (hb hby at_85) (pc' := 88) rfl wft_hb85 ?_
    refine own_s_iload Xwft1.here hx (hb hby at_88) (pc' := 90) rfl rfl ?_
    refine own_s_ifNo Xwft1.here hx (hb hby at_90) (pc' := 93) rfl (by decide) ?_
    refine own_s_dload Xwft1.here hx (hb hby at_93) (pc' := 95) rfl rfl ?_
    refine own_s_dconst1 Xwft1.here hx (hb hby at_95) (pc' := 96) rfl  ?_
    refine own_s_dcmp Xwft1.here hx (hb hby at_96) (pc' := 97) rfl (v := (0 : Int32)) wft_hc96 ?_
    refine own_s_ifNo Xwft1.here hx (hb hby at_97) (pc' := 100) rfl (by decide) ?_
    refine own_s_iconst Xwft1.here hx (hb hby at_100) (pc' := 101) rfl (v := (1 : Int32)) (by decide) ?_
    refine own_s_goto Xwft1.here hx (hb hby at_101) (by decide) (pc' := 105) (by decide) ?_
    refine own_s_istore Xwft1.here hx (hb hby at_105) (pc' := 107) rfl (L' := #[.val (.int p0), .val (.int p1), .val (.int p2), .val (.int wft_v3), .val (.int wft_v7), .val (.double (FP.i2d wft_v13)), .second, .val (.double (FP.i2d wft_v22)), .second, .val (.int wft_v29), .val (.double wft_v38), .second, .val (.double wft_c47_c_v15), .second, .val (.double wft_v66), .second, .val (.int (1 : Int32))]) rfl ?_
    refine own_s_iload Xwft1.here hx (hb hby at_107) (pc' := 109) rfl rfl ?_
    refine own_s_ifYes Xwft1.here hx (hb hby at_109) (by decide) (pc' := 133) (by decide) wft_hb109 ?_
    refine own_s_iload Xwft1.here hx (hb hby at_133) (pc' := 135) rfl rfl ?_
    exact retN Xwft1 hx (t := .boolean) Bd.returns (by simp) (hb hby at_135) hr
  · show own_Q0 n0 _ Twft1.heap _
    rw [ewft1]
    exact ⟨rfl, Nwft1⟩
theorem own_ef_wff (m : MethodId) (p0 : Int32) (p1 : Int32) (p2 : Int32) : entryFrame m #[(.int p0), (.int p1), (.int p2)] maxLocals = mkF m 0 #[.val (.int p0), .val (.int p1), .val (.int p2), .unset, .unset, .unset, .unset, .unset, .unset, .unset, .unset, .unset, .unset, .unset, .unset, .unset, .unset] [] := by first | (simp [entryFrame, mkF, argsToLocals, Value.category, maxLocals]; done) | rfl
set_option maxRecDepth 65536 in
set_option maxHeartbeats 40000000 in
theorem own_rm_wff (l : Launch) (Z : State) (a0 : Array Value) (hw : ∀ d ∈ tables_1, d.before a0 Z = true) (ws : List Jvm.Cond) (p0 : Int32) (p1 : Int32) (p2 : Int32) {wff_v3 : Int32} {wff_v7 : Int32} {wff_v13 : Int32} {wff_v21 : Int32} {wff_v22 : Int32} {wff_v29 : Int32} {wff_v38 : UInt64} {wff_c47_c_v4 : UInt64} {wff_c47_c_v5 : UInt64} {wff_c47_c_v8 : UInt64} {wff_c47_c_v12 : UInt64} {wff_c47_c_v13 : UInt64} {wff_c47_c_v14 : UInt64} {wff_c47_c_v15 : UInt64} {wff_v57 : UInt64} {wff_v62 : UInt64} {wff_v65 : UInt64} {wff_v66 : UInt64} (h0 : Heap) (n0 : Nat) (Z0 : n0 ≤ h0.size)  (wff_hv3 : p0 &&& (15 : Int32) = wff_v3) (wff_hv7 : (1 : Int32) <<< (wff_v3 &&& 31) = wff_v7) (wff_hv13 : wff_v7 - (1 : Int32) = wff_v13) (wff_hv21 : p1 &&& (65535 : Int32) = wff_v21) (wff_hv22 : (1 : Int32) + wff_v21 = wff_v22) (wff_hv29 : p2 &&& (65535 : Int32) = wff_v29) (wff_hn38 : Jvm.Free.Fl.NoNaN64 (FP.ddiv (FP.i2d wff_v29) (4616189618054758400 : UInt64))) (wff_hv38 : FP.ddiv (FP.i2d wff_v29) (4616189618054758400 : UInt64) = wff_v38) (wff_c47_c_hn4 : Jvm.Free.Fl.NoNaN64 (FP.dadd (FP.i2d wff_v13) 4607182418800017408)) (wff_c47_c_hv4 : FP.dadd (FP.i2d wff_v13) 4607182418800017408 = wff_c47_c_v4) (wff_c47_c_hn5 : Jvm.Free.Fl.NoNaN64 (FP.ddiv (FP.i2d wff_v13) wff_c47_c_v4)) (wff_c47_c_hv5 : FP.ddiv (FP.i2d wff_v13) wff_c47_c_v4 = wff_c47_c_v5) (wff_c47_c_hn8 : Jvm.Free.Fl.NoNaN64 (FP.dmul wff_c47_c_v5 wff_v38)) (wff_c47_c_hv8 : FP.dmul wff_c47_c_v5 wff_v38 = wff_c47_c_v8) (wff_c47_c_hn12 : Jvm.Free.Fl.NoNaN64 (FP.dadd (FP.i2d wff_v13) 4607182418800017408)) (wff_c47_c_hv12 : FP.dadd (FP.i2d wff_v13) 4607182418800017408 = wff_c47_c_v12) (wff_c47_c_hn13 : Jvm.Free.Fl.NoNaN64 (FP.ddiv (FP.i2d wff_v22) wff_c47_c_v12)) (wff_c47_c_hv13 : FP.ddiv (FP.i2d wff_v22) wff_c47_c_v12 = wff_c47_c_v13) (wff_c47_c_hn14 : Jvm.Free.Fl.NoNaN64 (FP.dadd wff_c47_c_v8 wff_c47_c_v13)) (wff_c47_c_hv14 : FP.dadd wff_c47_c_v8 wff_c47_c_v13 = wff_c47_c_v14) (wff_c47_c_hn15 : Jvm.Free.Fl.NoNaN64 (FP.ddiv (FP.i2d wff_v22) wff_c47_c_v14)) (wff_c47_c_hv15 : FP.ddiv (FP.i2d wff_v22) wff_c47_c_v14 = wff_c47_c_v15) (wff_hn57 : Jvm.Free.Fl.NoNaN64 (FP.dmul (FP.i2d wff_v7) (FP.i2d wff_v22))) (wff_hv57 : FP.dmul (FP.i2d wff_v7) (FP.i2d wff_v22) = wff_v57) (wff_hn62 : Jvm.Free.Fl.NoNaN64 (FP.dmul (FP.i2d wff_v13) wff_v38)) (wff_hv62 : FP.dmul (FP.i2d wff_v13) wff_v38 = wff_v62) (wff_hn65 : Jvm.Free.Fl.NoNaN64 (FP.dadd wff_v62 (FP.i2d wff_v22))) (wff_hv65 : FP.dadd wff_v62 (FP.i2d wff_v22) = wff_v65) (wff_hn66 : Jvm.Free.Fl.NoNaN64 (FP.ddiv wff_v57 wff_v65)) (wff_hv66 : FP.ddiv wff_v57 wff_v65 = wff_v66) (wff_hc73 : Op.cmpValue (FP.dcmp wff_c47_c_v15 wff_v66) .l = (0 : Int32)) (wff_hb85 : ifCond.holds .ne wff_v3 = false) (wff_hc96 : Op.cmpValue (FP.dcmp wff_c47_c_v15 4607182418800017408) .l = (0 : Int32)) (wff_hb109 : ifCond.holds .ne wff_v29 = false) (wff_hc122 : Op.cmpValue (FP.dcmp wff_c47_c_v15 (FP.i2d wff_v7)) .l = (0 : Int32)) :
    MetFree l x (head1 (Jvm.Cond.code x code maxLocals ret :: ws) room_1) (fun a U => a = #[(.int p0), (.int p1), (.int p2)] ∧ Z.Warmed39 U.vm ∧ U.heap = h0) (fun _ _ _ _ _ => True) (fun _ U o U' => ∃ v L, o = .returned v ∧ own_Q0 n0 v U'.heap L ∧ FrameEnd U o U' L room_1.cells room_1.slots) := by
  refine MetFree.of_bodySF (plainFor_of_name own_pn_com_example_tally_odds_tallyodds_Bm25SaturationPinLaw) hisR ?_
  intro p e s m args below meth c s₁ Bd hml0 hP hK
  obtain ⟨rfl, hZ, hh⟩ := hP
  have hx := Bd.exec
  have hby := Bd.bytes
  have hml : c.maxLocals = 17 := hml0
  have hown : s.vm.findClass "com/example/tally_odds/tallyodds/Bm25SaturationPinLaw" = some m.cls := findClass_of_methodNamed Bd.named
  have hnm := (name_of_methodNamed Bd.named Bd.method).1
  have X0 : Stand p l e room_1 s m #[(.int p0), (.int p1), (.int p2)] below meth c s₁ [] 0 0 := Stand.of_body Bd
  have e0 : s₁.heap = h0 := by rw [← hh, Bd.state]; rfl
  have N0 := Fr.nil n0
  have pre0 : ∀ t, Steps p.tables e below (s₁.setTop (mkF m 0 #[.val (.int p0), .val (.int p1), .val (.int p2), .unset, .unset, .unset, .unset, .unset, .unset, .unset, .unset, .unset, .unset, .unset, .unset, .unset, .unset] [])) t → Steps p.tables e below (s₁.setTop (entryFrame m #[(.int p0), (.int p1), (.int p2)] maxLocals)) t := fun t k => castTop (own_ef_wff m p0 p1 p2) k
  obtain ⟨_, _, ⟨Twff1, Lwff1, kwff1, nwff1⟩, -, Xwff1, ⟨Lcwff1, hQwff1, lwff1, ywff1, zwff1⟩, stwff1⟩ := Jvm.LawKit.callS X0 hx (y := (⟨"com/example/tally_odds/tallyodds/Bm25", "saturation", "(DDD)D"⟩ : MethodName)) hown (mvT hZ (hw _ (List.mem_of_getElem? (i := 2) rfl))) (mvT hZ (hw _ (List.mem_of_getElem? (i := 3) rfl))) (mvT hZ (hw _ (List.mem_of_getElem? (i := 4) rfl))) (mvT hZ (hw _ (List.mem_of_getElem? (i := 5) rfl))) (by decide) (backOf (W := 0) (own_rm_c l Z a0 hw [] (FP.i2d wff_v22) (FP.i2d wff_v13) wff_v38 h0 n0 Z0 wff_c47_c_hn4 wff_c47_c_hv4 wff_c47_c_hn5 wff_c47_c_hv5 wff_c47_c_hn8 wff_c47_c_hv8 wff_c47_c_hn12 wff_c47_c_hv12 wff_c47_c_hn13 wff_c47_c_hv13 wff_c47_c_hn14 wff_c47_c_hv14 wff_c47_c_hn15 wff_c47_c_hv15) hZ (hw _ (List.mem_of_getElem? (i := 5) rfl)) (hw _ (List.mem_of_getElem? (i := 4) rfl)) (by decide) (by decide)) (g := (mkF m 47 #[.val (.int p0), .val (.int p1), .val (.int p2), .val (.int wff_v3), .val (.int wff_v7), .val (.double (FP.i2d wff_v13)), .second, .val (.double (FP.i2d wff_v22)), .second, .val (.int wff_v29), .val (.double wff_v38), .second, .unset, .unset, .unset, .unset, .unset] [(.double wff_v38), (.double (FP.i2d wff_v13)), (.double (FP.i2d wff_v22))])) rfl (by rw [hml]; rfl) (argsL := [(.double (FP.i2d wff_v22)), (.double (FP.i2d wff_v13)), (.double wff_v38)]) (rest := []) (lenOf own_pd_28DDD29D rfl) rfl (by show 2 * 0 + _ ≤ _; exact Nat.le_of_eq rfl) (hb hby at_47) (fun _ _ => ⟨rfl, e0, (by decide : 0 + 0 ≤ _), (by decide : 0 + 0 ≤ _)⟩)
  dsimp only [Pt.U, Pt.locs, Pt.cells, Pt.slots] at Xwff1 lwff1 ywff1 zwff1 stwff1 hQwff1
  subst lwff1 ywff1 zwff1
  obtain ⟨rfl, Nwff1q, ewff1⟩ := hQwff1
  have Nwff1 := Fr.app N0 Nwff1q
  obtain ⟨fs, hr, hrun, hended, hW, hsame⟩ := Xwff1.leave (v := some (.int (1 : Int32))) (fun h => by rw [Bd.returns] at h; cases h)
  refine ⟨_, _, pre0 _ ?_, hrun, hended, _, _, rfl, ?_, ⟨_, rfl⟩, hW, hsame.mono (by decide) (by decide)⟩
  · refine own_s_iloadN X0.here hx (hb hby at_0) (pc' := 1) rfl rfl ?_
    refine own_s_bipush X0.here hx (hb hby at_1) (pc' := 3) rfl (v := (15 : Int32)) (by decide) ?_
    refine own_s_iand X0.here hx (hb hby at_3) (pc' := 4) rfl (v := wff_v3) wff_hv3 ?_
    refine own_s_istoreN X0.here hx (hb hby at_4) (pc' := 5) rfl (L' := #[.val (.int p0), .val (.int p1), .val (.int p2), .val (.int wff_v3), .unset, .unset, .unset, .unset, .unset, .unset, .unset, .unset, .unset, .unset, .unset, .unset, .unset]) rfl ?_
    refine own_s_iconst X0.here hx (hb hby at_5) (pc' := 6) rfl (v := (1 : Int32)) (by decide) ?_
    refine own_s_iloadN X0.here hx (hb hby at_6) (pc' := 7) rfl rfl ?_
    refine own_s_ishl X0.here hx (hb hby at_7) (pc' := 8) rfl (v := wff_v7) wff_hv7 ?_
    refine own_s_istore X0.here hx (hb hby at_8) (pc' := 10) rfl (L' := #[.val (.int p0), .val (.int p1), .val (.int p2), .val (.int wff_v3), .val (.int wff_v7), .unset, .unset, .unset, .unset, .unset, .unset, .unset, .unset, .unset, .unset, .unset, .unset]) rfl ?_
    refine own_s_iload X0.here hx (hb hby at_10) (pc' := 12) rfl rfl ?_
    refine own_s_iconst X0.here hx (hb hby at_12) (pc' := 13) rfl (v := (1 : Int32)) (by decide) ?_
    refine own_s_isub X0.here hx (hb hby at_13) (pc' := 14) rfl (v := wff_v13) wff_hv13 ?_
    refine own_s_i2d X0.here hx (hb hby at_14) (pc' := 15) rfl (v := (FP.i2d wff_v13)) rfl ?_
    refine own_s_dstore X0.here hx (hb hby at_15) (pc' := 17) rfl (L' := #[.val (.int p0), .val (.int p1), .val (.int p2), .val (.int wff_v3), .val (.int wff_v7), .val (.double (FP.i2d wff_v13)), .second, .unset, .unset, .unset, .unset, .unset, .unset, .unset, .unset, .unset, .unset]) rfl ?_
    refine own_s_iconst X0.here hx (hb hby at_17) (pc' := 18) rfl (v := (1 : Int32)) (by decide) ?_
    refine own_s_iloadN X0.here hx (hb hby at_18) (pc' := 19) rfl rfl ?_
    refine X0.ldcInt hx hown (mvT hZ (hw _ (List.mem_of_getElem? (i := 0) rfl))) (g := (mkF m 19 #[.val (.int p0), .val (.int p1), .val (.int p2), .val (.int wff_v3), .val (.int wff_v7), .val (.double (FP.i2d wff_v13)), .second, .unset, .unset, .unset, .unset, .unset, .unset, .unset, .unset, .unset, .unset] [(.int p1), (.int (1 : Int32))])) rfl (hb hby at_19) _ ?_
    show Steps p.tables e below (s₁.setTop (mkF m 21 #[.val (.int p0), .val (.int p1), .val (.int p2), .val (.int wff_v3), .val (.int wff_v7), .val (.double (FP.i2d wff_v13)), .second, .unset, .unset, .unset, .unset, .unset, .unset, .unset, .unset, .unset, .unset] [(.int (65535 : Int32)), (.int p1), (.int (1 : Int32))])) _
    refine own_s_iand X0.here hx (hb hby at_21) (pc' := 22) rfl (v := wff_v21) wff_hv21 ?_
    refine own_s_iadd X0.here hx (hb hby at_22) (pc' := 23) rfl (v := wff_v22) wff_hv22 ?_
    refine own_s_i2d X0.here hx (hb hby at_23) (pc' := 24) rfl (v := (FP.i2d wff_v22)) rfl ?_
    refine own_s_dstore X0.here hx (hb hby at_24) (pc' := 26) rfl (L' := #[.val (.int p0), .val (.int p1), .val (.int p2), .val (.int wff_v3), .val (.int wff_v7), .val (.double (FP.i2d wff_v13)), .second, .val (.double (FP.i2d wff_v22)), .second, .unset, .unset, .unset, .unset, .unset, .unset, .unset, .unset]) rfl ?_
    refine own_s_iloadN X0.here hx (hb hby at_26) (pc' := 27) rfl rfl ?_
    refine X0.ldcInt hx hown (mvT hZ (hw _ (List.mem_of_getElem? (i := 0) rfl))) (g := (mkF m 27 #[.val (.int p0), .val (.int p1), .val (.int p2), .val (.int wff_v3), .val (.int wff_v7), .val (.double (FP.i2d wff_v13)), .second, .val (.double (FP.i2d wff_v22)), .second, .unset, .unset, .unset, .unset, .unset, .unset, .unset, .unset] [(.int p2)])) rfl (hb hby at_27) _ ?_
    show Steps p.tables e below (s₁.setTop (mkF m 29 #[.val (.int p0), .val (.int p1), .val (.int p2), .val (.int wff_v3), .val (.int wff_v7), .val (.double (FP.i2d wff_v13)), .second, .val (.double (FP.i2d wff_v22)), .second, .unset, .unset, .unset, .unset, .unset, .unset, .unset, .unset] [(.int (65535 : Int32)), (.int p2)])) _
    refine own_s_iand X0.here hx (hb hby at_29) (pc' := 30) rfl (v := wff_v29) wff_hv29 ?_
    refine own_s_istore X0.here hx (hb hby at_30) (pc' := 32) rfl (L' := #[.val (.int p0), .val (.int p1), .val (.int p2), .val (.int wff_v3), .val (.int wff_v7), .val (.double (FP.i2d wff_v13)), .second, .val (.double (FP.i2d wff_v22)), .second, .val (.int wff_v29), .unset, .unset, .unset, .unset, .unset, .unset, .unset]) rfl ?_
    refine own_s_iload X0.here hx (hb hby at_32) (pc' := 34) rfl rfl ?_
    refine own_s_i2d X0.here hx (hb hby at_34) (pc' := 35) rfl (v := (FP.i2d wff_v29)) rfl ?_
    refine X0.ldc2DoubleC hx hown (mvT hZ (hw _ (List.mem_of_getElem? (i := 1) rfl))) (g := (mkF m 35 #[.val (.int p0), .val (.int p1), .val (.int p2), .val (.int wff_v3), .val (.int wff_v7), .val (.double (FP.i2d wff_v13)), .second, .val (.double (FP.i2d wff_v22)), .second, .val (.int wff_v29), .unset, .unset, .unset, .unset, .unset, .unset, .unset] [(.double (FP.i2d wff_v29))])) rfl (hb hby at_35) _ ?_
    show Steps p.tables e below (s₁.setTop (mkF m 38 #[.val (.int p0), .val (.int p1), .val (.int p2), .val (.int wff_v3), .val (.int wff_v7), .val (.double (FP.i2d wff_v13)), .second, .val (.double (FP.i2d wff_v22)), .second, .val (.int wff_v29), .unset, .unset, .unset, .unset, .unset, .unset, .unset] [(.double (4616189618054758400 : UInt64)), (.double (FP.i2d wff_v29))])) _
    refine own_s_ddiv X0.here hx (hb hby at_38) (pc' := 39) rfl wff_hn38 (v := wff_v38) wff_hv38 ?_
    refine own_s_dstore X0.here hx (hb hby at_39) (pc' := 41) rfl (L' := #[.val (.int p0), .val (.int p1), .val (.int p2), .val (.int wff_v3), .val (.int wff_v7), .val (.double (FP.i2d wff_v13)), .second, .val (.double (FP.i2d wff_v22)), .second, .val (.int wff_v29), .val (.double wff_v38), .second, .unset, .unset, .unset, .unset, .unset]) rfl ?_
    refine own_s_dload X0.here hx (hb hby at_41) (pc' := 43) rfl rfl ?_
    refine own_s_dload X0.here hx (hb hby at_43) (pc' := 45) rfl rfl ?_
    refine own_s_dload X0.here hx (hb hby at_45) (pc' := 47) rfl rfl ?_
    refine stwff1 _ ?_
    show Steps p.tables e below (Twff1.setTop (mkF m 50 #[.val (.int p0), .val (.int p1), .val (.int p2), .val (.int wff_v3), .val (.int wff_v7), .val (.double (FP.i2d wff_v13)), .second, .val (.double (FP.i2d wff_v22)), .second, .val (.int wff_v29), .val (.double wff_v38), .second, .unset, .unset, .unset, .unset, .unset] [(.double wff_c47_c_v15)])) _
    refine own_s_dstore Xwff1.here hx (hb hby at_50) (pc' := 52) rfl (L' := #[.val (.int p0), .val (.int p1), .val (.int p2), .val (.int wff_v3), .val (.int wff_v7), .val (.double (FP.i2d wff_v13)), .second, .val (.double (FP.i2d wff_v22)), .second, .val (.int wff_v29), .val (.double wff_v38), .second, .val (.double wff_c47_c_v15), .second, .unset, .unset, .unset]) rfl ?_
    refine own_s_iload Xwff1.here hx (hb hby at_52) (pc' := 54) rfl rfl ?_
    refine own_s_i2d Xwff1.here hx (hb hby at_54) (pc' := 55) rfl (v := (FP.i2d wff_v7)) rfl ?_
    refine own_s_dload Xwff1.here hx (hb hby at_55) (pc' := 57) rfl rfl ?_
    refine own_s_dmul Xwff1.here hx (hb hby at_57) (pc' := 58) rfl wff_hn57 (v := wff_v57) wff_hv57 ?_
    refine own_s_dload Xwff1.here hx (hb hby at_58) (pc' := 60) rfl rfl ?_
    refine own_s_dload Xwff1.here hx (hb hby at_60) (pc' := 62) rfl rfl ?_
    refine own_s_dmul Xwff1.here hx (hb hby at_62) (pc' := 63) rfl wff_hn62 (v := wff_v62) wff_hv62 ?_
    refine own_s_dload Xwff1.here hx (hb hby at_63) (pc' := 65) rfl rfl ?_
    refine own_s_dadd Xwff1.here hx (hb hby at_65) (pc' := 66) rfl wff_hn65 (v := wff_v65) wff_hv65 ?_
    refine own_s_ddiv Xwff1.here hx (hb hby at_66) (pc' := 67) rfl wff_hn66 (v := wff_v66) wff_hv66 ?_
    refine own_s_dstore Xwff1.here hx (hb hby at_67) (pc' := 69) rfl (L' := #[.val (.int p0), .val (.int p1), .val (.int p2), .val (.int wff_v3), .val (.int wff_v7), .val (.double (FP.i2d wff_v13)), .second, .val (.double (FP.i2d wff_v22)), .second, .val (.int wff_v29), .val (.double wff_v38), .second, .val (.double wff_c47_c_v15), .second, .val (.double wff_v66), .second, .unset]) rfl ?_
    refine own_s_dload Xwff1.here hx (hb hby at_69) (pc' := 71) rfl rfl ?_
    refine own_s_dload Xwff1.here hx (hb hby at_71) (pc' := 73) rfl rfl ?_
    refine own_s_dcmp Xwff1.here hx (hb hby at_73) (pc' := 74) rfl (v := (0 : Int32)) wff_hc73 ?_
    refine own_s_ifNo Xwff1.here hx (hb hby at_74) (pc' := 77) rfl (by decide) ?_
    refine own_s_iconst Xwff1.here hx (hb hby at_77) (pc' := 78) rfl (v := (1 : Int32)) (by decide) ?_
    refine own_s_goto Xwff1.here hx (hb hby at_78) (by decide) (pc' := 82) (by decide) ?_
    refine own_s_istore Xwff1.here hx (hb hby at_82) (pc' := 84) rfl (L' := #[.val (.int p0), .val (.int p1), .val (.int p2), .val (.int wff_v3), .val (.int wff_v7), .val (.double (FP.i2d wff_v13)), .second, .val (.double (FP.i2d wff_v22)), .second, .val (.int wff_v29), .val (.double wff_v38), .second, .val (.double wff_c47_c_v15), .second, .val (.double wff_v66), .second, .val (.int (1 : Int32))]) rfl ?_
    refine own_s_iloadN Xwff1.here hx (hb hby at_84) (pc' := 85) rfl rfl ?_
    refine own_s_ifNo Xwff1.here hx (hb hby at_85) (pc' := 88) rfl wff_hb85 ?_
    refine own_s_iload Xwff1.here hx (hb hby at_88) (pc' := 90) rfl rfl ?_
    refine own_s_ifNo Xwff1.here hx (hb hby at_90) (pc' := 93) rfl (by decide) ?_
    refine own_s_dload Xwff1.here hx (hb hby at_93) (pc' := 95) rfl rfl ?_
    refine own_s_dconst1 Xwff1.here hx (hb hby at_95) (pc' := 96) rfl  ?_
    refine own_s_dcmp Xwff1.here hx (hb hby at_96) (pc' := 97) rfl (v := (0 : Int32)) wff_hc96 ?_
    refine own_s_ifNo Xwff1.here hx (hb hby at_97) (pc' := 100) rfl (by decide) ?_
    refine own_s_iconst Xwff1.here hx (hb hby at_100) (pc' := 101) rfl (v := (1 : Int32)) (by decide) ?_
    refine own_s_goto Xwff1.here hx (hb hby at_101) (by decide) (pc' := 105) (by decide) ?_
    refine own_s_istore Xwff1.here hx (hb hby at_105) (pc' := 107) rfl (L' := #[.val (.int p0), .val (.int p1), .val (.int p2), .val (.int wff_v3), .val (.int wff_v7), .val (.double (FP.i2d wff_v13)), .second, .val (.double (FP.i2d wff_v22)), .second, .val (.int wff_v29), .val (.double wff_v38), .second, .val (.double wff_c47_c_v15), .second, .val (.double wff_v66), .second, .val (.int (1 : Int32))]) rfl ?_
    refine own_s_iload Xwff1.here hx (hb hby at_107) (pc' := 109) rfl rfl ?_
    refine own_s_ifNo Xwff1.here hx (hb hby at_109) (pc' := 112) rfl wff_hb109 ?_
    refine own_s_iload Xwff1.here hx (hb hby at_112) (pc' := 114) rfl rfl ?_
    refine own_s_ifNo Xwff1.here hx (hb hby at_114) (pc' := 117) rfl (by decide) ?_
    refine own_s_dload Xwff1.here hx (hb hby at_117) (pc' := 119) rfl rfl ?_
    refine own_s_iload Xwff1.here hx (hb hby at_119) (pc' := 121) rfl rfl ?_
    refine own_s_i2d Xwff1.here hx (hb hby at_121) (pc' := 122) rfl (v := (FP.i2d wff_v7)) rfl ?_
    refine own_s_dcmp Xwff1.here hx (hb hby at_122) (pc' := 123) rfl (v := (0 : Int32)) wff_hc122 ?_
    refine own_s_ifNo Xwff1.here hx (hb hby at_123) (pc' := 126) rfl (by decide) ?_
    refine own_s_iconst Xwff1.here hx (hb hby at_126) (pc' := 127) rfl (v := (1 : Int32)) (by decide) ?_
    refine own_s_goto Xwff1.here hx (hb hby at_127) (by decide) (pc' := 131) (by decide) ?_
    refine own_s_istore Xwff1.here hx (hb hby at_131) (pc' := 133) rfl (L' := #[.val (.int p0), .val (.int p1), .val (.int p2), .val (.int wff_v3), .val (.int wff_v7), .val (.double (FP.i2d wff_v13)), .second, .val (.double (FP.i2d wff_v22)), .second, .val (.int wff_v29), .val (.double wff_v38), .second, .val (.double wff_c47_c_v15), .second, .val (.double wff_v66), .second, .val (.int (1 : Int32))]) rfl ?_
    refine own_s_iload Xwff1.here hx (hb hby at_133) (pc' := 135) rfl rfl ?_
    exact retN Xwff1 hx (t := .boolean) Bd.returns (by simp) (hb hby at_135) hr
  · show own_Q0 n0 _ Twff1.heap _
    rw [ewff1]
    exact ⟨rfl, Nwff1⟩
set_option maxRecDepth 65536 in
set_option maxHeartbeats 40000000 in
theorem own_rm0 (l : Launch) (Z : State) (a0 : Array Value) (hw : ∀ d ∈ tables_1, d.before a0 Z = true) (ws : List Jvm.Cond) (p0 : Int32) (p1 : Int32) (p2 : Int32) (h0 : Heap) (n0 : Nat) (Z0 : n0 ≤ h0.size)  :
    MetFree l x (head1 (Jvm.Cond.code x code maxLocals ret :: ws) room_1) (fun a U => a = #[(.int p0), (.int p1), (.int p2)] ∧ Z.Warmed39 U.vm ∧ U.heap = h0) (fun _ _ _ _ _ => True) (fun _ U o U' => ∃ v L, o = .returned v ∧ own_Q0 n0 v U'.heap L ∧ FrameEnd U o U' L room_1.cells room_1.slots) := by
  have hm := c_mask p0 15 4 (by decide) (by decide)
  obtain ⟨E, hE⟩ : ∃ E : Fin 16, p0 &&& 15 = Int32.ofNat E.val := by
    refine ⟨⟨(p0.toInt % 16).toNat, by omega⟩, ?_⟩
    apply Int32.toInt_inj.mp
    rw [Int32.toInt_ofNat_of_lt (by simp only; omega)]
    simp only; omega
  obtain ⟨k, hk⟩ : ∃ v, (1 : Int32) <<< (Int32.ofNat E.val &&& 31) = v := ⟨_, rfl⟩
  obtain ⟨k1, hk1⟩ : ∃ v, k - 1 = v := ⟨_, rfl⟩
  obtain ⟨q, hq⟩ : ∃ v, p1 &&& 65535 = v := ⟨_, rfl⟩
  obtain ⟨x, hx⟩ : ∃ v, 1 + q = v := ⟨_, rfl⟩
  obtain ⟨c, hc⟩ : ∃ v, p2 &&& 65535 = v := ⟨_, rfl⟩
  have hK := own_shl E
  rw [hk] at hK
  obtain ⟨P, hP⟩ : ∃ P : Int, ((2 ^ E.val : Nat) : Int) = P := ⟨_, rfl⟩
  have hPn : P.natAbs = 2 ^ E.val := by omega
  rw [hP] at hK
  have b1 : k1.toInt = P - 1 := by have := c_isub k 1; have h1 : (1 : Int32).toInt = 1 := by decide
                                   have := rng32 k1; rw [hk1] at *; omega
  have bq : 0 ≤ q.toInt ∧ q.toInt ≤ 65535 := by have := c_mask p1 65535 16 (by decide) (by decide); rw [hq] at this; omega
  have bx : x.toInt = 1 + q.toInt := by have := c_iadd 1 q; have h1 : (1 : Int32).toInt = 1 := by decide
                                        have := rng32 x; rw [hx] at *; omega
  have bc : 0 ≤ c.toInt ∧ c.toInt ≤ 65535 := by have := c_mask p2 65535 16 (by decide) (by decide); rw [hc] at this; omega
  have hEl : (E.val : Int) < 16 := by have := E.isLt; omega
  have i4 : own_Is 4616189618054758400 1 2 := ⟨(Jvm.FP.Core.fin_bits _).mpr (by decide), by decide, by decide +kernel⟩
  have iK := own_i2d k1
  have iX := own_i2d x
  have iC := own_div (own_i2d c) i4 (by decide) (Int.mul_one _).symm (e := -2) (by decide) (by decide) (by decide) (by omega)
  obtain ⟨C, hC⟩ : ∃ v, FP.ddiv (FP.i2d c) 4616189618054758400 = v := ⟨_, rfl⟩
  rw [show Jvm.FP.Core.ddiv (Jvm.FP.Core.i2d c) 4616189618054758400 = C from hC] at iC
  -- the callee
  have j4 := own_add iK own_one (by decide) (by omega)
  obtain ⟨w4, h4⟩ : ∃ v, FP.dadd (FP.i2d k1) 4607182418800017408 = v := ⟨_, rfl⟩
  rw [show Jvm.FP.Core.dadd (Jvm.FP.Core.i2d k1) 4607182418800017408 = w4 from h4] at j4
  have j4' := own_pow1 E.val j4 (by omega)
  have j5 := own_div iK j4' (by decide) (Int.mul_one _).symm (e := -(E.val : Int)) (by omega) (by omega) (by omega) (by omega)
  obtain ⟨w5, h5⟩ : ∃ v, FP.ddiv (FP.i2d k1) w4 = v := ⟨_, rfl⟩
  rw [show Jvm.FP.Core.ddiv (Jvm.FP.Core.i2d k1) w4 = w5 from h5] at j5
  have hb := own_bmul (m := k1.toInt) (n := c.toInt) (A := 32767) (B := 65535) (by omega) (by omega)
  have hb0 : 0 ≤ k1.toInt * c.toInt := Int.mul_nonneg (by omega) (by omega)
  have j8 := own_mul j5 iC (e := -(E.val : Int) + -2) (by omega) (by omega) (by omega) (by omega)
  obtain ⟨w8, h8⟩ : ∃ v, FP.dmul w5 C = v := ⟨_, rfl⟩
  rw [show Jvm.FP.Core.dmul w5 C = w8 from h8] at j8
  have j13 := own_div iX j4' (by decide) (Int.mul_one _).symm (e := -(E.val : Int)) (by omega) (by omega) (by omega) (by omega)
  obtain ⟨w13, h13⟩ : ∃ v, FP.ddiv (FP.i2d x) w4 = v := ⟨_, rfl⟩
  rw [show Jvm.FP.Core.ddiv (Jvm.FP.Core.i2d x) w4 = w13 from h13] at j13
  have j13' := own_shift 2 j13 (e' := -(E.val : Int) + -2) (by omega) (by omega)
  obtain ⟨KC, hKC⟩ : ∃ z : Int, k1.toInt * c.toInt = z := ⟨_, rfl⟩
  rw [hKC] at j8 hb hb0
  have p4 : ((2 ^ 2 : Nat) : Int) = 4 := by decide
  rw [p4] at j13'
  have j14 := own_add j8 j13' (by omega) (by omega)
  obtain ⟨w14, h14⟩ : ∃ v, FP.dadd w8 w13 = v := ⟨_, rfl⟩
  rw [show Jvm.FP.Core.dadd w8 w13 = w14 from h14] at j14
  obtain ⟨w15, h15⟩ : ∃ v, FP.ddiv (FP.i2d x) w14 = v := ⟨_, rfl⟩
  have n15 : Jvm.Free.Fl.NoNaN64 (FP.ddiv (FP.i2d x) w14) := own_div_nn iX j14 (by omega)
  -- what is wanted
  have hkx := own_bmul (m := k.toInt) (n := x.toInt) (A := 32768) (B := 65536) (by omega) (by omega)
  have hkx0 : 0 < k.toInt * x.toInt := Int.mul_pos (by omega) (by omega)
  have l57 := own_mul (own_i2d k) iX (e := 0) (by decide) (by decide) (by decide) (by omega)
  obtain ⟨z57, g57⟩ : ∃ v, FP.dmul (FP.i2d k) (FP.i2d x) = v := ⟨_, rfl⟩
  rw [show Jvm.FP.Core.dmul (Jvm.FP.Core.i2d k) (Jvm.FP.Core.i2d x) = z57 from g57] at l57
  have l62 := own_mul iK iC (e := -2) (by decide) (by decide) (by decide) (by omega)
  obtain ⟨z62, g62⟩ : ∃ v, FP.dmul (FP.i2d k1) C = v := ⟨_, rfl⟩
  rw [show Jvm.FP.Core.dmul (Jvm.FP.Core.i2d k1) C = z62 from g62, hKC] at l62
  have iX' := own_shift 2 iX (e' := -2) (by decide) (by decide)
  rw [p4] at iX'
  have l65 := own_add l62 iX' (by decide) (by omega)
  obtain ⟨z65, g65⟩ : ∃ v, FP.dadd z62 (FP.i2d x) = v := ⟨_, rfl⟩
  rw [show Jvm.FP.Core.dadd z62 (Jvm.FP.Core.i2d x) = z65 from g65] at l65
  obtain ⟨z66, g66⟩ : ∃ v, FP.ddiv z57 z65 = v := ⟨_, rfl⟩
  have n66 : Jvm.Free.Fl.NoNaN64 (FP.ddiv z57 z65) := own_div_nn l57 l65 (by omega)
  have same : Jvm.FP.Core.val64 w15 = Jvm.FP.Core.val64 z66 := by
    rw [← h15, ← g66]
    refine own_div_same iX j14 l57 l65 (by omega) (by omega) hkx0 (by omega) ?_
    rw [show (0 - (-(E.val : Int) + -2) - (0 - -2)).toNat = E.val by omega, show (0 - -2 - (0 - (-(E.val : Int) + -2))).toNat = 0 by omega, ← hPn, Int.natAbs_mul, hK.1]
    simp only [Nat.pow_zero, Nat.mul_one, Nat.mul_assoc, Nat.mul_left_comm, Nat.mul_comm]
  have f73 : Op.cmpValue (FP.dcmp w15 z66) .l = 0 := own_cmp_same same (h15 ▸ n15) _
  have n38 : Jvm.Free.Fl.NoNaN64 (FP.ddiv (FP.i2d c) 4616189618054758400) := by rw [hC]; exact own_nn iC
  have n4 : Jvm.Free.Fl.NoNaN64 (FP.dadd (FP.i2d k1) 4607182418800017408) := by rw [h4]; exact own_nn j4
  have n5 : Jvm.Free.Fl.NoNaN64 (FP.ddiv (FP.i2d k1) w4) := by rw [h5]; exact own_nn j5
  have n8 : Jvm.Free.Fl.NoNaN64 (FP.dmul w5 C) := by rw [h8]; exact own_nn j8
  have n13 : Jvm.Free.Fl.NoNaN64 (FP.ddiv (FP.i2d x) w4) := by rw [h13]; exact own_nn j13
  have n14 : Jvm.Free.Fl.NoNaN64 (FP.dadd w8 w13) := by rw [h14]; exact own_nn j14
  have n57 : Jvm.Free.Fl.NoNaN64 (FP.dmul (FP.i2d k) (FP.i2d x)) := by rw [g57]; exact own_nn l57
  have n62 : Jvm.Free.Fl.NoNaN64 (FP.dmul (FP.i2d k1) C) := by rw [g62]; exact own_nn l62
  have n65 : Jvm.Free.Fl.NoNaN64 (FP.dadd z62 (FP.i2d x)) := by rw [g65]; exact own_nn l65
  -- at e = 0 it is 1, at cn = 0 it is k + 1
  have one : KC = 0 → own_Is w15 1 E.val := by
    intro h0
    rw [← h15]
    refine own_div iX' j14 (by omega) (N := 1) (by omega) (by omega) (by omega) (by omega) (by decide)
  have f96 : Int32.ofNat E.val = 0 → Op.cmpValue (FP.dcmp w15 4607182418800017408) .l = 0 := by
    intro h0
    have e0 := own_e0 E h0
    have hP1 : P = 1 := by rw [e0] at hPn; omega
    have := one (by rw [← hKC, b1, hP1]; simp)
    rw [e0] at this
    exact own_eq0 this own_one rfl _
  have f122 : c = 0 → Op.cmpValue (FP.dcmp w15 (FP.i2d k)) .l = 0 := by
    intro h0
    have := one (by rw [← hKC, h0]; simp)
    exact own_eq0 this (own_pow1 E.val (own_i2d k) (by omega)) rfl _
  by_cases q1 : Int32.ofNat E.val = 0
  · have f85 : ifCond.holds .ne (Int32.ofNat E.val) = false := XT.i0_ne_f q1
    by_cases q2 : c = 0
    · have f109 : ifCond.holds .ne c = false := XT.i0_ne_f q2
      exact own_rm_wff l Z a0 hw ws p0 p1 p2 h0 n0 Z0 (wff_hv3 := hE) (wff_hv7 := hk) (wff_hv13 := hk1) (wff_hv21 := hq) (wff_hv22 := hx) (wff_hv29 := hc) (wff_hn38 := n38) (wff_hv38 := hC) (wff_c47_c_hn4 := n4) (wff_c47_c_hv4 := h4) (wff_c47_c_hn5 := n5) (wff_c47_c_hv5 := h5) (wff_c47_c_hn8 := n8) (wff_c47_c_hv8 := h8) (wff_c47_c_hn12 := n4) (wff_c47_c_hv12 := h4) (wff_c47_c_hn13 := n13) (wff_c47_c_hv13 := h13) (wff_c47_c_hn14 := n14) (wff_c47_c_hv14 := h14) (wff_c47_c_hn15 := n15) (wff_c47_c_hv15 := h15) (wff_hn57 := n57) (wff_hv57 := g57) (wff_hn62 := n62) (wff_hv62 := g62) (wff_hn65 := n65) (wff_hv65 := g65) (wff_hn66 := n66) (wff_hv66 := g66) (wff_hc73 := f73) (wff_hb85 := f85) (wff_hc96 := (f96 q1)) (wff_hb109 := f109) (wff_hc122 := (f122 q2))
    · have f109 : ifCond.holds .ne c = true := XT.i0_ne_t q2
      exact own_rm_wft l Z a0 hw ws p0 p1 p2 h0 n0 Z0 (wft_hv3 := hE) (wft_hv7 := hk) (wft_hv13 := hk1) (wft_hv21 := hq) (wft_hv22 := hx) (wft_hv29 := hc) (wft_hn38 := n38) (wft_hv38 := hC) (wft_c47_c_hn4 := n4) (wft_c47_c_hv4 := h4) (wft_c47_c_hn5 := n5) (wft_c47_c_hv5 := h5) (wft_c47_c_hn8 := n8) (wft_c47_c_hv8 := h8) (wft_c47_c_hn12 := n4) (wft_c47_c_hv12 := h4) (wft_c47_c_hn13 := n13) (wft_c47_c_hv13 := h13) (wft_c47_c_hn14 := n14) (wft_c47_c_hv14 := h14) (wft_c47_c_hn15 := n15) (wft_c47_c_hv15 := h15) (wft_hn57 := n57) (wft_hv57 := g57) (wft_hn62 := n62) (wft_hv62 := g62) (wft_hn65 := n65) (wft_hv65 := g65) (wft_hn66 := n66) (wft_hv66 := g66) (wft_hc73 := f73) (wft_hb85 := f85) (wft_hc96 := (f96 q1)) (wft_hb109 := f109)
  · have f85 : ifCond.holds .ne (Int32.ofNat E.val) = true := XT.i0_ne_t q1
    by_cases q2 : c = 0
    · have f109 : ifCond.holds .ne c = false := XT.i0_ne_f q2
      exact own_rm_wtf l Z a0 hw ws p0 p1 p2 h0 n0 Z0 (wtf_hv3 := hE) (wtf_hv7 := hk) (wtf_hv13 := hk1) (wtf_hv21 := hq) (wtf_hv22 := hx) (wtf_hv29 := hc) (wtf_hn38 := n38) (wtf_hv38 := hC) (wtf_c47_c_hn4 := n4) (wtf_c47_c_hv4 := h4) (wtf_c47_c_hn5 := n5) (wtf_c47_c_hv5 := h5) (wtf_c47_c_hn8 := n8) (wtf_c47_c_hv8 := h8) (wtf_c47_c_hn12 := n4) (wtf_c47_c_hv12 := h4) (wtf_c47_c_hn13 := n13) (wtf_c47_c_hv13 := h13) (wtf_c47_c_hn14 := n14) (wtf_c47_c_hv14 := h14) (wtf_c47_c_hn15 := n15) (wtf_c47_c_hv15 := h15) (wtf_hn57 := n57) (wtf_hv57 := g57) (wtf_hn62 := n62) (wtf_hv62 := g62) (wtf_hn65 := n65) (wtf_hv65 := g65) (wtf_hn66 := n66) (wtf_hv66 := g66) (wtf_hc73 := f73) (wtf_hb85 := f85) (wtf_hb109 := f109) (wtf_hc122 := (f122 q2))
    · have f109 : ifCond.holds .ne c = true := XT.i0_ne_t q2
      exact own_rm_wtt l Z a0 hw ws p0 p1 p2 h0 n0 Z0 (wtt_hv3 := hE) (wtt_hv7 := hk) (wtt_hv13 := hk1) (wtt_hv21 := hq) (wtt_hv22 := hx) (wtt_hv29 := hc) (wtt_hn38 := n38) (wtt_hv38 := hC) (wtt_c47_c_hn4 := n4) (wtt_c47_c_hv4 := h4) (wtt_c47_c_hn5 := n5) (wtt_c47_c_hv5 := h5) (wtt_c47_c_hn8 := n8) (wtt_c47_c_hv8 := h8) (wtt_c47_c_hn12 := n4) (wtt_c47_c_hv12 := h4) (wtt_c47_c_hn13 := n13) (wtt_c47_c_hv13 := h13) (wtt_c47_c_hn14 := n14) (wtt_c47_c_hv14 := h14) (wtt_c47_c_hn15 := n15) (wtt_c47_c_hv15 := h15) (wtt_hn57 := n57) (wtt_hv57 := g57) (wtt_hn62 := n62) (wtt_hv62 := g62) (wtt_hn65 := n65) (wtt_hv65 := g65) (wtt_hn66 := n66) (wtt_hv66 := g66) (wtt_hc73 := f73) (wtt_hb85 := f85) (wtt_hb109 := f109)
set_option maxRecDepth 65536 in
set_option maxHeartbeats 40000000 in
theorem comes_1 {Post : Tables → Env → Array Value → State → Outcome → State → Prop} (hpost : ∀ tb e args s v u, (limb_1_1.after args s (.returned v) u = true ∧ limb_1_2.after args s (.returned v) u = true ∧ True) → FrameEnd s (.returned v) u (Jvm.fieldLocs frame_1_writes args s ++ Jvm.arrayLocs frame_1_arrays args s ++ Jvm.staticLocs frame_1_statics s) 0 0 → Post tb e args s (.returned v) u) :
    ArmFor flags0 classFile x code maxLocals ret World_1 tables_1 room_1 Calls_1 rest_1 Pre_1 Post := by
  intro l hfl _ _ p e ha hc hk s m args below hf hA hF happ hP
  obtain ⟨hcalls, hrest, hpre⟩ := hP
  obtain ⟨-, -, -, hnamed, -, -, -, hat⟩ := (Spec.applies_iff hf).mp happ
  obtain ⟨hg, hn⟩ := and_e (Cond.before_iff.mp (show (Jvm.Cond.and given_1 narrow_1).before args s = true from hpre))
  obtain ⟨hcount, g0⟩ := and_e hg
  obtain ⟨a0, g1⟩ := and_e g0
  obtain ⟨a1, g2⟩ := and_e g1
  have a2 := g2
  obtain ⟨w0, w1, w2, rfl⟩ : ∃ w0 w1 w2 : Value, args = #[w0, w1, w2] := by
    have hs : args.size = 3 := by simpa [Cond.value, given_1] using hcount
    obtain ⟨L⟩ := args
    match L, hs with
    | [w0, w1, w2], _ => exact ⟨w0, w1, w2, rfl⟩
  have hw := fun d (hd : d ∈ tables_1) => atoms_spec (ws := Jvm.Cond.code x code maxLocals ret :: tables_1) hat d (List.mem_cons_of_mem _ hd)
  obtain ⟨i0, ei0⟩ := is_v a0
  obtain rfl : w0 = (.int i0) := Option.some.inj ei0
  obtain ⟨i1, ei1⟩ := is_v a1
  obtain rfl : w1 = (.int i1) := Option.some.inj ei1
  obtain ⟨i2, ei2⟩ := is_v a2
  obtain rfl : w2 = (.int i2) := Option.some.inj ei2
  obtain ⟨n, o, h1, h2, h3, _, L, rfl, ⟨rfl, N⟩, hq⟩ := own_rm0 l s _ hw tables_1 i0 i1 i2 s.heap s.heap.size (Nat.le_refl _)  p e ha hc hk s m _ below hf ((Spec.applies_iff_loose hf).mp happ).1 ⟨rfl, State.Warmed39.refl s, rfl⟩ trivial
  refine ⟨n, _, h1, h2, h3, hpost _ _ _ _ _ _ ⟨Cond.after_iff.mpr rfl, Cond.after_iff.mpr (eq_i res_at (Term.int_eval (1)) rfl), trivial⟩ ⟨hq.1, hq.2.1, (hq.2.2.sift fun y hy => Or.inr (N y hy)).mono (by decide) (by decide)⟩⟩
theorem main_1_1 : Claimed_1_1 := comes_1 fun _ _ _ _ _ _ h hF => ⟨h.1, hF⟩
theorem main_1_2 : Claimed_1_2 := comes_1 fun _ _ _ _ _ _ h hF => ⟨h.2.1, hF⟩
end Jvm.Pilot.@@N@@
namespace Jvm.Pilot.@@N@@
open Jvm Jvm.ClassFile Sem Op Lib Jvm.Free Jvm.Stand Jvm.Pilot.@@N@@.Jvm.D
/-! MADE BY PROGRAM (witnessworld.py) out of the Statement's table words and the real class files: 9 classes; the members and pool entries that the words name. The judged class is class 1, her method 1. -/
namespace start1
open Jvm.ClassFile
def u (s : String) : CpInfo := .utf8 (stringToUtf16 s)
/-- a pool by its gaps: so many unusable entries, then the entry; so many at the end -/
def gap : Nat → List CpInfo → List CpInfo
  | 0, r => r
  | n + 1, r => .unusable :: gap n r
def poolList (es : List (Nat × CpInfo)) (last : Nat) : List CpInfo := es.foldr (fun e r => gap e.1 (e.2 :: r)) (gap last [])
def pool (es : List (Nat × CpInfo)) (last : Nat) : Array CpInfo := ⟨poolList es last⟩
def fileOf (pool : Array CpInfo) (this : Nat) (attrs : Array Attribute := #[]) (ms : Array MethodInfo := #[]) (fl : Nat := 33) (sup : Nat := 0) (ifs : Array Nat := #[]) (fds : Array FieldInfo := #[]) : ClassFile where
  minorVersion := 0
  majorVersion := 65
  constantPool := pool
  accessFlags := fl
  thisClass := this
  superClass := sup
  interfaces := ifs
  fields := fds
  methods := ms
  attributes := attrs
def plain (name : String) (sup : Option ClassId) : Class where
  name := name
  kind := .ordinary
  loader := none
  accessFlags := 33
  super := sup
  interfaces := #[]
  cf := none
  fields := #[]
  methods := #[]
  instanceTypes := #[]
  staticTypes := #[]
  resolved := #[]
  callSites := []
  init := .initialized
  statics := none
  mirror := none

def pool0 : Array CpInfo := pool [(5, u "<init>"), (0, u "()V"), (1, .class_ 10), (1, u "java/lang/Object")] 113

def k0m0 : Method := { name := "<init>", desc := "()V", sig := { parameters := [], returnType := none }, accessFlags := 1, code := none }
/-- java/lang/Object -/
def k0 : Class := { plain "java/lang/Object" none with
  accessFlags := 33
  interfaces := #[]
  cf := some (fileOf pool0 8 #[] #[{ accessFlags := 1, nameIndex := 5, descriptorIndex := 6, attributes := #[] }] 33 0 #[] #[])
  fields := #[]
  methods := #[k0m0]
  instanceTypes := #[]
  staticTypes := #[]
  resolved := Array.replicate 124 none
  statics := none }

def pool1 : Array CpInfo := pool [(2, .class_ 4), (1, u "java/lang/Object"), (0, u "<init>"), (0, u "()V"), (0, .integer 65535), (0, .double 4616189618054758400), (1, .methodref 11 12), (0, .class_ 13), (0, .nameAndType 14 15), (0, u "com/example/tally_odds/tallyodds/Bm25"), (0, u "saturation"), (0, u "(DDD)D"), (0, .class_ 17), (0, u "com/example/tally_odds/tallyodds/Bm25SaturationPinLaw"), (2, u "law"), (0, u "(III)Z")] 3

def k1m0 : Method := { name := "<init>", desc := "()V", sig := { parameters := [], returnType := none }, accessFlags := 2, code := none }
def k1c1 : Code := { maxStack := 6, maxLocals := 17, code := code, exceptionTable := #[], attributes := #[] }
def k1m1 : Method := { name := "law", desc := "(III)Z", sig := { parameters := [.int, .int, .int], returnType := some .boolean }, accessFlags := 9, code := some k1c1 }
/-- com/example/tally_odds/tallyodds/Bm25SaturationPinLaw -/
def k1 : Class := { plain "com/example/tally_odds/tallyodds/Bm25SaturationPinLaw" (some 0) with
  accessFlags := 49
  interfaces := #[]
  cf := some (fileOf pool1 16 #[] #[{ accessFlags := 2, nameIndex := 5, descriptorIndex := 6, attributes := #[] }, { accessFlags := 9, nameIndex := 20, descriptorIndex := 21, attributes := #[] }] 49 2 #[] #[])
  fields := #[]
  methods := #[k1m0, k1m1]
  instanceTypes := #[]
  staticTypes := #[]
  resolved := Array.replicate 25 none
  statics := none }

def pool2 : Array CpInfo := pool [(1, .class_ 2), (0, u "com/example/tally_odds/tallyodds/Bm25"), (6, u "<init>"), (5, .class_ 17), (1, u "java/lang/Object"), (0, u "()V"), (17, u "k1"), (0, u "D"), (2, u "b"), (2, u "k3"), (37, u "saturation"), (0, u "(DDD)D"), (8, u "DEFAULT_K1"), (1, u "DEFAULT_B"), (0, u "DEFAULT_K3")] 49

def k2m0 : Method := { name := "<init>", desc := "()V", sig := { parameters := [], returnType := none }, accessFlags := 1, code := none }
def k2c1 : Code := { maxStack := 10, maxLocals := 6, code := prog_2_method_18_code, exceptionTable := #[], attributes := #[] }
def k2m1 : Method := { name := "saturation", desc := "(DDD)D", sig := { parameters := [.double, .double, .double], returnType := some .double }, accessFlags := 8, code := some k2c1 }
/-- com/example/tally_odds/tallyodds/Bm25 -/
def k2 : Class := { plain "com/example/tally_odds/tallyodds/Bm25" (some 0) with
  accessFlags := 33
  interfaces := #[]
  cf := some (fileOf pool2 1 #[] #[{ accessFlags := 1, nameIndex := 9, descriptorIndex := 18, attributes := #[] }, { accessFlags := 8, nameIndex := 81, descriptorIndex := 82, attributes := #[] }] 33 15 #[] #[{ accessFlags := 25, nameIndex := 91, descriptorIndex := 37, attributes := #[] }, { accessFlags := 25, nameIndex := 93, descriptorIndex := 37, attributes := #[] }, { accessFlags := 25, nameIndex := 94, descriptorIndex := 37, attributes := #[] }, { accessFlags := 18, nameIndex := 36, descriptorIndex := 37, attributes := #[] }, { accessFlags := 18, nameIndex := 40, descriptorIndex := 37, attributes := #[] }, { accessFlags := 18, nameIndex := 43, descriptorIndex := 37, attributes := #[] }])
  fields := #[{ name := "DEFAULT_K1", type := .double, accessFlags := 25, slot := 0, constantValue := 0 }, { name := "DEFAULT_B", type := .double, accessFlags := 25, slot := 1, constantValue := 0 }, { name := "DEFAULT_K3", type := .double, accessFlags := 25, slot := 2, constantValue := 0 }, { name := "k1", type := .double, accessFlags := 18, slot := 0, constantValue := 0 }, { name := "b", type := .double, accessFlags := 18, slot := 1, constantValue := 0 }, { name := "k3", type := .double, accessFlags := 18, slot := 2, constantValue := 0 }]
  methods := #[k2m0, k2m1]
  instanceTypes := #[.double, .double, .double]
  staticTypes := #[.double, .double, .double]
  resolved := Array.replicate 144 none
  statics := none }

def pool3 : Array CpInfo := pool [(1, u "java/lang/Cloneable"), (0, .class_ 1), (0, u "java/lang/Object"), (0, .class_ 3)] 3

/-- java/lang/Cloneable -/
def k3 : Class := { plain "java/lang/Cloneable" (some 0) with
  accessFlags := 1537
  interfaces := #[]
  cf := some (fileOf pool3 2 #[] #[] 1537 4 #[] #[])
  fields := #[]
  methods := #[]
  instanceTypes := #[]
  staticTypes := #[]
  resolved := Array.replicate 8 none
  statics := none }

def pool4 : Array CpInfo := pool [(1, u "java/io/Serializable"), (0, .class_ 1), (0, u "java/lang/Object"), (0, .class_ 3)] 3

/-- java/io/Serializable -/
def k4 : Class := { plain "java/io/Serializable" (some 0) with
  accessFlags := 1537
  interfaces := #[]
  cf := some (fileOf pool4 2 #[] #[] 1537 4 #[] #[])
  fields := #[]
  methods := #[]
  instanceTypes := #[]
  staticTypes := #[]
  resolved := Array.replicate 8 none
  statics := none }

/-- the primitive byte -/
def k5 : Class := { plain "byte" none with kind := .primitive 'B', accessFlags := 0x411 }
/-- [B -/
def k6 : Class := { plain "[B" (some 0) with kind := .array 5 .byte, interfaces := #[3, 4], accessFlags := 1041 }

/-- the primitive int -/
def k7 : Class := { plain "int" none with kind := .primitive 'I', accessFlags := 0x411 }
/-- [I -/
def k8 : Class := { plain "[I" (some 0) with kind := .array 7 .int, interfaces := #[3, 4], accessFlags := 1041 }

def heap : Heap := #[]
def classes : Array Class := #[k0, k1, k2, k3, k4, k5, k6, k7, k8]
def interned : List (Array UInt16 × Addr) := []
def slotsUsed : Nat := 0
def theMethod : MethodId := ⟨1, 1⟩
def args0 : Array Value := #[.int 3, .int 4, .int 5]
def aboutOver (below : List Frame) : State where
  vm := { classes := classes, interned := interned.toArray }
  heap := heap
  slotsUsed := slotsUsed
  threads := #[{ frames := .invoking theMethod args0 :: below }]
def below0 : List Frame := [.native { method := ⟨0, 0⟩, args := #[] }]
def about1 : State := aboutOver below0
def p0 : Program := .bare "" "" ""
def e0 : Env := launch0.env 0 0 0
theorem w_frames : about1.frames = Frame.invoking theMethod args0 :: below0 := rfl
set_option maxRecDepth 65536 in
theorem w_args : argsFit about1.vm theMethod args0 = true := by decide +kernel
set_option maxRecDepth 65536 in
theorem w_heap : heapFits about1 = true := by decide +kernel
set_option maxRecDepth 65536 in
theorem w_runnable : about1.curStatus? = some .runnable := by decide +kernel
set_option maxRecDepth 65536 in
theorem w_alone : about1.alone = true := by decide +kernel
set_option maxRecDepth 65536 in
theorem w_named : about1.methodNamed? x = some theMethod := by decide +kernel
set_option maxRecDepth 65536 in
theorem w_hears : about1.hears theMethod below0 = true := by decide +kernel
set_option maxRecDepth 65536 in
theorem w_ripe : about1.ripe theMethod args0 below0 = true := by decide +kernel
theorem w_running : about1.status = .running := rfl
set_option maxRecDepth 65536 in
theorem w_room : about1.hasRoom e0.platform room_1 = true :=
  launch0.hasRoom_least _ room_1 (by decide +kernel) (by decide +kernel) (by decide +kernel) (by decide +kernel) (by decide +kernel) (by decide +kernel)
theorem allAtoms_all (ts : List Jvm.Cond) (a : Array Jvm.Value) (st : Jvm.State) : (allAtoms ts).before a st = ts.all (fun c => c.before a st) := by
  induction ts with
  | nil => rfl
  | cons c t ih =>
    show (Jvm.Cond.and c (allAtoms t)).before a st = _
    rw [Jvm.Cond.before_and, ih, List.all_cons]
def words1 : List Jvm.Cond := Jvm.Cond.code x code maxLocals ret :: tables_1
/-- a 'code' word, met by the world's own term for the bytes: nothing is compared byte by byte -/
theorem code_word {y : MethodName} {bytes : ByteArray} {mx : Nat} {rt : Option FieldType} {a : Array Value} {s : State} {m : MethodId} {meth : Method} {c : Code} (h1 : s.methodNamed? y = some m) (h2 : s.vm.method? m = some meth) (h3 : meth.code = some c) (h4 : c.code = bytes)
    (h5 : (c.maxLocals == mx && c.exceptionTable.isEmpty && decide (c.maxStack ≤ mostOperands) && decide (meth.sig.returnType = rt) && !meth.locks && decide (parseMethodDescriptor y.desc = some meth.sig)) = true) : (Jvm.Cond.code y bytes mx rt).before a s = true := by
  simp only [Bool.and_eq_true, beq_iff_eq, Bool.not_eq_true', decide_eq_true_eq] at h5
  obtain ⟨⟨⟨⟨⟨g1, g2⟩, g3⟩, g4⟩, g5⟩, g6⟩ := h5
  simp [Cond.before, Cond.holds, Cond.value, h1, h2, h3, h4, g1, g2, g3, g4, g5, g6]
def isCode : Jvm.Cond → Bool
  | .code _ _ _ _ => true
  | _ => false
theorem all_split {L : List Jvm.Cond} {P : Jvm.Cond → Bool} (h1 : L.all (fun c => isCode c || P c) = true) (h2 : ∀ c ∈ L.filter isCode, P c = true) : L.all P = true := by
  refine List.all_eq_true.mpr fun c hc => ?_
  have h := List.all_eq_true.mp h1 c hc
  rcases Bool.eq_false_or_eq_true (isCode c) with hi | hi
  · exact h2 c (List.mem_filter.mpr ⟨hc, hi⟩)
  · simpa [hi] using h
set_option maxRecDepth 65536 in
theorem w_c0 : (Jvm.Cond.code x code maxLocals ret).before args0 about1 = true := code_word (m := ⟨1, 1⟩) (meth := k1m1) (c := k1c1) (by decide +kernel) rfl rfl rfl (by decide +kernel)
set_option maxRecDepth 65536 in
theorem w_c1 : (Jvm.Cond.code ({ cls := "com/example/tally_odds/tallyodds/Bm25", name := "saturation", desc := "(DDD)D" } : Jvm.MethodName) prog_2_method_18_code (6 : Nat) (Option.some Jvm.ClassFile.FieldType.double)).before args0 about1 = true := code_word (m := ⟨2, 1⟩) (meth := k2m1) (c := k2c1) (by decide +kernel) rfl rfl rfl (by decide +kernel)
def codes1 : List Jvm.Cond := [Jvm.Cond.code x code maxLocals ret, Jvm.Cond.code ({ cls := "com/example/tally_odds/tallyodds/Bm25", name := "saturation", desc := "(DDD)D" } : Jvm.MethodName) prog_2_method_18_code (6 : Nat) (Option.some Jvm.ClassFile.FieldType.double)]
set_option maxRecDepth 65536 in
theorem codes_eq : words1.filter isCode = codes1 := rfl
theorem w_codes : ∀ c ∈ words1.filter isCode, c.before args0 about1 = true := by
  rw [codes_eq]
  intro c hc
  simp only [codes1, List.mem_cons, List.not_mem_nil, or_false] at hc
  rcases hc with rfl | rfl
  · exact w_c0
  · exact w_c1
set_option maxRecDepth 65536 in
theorem w_t1 : words1.all (fun c => isCode c || c.before args0 about1) = true := by decide +kernel
theorem w_tables : (allAtoms (Jvm.Cond.code x code maxLocals ret :: tables_1)).before args0 about1 = true := by
  rw [allAtoms_all]
  show words1.all (fun c => c.before args0 about1) = true
  refine all_split ?_ w_codes
  rw [w_t1]
set_option maxRecDepth 65536 in
theorem w_case : (Jvm.Cond.and given_1 narrow_1).before args0 about1 = true := by decide +kernel
theorem w_applies : (headSpec (Jvm.Cond.code x code maxLocals ret :: tables_1) room_1).applies x e0.platform about1 = true :=
  (Spec.applies_iff w_frames).mpr ⟨w_running, w_runnable, w_alone, w_named, w_hears, w_ripe, w_room, w_tables⟩
theorem atStart : AtStart classFile x code maxLocals ret World_1 tables_1 room_1 Calls_1 rest_1 Pre_1 launch0 p0 e0 about1 theMethod args0 below0 :=
  ⟨lists_1, trivial, launch0.admits_env _ _ _, launch0.least_env, fairChoices_fair.cas, fairChoices_fair.clock, w_frames, w_args, w_heap, w_applies, trivial, trivial, w_case⟩
end start1
theorem witness_1 : WitnessClaimed_1 := ⟨start1.p0, start1.e0, start1.about1, start1.theMethod, start1.args0, start1.below0, start1.atStart⟩
end Jvm.Pilot.@@N@@
