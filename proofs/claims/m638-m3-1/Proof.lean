import JvmDerived
import JvmDerived.Pilot.@@N@@Statement
import JvmDerived.Pilot.@@N@@Code
set_option linter.unusedVariables false
set_option linter.unusedSimpArgs false
namespace Jvm.Pilot.@@N@@
section OwnFP
open Jvm.FP.Core
/-! Exact doubles: own_Is x n e says that the double x is finite and worth n * 2^e. -/
def own_Is (x : UInt64) (n : Int) (e : Int) : Prop := DFin x ∧ -1074 ≤ e ∧ zval b64 (val64 x) = n * ((2 ^ (e + 1074).toNat : Nat) : Int)
theorem own_qmax : b64.qmax = 971 := by decide
theorem own_pp : b64.p = 53 := rfl
theorem own_powc {a b u v : Nat} (h : a * 2 ^ u = b * 2 ^ v) {w : Int} (hw : w = (u : Int) - v) : a * 2 ^ w.toNat = b * 2 ^ (-w).toNat := by
  subst hw
  have hu : u = ((u : Int) - v).toNat + min u v := by omega
  have hv : v = (-((u : Int) - v)).toNat + min u v := by omega
  have h2 : a * 2 ^ (((u : Int) - v).toNat + min u v) = b * 2 ^ ((-((u : Int) - v)).toNat + min u v) := by rw [← hu, ← hv]; exact h
  rw [Nat.pow_add, Nat.pow_add, ← Nat.mul_assoc, ← Nat.mul_assoc] at h2
  exact Nat.eq_of_mul_eq_mul_right (Nat.two_pow_pos _) h2
theorem own_signed_abs (s : Bool) (c : Nat) : (signed s c).natAbs = c := by cases s <;> simp [signed]
theorem own_signed_mul (s t : Bool) (c d : Nat) : signed (s != t) (c * d) = signed s c * signed t d := by
  cases s <;> cases t <;> simp [signed, Int.natCast_mul, Int.neg_mul, Int.mul_neg]
theorem own_signed_scale (s : Bool) (c d : Nat) : signed s (c * d) = signed s c * (d : Int) := by cases s <;> simp [signed, Int.natCast_mul, Int.neg_mul]
theorem own_round {s : Bool} {c : Nat} {q : Int} {M : Nat} {e : Int} (h2 : -2148 ≤ q) (hM : M < 9007199254740992) (he1 : -1074 ≤ e) (he2 : e ≤ 971) (h : inUnits c q (-2148) = M * 2 ^ (e + 2148).toNat) :
    ∃ c' q', round b64 (.fin s c q) = .fin s c' q' ∧ inUnits c' q' b64.qmin = M * 2 ^ (e + 1074).toNat := by
  have hq : b64.qmin = -1074 := qmin_b64
  obtain ⟨c', q', h1, h3⟩ := round_exact good_b64 s (c := M) (q := e) (show M < 2 ^ 53 from hM) (by rw [hq]; omega) (by rw [own_qmax]; omega)
  refine ⟨c', q', ?_, ?_⟩
  · rw [← h1]
    show roundRatio b64 s c 1 q = roundRatio b64 s M 1 e
    refine roundRatio_congr (by decide) (by decide) ?_
    unfold inUnits at h
    have h4 := own_powc (u := (q - -2148).toNat) (v := (e + 2148).toNat) h (w := q - e) (by omega)
    rw [Nat.mul_one, Nat.mul_one, h4, show -(q - e) = e - q by omega]
  · rw [h3]; unfold inUnits; rw [hq, show e - -1074 = e + 1074 by omega]
theorem own_fin_split {x : UInt64} {n e : Int} (h : own_Is x n e) : ∃ s c q, val64 x = .fin s c q ∧ Jvm.FP.Core.fits b64 (.fin s c q) ∧ signed s (inUnits c q b64.qmin) = n * ((2 ^ (e + 1074).toNat : Nat) : Int) ∧ -1074 ≤ q := by
  obtain ⟨⟨s, c, q, hv⟩, he, hz⟩ := h
  have hf := val64_fits x
  rw [hv] at hf hz
  have := hf.2.1
  rw [qmin_b64] at this
  exact ⟨s, c, q, hv, hf, hz, this⟩
theorem own_Is_of {x : UInt64} {s : Bool} {c : Nat} {q n e : Int} (hv : val64 x = .fin s c q) (he : -1074 ≤ e) (h : signed s (inUnits c q b64.qmin) = n * ((2 ^ (e + 1074).toNat : Nat) : Int)) : own_Is x n e :=
  ⟨⟨s, c, q, hv⟩, he, by rw [hv]; exact h⟩
theorem own_sum {s : Bool} {c : Nat} {q n e : Int} (hq : -1074 ≤ q) (hn : n.natAbs < 9007199254740992) (he1 : -1074 ≤ e) (he2 : e ≤ 971) (h : signed s (inUnits c q b64.qmin) = n * ((2 ^ (e + 1074).toNat : Nat) : Int)) :
    ∃ c' q', round b64 (.fin s c q) = .fin s c' q' ∧ signed s (inUnits c' q' b64.qmin) = n * ((2 ^ (e + 1074).toNat : Nat) : Int) := by
  have h1 : inUnits c q b64.qmin = n.natAbs * 2 ^ (e + 1074).toNat := by
    rw [← own_signed_abs s (inUnits c q b64.qmin), h, Int.natAbs_mul, Int.natAbs_natCast]
  have h2 : inUnits c q (-2148) = n.natAbs * 2 ^ (e + 2148).toNat := by
    rw [inUnits_move c (r := b64.qmin) (by rw [qmin_b64]; omega) (by rw [qmin_b64]; omega), h1, qmin_b64, Nat.mul_assoc, ← Nat.pow_add]
    congr 2; omega
  obtain ⟨c', q', h3, h4⟩ := own_round (s := s) (by omega) hn he1 he2 h2
  exact ⟨c', q', h3, by rw [h4, ← h1, h]⟩
theorem own_add {x y : UInt64} {m n e : Int} (hx : own_Is x m e) (hy : own_Is y n e) (he : e ≤ 971) (hb : (m + n).natAbs < 9007199254740992) : own_Is (dadd x y) (m + n) e := by
  have he1 := hx.2.1
  obtain ⟨s, c, q, vx, fx, zx, -⟩ := own_fin_split hx
  obtain ⟨t, d, r, vy, fy, zy, -⟩ := own_fin_split hy
  obtain ⟨sg, N, E, h1, h2, h3⟩ := sum_units fx fy
  have h4 : signed sg (inUnits N E b64.qmin) = (m + n) * ((2 ^ (e + 1074).toNat : Nat) : Int) := by
    rw [h3, Int.add_mul, ← zx, ← zy]; rfl
  obtain ⟨c', q', h5, h6⟩ := own_sum (by rw [qmin_b64] at h2; exact h2) hb he1 he h4
  exact own_Is_of (by rw [val64_dadd, vx, vy, h1, h5]) he1 h6
theorem own_sub {x y : UInt64} {m n e : Int} (hx : own_Is x m e) (hy : own_Is y n e) (he : e ≤ 971) (hb : (m - n).natAbs < 9007199254740992) : own_Is (dsub x y) (m - n) e := by
  have he1 := hx.2.1
  obtain ⟨s, c, q, vx, fx, zx, -⟩ := own_fin_split hx
  obtain ⟨t, d, r, vy, fy, zy, -⟩ := own_fin_split hy
  have fy' : Jvm.FP.Core.fits b64 (.fin (!t) d r) := fy
  obtain ⟨sg, N, E, h1, h2, h3⟩ := sum_units (t := !t) fx fy'
  have h4 : signed sg (inUnits N E b64.qmin) = (m - n) * ((2 ^ (e + 1074).toNat : Nat) : Int) := by
    rw [h3, Int.sub_mul, ← zx, ← zy]
    show signed s (inUnits c q b64.qmin) + signed (!t) (inUnits d r b64.qmin) = _
    rw [signed_not]; omega
  obtain ⟨c', q', h5, h6⟩ := own_sum (by rw [qmin_b64] at h2; exact h2) hb he1 he h4
  refine own_Is_of (s := sg) (c := c') (q := q') ?_ he1 h6
  rw [val64_dsub, vx, vy]
  show round b64 (exactSum (.fin s c q) (.fin (!t) d r)) = _
  rw [h1, h5]
theorem own_mul {x y : UInt64} {m n e1 e2 e : Int} (hx : own_Is x m e1) (hy : own_Is y n e2) (hee : e1 + e2 = e) (he1 : -1074 ≤ e) (he2 : e ≤ 971) (hb : (m * n).natAbs < 9007199254740992) : own_Is (dmul x y) (m * n) e := by
  subst hee
  have hx1 := hx.2.1
  have hy1 := hy.2.1
  obtain ⟨s, c, q, vx, fx, zx, qx⟩ := own_fin_split hx
  obtain ⟨t, d, r, vy, fy, zy, qy⟩ := own_fin_split hy
  obtain ⟨h1, h2, h3⟩ := product_units fx fy
  have hs : signed (s != t) (inUnits (c * d) (q + r) (-2148)) = (m * n) * ((2 ^ (e1 + e2 + 2148).toNat : Nat) : Int) := by
    have h4 : inUnits (c * d) (q + r) (-2148) = inUnits c q b64.qmin * inUnits d r b64.qmin := by
      have := h3
      rw [qmin_b64] at this ⊢
      exact this
    rw [h4, own_signed_mul, zx, zy, show (e1 + e2 + 2148).toNat = (e1 + 1074).toNat + (e2 + 1074).toNat by omega, Nat.pow_add, Int.natCast_mul]
    simp only [Int.mul_assoc, Int.mul_left_comm, Int.mul_comm]
  have h5 : inUnits (c * d) (q + r) (-2148) = (m * n).natAbs * 2 ^ (e1 + e2 + 2148).toNat := by
    rw [← own_signed_abs (s != t) (inUnits (c * d) (q + r) (-2148)), hs, Int.natAbs_mul, Int.natAbs_natCast]
  obtain ⟨c', q', h6, h7⟩ := own_round (s := (s != t)) (by omega) hb he1 he2 h5
  refine own_Is_of (s := (s != t)) (c := c') (q := q') (by rw [val64_dmul, vx, vy, h1, h6]) he1 ?_
  rw [h5, own_signed_scale] at hs
  have h8 : signed (s != t) (m * n).natAbs = m * n := Int.eq_of_mul_eq_mul_right (by have := Nat.two_pow_pos (e1 + e2 + 2148).toNat; omega) hs
  rw [h7, own_signed_scale, h8]
/-- the quotient of two exact doubles is the rounded ratio of their numbers -/
theorem own_divR {x y : UInt64} {m n e1 e2 : Int} (hx : own_Is x m e1) (hy : own_Is y n e2) (hn : n ≠ 0) :
    val64 (ddiv x y) = roundRatio b64 (sgn (val64 x) != sgn (val64 y)) m.natAbs n.natAbs (e1 - e2) ∧ signed (sgn (val64 x)) m.natAbs = m ∧ signed (sgn (val64 y)) n.natAbs = n := by
  have hx1 := hx.2.1
  have hy1 := hy.2.1
  obtain ⟨s, c, q, vx, fx, zx, qx⟩ := own_fin_split hx
  obtain ⟨t, d, r, vy, fy, zy, qy⟩ := own_fin_split hy
  have ax : inUnits c q b64.qmin = m.natAbs * 2 ^ (e1 + 1074).toNat := by
    rw [← own_signed_abs s (inUnits c q b64.qmin), zx, Int.natAbs_mul, Int.natAbs_natCast]
  have ay : inUnits d r b64.qmin = n.natAbs * 2 ^ (e2 + 1074).toNat := by
    rw [← own_signed_abs t (inUnits d r b64.qmin), zy, Int.natAbs_mul, Int.natAbs_natCast]
  have sx : signed s m.natAbs = m := by
    rw [ax, own_signed_scale] at zx
    exact Int.eq_of_mul_eq_mul_right (by have := Nat.two_pow_pos (e1 + 1074).toNat; omega) zx
  have sy : signed t n.natAbs = n := by
    rw [ay, own_signed_scale] at zy
    exact Int.eq_of_mul_eq_mul_right (by have := Nat.two_pow_pos (e2 + 1074).toNat; omega) zy
  have nn : n.natAbs ≠ 0 := by omega
  have hd : d ≠ 0 := by
    rintro rfl
    have : n.natAbs * 2 ^ (e2 + 1074).toNat = 0 := by rw [← ay]; unfold inUnits; simp
    rcases Nat.mul_eq_zero.mp this with h | h
    · exact nn h
    · have := Nat.two_pow_pos (e2 + 1074).toNat; omega
  refine ⟨?_, by rw [vx]; exact sx, by rw [vy]; exact sy⟩
  rw [val64_ddiv, vx, vy]
  show (if d = 0 then _ else roundRatio b64 (s != t) c d (q - r)) = roundRatio b64 (s != t) _ _ _
  rw [if_neg hd]
  refine roundRatio_congr (by omega) (by omega) ?_
  unfold inUnits at ax ay
  rw [qmin_b64] at ax ay
  have key : c * n.natAbs * 2 ^ ((q - -1074).toNat + (e2 + 1074).toNat) = m.natAbs * d * 2 ^ ((e1 + 1074).toNat + (r - -1074).toNat) := by
    have e3 : c * n.natAbs * 2 ^ ((q - -1074).toNat + (e2 + 1074).toNat) = (c * 2 ^ (q - -1074).toNat) * (n.natAbs * 2 ^ (e2 + 1074).toNat) := by
      rw [Nat.pow_add]; simp only [Nat.mul_assoc, Nat.mul_left_comm, Nat.mul_comm]
    rw [e3, ax, ← ay, Nat.pow_add]
    simp only [Nat.mul_assoc, Nat.mul_left_comm, Nat.mul_comm]
  have h4 := own_powc key (w := (q - r) - (e1 - e2)) (by omega)
  rw [h4, show -((q - r) - (e1 - e2)) = (e1 - e2) - (q - r) by omega]
theorem own_div {x y : UInt64} {m n N e1 e2 e : Int} (hx : own_Is x m e1) (hy : own_Is y n e2) (hn : n ≠ 0) (hm : m = N * n) (hee : e1 - e2 = e) (he1 : -1074 ≤ e) (he2 : e ≤ 971) (hb : N.natAbs < 9007199254740992) : own_Is (ddiv x y) N e := by
  subst hee
  obtain ⟨h1, h2, h3⟩ := own_divR hx hy hn
  have hq : b64.qmin = -1074 := qmin_b64
  obtain ⟨c', q', h5, h6⟩ := round_exact good_b64 (sgn (val64 x) != sgn (val64 y)) (c := N.natAbs) (q := e1 - e2) (show _ < 2 ^ 53 from hb) (by rw [hq]; omega) (by rw [own_qmax]; omega)
  refine own_Is_of (s := (sgn (val64 x) != sgn (val64 y))) (c := c') (q := q') ?_ he1 ?_
  · rw [h1, ← h5]
    show roundRatio _ _ _ _ _ = roundRatio b64 (sgn (val64 x) != sgn (val64 y)) N.natAbs 1 (e1 - e2)
    refine roundRatio_congr (by omega) (by decide) ?_
    rw [hm, Int.natAbs_mul]; simp
  · rw [h6]; unfold inUnits
    rw [hq, show e1 - e2 - -1074 = e1 - e2 + 1074 by omega, own_signed_scale]
    congr 1
    have h7 := own_signed_mul (sgn (val64 x)) (sgn (val64 y)) N.natAbs (n.natAbs * n.natAbs)
    have h8 : signed (sgn (val64 x) != sgn (val64 y)) (m.natAbs * n.natAbs) = m * n := by rw [own_signed_mul, h2, h3]
    rw [hm, Int.natAbs_mul, Nat.mul_assoc, own_signed_scale] at h8
    have h9 : ((n.natAbs * n.natAbs : Nat) : Int) = n * n := Int.natAbs_mul_self
    rw [h9, Int.mul_assoc] at h8
    refine Int.eq_of_mul_eq_mul_right ?_ h8
    intro h0
    rcases Int.mul_eq_zero.mp h0 with h | h <;> exact hn h
theorem own_shift {x : UInt64} {n e e' : Int} (j : Nat) (hx : own_Is x n e) (hj : e' = e - j) (he : -1074 ≤ e') : own_Is x (n * (2 ^ j : Nat)) e' := by
  subst hj
  refine ⟨hx.1, he, ?_⟩
  rw [hx.2.2, show (e + 1074).toNat = j + (e - j + 1074).toNat by omega, Nat.pow_add, Int.natCast_mul, ← Int.mul_assoc]
theorem own_nn {x : UInt64} {n e : Int} (h : own_Is x n e) : Jvm.Free.Fl.NoNaN64 x := Jvm.Free.Fl.noNaN64_no.mpr h.1.notNaN
theorem own_cmp {x y : UInt64} {m n e : Int} (hx : own_Is x m e) (hy : own_Is y n e) : dcmp x y = some (compare m n) := by
  rw [dcmp_zval hx.1.ne_nan hy.1.ne_nan, hx.2.2, hy.2.2]
  have hp : (0 : Int) < ((2 ^ (e + 1074).toNat : Nat) : Int) := by have := Nat.two_pow_pos (e + 1074).toNat; omega
  congr 1
  refine compare_congr ⟨fun h => Int.lt_of_mul_lt_mul_right h (Int.le_of_lt hp), fun h => Int.mul_lt_mul_of_pos_right h hp⟩ ⟨fun h => Int.eq_of_mul_eq_mul_right (Int.ne_of_gt hp) h, fun h => by rw [h]⟩
theorem own_i2d (a : Int32) : own_Is (i2d a) a.toInt 0 := by
  have h := i2d_int a
  refine ⟨?_, by decide, ?_⟩
  · rw [i2d_l2d]; exact l2d_fin _
  · rw [DInt_zval h]; rfl
theorem own_l2d {a : Int64} (h : a.toInt.natAbs ≤ 9007199254740992) : own_Is (l2d a) a.toInt 0 := by
  have h := l2d_int (a := a) h
  exact ⟨l2d_fin _, by decide, by rw [DInt_zval h]; rfl⟩
/-- with a bound on the number -/
def own_B (x : UInt64) (n e B : Int) : Prop := own_Is x n e ∧ -B ≤ n ∧ n ≤ B
theorem own_B.is {x : UInt64} {n e B : Int} (h : own_B x n e B) : own_Is x n e := h.1
theorem own_B.nn {x : UInt64} {n e B : Int} (h : own_B x n e B) : Jvm.Free.Fl.NoNaN64 x := own_nn h.1
theorem own_Badd {x y : UInt64} {m n e A B : Int} (hx : own_B x m e A) (hy : own_B y n e B) (h : (decide (e ≤ 971) && decide (A + B < 9007199254740992)) = true) : own_B (dadd x y) (m + n) e (A + B) := by
  simp only [Bool.and_eq_true, decide_eq_true_eq] at h
  have := hx.2; have := hy.2
  exact ⟨own_add hx.1 hy.1 h.1 (by omega), by omega, by omega⟩
theorem own_Bsub {x y : UInt64} {m n e A B : Int} (hx : own_B x m e A) (hy : own_B y n e B) (h : (decide (e ≤ 971) && decide (A + B < 9007199254740992)) = true) : own_B (dsub x y) (m - n) e (A + B) := by
  simp only [Bool.and_eq_true, decide_eq_true_eq] at h
  have := hx.2; have := hy.2
  exact ⟨own_sub hx.1 hy.1 h.1 (by omega), by omega, by omega⟩
theorem own_bmul {m n A B : Int} (hm : -A ≤ m ∧ m ≤ A) (hn : -B ≤ n ∧ n ≤ B) : -(A * B) ≤ m * n ∧ m * n ≤ A * B := by
  have h : (m * n).natAbs ≤ A.toNat * B.toNat := by rw [Int.natAbs_mul]; exact Nat.mul_le_mul (by omega) (by omega)
  have h2 : ((A.toNat * B.toNat : Nat) : Int) = A * B := by rw [Int.natCast_mul, Int.toNat_of_nonneg (by omega), Int.toNat_of_nonneg (by omega)]
  omega
theorem own_Bmul {x y : UInt64} {m n e1 e2 A B : Int} (hx : own_B x m e1 A) (hy : own_B y n e2 B) (h : (decide (-1074 ≤ e1 + e2) && decide (e1 + e2 ≤ 971) && decide (A * B < 9007199254740992)) = true) : own_B (dmul x y) (m * n) (e1 + e2) (A * B) := by
  simp only [Bool.and_eq_true, decide_eq_true_eq] at h
  have hb := own_bmul hx.2 hy.2
  exact ⟨own_mul hx.1 hy.1 rfl h.1.1 h.1.2 (by omega), hb⟩
/-- an exact quotient by a power of two (n = 1 in y = 1 * 2^e2) -/
theorem own_Bdiv {x y : UInt64} {m e1 e2 A : Int} (hx : own_B x m e1 A) (hy : own_Is y 1 e2) (h : (decide (-1074 ≤ e1 - e2) && decide (e1 - e2 ≤ 971) && decide (A < 9007199254740992)) = true) : own_B (ddiv x y) m (e1 - e2) A := by
  simp only [Bool.and_eq_true, decide_eq_true_eq] at h
  have := hx.2
  exact ⟨own_div hx.1 hy (by decide) (Int.mul_one _).symm rfl h.1.1 h.1.2 (by omega), hx.2⟩
theorem own_Bshift {x : UInt64} {n e A : Int} (j : Nat) (P : Int) (hx : own_B x n e A) (h : (decide (-1074 ≤ e - j) && decide (((2 ^ j : Nat) : Int) = P)) = true) : own_B x (n * P) (e - j) (A * P) := by
  simp only [Bool.and_eq_true, decide_eq_true_eq] at h
  obtain ⟨h, rfl⟩ := h
  refine ⟨own_shift j hx.1 rfl h, ?_⟩
  have hp : (0 : Int) ≤ (2 ^ j : Nat) := Int.natCast_nonneg _
  have := hx.2
  constructor
  · rw [← Int.neg_mul]; exact Int.mul_le_mul_of_nonneg_right this.1 hp
  · exact Int.mul_le_mul_of_nonneg_right this.2 hp
theorem own_Bcast {x : UInt64} {n n' e e' A A' : Int} (h : own_B x n e A) (hn : n = n') (he : e = e') (hA : A ≤ A') : own_B x n' e' A' := by
  subst hn he; exact ⟨h.1, by have := h.2; omega, by have := h.2; omega⟩
theorem own_eq0 {x y : UInt64} {m n e : Int} (hx : own_Is x m e) (hy : own_Is y n e) (h : m = n) (o : ClassFile.CmpOp) : Op.cmpValue (Jvm.FP.dcmp x y) o = 0 := by
  show Op.cmpValue (dcmp x y) o = 0
  subst h
  rw [own_cmp hx hy, show compare m m = .eq from (compare_eq_iff m m).mpr rfl]; cases o <;> rfl
theorem own_cmpv {x y : UInt64} {m n e : Int} (hx : own_Is x m e) (hy : own_Is y n e) (o : ClassFile.CmpOp) : (m < n → Op.cmpValue (Jvm.FP.dcmp x y) o = -1) ∧ (m = n → Op.cmpValue (Jvm.FP.dcmp x y) o = 0) ∧ (n < m → Op.cmpValue (Jvm.FP.dcmp x y) o = 1) := by
  refine ⟨fun h => ?_, fun h => own_eq0 hx hy h o, fun h => ?_⟩
  · show Op.cmpValue (dcmp x y) o = -1
    rw [own_cmp hx hy, (compare_lt_iff m n).mpr h]; cases o <;> rfl
  · show Op.cmpValue (dcmp x y) o = 1
    rw [own_cmp hx hy, (compare_gt_iff m n).mpr h]; cases o <;> rfl
theorem own_one : own_Is 4607182418800017408 1 0 := ⟨(fin_bits _).mpr (by decide), by decide, by decide +kernel⟩
theorem own_zero : own_Is 0 0 0 := ⟨(fin_bits _).mpr (by decide), by decide, by decide +kernel⟩
/-! ints and longs with their numbers and bounds -/
def own_I (v : Int32) (n B : Int) : Prop := v.toInt = n ∧ -B ≤ n ∧ n ≤ B
def own_L (v : Int64) (n B : Int) : Prop := v.toInt = n ∧ -B ≤ n ∧ n ≤ B
theorem own_Iadd {a b v : Int32} {m n A B : Int} (hv : a + b = v) (ha : own_I a m A) (hb : own_I b n B) (h : decide (A + B < 2147483648) = true) : own_I v (m + n) (A + B) := by
  subst hv; simp only [decide_eq_true_eq] at h; obtain ⟨rfl, h1, h2⟩ := ha; obtain ⟨rfl, h3, h4⟩ := hb
  exact ⟨by rw [Int32.toInt_add]; exact Int.bmod_eq_of_le (by omega) (by omega), by omega, by omega⟩
theorem own_Isub {a b v : Int32} {m n A B : Int} (hv : a - b = v) (ha : own_I a m A) (hb : own_I b n B) (h : decide (A + B < 2147483648) = true) : own_I v (m - n) (A + B) := by
  subst hv; simp only [decide_eq_true_eq] at h; obtain ⟨rfl, h1, h2⟩ := ha; obtain ⟨rfl, h3, h4⟩ := hb
  exact ⟨by rw [Int32.toInt_sub]; exact Int.bmod_eq_of_le (by omega) (by omega), by omega, by omega⟩
theorem own_Imul {a b v : Int32} {m n A B : Int} (hv : a * b = v) (ha : own_I a m A) (hb : own_I b n B) (h : decide (A * B < 2147483648) = true) : own_I v (m * n) (A * B) := by
  subst hv; simp only [decide_eq_true_eq] at h; obtain ⟨rfl, h1⟩ := ha; obtain ⟨rfl, h3⟩ := hb
  have hb := own_bmul h1 h3
  exact ⟨by rw [Int32.toInt_mul]; exact Int.bmod_eq_of_le (by omega) (by omega), hb⟩
theorem own_Ladd {a b v : Int64} {m n A B : Int} (hv : a + b = v) (ha : own_L a m A) (hb : own_L b n B) (h : decide (A + B < 9223372036854775808) = true) : own_L v (m + n) (A + B) := by
  subst hv; simp only [decide_eq_true_eq] at h; obtain ⟨rfl, h1, h2⟩ := ha; obtain ⟨rfl, h3, h4⟩ := hb
  exact ⟨by rw [Int64.toInt_add]; exact Int.bmod_eq_of_le (by omega) (by omega), by omega, by omega⟩
theorem own_Lsub {a b v : Int64} {m n A B : Int} (hv : a - b = v) (ha : own_L a m A) (hb : own_L b n B) (h : decide (A + B < 9223372036854775808) = true) : own_L v (m - n) (A + B) := by
  subst hv; simp only [decide_eq_true_eq] at h; obtain ⟨rfl, h1, h2⟩ := ha; obtain ⟨rfl, h3, h4⟩ := hb
  exact ⟨by rw [Int64.toInt_sub]; exact Int.bmod_eq_of_le (by omega) (by omega), by omega, by omega⟩
theorem own_Lmul {a b v : Int64} {m n A B : Int} (hv : a * b = v) (ha : own_L a m A) (hb : own_L b n B) (h : decide (A * B < 9223372036854775808) = true) : own_L v (m * n) (A * B) := by
  subst hv; simp only [decide_eq_true_eq] at h; obtain ⟨rfl, h1⟩ := ha; obtain ⟨rfl, h3⟩ := hb
  have hb := own_bmul h1 h3
  exact ⟨by rw [Int64.toInt_mul]; exact Int.bmod_eq_of_le (by omega) (by omega), hb⟩
theorem own_Ii2l {a : Int32} {v : Int64} {m A : Int} (hv : Int32.toInt64 a = v) (ha : own_I a m A) : own_L v m A := by
  subst hv; exact ⟨by rw [Int32.toInt_toInt64]; exact ha.1, ha.2⟩
theorem own_Icast {v : Int32} {n n' A A' : Int} (h : own_I v n A) (hn : n = n') (hA : A ≤ A') : own_I v n' A' := by
  subst hn; exact ⟨h.1, by have := h.2; omega, by have := h.2; omega⟩
theorem own_Lcast {v : Int64} {n n' A A' : Int} (h : own_L v n A) (hn : n = n') (hA : A ≤ A') : own_L v n' A' := by
  subst hn; exact ⟨h.1, by have := h.2; omega, by have := h.2; omega⟩
theorem own_Bi2d {v : Int32} {n A : Int} (h : own_I v n A) : own_B (i2d v) n 0 A := by
  obtain ⟨rfl, h1⟩ := h; exact ⟨own_i2d v, h1⟩
theorem own_Bl2d {v : Int64} {n A : Int} (h : own_L v n A) (hA : decide (A ≤ 9007199254740992) = true) : own_B (l2d v) n 0 A := by
  simp only [decide_eq_true_eq] at hA; obtain ⟨rfl, h1⟩ := h; exact ⟨own_l2d (by omega), h1⟩
theorem own_Irng (v : Int32) : own_I v v.toInt 2147483648 := ⟨rfl, by have := Jvm.RoadKit.rng32 v; omega, by have := Jvm.RoadKit.rng32 v; omega⟩
theorem own_Iand {x m v : Int32} {B : Int} (hv : x &&& m = v) (hB : m.toInt = B) (h0 : 0 ≤ B) : own_I v v.toInt B := by
  have := Jvm.RoadKit.c_and x m (by omega); rw [hv] at this; exact ⟨rfl, by omega, by omega⟩
end OwnFP
section OwnRel
open Jvm.FP.Core
theorem own_nat_signed {s : Bool} {c X : Nat} (h : signed s c = (X : Int)) : c = X ∧ (0 < X → s = false) := by
  have h1 := own_signed_abs s c
  rw [h] at h1
  refine ⟨by omega, fun hX => ?_⟩
  cases s
  · rfl
  · simp only [signed, if_true] at h; omega
/-- the relative error of a rounded quotient (in the units 2^-1074) -/
theorem own_rel {x y V : UInt64} {X Y : Nat} (hx : DFin x) (hy : DFin y) (zx : zval b64 (val64 x) = (X : Int)) (zy : zval b64 (val64 y) = (Y : Int)) (hY : 0 < Y) (hXY : Y ≤ X) (hV : DFin V) (hXV : X * 2 ^ 1074 ≤ zmag b64 (val64 V) * Y) :
    DFin (ddiv x y) ∧ ∃ D : Nat, zval b64 (val64 (ddiv x y)) = (D : Int) ∧ 9007199254740991 * (D * Y) ≤ 9007199254740992 * (X * 2 ^ 1074) ∧ 9007199254740992 * (X * 2 ^ 1074) ≤ 9007199254740993 * (D * Y) := by
  have hX : 0 < X := by omega
  obtain ⟨s, c, q, vx⟩ := hx
  obtain ⟨t, d, r, vy⟩ := hy
  have fx := val64_fits x; have fy := val64_fits y
  rw [vx] at zx fx; rw [vy] at zy fy
  have qx := fx.2.1; have qy := fy.2.1
  rw [qmin_b64] at qx qy
  obtain ⟨ex, sx⟩ := own_nat_signed (c := inUnits c q b64.qmin) zx
  obtain ⟨ey, sy⟩ := own_nat_signed (c := inUnits d r b64.qmin) zy
  have hs := sx hX; have ht := sy hY
  subst hs ht
  unfold inUnits at ex ey
  rw [qmin_b64] at ex ey
  have hd : d ≠ 0 := by rintro rfl; rw [Nat.zero_mul] at ey; omega
  have hv : val64 (ddiv x y) = roundRatio b64 false X Y 0 := by
    rw [val64_ddiv, vx, vy]
    show (if d = 0 then _ else roundRatio b64 false c d (q - r)) = _
    rw [if_neg hd]
    refine roundRatio_congr (by omega) hY ?_
    have key : c * Y * 2 ^ (q - -1074).toNat = X * d * 2 ^ (r - -1074).toNat := by
      rw [← ex, ← ey]; simp only [Nat.mul_assoc, Nat.mul_left_comm, Nat.mul_comm]
    have h4 := own_powc key (w := q - r - 0) (by omega)
    rw [h4, show -(q - r - 0) = 0 - (q - r) by omega]
  have hle : zmag b64 (roundRatio b64 false X Y 0) ≤ zmag b64 (val64 V) := by
    refine zmag_roundRatio_le good_b64 hY (val64_fits V) hV.ne_nan (e0 := b64.qmin) (Int.le_refl _) (by rw [qmin_b64]; decide) ?_
    show X * 2 ^ (0 - b64.qmin).toNat ≤ zmag b64 (val64 V) * 2 ^ (b64.qmin - b64.qmin).toNat * Y
    rw [qmin_b64, show ((0 : Int) - -1074).toNat = 1074 by decide, show ((-1074 : Int) - -1074).toNat = 0 by decide, Nat.pow_zero, Nat.mul_one]
    exact hXV
  have htop := hV.zval_lt
  rcases roundRatio_cases b64 false X Y 0 with ⟨c', q', hfin⟩ | hinf
  · refine ⟨⟨false, c', q', by rw [hv, hfin]⟩, inUnits c' q' b64.qmin, by rw [hv, hfin]; rfl, ?_⟩
    -- the rounding opened
    obtain ⟨Qt, hQt⟩ : ∃ z, quantum b64 X Y 0 = z := ⟨_, rfl⟩
    obtain ⟨M, hM⟩ : ∃ z, nearest (unitsNum X 0 Qt) (unitsDen Y 0 Qt) = z := ⟨_, rfl⟩
    have hset : settle b64 false M Qt = .fin false c' q' := by
      have h5 := hfin
      unfold roundRatio roundAt at h5
      rw [if_neg (by omega), hQt, hM] at h5
      exact h5
    have hge := quantum_ge b64 X Y 0
    rw [hQt, qmin_b64] at hge
    have hMle : M ≤ 2 ^ b64.p := by have := nearest_units_le (f := b64) hX hY 0; rw [hQt, hM] at this; exact this
    have hval := (settle_value good_b64 hMle hset (e0 := b64.qmin) (by rw [qmin_b64]; exact hge)).2
    rw [hval]
    have hBpos := unitsDen_pos hY 0 Qt
    have hnb : 2 ^ 52 * unitsDen Y 0 Qt ≤ unitsNum X 0 Qt := by
      rcases quantum_not_below (f := b64) hX hY 0 with h6 | h6
      · exfalso
        have hlead := (leading_spec hX hY).2
        have h7 : ¬ Below X Y 0 := by unfold Below; simp; omega
        have h8 := lt_of_below h7 hlead
        have h9 : quantum b64 X Y 0 = max b64.qmin (leading X Y + 0 - ((b64.p : Int) - 1)) := rfl
        rw [h9, qmin_b64, show ((b64.p : Int) - 1) = 52 by decide] at h6
        omega
      · rw [hQt, show ((b64.p : Int) - 1) = ((52 : Nat) : Int) by decide] at h6
        exact Nat.le_of_not_lt fun hlt => h6 ((units_below X Y 0 Qt 52).mp hlt)
    have hM52 : 2 ^ 52 ≤ M := by rw [← hM]; exact nearest_ge hBpos hnb
    obtain ⟨n1, n2, -⟩ := nearest_spec (unitsNum X 0 Qt) (unitsDen Y 0 Qt) hBpos
    rw [hM] at n1 n2
    obtain ⟨A', hA'⟩ : ∃ z, unitsNum X 0 Qt = z := ⟨_, rfl⟩
    obtain ⟨B', hB'⟩ : ∃ z, unitsDen Y 0 Qt = z := ⟨_, rfl⟩
    rw [hA', hB'] at n1 n2
    have hMB : 4503599627370496 * B' ≤ M * B' := Nat.mul_le_mul_right _ hM52
    have m1 : 9007199254740991 * (M * B') ≤ 9007199254740992 * A' := by
      rw [Nat.mul_assoc] at n2
      generalize M * B' = MB at *
      omega
    have m2 : 9007199254740992 * A' ≤ 9007199254740993 * (M * B') := by
      rw [Nat.add_mul, Nat.mul_assoc, Nat.one_mul] at n1
      generalize M * B' = MB at *
      omega
    -- back to the units
    have k1 : (M * B') * 2 ^ (1074 - (0 - Qt).toNat) = inUnits M Qt b64.qmin * Y := by
      rw [← hB']; unfold unitsDen inUnits
      rw [qmin_b64, show (Qt - -1074).toNat = (Qt - 0).toNat + (1074 - (0 - Qt).toNat) by omega, Nat.pow_add]
      simp only [Nat.mul_assoc, Nat.mul_left_comm, Nat.mul_comm]
    have k2 : A' * 2 ^ (1074 - (0 - Qt).toNat) = X * 2 ^ 1074 := by
      rw [← hA']; unfold unitsNum
      rw [Nat.mul_assoc, ← Nat.pow_add, show (0 - Qt).toNat + (1074 - (0 - Qt).toNat) = 1074 by omega]
    rw [← k1, ← k2]
    refine ⟨?_, ?_⟩
    · have := Nat.mul_le_mul_right (2 ^ (1074 - (0 - Qt).toNat)) m1
      rw [Nat.mul_assoc 9007199254740991, Nat.mul_assoc 9007199254740992] at this
      exact this
    · have := Nat.mul_le_mul_right (2 ^ (1074 - (0 - Qt).toNat)) m2
      rw [Nat.mul_assoc 9007199254740992, Nat.mul_assoc 9007199254740993] at this
      exact this
  · exfalso
    rw [hinf] at hle
    have : zmag b64 (.inf false) = b64.tails * 2 ^ (b64.exps - 2) := rfl
    omega
/-- q / ((k + q) / (k + 1)) for k = A / 8: above 1, below q, below k + 1 -/
theorem own_three {A q d ρ W U : Nat} (hU : U = 8 * W) (hW : 0 < W) (hA : 1 ≤ A) (hA2 : A ≤ 2147483647) (hq : 2 ≤ q) (hq2 : q ≤ 2147483647)
    (d1 : 9007199254740991 * (d * (A + 8)) ≤ 9007199254740992 * ((A + 8 * q) * U)) (d2 : 9007199254740992 * ((A + 8 * q) * U) ≤ 9007199254740993 * (d * (A + 8)))
    (r1 : 9007199254740991 * (ρ * d) ≤ 9007199254740992 * (q * U * U)) (r2 : 9007199254740992 * (q * U * U) ≤ 9007199254740993 * (ρ * d)) (hd : 0 < d) :
    U < ρ ∧ ρ < q * U ∧ ρ < (A + 8) * W := by
  have hU0 : 0 < U := by omega
  refine ⟨Nat.lt_of_not_le fun h => ?_, Nat.lt_of_not_le fun h => ?_, Nat.lt_of_not_le fun h => ?_⟩
  · -- ρ ≤ U
    have e1 : ρ * d ≤ U * d := Nat.mul_le_mul_right _ h
    have e2 : 9007199254740992 * (q * U * U) ≤ 9007199254740993 * (U * d) := Nat.le_trans r2 (Nat.mul_le_mul_left _ e1)
    have e3 : 9007199254740992 * (q * U) ≤ 9007199254740993 * d := by
      refine Nat.le_of_mul_le_mul_right (c := U) ?_ hU0
      calc 9007199254740992 * (q * U) * U = 9007199254740992 * (q * U * U) := by rw [Nat.mul_assoc]
        _ ≤ 9007199254740993 * (U * d) := e2
        _ = 9007199254740993 * d * U := by rw [Nat.mul_comm U d, Nat.mul_assoc]
    have e4 : 9007199254740991 * (A + 8) * (9007199254740992 * (q * U)) ≤ 9007199254740993 * (9007199254740992 * ((A + 8 * q) * U)) := by
      calc 9007199254740991 * (A + 8) * (9007199254740992 * (q * U)) ≤ 9007199254740991 * (A + 8) * (9007199254740993 * d) := Nat.mul_le_mul_left _ e3
        _ = 9007199254740993 * (9007199254740991 * (d * (A + 8))) := by simp only [Nat.mul_assoc, Nat.mul_left_comm, Nat.mul_comm]
        _ ≤ _ := Nat.mul_le_mul_left _ d1
    have e5 : 9007199254740991 * ((A + 8) * q) ≤ 9007199254740993 * (A + 8 * q) := by
      refine Nat.le_of_mul_le_mul_right (c := 9007199254740992 * U) ?_ (by omega)
      calc 9007199254740991 * ((A + 8) * q) * (9007199254740992 * U) = 9007199254740991 * (A + 8) * (9007199254740992 * (q * U)) := by simp only [Nat.mul_assoc, Nat.mul_left_comm, Nat.mul_comm]
        _ ≤ 9007199254740993 * (9007199254740992 * ((A + 8 * q) * U)) := e4
        _ = _ := by simp only [Nat.mul_assoc, Nat.mul_left_comm, Nat.mul_comm]
    have e6 : A * 2 ≤ A * q := Nat.mul_le_mul_left _ hq
    have e7 : 1 * q ≤ A * q := Nat.mul_le_mul_right _ hA
    rw [Nat.add_mul] at e5
    generalize A * q = Aq at *
    omega
  · -- q U ≤ ρ
    have e1 : q * U * d ≤ ρ * d := Nat.mul_le_mul_right _ h
    have hqU : 0 < q * U := Nat.mul_pos (by omega) hU0
    have e3 : 9007199254740991 * d ≤ 9007199254740992 * U := by
      refine Nat.le_of_mul_le_mul_right (c := q * U) ?_ hqU
      calc 9007199254740991 * d * (q * U) = 9007199254740991 * (q * U * d) := by simp only [Nat.mul_assoc, Nat.mul_left_comm, Nat.mul_comm]
        _ ≤ 9007199254740991 * (ρ * d) := Nat.mul_le_mul_left _ e1
        _ ≤ 9007199254740992 * (q * U * U) := r1
        _ = _ := by simp only [Nat.mul_assoc, Nat.mul_left_comm, Nat.mul_comm]
    have e5 : 9007199254740991 * (A + 8 * q) ≤ 9007199254740993 * (A + 8) := by
      refine Nat.le_of_mul_le_mul_right (c := 9007199254740992 * U) ?_ (by omega)
      calc 9007199254740991 * (A + 8 * q) * (9007199254740992 * U) = 9007199254740991 * (9007199254740992 * ((A + 8 * q) * U)) := by simp only [Nat.mul_assoc, Nat.mul_left_comm, Nat.mul_comm]
        _ ≤ 9007199254740991 * (9007199254740993 * (d * (A + 8))) := Nat.mul_le_mul_left _ d2
        _ = 9007199254740993 * (A + 8) * (9007199254740991 * d) := by simp only [Nat.mul_assoc, Nat.mul_left_comm, Nat.mul_comm]
        _ ≤ 9007199254740993 * (A + 8) * (9007199254740992 * U) := Nat.mul_le_mul_left _ e3
    omega
  · -- (A + 8) W ≤ ρ
    have e1 : (A + 8) * W * d ≤ ρ * d := Nat.mul_le_mul_right _ h
    have e3 : 9007199254740991 * ((A + 8) * d) ≤ 9007199254740992 * (8 * q * U) := by
      refine Nat.le_of_mul_le_mul_right (c := W) ?_ hW
      calc 9007199254740991 * ((A + 8) * d) * W = 9007199254740991 * ((A + 8) * W * d) := by simp only [Nat.mul_assoc, Nat.mul_left_comm, Nat.mul_comm]
        _ ≤ 9007199254740991 * (ρ * d) := Nat.mul_le_mul_left _ e1
        _ ≤ 9007199254740992 * (q * U * U) := r1
        _ = 9007199254740992 * (q * U * (8 * W)) := by rw [← hU]
        _ = _ := by simp only [Nat.mul_assoc, Nat.mul_left_comm, Nat.mul_comm]
    have e5 : 9007199254740991 * (A + 8 * q) ≤ 9007199254740993 * (8 * q) := by
      refine Nat.le_of_mul_le_mul_right (c := 9007199254740992 * U) ?_ (by omega)
      calc 9007199254740991 * (A + 8 * q) * (9007199254740992 * U) = 9007199254740991 * (9007199254740992 * ((A + 8 * q) * U)) := by simp only [Nat.mul_assoc, Nat.mul_left_comm, Nat.mul_comm]
        _ ≤ 9007199254740991 * (9007199254740993 * (d * (A + 8))) := Nat.mul_le_mul_left _ d2
        _ = 9007199254740993 * (9007199254740991 * ((A + 8) * d)) := by simp only [Nat.mul_assoc, Nat.mul_left_comm, Nat.mul_comm]
        _ ≤ 9007199254740993 * (9007199254740992 * (8 * q * U)) := Nat.mul_le_mul_left _ e3
        _ = _ := by simp only [Nat.mul_assoc, Nat.mul_left_comm, Nat.mul_comm]
    omega
end OwnRel
section OwnQ
open Jvm.FP.Core
theorem own_zeroE (e : Int) (he : -1074 ≤ e) : own_Is 0 0 e := ⟨own_zero.1, he, by rw [own_zero.2.2]; simp⟩
theorem own_c_ge {x : UInt64} {n e : Int} (hx : own_Is x n e) (hn : 0 ≤ n) (o : ClassFile.CmpOp) : Op.ifCond.holds .lt (Op.cmpValue (Jvm.FP.dcmp x 0) o) = false := by
  have h := own_cmpv hx (own_zeroE e hx.2.1) o
  rcases Int.lt_or_eq_of_le hn with h1 | h1
  · rw [h.2.2 h1]; decide
  · rw [h.2.1 h1.symm]; decide
theorem own_c_inf {x : UInt64} {n e : Int} (hx : own_Is x n e) (o : ClassFile.CmpOp) : Op.ifCond.holds .lt (Op.cmpValue (Jvm.FP.dcmp x 9218868437227405312) o) = true := by
  show Op.ifCond.holds .lt (Op.cmpValue (dcmp x 9218868437227405312) o) = true
  rw [(fin_lt_inf hx.1).1]; cases o <;> decide
theorem own_c_le {x y : UInt64} {m n e : Int} (hx : own_Is x m e) (hy : own_Is y n e) (h : m ≤ n) (o : ClassFile.CmpOp) : Op.ifCond.holds .le (Op.cmpValue (Jvm.FP.dcmp x y) o) = true := by
  have q := own_cmpv hx hy o
  rcases Int.lt_or_eq_of_le h with h1 | h1
  · rw [q.1 h1]; decide
  · rw [q.2.1 h1]; decide
theorem own_zlt {x y : UInt64} (hx : DFin x) (hy : DFin y) (h : zval b64 (val64 x) < zval b64 (val64 y)) (o : ClassFile.CmpOp) : Op.cmpValue (Jvm.FP.dcmp x y) o = -1 := by
  show Op.cmpValue (dcmp x y) o = -1
  rw [dcmp_zval hx.ne_nan hy.ne_nan, (compare_lt_iff _ _).mpr h]; cases o <;> rfl
theorem own_sgn_pos {x : UInt64} {m e : Int} (hx : own_Is x m e) (hm : 0 < m) : sgn (val64 x) = false := by
  obtain ⟨s, c, q, vx, fx, zx, qx⟩ := own_fin_split hx
  have hp : (0 : Int) < ((2 ^ (e + 1074).toNat : Nat) : Int) := by have := Nat.two_pow_pos (e + 1074).toNat; omega
  have h1 : 0 < m * ((2 ^ (e + 1074).toNat : Nat) : Int) := Int.mul_pos hm hp
  rw [vx]; show s = false
  rw [← zx] at h1
  cases s
  · rfl
  · simp only [signed, if_true] at h1; omega
theorem own_div_same {x y x' y' : UInt64} {m n m' n' e1 e2 e1' e2' : Int} (hx : own_Is x m e1) (hy : own_Is y n e2) (hx' : own_Is x' m' e1') (hy' : own_Is y' n' e2') (hm : 0 < m) (hn : 0 < n) (hm' : 0 < m') (hn' : 0 < n')
    (h : m.natAbs * n'.natAbs * 2 ^ ((e1 - e2) - (e1' - e2')).toNat = m'.natAbs * n.natAbs * 2 ^ ((e1' - e2') - (e1 - e2)).toNat) : val64 (ddiv x y) = val64 (ddiv x' y') := by
  rw [(own_divR hx hy (by omega)).1, (own_divR hx' hy' (by omega)).1, own_sgn_pos hx hm, own_sgn_pos hy hn, own_sgn_pos hx' hm', own_sgn_pos hy' hn']
  exact roundRatio_congr (by omega) (by omega) h
theorem own_div_nn {x y : UInt64} {m n e1 e2 : Int} (hx : own_Is x m e1) (hy : own_Is y n e2) (hn : n ≠ 0) : Jvm.Free.Fl.NoNaN64 (ddiv x y) := by
  refine Jvm.Free.Fl.noNaN64_no.mpr ((notNaN_iff _).mpr ?_)
  rw [(own_divR hx hy hn).1]; exact roundRatio_ne_nan _ _ _ _ _
theorem own_cmp_same {x y : UInt64} (h : val64 x = val64 y) (hx : Jvm.Free.Fl.NoNaN64 x) (o : ClassFile.CmpOp) : Op.cmpValue (Jvm.FP.dcmp x y) o = 0 := by
  have hn := (notNaN_iff _).mp (Jvm.Free.Fl.noNaN64_no.mp hx)
  show Op.cmpValue (dcmp x y) o = 0
  rw [dcmp_zval hn (h ▸ hn), h, (compare_eq_iff _ _).mpr rfl]; cases o <;> rfl
/-- the qtf part: k = A / 8, a count q of 2 or more -/
theorem own_qtf {Q27 Q33 IQ : UInt64} {A q : Int} (h27 : own_Is Q27 (A + q * 8) (-3)) (h33 : own_Is Q33 (A + 8) (-3)) (hI : own_Is IQ q 0) (hA : 1 ≤ A ∧ A ≤ 2147483647) (hq : 2 ≤ q ∧ q ≤ 2147483647) :
    DFin (ddiv Q27 Q33) ∧ DFin (ddiv IQ (ddiv Q27 Q33)) ∧ (∃ ρ : Nat, zval b64 (val64 (ddiv IQ (ddiv Q27 Q33))) = (ρ : Int) ∧ (zval b64 (val64 4607182418800017408) < (ρ : Int)) ∧ ((ρ : Int) < zval b64 (val64 IQ)) ∧ ((ρ : Int) < zval b64 (val64 Q33))) := by
  obtain ⟨a, ha⟩ : ∃ a : Nat, A = (a : Int) := ⟨A.toNat, by omega⟩
  obtain ⟨n, hn⟩ : ∃ n : Nat, q = (n : Int) := ⟨q.toNat, by omega⟩
  subst ha hn
  have e27 : ((a : Int) + (n : Int) * 8) = ((a + 8 * n : Nat) : Int) := by omega
  obtain ⟨W, hW⟩ : ∃ W : Nat, 2 ^ 1071 = W := ⟨_, rfl⟩
  obtain ⟨U, hU⟩ : ∃ U : Nat, 2 ^ 1074 = U := ⟨_, rfl⟩
  have hW0 : 0 < W := by rw [← hW]; exact Nat.two_pow_pos _
  have hUW : U = 8 * W := by rw [← hW, ← hU, show (1074 : Nat) = 1071 + 3 from rfl, Nat.pow_add, Nat.mul_comm]
  have hU0 : 0 < U := by omega
  have z27 : zval b64 (val64 Q27) = (((a + 8 * n) * W : Nat) : Int) := by
    rw [h27.2.2, show ((-3 : Int) + 1074).toNat = 1071 by decide, hW, Int.natCast_mul, e27]
  have z33 : zval b64 (val64 Q33) = (((a + 8) * W : Nat) : Int) := by
    rw [h33.2.2, show ((-3 : Int) + 1074).toNat = 1071 by decide, hW, Int.natCast_mul]; rfl
  have zI : zval b64 (val64 IQ) = ((n * U : Nat) : Int) := by
    rw [hI.2.2, show ((0 : Int) + 1074).toNat = 1074 by decide, hU, Int.natCast_mul]
  have z1 : zval b64 (val64 4607182418800017408) = (U : Int) := by
    rw [own_one.2.2, show ((0 : Int) + 1074).toNat = 1074 by decide, hU, Int.one_mul]
  have mI : zmag b64 (val64 IQ) = n * U := by
    have := own_signed_abs (sgn (val64 IQ)) (zmag b64 (val64 IQ))
    rw [← this]; show (zval b64 (val64 IQ)).natAbs = _; rw [zI]; rfl
  have hna : a + 8 * n ≤ n * (a + 8) := by
    rw [Nat.mul_add]
    have : 1 * a ≤ n * a := Nat.mul_le_mul_right _ (by omega)
    omega
  have hB : (a + 8 * n) * W * 2 ^ 1074 ≤ zmag b64 (val64 IQ) * ((a + 8) * W) := by
    rw [hU, mI]
    calc (a + 8 * n) * W * U ≤ n * (a + 8) * W * U := Nat.mul_le_mul_right _ (Nat.mul_le_mul_right _ hna)
      _ = _ := by simp only [Nat.mul_assoc, Nat.mul_left_comm, Nat.mul_comm]
  obtain ⟨f1, d, zd, d1, d2⟩ := own_rel h27.1 h33.1 z27 z33 (Nat.mul_pos (by omega) hW0) (Nat.mul_le_mul_right _ (by omega)) hI.1 hB
  rw [hU] at d1 d2
  have d1' : 9007199254740991 * (d * (a + 8)) ≤ 9007199254740992 * ((a + 8 * n) * U) := by
    refine Nat.le_of_mul_le_mul_right (c := W) ?_ hW0
    calc 9007199254740991 * (d * (a + 8)) * W = 9007199254740991 * (d * ((a + 8) * W)) := by simp only [Nat.mul_assoc]
      _ ≤ _ := d1
      _ = _ := by simp only [Nat.mul_assoc, Nat.mul_left_comm, Nat.mul_comm]
  have d2' : 9007199254740992 * ((a + 8 * n) * U) ≤ 9007199254740993 * (d * (a + 8)) := by
    refine Nat.le_of_mul_le_mul_right (c := W) ?_ hW0
    calc 9007199254740992 * ((a + 8 * n) * U) * W = 9007199254740992 * ((a + 8 * n) * W * U) := by simp only [Nat.mul_assoc, Nat.mul_left_comm, Nat.mul_comm]
      _ ≤ _ := d2
      _ = _ := by simp only [Nat.mul_assoc]
  have hUd : U ≤ d := by
    refine Nat.le_of_not_lt fun hlt => ?_
    have e1 : d * (a + 8) ≤ U * (a + 8) := Nat.mul_le_mul_right _ (Nat.le_of_lt hlt)
    have e2 : 9007199254740992 * ((a + 8 * n) * U) ≤ 9007199254740993 * (U * (a + 8)) := Nat.le_trans d2' (Nat.mul_le_mul_left _ e1)
    have e3 : 9007199254740992 * (a + 8 * n) ≤ 9007199254740993 * (a + 8) := by
      refine Nat.le_of_mul_le_mul_right (c := U) ?_ hU0
      calc 9007199254740992 * (a + 8 * n) * U = 9007199254740992 * ((a + 8 * n) * U) := by rw [Nat.mul_assoc]
        _ ≤ _ := e2
        _ = _ := by rw [Nat.mul_comm U, Nat.mul_assoc]
    omega
  have hdq : d ≤ n * U := by
    refine Nat.le_of_not_lt fun hlt => ?_
    have e1 : n * U * (a + 8) ≤ d * (a + 8) := Nat.mul_le_mul_right _ (Nat.le_of_lt hlt)
    have e2 : 9007199254740991 * (n * U * (a + 8)) ≤ 9007199254740992 * ((a + 8 * n) * U) := Nat.le_trans (Nat.mul_le_mul_left _ e1) d1'
    have e3 : 9007199254740991 * (n * (a + 8)) ≤ 9007199254740992 * (a + 8 * n) := by
      refine Nat.le_of_mul_le_mul_right (c := U) ?_ hU0
      calc 9007199254740991 * (n * (a + 8)) * U = 9007199254740991 * (n * U * (a + 8)) := by simp only [Nat.mul_assoc, Nat.mul_left_comm, Nat.mul_comm]
        _ ≤ _ := e2
        _ = _ := by rw [Nat.mul_assoc]
    have e4 : a * 2 ≤ a * n := Nat.mul_le_mul_left _ (by omega)
    have e5 : 1 * n ≤ a * n := Nat.mul_le_mul_right _ (by omega)
    rw [Nat.mul_add, Nat.mul_comm n a] at e3
    generalize a * n = an at *
    omega
  have hB2 : n * U * 2 ^ 1074 ≤ zmag b64 (val64 IQ) * d := by
    rw [hU, mI]; exact Nat.mul_le_mul_left _ hUd
  obtain ⟨f2, ρ, zr, r1, r2⟩ := own_rel hI.1 f1 zI zd (by omega) hdq hI.1 hB2
  rw [hU] at r1 r2
  obtain ⟨t1, t2, t3⟩ := own_three (A := a) (q := n) (d := d) (ρ := ρ) hUW hW0 (by omega) (by omega) (by omega) (by omega) d1' d2' r1 r2 (by omega)
  refine ⟨f1, f2, ρ, zr, ?_, ?_, ?_⟩
  · rw [z1]; exact Int.ofNat_lt.mpr t1
  · rw [zI]; exact Int.ofNat_lt.mpr t2
  · rw [z33]; exact Int.ofNat_lt.mpr t3
end OwnQ
section OwnStep
open Jvm Jvm.ClassFile Sem Op Lib Jvm.Free Jvm.Stand Jvm.LawKit Jvm.RoadKit
variable {tb : Tables} [Ours tb] {e : Env} {below : List Frame} {T target : State} {m : MethodId} {c : Code} {pc pc' : Nat} {L : Array Slot} {S : List Value}
theorem own_s_iadd (h : At T m c below) (hx : tb.exec = Jvm.exec) {x y v : Int32} (hd : decode c.code pc = .ok (.iadd, 1)) (hp : pc + 1 = pc') (hv : x + y = v)
    (hr : Steps tb e below (T.setTop (mkF m pc' L (.int v :: S))) target) : Steps tb e below (T.setTop (mkF m pc L (.int y :: .int x :: S))) target := by
  subst hv hp; exact XS.iadd h hx rfl hd rfl hr
theorem own_s_ladd (h : At T m c below) (hx : tb.exec = Jvm.exec) {x y v : Int64} (hd : decode c.code pc = .ok (.ladd, 1)) (hp : pc + 1 = pc') (hv : x + y = v)
    (hr : Steps tb e below (T.setTop (mkF m pc' L (.long v :: S))) target) : Steps tb e below (T.setTop (mkF m pc L (.long y :: .long x :: S))) target := by
  subst hv hp; exact XS.ladd h hx rfl hd rfl hr
theorem own_s_isub (h : At T m c below) (hx : tb.exec = Jvm.exec) {x y v : Int32} (hd : decode c.code pc = .ok (.isub, 1)) (hp : pc + 1 = pc') (hv : x - y = v)
    (hr : Steps tb e below (T.setTop (mkF m pc' L (.int v :: S))) target) : Steps tb e below (T.setTop (mkF m pc L (.int y :: .int x :: S))) target := by
  subst hv hp; exact XS.isub h hx rfl hd rfl hr
theorem own_s_lsub (h : At T m c below) (hx : tb.exec = Jvm.exec) {x y v : Int64} (hd : decode c.code pc = .ok (.lsub, 1)) (hp : pc + 1 = pc') (hv : x - y = v)
    (hr : Steps tb e below (T.setTop (mkF m pc' L (.long v :: S))) target) : Steps tb e below (T.setTop (mkF m pc L (.long y :: .long x :: S))) target := by
  subst hv hp; exact XS.lsub h hx rfl hd rfl hr
theorem own_s_imul (h : At T m c below) (hx : tb.exec = Jvm.exec) {x y v : Int32} (hd : decode c.code pc = .ok (.imul, 1)) (hp : pc + 1 = pc') (hv : x * y = v)
    (hr : Steps tb e below (T.setTop (mkF m pc' L (.int v :: S))) target) : Steps tb e below (T.setTop (mkF m pc L (.int y :: .int x :: S))) target := by
  subst hv hp; exact XS.imul h hx rfl hd rfl hr
theorem own_s_lmul (h : At T m c below) (hx : tb.exec = Jvm.exec) {x y v : Int64} (hd : decode c.code pc = .ok (.lmul, 1)) (hp : pc + 1 = pc') (hv : x * y = v)
    (hr : Steps tb e below (T.setTop (mkF m pc' L (.long v :: S))) target) : Steps tb e below (T.setTop (mkF m pc L (.long y :: .long x :: S))) target := by
  subst hv hp; exact XS.lmul h hx rfl hd rfl hr
theorem own_s_iand (h : At T m c below) (hx : tb.exec = Jvm.exec) {x y v : Int32} (hd : decode c.code pc = .ok (.iand, 1)) (hp : pc + 1 = pc') (hv : x &&& y = v)
    (hr : Steps tb e below (T.setTop (mkF m pc' L (.int v :: S))) target) : Steps tb e below (T.setTop (mkF m pc L (.int y :: .int x :: S))) target := by
  subst hv hp; exact XS.iand h hx rfl hd rfl hr
theorem own_s_land (h : At T m c below) (hx : tb.exec = Jvm.exec) {x y v : Int64} (hd : decode c.code pc = .ok (.land, 1)) (hp : pc + 1 = pc') (hv : x &&& y = v)
    (hr : Steps tb e below (T.setTop (mkF m pc' L (.long v :: S))) target) : Steps tb e below (T.setTop (mkF m pc L (.long y :: .long x :: S))) target := by
  subst hv hp; exact XS.land h hx rfl hd rfl hr
theorem own_s_ior (h : At T m c below) (hx : tb.exec = Jvm.exec) {x y v : Int32} (hd : decode c.code pc = .ok (.ior, 1)) (hp : pc + 1 = pc') (hv : x ||| y = v)
    (hr : Steps tb e below (T.setTop (mkF m pc' L (.int v :: S))) target) : Steps tb e below (T.setTop (mkF m pc L (.int y :: .int x :: S))) target := by
  subst hv hp; exact XS.ior h hx rfl hd rfl hr
theorem own_s_lor (h : At T m c below) (hx : tb.exec = Jvm.exec) {x y v : Int64} (hd : decode c.code pc = .ok (.lor, 1)) (hp : pc + 1 = pc') (hv : x ||| y = v)
    (hr : Steps tb e below (T.setTop (mkF m pc' L (.long v :: S))) target) : Steps tb e below (T.setTop (mkF m pc L (.long y :: .long x :: S))) target := by
  subst hv hp; exact XS.lor h hx rfl hd rfl hr
theorem own_s_ixor (h : At T m c below) (hx : tb.exec = Jvm.exec) {x y v : Int32} (hd : decode c.code pc = .ok (.ixor, 1)) (hp : pc + 1 = pc') (hv : x ^^^ y = v)
    (hr : Steps tb e below (T.setTop (mkF m pc' L (.int v :: S))) target) : Steps tb e below (T.setTop (mkF m pc L (.int y :: .int x :: S))) target := by
  subst hv hp; exact XS.ixor h hx rfl hd rfl hr
theorem own_s_lxor (h : At T m c below) (hx : tb.exec = Jvm.exec) {x y v : Int64} (hd : decode c.code pc = .ok (.lxor, 1)) (hp : pc + 1 = pc') (hv : x ^^^ y = v)
    (hr : Steps tb e below (T.setTop (mkF m pc' L (.long v :: S))) target) : Steps tb e below (T.setTop (mkF m pc L (.long y :: .long x :: S))) target := by
  subst hv hp; exact XS.lxor h hx rfl hd rfl hr
theorem own_s_idiv (h : At T m c below) (hx : tb.exec = Jvm.exec) {x y v : Int32} (hd : decode c.code pc = .ok (.idiv, 1)) (hp : pc + 1 = pc') (hy : y ≠ 0) (hv : x / y = v)
    (hr : Steps tb e below (T.setTop (mkF m pc' L (.int v :: S))) target) : Steps tb e below (T.setTop (mkF m pc L (.int y :: .int x :: S))) target := by
  subst hv hp; exact XS.idiv h hx rfl hd rfl hy hr
theorem own_s_irem (h : At T m c below) (hx : tb.exec = Jvm.exec) {x y v : Int32} (hd : decode c.code pc = .ok (.irem, 1)) (hp : pc + 1 = pc') (hy : y ≠ 0) (hv : x % y = v)
    (hr : Steps tb e below (T.setTop (mkF m pc' L (.int v :: S))) target) : Steps tb e below (T.setTop (mkF m pc L (.int y :: .int x :: S))) target := by
  subst hv hp; rw [← irem_eq_mod] at hr; exact XS.irem h hx rfl hd rfl hy hr
theorem own_s_ldiv (h : At T m c below) (hx : tb.exec = Jvm.exec) {x y v : Int64} (hd : decode c.code pc = .ok (.ldiv, 1)) (hp : pc + 1 = pc') (hy : y ≠ 0) (hv : x / y = v)
    (hr : Steps tb e below (T.setTop (mkF m pc' L (.long v :: S))) target) : Steps tb e below (T.setTop (mkF m pc L (.long y :: .long x :: S))) target := by
  subst hv hp; exact XS.ldiv h hx rfl hd rfl hy hr
theorem own_s_lrem (h : At T m c below) (hx : tb.exec = Jvm.exec) {x y v : Int64} (hd : decode c.code pc = .ok (.lrem, 1)) (hp : pc + 1 = pc') (hy : y ≠ 0) (hv : x % y = v)
    (hr : Steps tb e below (T.setTop (mkF m pc' L (.long v :: S))) target) : Steps tb e below (T.setTop (mkF m pc L (.long y :: .long x :: S))) target := by
  subst hv hp; rw [← lrem_mod] at hr; exact XS.lrem h hx rfl hd rfl hy hr
theorem own_s_ishl (h : At T m c below) (hx : tb.exec = Jvm.exec) {x y v : Int32} (hd : decode c.code pc = .ok (.ishl, 1)) (hp : pc + 1 = pc') (hv : x <<< (y &&& 31) = v)
    (hr : Steps tb e below (T.setTop (mkF m pc' L (.int v :: S))) target) : Steps tb e below (T.setTop (mkF m pc L (.int y :: .int x :: S))) target := by
  subst hv hp; exact XS.ishl h hx rfl hd rfl hr
theorem own_s_ishr (h : At T m c below) (hx : tb.exec = Jvm.exec) {x y v : Int32} (hd : decode c.code pc = .ok (.ishr, 1)) (hp : pc + 1 = pc') (hv : x >>> (y &&& 31) = v)
    (hr : Steps tb e below (T.setTop (mkF m pc' L (.int v :: S))) target) : Steps tb e below (T.setTop (mkF m pc L (.int y :: .int x :: S))) target := by
  subst hv hp; exact XS.ishr h hx rfl hd rfl hr
theorem own_s_iushr (h : At T m c below) (hx : tb.exec = Jvm.exec) {x y v : Int32} (hd : decode c.code pc = .ok (.iushr, 1)) (hp : pc + 1 = pc') (hv : (x.toUInt32 >>> (y &&& 31).toUInt32).toInt32 = v)
    (hr : Steps tb e below (T.setTop (mkF m pc' L (.int v :: S))) target) : Steps tb e below (T.setTop (mkF m pc L (.int y :: .int x :: S))) target := by
  subst hv hp; exact XS.iushr h hx rfl hd rfl hr
theorem own_s_lshl (h : At T m c below) (hx : tb.exec = Jvm.exec) {x v : Int64} {y : Int32} (hd : decode c.code pc = .ok (.lshl, 1)) (hp : pc + 1 = pc') (hv : x <<< (y &&& 63).toInt64 = v)
    (hr : Steps tb e below (T.setTop (mkF m pc' L (.long v :: S))) target) : Steps tb e below (T.setTop (mkF m pc L (.int y :: .long x :: S))) target := by
  subst hv hp; exact XS.lshl h hx rfl hd rfl hr
theorem own_s_lshr (h : At T m c below) (hx : tb.exec = Jvm.exec) {x v : Int64} {y : Int32} (hd : decode c.code pc = .ok (.lshr, 1)) (hp : pc + 1 = pc') (hv : x >>> (y &&& 63).toInt64 = v)
    (hr : Steps tb e below (T.setTop (mkF m pc' L (.long v :: S))) target) : Steps tb e below (T.setTop (mkF m pc L (.int y :: .long x :: S))) target := by
  subst hv hp; exact XS.lshr h hx rfl hd rfl hr
theorem own_s_lushr (h : At T m c below) (hx : tb.exec = Jvm.exec) {x v : Int64} {y : Int32} (hd : decode c.code pc = .ok (.lushr, 1)) (hp : pc + 1 = pc') (hv : (x.toUInt64 >>> (y &&& 63).toInt64.toUInt64).toInt64 = v)
    (hr : Steps tb e below (T.setTop (mkF m pc' L (.long v :: S))) target) : Steps tb e below (T.setTop (mkF m pc L (.int y :: .long x :: S))) target := by
  subst hv hp; exact XS.lushr h hx rfl hd rfl hr
theorem own_s_i2l (h : At T m c below) (hx : tb.exec = Jvm.exec) {x : Int32} {v : Int64} (hd : decode c.code pc = .ok (.i2l, 1)) (hp : pc + 1 = pc') (hv : x.toInt64 = v)
    (hr : Steps tb e below (T.setTop (mkF m pc' L (.long v :: S))) target) : Steps tb e below (T.setTop (mkF m pc L (.int x :: S))) target := by
  subst hv hp; exact XS.i2l h hx rfl hd rfl hr
theorem own_s_l2i (h : At T m c below) (hx : tb.exec = Jvm.exec) {x : Int64} {v : Int32} (hd : decode c.code pc = .ok (.l2i, 1)) (hp : pc + 1 = pc') (hv : x.toInt32 = v)
    (hr : Steps tb e below (T.setTop (mkF m pc' L (.int v :: S))) target) : Steps tb e below (T.setTop (mkF m pc L (.long x :: S))) target := by
  subst hv hp; exact XS.l2i h hx rfl hd rfl hr
theorem own_s_i2b (h : At T m c below) (hx : tb.exec = Jvm.exec) {x : Int32} {v : Int32} (hd : decode c.code pc = .ok (.i2b, 1)) (hp : pc + 1 = pc') (hv : x.toInt8.toInt32 = v)
    (hr : Steps tb e below (T.setTop (mkF m pc' L (.int v :: S))) target) : Steps tb e below (T.setTop (mkF m pc L (.int x :: S))) target := by
  subst hv hp; exact XS.i2b h hx rfl hd rfl hr
theorem own_s_i2s (h : At T m c below) (hx : tb.exec = Jvm.exec) {x : Int32} {v : Int32} (hd : decode c.code pc = .ok (.i2s, 1)) (hp : pc + 1 = pc') (hv : x.toInt16.toInt32 = v)
    (hr : Steps tb e below (T.setTop (mkF m pc' L (.int v :: S))) target) : Steps tb e below (T.setTop (mkF m pc L (.int x :: S))) target := by
  subst hv hp; exact XS.i2s h hx rfl hd rfl hr
theorem own_s_ineg (h : At T m c below) (hx : tb.exec = Jvm.exec) {x : Int32} {v : Int32} (hd : decode c.code pc = .ok (.ineg, 1)) (hp : pc + 1 = pc') (hv : -x = v)
    (hr : Steps tb e below (T.setTop (mkF m pc' L (.int v :: S))) target) : Steps tb e below (T.setTop (mkF m pc L (.int x :: S))) target := by
  subst hv hp; exact XS.ineg h hx rfl hd rfl hr
theorem own_s_lneg (h : At T m c below) (hx : tb.exec = Jvm.exec) {x : Int64} {v : Int64} (hd : decode c.code pc = .ok (.lneg, 1)) (hp : pc + 1 = pc') (hv : -x = v)
    (hr : Steps tb e below (T.setTop (mkF m pc' L (.long v :: S))) target) : Steps tb e below (T.setTop (mkF m pc L (.long x :: S))) target := by
  subst hv hp; exact XS.lneg h hx rfl hd rfl hr
theorem own_s_i2d (h : At T m c below) (hx : tb.exec = Jvm.exec) {x : Int32} {v : UInt64} (hd : decode c.code pc = .ok (.i2d, 1)) (hp : pc + 1 = pc') (hv : FP.i2d x = v)
    (hr : Steps tb e below (T.setTop (mkF m pc' L (.double v :: S))) target) : Steps tb e below (T.setTop (mkF m pc L (.int x :: S))) target := by
  subst hv hp; exact XS.i2dS h hx rfl hd rfl rfl hr
theorem own_s_l2d (h : At T m c below) (hx : tb.exec = Jvm.exec) {x : Int64} {v : UInt64} (hd : decode c.code pc = .ok (.l2d, 1)) (hp : pc + 1 = pc') (hv : FP.l2d x = v)
    (hr : Steps tb e below (T.setTop (mkF m pc' L (.double v :: S))) target) : Steps tb e below (T.setTop (mkF m pc L (.long x :: S))) target := by
  subst hv hp; exact XS.l2dS h hx rfl hd rfl rfl hr
theorem own_s_dneg (h : At T m c below) (hx : tb.exec = Jvm.exec) {x : UInt64} {v : UInt64} (hd : decode c.code pc = .ok (.dneg, 1)) (hp : pc + 1 = pc') (hv : FP.dneg x = v)
    (hr : Steps tb e below (T.setTop (mkF m pc' L (.double v :: S))) target) : Steps tb e below (T.setTop (mkF m pc L (.double x :: S))) target := by
  subst hv hp; exact XS.dnegS h hx rfl hd rfl rfl hr
theorem own_s_dadd (h : At T m c below) (hx : tb.exec = Jvm.exec) {x y v : UInt64} (hd : decode c.code pc = .ok (.dadd, 1)) (hp : pc + 1 = pc') (hn : Jvm.Free.Fl.NoNaN64 (FP.dadd x y)) (hv : FP.dadd x y = v)
    (hr : Steps tb e below (T.setTop (mkF m pc' L (.double v :: S))) target) : Steps tb e below (T.setTop (mkF m pc L (.double y :: .double x :: S))) target := by
  subst hv hp; exact XS.daddS h hx rfl hd rfl hn rfl hr
theorem own_s_dsub (h : At T m c below) (hx : tb.exec = Jvm.exec) {x y v : UInt64} (hd : decode c.code pc = .ok (.dsub, 1)) (hp : pc + 1 = pc') (hn : Jvm.Free.Fl.NoNaN64 (FP.dsub x y)) (hv : FP.dsub x y = v)
    (hr : Steps tb e below (T.setTop (mkF m pc' L (.double v :: S))) target) : Steps tb e below (T.setTop (mkF m pc L (.double y :: .double x :: S))) target := by
  subst hv hp; exact XS.dsubS h hx rfl hd rfl hn rfl hr
theorem own_s_dmul (h : At T m c below) (hx : tb.exec = Jvm.exec) {x y v : UInt64} (hd : decode c.code pc = .ok (.dmul, 1)) (hp : pc + 1 = pc') (hn : Jvm.Free.Fl.NoNaN64 (FP.dmul x y)) (hv : FP.dmul x y = v)
    (hr : Steps tb e below (T.setTop (mkF m pc' L (.double v :: S))) target) : Steps tb e below (T.setTop (mkF m pc L (.double y :: .double x :: S))) target := by
  subst hv hp; exact XS.dmulS h hx rfl hd rfl hn rfl hr
theorem own_s_ddiv (h : At T m c below) (hx : tb.exec = Jvm.exec) {x y v : UInt64} (hd : decode c.code pc = .ok (.ddiv, 1)) (hp : pc + 1 = pc') (hn : Jvm.Free.Fl.NoNaN64 (FP.ddiv x y)) (hv : FP.ddiv x y = v)
    (hr : Steps tb e below (T.setTop (mkF m pc' L (.double v :: S))) target) : Steps tb e below (T.setTop (mkF m pc L (.double y :: .double x :: S))) target := by
  subst hv hp; exact XS.ddivS h hx rfl hd rfl hn rfl hr
theorem own_s_dcmp (h : At T m c below) (hx : tb.exec = Jvm.exec) {o : CmpOp} {x y : UInt64} {v : Int32} (hd : decode c.code pc = .ok (.dcmp o, 1)) (hp : pc + 1 = pc') (hv : Op.cmpValue (FP.dcmp x y) o = v)
    (hr : Steps tb e below (T.setTop (mkF m pc' L (.int v :: S))) target) : Steps tb e below (T.setTop (mkF m pc L (.double y :: .double x :: S))) target := by
  subst hv hp; exact XS.dcmpS h hx rfl hd rfl rfl hr
theorem own_s_lcmp (h : At T m c below) (hx : tb.exec = Jvm.exec) {x y : Int64} {v : Int32} (hd : decode c.code pc = .ok (.lcmp, 1)) (hp : pc + 1 = pc') (hv : lcmpW x y = v)
    (hr : Steps tb e below (T.setTop (mkF m pc' L (.int v :: S))) target) : Steps tb e below (T.setTop (mkF m pc L (.long y :: .long x :: S))) target := by
  subst hv hp; exact XS.lcmp h hx rfl hd rfl hr
theorem own_s_iconst (h : At T m c below) (hx : tb.exec = Jvm.exec) {i : Int} {v : Int32} (hd : decode c.code pc = .ok (.iconst i, 1)) (hp : pc + 1 = pc') (hv : Int32.ofInt i = v)
    (hr : Steps tb e below (T.setTop (mkF m pc' L (.int v :: S))) target) : Steps tb e below (T.setTop (mkF m pc L S)) target := by
  subst hv hp; exact XS.iconst h hx rfl hd hr
theorem own_s_bipush (h : At T m c below) (hx : tb.exec = Jvm.exec) {i : Int} {v : Int32} (hd : decode c.code pc = .ok (.bipush i, 2)) (hp : pc + 2 = pc') (hv : (Int8.ofInt i).toInt32 = v)
    (hr : Steps tb e below (T.setTop (mkF m pc' L (.int v :: S))) target) : Steps tb e below (T.setTop (mkF m pc L S)) target := by
  subst hv hp; exact XS.bipush h hx rfl hd hr
theorem own_s_sipush (h : At T m c below) (hx : tb.exec = Jvm.exec) {i : Int} {v : Int32} (hd : decode c.code pc = .ok (.sipush i, 3)) (hp : pc + 3 = pc') (hv : (Int16.ofInt i).toInt32 = v)
    (hr : Steps tb e below (T.setTop (mkF m pc' L (.int v :: S))) target) : Steps tb e below (T.setTop (mkF m pc L S)) target := by
  subst hv hp; exact XS.sipush h hx rfl hd hr
theorem own_s_lconst (h : At T m c below) (hx : tb.exec = Jvm.exec) {k : Fin 2} {v : Int64} (hd : decode c.code pc = .ok (.lconst k, 1)) (hp : pc + 1 = pc') (hv : Int64.ofNat k = v)
    (hr : Steps tb e below (T.setTop (mkF m pc' L (.long v :: S))) target) : Steps tb e below (T.setTop (mkF m pc L S)) target := by
  subst hv hp; exact XS.lconst h hx rfl hd hr
theorem own_s_dconst0 (h : At T m c below) (hx : tb.exec = Jvm.exec)  (hd : decode c.code pc = .ok (.dconst 0, 1)) (hp : pc + 1 = pc') 
    (hr : Steps tb e below (T.setTop (mkF m pc' L (.double 0 :: S))) target) : Steps tb e below (T.setTop (mkF m pc L S)) target := by
  subst hp; exact XS.dconst0 h hx rfl hd rfl hr
theorem own_s_dconst1 (h : At T m c below) (hx : tb.exec = Jvm.exec)  (hd : decode c.code pc = .ok (.dconst 1, 1)) (hp : pc + 1 = pc') 
    (hr : Steps tb e below (T.setTop (mkF m pc' L (.double 4607182418800017408 :: S))) target) : Steps tb e below (T.setTop (mkF m pc L S)) target := by
  subst hp; exact XS.dconst1 h hx rfl hd rfl hr
theorem own_s_aconst_null (h : At T m c below) (hx : tb.exec = Jvm.exec)  (hd : decode c.code pc = .ok (.aconst_null, 1)) (hp : pc + 1 = pc') 
    (hr : Steps tb e below (T.setTop (mkF m pc' L (.null :: S))) target) : Steps tb e below (T.setTop (mkF m pc L S)) target := by
  subst hp; exact XS.aconstNull h hx rfl hd hr
theorem own_s_dup (h : At T m c below) (hx : tb.exec = Jvm.exec) {x : Value} (hd : decode c.code pc = .ok (.dup, 1)) (hp : pc + 1 = pc') (hc : x.category = 1)
    (hr : Steps tb e below (T.setTop (mkF m pc' L (x :: x :: S))) target) : Steps tb e below (T.setTop (mkF m pc L (x :: S))) target := by
  subst hp; exact XS.dup h hx rfl hd rfl hc hr
theorem own_s_dupX1 (h : At T m c below) (hx : tb.exec = Jvm.exec) {x y : Value} (hd : decode c.code pc = .ok (.dup_x1, 1)) (hp : pc + 1 = pc') (hc : x.category = 1) (hc' : y.category = 1)
    (hr : Steps tb e below (T.setTop (mkF m pc' L (x :: y :: x :: S))) target) : Steps tb e below (T.setTop (mkF m pc L (x :: y :: S))) target := by
  subst hp; exact XS.dupX1 h hx rfl hd rfl hc hc' hr
theorem own_s_pop (h : At T m c below) (hx : tb.exec = Jvm.exec) {x : Value} (hd : decode c.code pc = .ok (.pop, 1)) (hp : pc + 1 = pc') (hc : x.category = 1)
    (hr : Steps tb e below (T.setTop (mkF m pc' L S)) target) : Steps tb e below (T.setTop (mkF m pc L (x :: S))) target := by
  subst hp; exact XS.pop h hx rfl hd rfl hc hr
theorem own_s_iloadN (h : At T m c below) (hx : tb.exec = Jvm.exec) {k : Fin 4} {v : Int32} (hd : decode c.code pc = .ok (.iload_n k, 1)) (hp : pc + 1 = pc') (hl : L[k.val]? = some (.val (.int v)))
    (hr : Steps tb e below (T.setTop (mkF m pc' L (.int v :: S))) target) : Steps tb e below (T.setTop (mkF m pc L S)) target := by
  subst hp; exact XS.iloadN h hx rfl hd hl hr
theorem own_s_iload (h : At T m c below) (hx : tb.exec = Jvm.exec) {k : Nat} {v : Int32} (hd : decode c.code pc = .ok (.iload k, 2)) (hp : pc + 2 = pc') (hl : L[k]? = some (.val (.int v)))
    (hr : Steps tb e below (T.setTop (mkF m pc' L (.int v :: S))) target) : Steps tb e below (T.setTop (mkF m pc L S)) target := by
  subst hp; exact XS.iload h hx rfl hd hl hr
theorem own_s_istoreN (h : At T m c below) (hx : tb.exec = Jvm.exec) {k : Fin 4} {v : Int32} {L' : Array Slot} (hd : decode c.code pc = .ok (.istore_n k, 1)) (hp : pc + 1 = pc') (hl : storeLocals L k.val (.int v) = some L')
    (hr : Steps tb e below (T.setTop (mkF m pc' L' S)) target) : Steps tb e below (T.setTop (mkF m pc L (.int v :: S))) target := by
  subst hp; exact XS.istoreN h hx rfl hd rfl hl hr
theorem own_s_istore (h : At T m c below) (hx : tb.exec = Jvm.exec) {k : Nat} {v : Int32} {L' : Array Slot} (hd : decode c.code pc = .ok (.istore k, 2)) (hp : pc + 2 = pc') (hl : storeLocals L k (.int v) = some L')
    (hr : Steps tb e below (T.setTop (mkF m pc' L' S)) target) : Steps tb e below (T.setTop (mkF m pc L (.int v :: S))) target := by
  subst hp; exact XS.istore h hx rfl hd rfl hl hr
theorem own_s_lloadN (h : At T m c below) (hx : tb.exec = Jvm.exec) {k : Fin 4} {v : Int64} (hd : decode c.code pc = .ok (.lload_n k, 1)) (hp : pc + 1 = pc') (hl : L[k.val]? = some (.val (.long v)))
    (hr : Steps tb e below (T.setTop (mkF m pc' L (.long v :: S))) target) : Steps tb e below (T.setTop (mkF m pc L S)) target := by
  subst hp; exact XS.lloadN h hx rfl hd hl hr
theorem own_s_lload (h : At T m c below) (hx : tb.exec = Jvm.exec) {k : Nat} {v : Int64} (hd : decode c.code pc = .ok (.lload k, 2)) (hp : pc + 2 = pc') (hl : L[k]? = some (.val (.long v)))
    (hr : Steps tb e below (T.setTop (mkF m pc' L (.long v :: S))) target) : Steps tb e below (T.setTop (mkF m pc L S)) target := by
  subst hp; exact XS.lload h hx rfl hd hl hr
theorem own_s_lstoreN (h : At T m c below) (hx : tb.exec = Jvm.exec) {k : Fin 4} {v : Int64} {L' : Array Slot} (hd : decode c.code pc = .ok (.lstore_n k, 1)) (hp : pc + 1 = pc') (hl : storeLocals L k.val (.long v) = some L')
    (hr : Steps tb e below (T.setTop (mkF m pc' L' S)) target) : Steps tb e below (T.setTop (mkF m pc L (.long v :: S))) target := by
  subst hp; exact XS.lstoreN h hx rfl hd rfl hl hr
theorem own_s_lstore (h : At T m c below) (hx : tb.exec = Jvm.exec) {k : Nat} {v : Int64} {L' : Array Slot} (hd : decode c.code pc = .ok (.lstore k, 2)) (hp : pc + 2 = pc') (hl : storeLocals L k (.long v) = some L')
    (hr : Steps tb e below (T.setTop (mkF m pc' L' S)) target) : Steps tb e below (T.setTop (mkF m pc L (.long v :: S))) target := by
  subst hp; exact XS.lstore h hx rfl hd rfl hl hr
theorem own_s_dloadN (h : At T m c below) (hx : tb.exec = Jvm.exec) {k : Fin 4} {v : UInt64} (hd : decode c.code pc = .ok (.dload_n k, 1)) (hp : pc + 1 = pc') (hl : L[k.val]? = some (.val (.double v)))
    (hr : Steps tb e below (T.setTop (mkF m pc' L (.double v :: S))) target) : Steps tb e below (T.setTop (mkF m pc L S)) target := by
  subst hp; exact XS.dloadN h hx rfl hd hl hr
theorem own_s_dload (h : At T m c below) (hx : tb.exec = Jvm.exec) {k : Nat} {v : UInt64} (hd : decode c.code pc = .ok (.dload k, 2)) (hp : pc + 2 = pc') (hl : L[k]? = some (.val (.double v)))
    (hr : Steps tb e below (T.setTop (mkF m pc' L (.double v :: S))) target) : Steps tb e below (T.setTop (mkF m pc L S)) target := by
  subst hp; exact XS.dload h hx rfl hd hl hr
theorem own_s_dstoreN (h : At T m c below) (hx : tb.exec = Jvm.exec) {k : Fin 4} {v : UInt64} {L' : Array Slot} (hd : decode c.code pc = .ok (.dstore_n k, 1)) (hp : pc + 1 = pc') (hl : storeLocals L k.val (.double v) = some L')
    (hr : Steps tb e below (T.setTop (mkF m pc' L' S)) target) : Steps tb e below (T.setTop (mkF m pc L (.double v :: S))) target := by
  subst hp; exact XS.dstoreN h hx rfl hd rfl hl hr
theorem own_s_dstore (h : At T m c below) (hx : tb.exec = Jvm.exec) {k : Nat} {v : UInt64} {L' : Array Slot} (hd : decode c.code pc = .ok (.dstore k, 2)) (hp : pc + 2 = pc') (hl : storeLocals L k (.double v) = some L')
    (hr : Steps tb e below (T.setTop (mkF m pc' L' S)) target) : Steps tb e below (T.setTop (mkF m pc L (.double v :: S))) target := by
  subst hp; exact XS.dstore h hx rfl hd rfl hl hr
theorem own_s_aloadN (h : At T m c below) (hx : tb.exec = Jvm.exec) {k : Fin 4} {v : Value} (hd : decode c.code pc = .ok (.aload_n k, 1)) (hp : pc + 1 = pc') (hl : L[k.val]? = some (.val v)) (hr0 : v.isRef = true)
    (hr : Steps tb e below (T.setTop (mkF m pc' L (v :: S))) target) : Steps tb e below (T.setTop (mkF m pc L S)) target := by
  subst hp; exact XS.aloadN h hx rfl hd hl hr0 hr
theorem own_s_aload (h : At T m c below) (hx : tb.exec = Jvm.exec) {k : Nat} {v : Value} (hd : decode c.code pc = .ok (.aload k, 2)) (hp : pc + 2 = pc') (hl : L[k]? = some (.val v)) (hr0 : v.isRef = true)
    (hr : Steps tb e below (T.setTop (mkF m pc' L (v :: S))) target) : Steps tb e below (T.setTop (mkF m pc L S)) target := by
  subst hp; exact XS.aload h hx rfl hd hl hr0 hr
theorem own_s_astoreN (h : At T m c below) (hx : tb.exec = Jvm.exec) {k : Fin 4} {v : Value} {L' : Array Slot} (hd : decode c.code pc = .ok (.astore_n k, 1)) (hp : pc + 1 = pc') (hr0 : v.isRef = true) (hl : storeLocals L k.val v = some L')
    (hr : Steps tb e below (T.setTop (mkF m pc' L' S)) target) : Steps tb e below (T.setTop (mkF m pc L (v :: S))) target := by
  subst hp; exact XS.astoreN h hx rfl hd rfl hr0 hl hr
theorem own_s_astore (h : At T m c below) (hx : tb.exec = Jvm.exec) {k : Nat} {v : Value} {L' : Array Slot} (hd : decode c.code pc = .ok (.astore k, 2)) (hp : pc + 2 = pc') (hr0 : v.isRef = true) (hl : storeLocals L k v = some L')
    (hr : Steps tb e below (T.setTop (mkF m pc' L' S)) target) : Steps tb e below (T.setTop (mkF m pc L (v :: S))) target := by
  subst hp; exact XS.astore h hx rfl hd rfl hr0 hl hr
theorem own_s_iinc (h : At T m c below) (hx : tb.exec = Jvm.exec) {k : Nat} {cst : Int} {x v : Int32} {L' : Array Slot} (hd : decode c.code pc = .ok (.iinc k cst, 3)) (hp : pc + 3 = pc') (hl : L[k]? = some (.val (.int x))) (hv : x + Int32.ofInt cst = v) (hl' : storeLocals L k (.int v) = some L')
    (hr : Steps tb e below (T.setTop (mkF m pc' L' S)) target) : Steps tb e below (T.setTop (mkF m pc L S)) target := by
  subst hv hp; exact XS.iinc h hx rfl hd hl hl' hr
theorem own_s_goto (h : At T m c below) (hx : tb.exec = Jvm.exec)  {o : Int} (hd : decode c.code pc = .ok (.goto o, 3)) (ho : 0 ≤ (pc : Int) + o) (hp : ((pc : Int) + o).toNat = pc') 
    (hr : Steps tb e below (T.setTop (mkF m pc' L S)) target) : Steps tb e below (T.setTop (mkF m pc L S)) target := by
  exact XS.goto h hx rfl rfl hd ho hp hr
theorem own_s_ifYes (h : At T m c below) (hx : tb.exec = Jvm.exec) {cd : ClassFile.Cond} {x : Int32} {o : Int} (hd : decode c.code pc = .ok (.ifCond cd o, 3)) (ho : 0 ≤ (pc : Int) + o) (hp : ((pc : Int) + o).toNat = pc') (hc : ifCond.holds cd x = true)
    (hr : Steps tb e below (T.setTop (mkF m pc' L S)) target) : Steps tb e below (T.setTop (mkF m pc L (.int x :: S))) target := by
  exact XS.ifYes h hx rfl rfl hd rfl hc ho hp hr
theorem own_s_icmpYes (h : At T m c below) (hx : tb.exec = Jvm.exec) {cd : ClassFile.Cond} {x y : Int32} {o : Int} (hd : decode c.code pc = .ok (.if_icmp cd o, 3)) (ho : 0 ≤ (pc : Int) + o) (hp : ((pc : Int) + o).toNat = pc') (hc : if_icmp.holds cd x y = true)
    (hr : Steps tb e below (T.setTop (mkF m pc' L S)) target) : Steps tb e below (T.setTop (mkF m pc L (.int y :: .int x :: S))) target := by
  exact XS.icmpYes h hx rfl rfl hd rfl hc ho hp hr
theorem own_s_ifNo (h : At T m c below) (hx : tb.exec = Jvm.exec) {cd : ClassFile.Cond} {o : Int} {x : Int32} (hd : decode c.code pc = .ok (.ifCond cd o, 3)) (hp : pc + 3 = pc') (hc : ifCond.holds cd x = false)
    (hr : Steps tb e below (T.setTop (mkF m pc' L S)) target) : Steps tb e below (T.setTop (mkF m pc L (.int x :: S))) target := by
  subst hp; exact XS.ifNo h hx rfl hd rfl hc hr
theorem own_s_icmpNo (h : At T m c below) (hx : tb.exec = Jvm.exec) {cd : ClassFile.Cond} {o : Int} {x y : Int32} (hd : decode c.code pc = .ok (.if_icmp cd o, 3)) (hp : pc + 3 = pc') (hc : if_icmp.holds cd x y = false)
    (hr : Steps tb e below (T.setTop (mkF m pc' L S)) target) : Steps tb e below (T.setTop (mkF m pc L (.int y :: .int x :: S))) target := by
  subst hp; exact XS.icmpNo h hx rfl hd rfl hc hr
theorem own_s_ifnullYes (h : At T m c below) (hx : tb.exec = Jvm.exec)  {o : Int} (hd : decode c.code pc = .ok (.ifnull o, 3)) (ho : 0 ≤ (pc : Int) + o) (hp : ((pc : Int) + o).toNat = pc') 
    (hr : Steps tb e below (T.setTop (mkF m pc' L S)) target) : Steps tb e below (T.setTop (mkF m pc L (.null :: S))) target := by
  exact XS.ifnullYes h hx rfl rfl hd rfl ho hp hr
theorem own_s_ifnullNo (h : At T m c below) (hx : tb.exec = Jvm.exec) {o : Int} {b : Addr} (hd : decode c.code pc = .ok (.ifnull o, 3)) (hp : pc + 3 = pc') 
    (hr : Steps tb e below (T.setTop (mkF m pc' L S)) target) : Steps tb e below (T.setTop (mkF m pc L (.ref b :: S))) target := by
  subst hp; exact XS.ifnullNo h hx rfl hd rfl hr
theorem own_s_ifnonnullYes (h : At T m c below) (hx : tb.exec = Jvm.exec) {b : Addr} {o : Int} (hd : decode c.code pc = .ok (.ifnonnull o, 3)) (ho : 0 ≤ (pc : Int) + o) (hp : ((pc : Int) + o).toNat = pc') 
    (hr : Steps tb e below (T.setTop (mkF m pc' L S)) target) : Steps tb e below (T.setTop (mkF m pc L (.ref b :: S))) target := by
  exact XS.ifnonnullYes h hx rfl rfl hd rfl ho hp hr
theorem own_s_ifnonnullNo (h : At T m c below) (hx : tb.exec = Jvm.exec) {o : Int} (hd : decode c.code pc = .ok (.ifnonnull o, 3)) (hp : pc + 3 = pc') 
    (hr : Steps tb e below (T.setTop (mkF m pc' L S)) target) : Steps tb e below (T.setTop (mkF m pc L (.null :: S))) target := by
  subst hp; exact XS.ifnonnullNo h hx rfl hd rfl hr
end OwnStep
section OwnHeap
open Jvm Jvm.ClassFile Sem Op Lib Jvm.Free Jvm.Stand Jvm.LawKit Jvm.RoadKit
variable {p : Program} {l : Launch} {e : Env} {R : Room} {s : State} {m : MethodId} {args : Array Value} {below : List Frame} {meth : Method} {c : Code} {T : State} {locs : List Loc} {cells slots : Nat} {Z : State} {a0 : Array Value} {h : Heap} {pc pc' : Nat} {L : Array Slot} {S : List Value} {a : Addr} {k : ClassId} {z : Int32} {vs : List Value} {dv : Value}
theorem own_newD (X : Stand p l e R s m args below meth c T locs cells slots) (hx : p.tables.exec = Jvm.exec) (hZ : Z.Warmed39 s.vm) (w : (Jvm.Cond.arrayClass .double).before a0 Z = true) (eT : T.heap = h) (n : Nat) (hz : z.toNatClampNeg = n) (hz0 : ¬ z < 0) (hb : n * 8 ≤ 536870912) (hc : cells + 1 ≤ R.cells) (hl : slots + n ≤ R.slots) (hd : decode c.code pc = .ok (.newarray .double, 2)) (hp : pc + 2 = pc') :
    ∃ T' h' k b, Stand p l e R s m args below meth c T' locs (cells + 1) (slots + n) ∧ T'.heap = h' ∧ Ext h h' ∧ b = h.size ∧ Arv Z h' b k .double z (List.replicate n (.double 0)) (.double 0) ∧ ∀ target, Steps p.tables e below (T'.setTop (mkF m pc' L (.ref b :: S))) target → Steps p.tables e below (T.setTop (mkF m pc L (.int z :: S))) target := by
  subst hp
  obtain ⟨T', h', k, X', e', E, A, st⟩ := newP X hx hZ (aty := .double) w eT (g := mkF m pc L (.int z :: S)) rfl hd rfl hz0 (cap := n) (Nat.le_of_eq hz) hb hc hl
  exact ⟨T', h', k, h.size, X', e', E, rfl, (Arv.new A hz0).pad (pad_rep [] (.double 0) n), st⟩
theorem own_newJ (X : Stand p l e R s m args below meth c T locs cells slots) (hx : p.tables.exec = Jvm.exec) (hZ : Z.Warmed39 s.vm) (w : (Jvm.Cond.arrayClass .long).before a0 Z = true) (eT : T.heap = h) (n : Nat) (hz : z.toNatClampNeg = n) (hz0 : ¬ z < 0) (hb : n * 8 ≤ 536870912) (hc : cells + 1 ≤ R.cells) (hl : slots + n ≤ R.slots) (hd : decode c.code pc = .ok (.newarray .long, 2)) (hp : pc + 2 = pc') :
    ∃ T' h' k b, Stand p l e R s m args below meth c T' locs (cells + 1) (slots + n) ∧ T'.heap = h' ∧ Ext h h' ∧ b = h.size ∧ Arv Z h' b k .long z (List.replicate n (.long 0)) (.long 0) ∧ ∀ target, Steps p.tables e below (T'.setTop (mkF m pc' L (.ref b :: S))) target → Steps p.tables e below (T.setTop (mkF m pc L (.int z :: S))) target := by
  subst hp
  obtain ⟨T', h', k, X', e', E, A, st⟩ := newP X hx hZ (aty := .long) w eT (g := mkF m pc L (.int z :: S)) rfl hd rfl hz0 (cap := n) (Nat.le_of_eq hz) hb hc hl
  exact ⟨T', h', k, h.size, X', e', E, rfl, (Arv.new A hz0).pad (pad_rep [] (.long 0) n), st⟩
theorem own_stD (X : Stand p l e R s m args below meth c T locs cells slots) (hx : p.tables.exec = Jvm.exec) (hZ : Z.Warmed39 s.vm) (eT : T.heap = h) (V : Arv Z h a k .double z vs dv) {j : Int32} {x : UInt64} (hj : ¬ j < 0 ∧ j < z) (i : Nat) (hi : j.toNatClampNeg = i) (hl : i < vs.length) (hd : decode c.code pc = .ok (.dastore, 1)) (hp : pc + 1 = pc') :
    ∃ T' h', Stand p l e R s m args below meth c T' (locs ++ [⟨a, j.toNatClampNeg⟩]) cells slots ∧ T'.heap = h' ∧ Wr h h' a j.toNatClampNeg (.double x) ∧ Arv Z h' a k .double z (vs.set i (.double x)) dv ∧ ∀ target, Steps p.tables e below (T'.setTop (mkF m pc' L S)) target → Steps p.tables e below (T.setTop (mkF m pc L (.double x :: .int j :: .ref a :: S))) target := by
  subst hp
  obtain ⟨cl, A, q1, S1, q3, H, G⟩ := V
  obtain ⟨T', h', X', e', W, st⟩ := stD X hx hZ eT A (j := j) (x := x) (inb_of S1 hj) (g := mkF m pc L (.double x :: .int j :: .ref a :: S)) rfl rfl hd
  exact ⟨T', h', X', e', W, Arv.set A q1 S1 q3 H G rfl W i hi hl, st⟩
theorem own_ldD (X : Stand p l e R s m args below meth c T locs cells slots) (hx : p.tables.exec = Jvm.exec) (hZ : Z.Warmed39 s.vm) (eT : T.heap = h) (V : Arv Z h a k .double z vs dv) {j : Int32} {x : UInt64} (hj : ¬ j < 0 ∧ j < z) (hv : vs.getD j.toNatClampNeg dv = .double x) (hd : decode c.code pc = .ok (.daload, 1)) (hp : pc + 1 = pc') {target : State}
    (hr : Steps p.tables e below (T.setTop (mkF m pc' L (.double x :: S))) target) : Steps p.tables e below (T.setTop (mkF m pc L (.int j :: .ref a :: S))) target := by
  subst hp
  obtain ⟨cl, A, q1, S1, q3, H, G⟩ := V
  exact X.daload hx (j := j) (v := .double x) (by rw [eT]; exact A.1) (State.isArrayOf_alike hZ.alike A.2.1) A.2.2 (inb_of S1 hj) (H.at (inb_of S1 hj) hv) (g := mkF m pc L (.int j :: .ref a :: S)) rfl rfl hd target hr
theorem own_len {ty : FieldType} (X : Stand p l e R s m args below meth c T locs cells slots) (hx : p.tables.exec = Jvm.exec) (hZ : Z.Warmed39 s.vm) (eT : T.heap = h) (V : Arv Z h a k ty z vs dv) (hd : decode c.code pc = .ok (.arraylength, 1)) (hp : pc + 1 = pc') {target : State}
    (hr : Steps p.tables e below (T.setTop (mkF m pc' L (.int z :: S))) target) : Steps p.tables e below (T.setTop (mkF m pc L (.ref a :: S))) target := by
  subst hp
  obtain ⟨cl, A, q1, S1, q3, H, G⟩ := V
  refine X.arraylength hx (by rw [eT]; exact A.1) (State.isArrayOf_alike hZ.alike A.2.1) (g := mkF m pc L (.ref a :: S)) rfl rfl hd target ?_
  rw [len_of S1 q3]
  exact hr
theorem own_retI (X : Stand p l e R s m args below meth c T locs cells slots) (hx : p.tables.exec = Jvm.exec) {x : Int32} (hret : meth.sig.returnType = some .int) (hd : decode c.code pc = .ok (.ireturn, 1)) {fs : List Frame}
    (hl : ∀ (f : JFrame) (acts : List Action), f.method = m → f.locked = none → f.entered = [] → (doReturn e (T.setTop f) acts (some (.int x))).1 = T.setFrames fs) : Steps p.tables e below (T.setTop (mkF m pc L (.int x :: S))) (T.setFrames fs) := by
  have hm' : T.vm.method? m = some meth := X.method'
  have hn : narrow .int (.int x) = .int x := rfl
  show Steps p.tables e below (T.setTop { method := m, pc := pc, locals := L, stack := _ :: S, locked := none }) _
  jvm_step X.here [X.here.top, hx, hd, hm', hret, hn]
  first | (intro acts; rw [hl _ acts rfl rfl rfl]) | rw [hl _ _ rfl rfl rfl]
  exact Steps.refl _
theorem own_retD (X : Stand p l e R s m args below meth c T locs cells slots) (hx : p.tables.exec = Jvm.exec) {x : UInt64} (hret : meth.sig.returnType = some .double) (hd : decode c.code pc = .ok (.dreturn, 1)) {fs : List Frame}
    (hl : ∀ (f : JFrame) (acts : List Action), f.method = m → f.locked = none → f.entered = [] → (doReturn e (T.setTop f) acts (some (.double x))).1 = T.setFrames fs) : Steps p.tables e below (T.setTop (mkF m pc L (.double x :: S))) (T.setFrames fs) := by
  have hm' : T.vm.method? m = some meth := X.method'
  show Steps p.tables e below (T.setTop { method := m, pc := pc, locals := L, stack := _ :: S, locked := none }) _
  jvm_step X.here [X.here.top, hx, hd, hm', hret, narrow]
  first | (intro acts; rw [hl _ acts rfl rfl rfl]) | rw [hl _ _ rfl rfl rfl]
  exact Steps.refl _
theorem own_retJ (X : Stand p l e R s m args below meth c T locs cells slots) (hx : p.tables.exec = Jvm.exec) {x : Int64} (hret : meth.sig.returnType = some .long) (hd : decode c.code pc = .ok (.lreturn, 1)) {fs : List Frame}
    (hl : ∀ (f : JFrame) (acts : List Action), f.method = m → f.locked = none → f.entered = [] → (doReturn e (T.setTop f) acts (some (.long x))).1 = T.setFrames fs) : Steps p.tables e below (T.setTop (mkF m pc L (.long x :: S))) (T.setFrames fs) := by
  have hm' : T.vm.method? m = some meth := X.method'
  show Steps p.tables e below (T.setTop { method := m, pc := pc, locals := L, stack := _ :: S, locked := none }) _
  jvm_step X.here [X.here.top, hx, hd, hm', hret, narrow]
  first | (intro acts; rw [hl _ acts rfl rfl rfl]) | rw [hl _ _ rfl rfl rfl]
  exact Steps.refl _
theorem own_retR (X : Stand p l e R s m args below meth c T locs cells slots) (hx : p.tables.exec = Jvm.exec) {b : Addr} {t : FieldType} (hret : meth.sig.returnType = some t) (ht : t.isReference = true) (hd : decode c.code pc = .ok (.areturn, 1)) {fs : List Frame}
    (hl : ∀ (f : JFrame) (acts : List Action), f.method = m → f.locked = none → f.entered = [] → (doReturn e (T.setTop f) acts (some (.ref b))).1 = T.setFrames fs) : Steps p.tables e below (T.setTop (mkF m pc L (.ref b :: S))) (T.setFrames fs) := by
  have hm' : T.vm.method? m = some meth := X.method'
  show Steps p.tables e below (T.setTop { method := m, pc := pc, locals := L, stack := _ :: S, locked := none }) _
  jvm_step X.here [X.here.top, hx, hd, hm', hret, Value.isRef, ht]
  first | (intro acts; rw [hl _ acts rfl rfl rfl]) | rw [hl _ _ rfl rfl rfl]
  exact Steps.refl _
end OwnHeap
open Jvm Jvm.ClassFile Sem Op Lib Jvm.Free Jvm.Stand Jvm.LawKit Jvm.RoadKit Bundle Jvm.Pilot.@@N@@.Jvm.D
def own_Q0 (n0 : Nat) (v : Option Value) (h : Heap) (L : List Loc) : Prop := v = some (.int 1) ∧ Fr n0 L
def own_QP (r : Option Value) (h0 : Heap) (n0 : Nat) (v : Option Value) (h : Heap) (L : List Loc) : Prop := v = r ∧ Fr n0 L ∧ h = h0
theorem own_ge1 {v : Int32} (h : 1 ≤ v.toInt) : if_icmp.holds .ge v 1 = true := XT.ii_ge_t (fun q => by have q1 := Int32.lt_iff_toInt_lt.mp q; rw [show (1 : Int32).toInt = 1 from rfl] at q1; omega)
theorem own_d2_0 : decode prog_2_method_3_code 0 = .ok (.aload_n 0, 1) := by decide +kernel
theorem own_d2_1 : decode prog_2_method_3_code 1 = .ok (.invokespecial 14, 3) := by decide +kernel
theorem own_d2_4 : decode prog_2_method_3_code 4 = .ok (.dload_n 1, 1) := by decide +kernel
theorem own_d2_5 : decode prog_2_method_3_code 5 = .ok (.dconst 0, 1) := by decide +kernel
theorem own_d2_6 : decode prog_2_method_3_code 6 = .ok (.dcmp .l, 1) := by decide +kernel
theorem own_d2_7 : decode prog_2_method_3_code 7 = .ok (.ifCond .lt 11, 3) := by decide +kernel
theorem own_d2_10 : decode prog_2_method_3_code 10 = .ok (.dload_n 1, 1) := by decide +kernel
theorem own_d2_11 : decode prog_2_method_3_code 11 = .ok (.ldc2_w 21, 3) := by decide +kernel
theorem own_d2_14 : decode prog_2_method_3_code 14 = .ok (.dcmp .g, 1) := by decide +kernel
theorem own_d2_15 : decode prog_2_method_3_code 15 = .ok (.ifCond .lt 17, 3) := by decide +kernel
theorem own_d2_32 : decode prog_2_method_3_code 32 = .ok (.dload_n 3, 1) := by decide +kernel
theorem own_d2_33 : decode prog_2_method_3_code 33 = .ok (.dconst 0, 1) := by decide +kernel
theorem own_d2_34 : decode prog_2_method_3_code 34 = .ok (.dcmp .l, 1) := by decide +kernel
theorem own_d2_35 : decode prog_2_method_3_code 35 = .ok (.ifCond .lt 9, 3) := by decide +kernel
theorem own_d2_38 : decode prog_2_method_3_code 38 = .ok (.dload_n 3, 1) := by decide +kernel
theorem own_d2_39 : decode prog_2_method_3_code 39 = .ok (.dconst 1, 1) := by decide +kernel
theorem own_d2_40 : decode prog_2_method_3_code 40 = .ok (.dcmp .g, 1) := by decide +kernel
theorem own_d2_41 : decode prog_2_method_3_code 41 = .ok (.ifCond .le 17, 3) := by decide +kernel
theorem own_d2_58 : decode prog_2_method_3_code 58 = .ok (.dload 5, 2) := by decide +kernel
theorem own_d2_60 : decode prog_2_method_3_code 60 = .ok (.dconst 0, 1) := by decide +kernel
theorem own_d2_61 : decode prog_2_method_3_code 61 = .ok (.dcmp .l, 1) := by decide +kernel
theorem own_d2_62 : decode prog_2_method_3_code 62 = .ok (.ifCond .lt 12, 3) := by decide +kernel
theorem own_d2_65 : decode prog_2_method_3_code 65 = .ok (.dload 5, 2) := by decide +kernel
theorem own_d2_67 : decode prog_2_method_3_code 67 = .ok (.ldc2_w 21, 3) := by decide +kernel
theorem own_d2_70 : decode prog_2_method_3_code 70 = .ok (.dcmp .g, 1) := by decide +kernel
theorem own_d2_71 : decode prog_2_method_3_code 71 = .ok (.ifCond .lt 18, 3) := by decide +kernel
theorem own_d2_89 : decode prog_2_method_3_code 89 = .ok (.aload_n 0, 1) := by decide +kernel
theorem own_d2_90 : decode prog_2_method_3_code 90 = .ok (.dload_n 1, 1) := by decide +kernel
theorem own_d2_91 : decode prog_2_method_3_code 91 = .ok (.putfield 34, 3) := by decide +kernel
theorem own_d2_94 : decode prog_2_method_3_code 94 = .ok (.aload_n 0, 1) := by decide +kernel
theorem own_d2_95 : decode prog_2_method_3_code 95 = .ok (.dload_n 3, 1) := by decide +kernel
theorem own_d2_96 : decode prog_2_method_3_code 96 = .ok (.putfield 38, 3) := by decide +kernel
theorem own_d2_99 : decode prog_2_method_3_code 99 = .ok (.aload_n 0, 1) := by decide +kernel
theorem own_d2_100 : decode prog_2_method_3_code 100 = .ok (.dload 5, 2) := by decide +kernel
theorem own_d2_102 : decode prog_2_method_3_code 102 = .ok (.putfield 41, 3) := by decide +kernel
theorem own_d2_105 : decode prog_2_method_3_code 105 = .ok (.return_, 1) := by decide +kernel
theorem own_pn_com_example_tally_odds_tallyodds_Bm25 : plainName "com/example/tally_odds/tallyodds/Bm25" = true := by first | (simp [plainName, overriddenIn]; done) | decide +kernel
theorem own_ef_i (m : MethodId) (oa : Addr) (x : UInt64) (y : UInt64) (z : UInt64) : entryFrame m #[(.ref oa), (.double x), (.double y), (.double z)] 7 = mkF m 0 #[.val (.ref oa), .val (.double x), .second, .val (.double y), .second, .val (.double z), .second] [] := by first | (simp [entryFrame, mkF, argsToLocals, Value.category]; done) | rfl
def own_Q_i (Z : State) (oa : Addr) (x : UInt64) (y : UInt64) (z : UInt64) (h0 : Heap) (n0 : Nat) (v : Option Value) (h : Heap) (L : List Loc) : Prop := v = none ∧ Fr n0 L ∧ Keep h0 h [oa] ∧ Exa Z h oa "com/example/tally_odds/tallyodds/Bm25" ∧ Fld Z h oa "com/example/tally_odds/tallyodds/Bm25" "k1" "D" (.double x) ∧ Fld Z h oa "com/example/tally_odds/tallyodds/Bm25" "b" "D" (.double y) ∧ Fld Z h oa "com/example/tally_odds/tallyodds/Bm25" "k3" "D" (.double z)
set_option maxRecDepth 65536 in
set_option maxHeartbeats 40000000 in
theorem own_rm_i (l : Launch) (Z : State) (a0 : Array Value) (hw : ∀ d ∈ tables_1, d.before a0 Z = true) (ws : List Jvm.Cond) (oa : Addr) (x : UInt64) (y : UInt64) (z : UInt64)  (h0 : Heap) (n0 : Nat) (Z0 : n0 ≤ h0.size) (E_oa : Exa Z h0 oa "com/example/tally_odds/tallyodds/Bm25") (F_k1_oa : Fld Z h0 oa "com/example/tally_odds/tallyodds/Bm25" "k1" "D" (.double 0)) (F_b_oa : Fld Z h0 oa "com/example/tally_odds/tallyodds/Bm25" "b" "D" (.double 0)) (F_k3_oa : Fld Z h0 oa "com/example/tally_odds/tallyodds/Bm25" "k3" "D" (.double 0)) (g_oa : n0 ≤ oa) (i_hb7 : ifCond.holds .lt (Op.cmpValue (FP.dcmp x 0) .l) = false) (i_hb15 : ifCond.holds .lt (Op.cmpValue (FP.dcmp x (9218868437227405312 : UInt64)) .g) = true) (i_hb35 : ifCond.holds .lt (Op.cmpValue (FP.dcmp y 0) .l) = false) (i_hb41 : ifCond.holds .le (Op.cmpValue (FP.dcmp y 4607182418800017408) .g) = true) (i_hb62 : ifCond.holds .lt (Op.cmpValue (FP.dcmp z 0) .l) = false) (i_hb71 : ifCond.holds .lt (Op.cmpValue (FP.dcmp z (9218868437227405312 : UInt64)) .g) = true) :
    MetFree l (⟨"com/example/tally_odds/tallyodds/Bm25", "<init>", "(DDD)V"⟩ : MethodName) (head1 (Jvm.Cond.code (⟨"com/example/tally_odds/tallyodds/Bm25", "<init>", "(DDD)V"⟩ : MethodName) prog_2_method_3_code 7 none :: ws) ({ frames := 1, cells := 0, slots := 0, locals := 12 } : Room)) (fun a U => a = #[(.ref oa), (.double x), (.double y), (.double z)] ∧ Z.Warmed39 U.vm ∧ U.heap = h0) (fun _ _ _ _ _ => True) (fun _ U o U' => ∃ v L, o = .returned v ∧ own_Q_i Z oa x y z h0 n0 v U'.heap L ∧ FrameEnd U o U' L ({ frames := 1, cells := 0, slots := 0, locals := 12 } : Room).cells ({ frames := 1, cells := 0, slots := 0, locals := 12 } : Room).slots) := by
  refine MetFree.of_bodySF (plainFor_of_name own_pn_com_example_tally_odds_tallyodds_Bm25) hisR ?_
  intro p e s m args below meth c s₁ Bd hml0 hP hK
  obtain ⟨rfl, hZ, hh⟩ := hP
  have hx := Bd.exec
  have hby := Bd.bytes
  have hml : c.maxLocals = 7 := hml0
  have hown : s.vm.findClass "com/example/tally_odds/tallyodds/Bm25" = some m.cls := findClass_of_methodNamed Bd.named
  have hnm := (name_of_methodNamed Bd.named Bd.method).1
  have X0 : Stand p l e ({ frames := 1, cells := 0, slots := 0, locals := 12 } : Room) s m #[(.ref oa), (.double x), (.double y), (.double z)] below meth c s₁ [] 0 0 := Stand.of_body Bd
  have e0 : s₁.heap = h0 := by rw [← hh, Bd.state]; rfl
  have N0 := Fr.nil n0
  have pre0 : ∀ t, Steps p.tables e below (s₁.setTop (mkF m 0 #[.val (.ref oa), .val (.double x), .second, .val (.double y), .second, .val (.double z), .second] [])) t → Steps p.tables e below (s₁.setTop (entryFrame m #[(.ref oa), (.double x), (.double y), (.double z)] 7)) t := fun t k => castTop (own_ef_i m oa x y z) k
  obtain ⟨Ti1, Xi1, ei1, sti1⟩ := initO X0 hx hZ hown (hw _ (List.mem_of_getElem? (i := 10) rfl)) (hw _ (List.mem_of_getElem? (i := 11) rfl)) (hw _ (List.mem_of_getElem? (i := 12) rfl)) e0 (g := (mkF m 1 #[.val (.ref oa), .val (.double x), .second, .val (.double y), .second, .val (.double z), .second] [(.ref oa)])) rfl (by rw [hml]; rfl) rfl (hb hby own_d2_1) (by decide) (W := 0) (by show 2 * 0 + _ ≤ _; exact Nat.le_of_eq rfl) (by decide)
  obtain ⟨Ti2, hi2, Xi2, ei2, Wi2, sti2⟩ := putF Xi1 hx hZ hown (host := "") (Or.inl (hw _ (List.mem_of_getElem? (i := 14) rfl))) Via.refl ei1 F_k1_oa E_oa (Or.inr ⟨(hw _ (List.mem_of_getElem? (i := 15) rfl)), rfl, hnm⟩) (hw _ (List.mem_of_getElem? (i := 2) rfl)) (ty := .double) (by decide) rfl rfl (g := (mkF m 91 #[.val (.ref oa), .val (.double x), .second, .val (.double y), .second, .val (.double z), .second] [(.double x), (.ref oa)])) rfl rfl (hb hby own_d2_91)
  have E_oa_i2 := E_oa.wr Wi2
  have Zi2 : n0 ≤ hi2.size := Nat.le_trans Z0 (Nat.le_of_eq Wi2.size.symm)
  have KKi2 := (Keep.refl h0 [oa]).wr Wi2 (Or.inl (List.mem_of_getElem? (i := 0) rfl))
  have F_k1_oa_i2 := F_k1_oa.same Wi2
  have F_b_oa_i2 := F_b_oa.other Wi2 (Or.inr (slot_ne (Or.inr (hw _ (List.mem_of_getElem? (i := 17) rfl))) (Or.inr (hw _ (List.mem_of_getElem? (i := 15) rfl))) (by decide) (t := .double) (t' := .double) (by decide) (by decide)))
  have F_k3_oa_i2 := F_k3_oa.other Wi2 (Or.inr (slot_ne (Or.inr (hw _ (List.mem_of_getElem? (i := 19) rfl))) (Or.inr (hw _ (List.mem_of_getElem? (i := 15) rfl))) (by decide) (t := .double) (t' := .double) (by decide) (by decide)))
  have Ni2 := Fr.snoc Xi2 N0 g_oa
  obtain ⟨Ti3, hi3, Xi3, ei3, Wi3, sti3⟩ := putF Xi2 hx hZ hown (host := "") (Or.inl (hw _ (List.mem_of_getElem? (i := 16) rfl))) Via.refl ei2 F_b_oa_i2 E_oa_i2 (Or.inr ⟨(hw _ (List.mem_of_getElem? (i := 17) rfl)), rfl, hnm⟩) (hw _ (List.mem_of_getElem? (i := 2) rfl)) (ty := .double) (by decide) rfl rfl (g := (mkF m 96 #[.val (.ref oa), .val (.double x), .second, .val (.double y), .second, .val (.double z), .second] [(.double y), (.ref oa)])) rfl rfl (hb hby own_d2_96)
  have E_oa_i3 := E_oa_i2.wr Wi3
  have Zi3 : n0 ≤ hi3.size := Nat.le_trans Zi2 (Nat.le_of_eq Wi3.size.symm)
  have KKi3 := KKi2.wr Wi3 (Or.inl (List.mem_of_getElem? (i := 0) rfl))
  have F_k1_oa_i3 := F_k1_oa_i2.other Wi3 (Or.inr (slot_ne (Or.inr (hw _ (List.mem_of_getElem? (i := 15) rfl))) (Or.inr (hw _ (List.mem_of_getElem? (i := 17) rfl))) (by decide) (t := .double) (t' := .double) (by decide) (by decide)))
  have F_b_oa_i3 := F_b_oa_i2.same Wi3
  have F_k3_oa_i3 := F_k3_oa_i2.other Wi3 (Or.inr (slot_ne (Or.inr (hw _ (List.mem_of_getElem? (i := 19) rfl))) (Or.inr (hw _ (List.mem_of_getElem? (i := 17) rfl))) (by decide) (t := .double) (t' := .double) (by decide) (by decide)))
  have Ni3 := Fr.snoc Xi3 Ni2 g_oa
  obtain ⟨Ti4, hi4, Xi4, ei4, Wi4, sti4⟩ := putF Xi3 hx hZ hown (host := "") (Or.inl (hw _ (List.mem_of_getElem? (i := 18) rfl))) Via.refl ei3 F_k3_oa_i3 E_oa_i3 (Or.inr ⟨(hw _ (List.mem_of_getElem? (i := 19) rfl)), rfl, hnm⟩) (hw _ (List.mem_of_getElem? (i := 2) rfl)) (ty := .double) (by decide) rfl rfl (g := (mkF m 102 #[.val (.ref oa), .val (.double x), .second, .val (.double y), .second, .val (.double z), .second] [(.double z), (.ref oa)])) rfl rfl (hb hby own_d2_102)
  have E_oa_i4 := E_oa_i3.wr Wi4
  have Zi4 : n0 ≤ hi4.size := Nat.le_trans Zi3 (Nat.le_of_eq Wi4.size.symm)
  have KKi4 := KKi3.wr Wi4 (Or.inl (List.mem_of_getElem? (i := 0) rfl))
  have F_k1_oa_i4 := F_k1_oa_i3.other Wi4 (Or.inr (slot_ne (Or.inr (hw _ (List.mem_of_getElem? (i := 15) rfl))) (Or.inr (hw _ (List.mem_of_getElem? (i := 19) rfl))) (by decide) (t := .double) (t' := .double) (by decide) (by decide)))
  have F_b_oa_i4 := F_b_oa_i3.other Wi4 (Or.inr (slot_ne (Or.inr (hw _ (List.mem_of_getElem? (i := 17) rfl))) (Or.inr (hw _ (List.mem_of_getElem? (i := 19) rfl))) (by decide) (t := .double) (t' := .double) (by decide) (by decide)))
  have F_k3_oa_i4 := F_k3_oa_i3.same Wi4
  have Ni4 := Fr.snoc Xi4 Ni3 g_oa
  obtain ⟨fs, hr, hrun, hended, hW, hsame⟩ := Xi4.leave (v := none) (fun _ => rfl)
  refine ⟨_, _, pre0 _ ?_, hrun, hended, _, _, rfl, ?_, ⟨_, rfl⟩, hW, hsame.mono (by decide) (by decide)⟩
  · refine own_s_aloadN X0.here hx (hb hby own_d2_0) (pc' := 1) rfl rfl rfl ?_
    refine sti1 _ ?_
    show Steps p.tables e below (Ti1.setTop (mkF m 4 #[.val (.ref oa), .val (.double x), .second, .val (.double y), .second, .val (.double z), .second] [])) _
    refine own_s_dloadN Xi1.here hx (hb hby own_d2_4) (pc' := 5) rfl rfl ?_
    refine own_s_dconst0 Xi1.here hx (hb hby own_d2_5) (pc' := 6) rfl  ?_
    refine own_s_dcmp Xi1.here hx (hb hby own_d2_6) (pc' := 7) rfl (v := (Op.cmpValue (FP.dcmp x 0) .l)) rfl ?_
    refine own_s_ifNo Xi1.here hx (hb hby own_d2_7) (pc' := 10) rfl i_hb7 ?_
    refine own_s_dloadN Xi1.here hx (hb hby own_d2_10) (pc' := 11) rfl rfl ?_
    refine Xi1.ldc2DoubleC hx hown (mvT hZ (hw _ (List.mem_of_getElem? (i := 13) rfl))) (g := (mkF m 11 #[.val (.ref oa), .val (.double x), .second, .val (.double y), .second, .val (.double z), .second] [(.double x)])) rfl (hb hby own_d2_11) _ ?_
    show Steps p.tables e below (Ti1.setTop (mkF m 14 #[.val (.ref oa), .val (.double x), .second, .val (.double y), .second, .val (.double z), .second] [(.double (9218868437227405312 : UInt64)), (.double x)])) _
    refine own_s_dcmp Xi1.here hx (hb hby own_d2_14) (pc' := 15) rfl (v := (Op.cmpValue (FP.dcmp x (9218868437227405312 : UInt64)) .g)) rfl ?_
    refine own_s_ifYes Xi1.here hx (hb hby own_d2_15) (by decide) (pc' := 32) (by decide) i_hb15 ?_
    refine own_s_dloadN Xi1.here hx (hb hby own_d2_32) (pc' := 33) rfl rfl ?_
    refine own_s_dconst0 Xi1.here hx (hb hby own_d2_33) (pc' := 34) rfl  ?_
    refine own_s_dcmp Xi1.here hx (hb hby own_d2_34) (pc' := 35) rfl (v := (Op.cmpValue (FP.dcmp y 0) .l)) rfl ?_
    refine own_s_ifNo Xi1.here hx (hb hby own_d2_35) (pc' := 38) rfl i_hb35 ?_
    refine own_s_dloadN Xi1.here hx (hb hby own_d2_38) (pc' := 39) rfl rfl ?_
    refine own_s_dconst1 Xi1.here hx (hb hby own_d2_39) (pc' := 40) rfl  ?_
    refine own_s_dcmp Xi1.here hx (hb hby own_d2_40) (pc' := 41) rfl (v := (Op.cmpValue (FP.dcmp y 4607182418800017408) .g)) rfl ?_
    refine own_s_ifYes Xi1.here hx (hb hby own_d2_41) (by decide) (pc' := 58) (by decide) i_hb41 ?_
    refine own_s_dload Xi1.here hx (hb hby own_d2_58) (pc' := 60) rfl rfl ?_
    refine own_s_dconst0 Xi1.here hx (hb hby own_d2_60) (pc' := 61) rfl  ?_
    refine own_s_dcmp Xi1.here hx (hb hby own_d2_61) (pc' := 62) rfl (v := (Op.cmpValue (FP.dcmp z 0) .l)) rfl ?_
    refine own_s_ifNo Xi1.here hx (hb hby own_d2_62) (pc' := 65) rfl i_hb62 ?_
    refine own_s_dload Xi1.here hx (hb hby own_d2_65) (pc' := 67) rfl rfl ?_
    refine Xi1.ldc2DoubleC hx hown (mvT hZ (hw _ (List.mem_of_getElem? (i := 13) rfl))) (g := (mkF m 67 #[.val (.ref oa), .val (.double x), .second, .val (.double y), .second, .val (.double z), .second] [(.double z)])) rfl (hb hby own_d2_67) _ ?_
    show Steps p.tables e below (Ti1.setTop (mkF m 70 #[.val (.ref oa), .val (.double x), .second, .val (.double y), .second, .val (.double z), .second] [(.double (9218868437227405312 : UInt64)), (.double z)])) _
    refine own_s_dcmp Xi1.here hx (hb hby own_d2_70) (pc' := 71) rfl (v := (Op.cmpValue (FP.dcmp z (9218868437227405312 : UInt64)) .g)) rfl ?_
    refine own_s_ifYes Xi1.here hx (hb hby own_d2_71) (by decide) (pc' := 89) (by decide) i_hb71 ?_
    refine own_s_aloadN Xi1.here hx (hb hby own_d2_89) (pc' := 90) rfl rfl rfl ?_
    refine own_s_dloadN Xi1.here hx (hb hby own_d2_90) (pc' := 91) rfl rfl ?_
    refine sti2 _ ?_
    show Steps p.tables e below (Ti2.setTop (mkF m 94 #[.val (.ref oa), .val (.double x), .second, .val (.double y), .second, .val (.double z), .second] [])) _
    refine own_s_aloadN Xi2.here hx (hb hby own_d2_94) (pc' := 95) rfl rfl rfl ?_
    refine own_s_dloadN Xi2.here hx (hb hby own_d2_95) (pc' := 96) rfl rfl ?_
    refine sti3 _ ?_
    show Steps p.tables e below (Ti3.setTop (mkF m 99 #[.val (.ref oa), .val (.double x), .second, .val (.double y), .second, .val (.double z), .second] [])) _
    refine own_s_aloadN Xi3.here hx (hb hby own_d2_99) (pc' := 100) rfl rfl rfl ?_
    refine own_s_dload Xi3.here hx (hb hby own_d2_100) (pc' := 102) rfl rfl ?_
    refine sti4 _ ?_
    show Steps p.tables e below (Ti4.setTop (mkF m 105 #[.val (.ref oa), .val (.double x), .second, .val (.double y), .second, .val (.double z), .second] [])) _
    exact Xi4.returnOut hx Bd.returns (hb hby own_d2_105) hr
  · show own_Q_i Z oa x y z h0 n0 _ Ti4.heap _
    rw [ei4]
    exact ⟨rfl, Ni4, KKi4, E_oa_i4, F_k1_oa_i4, F_b_oa_i4, F_k3_oa_i4⟩
theorem own_d1_0 : decode prog_2_method_2_code 0 = .ok (.aload_n 0, 1) := by decide +kernel
theorem own_d1_1 : decode prog_2_method_2_code 1 = .ok (.dload_n 1, 1) := by decide +kernel
theorem own_d1_2 : decode prog_2_method_2_code 2 = .ok (.dload_n 3, 1) := by decide +kernel
theorem own_d1_3 : decode prog_2_method_2_code 3 = .ok (.dconst 0, 1) := by decide +kernel
theorem own_pd_28DDD29V : parseMethodDescriptor "(DDD)V" = some ⟨[.double, .double, .double], none⟩ := by decide +kernel
theorem own_d1_4 : decode prog_2_method_2_code 4 = .ok (.invokespecial 11, 3) := by decide +kernel
theorem own_d1_7 : decode prog_2_method_2_code 7 = .ok (.return_, 1) := by decide +kernel
theorem own_ef_j (m : MethodId) (oa : Addr) (x : UInt64) (y : UInt64) : entryFrame m #[(.ref oa), (.double x), (.double y)] 5 = mkF m 0 #[.val (.ref oa), .val (.double x), .second, .val (.double y), .second] [] := by first | (simp [entryFrame, mkF, argsToLocals, Value.category]; done) | rfl
def own_Q_j (Z : State) (oa : Addr) (x : UInt64) (y : UInt64) (h0 : Heap) (n0 : Nat) (v : Option Value) (h : Heap) (L : List Loc) : Prop := v = none ∧ Fr n0 L ∧ Keep h0 h [oa] ∧ Exa Z h oa "com/example/tally_odds/tallyodds/Bm25" ∧ Fld Z h oa "com/example/tally_odds/tallyodds/Bm25" "k1" "D" (.double x) ∧ Fld Z h oa "com/example/tally_odds/tallyodds/Bm25" "b" "D" (.double y) ∧ Fld Z h oa "com/example/tally_odds/tallyodds/Bm25" "k3" "D" (.double 0)
set_option maxRecDepth 65536 in
set_option maxHeartbeats 40000000 in
theorem own_rm_j (l : Launch) (Z : State) (a0 : Array Value) (hw : ∀ d ∈ tables_1, d.before a0 Z = true) (ws : List Jvm.Cond) (oa : Addr) (x : UInt64) (y : UInt64)  (h0 : Heap) (n0 : Nat) (Z0 : n0 ≤ h0.size) (E_oa : Exa Z h0 oa "com/example/tally_odds/tallyodds/Bm25") (F_k1_oa : Fld Z h0 oa "com/example/tally_odds/tallyodds/Bm25" "k1" "D" (.double 0)) (F_b_oa : Fld Z h0 oa "com/example/tally_odds/tallyodds/Bm25" "b" "D" (.double 0)) (F_k3_oa : Fld Z h0 oa "com/example/tally_odds/tallyodds/Bm25" "k3" "D" (.double 0)) (g_oa : n0 ≤ oa) (j_c4_i_hb7 : ifCond.holds .lt (Op.cmpValue (FP.dcmp x 0) .l) = false) (j_c4_i_hb15 : ifCond.holds .lt (Op.cmpValue (FP.dcmp x (9218868437227405312 : UInt64)) .g) = true) (j_c4_i_hb35 : ifCond.holds .lt (Op.cmpValue (FP.dcmp y 0) .l) = false) (j_c4_i_hb41 : ifCond.holds .le (Op.cmpValue (FP.dcmp y 4607182418800017408) .g) = true) (j_c4_i_hb62 : ifCond.holds .lt (Op.cmpValue (FP.dcmp 0 0) .l) = false) (j_c4_i_hb71 : ifCond.holds .lt (Op.cmpValue (FP.dcmp 0 (9218868437227405312 : UInt64)) .g) = true) :
    MetFree l (⟨"com/example/tally_odds/tallyodds/Bm25", "<init>", "(DD)V"⟩ : MethodName) (head1 (Jvm.Cond.code (⟨"com/example/tally_odds/tallyodds/Bm25", "<init>", "(DD)V"⟩ : MethodName) prog_2_method_2_code 5 none :: ws) ({ frames := 2, cells := 0, slots := 0, locals := 30 } : Room)) (fun a U => a = #[(.ref oa), (.double x), (.double y)] ∧ Z.Warmed39 U.vm ∧ U.heap = h0) (fun _ _ _ _ _ => True) (fun _ U o U' => ∃ v L, o = .returned v ∧ own_Q_j Z oa x y h0 n0 v U'.heap L ∧ FrameEnd U o U' L ({ frames := 2, cells := 0, slots := 0, locals := 30 } : Room).cells ({ frames := 2, cells := 0, slots := 0, locals := 30 } : Room).slots) := by
  refine MetFree.of_bodySF (plainFor_of_name own_pn_com_example_tally_odds_tallyodds_Bm25) hisR ?_
  intro p e s m args below meth c s₁ Bd hml0 hP hK
  obtain ⟨rfl, hZ, hh⟩ := hP
  have hx := Bd.exec
  have hby := Bd.bytes
  have hml : c.maxLocals = 5 := hml0
  have hown : s.vm.findClass "com/example/tally_odds/tallyodds/Bm25" = some m.cls := findClass_of_methodNamed Bd.named
  have hnm := (name_of_methodNamed Bd.named Bd.method).1
  have X0 : Stand p l e ({ frames := 2, cells := 0, slots := 0, locals := 30 } : Room) s m #[(.ref oa), (.double x), (.double y)] below meth c s₁ [] 0 0 := Stand.of_body Bd
  have e0 : s₁.heap = h0 := by rw [← hh, Bd.state]; rfl
  have N0 := Fr.nil n0
  have pre0 : ∀ t, Steps p.tables e below (s₁.setTop (mkF m 0 #[.val (.ref oa), .val (.double x), .second, .val (.double y), .second] [])) t → Steps p.tables e below (s₁.setTop (entryFrame m #[(.ref oa), (.double x), (.double y)] 5)) t := fun t k => castTop (own_ef_j m oa x y) k
  obtain ⟨_, _, ⟨Tj1, Lj1, kj1, nj1⟩, -, Xj1, ⟨Lcj1, hQj1, lj1, yj1, zj1⟩, stj1⟩ := X0.specialBack hx (y := (⟨"com/example/tally_odds/tallyodds/Bm25", "<init>", "(DDD)V"⟩ : MethodName)) rfl hown (mvT hZ (hw _ (List.mem_of_getElem? (i := 7) rfl))) (mvT hZ (hw _ (List.mem_of_getElem? (i := 8) rfl))) (mvT hZ (hw _ (List.mem_of_getElem? (i := 9) rfl))) (by decide) (backOf (W := 0) (own_rm_i l Z a0 hw [] oa x y 0 h0 n0 Z0 E_oa F_k1_oa F_b_oa F_k3_oa g_oa j_c4_i_hb7 j_c4_i_hb15 j_c4_i_hb35 j_c4_i_hb41 j_c4_i_hb62 j_c4_i_hb71) hZ (hw _ (List.mem_of_getElem? (i := 9) rfl)) (hw _ (List.mem_of_getElem? (i := 3) rfl)) (by decide) (by decide)) (g := (mkF m 4 #[.val (.ref oa), .val (.double x), .second, .val (.double y), .second] [(.double 0), (.double y), (.double x), (.ref oa)])) rfl (by rw [hml]; rfl) (Steps.refl _) (a := oa) (argsL := [(.double x), (.double y), (.double 0)]) (rest := []) (lenOf own_pd_28DDD29V rfl) rfl (by show 2 * 0 + _ ≤ _; exact Nat.le_of_eq rfl) (hb hby own_d1_4) (fun _ _ => ⟨rfl, e0, (by decide : 0 + 0 ≤ _), (by decide : 0 + 0 ≤ _)⟩)
  dsimp only [Pt.U, Pt.locs, Pt.cells, Pt.slots] at Xj1 lj1 yj1 zj1 stj1 hQj1
  rw [lj1, yj1, zj1] at Xj1
  obtain ⟨rfl, Nj1q, Kj1, qj1_0, qj1_1, qj1_2, qj1_3⟩ := hQj1
  have Zj1 : n0 ≤ Tj1.heap.size := Nat.le_trans Z0 Kj1.1
  have KKj1 := (Keep.refl h0 [oa]).trans Kj1 (fun q hq => by simp only [List.mem_cons, List.not_mem_nil, or_false] at hq; rcases hq with rfl; exact Or.inl (List.mem_of_getElem? (i := 0) rfl))
  have Nj1 := Fr.app N0 Nj1q
  obtain ⟨fs, hr, hrun, hended, hW, hsame⟩ := Xj1.leave (v := none) (fun _ => rfl)
  refine ⟨_, _, pre0 _ ?_, hrun, hended, _, _, rfl, ?_, ⟨_, rfl⟩, hW, hsame.mono (by decide) (by decide)⟩
  · refine own_s_aloadN X0.here hx (hb hby own_d1_0) (pc' := 1) rfl rfl rfl ?_
    refine own_s_dloadN X0.here hx (hb hby own_d1_1) (pc' := 2) rfl rfl ?_
    refine own_s_dloadN X0.here hx (hb hby own_d1_2) (pc' := 3) rfl rfl ?_
    refine own_s_dconst0 X0.here hx (hb hby own_d1_3) (pc' := 4) rfl  ?_
    refine stj1.trans ?_
    show Steps p.tables e below (Tj1.setTop (mkF m 7 #[.val (.ref oa), .val (.double x), .second, .val (.double y), .second] [])) _
    exact Xj1.returnOut hx Bd.returns (hb hby own_d1_7) hr
  · show own_Q_j Z oa x y h0 n0 _ Tj1.heap _
    exact ⟨rfl, Nj1, KKj1, qj1_0, qj1_1, qj1_2, qj1_3⟩
def own_imax (x y : Int32) : Int32 := if x < y then y else x
theorem own_d4_0 : decode jdk_29_method_65_code 0 = .ok (.iload_n 0, 1) := by decide +kernel
theorem own_d4_1 : decode jdk_29_method_65_code 1 = .ok (.iload_n 1, 1) := by decide +kernel
theorem own_d4_2 : decode jdk_29_method_65_code 2 = .ok (.if_icmp .lt 7, 3) := by decide +kernel
theorem own_d4_9 : decode jdk_29_method_65_code 9 = .ok (.iload_n 1, 1) := by decide +kernel
theorem own_d4_10 : decode jdk_29_method_65_code 10 = .ok (.ireturn, 1) := by decide +kernel
theorem own_d4_5 : decode jdk_29_method_65_code 5 = .ok (.iload_n 0, 1) := by decide +kernel
theorem own_d4_6 : decode jdk_29_method_65_code 6 = .ok (.goto 4, 3) := by decide +kernel
theorem own_ef_mat (m : MethodId) (x : Int32) (y : Int32) : entryFrame m #[(.int x), (.int y)] 2 = mkF m 0 #[.val (.int x), .val (.int y)] [] := by first | (simp [entryFrame, mkF, argsToLocals, Value.category]; done) | rfl
set_option maxRecDepth 65536 in
set_option maxHeartbeats 40000000 in
theorem own_rm_mat (l : Launch) (Z : State) (a0 : Array Value) (hw : ∀ d ∈ tables_1, d.before a0 Z = true) (ws : List Jvm.Cond) (x : Int32) (y : Int32)  (h0 : Heap) (n0 : Nat) (Z0 : n0 ≤ h0.size)  (mat_hb2 : if_icmp.holds .lt x y = true) :
    MetFree l (⟨"java/lang/Math", "max", "(II)I"⟩ : MethodName) (head1 (Jvm.Cond.code (⟨"java/lang/Math", "max", "(II)I"⟩ : MethodName) jdk_29_method_65_code 2 (some .int) :: ws) ({ frames := 0, cells := 0, slots := 0, locals := 0 } : Room)) (fun a U => a = #[(.int x), (.int y)] ∧ Z.Warmed39 U.vm ∧ U.heap = h0) (fun _ _ _ _ _ => True) (fun _ U o U' => ∃ v L, o = .returned v ∧ own_QP (some (.int y)) h0 n0 v U'.heap L ∧ FrameEnd U o U' L ({ frames := 0, cells := 0, slots := 0, locals := 0 } : Room).cells ({ frames := 0, cells := 0, slots := 0, locals := 0 } : Room).slots) := by
  refine MetFree.of_bodySF (Jvm.Free.JP.mathPlain rfl (by decide +kernel)) hisR ?_
  intro p e s m args below meth c s₁ Bd hml0 hP hK
  obtain ⟨rfl, hZ, hh⟩ := hP
  have hx := Bd.exec
  have hby := Bd.bytes
  have hml : c.maxLocals = 2 := hml0
  have hown : s.vm.findClass "java/lang/Math" = some m.cls := findClass_of_methodNamed Bd.named
  have hnm := (name_of_methodNamed Bd.named Bd.method).1
  have X0 : Stand p l e ({ frames := 0, cells := 0, slots := 0, locals := 0 } : Room) s m #[(.int x), (.int y)] below meth c s₁ [] 0 0 := Stand.of_body Bd
  have e0 : s₁.heap = h0 := by rw [← hh, Bd.state]; rfl
  have N0 := Fr.nil n0
  have pre0 : ∀ t, Steps p.tables e below (s₁.setTop (mkF m 0 #[.val (.int x), .val (.int y)] [])) t → Steps p.tables e below (s₁.setTop (entryFrame m #[(.int x), (.int y)] 2)) t := fun t k => castTop (own_ef_mat m x y) k
  obtain ⟨fs, hr, hrun, hended, hW, hsame⟩ := X0.leave (v := some (.int y)) (fun h => by rw [Bd.returns] at h; cases h)
  refine ⟨_, _, pre0 _ ?_, hrun, hended, _, _, rfl, ?_, ⟨_, rfl⟩, hW, hsame.mono (by decide) (by decide)⟩
  · refine own_s_iloadN X0.here hx (hb hby own_d4_0) (pc' := 1) rfl rfl ?_
    refine own_s_iloadN X0.here hx (hb hby own_d4_1) (pc' := 2) rfl rfl ?_
    refine own_s_icmpYes X0.here hx (hb hby own_d4_2) (by decide) (pc' := 9) (by decide) mat_hb2 ?_
    refine own_s_iloadN X0.here hx (hb hby own_d4_9) (pc' := 10) rfl rfl ?_
    exact own_retI X0 hx Bd.returns (hb hby own_d4_10) hr
  · show own_QP (some (.int y)) h0 n0 _ s₁.heap _
    rw [e0]
    exact ⟨rfl, N0, rfl⟩
theorem own_ef_maf (m : MethodId) (x : Int32) (y : Int32) : entryFrame m #[(.int x), (.int y)] 2 = mkF m 0 #[.val (.int x), .val (.int y)] [] := by first | (simp [entryFrame, mkF, argsToLocals, Value.category]; done) | rfl
set_option maxRecDepth 65536 in
set_option maxHeartbeats 40000000 in
theorem own_rm_maf (l : Launch) (Z : State) (a0 : Array Value) (hw : ∀ d ∈ tables_1, d.before a0 Z = true) (ws : List Jvm.Cond) (x : Int32) (y : Int32)  (h0 : Heap) (n0 : Nat) (Z0 : n0 ≤ h0.size)  (maf_hb2 : if_icmp.holds .lt x y = false) :
    MetFree l (⟨"java/lang/Math", "max", "(II)I"⟩ : MethodName) (head1 (Jvm.Cond.code (⟨"java/lang/Math", "max", "(II)I"⟩ : MethodName) jdk_29_method_65_code 2 (some .int) :: ws) ({ frames := 0, cells := 0, slots := 0, locals := 0 } : Room)) (fun a U => a = #[(.int x), (.int y)] ∧ Z.Warmed39 U.vm ∧ U.heap = h0) (fun _ _ _ _ _ => True) (fun _ U o U' => ∃ v L, o = .returned v ∧ own_QP (some (.int x)) h0 n0 v U'.heap L ∧ FrameEnd U o U' L ({ frames := 0, cells := 0, slots := 0, locals := 0 } : Room).cells ({ frames := 0, cells := 0, slots := 0, locals := 0 } : Room).slots) := by
  refine MetFree.of_bodySF (Jvm.Free.JP.mathPlain rfl (by decide +kernel)) hisR ?_
  intro p e s m args below meth c s₁ Bd hml0 hP hK
  obtain ⟨rfl, hZ, hh⟩ := hP
  have hx := Bd.exec
  have hby := Bd.bytes
  have hml : c.maxLocals = 2 := hml0
  have hown : s.vm.findClass "java/lang/Math" = some m.cls := findClass_of_methodNamed Bd.named
  have hnm := (name_of_methodNamed Bd.named Bd.method).1
  have X0 : Stand p l e ({ frames := 0, cells := 0, slots := 0, locals := 0 } : Room) s m #[(.int x), (.int y)] below meth c s₁ [] 0 0 := Stand.of_body Bd
  have e0 : s₁.heap = h0 := by rw [← hh, Bd.state]; rfl
  have N0 := Fr.nil n0
  have pre0 : ∀ t, Steps p.tables e below (s₁.setTop (mkF m 0 #[.val (.int x), .val (.int y)] [])) t → Steps p.tables e below (s₁.setTop (entryFrame m #[(.int x), (.int y)] 2)) t := fun t k => castTop (own_ef_maf m x y) k
  obtain ⟨fs, hr, hrun, hended, hW, hsame⟩ := X0.leave (v := some (.int x)) (fun h => by rw [Bd.returns] at h; cases h)
  refine ⟨_, _, pre0 _ ?_, hrun, hended, _, _, rfl, ?_, ⟨_, rfl⟩, hW, hsame.mono (by decide) (by decide)⟩
  · refine own_s_iloadN X0.here hx (hb hby own_d4_0) (pc' := 1) rfl rfl ?_
    refine own_s_iloadN X0.here hx (hb hby own_d4_1) (pc' := 2) rfl rfl ?_
    refine own_s_icmpNo X0.here hx (hb hby own_d4_2) (pc' := 5) rfl maf_hb2 ?_
    refine own_s_iloadN X0.here hx (hb hby own_d4_5) (pc' := 6) rfl rfl ?_
    refine own_s_goto X0.here hx (hb hby own_d4_6) (by decide) (pc' := 10) (by decide) ?_
    exact own_retI X0 hx Bd.returns (hb hby own_d4_10) hr
  · show own_QP (some (.int x)) h0 n0 _ s₁.heap _
    rw [e0]
    exact ⟨rfl, N0, rfl⟩
set_option maxRecDepth 65536 in
set_option maxHeartbeats 40000000 in
theorem own_rm_ma (l : Launch) (Z : State) (a0 : Array Value) (hw : ∀ d ∈ tables_1, d.before a0 Z = true) (ws : List Jvm.Cond) (x : Int32) (y : Int32)  (h0 : Heap) (n0 : Nat) (Z0 : n0 ≤ h0.size)   :
    MetFree l (⟨"java/lang/Math", "max", "(II)I"⟩ : MethodName) (head1 (Jvm.Cond.code (⟨"java/lang/Math", "max", "(II)I"⟩ : MethodName) jdk_29_method_65_code 2 (some .int) :: ws) ({ frames := 0, cells := 0, slots := 0, locals := 0 } : Room)) (fun a U => a = #[(.int x), (.int y)] ∧ Z.Warmed39 U.vm ∧ U.heap = h0) (fun _ _ _ _ _ => True) (fun _ U o U' => ∃ v L, o = .returned v ∧ own_QP (some (.int (own_imax x y))) h0 n0 v U'.heap L ∧ FrameEnd U o U' L ({ frames := 0, cells := 0, slots := 0, locals := 0 } : Room).cells ({ frames := 0, cells := 0, slots := 0, locals := 0 } : Room).slots) := by
  unfold own_imax
  by_cases h : x < y
  · rw [if_pos h]; exact own_rm_mat l Z a0 hw ws x y h0 n0 Z0 (XT.ii_lt_t h)
  · rw [if_neg h]; exact own_rm_maf l Z a0 hw ws x y h0 n0 Z0 (XT.ii_lt_f h)
theorem own_d5_0 : decode prog_2_method_7_code 0 = .ok (.new 1, 3) := by decide +kernel
theorem own_d5_3 : decode prog_2_method_7_code 3 = .ok (.dup, 1) := by decide +kernel
theorem own_d5_4 : decode prog_2_method_7_code 4 = .ok (.aload_n 0, 1) := by decide +kernel
theorem own_d5_5 : decode prog_2_method_7_code 5 = .ok (.getfield 34, 3) := by decide +kernel
theorem own_d5_8 : decode prog_2_method_7_code 8 = .ok (.aload_n 0, 1) := by decide +kernel
theorem own_d5_9 : decode prog_2_method_7_code 9 = .ok (.getfield 38, 3) := by decide +kernel
theorem own_d5_12 : decode prog_2_method_7_code 12 = .ok (.dload_n 1, 1) := by decide +kernel
theorem own_d5_13 : decode prog_2_method_7_code 13 = .ok (.invokespecial 11, 3) := by decide +kernel
theorem own_d5_16 : decode prog_2_method_7_code 16 = .ok (.areturn, 1) := by decide +kernel
theorem own_ef_k (m : MethodId) (oa : Addr) (z : UInt64) : entryFrame m #[(.ref oa), (.double z)] 3 = mkF m 0 #[.val (.ref oa), .val (.double z), .second] [] := by first | (simp [entryFrame, mkF, argsToLocals, Value.category]; done) | rfl
def own_Q_k (Z : State) (oa : Addr) (x : UInt64) (y : UInt64) (w : UInt64) (z : UInt64) (h0 : Heap) (n0 : Nat) (v : Option Value) (h : Heap) (L : List Loc) : Prop := ∃ (bk1 : Addr), v = some (.ref bk1) ∧ Fr n0 L ∧ Keep h0 h [] ∧ h0.size ≤ bk1 ∧ Exa Z h bk1 "com/example/tally_odds/tallyodds/Bm25" ∧ Fld Z h bk1 "com/example/tally_odds/tallyodds/Bm25" "k1" "D" (.double x) ∧ Fld Z h bk1 "com/example/tally_odds/tallyodds/Bm25" "b" "D" (.double y) ∧ Fld Z h bk1 "com/example/tally_odds/tallyodds/Bm25" "k3" "D" (.double z)
set_option maxRecDepth 65536 in
set_option maxHeartbeats 40000000 in
theorem own_rm_k (l : Launch) (Z : State) (a0 : Array Value) (hw : ∀ d ∈ tables_1, d.before a0 Z = true) (ws : List Jvm.Cond) (oa : Addr) (x : UInt64) (y : UInt64) (w : UInt64) (z : UInt64)  (h0 : Heap) (n0 : Nat) (Z0 : n0 ≤ h0.size) (E_oa : Exa Z h0 oa "com/example/tally_odds/tallyodds/Bm25") (F_k1_oa : Fld Z h0 oa "com/example/tally_odds/tallyodds/Bm25" "k1" "D" (.double x)) (F_b_oa : Fld Z h0 oa "com/example/tally_odds/tallyodds/Bm25" "b" "D" (.double y)) (F_k3_oa : Fld Z h0 oa "com/example/tally_odds/tallyodds/Bm25" "k3" "D" (.double w)) (k_c13_i_hb7 : ifCond.holds .lt (Op.cmpValue (FP.dcmp x 0) .l) = false) (k_c13_i_hb15 : ifCond.holds .lt (Op.cmpValue (FP.dcmp x (9218868437227405312 : UInt64)) .g) = true) (k_c13_i_hb35 : ifCond.holds .lt (Op.cmpValue (FP.dcmp y 0) .l) = false) (k_c13_i_hb41 : ifCond.holds .le (Op.cmpValue (FP.dcmp y 4607182418800017408) .g) = true) (k_c13_i_hb62 : ifCond.holds .lt (Op.cmpValue (FP.dcmp z 0) .l) = false) (k_c13_i_hb71 : ifCond.holds .lt (Op.cmpValue (FP.dcmp z (9218868437227405312 : UInt64)) .g) = true) :
    MetFree l (⟨"com/example/tally_odds/tallyodds/Bm25", "withK3", "(D)Lcom/example/tally_odds/tallyodds/Bm25;"⟩ : MethodName) (head1 (Jvm.Cond.code (⟨"com/example/tally_odds/tallyodds/Bm25", "withK3", "(D)Lcom/example/tally_odds/tallyodds/Bm25;"⟩ : MethodName) prog_2_method_7_code 3 (some (.object "com/example/tally_odds/tallyodds/Bm25")) :: ws) ({ frames := 2, cells := 1, slots := 3, locals := 31 } : Room)) (fun a U => a = #[(.ref oa), (.double z)] ∧ Z.Warmed39 U.vm ∧ U.heap = h0) (fun _ _ _ _ _ => True) (fun _ U o U' => ∃ v L, o = .returned v ∧ own_Q_k Z oa x y w z h0 n0 v U'.heap L ∧ FrameEnd U o U' L ({ frames := 2, cells := 1, slots := 3, locals := 31 } : Room).cells ({ frames := 2, cells := 1, slots := 3, locals := 31 } : Room).slots) := by
  refine MetFree.of_bodySF (plainFor_of_name own_pn_com_example_tally_odds_tallyodds_Bm25) hisR ?_
  intro p e s m args below meth c s₁ Bd hml0 hP hK
  obtain ⟨rfl, hZ, hh⟩ := hP
  have hx := Bd.exec
  have hby := Bd.bytes
  have hml : c.maxLocals = 3 := hml0
  have hown : s.vm.findClass "com/example/tally_odds/tallyodds/Bm25" = some m.cls := findClass_of_methodNamed Bd.named
  have hnm := (name_of_methodNamed Bd.named Bd.method).1
  have X0 : Stand p l e ({ frames := 2, cells := 1, slots := 3, locals := 31 } : Room) s m #[(.ref oa), (.double z)] below meth c s₁ [] 0 0 := Stand.of_body Bd
  have e0 : s₁.heap = h0 := by rw [← hh, Bd.state]; rfl
  have N0 := Fr.nil n0
  have pre0 : ∀ t, Steps p.tables e below (s₁.setTop (mkF m 0 #[.val (.ref oa), .val (.double z), .second] [])) t → Steps p.tables e below (s₁.setTop (entryFrame m #[(.ref oa), (.double z)] 3)) t := fun t k => castTop (own_ef_k m oa z) k
  obtain ⟨Tk1, hk1, Xk1, ek1, Ek1, Ak1, Dk1, -, stk1⟩ := newO X0 hx hZ hown (hw _ (List.mem_of_getElem? (i := 31) rfl)) (hw _ (List.mem_of_getElem? (i := 2) rfl)) (hw _ (List.mem_of_getElem? (i := 3) rfl)) e0 (g := (mkF m 0 #[.val (.ref oa), .val (.double z), .second] [])) rfl (hb hby own_d5_0) (by decide) (by decide)
  obtain ⟨bk1, Gk1⟩ : ∃ z, z = h0.size := ⟨_, rfl⟩
  rw [← Gk1] at Ak1 Dk1 stk1
  have ne_oa_bk1 : oa ≠ bk1 := Nat.ne_of_lt (Nat.lt_of_lt_of_le E_oa.lt (Nat.le_of_eq Gk1.symm))
  have ne_bk1_oa : bk1 ≠ oa := Ne.symm ne_oa_bk1
  have g_bk1 : n0 ≤ bk1 := Nat.le_trans Z0 (Nat.le_of_eq Gk1.symm)
  have sz_bk1 : h0.size ≤ bk1 := Nat.le_trans (Keep.refl h0 []).1 (Nat.le_of_eq Gk1.symm)
  have E_oa_k1 := E_oa.ext Ek1
  have F_k1_oa_k1 := F_k1_oa.ext Ek1
  have F_b_oa_k1 := F_b_oa.ext Ek1
  have F_k3_oa_k1 := F_k3_oa.ext Ek1
  have Zk1 : n0 ≤ hk1.size := Nat.le_trans Z0 Ek1.1
  have KKk1 := (Keep.refl h0 []).ext Ek1
  have F_k1_bk1 : Fld Z hk1 bk1 "com/example/tally_odds/tallyodds/Bm25" "k1" "D" (.double 0) := Dk1 (Or.inr (hw _ (List.mem_of_getElem? (i := 15) rfl))) (ty := .double) (by decide)
  have F_b_bk1 : Fld Z hk1 bk1 "com/example/tally_odds/tallyodds/Bm25" "b" "D" (.double 0) := Dk1 (Or.inr (hw _ (List.mem_of_getElem? (i := 17) rfl))) (ty := .double) (by decide)
  have F_k3_bk1 : Fld Z hk1 bk1 "com/example/tally_odds/tallyodds/Bm25" "k3" "D" (.double 0) := Dk1 (Or.inr (hw _ (List.mem_of_getElem? (i := 19) rfl))) (ty := .double) (by decide)
  obtain ⟨Tk2, Xk2, ek2, stk2⟩ := getF Xk1 hx hZ hown (host := "") (Or.inl (hw _ (List.mem_of_getElem? (i := 14) rfl))) Via.refl ek1 F_k1_oa_k1 (g := (mkF m 5 #[.val (.ref oa), .val (.double z), .second] [(.ref oa), (.ref bk1), (.ref bk1)])) rfl rfl (hb hby own_d5_5)
  obtain ⟨Tk3, Xk3, ek3, stk3⟩ := getF Xk2 hx hZ hown (host := "") (Or.inl (hw _ (List.mem_of_getElem? (i := 16) rfl))) Via.refl ek2 F_b_oa_k1 (g := (mkF m 9 #[.val (.ref oa), .val (.double z), .second] [(.ref oa), (.double x), (.ref bk1), (.ref bk1)])) rfl rfl (hb hby own_d5_9)
  obtain ⟨_, _, ⟨Tk4, Lk4, kk4, nk4⟩, -, Xk4, ⟨Lck4, hQk4, lk4, yk4, zk4⟩, stk4⟩ := Xk3.specialBack hx (y := (⟨"com/example/tally_odds/tallyodds/Bm25", "<init>", "(DDD)V"⟩ : MethodName)) rfl hown (mvT hZ (hw _ (List.mem_of_getElem? (i := 7) rfl))) (mvT hZ (hw _ (List.mem_of_getElem? (i := 8) rfl))) (mvT hZ (hw _ (List.mem_of_getElem? (i := 9) rfl))) (by decide) (backOf (W := 1) (own_rm_i l Z a0 hw [] bk1 x y z hk1 n0 Zk1 Ak1 F_k1_bk1 F_b_bk1 F_k3_bk1 g_bk1 k_c13_i_hb7 k_c13_i_hb15 k_c13_i_hb35 k_c13_i_hb41 k_c13_i_hb62 k_c13_i_hb71) hZ (hw _ (List.mem_of_getElem? (i := 9) rfl)) (hw _ (List.mem_of_getElem? (i := 3) rfl)) (by decide) (by decide)) (g := (mkF m 13 #[.val (.ref oa), .val (.double z), .second] [(.double z), (.double y), (.double x), (.ref bk1), (.ref bk1)])) rfl (by rw [hml]; rfl) (Steps.refl _) (a := bk1) (argsL := [(.double x), (.double y), (.double z)]) (rest := [(.ref bk1)]) (lenOf own_pd_28DDD29V rfl) rfl (by show 2 * 0 + _ ≤ _; exact Nat.le_of_eq rfl) (hb hby own_d5_13) (fun _ _ => ⟨rfl, ek3, (by decide : 1 + 0 ≤ _), (by decide : 3 + 0 ≤ _)⟩)
  dsimp only [Pt.U, Pt.locs, Pt.cells, Pt.slots] at Xk4 lk4 yk4 zk4 stk4 hQk4
  rw [lk4, yk4, zk4] at Xk4
  obtain ⟨rfl, Nk4q, Kk4, qk4_0, qk4_1, qk4_2, qk4_3⟩ := hQk4
  have E_oa_k4 := E_oa_k1.keep Kk4
  have F_k1_oa_k4 := F_k1_oa_k1.keep Kk4 (by simp only [List.mem_cons, List.not_mem_nil, or_false, not_or]; exact ne_oa_bk1)
  have F_b_oa_k4 := F_b_oa_k1.keep Kk4 (by simp only [List.mem_cons, List.not_mem_nil, or_false, not_or]; exact ne_oa_bk1)
  have F_k3_oa_k4 := F_k3_oa_k1.keep Kk4 (by simp only [List.mem_cons, List.not_mem_nil, or_false, not_or]; exact ne_oa_bk1)
  have Zk4 : n0 ≤ Tk4.heap.size := Nat.le_trans Zk1 Kk4.1
  have KKk4 := KKk1.trans Kk4 (fun q hq => by simp only [List.mem_cons, List.not_mem_nil, or_false] at hq; rcases hq with rfl; exact Or.inr sz_bk1)
  have Nk4 := Fr.app N0 Nk4q
  obtain ⟨fs, hr, hrun, hended, hW, hsame⟩ := Xk4.leave (v := some (.ref bk1)) (fun h => by rw [Bd.returns] at h; cases h)
  refine ⟨_, _, pre0 _ ?_, hrun, hended, _, _, rfl, ?_, ⟨_, rfl⟩, hW, hsame.mono (by decide) (by decide)⟩
  · refine stk1 _ ?_
    show Steps p.tables e below (Tk1.setTop (mkF m 3 #[.val (.ref oa), .val (.double z), .second] [(.ref bk1)])) _
    refine own_s_dup Xk1.here hx (hb hby own_d5_3) (pc' := 4) rfl rfl ?_
    refine own_s_aloadN Xk1.here hx (hb hby own_d5_4) (pc' := 5) rfl rfl rfl ?_
    refine stk2 _ ?_
    show Steps p.tables e below (Tk2.setTop (mkF m 8 #[.val (.ref oa), .val (.double z), .second] [(.double x), (.ref bk1), (.ref bk1)])) _
    refine own_s_aloadN Xk2.here hx (hb hby own_d5_8) (pc' := 9) rfl rfl rfl ?_
    refine stk3 _ ?_
    show Steps p.tables e below (Tk3.setTop (mkF m 12 #[.val (.ref oa), .val (.double z), .second] [(.double y), (.double x), (.ref bk1), (.ref bk1)])) _
    refine own_s_dloadN Xk3.here hx (hb hby own_d5_12) (pc' := 13) rfl rfl ?_
    refine stk4.trans ?_
    show Steps p.tables e below (Tk4.setTop (mkF m 16 #[.val (.ref oa), .val (.double z), .second] [(.ref bk1)])) _
    exact own_retR Xk4 hx Bd.returns rfl (hb hby own_d5_16) hr
  · show own_Q_k Z oa x y w z h0 n0 _ Tk4.heap _
    exact ⟨bk1, rfl, Nk4, KKk4, sz_bk1, qk4_0, qk4_1, qk4_2, qk4_3⟩
theorem own_d6_0 : decode prog_2_method_14_code 0 = .ok (.iload_n 1, 1) := by decide +kernel
theorem own_d6_1 : decode prog_2_method_14_code 1 = .ok (.iconst 1, 1) := by decide +kernel
theorem own_d6_2 : decode prog_2_method_14_code 2 = .ok (.if_icmp .ge 17, 3) := by decide +kernel
theorem own_d6_19 : decode prog_2_method_14_code 19 = .ok (.iload_n 1, 1) := by decide +kernel
theorem own_d6_20 : decode prog_2_method_14_code 20 = .ok (.i2d, 1) := by decide +kernel
theorem own_d6_21 : decode prog_2_method_14_code 21 = .ok (.aload_n 0, 1) := by decide +kernel
theorem own_d6_22 : decode prog_2_method_14_code 22 = .ok (.getfield 41, 3) := by decide +kernel
theorem own_d6_25 : decode prog_2_method_14_code 25 = .ok (.iload_n 1, 1) := by decide +kernel
theorem own_d6_26 : decode prog_2_method_14_code 26 = .ok (.i2d, 1) := by decide +kernel
theorem own_d6_27 : decode prog_2_method_14_code 27 = .ok (.dadd, 1) := by decide +kernel
theorem own_d6_28 : decode prog_2_method_14_code 28 = .ok (.aload_n 0, 1) := by decide +kernel
theorem own_d6_29 : decode prog_2_method_14_code 29 = .ok (.getfield 41, 3) := by decide +kernel
theorem own_d6_32 : decode prog_2_method_14_code 32 = .ok (.dconst 1, 1) := by decide +kernel
theorem own_d6_33 : decode prog_2_method_14_code 33 = .ok (.dadd, 1) := by decide +kernel
theorem own_d6_34 : decode prog_2_method_14_code 34 = .ok (.ddiv, 1) := by decide +kernel
theorem own_d6_35 : decode prog_2_method_14_code 35 = .ok (.ddiv, 1) := by decide +kernel
theorem own_d6_36 : decode prog_2_method_14_code 36 = .ok (.dreturn, 1) := by decide +kernel
theorem own_ef_q (m : MethodId) (oa : Addr) (n : Int32) : entryFrame m #[(.ref oa), (.int n)] 2 = mkF m 0 #[.val (.ref oa), .val (.int n)] [] := by first | (simp [entryFrame, mkF, argsToLocals, Value.category]; done) | rfl
set_option maxRecDepth 65536 in
set_option maxHeartbeats 40000000 in
theorem own_rm_q (l : Launch) (Z : State) (a0 : Array Value) (hw : ∀ d ∈ tables_1, d.before a0 Z = true) (ws : List Jvm.Cond) (oa : Addr) (x : UInt64) (y : UInt64) (w : UInt64) (n : Int32) {q_v27 : UInt64} {q_v33 : UInt64} {q_v34 : UInt64} {q_v35 : UInt64} (h0 : Heap) (n0 : Nat) (Z0 : n0 ≤ h0.size) (E_oa : Exa Z h0 oa "com/example/tally_odds/tallyodds/Bm25") (F_k1_oa : Fld Z h0 oa "com/example/tally_odds/tallyodds/Bm25" "k1" "D" (.double x)) (F_b_oa : Fld Z h0 oa "com/example/tally_odds/tallyodds/Bm25" "b" "D" (.double y)) (F_k3_oa : Fld Z h0 oa "com/example/tally_odds/tallyodds/Bm25" "k3" "D" (.double w)) (q_hb2 : if_icmp.holds .ge n (1 : Int32) = true) (q_hn27 : Jvm.Free.Fl.NoNaN64 (FP.dadd w (FP.i2d n))) (q_hv27 : FP.dadd w (FP.i2d n) = q_v27) (q_hn33 : Jvm.Free.Fl.NoNaN64 (FP.dadd w 4607182418800017408)) (q_hv33 : FP.dadd w 4607182418800017408 = q_v33) (q_hn34 : Jvm.Free.Fl.NoNaN64 (FP.ddiv q_v27 q_v33)) (q_hv34 : FP.ddiv q_v27 q_v33 = q_v34) (q_hn35 : Jvm.Free.Fl.NoNaN64 (FP.ddiv (FP.i2d n) q_v34)) (q_hv35 : FP.ddiv (FP.i2d n) q_v34 = q_v35) :
    MetFree l (⟨"com/example/tally_odds/tallyodds/Bm25", "qtfPart", "(I)D"⟩ : MethodName) (head1 (Jvm.Cond.code (⟨"com/example/tally_odds/tallyodds/Bm25", "qtfPart", "(I)D"⟩ : MethodName) prog_2_method_14_code 2 (some .double) :: ws) ({ frames := 0, cells := 0, slots := 0, locals := 0 } : Room)) (fun a U => a = #[(.ref oa), (.int n)] ∧ Z.Warmed39 U.vm ∧ U.heap = h0) (fun _ _ _ _ _ => True) (fun _ U o U' => ∃ v L, o = .returned v ∧ own_QP (some (.double q_v35)) h0 n0 v U'.heap L ∧ FrameEnd U o U' L ({ frames := 0, cells := 0, slots := 0, locals := 0 } : Room).cells ({ frames := 0, cells := 0, slots := 0, locals := 0 } : Room).slots) := by
  refine MetFree.of_bodySF (plainFor_of_name own_pn_com_example_tally_odds_tallyodds_Bm25) hisR ?_
  intro p e s m args below meth c s₁ Bd hml0 hP hK
  obtain ⟨rfl, hZ, hh⟩ := hP
  have hx := Bd.exec
  have hby := Bd.bytes
  have hml : c.maxLocals = 2 := hml0
  have hown : s.vm.findClass "com/example/tally_odds/tallyodds/Bm25" = some m.cls := findClass_of_methodNamed Bd.named
  have hnm := (name_of_methodNamed Bd.named Bd.method).1
  have X0 : Stand p l e ({ frames := 0, cells := 0, slots := 0, locals := 0 } : Room) s m #[(.ref oa), (.int n)] below meth c s₁ [] 0 0 := Stand.of_body Bd
  have e0 : s₁.heap = h0 := by rw [← hh, Bd.state]; rfl
  have N0 := Fr.nil n0
  have pre0 : ∀ t, Steps p.tables e below (s₁.setTop (mkF m 0 #[.val (.ref oa), .val (.int n)] [])) t → Steps p.tables e below (s₁.setTop (entryFrame m #[(.ref oa), (.int n)] 2)) t := fun t k => castTop (own_ef_q m oa n) k
  obtain ⟨Tq1, Xq1, eq1, stq1⟩ := getF X0 hx hZ hown (host := "") (Or.inl (hw _ (List.mem_of_getElem? (i := 18) rfl))) Via.refl e0 F_k3_oa (g := (mkF m 22 #[.val (.ref oa), .val (.int n)] [(.ref oa), (.double (FP.i2d n))])) rfl rfl (hb hby own_d6_22)
  obtain ⟨Tq2, Xq2, eq2, stq2⟩ := getF Xq1 hx hZ hown (host := "") (Or.inl (hw _ (List.mem_of_getElem? (i := 18) rfl))) Via.refl eq1 F_k3_oa (g := (mkF m 29 #[.val (.ref oa), .val (.int n)] [(.ref oa), (.double q_v27), (.double (FP.i2d n))])) rfl rfl (hb hby own_d6_29)
  obtain ⟨fs, hr, hrun, hended, hW, hsame⟩ := Xq2.leave (v := some (.double q_v35)) (fun h => by rw [Bd.returns] at h; cases h)
  refine ⟨_, _, pre0 _ ?_, hrun, hended, _, _, rfl, ?_, ⟨_, rfl⟩, hW, hsame.mono (by decide) (by decide)⟩
  · refine own_s_iloadN X0.here hx (hb hby own_d6_0) (pc' := 1) rfl rfl ?_
    refine own_s_iconst X0.here hx (hb hby own_d6_1) (pc' := 2) rfl (v := (1 : Int32)) (by decide) ?_
    refine own_s_icmpYes X0.here hx (hb hby own_d6_2) (by decide) (pc' := 19) (by decide) q_hb2 ?_
    refine own_s_iloadN X0.here hx (hb hby own_d6_19) (pc' := 20) rfl rfl ?_
    refine own_s_i2d X0.here hx (hb hby own_d6_20) (pc' := 21) rfl (v := (FP.i2d n)) rfl ?_
    refine own_s_aloadN X0.here hx (hb hby own_d6_21) (pc' := 22) rfl rfl rfl ?_
    refine stq1 _ ?_
    show Steps p.tables e below (Tq1.setTop (mkF m 25 #[.val (.ref oa), .val (.int n)] [(.double w), (.double (FP.i2d n))])) _
    refine own_s_iloadN Xq1.here hx (hb hby own_d6_25) (pc' := 26) rfl rfl ?_
    refine own_s_i2d Xq1.here hx (hb hby own_d6_26) (pc' := 27) rfl (v := (FP.i2d n)) rfl ?_
    refine own_s_dadd Xq1.here hx (hb hby own_d6_27) (pc' := 28) rfl q_hn27 (v := q_v27) q_hv27 ?_
    refine own_s_aloadN Xq1.here hx (hb hby own_d6_28) (pc' := 29) rfl rfl rfl ?_
    refine stq2 _ ?_
    show Steps p.tables e below (Tq2.setTop (mkF m 32 #[.val (.ref oa), .val (.int n)] [(.double w), (.double q_v27), (.double (FP.i2d n))])) _
    refine own_s_dconst1 Xq2.here hx (hb hby own_d6_32) (pc' := 33) rfl  ?_
    refine own_s_dadd Xq2.here hx (hb hby own_d6_33) (pc' := 34) rfl q_hn33 (v := q_v33) q_hv33 ?_
    refine own_s_ddiv Xq2.here hx (hb hby own_d6_34) (pc' := 35) rfl q_hn34 (v := q_v34) q_hv34 ?_
    refine own_s_ddiv Xq2.here hx (hb hby own_d6_35) (pc' := 36) rfl q_hn35 (v := q_v35) q_hv35 ?_
    exact own_retD Xq2 hx Bd.returns (hb hby own_d6_36) hr
  · show own_QP (some (.double q_v35)) h0 n0 _ Tq2.heap _
    rw [eq2]
    exact ⟨rfl, N0, rfl⟩
theorem own_pd_28DD29V : parseMethodDescriptor "(DD)V" = some ⟨[.double, .double], none⟩ := by decide +kernel
theorem own_pd_28II29I : parseMethodDescriptor "(II)I" = some ⟨[.int, .int], some .int⟩ := by decide +kernel
theorem own_pd_28D29Lcom2fexample2ftally_odds2ftallyodds2fBm253b : parseMethodDescriptor "(D)Lcom/example/tally_odds/tallyodds/Bm25;" = some ⟨[.double], some (.object "com/example/tally_odds/tallyodds/Bm25")⟩ := by decide +kernel
theorem own_pd_28I29D : parseMethodDescriptor "(I)D" = some ⟨[.int], some .double⟩ := by decide +kernel
theorem own_pn_com_example_tally_odds_tallyodds_Bm25QtfPartPinLaw : plainName "com/example/tally_odds/tallyodds/Bm25QtfPartPinLaw" = true := by first | (simp [plainName, overriddenIn]; done) | decide +kernel
theorem own_ef_wt (m : MethodId) (p0 : Int32) (p1 : Int32) (p2 : Int32) (p3 : Int32) : entryFrame m #[(.int p0), (.int p1), (.int p2), (.int p3)] maxLocals = mkF m 0 #[.val (.int p0), .val (.int p1), .val (.int p2), .val (.int p3), .unset, .unset, .unset, .unset, .unset, .unset, .unset, .unset, .unset, .unset, .unset, .unset, .unset, .unset, .unset, .unset, .unset] [] := by first | (simp [entryFrame, mkF, argsToLocals, Value.category, maxLocals]; done) | rfl
set_option maxRecDepth 65536 in
set_option maxHeartbeats 40000000 in
theorem own_rm_wt (l : Launch) (Z : State) (a0 : Array Value) (hw : ∀ d ∈ tables_1, d.before a0 Z = true) (ws : List Jvm.Cond) (p0 : Int32) (p1 : Int32) (p2 : Int32) (p3 : Int32) {wt_v4 : Int32} {wt_v9 : UInt64} {wt_v15 : Int32} {wt_v17 : Int32} {wt_v22 : UInt64} {wt_v41 : Int32} {wt_v46 : UInt64} {wt_v53 : Int32} {wt_c68_q_v27 : UInt64} {wt_c68_q_v33 : UInt64} {wt_c68_q_v34 : UInt64} {wt_c68_q_v35 : UInt64} {wt_v139 : Int32} {wt_v145 : Int32} {wt_v149 : Int32} {wt_v158 : Int32} {wt_v159 : Int32} {wt_v160 : Int32} {wt_c173_q_v27 : UInt64} {wt_c173_q_v33 : UInt64} {wt_c173_q_v34 : UInt64} {wt_c173_q_v35 : UInt64} {wt_v186 : Int32} {wt_v188 : UInt64} (h0 : Heap) (n0 : Nat) (Z0 : n0 ≤ h0.size)  (wt_hv4 : p2 &&& (255 : Int32) = wt_v4) (wt_hn9 : Jvm.Free.Fl.NoNaN64 (FP.ddiv (FP.i2d wt_v4) (4616189618054758400 : UInt64))) (wt_hv9 : FP.ddiv (FP.i2d wt_v4) (4616189618054758400 : UInt64) = wt_v9) (wt_hv15 : (Int32.toUInt32 p2 >>> ((8 : Int32) &&& 31).toUInt32).toInt32 = wt_v15) (wt_hv17 : wt_v15 &&& (3 : Int32) = wt_v17) (wt_hn22 : Jvm.Free.Fl.NoNaN64 (FP.ddiv (FP.i2d wt_v17) (4616189618054758400 : UInt64))) (wt_hv22 : FP.ddiv (FP.i2d wt_v17) (4616189618054758400 : UInt64) = wt_v22) (wt_c33_j_c4_i_hb7 : ifCond.holds .lt (Op.cmpValue (FP.dcmp wt_v9 0) .l) = false) (wt_c33_j_c4_i_hb15 : ifCond.holds .lt (Op.cmpValue (FP.dcmp wt_v9 (9218868437227405312 : UInt64)) .g) = true) (wt_c33_j_c4_i_hb35 : ifCond.holds .lt (Op.cmpValue (FP.dcmp wt_v22 0) .l) = false) (wt_c33_j_c4_i_hb41 : ifCond.holds .le (Op.cmpValue (FP.dcmp wt_v22 4607182418800017408) .g) = true) (wt_c33_j_c4_i_hb62 : ifCond.holds .lt (Op.cmpValue (FP.dcmp 0 0) .l) = false) (wt_c33_j_c4_i_hb71 : ifCond.holds .lt (Op.cmpValue (FP.dcmp 0 (9218868437227405312 : UInt64)) .g) = true) (wt_hv41 : p0 &&& (2147483647 : Int32) = wt_v41) (wt_hn46 : Jvm.Free.Fl.NoNaN64 (FP.ddiv (FP.i2d wt_v41) (4620693217682128896 : UInt64))) (wt_hv46 : FP.ddiv (FP.i2d wt_v41) (4620693217682128896 : UInt64) = wt_v46) (wt_hv53 : p1 &&& (2147483647 : Int32) = wt_v53) (wt_c63_k_c13_i_hb7 : ifCond.holds .lt (Op.cmpValue (FP.dcmp wt_v9 0) .l) = false) (wt_c63_k_c13_i_hb15 : ifCond.holds .lt (Op.cmpValue (FP.dcmp wt_v9 (9218868437227405312 : UInt64)) .g) = true) (wt_c63_k_c13_i_hb35 : ifCond.holds .lt (Op.cmpValue (FP.dcmp wt_v22 0) .l) = false) (wt_c63_k_c13_i_hb41 : ifCond.holds .le (Op.cmpValue (FP.dcmp wt_v22 4607182418800017408) .g) = true) (wt_c63_k_c13_i_hb62 : ifCond.holds .lt (Op.cmpValue (FP.dcmp wt_v46 0) .l) = false) (wt_c63_k_c13_i_hb71 : ifCond.holds .lt (Op.cmpValue (FP.dcmp wt_v46 (9218868437227405312 : UInt64)) .g) = true) (wt_c68_q_hb2 : if_icmp.holds .ge (own_imax (1 : Int32) wt_v53) (1 : Int32) = true) (wt_c68_q_hn27 : Jvm.Free.Fl.NoNaN64 (FP.dadd wt_v46 (FP.i2d (own_imax (1 : Int32) wt_v53)))) (wt_c68_q_hv27 : FP.dadd wt_v46 (FP.i2d (own_imax (1 : Int32) wt_v53)) = wt_c68_q_v27) (wt_c68_q_hn33 : Jvm.Free.Fl.NoNaN64 (FP.dadd wt_v46 4607182418800017408)) (wt_c68_q_hv33 : FP.dadd wt_v46 4607182418800017408 = wt_c68_q_v33) (wt_c68_q_hn34 : Jvm.Free.Fl.NoNaN64 (FP.ddiv wt_c68_q_v27 wt_c68_q_v33)) (wt_c68_q_hv34 : FP.ddiv wt_c68_q_v27 wt_c68_q_v33 = wt_c68_q_v34) (wt_c68_q_hn35 : Jvm.Free.Fl.NoNaN64 (FP.ddiv (FP.i2d (own_imax (1 : Int32) wt_v53)) wt_c68_q_v34)) (wt_c68_q_hv35 : FP.ddiv (FP.i2d (own_imax (1 : Int32) wt_v53)) wt_c68_q_v34 = wt_c68_q_v35) (wt_hb77 : ifCond.holds .eq (Op.cmpValue (FP.dcmp wt_v46 0) .l) = true) (wt_hc89 : Op.cmpValue (FP.dcmp wt_c68_q_v35 4607182418800017408) .l = (0 : Int32)) (wt_hv139 : p3 &&& (65535 : Int32) = wt_v139) (wt_hv145 : (Int32.toUInt32 p3 >>> ((16 : Int32) &&& 31).toUInt32).toInt32 = wt_v145) (wt_hv149 : wt_v145 &&& (32767 : Int32) = wt_v149) (wt_hv158 : wt_v139 + (1 : Int32) = wt_v158) (wt_hv159 : wt_v149 * wt_v158 = wt_v159) (wt_hv160 : (1 : Int32) + wt_v159 = wt_v160) (wt_c168_k_c13_i_hb7 : ifCond.holds .lt (Op.cmpValue (FP.dcmp wt_v9 0) .l) = false) (wt_c168_k_c13_i_hb15 : ifCond.holds .lt (Op.cmpValue (FP.dcmp wt_v9 (9218868437227405312 : UInt64)) .g) = true) (wt_c168_k_c13_i_hb35 : ifCond.holds .lt (Op.cmpValue (FP.dcmp wt_v22 0) .l) = false) (wt_c168_k_c13_i_hb41 : ifCond.holds .le (Op.cmpValue (FP.dcmp wt_v22 4607182418800017408) .g) = true) (wt_c168_k_c13_i_hb62 : ifCond.holds .lt (Op.cmpValue (FP.dcmp (FP.i2d wt_v139) 0) .l) = false) (wt_c168_k_c13_i_hb71 : ifCond.holds .lt (Op.cmpValue (FP.dcmp (FP.i2d wt_v139) (9218868437227405312 : UInt64)) .g) = true) (wt_c173_q_hb2 : if_icmp.holds .ge wt_v160 (1 : Int32) = true) (wt_c173_q_hn27 : Jvm.Free.Fl.NoNaN64 (FP.dadd (FP.i2d wt_v139) (FP.i2d wt_v160))) (wt_c173_q_hv27 : FP.dadd (FP.i2d wt_v139) (FP.i2d wt_v160) = wt_c173_q_v27) (wt_c173_q_hn33 : Jvm.Free.Fl.NoNaN64 (FP.dadd (FP.i2d wt_v139) 4607182418800017408)) (wt_c173_q_hv33 : FP.dadd (FP.i2d wt_v139) 4607182418800017408 = wt_c173_q_v33) (wt_c173_q_hn34 : Jvm.Free.Fl.NoNaN64 (FP.ddiv wt_c173_q_v27 wt_c173_q_v33)) (wt_c173_q_hv34 : FP.ddiv wt_c173_q_v27 wt_c173_q_v33 = wt_c173_q_v34) (wt_c173_q_hn35 : Jvm.Free.Fl.NoNaN64 (FP.ddiv (FP.i2d wt_v160) wt_c173_q_v34)) (wt_c173_q_hv35 : FP.ddiv (FP.i2d wt_v160) wt_c173_q_v34 = wt_c173_q_v35) (wt_hv186 : wt_v149 + (1 : Int32) = wt_v186) (wt_hn188 : Jvm.Free.Fl.NoNaN64 (FP.ddiv (FP.i2d wt_v160) (FP.i2d wt_v186))) (wt_hv188 : FP.ddiv (FP.i2d wt_v160) (FP.i2d wt_v186) = wt_v188) (wt_hc189 : Op.cmpValue (FP.dcmp wt_c173_q_v35 wt_v188) .l = (0 : Int32)) :
    MetFree l x (head1 (Jvm.Cond.code x code maxLocals ret :: ws) room_1) (fun a U => a = #[(.int p0), (.int p1), (.int p2), (.int p3)] ∧ Z.Warmed39 U.vm ∧ U.heap = h0) (fun _ _ _ _ _ => True) (fun _ U o U' => ∃ v L, o = .returned v ∧ own_Q0 n0 v U'.heap L ∧ FrameEnd U o U' L room_1.cells room_1.slots) := by
  refine MetFree.of_bodySF (plainFor_of_name own_pn_com_example_tally_odds_tallyodds_Bm25QtfPartPinLaw) hisR ?_
  intro p e s m args below meth c s₁ Bd hml0 hP hK
  obtain ⟨rfl, hZ, hh⟩ := hP
  have hx := Bd.exec
  have hby := Bd.bytes
  have hml : c.maxLocals = 21 := hml0
  have hown : s.vm.findClass "com/example/tally_odds/tallyodds/Bm25QtfPartPinLaw" = some m.cls := findClass_of_methodNamed Bd.named
  have hnm := (name_of_methodNamed Bd.named Bd.method).1
  have X0 : Stand p l e room_1 s m #[(.int p0), (.int p1), (.int p2), (.int p3)] below meth c s₁ [] 0 0 := Stand.of_body Bd
  have e0 : s₁.heap = h0 := by rw [← hh, Bd.state]; rfl
  have N0 := Fr.nil n0
  have pre0 : ∀ t, Steps p.tables e below (s₁.setTop (mkF m 0 #[.val (.int p0), .val (.int p1), .val (.int p2), .val (.int p3), .unset, .unset, .unset, .unset, .unset, .unset, .unset, .unset, .unset, .unset, .unset, .unset, .unset, .unset, .unset, .unset, .unset] [])) t → Steps p.tables e below (s₁.setTop (entryFrame m #[(.int p0), (.int p1), (.int p2), (.int p3)] maxLocals)) t := fun t k => castTop (own_ef_wt m p0 p1 p2 p3) k
  obtain ⟨Twt1, hwt1, Xwt1, ewt1, Ewt1, Awt1, Dwt1, -, stwt1⟩ := newO X0 hx hZ hown (hw _ (List.mem_of_getElem? (i := 1) rfl)) (hw _ (List.mem_of_getElem? (i := 2) rfl)) (hw _ (List.mem_of_getElem? (i := 3) rfl)) e0 (g := (mkF m 25 #[.val (.int p0), .val (.int p1), .val (.int p2), .val (.int p3), .val (.double wt_v9), .second, .val (.double wt_v22), .second, .unset, .unset, .unset, .unset, .unset, .unset, .unset, .unset, .unset, .unset, .unset, .unset, .unset] [])) rfl (hb hby at_25) (by decide) (by decide)
  obtain ⟨bwt1, Gwt1⟩ : ∃ z, z = h0.size := ⟨_, rfl⟩
  rw [← Gwt1] at Awt1 Dwt1 stwt1
  have g_bwt1 : n0 ≤ bwt1 := Nat.le_trans Z0 (Nat.le_of_eq Gwt1.symm)
  have sz_bwt1 : h0.size ≤ bwt1 := Nat.le_trans (Keep.refl h0 []).1 (Nat.le_of_eq Gwt1.symm)
  have Zwt1 : n0 ≤ hwt1.size := Nat.le_trans Z0 Ewt1.1
  have KKwt1 := (Keep.refl h0 []).ext Ewt1
  have F_k1_bwt1 : Fld Z hwt1 bwt1 "com/example/tally_odds/tallyodds/Bm25" "k1" "D" (.double 0) := Dwt1 (Or.inr (hw _ (List.mem_of_getElem? (i := 15) rfl))) (ty := .double) (by decide)
  have F_b_bwt1 : Fld Z hwt1 bwt1 "com/example/tally_odds/tallyodds/Bm25" "b" "D" (.double 0) := Dwt1 (Or.inr (hw _ (List.mem_of_getElem? (i := 17) rfl))) (ty := .double) (by decide)
  have F_k3_bwt1 : Fld Z hwt1 bwt1 "com/example/tally_odds/tallyodds/Bm25" "k3" "D" (.double 0) := Dwt1 (Or.inr (hw _ (List.mem_of_getElem? (i := 19) rfl))) (ty := .double) (by decide)
  obtain ⟨_, _, ⟨Twt2, Lwt2, kwt2, nwt2⟩, -, Xwt2, ⟨Lcwt2, hQwt2, lwt2, ywt2, zwt2⟩, stwt2⟩ := Xwt1.specialBack hx (y := (⟨"com/example/tally_odds/tallyodds/Bm25", "<init>", "(DD)V"⟩ : MethodName)) rfl hown (mvT hZ (hw _ (List.mem_of_getElem? (i := 4) rfl))) (mvT hZ (hw _ (List.mem_of_getElem? (i := 5) rfl))) (mvT hZ (hw _ (List.mem_of_getElem? (i := 6) rfl))) (by decide) (backOf (W := 1) (own_rm_j l Z a0 hw [] bwt1 wt_v9 wt_v22 hwt1 n0 Zwt1 Awt1 F_k1_bwt1 F_b_bwt1 F_k3_bwt1 g_bwt1 wt_c33_j_c4_i_hb7 wt_c33_j_c4_i_hb15 wt_c33_j_c4_i_hb35 wt_c33_j_c4_i_hb41 wt_c33_j_c4_i_hb62 wt_c33_j_c4_i_hb71) hZ (hw _ (List.mem_of_getElem? (i := 6) rfl)) (hw _ (List.mem_of_getElem? (i := 3) rfl)) (by decide) (by decide)) (g := (mkF m 33 #[.val (.int p0), .val (.int p1), .val (.int p2), .val (.int p3), .val (.double wt_v9), .second, .val (.double wt_v22), .second, .unset, .unset, .unset, .unset, .unset, .unset, .unset, .unset, .unset, .unset, .unset, .unset, .unset] [(.double wt_v22), (.double wt_v9), (.ref bwt1), (.ref bwt1)])) rfl (by rw [hml]; rfl) (Steps.refl _) (a := bwt1) (argsL := [(.double wt_v9), (.double wt_v22)]) (rest := [(.ref bwt1)]) (lenOf own_pd_28DD29V rfl) rfl (by show 2 * 0 + _ ≤ _; exact Nat.le_of_eq rfl) (hb hby at_33) (fun _ _ => ⟨rfl, ewt1, (by decide : 1 + 0 ≤ _), (by decide : 3 + 0 ≤ _)⟩)
  dsimp only [Pt.U, Pt.locs, Pt.cells, Pt.slots] at Xwt2 lwt2 ywt2 zwt2 stwt2 hQwt2
  rw [lwt2, ywt2, zwt2] at Xwt2
  obtain ⟨rfl, Nwt2q, Kwt2, qwt2_0, qwt2_1, qwt2_2, qwt2_3⟩ := hQwt2
  have Zwt2 : n0 ≤ Twt2.heap.size := Nat.le_trans Zwt1 Kwt2.1
  have KKwt2 := KKwt1.trans Kwt2 (fun q hq => by simp only [List.mem_cons, List.not_mem_nil, or_false] at hq; rcases hq with rfl; exact Or.inr sz_bwt1)
  have Nwt2 := Fr.app N0 Nwt2q
  obtain ⟨_, _, ⟨Twt3, Lwt3, kwt3, nwt3⟩, -, Xwt3, ⟨Lcwt3, hQwt3, lwt3, ywt3, zwt3⟩, stwt3⟩ := Jvm.LawKit.callS Xwt2 hx (y := (⟨"java/lang/Math", "max", "(II)I"⟩ : MethodName)) hown (mvT hZ (hw _ (List.mem_of_getElem? (i := 22) rfl))) (mvT hZ (hw _ (List.mem_of_getElem? (i := 23) rfl))) (mvT hZ (hw _ (List.mem_of_getElem? (i := 24) rfl))) (mvT hZ (hw _ (List.mem_of_getElem? (i := 25) rfl))) (by decide) (backOf (W := 0) (own_rm_ma l Z a0 hw [] (1 : Int32) wt_v53 Twt2.heap n0 Zwt2 ) hZ (hw _ (List.mem_of_getElem? (i := 25) rfl)) (hw _ (List.mem_of_getElem? (i := 24) rfl)) (by decide) (by decide)) (g := (mkF m 54 #[.val (.int p0), .val (.int p1), .val (.int p2), .val (.int p3), .val (.double wt_v9), .second, .val (.double wt_v22), .second, .val (.ref bwt1), .val (.double wt_v46), .second, .unset, .unset, .unset, .unset, .unset, .unset, .unset, .unset, .unset, .unset] [(.int wt_v53), (.int (1 : Int32))])) rfl (by rw [hml]; rfl) (argsL := [(.int (1 : Int32)), (.int wt_v53)]) (rest := []) (lenOf own_pd_28II29I rfl) rfl (by show 2 * 0 + _ ≤ _; exact Nat.le_of_eq rfl) (hb hby at_54) (fun _ _ => ⟨rfl, rfl, (by decide : 1 + 0 ≤ _), (by decide : 3 + 0 ≤ _)⟩)
  dsimp only [Pt.U, Pt.locs, Pt.cells, Pt.slots] at Xwt3 lwt3 ywt3 zwt3 stwt3 hQwt3
  rw [lwt3, ywt3, zwt3] at Xwt3
  obtain ⟨rfl, Nwt3q, ewt3⟩ := hQwt3
  have Nwt3 := Fr.app Nwt2 Nwt3q
  obtain ⟨cqwt4, kqwt4, qwt4a, qwt4b, qwt4c⟩ := isOf hZ ewt3 qwt2_0
  obtain ⟨_, _, ⟨Twt4, Lwt4, kwt4, nwt4⟩, -, Xwt4, ⟨Lcwt4, hQwt4, lwt4, ywt4, zwt4⟩, stwt4⟩ := Xwt3.virtualBack hx (y := (⟨"com/example/tally_odds/tallyodds/Bm25", "withK3", "(D)Lcom/example/tally_odds/tallyodds/Bm25;"⟩ : MethodName)) (z := (⟨"com/example/tally_odds/tallyodds/Bm25", "withK3", "(D)Lcom/example/tally_odds/tallyodds/Bm25;"⟩ : MethodName)) hown (mvT hZ (hw _ (List.mem_of_getElem? (i := 26) rfl))) (mvT hZ (hw _ (List.mem_of_getElem? (i := 27) rfl))) (notFace_of_selects (args := #[]) (mvT hZ (hw _ (List.mem_of_getElem? (i := 29) rfl)))) (mvT hZ (hw _ (List.mem_of_getElem? (i := 29) rfl))) (mvT hZ (hw _ (List.mem_of_getElem? (i := 28) rfl))) (by decide) (backOf (W := 0) (own_rm_k l Z a0 hw [] bwt1 wt_v9 wt_v22 0 wt_v46 Twt2.heap n0 Zwt2 qwt2_0 qwt2_1 qwt2_2 qwt2_3 wt_c63_k_c13_i_hb7 wt_c63_k_c13_i_hb15 wt_c63_k_c13_i_hb35 wt_c63_k_c13_i_hb41 wt_c63_k_c13_i_hb62 wt_c63_k_c13_i_hb71) hZ (hw _ (List.mem_of_getElem? (i := 30) rfl)) (hw _ (List.mem_of_getElem? (i := 3) rfl)) (by decide) (by decide)) qwt4a qwt4c (g := (mkF m 63 #[.val (.int p0), .val (.int p1), .val (.int p2), .val (.int p3), .val (.double wt_v9), .second, .val (.double wt_v22), .second, .val (.ref bwt1), .val (.double wt_v46), .second, .val (.int (own_imax (1 : Int32) wt_v53)), .unset, .unset, .unset, .unset, .unset, .unset, .unset, .unset, .unset] [(.double wt_v46), (.ref bwt1)])) rfl (by rw [hml]; rfl) (Steps.refl _) (argsL := [(.double wt_v46)]) (rest := []) (lenOf own_pd_28D29Lcom2fexample2ftally_odds2ftallyodds2fBm253b rfl) rfl (by show 2 * 0 + _ ≤ _; exact Nat.le_of_eq rfl) (hb hby at_63) (fun _ _ => ⟨rfl, ewt3, (by decide : 1 + 1 ≤ _), (by decide : 3 + 3 ≤ _)⟩)
  dsimp only [Pt.U, Pt.locs, Pt.cells, Pt.slots] at Xwt4 lwt4 ywt4 zwt4 stwt4 hQwt4
  rw [lwt4, ywt4, zwt4] at Xwt4
  obtain ⟨bwt4, rfl, Nwt4q, Kwt4, Gwt4, qwt4_0, qwt4_1, qwt4_2, qwt4_3⟩ := hQwt4
  have ne_bwt1_bwt4 : bwt1 ≠ bwt4 := Nat.ne_of_lt (Nat.lt_of_lt_of_le qwt2_0.lt Gwt4)
  have ne_bwt4_bwt1 : bwt4 ≠ bwt1 := Ne.symm ne_bwt1_bwt4
  have g_bwt4 : n0 ≤ bwt4 := Nat.le_trans Zwt2 Gwt4
  have sz_bwt4 : h0.size ≤ bwt4 := Nat.le_trans KKwt2.1 Gwt4
  have E_bwt1_wt4 := qwt2_0.keep Kwt4
  have F_k1_bwt1_wt4 := qwt2_1.keep Kwt4 (List.not_mem_nil)
  have F_b_bwt1_wt4 := qwt2_2.keep Kwt4 (List.not_mem_nil)
  have F_k3_bwt1_wt4 := qwt2_3.keep Kwt4 (List.not_mem_nil)
  have Zwt4 : n0 ≤ Twt4.heap.size := Nat.le_trans Zwt2 Kwt4.1
  have KKwt4 := KKwt2.trans Kwt4 (fun _ q => nomatch q)
  have Nwt4 := Fr.app Nwt3 Nwt4q
  obtain ⟨cqwt5, kqwt5, qwt5a, qwt5b, qwt5c⟩ := isOf hZ rfl qwt4_0
  obtain ⟨_, _, ⟨Twt5, Lwt5, kwt5, nwt5⟩, -, Xwt5, ⟨Lcwt5, hQwt5, lwt5, ywt5, zwt5⟩, stwt5⟩ := Xwt4.virtualBack hx (y := (⟨"com/example/tally_odds/tallyodds/Bm25", "qtfPart", "(I)D"⟩ : MethodName)) (z := (⟨"com/example/tally_odds/tallyodds/Bm25", "qtfPart", "(I)D"⟩ : MethodName)) hown (mvT hZ (hw _ (List.mem_of_getElem? (i := 32) rfl))) (mvT hZ (hw _ (List.mem_of_getElem? (i := 33) rfl))) (notFace_of_selects (args := #[]) (mvT hZ (hw _ (List.mem_of_getElem? (i := 35) rfl)))) (mvT hZ (hw _ (List.mem_of_getElem? (i := 35) rfl))) (mvT hZ (hw _ (List.mem_of_getElem? (i := 34) rfl))) (by decide) (backOf (W := 0) (own_rm_q l Z a0 hw [] bwt4 wt_v9 wt_v22 wt_v46 (own_imax (1 : Int32) wt_v53) Twt4.heap n0 Zwt4 qwt4_0 qwt4_1 qwt4_2 qwt4_3 wt_c68_q_hb2 wt_c68_q_hn27 wt_c68_q_hv27 wt_c68_q_hn33 wt_c68_q_hv33 wt_c68_q_hn34 wt_c68_q_hv34 wt_c68_q_hn35 wt_c68_q_hv35) hZ (hw _ (List.mem_of_getElem? (i := 36) rfl)) (hw _ (List.mem_of_getElem? (i := 3) rfl)) (by decide) (by decide)) qwt5a qwt5c (g := (mkF m 68 #[.val (.int p0), .val (.int p1), .val (.int p2), .val (.int p3), .val (.double wt_v9), .second, .val (.double wt_v22), .second, .val (.ref bwt1), .val (.double wt_v46), .second, .val (.int (own_imax (1 : Int32) wt_v53)), .unset, .unset, .unset, .unset, .unset, .unset, .unset, .unset, .unset] [(.int (own_imax (1 : Int32) wt_v53)), (.ref bwt4)])) rfl (by rw [hml]; rfl) (Steps.refl _) (argsL := [(.int (own_imax (1 : Int32) wt_v53))]) (rest := []) (lenOf own_pd_28I29D rfl) rfl (by show 2 * 0 + _ ≤ _; exact Nat.le_of_eq rfl) (hb hby at_68) (fun _ _ => ⟨rfl, rfl, (by decide : 2 + 0 ≤ _), (by decide : 6 + 0 ≤ _)⟩)
  dsimp only [Pt.U, Pt.locs, Pt.cells, Pt.slots] at Xwt5 lwt5 ywt5 zwt5 stwt5 hQwt5
  rw [lwt5, ywt5, zwt5] at Xwt5
  obtain ⟨rfl, Nwt5q, ewt5⟩ := hQwt5
  have Nwt5 := Fr.app Nwt4 Nwt5q
  obtain ⟨cqwt6, kqwt6, qwt6a, qwt6b, qwt6c⟩ := isOf hZ ewt5 E_bwt1_wt4
  obtain ⟨_, _, ⟨Twt6, Lwt6, kwt6, nwt6⟩, -, Xwt6, ⟨Lcwt6, hQwt6, lwt6, ywt6, zwt6⟩, stwt6⟩ := Xwt5.virtualBack hx (y := (⟨"com/example/tally_odds/tallyodds/Bm25", "withK3", "(D)Lcom/example/tally_odds/tallyodds/Bm25;"⟩ : MethodName)) (z := (⟨"com/example/tally_odds/tallyodds/Bm25", "withK3", "(D)Lcom/example/tally_odds/tallyodds/Bm25;"⟩ : MethodName)) hown (mvT hZ (hw _ (List.mem_of_getElem? (i := 26) rfl))) (mvT hZ (hw _ (List.mem_of_getElem? (i := 27) rfl))) (notFace_of_selects (args := #[]) (mvT hZ (hw _ (List.mem_of_getElem? (i := 29) rfl)))) (mvT hZ (hw _ (List.mem_of_getElem? (i := 29) rfl))) (mvT hZ (hw _ (List.mem_of_getElem? (i := 28) rfl))) (by decide) (backOf (W := 0) (own_rm_k l Z a0 hw [] bwt1 wt_v9 wt_v22 0 (FP.i2d wt_v139) Twt4.heap n0 Zwt4 E_bwt1_wt4 F_k1_bwt1_wt4 F_b_bwt1_wt4 F_k3_bwt1_wt4 wt_c168_k_c13_i_hb7 wt_c168_k_c13_i_hb15 wt_c168_k_c13_i_hb35 wt_c168_k_c13_i_hb41 wt_c168_k_c13_i_hb62 wt_c168_k_c13_i_hb71) hZ (hw _ (List.mem_of_getElem? (i := 30) rfl)) (hw _ (List.mem_of_getElem? (i := 3) rfl)) (by decide) (by decide)) qwt6a qwt6c (g := (mkF m 168 #[.val (.int p0), .val (.int p1), .val (.int p2), .val (.int p3), .val (.double wt_v9), .second, .val (.double wt_v22), .second, .val (.ref bwt1), .val (.double wt_v46), .second, .val (.int (own_imax (1 : Int32) wt_v53)), .val (.double wt_c68_q_v35), .second, .val (.int (1 : Int32)), .val (.int wt_v139), .val (.int wt_v149), .val (.int wt_v160), .unset, .unset, .unset] [(.double (FP.i2d wt_v139)), (.ref bwt1)])) rfl (by rw [hml]; rfl) (Steps.refl _) (argsL := [(.double (FP.i2d wt_v139))]) (rest := []) (lenOf own_pd_28D29Lcom2fexample2ftally_odds2ftallyodds2fBm253b rfl) rfl (by show 2 * 0 + _ ≤ _; exact Nat.le_of_eq rfl) (hb hby at_168) (fun _ _ => ⟨rfl, ewt5, (by decide : 2 + 1 ≤ _), (by decide : 6 + 3 ≤ _)⟩)
  dsimp only [Pt.U, Pt.locs, Pt.cells, Pt.slots] at Xwt6 lwt6 ywt6 zwt6 stwt6 hQwt6
  rw [lwt6, ywt6, zwt6] at Xwt6
  obtain ⟨bwt6, rfl, Nwt6q, Kwt6, Gwt6, qwt6_0, qwt6_1, qwt6_2, qwt6_3⟩ := hQwt6
  have ne_bwt1_bwt6 : bwt1 ≠ bwt6 := Nat.ne_of_lt (Nat.lt_of_lt_of_le E_bwt1_wt4.lt Gwt6)
  have ne_bwt6_bwt1 : bwt6 ≠ bwt1 := Ne.symm ne_bwt1_bwt6
  have ne_bwt4_bwt6 : bwt4 ≠ bwt6 := Nat.ne_of_lt (Nat.lt_of_lt_of_le qwt4_0.lt Gwt6)
  have ne_bwt6_bwt4 : bwt6 ≠ bwt4 := Ne.symm ne_bwt4_bwt6
  have g_bwt6 : n0 ≤ bwt6 := Nat.le_trans Zwt4 Gwt6
  have sz_bwt6 : h0.size ≤ bwt6 := Nat.le_trans KKwt4.1 Gwt6
  have E_bwt1_wt6 := E_bwt1_wt4.keep Kwt6
  have F_k1_bwt1_wt6 := F_k1_bwt1_wt4.keep Kwt6 (List.not_mem_nil)
  have F_b_bwt1_wt6 := F_b_bwt1_wt4.keep Kwt6 (List.not_mem_nil)
  have F_k3_bwt1_wt6 := F_k3_bwt1_wt4.keep Kwt6 (List.not_mem_nil)
  have E_bwt4_wt6 := qwt4_0.keep Kwt6
  have F_k1_bwt4_wt6 := qwt4_1.keep Kwt6 (List.not_mem_nil)
  have F_b_bwt4_wt6 := qwt4_2.keep Kwt6 (List.not_mem_nil)
  have F_k3_bwt4_wt6 := qwt4_3.keep Kwt6 (List.not_mem_nil)
  have Zwt6 : n0 ≤ Twt6.heap.size := Nat.le_trans Zwt4 Kwt6.1
  have KKwt6 := KKwt4.trans Kwt6 (fun _ q => nomatch q)
  have Nwt6 := Fr.app Nwt5 Nwt6q
  obtain ⟨cqwt7, kqwt7, qwt7a, qwt7b, qwt7c⟩ := isOf hZ rfl qwt6_0
  obtain ⟨_, _, ⟨Twt7, Lwt7, kwt7, nwt7⟩, -, Xwt7, ⟨Lcwt7, hQwt7, lwt7, ywt7, zwt7⟩, stwt7⟩ := Xwt6.virtualBack hx (y := (⟨"com/example/tally_odds/tallyodds/Bm25", "qtfPart", "(I)D"⟩ : MethodName)) (z := (⟨"com/example/tally_odds/tallyodds/Bm25", "qtfPart", "(I)D"⟩ : MethodName)) hown (mvT hZ (hw _ (List.mem_of_getElem? (i := 32) rfl))) (mvT hZ (hw _ (List.mem_of_getElem? (i := 33) rfl))) (notFace_of_selects (args := #[]) (mvT hZ (hw _ (List.mem_of_getElem? (i := 35) rfl)))) (mvT hZ (hw _ (List.mem_of_getElem? (i := 35) rfl))) (mvT hZ (hw _ (List.mem_of_getElem? (i := 34) rfl))) (by decide) (backOf (W := 0) (own_rm_q l Z a0 hw [] bwt6 wt_v9 wt_v22 (FP.i2d wt_v139) wt_v160 Twt6.heap n0 Zwt6 qwt6_0 qwt6_1 qwt6_2 qwt6_3 wt_c173_q_hb2 wt_c173_q_hn27 wt_c173_q_hv27 wt_c173_q_hn33 wt_c173_q_hv33 wt_c173_q_hn34 wt_c173_q_hv34 wt_c173_q_hn35 wt_c173_q_hv35) hZ (hw _ (List.mem_of_getElem? (i := 36) rfl)) (hw _ (List.mem_of_getElem? (i := 3) rfl)) (by decide) (by decide)) qwt7a qwt7c (g := (mkF m 173 #[.val (.int p0), .val (.int p1), .val (.int p2), .val (.int p3), .val (.double wt_v9), .second, .val (.double wt_v22), .second, .val (.ref bwt1), .val (.double wt_v46), .second, .val (.int (own_imax (1 : Int32) wt_v53)), .val (.double wt_c68_q_v35), .second, .val (.int (1 : Int32)), .val (.int wt_v139), .val (.int wt_v149), .val (.int wt_v160), .unset, .unset, .unset] [(.int wt_v160), (.ref bwt6)])) rfl (by rw [hml]; rfl) (Steps.refl _) (argsL := [(.int wt_v160)]) (rest := []) (lenOf own_pd_28I29D rfl) rfl (by show 2 * 0 + _ ≤ _; exact Nat.le_of_eq rfl) (hb hby at_173) (fun _ _ => ⟨rfl, rfl, (by decide : 3 + 0 ≤ _), (by decide : 9 + 0 ≤ _)⟩)
  dsimp only [Pt.U, Pt.locs, Pt.cells, Pt.slots] at Xwt7 lwt7 ywt7 zwt7 stwt7 hQwt7
  rw [lwt7, ywt7, zwt7] at Xwt7
  obtain ⟨rfl, Nwt7q, ewt7⟩ := hQwt7
  have Nwt7 := Fr.app Nwt6 Nwt7q
  obtain ⟨fs, hr, hrun, hended, hW, hsame⟩ := Xwt7.leave (v := some (.int (1 : Int32))) (fun h => by rw [Bd.returns] at h; cases h)
  refine ⟨_, _, pre0 _ ?_, hrun, hended, _, _, rfl, ?_, ⟨_, rfl⟩, hW, hsame.mono (by decide) (by decide)⟩
  · refine own_s_iloadN X0.here hx (hb hby at_0) (pc' := 1) rfl rfl ?_
    refine own_s_sipush X0.here hx (hb hby at_1) (pc' := 4) rfl (v := (255 : Int32)) (by decide) ?_
    refine own_s_iand X0.here hx (hb hby at_4) (pc' := 5) rfl (v := wt_v4) wt_hv4 ?_
    refine own_s_i2d X0.here hx (hb hby at_5) (pc' := 6) rfl (v := (FP.i2d wt_v4)) rfl ?_
    refine X0.ldc2DoubleC hx hown (mvT hZ (hw _ (List.mem_of_getElem? (i := 0) rfl))) (g := (mkF m 6 #[.val (.int p0), .val (.int p1), .val (.int p2), .val (.int p3), .unset, .unset, .unset, .unset, .unset, .unset, .unset, .unset, .unset, .unset, .unset, .unset, .unset, .unset, .unset, .unset, .unset] [(.double (FP.i2d wt_v4))])) rfl (hb hby at_6) _ ?_
    show Steps p.tables e below (s₁.setTop (mkF m 9 #[.val (.int p0), .val (.int p1), .val (.int p2), .val (.int p3), .unset, .unset, .unset, .unset, .unset, .unset, .unset, .unset, .unset, .unset, .unset, .unset, .unset, .unset, .unset, .unset, .unset] [(.double (4616189618054758400 : UInt64)), (.double (FP.i2d wt_v4))])) _
    refine own_s_ddiv X0.here hx (hb hby at_9) (pc' := 10) rfl wt_hn9 (v := wt_v9) wt_hv9 ?_
    refine own_s_dstore X0.here hx (hb hby at_10) (pc' := 12) rfl (L' := #[.val (.int p0), .val (.int p1), .val (.int p2), .val (.int p3), .val (.double wt_v9), .second, .unset, .unset, .unset, .unset, .unset, .unset, .unset, .unset, .unset, .unset, .unset, .unset, .unset, .unset, .unset]) rfl ?_
    refine own_s_iloadN X0.here hx (hb hby at_12) (pc' := 13) rfl rfl ?_
    refine own_s_bipush X0.here hx (hb hby at_13) (pc' := 15) rfl (v := (8 : Int32)) (by decide) ?_
    refine own_s_iushr X0.here hx (hb hby at_15) (pc' := 16) rfl (v := wt_v15) wt_hv15 ?_
    refine own_s_iconst X0.here hx (hb hby at_16) (pc' := 17) rfl (v := (3 : Int32)) (by decide) ?_
    refine own_s_iand X0.here hx (hb hby at_17) (pc' := 18) rfl (v := wt_v17) wt_hv17 ?_
    refine own_s_i2d X0.here hx (hb hby at_18) (pc' := 19) rfl (v := (FP.i2d wt_v17)) rfl ?_
    refine X0.ldc2DoubleC hx hown (mvT hZ (hw _ (List.mem_of_getElem? (i := 0) rfl))) (g := (mkF m 19 #[.val (.int p0), .val (.int p1), .val (.int p2), .val (.int p3), .val (.double wt_v9), .second, .unset, .unset, .unset, .unset, .unset, .unset, .unset, .unset, .unset, .unset, .unset, .unset, .unset, .unset, .unset] [(.double (FP.i2d wt_v17))])) rfl (hb hby at_19) _ ?_
    show Steps p.tables e below (s₁.setTop (mkF m 22 #[.val (.int p0), .val (.int p1), .val (.int p2), .val (.int p3), .val (.double wt_v9), .second, .unset, .unset, .unset, .unset, .unset, .unset, .unset, .unset, .unset, .unset, .unset, .unset, .unset, .unset, .unset] [(.double (4616189618054758400 : UInt64)), (.double (FP.i2d wt_v17))])) _
    refine own_s_ddiv X0.here hx (hb hby at_22) (pc' := 23) rfl wt_hn22 (v := wt_v22) wt_hv22 ?_
    refine own_s_dstore X0.here hx (hb hby at_23) (pc' := 25) rfl (L' := #[.val (.int p0), .val (.int p1), .val (.int p2), .val (.int p3), .val (.double wt_v9), .second, .val (.double wt_v22), .second, .unset, .unset, .unset, .unset, .unset, .unset, .unset, .unset, .unset, .unset, .unset, .unset, .unset]) rfl ?_
    refine stwt1 _ ?_
    show Steps p.tables e below (Twt1.setTop (mkF m 28 #[.val (.int p0), .val (.int p1), .val (.int p2), .val (.int p3), .val (.double wt_v9), .second, .val (.double wt_v22), .second, .unset, .unset, .unset, .unset, .unset, .unset, .unset, .unset, .unset, .unset, .unset, .unset, .unset] [(.ref bwt1)])) _
    refine own_s_dup Xwt1.here hx (hb hby at_28) (pc' := 29) rfl rfl ?_
    refine own_s_dload Xwt1.here hx (hb hby at_29) (pc' := 31) rfl rfl ?_
    refine own_s_dload Xwt1.here hx (hb hby at_31) (pc' := 33) rfl rfl ?_
    refine stwt2.trans ?_
    show Steps p.tables e below (Twt2.setTop (mkF m 36 #[.val (.int p0), .val (.int p1), .val (.int p2), .val (.int p3), .val (.double wt_v9), .second, .val (.double wt_v22), .second, .unset, .unset, .unset, .unset, .unset, .unset, .unset, .unset, .unset, .unset, .unset, .unset, .unset] [(.ref bwt1)])) _
    refine own_s_astore Xwt2.here hx (hb hby at_36) (pc' := 38) rfl rfl (L' := #[.val (.int p0), .val (.int p1), .val (.int p2), .val (.int p3), .val (.double wt_v9), .second, .val (.double wt_v22), .second, .val (.ref bwt1), .unset, .unset, .unset, .unset, .unset, .unset, .unset, .unset, .unset, .unset, .unset, .unset]) rfl ?_
    refine own_s_iloadN Xwt2.here hx (hb hby at_38) (pc' := 39) rfl rfl ?_
    refine Xwt2.ldcInt hx hown (mvT hZ (hw _ (List.mem_of_getElem? (i := 20) rfl))) (g := (mkF m 39 #[.val (.int p0), .val (.int p1), .val (.int p2), .val (.int p3), .val (.double wt_v9), .second, .val (.double wt_v22), .second, .val (.ref bwt1), .unset, .unset, .unset, .unset, .unset, .unset, .unset, .unset, .unset, .unset, .unset, .unset] [(.int p0)])) rfl (hb hby at_39) _ ?_
    show Steps p.tables e below (Twt2.setTop (mkF m 41 #[.val (.int p0), .val (.int p1), .val (.int p2), .val (.int p3), .val (.double wt_v9), .second, .val (.double wt_v22), .second, .val (.ref bwt1), .unset, .unset, .unset, .unset, .unset, .unset, .unset, .unset, .unset, .unset, .unset, .unset] [(.int (2147483647 : Int32)), (.int p0)])) _
    refine own_s_iand Xwt2.here hx (hb hby at_41) (pc' := 42) rfl (v := wt_v41) wt_hv41 ?_
    refine own_s_i2d Xwt2.here hx (hb hby at_42) (pc' := 43) rfl (v := (FP.i2d wt_v41)) rfl ?_
    refine Xwt2.ldc2DoubleC hx hown (mvT hZ (hw _ (List.mem_of_getElem? (i := 21) rfl))) (g := (mkF m 43 #[.val (.int p0), .val (.int p1), .val (.int p2), .val (.int p3), .val (.double wt_v9), .second, .val (.double wt_v22), .second, .val (.ref bwt1), .unset, .unset, .unset, .unset, .unset, .unset, .unset, .unset, .unset, .unset, .unset, .unset] [(.double (FP.i2d wt_v41))])) rfl (hb hby at_43) _ ?_
    show Steps p.tables e below (Twt2.setTop (mkF m 46 #[.val (.int p0), .val (.int p1), .val (.int p2), .val (.int p3), .val (.double wt_v9), .second, .val (.double wt_v22), .second, .val (.ref bwt1), .unset, .unset, .unset, .unset, .unset, .unset, .unset, .unset, .unset, .unset, .unset, .unset] [(.double (4620693217682128896 : UInt64)), (.double (FP.i2d wt_v41))])) _
    refine own_s_ddiv Xwt2.here hx (hb hby at_46) (pc' := 47) rfl wt_hn46 (v := wt_v46) wt_hv46 ?_
    refine own_s_dstore Xwt2.here hx (hb hby at_47) (pc' := 49) rfl (L' := #[.val (.int p0), .val (.int p1), .val (.int p2), .val (.int p3), .val (.double wt_v9), .second, .val (.double wt_v22), .second, .val (.ref bwt1), .val (.double wt_v46), .second, .unset, .unset, .unset, .unset, .unset, .unset, .unset, .unset, .unset, .unset]) rfl ?_
    refine own_s_iconst Xwt2.here hx (hb hby at_49) (pc' := 50) rfl (v := (1 : Int32)) (by decide) ?_
    refine own_s_iloadN Xwt2.here hx (hb hby at_50) (pc' := 51) rfl rfl ?_
    refine Xwt2.ldcInt hx hown (mvT hZ (hw _ (List.mem_of_getElem? (i := 20) rfl))) (g := (mkF m 51 #[.val (.int p0), .val (.int p1), .val (.int p2), .val (.int p3), .val (.double wt_v9), .second, .val (.double wt_v22), .second, .val (.ref bwt1), .val (.double wt_v46), .second, .unset, .unset, .unset, .unset, .unset, .unset, .unset, .unset, .unset, .unset] [(.int p1), (.int (1 : Int32))])) rfl (hb hby at_51) _ ?_
    show Steps p.tables e below (Twt2.setTop (mkF m 53 #[.val (.int p0), .val (.int p1), .val (.int p2), .val (.int p3), .val (.double wt_v9), .second, .val (.double wt_v22), .second, .val (.ref bwt1), .val (.double wt_v46), .second, .unset, .unset, .unset, .unset, .unset, .unset, .unset, .unset, .unset, .unset] [(.int (2147483647 : Int32)), (.int p1), (.int (1 : Int32))])) _
    refine own_s_iand Xwt2.here hx (hb hby at_53) (pc' := 54) rfl (v := wt_v53) wt_hv53 ?_
    refine stwt3 _ ?_
    show Steps p.tables e below (Twt3.setTop (mkF m 57 #[.val (.int p0), .val (.int p1), .val (.int p2), .val (.int p3), .val (.double wt_v9), .second, .val (.double wt_v22), .second, .val (.ref bwt1), .val (.double wt_v46), .second, .unset, .unset, .unset, .unset, .unset, .unset, .unset, .unset, .unset, .unset] [(.int (own_imax (1 : Int32) wt_v53))])) _
    refine own_s_istore Xwt3.here hx (hb hby at_57) (pc' := 59) rfl (L' := #[.val (.int p0), .val (.int p1), .val (.int p2), .val (.int p3), .val (.double wt_v9), .second, .val (.double wt_v22), .second, .val (.ref bwt1), .val (.double wt_v46), .second, .val (.int (own_imax (1 : Int32) wt_v53)), .unset, .unset, .unset, .unset, .unset, .unset, .unset, .unset, .unset]) rfl ?_
    refine own_s_aload Xwt3.here hx (hb hby at_59) (pc' := 61) rfl rfl rfl ?_
    refine own_s_dload Xwt3.here hx (hb hby at_61) (pc' := 63) rfl rfl ?_
    refine stwt4.trans ?_
    show Steps p.tables e below (Twt4.setTop (mkF m 66 #[.val (.int p0), .val (.int p1), .val (.int p2), .val (.int p3), .val (.double wt_v9), .second, .val (.double wt_v22), .second, .val (.ref bwt1), .val (.double wt_v46), .second, .val (.int (own_imax (1 : Int32) wt_v53)), .unset, .unset, .unset, .unset, .unset, .unset, .unset, .unset, .unset] [(.ref bwt4)])) _
    refine own_s_iload Xwt4.here hx (hb hby at_66) (pc' := 68) rfl rfl ?_
    refine stwt5.trans ?_
    show Steps p.tables e below (Twt5.setTop (mkF m 71 #[.val (.int p0), .val (.int p1), .val (.int p2), .val (.int p3), .val (.double wt_v9), .second, .val (.double wt_v22), .second, .val (.ref bwt1), .val (.double wt_v46), .second, .val (.int (own_imax (1 : Int32) wt_v53)), .unset, .unset, .unset, .unset, .unset, .unset, .unset, .unset, .unset] [(.double wt_c68_q_v35)])) _
    refine own_s_dstore Xwt5.here hx (hb hby at_71) (pc' := 73) rfl (L' := #[.val (.int p0), .val (.int p1), .val (.int p2), .val (.int p3), .val (.double wt_v9), .second, .val (.double wt_v22), .second, .val (.ref bwt1), .val (.double wt_v46), .second, .val (.int (own_imax (1 : Int32) wt_v53)), .val (.double wt_c68_q_v35), .second, .unset, .unset, .unset, .unset, .unset, .unset, .unset]) rfl ?_
    refine own_s_dload Xwt5.here hx (hb hby at_73) (pc' := 75) rfl rfl ?_
    refine own_s_dconst0 Xwt5.here hx (hb hby at_75) (pc' := 76) rfl  ?_
    refine own_s_dcmp Xwt5.here hx (hb hby at_76) (pc' := 77) rfl (v := (Op.cmpValue (FP.dcmp wt_v46 0) .l)) rfl ?_
    refine own_s_ifYes Xwt5.here hx (hb hby at_77) (by decide) (pc' := 86) (by decide) wt_hb77 ?_
    refine own_s_dload Xwt5.here hx (hb hby at_86) (pc' := 88) rfl rfl ?_
    refine own_s_dconst1 Xwt5.here hx (hb hby at_88) (pc' := 89) rfl  ?_
    refine own_s_dcmp Xwt5.here hx (hb hby at_89) (pc' := 90) rfl (v := (0 : Int32)) wt_hc89 ?_
    refine own_s_ifNo Xwt5.here hx (hb hby at_90) (pc' := 93) rfl (by decide) ?_
    refine own_s_iconst Xwt5.here hx (hb hby at_93) (pc' := 94) rfl (v := (1 : Int32)) (by decide) ?_
    refine own_s_goto Xwt5.here hx (hb hby at_94) (by decide) (pc' := 98) (by decide) ?_
    refine own_s_istore Xwt5.here hx (hb hby at_98) (pc' := 100) rfl (L' := #[.val (.int p0), .val (.int p1), .val (.int p2), .val (.int p3), .val (.double wt_v9), .second, .val (.double wt_v22), .second, .val (.ref bwt1), .val (.double wt_v46), .second, .val (.int (own_imax (1 : Int32) wt_v53)), .val (.double wt_c68_q_v35), .second, .val (.int (1 : Int32)), .unset, .unset, .unset, .unset, .unset, .unset]) rfl ?_
    refine own_s_goto Xwt5.here hx (hb hby at_100) (by decide) (pc' := 136) (by decide) ?_
    refine own_s_iloadN Xwt5.here hx (hb hby at_136) (pc' := 137) rfl rfl ?_
    refine Xwt5.ldcInt hx hown (mvT hZ (hw _ (List.mem_of_getElem? (i := 37) rfl))) (g := (mkF m 137 #[.val (.int p0), .val (.int p1), .val (.int p2), .val (.int p3), .val (.double wt_v9), .second, .val (.double wt_v22), .second, .val (.ref bwt1), .val (.double wt_v46), .second, .val (.int (own_imax (1 : Int32) wt_v53)), .val (.double wt_c68_q_v35), .second, .val (.int (1 : Int32)), .unset, .unset, .unset, .unset, .unset, .unset] [(.int p3)])) rfl (hb hby at_137) _ ?_
    show Steps p.tables e below (Twt5.setTop (mkF m 139 #[.val (.int p0), .val (.int p1), .val (.int p2), .val (.int p3), .val (.double wt_v9), .second, .val (.double wt_v22), .second, .val (.ref bwt1), .val (.double wt_v46), .second, .val (.int (own_imax (1 : Int32) wt_v53)), .val (.double wt_c68_q_v35), .second, .val (.int (1 : Int32)), .unset, .unset, .unset, .unset, .unset, .unset] [(.int (65535 : Int32)), (.int p3)])) _
    refine own_s_iand Xwt5.here hx (hb hby at_139) (pc' := 140) rfl (v := wt_v139) wt_hv139 ?_
    refine own_s_istore Xwt5.here hx (hb hby at_140) (pc' := 142) rfl (L' := #[.val (.int p0), .val (.int p1), .val (.int p2), .val (.int p3), .val (.double wt_v9), .second, .val (.double wt_v22), .second, .val (.ref bwt1), .val (.double wt_v46), .second, .val (.int (own_imax (1 : Int32) wt_v53)), .val (.double wt_c68_q_v35), .second, .val (.int (1 : Int32)), .val (.int wt_v139), .unset, .unset, .unset, .unset, .unset]) rfl ?_
    refine own_s_iloadN Xwt5.here hx (hb hby at_142) (pc' := 143) rfl rfl ?_
    refine own_s_bipush Xwt5.here hx (hb hby at_143) (pc' := 145) rfl (v := (16 : Int32)) (by decide) ?_
    refine own_s_iushr Xwt5.here hx (hb hby at_145) (pc' := 146) rfl (v := wt_v145) wt_hv145 ?_
    refine own_s_sipush Xwt5.here hx (hb hby at_146) (pc' := 149) rfl (v := (32767 : Int32)) (by decide) ?_
    refine own_s_iand Xwt5.here hx (hb hby at_149) (pc' := 150) rfl (v := wt_v149) wt_hv149 ?_
    refine own_s_istore Xwt5.here hx (hb hby at_150) (pc' := 152) rfl (L' := #[.val (.int p0), .val (.int p1), .val (.int p2), .val (.int p3), .val (.double wt_v9), .second, .val (.double wt_v22), .second, .val (.ref bwt1), .val (.double wt_v46), .second, .val (.int (own_imax (1 : Int32) wt_v53)), .val (.double wt_c68_q_v35), .second, .val (.int (1 : Int32)), .val (.int wt_v139), .val (.int wt_v149), .unset, .unset, .unset, .unset]) rfl ?_
    refine own_s_iconst Xwt5.here hx (hb hby at_152) (pc' := 153) rfl (v := (1 : Int32)) (by decide) ?_
    refine own_s_iload Xwt5.here hx (hb hby at_153) (pc' := 155) rfl rfl ?_
    refine own_s_iload Xwt5.here hx (hb hby at_155) (pc' := 157) rfl rfl ?_
    refine own_s_iconst Xwt5.here hx (hb hby at_157) (pc' := 158) rfl (v := (1 : Int32)) (by decide) ?_
    refine own_s_iadd Xwt5.here hx (hb hby at_158) (pc' := 159) rfl (v := wt_v158) wt_hv158 ?_
    refine own_s_imul Xwt5.here hx (hb hby at_159) (pc' := 160) rfl (v := wt_v159) wt_hv159 ?_
    refine own_s_iadd Xwt5.here hx (hb hby at_160) (pc' := 161) rfl (v := wt_v160) wt_hv160 ?_
    refine own_s_istore Xwt5.here hx (hb hby at_161) (pc' := 163) rfl (L' := #[.val (.int p0), .val (.int p1), .val (.int p2), .val (.int p3), .val (.double wt_v9), .second, .val (.double wt_v22), .second, .val (.ref bwt1), .val (.double wt_v46), .second, .val (.int (own_imax (1 : Int32) wt_v53)), .val (.double wt_c68_q_v35), .second, .val (.int (1 : Int32)), .val (.int wt_v139), .val (.int wt_v149), .val (.int wt_v160), .unset, .unset, .unset]) rfl ?_
    refine own_s_aload Xwt5.here hx (hb hby at_163) (pc' := 165) rfl rfl rfl ?_
    refine own_s_iload Xwt5.here hx (hb hby at_165) (pc' := 167) rfl rfl ?_
    refine own_s_i2d Xwt5.here hx (hb hby at_167) (pc' := 168) rfl (v := (FP.i2d wt_v139)) rfl ?_
    refine stwt6.trans ?_
    show Steps p.tables e below (Twt6.setTop (mkF m 171 #[.val (.int p0), .val (.int p1), .val (.int p2), .val (.int p3), .val (.double wt_v9), .second, .val (.double wt_v22), .second, .val (.ref bwt1), .val (.double wt_v46), .second, .val (.int (own_imax (1 : Int32) wt_v53)), .val (.double wt_c68_q_v35), .second, .val (.int (1 : Int32)), .val (.int wt_v139), .val (.int wt_v149), .val (.int wt_v160), .unset, .unset, .unset] [(.ref bwt6)])) _
    refine own_s_iload Xwt6.here hx (hb hby at_171) (pc' := 173) rfl rfl ?_
    refine stwt7.trans ?_
    show Steps p.tables e below (Twt7.setTop (mkF m 176 #[.val (.int p0), .val (.int p1), .val (.int p2), .val (.int p3), .val (.double wt_v9), .second, .val (.double wt_v22), .second, .val (.ref bwt1), .val (.double wt_v46), .second, .val (.int (own_imax (1 : Int32) wt_v53)), .val (.double wt_c68_q_v35), .second, .val (.int (1 : Int32)), .val (.int wt_v139), .val (.int wt_v149), .val (.int wt_v160), .unset, .unset, .unset] [(.double wt_c173_q_v35)])) _
    refine own_s_dstore Xwt7.here hx (hb hby at_176) (pc' := 178) rfl (L' := #[.val (.int p0), .val (.int p1), .val (.int p2), .val (.int p3), .val (.double wt_v9), .second, .val (.double wt_v22), .second, .val (.ref bwt1), .val (.double wt_v46), .second, .val (.int (own_imax (1 : Int32) wt_v53)), .val (.double wt_c68_q_v35), .second, .val (.int (1 : Int32)), .val (.int wt_v139), .val (.int wt_v149), .val (.int wt_v160), .val (.double wt_c173_q_v35), .second, .unset]) rfl ?_
    refine own_s_dload Xwt7.here hx (hb hby at_178) (pc' := 180) rfl rfl ?_
    refine own_s_iload Xwt7.here hx (hb hby at_180) (pc' := 182) rfl rfl ?_
    refine own_s_i2d Xwt7.here hx (hb hby at_182) (pc' := 183) rfl (v := (FP.i2d wt_v160)) rfl ?_
    refine own_s_iload Xwt7.here hx (hb hby at_183) (pc' := 185) rfl rfl ?_
    refine own_s_iconst Xwt7.here hx (hb hby at_185) (pc' := 186) rfl (v := (1 : Int32)) (by decide) ?_
    refine own_s_iadd Xwt7.here hx (hb hby at_186) (pc' := 187) rfl (v := wt_v186) wt_hv186 ?_
    refine own_s_i2d Xwt7.here hx (hb hby at_187) (pc' := 188) rfl (v := (FP.i2d wt_v186)) rfl ?_
    refine own_s_ddiv Xwt7.here hx (hb hby at_188) (pc' := 189) rfl wt_hn188 (v := wt_v188) wt_hv188 ?_
    refine own_s_dcmp Xwt7.here hx (hb hby at_189) (pc' := 190) rfl (v := (0 : Int32)) wt_hc189 ?_
    refine own_s_ifNo Xwt7.here hx (hb hby at_190) (pc' := 193) rfl (by decide) ?_
    refine own_s_iconst Xwt7.here hx (hb hby at_193) (pc' := 194) rfl (v := (1 : Int32)) (by decide) ?_
    refine own_s_goto Xwt7.here hx (hb hby at_194) (by decide) (pc' := 198) (by decide) ?_
    refine own_s_istore Xwt7.here hx (hb hby at_198) (pc' := 200) rfl (L' := #[.val (.int p0), .val (.int p1), .val (.int p2), .val (.int p3), .val (.double wt_v9), .second, .val (.double wt_v22), .second, .val (.ref bwt1), .val (.double wt_v46), .second, .val (.int (own_imax (1 : Int32) wt_v53)), .val (.double wt_c68_q_v35), .second, .val (.int (1 : Int32)), .val (.int wt_v139), .val (.int wt_v149), .val (.int wt_v160), .val (.double wt_c173_q_v35), .second, .val (.int (1 : Int32))]) rfl ?_
    refine own_s_iload Xwt7.here hx (hb hby at_200) (pc' := 202) rfl rfl ?_
    refine own_s_ifNo Xwt7.here hx (hb hby at_202) (pc' := 205) rfl (by decide) ?_
    refine own_s_iload Xwt7.here hx (hb hby at_205) (pc' := 207) rfl rfl ?_
    refine own_s_ifNo Xwt7.here hx (hb hby at_207) (pc' := 210) rfl (by decide) ?_
    refine own_s_iconst Xwt7.here hx (hb hby at_210) (pc' := 211) rfl (v := (1 : Int32)) (by decide) ?_
    refine own_s_goto Xwt7.here hx (hb hby at_211) (by decide) (pc' := 215) (by decide) ?_
    exact retN Xwt7 hx (t := .boolean) Bd.returns (by simp) (hb hby at_215) hr
  · show own_Q0 n0 _ Twt7.heap _
    rw [ewt7]
    exact ⟨rfl, Nwt7⟩
theorem own_ef_wff (m : MethodId) (p0 : Int32) (p1 : Int32) (p2 : Int32) (p3 : Int32) : entryFrame m #[(.int p0), (.int p1), (.int p2), (.int p3)] maxLocals = mkF m 0 #[.val (.int p0), .val (.int p1), .val (.int p2), .val (.int p3), .unset, .unset, .unset, .unset, .unset, .unset, .unset, .unset, .unset, .unset, .unset, .unset, .unset, .unset, .unset, .unset, .unset] [] := by first | (simp [entryFrame, mkF, argsToLocals, Value.category, maxLocals]; done) | rfl
set_option maxRecDepth 65536 in
set_option maxHeartbeats 40000000 in
theorem own_rm_wff (l : Launch) (Z : State) (a0 : Array Value) (hw : ∀ d ∈ tables_1, d.before a0 Z = true) (ws : List Jvm.Cond) (p0 : Int32) (p1 : Int32) (p2 : Int32) (p3 : Int32) {wff_v4 : Int32} {wff_v9 : UInt64} {wff_v15 : Int32} {wff_v17 : Int32} {wff_v22 : UInt64} {wff_v41 : Int32} {wff_v46 : UInt64} {wff_v53 : Int32} {wff_c68_q_v27 : UInt64} {wff_c68_q_v33 : UInt64} {wff_c68_q_v34 : UInt64} {wff_c68_q_v35 : UInt64} {wff_v139 : Int32} {wff_v145 : Int32} {wff_v149 : Int32} {wff_v158 : Int32} {wff_v159 : Int32} {wff_v160 : Int32} {wff_c173_q_v27 : UInt64} {wff_c173_q_v33 : UInt64} {wff_c173_q_v34 : UInt64} {wff_c173_q_v35 : UInt64} {wff_v186 : Int32} {wff_v188 : UInt64} (h0 : Heap) (n0 : Nat) (Z0 : n0 ≤ h0.size)  (wff_hv4 : p2 &&& (255 : Int32) = wff_v4) (wff_hn9 : Jvm.Free.Fl.NoNaN64 (FP.ddiv (FP.i2d wff_v4) (4616189618054758400 : UInt64))) (wff_hv9 : FP.ddiv (FP.i2d wff_v4) (4616189618054758400 : UInt64) = wff_v9) (wff_hv15 : (Int32.toUInt32 p2 >>> ((8 : Int32) &&& 31).toUInt32).toInt32 = wff_v15) (wff_hv17 : wff_v15 &&& (3 : Int32) = wff_v17) (wff_hn22 : Jvm.Free.Fl.NoNaN64 (FP.ddiv (FP.i2d wff_v17) (4616189618054758400 : UInt64))) (wff_hv22 : FP.ddiv (FP.i2d wff_v17) (4616189618054758400 : UInt64) = wff_v22) (wff_c33_j_c4_i_hb7 : ifCond.holds .lt (Op.cmpValue (FP.dcmp wff_v9 0) .l) = false) (wff_c33_j_c4_i_hb15 : ifCond.holds .lt (Op.cmpValue (FP.dcmp wff_v9 (9218868437227405312 : UInt64)) .g) = true) (wff_c33_j_c4_i_hb35 : ifCond.holds .lt (Op.cmpValue (FP.dcmp wff_v22 0) .l) = false) (wff_c33_j_c4_i_hb41 : ifCond.holds .le (Op.cmpValue (FP.dcmp wff_v22 4607182418800017408) .g) = true) (wff_c33_j_c4_i_hb62 : ifCond.holds .lt (Op.cmpValue (FP.dcmp 0 0) .l) = false) (wff_c33_j_c4_i_hb71 : ifCond.holds .lt (Op.cmpValue (FP.dcmp 0 (9218868437227405312 : UInt64)) .g) = true) (wff_hv41 : p0 &&& (2147483647 : Int32) = wff_v41) (wff_hn46 : Jvm.Free.Fl.NoNaN64 (FP.ddiv (FP.i2d wff_v41) (4620693217682128896 : UInt64))) (wff_hv46 : FP.ddiv (FP.i2d wff_v41) (4620693217682128896 : UInt64) = wff_v46) (wff_hv53 : p1 &&& (2147483647 : Int32) = wff_v53) (wff_c63_k_c13_i_hb7 : ifCond.holds .lt (Op.cmpValue (FP.dcmp wff_v9 0) .l) = false) (wff_c63_k_c13_i_hb15 : ifCond.holds .lt (Op.cmpValue (FP.dcmp wff_v9 (9218868437227405312 : UInt64)) .g) = true) (wff_c63_k_c13_i_hb35 : ifCond.holds .lt (Op.cmpValue (FP.dcmp wff_v22 0) .l) = false) (wff_c63_k_c13_i_hb41 : ifCond.holds .le (Op.cmpValue (FP.dcmp wff_v22 4607182418800017408) .g) = true) (wff_c63_k_c13_i_hb62 : ifCond.holds .lt (Op.cmpValue (FP.dcmp wff_v46 0) .l) = false) (wff_c63_k_c13_i_hb71 : ifCond.holds .lt (Op.cmpValue (FP.dcmp wff_v46 (9218868437227405312 : UInt64)) .g) = true) (wff_c68_q_hb2 : if_icmp.holds .ge (own_imax (1 : Int32) wff_v53) (1 : Int32) = true) (wff_c68_q_hn27 : Jvm.Free.Fl.NoNaN64 (FP.dadd wff_v46 (FP.i2d (own_imax (1 : Int32) wff_v53)))) (wff_c68_q_hv27 : FP.dadd wff_v46 (FP.i2d (own_imax (1 : Int32) wff_v53)) = wff_c68_q_v27) (wff_c68_q_hn33 : Jvm.Free.Fl.NoNaN64 (FP.dadd wff_v46 4607182418800017408)) (wff_c68_q_hv33 : FP.dadd wff_v46 4607182418800017408 = wff_c68_q_v33) (wff_c68_q_hn34 : Jvm.Free.Fl.NoNaN64 (FP.ddiv wff_c68_q_v27 wff_c68_q_v33)) (wff_c68_q_hv34 : FP.ddiv wff_c68_q_v27 wff_c68_q_v33 = wff_c68_q_v34) (wff_c68_q_hn35 : Jvm.Free.Fl.NoNaN64 (FP.ddiv (FP.i2d (own_imax (1 : Int32) wff_v53)) wff_c68_q_v34)) (wff_c68_q_hv35 : FP.ddiv (FP.i2d (own_imax (1 : Int32) wff_v53)) wff_c68_q_v34 = wff_c68_q_v35) (wff_hb77 : ifCond.holds .eq (Op.cmpValue (FP.dcmp wff_v46 0) .l) = false) (wff_hb83 : if_icmp.holds .ne (own_imax (1 : Int32) wff_v53) (1 : Int32) = false) (wff_hc89 : Op.cmpValue (FP.dcmp wff_c68_q_v35 4607182418800017408) .l = (0 : Int32)) (wff_hv139 : p3 &&& (65535 : Int32) = wff_v139) (wff_hv145 : (Int32.toUInt32 p3 >>> ((16 : Int32) &&& 31).toUInt32).toInt32 = wff_v145) (wff_hv149 : wff_v145 &&& (32767 : Int32) = wff_v149) (wff_hv158 : wff_v139 + (1 : Int32) = wff_v158) (wff_hv159 : wff_v149 * wff_v158 = wff_v159) (wff_hv160 : (1 : Int32) + wff_v159 = wff_v160) (wff_c168_k_c13_i_hb7 : ifCond.holds .lt (Op.cmpValue (FP.dcmp wff_v9 0) .l) = false) (wff_c168_k_c13_i_hb15 : ifCond.holds .lt (Op.cmpValue (FP.dcmp wff_v9 (9218868437227405312 : UInt64)) .g) = true) (wff_c168_k_c13_i_hb35 : ifCond.holds .lt (Op.cmpValue (FP.dcmp wff_v22 0) .l) = false) (wff_c168_k_c13_i_hb41 : ifCond.holds .le (Op.cmpValue (FP.dcmp wff_v22 4607182418800017408) .g) = true) (wff_c168_k_c13_i_hb62 : ifCond.holds .lt (Op.cmpValue (FP.dcmp (FP.i2d wff_v139) 0) .l) = false) (wff_c168_k_c13_i_hb71 : ifCond.holds .lt (Op.cmpValue (FP.dcmp (FP.i2d wff_v139) (9218868437227405312 : UInt64)) .g) = true) (wff_c173_q_hb2 : if_icmp.holds .ge wff_v160 (1 : Int32) = true) (wff_c173_q_hn27 : Jvm.Free.Fl.NoNaN64 (FP.dadd (FP.i2d wff_v139) (FP.i2d wff_v160))) (wff_c173_q_hv27 : FP.dadd (FP.i2d wff_v139) (FP.i2d wff_v160) = wff_c173_q_v27) (wff_c173_q_hn33 : Jvm.Free.Fl.NoNaN64 (FP.dadd (FP.i2d wff_v139) 4607182418800017408)) (wff_c173_q_hv33 : FP.dadd (FP.i2d wff_v139) 4607182418800017408 = wff_c173_q_v33) (wff_c173_q_hn34 : Jvm.Free.Fl.NoNaN64 (FP.ddiv wff_c173_q_v27 wff_c173_q_v33)) (wff_c173_q_hv34 : FP.ddiv wff_c173_q_v27 wff_c173_q_v33 = wff_c173_q_v34) (wff_c173_q_hn35 : Jvm.Free.Fl.NoNaN64 (FP.ddiv (FP.i2d wff_v160) wff_c173_q_v34)) (wff_c173_q_hv35 : FP.ddiv (FP.i2d wff_v160) wff_c173_q_v34 = wff_c173_q_v35) (wff_hv186 : wff_v149 + (1 : Int32) = wff_v186) (wff_hn188 : Jvm.Free.Fl.NoNaN64 (FP.ddiv (FP.i2d wff_v160) (FP.i2d wff_v186))) (wff_hv188 : FP.ddiv (FP.i2d wff_v160) (FP.i2d wff_v186) = wff_v188) (wff_hc189 : Op.cmpValue (FP.dcmp wff_c173_q_v35 wff_v188) .l = (0 : Int32)) :
    MetFree l x (head1 (Jvm.Cond.code x code maxLocals ret :: ws) room_1) (fun a U => a = #[(.int p0), (.int p1), (.int p2), (.int p3)] ∧ Z.Warmed39 U.vm ∧ U.heap = h0) (fun _ _ _ _ _ => True) (fun _ U o U' => ∃ v L, o = .returned v ∧ own_Q0 n0 v U'.heap L ∧ FrameEnd U o U' L room_1.cells room_1.slots) := by
  refine MetFree.of_bodySF (plainFor_of_name own_pn_com_example_tally_odds_tallyodds_Bm25QtfPartPinLaw) hisR ?_
  intro p e s m args below meth c s₁ Bd hml0 hP hK
  obtain ⟨rfl, hZ, hh⟩ := hP
  have hx := Bd.exec
  have hby := Bd.bytes
  have hml : c.maxLocals = 21 := hml0
  have hown : s.vm.findClass "com/example/tally_odds/tallyodds/Bm25QtfPartPinLaw" = some m.cls := findClass_of_methodNamed Bd.named
  have hnm := (name_of_methodNamed Bd.named Bd.method).1
  have X0 : Stand p l e room_1 s m #[(.int p0), (.int p1), (.int p2), (.int p3)] below meth c s₁ [] 0 0 := Stand.of_body Bd
  have e0 : s₁.heap = h0 := by rw [← hh, Bd.state]; rfl
  have N0 := Fr.nil n0
  have pre0 : ∀ t, Steps p.tables e below (s₁.setTop (mkF m 0 #[.val (.int p0), .val (.int p1), .val (.int p2), .val (.int p3), .unset, .unset, .unset, .unset, .unset, .unset, .unset, .unset, .unset, .unset, .unset, .unset, .unset, .unset, .unset, .unset, .unset] [])) t → Steps p.tables e below (s₁.setTop (entryFrame m #[(.int p0), (.int p1), (.int p2), (.int p3)] maxLocals)) t := fun t k => castTop (own_ef_wff m p0 p1 p2 p3) k
  obtain ⟨Twff1, hwff1, Xwff1, ewff1, Ewff1, Awff1, Dwff1, -, stwff1⟩ := newO X0 hx hZ hown (hw _ (List.mem_of_getElem? (i := 1) rfl)) (hw _ (List.mem_of_getElem? (i := 2) rfl)) (hw _ (List.mem_of_getElem? (i := 3) rfl)) e0 (g := (mkF m 25 #[.val (.int p0), .val (.int p1), .val (.int p2), .val (.int p3), .val (.double wff_v9), .second, .val (.double wff_v22), .second, .unset, .unset, .unset, .unset, .unset, .unset, .unset, .unset, .unset, .unset, .unset, .unset, .unset] [])) rfl (hb hby at_25) (by decide) (by decide)
  obtain ⟨bwff1, Gwff1⟩ : ∃ z, z = h0.size := ⟨_, rfl⟩
  rw [← Gwff1] at Awff1 Dwff1 stwff1
  have g_bwff1 : n0 ≤ bwff1 := Nat.le_trans Z0 (Nat.le_of_eq Gwff1.symm)
  have sz_bwff1 : h0.size ≤ bwff1 := Nat.le_trans (Keep.refl h0 []).1 (Nat.le_of_eq Gwff1.symm)
  have Zwff1 : n0 ≤ hwff1.size := Nat.le_trans Z0 Ewff1.1
  have KKwff1 := (Keep.refl h0 []).ext Ewff1
  have F_k1_bwff1 : Fld Z hwff1 bwff1 "com/example/tally_odds/tallyodds/Bm25" "k1" "D" (.double 0) := Dwff1 (Or.inr (hw _ (List.mem_of_getElem? (i := 15) rfl))) (ty := .double) (by decide)
  have F_b_bwff1 : Fld Z hwff1 bwff1 "com/example/tally_odds/tallyodds/Bm25" "b" "D" (.double 0) := Dwff1 (Or.inr (hw _ (List.mem_of_getElem? (i := 17) rfl))) (ty := .double) (by decide)
  have F_k3_bwff1 : Fld Z hwff1 bwff1 "com/example/tally_odds/tallyodds/Bm25" "k3" "D" (.double 0) := Dwff1 (Or.inr (hw _ (List.mem_of_getElem? (i := 19) rfl))) (ty := .double) (by decide)
  obtain ⟨_, _, ⟨Twff2, Lwff2, kwff2, nwff2⟩, -, Xwff2, ⟨Lcwff2, hQwff2, lwff2, ywff2, zwff2⟩, stwff2⟩ := Xwff1.specialBack hx (y := (⟨"com/example/tally_odds/tallyodds/Bm25", "<init>", "(DD)V"⟩ : MethodName)) rfl hown (mvT hZ (hw _ (List.mem_of_getElem? (i := 4) rfl))) (mvT hZ (hw _ (List.mem_of_getElem? (i := 5) rfl))) (mvT hZ (hw _ (List.mem_of_getElem? (i := 6) rfl))) (by decide) (backOf (W := 1) (own_rm_j l Z a0 hw [] bwff1 wff_v9 wff_v22 hwff1 n0 Zwff1 Awff1 F_k1_bwff1 F_b_bwff1 F_k3_bwff1 g_bwff1 wff_c33_j_c4_i_hb7 wff_c33_j_c4_i_hb15 wff_c33_j_c4_i_hb35 wff_c33_j_c4_i_hb41 wff_c33_j_c4_i_hb62 wff_c33_j_c4_i_hb71) hZ (hw _ (List.mem_of_getElem? (i := 6) rfl)) (hw _ (List.mem_of_getElem? (i := 3) rfl)) (by decide) (by decide)) (g := (mkF m 33 #[.val (.int p0), .val (.int p1), .val (.int p2), .val (.int p3), .val (.double wff_v9), .second, .val (.double wff_v22), .second, .unset, .unset, .unset, .unset, .unset, .unset, .unset, .unset, .unset, .unset, .unset, .unset, .unset] [(.double wff_v22), (.double wff_v9), (.ref bwff1), (.ref bwff1)])) rfl (by rw [hml]; rfl) (Steps.refl _) (a := bwff1) (argsL := [(.double wff_v9), (.double wff_v22)]) (rest := [(.ref bwff1)]) (lenOf own_pd_28DD29V rfl) rfl (by show 2 * 0 + _ ≤ _; exact Nat.le_of_eq rfl) (hb hby at_33) (fun _ _ => ⟨rfl, ewff1, (by decide : 1 + 0 ≤ _), (by decide : 3 + 0 ≤ _)⟩)
  dsimp only [Pt.U, Pt.locs, Pt.cells, Pt.slots] at Xwff2 lwff2 ywff2 zwff2 stwff2 hQwff2
  rw [lwff2, ywff2, zwff2] at Xwff2
  obtain ⟨rfl, Nwff2q, Kwff2, qwff2_0, qwff2_1, qwff2_2, qwff2_3⟩ := hQwff2
  have Zwff2 : n0 ≤ Twff2.heap.size := Nat.le_trans Zwff1 Kwff2.1
  have KKwff2 := KKwff1.trans Kwff2 (fun q hq => by simp only [List.mem_cons, List.not_mem_nil, or_false] at hq; rcases hq with rfl; exact Or.inr sz_bwff1)
  have Nwff2 := Fr.app N0 Nwff2q
  obtain ⟨_, _, ⟨Twff3, Lwff3, kwff3, nwff3⟩, -, Xwff3, ⟨Lcwff3, hQwff3, lwff3, ywff3, zwff3⟩, stwff3⟩ := Jvm.LawKit.callS Xwff2 hx (y := (⟨"java/lang/Math", "max", "(II)I"⟩ : MethodName)) hown (mvT hZ (hw _ (List.mem_of_getElem? (i := 22) rfl))) (mvT hZ (hw _ (List.mem_of_getElem? (i := 23) rfl))) (mvT hZ (hw _ (List.mem_of_getElem? (i := 24) rfl))) (mvT hZ (hw _ (List.mem_of_getElem? (i := 25) rfl))) (by decide) (backOf (W := 0) (own_rm_ma l Z a0 hw [] (1 : Int32) wff_v53 Twff2.heap n0 Zwff2 ) hZ (hw _ (List.mem_of_getElem? (i := 25) rfl)) (hw _ (List.mem_of_getElem? (i := 24) rfl)) (by decide) (by decide)) (g := (mkF m 54 #[.val (.int p0), .val (.int p1), .val (.int p2), .val (.int p3), .val (.double wff_v9), .second, .val (.double wff_v22), .second, .val (.ref bwff1), .val (.double wff_v46), .second, .unset, .unset, .unset, .unset, .unset, .unset, .unset, .unset, .unset, .unset] [(.int wff_v53), (.int (1 : Int32))])) rfl (by rw [hml]; rfl) (argsL := [(.int (1 : Int32)), (.int wff_v53)]) (rest := []) (lenOf own_pd_28II29I rfl) rfl (by show 2 * 0 + _ ≤ _; exact Nat.le_of_eq rfl) (hb hby at_54) (fun _ _ => ⟨rfl, rfl, (by decide : 1 + 0 ≤ _), (by decide : 3 + 0 ≤ _)⟩)
  dsimp only [Pt.U, Pt.locs, Pt.cells, Pt.slots] at Xwff3 lwff3 ywff3 zwff3 stwff3 hQwff3
  rw [lwff3, ywff3, zwff3] at Xwff3
  obtain ⟨rfl, Nwff3q, ewff3⟩ := hQwff3
  have Nwff3 := Fr.app Nwff2 Nwff3q
  obtain ⟨cqwff4, kqwff4, qwff4a, qwff4b, qwff4c⟩ := isOf hZ ewff3 qwff2_0
  obtain ⟨_, _, ⟨Twff4, Lwff4, kwff4, nwff4⟩, -, Xwff4, ⟨Lcwff4, hQwff4, lwff4, ywff4, zwff4⟩, stwff4⟩ := Xwff3.virtualBack hx (y := (⟨"com/example/tally_odds/tallyodds/Bm25", "withK3", "(D)Lcom/example/tally_odds/tallyodds/Bm25;"⟩ : MethodName)) (z := (⟨"com/example/tally_odds/tallyodds/Bm25", "withK3", "(D)Lcom/example/tally_odds/tallyodds/Bm25;"⟩ : MethodName)) hown (mvT hZ (hw _ (List.mem_of_getElem? (i := 26) rfl))) (mvT hZ (hw _ (List.mem_of_getElem? (i := 27) rfl))) (notFace_of_selects (args := #[]) (mvT hZ (hw _ (List.mem_of_getElem? (i := 29) rfl)))) (mvT hZ (hw _ (List.mem_of_getElem? (i := 29) rfl))) (mvT hZ (hw _ (List.mem_of_getElem? (i := 28) rfl))) (by decide) (backOf (W := 0) (own_rm_k l Z a0 hw [] bwff1 wff_v9 wff_v22 0 wff_v46 Twff2.heap n0 Zwff2 qwff2_0 qwff2_1 qwff2_2 qwff2_3 wff_c63_k_c13_i_hb7 wff_c63_k_c13_i_hb15 wff_c63_k_c13_i_hb35 wff_c63_k_c13_i_hb41 wff_c63_k_c13_i_hb62 wff_c63_k_c13_i_hb71) hZ (hw _ (List.mem_of_getElem? (i := 30) rfl)) (hw _ (List.mem_of_getElem? (i := 3) rfl)) (by decide) (by decide)) qwff4a qwff4c (g := (mkF m 63 #[.val (.int p0), .val (.int p1), .val (.int p2), .val (.int p3), .val (.double wff_v9), .second, .val (.double wff_v22), .second, .val (.ref bwff1), .val (.double wff_v46), .second, .val (.int (own_imax (1 : Int32) wff_v53)), .unset, .unset, .unset, .unset, .unset, .unset, .unset, .unset, .unset] [(.double wff_v46), (.ref bwff1)])) rfl (by rw [hml]; rfl) (Steps.refl _) (argsL := [(.double wff_v46)]) (rest := []) (lenOf own_pd_28D29Lcom2fexample2ftally_odds2ftallyodds2fBm253b rfl) rfl (by show 2 * 0 + _ ≤ _; exact Nat.le_of_eq rfl) (hb hby at_63) (fun _ _ => ⟨rfl, ewff3, (by decide : 1 + 1 ≤ _), (by decide : 3 + 3 ≤ _)⟩)
  dsimp only [Pt.U, Pt.locs, Pt.cells, Pt.slots] at Xwff4 lwff4 ywff4 zwff4 stwff4 hQwff4
  rw [lwff4, ywff4, zwff4] at Xwff4
  obtain ⟨bwff4, rfl, Nwff4q, Kwff4, Gwff4, qwff4_0, qwff4_1, qwff4_2, qwff4_3⟩ := hQwff4
  have ne_bwff1_bwff4 : bwff1 ≠ bwff4 := Nat.ne_of_lt (Nat.lt_of_lt_of_le qwff2_0.lt Gwff4)
  have ne_bwff4_bwff1 : bwff4 ≠ bwff1 := Ne.symm ne_bwff1_bwff4
  have g_bwff4 : n0 ≤ bwff4 := Nat.le_trans Zwff2 Gwff4
  have sz_bwff4 : h0.size ≤ bwff4 := Nat.le_trans KKwff2.1 Gwff4
  have E_bwff1_wff4 := qwff2_0.keep Kwff4
  have F_k1_bwff1_wff4 := qwff2_1.keep Kwff4 (List.not_mem_nil)
  have F_b_bwff1_wff4 := qwff2_2.keep Kwff4 (List.not_mem_nil)
  have F_k3_bwff1_wff4 := qwff2_3.keep Kwff4 (List.not_mem_nil)
  have Zwff4 : n0 ≤ Twff4.heap.size := Nat.le_trans Zwff2 Kwff4.1
  have KKwff4 := KKwff2.trans Kwff4 (fun _ q => nomatch q)
  have Nwff4 := Fr.app Nwff3 Nwff4q
  obtain ⟨cqwff5, kqwff5, qwff5a, qwff5b, qwff5c⟩ := isOf hZ rfl qwff4_0
  obtain ⟨_, _, ⟨Twff5, Lwff5, kwff5, nwff5⟩, -, Xwff5, ⟨Lcwff5, hQwff5, lwff5, ywff5, zwff5⟩, stwff5⟩ := Xwff4.virtualBack hx (y := (⟨"com/example/tally_odds/tallyodds/Bm25", "qtfPart", "(I)D"⟩ : MethodName)) (z := (⟨"com/example/tally_odds/tallyodds/Bm25", "qtfPart", "(I)D"⟩ : MethodName)) hown (mvT hZ (hw _ (List.mem_of_getElem? (i := 32) rfl))) (mvT hZ (hw _ (List.mem_of_getElem? (i := 33) rfl))) (notFace_of_selects (args := #[]) (mvT hZ (hw _ (List.mem_of_getElem? (i := 35) rfl)))) (mvT hZ (hw _ (List.mem_of_getElem? (i := 35) rfl))) (mvT hZ (hw _ (List.mem_of_getElem? (i := 34) rfl))) (by decide) (backOf (W := 0) (own_rm_q l Z a0 hw [] bwff4 wff_v9 wff_v22 wff_v46 (own_imax (1 : Int32) wff_v53) Twff4.heap n0 Zwff4 qwff4_0 qwff4_1 qwff4_2 qwff4_3 wff_c68_q_hb2 wff_c68_q_hn27 wff_c68_q_hv27 wff_c68_q_hn33 wff_c68_q_hv33 wff_c68_q_hn34 wff_c68_q_hv34 wff_c68_q_hn35 wff_c68_q_hv35) hZ (hw _ (List.mem_of_getElem? (i := 36) rfl)) (hw _ (List.mem_of_getElem? (i := 3) rfl)) (by decide) (by decide)) qwff5a qwff5c (g := (mkF m 68 #[.val (.int p0), .val (.int p1), .val (.int p2), .val (.int p3), .val (.double wff_v9), .second, .val (.double wff_v22), .second, .val (.ref bwff1), .val (.double wff_v46), .second, .val (.int (own_imax (1 : Int32) wff_v53)), .unset, .unset, .unset, .unset, .unset, .unset, .unset, .unset, .unset] [(.int (own_imax (1 : Int32) wff_v53)), (.ref bwff4)])) rfl (by rw [hml]; rfl) (Steps.refl _) (argsL := [(.int (own_imax (1 : Int32) wff_v53))]) (rest := []) (lenOf own_pd_28I29D rfl) rfl (by show 2 * 0 + _ ≤ _; exact Nat.le_of_eq rfl) (hb hby at_68) (fun _ _ => ⟨rfl, rfl, (by decide : 2 + 0 ≤ _), (by decide : 6 + 0 ≤ _)⟩)
  dsimp only [Pt.U, Pt.locs, Pt.cells, Pt.slots] at Xwff5 lwff5 ywff5 zwff5 stwff5 hQwff5
  rw [lwff5, ywff5, zwff5] at Xwff5
  obtain ⟨rfl, Nwff5q, ewff5⟩ := hQwff5
  have Nwff5 := Fr.app Nwff4 Nwff5q
  obtain ⟨cqwff6, kqwff6, qwff6a, qwff6b, qwff6c⟩ := isOf hZ ewff5 E_bwff1_wff4
  obtain ⟨_, _, ⟨Twff6, Lwff6, kwff6, nwff6⟩, -, Xwff6, ⟨Lcwff6, hQwff6, lwff6, ywff6, zwff6⟩, stwff6⟩ := Xwff5.virtualBack hx (y := (⟨"com/example/tally_odds/tallyodds/Bm25", "withK3", "(D)Lcom/example/tally_odds/tallyodds/Bm25;"⟩ : MethodName)) (z := (⟨"com/example/tally_odds/tallyodds/Bm25", "withK3", "(D)Lcom/example/tally_odds/tallyodds/Bm25;"⟩ : MethodName)) hown (mvT hZ (hw _ (List.mem_of_getElem? (i := 26) rfl))) (mvT hZ (hw _ (List.mem_of_getElem? (i := 27) rfl))) (notFace_of_selects (args := #[]) (mvT hZ (hw _ (List.mem_of_getElem? (i := 29) rfl)))) (mvT hZ (hw _ (List.mem_of_getElem? (i := 29) rfl))) (mvT hZ (hw _ (List.mem_of_getElem? (i := 28) rfl))) (by decide) (backOf (W := 0) (own_rm_k l Z a0 hw [] bwff1 wff_v9 wff_v22 0 (FP.i2d wff_v139) Twff4.heap n0 Zwff4 E_bwff1_wff4 F_k1_bwff1_wff4 F_b_bwff1_wff4 F_k3_bwff1_wff4 wff_c168_k_c13_i_hb7 wff_c168_k_c13_i_hb15 wff_c168_k_c13_i_hb35 wff_c168_k_c13_i_hb41 wff_c168_k_c13_i_hb62 wff_c168_k_c13_i_hb71) hZ (hw _ (List.mem_of_getElem? (i := 30) rfl)) (hw _ (List.mem_of_getElem? (i := 3) rfl)) (by decide) (by decide)) qwff6a qwff6c (g := (mkF m 168 #[.val (.int p0), .val (.int p1), .val (.int p2), .val (.int p3), .val (.double wff_v9), .second, .val (.double wff_v22), .second, .val (.ref bwff1), .val (.double wff_v46), .second, .val (.int (own_imax (1 : Int32) wff_v53)), .val (.double wff_c68_q_v35), .second, .val (.int (1 : Int32)), .val (.int wff_v139), .val (.int wff_v149), .val (.int wff_v160), .unset, .unset, .unset] [(.double (FP.i2d wff_v139)), (.ref bwff1)])) rfl (by rw [hml]; rfl) (Steps.refl _) (argsL := [(.double (FP.i2d wff_v139))]) (rest := []) (lenOf own_pd_28D29Lcom2fexample2ftally_odds2ftallyodds2fBm253b rfl) rfl (by show 2 * 0 + _ ≤ _; exact Nat.le_of_eq rfl) (hb hby at_168) (fun _ _ => ⟨rfl, ewff5, (by decide : 2 + 1 ≤ _), (by decide : 6 + 3 ≤ _)⟩)
  dsimp only [Pt.U, Pt.locs, Pt.cells, Pt.slots] at Xwff6 lwff6 ywff6 zwff6 stwff6 hQwff6
  rw [lwff6, ywff6, zwff6] at Xwff6
  obtain ⟨bwff6, rfl, Nwff6q, Kwff6, Gwff6, qwff6_0, qwff6_1, qwff6_2, qwff6_3⟩ := hQwff6
  have ne_bwff1_bwff6 : bwff1 ≠ bwff6 := Nat.ne_of_lt (Nat.lt_of_lt_of_le E_bwff1_wff4.lt Gwff6)
  have ne_bwff6_bwff1 : bwff6 ≠ bwff1 := Ne.symm ne_bwff1_bwff6
  have ne_bwff4_bwff6 : bwff4 ≠ bwff6 := Nat.ne_of_lt (Nat.lt_of_lt_of_le qwff4_0.lt Gwff6)
  have ne_bwff6_bwff4 : bwff6 ≠ bwff4 := Ne.symm ne_bwff4_bwff6
  have g_bwff6 : n0 ≤ bwff6 := Nat.le_trans Zwff4 Gwff6
  have sz_bwff6 : h0.size ≤ bwff6 := Nat.le_trans KKwff4.1 Gwff6
  have E_bwff1_wff6 := E_bwff1_wff4.keep Kwff6
  have F_k1_bwff1_wff6 := F_k1_bwff1_wff4.keep Kwff6 (List.not_mem_nil)
  have F_b_bwff1_wff6 := F_b_bwff1_wff4.keep Kwff6 (List.not_mem_nil)
  have F_k3_bwff1_wff6 := F_k3_bwff1_wff4.keep Kwff6 (List.not_mem_nil)
  have E_bwff4_wff6 := qwff4_0.keep Kwff6
  have F_k1_bwff4_wff6 := qwff4_1.keep Kwff6 (List.not_mem_nil)
  have F_b_bwff4_wff6 := qwff4_2.keep Kwff6 (List.not_mem_nil)
  have F_k3_bwff4_wff6 := qwff4_3.keep Kwff6 (List.not_mem_nil)
  have Zwff6 : n0 ≤ Twff6.heap.size := Nat.le_trans Zwff4 Kwff6.1
  have KKwff6 := KKwff4.trans Kwff6 (fun _ q => nomatch q)
  have Nwff6 := Fr.app Nwff5 Nwff6q
  obtain ⟨cqwff7, kqwff7, qwff7a, qwff7b, qwff7c⟩ := isOf hZ rfl qwff6_0
  obtain ⟨_, _, ⟨Twff7, Lwff7, kwff7, nwff7⟩, -, Xwff7, ⟨Lcwff7, hQwff7, lwff7, ywff7, zwff7⟩, stwff7⟩ := Xwff6.virtualBack hx (y := (⟨"com/example/tally_odds/tallyodds/Bm25", "qtfPart", "(I)D"⟩ : MethodName)) (z := (⟨"com/example/tally_odds/tallyodds/Bm25", "qtfPart", "(I)D"⟩ : MethodName)) hown (mvT hZ (hw _ (List.mem_of_getElem? (i := 32) rfl))) (mvT hZ (hw _ (List.mem_of_getElem? (i := 33) rfl))) (notFace_of_selects (args := #[]) (mvT hZ (hw _ (List.mem_of_getElem? (i := 35) rfl)))) (mvT hZ (hw _ (List.mem_of_getElem? (i := 35) rfl))) (mvT hZ (hw _ (List.mem_of_getElem? (i := 34) rfl))) (by decide) (backOf (W := 0) (own_rm_q l Z a0 hw [] bwff6 wff_v9 wff_v22 (FP.i2d wff_v139) wff_v160 Twff6.heap n0 Zwff6 qwff6_0 qwff6_1 qwff6_2 qwff6_3 wff_c173_q_hb2 wff_c173_q_hn27 wff_c173_q_hv27 wff_c173_q_hn33 wff_c173_q_hv33 wff_c173_q_hn34 wff_c173_q_hv34 wff_c173_q_hn35 wff_c173_q_hv35) hZ (hw _ (List.mem_of_getElem? (i := 36) rfl)) (hw _ (List.mem_of_getElem? (i := 3) rfl)) (by decide) (by decide)) qwff7a qwff7c (g := (mkF m 173 #[.val (.int p0), .val (.int p1), .val (.int p2), .val (.int p3), .val (.double wff_v9), .second, .val (.double wff_v22), .second, .val (.ref bwff1), .val (.double wff_v46), .second, .val (.int (own_imax (1 : Int32) wff_v53)), .val (.double wff_c68_q_v35), .second, .val (.int (1 : Int32)), .val (.int wff_v139), .val (.int wff_v149), .val (.int wff_v160), .unset, .unset, .unset] [(.int wff_v160), (.ref bwff6)])) rfl (by rw [hml]; rfl) (Steps.refl _) (argsL := [(.int wff_v160)]) (rest := []) (lenOf own_pd_28I29D rfl) rfl (by show 2 * 0 + _ ≤ _; exact Nat.le_of_eq rfl) (hb hby at_173) (fun _ _ => ⟨rfl, rfl, (by decide : 3 + 0 ≤ _), (by decide : 9 + 0 ≤ _)⟩)
  dsimp only [Pt.U, Pt.locs, Pt.cells, Pt.slots] at Xwff7 lwff7 ywff7 zwff7 stwff7 hQwff7
  rw [lwff7, ywff7, zwff7] at Xwff7
  obtain ⟨rfl, Nwff7q, ewff7⟩ := hQwff7
  have Nwff7 := Fr.app Nwff6 Nwff7q
  obtain ⟨fs, hr, hrun, hended, hW, hsame⟩ := Xwff7.leave (v := some (.int (1 : Int32))) (fun h => by rw [Bd.returns] at h; cases h)
  refine ⟨_, _, pre0 _ ?_, hrun, hended, _, _, rfl, ?_, ⟨_, rfl⟩, hW, hsame.mono (by decide) (by decide)⟩
  · refine own_s_iloadN X0.here hx (hb hby at_0) (pc' := 1) rfl rfl ?_
    refine own_s_sipush X0.here hx (hb hby at_1) (pc' := 4) rfl (v := (255 : Int32)) (by decide) ?_
    refine own_s_iand X0.here hx (hb hby at_4) (pc' := 5) rfl (v := wff_v4) wff_hv4 ?_
    refine own_s_i2d X0.here hx (hb hby at_5) (pc' := 6) rfl (v := (FP.i2d wff_v4)) rfl ?_
    refine X0.ldc2DoubleC hx hown (mvT hZ (hw _ (List.mem_of_getElem? (i := 0) rfl))) (g := (mkF m 6 #[.val (.int p0), .val (.int p1), .val (.int p2), .val (.int p3), .unset, .unset, .unset, .unset, .unset, .unset, .unset, .unset, .unset, .unset, .unset, .unset, .unset, .unset, .unset, .unset, .unset] [(.double (FP.i2d wff_v4))])) rfl (hb hby at_6) _ ?_
    show Steps p.tables e below (s₁.setTop (mkF m 9 #[.val (.int p0), .val (.int p1), .val (.int p2), .val (.int p3), .unset, .unset, .unset, .unset, .unset, .unset, .unset, .unset, .unset, .unset, .unset, .unset, .unset, .unset, .unset, .unset, .unset] [(.double (4616189618054758400 : UInt64)), (.double (FP.i2d wff_v4))])) _
    refine own_s_ddiv X0.here hx (hb hby at_9) (pc' := 10) rfl wff_hn9 (v := wff_v9) wff_hv9 ?_
    refine own_s_dstore X0.here hx (hb hby at_10) (pc' := 12) rfl (L' := #[.val (.int p0), .val (.int p1), .val (.int p2), .val (.int p3), .val (.double wff_v9), .second, .unset, .unset, .unset, .unset, .unset, .unset, .unset, .unset, .unset, .unset, .unset, .unset, .unset, .unset, .unset]) rfl ?_
    refine own_s_iloadN X0.here hx (hb hby at_12) (pc' := 13) rfl rfl ?_
    refine own_s_bipush X0.here hx (hb hby at_13) (pc' := 15) rfl (v := (8 : Int32)) (by decide) ?_
    refine own_s_iushr X0.here hx (hb hby at_15) (pc' := 16) rfl (v := wff_v15) wff_hv15 ?_
    refine own_s_iconst X0.here hx (hb hby at_16) (pc' := 17) rfl (v := (3 : Int32)) (by decide) ?_
    refine own_s_iand X0.here hx (hb hby at_17) (pc' := 18) rfl (v := wff_v17) wff_hv17 ?_
    refine own_s_i2d X0.here hx (hb hby at_18) (pc' := 19) rfl (v := (FP.i2d wff_v17)) rfl ?_
    refine X0.ldc2DoubleC hx hown (mvT hZ (hw _ (List.mem_of_getElem? (i := 0) rfl))) (g := (mkF m 19 #[.val (.int p0), .val (.int p1), .val (.int p2), .val (.int p3), .val (.double wff_v9), .second, .unset, .unset, .unset, .unset, .unset, .unset, .unset, .unset, .unset, .unset, .unset, .unset, .unset, .unset, .unset] [(.double (FP.i2d wff_v17))])) rfl (hb hby at_19) _ ?_
    show Steps p.tables e below (s₁.setTop (mkF m 22 #[.val (.int p0), .val (.int p1), .val (.int p2), .val (.int p3), .val (.double wff_v9), .second, .unset, .unset, .unset, .unset, .unset, .unset, .unset, .unset, .unset, .unset, .unset, .unset, .unset, .unset, .unset] [(.double (4616189618054758400 : UInt64)), (.double (FP.i2d wff_v17))])) _
    refine own_s_ddiv X0.here hx (hb hby at_22) (pc' := 23) rfl wff_hn22 (v := wff_v22) wff_hv22 ?_
    refine own_s_dstore X0.here hx (hb hby at_23) (pc' := 25) rfl (L' := #[.val (.int p0), .val (.int p1), .val (.int p2), .val (.int p3), .val (.double wff_v9), .second, .val (.double wff_v22), .second, .unset, .unset, .unset, .unset, .unset, .unset, .unset, .unset, .unset, .unset, .unset, .unset, .unset]) rfl ?_
    refine stwff1 _ ?_
    show Steps p.tables e below (Twff1.setTop (mkF m 28 #[.val (.int p0), .val (.int p1), .val (.int p2), .val (.int p3), .val (.double wff_v9), .second, .val (.double wff_v22), .second, .unset, .unset, .unset, .unset, .unset, .unset, .unset, .unset, .unset, .unset, .unset, .unset, .unset] [(.ref bwff1)])) _
    refine own_s_dup Xwff1.here hx (hb hby at_28) (pc' := 29) rfl rfl ?_
    refine own_s_dload Xwff1.here hx (hb hby at_29) (pc' := 31) rfl rfl ?_
    refine own_s_dload Xwff1.here hx (hb hby at_31) (pc' := 33) rfl rfl ?_
    refine stwff2.trans ?_
    show Steps p.tables e below (Twff2.setTop (mkF m 36 #[.val (.int p0), .val (.int p1), .val (.int p2), .val (.int p3), .val (.double wff_v9), .second, .val (.double wff_v22), .second, .unset, .unset, .unset, .unset, .unset, .unset, .unset, .unset, .unset, .unset, .unset, .unset, .unset] [(.ref bwff1)])) _
    refine own_s_astore Xwff2.here hx (hb hby at_36) (pc' := 38) rfl rfl (L' := #[.val (.int p0), .val (.int p1), .val (.int p2), .val (.int p3), .val (.double wff_v9), .second, .val (.double wff_v22), .second, .val (.ref bwff1), .unset, .unset, .unset, .unset, .unset, .unset, .unset, .unset, .unset, .unset, .unset, .unset]) rfl ?_
    refine own_s_iloadN Xwff2.here hx (hb hby at_38) (pc' := 39) rfl rfl ?_
    refine Xwff2.ldcInt hx hown (mvT hZ (hw _ (List.mem_of_getElem? (i := 20) rfl))) (g := (mkF m 39 #[.val (.int p0), .val (.int p1), .val (.int p2), .val (.int p3), .val (.double wff_v9), .second, .val (.double wff_v22), .second, .val (.ref bwff1), .unset, .unset, .unset, .unset, .unset, .unset, .unset, .unset, .unset, .unset, .unset, .unset] [(.int p0)])) rfl (hb hby at_39) _ ?_
    show Steps p.tables e below (Twff2.setTop (mkF m 41 #[.val (.int p0), .val (.int p1), .val (.int p2), .val (.int p3), .val (.double wff_v9), .second, .val (.double wff_v22), .second, .val (.ref bwff1), .unset, .unset, .unset, .unset, .unset, .unset, .unset, .unset, .unset, .unset, .unset, .unset] [(.int (2147483647 : Int32)), (.int p0)])) _
    refine own_s_iand Xwff2.here hx (hb hby at_41) (pc' := 42) rfl (v := wff_v41) wff_hv41 ?_
    refine own_s_i2d Xwff2.here hx (hb hby at_42) (pc' := 43) rfl (v := (FP.i2d wff_v41)) rfl ?_
    refine Xwff2.ldc2DoubleC hx hown (mvT hZ (hw _ (List.mem_of_getElem? (i := 21) rfl))) (g := (mkF m 43 #[.val (.int p0), .val (.int p1), .val (.int p2), .val (.int p3), .val (.double wff_v9), .second, .val (.double wff_v22), .second, .val (.ref bwff1), .unset, .unset, .unset, .unset, .unset, .unset, .unset, .unset, .unset, .unset, .unset, .unset] [(.double (FP.i2d wff_v41))])) rfl (hb hby at_43) _ ?_
    show Steps p.tables e below (Twff2.setTop (mkF m 46 #[.val (.int p0), .val (.int p1), .val (.int p2), .val (.int p3), .val (.double wff_v9), .second, .val (.double wff_v22), .second, .val (.ref bwff1), .unset, .unset, .unset, .unset, .unset, .unset, .unset, .unset, .unset, .unset, .unset, .unset] [(.double (4620693217682128896 : UInt64)), (.double (FP.i2d wff_v41))])) _
    refine own_s_ddiv Xwff2.here hx (hb hby at_46) (pc' := 47) rfl wff_hn46 (v := wff_v46) wff_hv46 ?_
    refine own_s_dstore Xwff2.here hx (hb hby at_47) (pc' := 49) rfl (L' := #[.val (.int p0), .val (.int p1), .val (.int p2), .val (.int p3), .val (.double wff_v9), .second, .val (.double wff_v22), .second, .val (.ref bwff1), .val (.double wff_v46), .second, .unset, .unset, .unset, .unset, .unset, .unset, .unset, .unset, .unset, .unset]) rfl ?_
    refine own_s_iconst Xwff2.here hx (hb hby at_49) (pc' := 50) rfl (v := (1 : Int32)) (by decide) ?_
    refine own_s_iloadN Xwff2.here hx (hb hby at_50) (pc' := 51) rfl rfl ?_
    refine Xwff2.ldcInt hx hown (mvT hZ (hw _ (List.mem_of_getElem? (i := 20) rfl))) (g := (mkF m 51 #[.val (.int p0), .val (.int p1), .val (.int p2), .val (.int p3), .val (.double wff_v9), .second, .val (.double wff_v22), .second, .val (.ref bwff1), .val (.double wff_v46), .second, .unset, .unset, .unset, .unset, .unset, .unset, .unset, .unset, .unset, .unset] [(.int p1), (.int (1 : Int32))])) rfl (hb hby at_51) _ ?_
    show Steps p.tables e below (Twff2.setTop (mkF m 53 #[.val (.int p0), .val (.int p1), .val (.int p2), .val (.int p3), .val (.double wff_v9), .second, .val (.double wff_v22), .second, .val (.ref bwff1), .val (.double wff_v46), .second, .unset, .unset, .unset, .unset, .unset, .unset, .unset, .unset, .unset, .unset] [(.int (2147483647 : Int32)), (.int p1), (.int (1 : Int32))])) _
    refine own_s_iand Xwff2.here hx (hb hby at_53) (pc' := 54) rfl (v := wff_v53) wff_hv53 ?_
    refine stwff3 _ ?_
    show Steps p.tables e below (Twff3.setTop (mkF m 57 #[.val (.int p0), .val (.int p1), .val (.int p2), .val (.int p3), .val (.double wff_v9), .second, .val (.double wff_v22), .second, .val (.ref bwff1), .val (.double wff_v46), .second, .unset, .unset, .unset, .unset, .unset, .unset, .unset, .unset, .unset, .unset] [(.int (own_imax (1 : Int32) wff_v53))])) _
    refine own_s_istore Xwff3.here hx (hb hby at_57) (pc' := 59) rfl (L' := #[.val (.int p0), .val (.int p1), .val (.int p2), .val (.int p3), .val (.double wff_v9), .second, .val (.double wff_v22), .second, .val (.ref bwff1), .val (.double wff_v46), .second, .val (.int (own_imax (1 : Int32) wff_v53)), .unset, .unset, .unset, .unset, .unset, .unset, .unset, .unset, .unset]) rfl ?_
    refine own_s_aload Xwff3.here hx (hb hby at_59) (pc' := 61) rfl rfl rfl ?_
    refine own_s_dload Xwff3.here hx (hb hby at_61) (pc' := 63) rfl rfl ?_
    refine stwff4.trans ?_
    show Steps p.tables e below (Twff4.setTop (mkF m 66 #[.val (.int p0), .val (.int p1), .val (.int p2), .val (.int p3), .val (.double wff_v9), .second, .val (.double wff_v22), .second, .val (.ref bwff1), .val (.double wff_v46), .second, .val (.int (own_imax (1 : Int32) wff_v53)), .unset, .unset, .unset, .unset, .unset, .unset, .unset, .unset, .unset] [(.ref bwff4)])) _
    refine own_s_iload Xwff4.here hx (hb hby at_66) (pc' := 68) rfl rfl ?_
    refine stwff5.trans ?_
    show Steps p.tables e below (Twff5.setTop (mkF m 71 #[.val (.int p0), .val (.int p1), .val (.int p2), .val (.int p3), .val (.double wff_v9), .second, .val (.double wff_v22), .second, .val (.ref bwff1), .val (.double wff_v46), .second, .val (.int (own_imax (1 : Int32) wff_v53)), .unset, .unset, .unset, .unset, .unset, .unset, .unset, .unset, .unset] [(.double wff_c68_q_v35)])) _
    refine own_s_dstore Xwff5.here hx (hb hby at_71) (pc' := 73) rfl (L' := #[.val (.int p0), .val (.int p1), .val (.int p2), .val (.int p3), .val (.double wff_v9), .second, .val (.double wff_v22), .second, .val (.ref bwff1), .val (.double wff_v46), .second, .val (.int (own_imax (1 : Int32) wff_v53)), .val (.double wff_c68_q_v35), .second, .unset, .unset, .unset, .unset, .unset, .unset, .unset]) rfl ?_
    refine own_s_dload Xwff5.here hx (hb hby at_73) (pc' := 75) rfl rfl ?_
    refine own_s_dconst0 Xwff5.here hx (hb hby at_75) (pc' := 76) rfl  ?_
    refine own_s_dcmp Xwff5.here hx (hb hby at_76) (pc' := 77) rfl (v := (Op.cmpValue (FP.dcmp wff_v46 0) .l)) rfl ?_
    refine own_s_ifNo Xwff5.here hx (hb hby at_77) (pc' := 80) rfl wff_hb77 ?_
    refine own_s_iload Xwff5.here hx (hb hby at_80) (pc' := 82) rfl rfl ?_
    refine own_s_iconst Xwff5.here hx (hb hby at_82) (pc' := 83) rfl (v := (1 : Int32)) (by decide) ?_
    refine own_s_icmpNo Xwff5.here hx (hb hby at_83) (pc' := 86) rfl wff_hb83 ?_
    refine own_s_dload Xwff5.here hx (hb hby at_86) (pc' := 88) rfl rfl ?_
    refine own_s_dconst1 Xwff5.here hx (hb hby at_88) (pc' := 89) rfl  ?_
    refine own_s_dcmp Xwff5.here hx (hb hby at_89) (pc' := 90) rfl (v := (0 : Int32)) wff_hc89 ?_
    refine own_s_ifNo Xwff5.here hx (hb hby at_90) (pc' := 93) rfl (by decide) ?_
    refine own_s_iconst Xwff5.here hx (hb hby at_93) (pc' := 94) rfl (v := (1 : Int32)) (by decide) ?_
    refine own_s_goto Xwff5.here hx (hb hby at_94) (by decide) (pc' := 98) (by decide) ?_
    refine own_s_istore Xwff5.here hx (hb hby at_98) (pc' := 100) rfl (L' := #[.val (.int p0), .val (.int p1), .val (.int p2), .val (.int p3), .val (.double wff_v9), .second, .val (.double wff_v22), .second, .val (.ref bwff1), .val (.double wff_v46), .second, .val (.int (own_imax (1 : Int32) wff_v53)), .val (.double wff_c68_q_v35), .second, .val (.int (1 : Int32)), .unset, .unset, .unset, .unset, .unset, .unset]) rfl ?_
    refine own_s_goto Xwff5.here hx (hb hby at_100) (by decide) (pc' := 136) (by decide) ?_
    refine own_s_iloadN Xwff5.here hx (hb hby at_136) (pc' := 137) rfl rfl ?_
    refine Xwff5.ldcInt hx hown (mvT hZ (hw _ (List.mem_of_getElem? (i := 37) rfl))) (g := (mkF m 137 #[.val (.int p0), .val (.int p1), .val (.int p2), .val (.int p3), .val (.double wff_v9), .second, .val (.double wff_v22), .second, .val (.ref bwff1), .val (.double wff_v46), .second, .val (.int (own_imax (1 : Int32) wff_v53)), .val (.double wff_c68_q_v35), .second, .val (.int (1 : Int32)), .unset, .unset, .unset, .unset, .unset, .unset] [(.int p3)])) rfl (hb hby at_137) _ ?_
    show Steps p.tables e below (Twff5.setTop (mkF m 139 #[.val (.int p0), .val (.int p1), .val (.int p2), .val (.int p3), .val (.double wff_v9), .second, .val (.double wff_v22), .second, .val (.ref bwff1), .val (.double wff_v46), .second, .val (.int (own_imax (1 : Int32) wff_v53)), .val (.double wff_c68_q_v35), .second, .val (.int (1 : Int32)), .unset, .unset, .unset, .unset, .unset, .unset] [(.int (65535 : Int32)), (.int p3)])) _
    refine own_s_iand Xwff5.here hx (hb hby at_139) (pc' := 140) rfl (v := wff_v139) wff_hv139 ?_
    refine own_s_istore Xwff5.here hx (hb hby at_140) (pc' := 142) rfl (L' := #[.val (.int p0), .val (.int p1), .val (.int p2), .val (.int p3), .val (.double wff_v9), .second, .val (.double wff_v22), .second, .val (.ref bwff1), .val (.double wff_v46), .second, .val (.int (own_imax (1 : Int32) wff_v53)), .val (.double wff_c68_q_v35), .second, .val (.int (1 : Int32)), .val (.int wff_v139), .unset, .unset, .unset, .unset, .unset]) rfl ?_
    refine own_s_iloadN Xwff5.here hx (hb hby at_142) (pc' := 143) rfl rfl ?_
    refine own_s_bipush Xwff5.here hx (hb hby at_143) (pc' := 145) rfl (v := (16 : Int32)) (by decide) ?_
    refine own_s_iushr Xwff5.here hx (hb hby at_145) (pc' := 146) rfl (v := wff_v145) wff_hv145 ?_
    refine own_s_sipush Xwff5.here hx (hb hby at_146) (pc' := 149) rfl (v := (32767 : Int32)) (by decide) ?_
    refine own_s_iand Xwff5.here hx (hb hby at_149) (pc' := 150) rfl (v := wff_v149) wff_hv149 ?_
    refine own_s_istore Xwff5.here hx (hb hby at_150) (pc' := 152) rfl (L' := #[.val (.int p0), .val (.int p1), .val (.int p2), .val (.int p3), .val (.double wff_v9), .second, .val (.double wff_v22), .second, .val (.ref bwff1), .val (.double wff_v46), .second, .val (.int (own_imax (1 : Int32) wff_v53)), .val (.double wff_c68_q_v35), .second, .val (.int (1 : Int32)), .val (.int wff_v139), .val (.int wff_v149), .unset, .unset, .unset, .unset]) rfl ?_
    refine own_s_iconst Xwff5.here hx (hb hby at_152) (pc' := 153) rfl (v := (1 : Int32)) (by decide) ?_
    refine own_s_iload Xwff5.here hx (hb hby at_153) (pc' := 155) rfl rfl ?_
    refine own_s_iload Xwff5.here hx (hb hby at_155) (pc' := 157) rfl rfl ?_
    refine own_s_iconst Xwff5.here hx (hb hby at_157) (pc' := 158) rfl (v := (1 : Int32)) (by decide) ?_
    refine own_s_iadd Xwff5.here hx (hb hby at_158) (pc' := 159) rfl (v := wff_v158) wff_hv158 ?_
    refine own_s_imul Xwff5.here hx (hb hby at_159) (pc' := 160) rfl (v := wff_v159) wff_hv159 ?_
    refine own_s_iadd Xwff5.here hx (hb hby at_160) (pc' := 161) rfl (v := wff_v160) wff_hv160 ?_
    refine own_s_istore Xwff5.here hx (hb hby at_161) (pc' := 163) rfl (L' := #[.val (.int p0), .val (.int p1), .val (.int p2), .val (.int p3), .val (.double wff_v9), .second, .val (.double wff_v22), .second, .val (.ref bwff1), .val (.double wff_v46), .second, .val (.int (own_imax (1 : Int32) wff_v53)), .val (.double wff_c68_q_v35), .second, .val (.int (1 : Int32)), .val (.int wff_v139), .val (.int wff_v149), .val (.int wff_v160), .unset, .unset, .unset]) rfl ?_
    refine own_s_aload Xwff5.here hx (hb hby at_163) (pc' := 165) rfl rfl rfl ?_
    refine own_s_iload Xwff5.here hx (hb hby at_165) (pc' := 167) rfl rfl ?_
    refine own_s_i2d Xwff5.here hx (hb hby at_167) (pc' := 168) rfl (v := (FP.i2d wff_v139)) rfl ?_
    refine stwff6.trans ?_
    show Steps p.tables e below (Twff6.setTop (mkF m 171 #[.val (.int p0), .val (.int p1), .val (.int p2), .val (.int p3), .val (.double wff_v9), .second, .val (.double wff_v22), .second, .val (.ref bwff1), .val (.double wff_v46), .second, .val (.int (own_imax (1 : Int32) wff_v53)), .val (.double wff_c68_q_v35), .second, .val (.int (1 : Int32)), .val (.int wff_v139), .val (.int wff_v149), .val (.int wff_v160), .unset, .unset, .unset] [(.ref bwff6)])) _
    refine own_s_iload Xwff6.here hx (hb hby at_171) (pc' := 173) rfl rfl ?_
    refine stwff7.trans ?_
    show Steps p.tables e below (Twff7.setTop (mkF m 176 #[.val (.int p0), .val (.int p1), .val (.int p2), .val (.int p3), .val (.double wff_v9), .second, .val (.double wff_v22), .second, .val (.ref bwff1), .val (.double wff_v46), .second, .val (.int (own_imax (1 : Int32) wff_v53)), .val (.double wff_c68_q_v35), .second, .val (.int (1 : Int32)), .val (.int wff_v139), .val (.int wff_v149), .val (.int wff_v160), .unset, .unset, .unset] [(.double wff_c173_q_v35)])) _
    refine own_s_dstore Xwff7.here hx (hb hby at_176) (pc' := 178) rfl (L' := #[.val (.int p0), .val (.int p1), .val (.int p2), .val (.int p3), .val (.double wff_v9), .second, .val (.double wff_v22), .second, .val (.ref bwff1), .val (.double wff_v46), .second, .val (.int (own_imax (1 : Int32) wff_v53)), .val (.double wff_c68_q_v35), .second, .val (.int (1 : Int32)), .val (.int wff_v139), .val (.int wff_v149), .val (.int wff_v160), .val (.double wff_c173_q_v35), .second, .unset]) rfl ?_
    refine own_s_dload Xwff7.here hx (hb hby at_178) (pc' := 180) rfl rfl ?_
    refine own_s_iload Xwff7.here hx (hb hby at_180) (pc' := 182) rfl rfl ?_
    refine own_s_i2d Xwff7.here hx (hb hby at_182) (pc' := 183) rfl (v := (FP.i2d wff_v160)) rfl ?_
    refine own_s_iload Xwff7.here hx (hb hby at_183) (pc' := 185) rfl rfl ?_
    refine own_s_iconst Xwff7.here hx (hb hby at_185) (pc' := 186) rfl (v := (1 : Int32)) (by decide) ?_
    refine own_s_iadd Xwff7.here hx (hb hby at_186) (pc' := 187) rfl (v := wff_v186) wff_hv186 ?_
    refine own_s_i2d Xwff7.here hx (hb hby at_187) (pc' := 188) rfl (v := (FP.i2d wff_v186)) rfl ?_
    refine own_s_ddiv Xwff7.here hx (hb hby at_188) (pc' := 189) rfl wff_hn188 (v := wff_v188) wff_hv188 ?_
    refine own_s_dcmp Xwff7.here hx (hb hby at_189) (pc' := 190) rfl (v := (0 : Int32)) wff_hc189 ?_
    refine own_s_ifNo Xwff7.here hx (hb hby at_190) (pc' := 193) rfl (by decide) ?_
    refine own_s_iconst Xwff7.here hx (hb hby at_193) (pc' := 194) rfl (v := (1 : Int32)) (by decide) ?_
    refine own_s_goto Xwff7.here hx (hb hby at_194) (by decide) (pc' := 198) (by decide) ?_
    refine own_s_istore Xwff7.here hx (hb hby at_198) (pc' := 200) rfl (L' := #[.val (.int p0), .val (.int p1), .val (.int p2), .val (.int p3), .val (.double wff_v9), .second, .val (.double wff_v22), .second, .val (.ref bwff1), .val (.double wff_v46), .second, .val (.int (own_imax (1 : Int32) wff_v53)), .val (.double wff_c68_q_v35), .second, .val (.int (1 : Int32)), .val (.int wff_v139), .val (.int wff_v149), .val (.int wff_v160), .val (.double wff_c173_q_v35), .second, .val (.int (1 : Int32))]) rfl ?_
    refine own_s_iload Xwff7.here hx (hb hby at_200) (pc' := 202) rfl rfl ?_
    refine own_s_ifNo Xwff7.here hx (hb hby at_202) (pc' := 205) rfl (by decide) ?_
    refine own_s_iload Xwff7.here hx (hb hby at_205) (pc' := 207) rfl rfl ?_
    refine own_s_ifNo Xwff7.here hx (hb hby at_207) (pc' := 210) rfl (by decide) ?_
    refine own_s_iconst Xwff7.here hx (hb hby at_210) (pc' := 211) rfl (v := (1 : Int32)) (by decide) ?_
    refine own_s_goto Xwff7.here hx (hb hby at_211) (by decide) (pc' := 215) (by decide) ?_
    exact retN Xwff7 hx (t := .boolean) Bd.returns (by simp) (hb hby at_215) hr
  · show own_Q0 n0 _ Twff7.heap _
    rw [ewff7]
    exact ⟨rfl, Nwff7⟩
theorem own_ef_wft (m : MethodId) (p0 : Int32) (p1 : Int32) (p2 : Int32) (p3 : Int32) : entryFrame m #[(.int p0), (.int p1), (.int p2), (.int p3)] maxLocals = mkF m 0 #[.val (.int p0), .val (.int p1), .val (.int p2), .val (.int p3), .unset, .unset, .unset, .unset, .unset, .unset, .unset, .unset, .unset, .unset, .unset, .unset, .unset, .unset, .unset, .unset, .unset] [] := by first | (simp [entryFrame, mkF, argsToLocals, Value.category, maxLocals]; done) | rfl
set_option maxRecDepth 65536 in
set_option maxHeartbeats 40000000 in
theorem own_rm_wft (l : Launch) (Z : State) (a0 : Array Value) (hw : ∀ d ∈ tables_1, d.before a0 Z = true) (ws : List Jvm.Cond) (p0 : Int32) (p1 : Int32) (p2 : Int32) (p3 : Int32) {wft_v4 : Int32} {wft_v9 : UInt64} {wft_v15 : Int32} {wft_v17 : Int32} {wft_v22 : UInt64} {wft_v41 : Int32} {wft_v46 : UInt64} {wft_v53 : Int32} {wft_c68_q_v27 : UInt64} {wft_c68_q_v33 : UInt64} {wft_c68_q_v34 : UInt64} {wft_c68_q_v35 : UInt64} {wft_v124 : UInt64} {wft_v139 : Int32} {wft_v145 : Int32} {wft_v149 : Int32} {wft_v158 : Int32} {wft_v159 : Int32} {wft_v160 : Int32} {wft_c173_q_v27 : UInt64} {wft_c173_q_v33 : UInt64} {wft_c173_q_v34 : UInt64} {wft_c173_q_v35 : UInt64} {wft_v186 : Int32} {wft_v188 : UInt64} (h0 : Heap) (n0 : Nat) (Z0 : n0 ≤ h0.size)  (wft_hv4 : p2 &&& (255 : Int32) = wft_v4) (wft_hn9 : Jvm.Free.Fl.NoNaN64 (FP.ddiv (FP.i2d wft_v4) (4616189618054758400 : UInt64))) (wft_hv9 : FP.ddiv (FP.i2d wft_v4) (4616189618054758400 : UInt64) = wft_v9) (wft_hv15 : (Int32.toUInt32 p2 >>> ((8 : Int32) &&& 31).toUInt32).toInt32 = wft_v15) (wft_hv17 : wft_v15 &&& (3 : Int32) = wft_v17) (wft_hn22 : Jvm.Free.Fl.NoNaN64 (FP.ddiv (FP.i2d wft_v17) (4616189618054758400 : UInt64))) (wft_hv22 : FP.ddiv (FP.i2d wft_v17) (4616189618054758400 : UInt64) = wft_v22) (wft_c33_j_c4_i_hb7 : ifCond.holds .lt (Op.cmpValue (FP.dcmp wft_v9 0) .l) = false) (wft_c33_j_c4_i_hb15 : ifCond.holds .lt (Op.cmpValue (FP.dcmp wft_v9 (9218868437227405312 : UInt64)) .g) = true) (wft_c33_j_c4_i_hb35 : ifCond.holds .lt (Op.cmpValue (FP.dcmp wft_v22 0) .l) = false) (wft_c33_j_c4_i_hb41 : ifCond.holds .le (Op.cmpValue (FP.dcmp wft_v22 4607182418800017408) .g) = true) (wft_c33_j_c4_i_hb62 : ifCond.holds .lt (Op.cmpValue (FP.dcmp 0 0) .l) = false) (wft_c33_j_c4_i_hb71 : ifCond.holds .lt (Op.cmpValue (FP.dcmp 0 (9218868437227405312 : UInt64)) .g) = true) (wft_hv41 : p0 &&& (2147483647 : Int32) = wft_v41) (wft_hn46 : Jvm.Free.Fl.NoNaN64 (FP.ddiv (FP.i2d wft_v41) (4620693217682128896 : UInt64))) (wft_hv46 : FP.ddiv (FP.i2d wft_v41) (4620693217682128896 : UInt64) = wft_v46) (wft_hv53 : p1 &&& (2147483647 : Int32) = wft_v53) (wft_c63_k_c13_i_hb7 : ifCond.holds .lt (Op.cmpValue (FP.dcmp wft_v9 0) .l) = false) (wft_c63_k_c13_i_hb15 : ifCond.holds .lt (Op.cmpValue (FP.dcmp wft_v9 (9218868437227405312 : UInt64)) .g) = true) (wft_c63_k_c13_i_hb35 : ifCond.holds .lt (Op.cmpValue (FP.dcmp wft_v22 0) .l) = false) (wft_c63_k_c13_i_hb41 : ifCond.holds .le (Op.cmpValue (FP.dcmp wft_v22 4607182418800017408) .g) = true) (wft_c63_k_c13_i_hb62 : ifCond.holds .lt (Op.cmpValue (FP.dcmp wft_v46 0) .l) = false) (wft_c63_k_c13_i_hb71 : ifCond.holds .lt (Op.cmpValue (FP.dcmp wft_v46 (9218868437227405312 : UInt64)) .g) = true) (wft_c68_q_hb2 : if_icmp.holds .ge (own_imax (1 : Int32) wft_v53) (1 : Int32) = true) (wft_c68_q_hn27 : Jvm.Free.Fl.NoNaN64 (FP.dadd wft_v46 (FP.i2d (own_imax (1 : Int32) wft_v53)))) (wft_c68_q_hv27 : FP.dadd wft_v46 (FP.i2d (own_imax (1 : Int32) wft_v53)) = wft_c68_q_v27) (wft_c68_q_hn33 : Jvm.Free.Fl.NoNaN64 (FP.dadd wft_v46 4607182418800017408)) (wft_c68_q_hv33 : FP.dadd wft_v46 4607182418800017408 = wft_c68_q_v33) (wft_c68_q_hn34 : Jvm.Free.Fl.NoNaN64 (FP.ddiv wft_c68_q_v27 wft_c68_q_v33)) (wft_c68_q_hv34 : FP.ddiv wft_c68_q_v27 wft_c68_q_v33 = wft_c68_q_v34) (wft_c68_q_hn35 : Jvm.Free.Fl.NoNaN64 (FP.ddiv (FP.i2d (own_imax (1 : Int32) wft_v53)) wft_c68_q_v34)) (wft_c68_q_hv35 : FP.ddiv (FP.i2d (own_imax (1 : Int32) wft_v53)) wft_c68_q_v34 = wft_c68_q_v35) (wft_hb77 : ifCond.holds .eq (Op.cmpValue (FP.dcmp wft_v46 0) .l) = false) (wft_hb83 : if_icmp.holds .ne (own_imax (1 : Int32) wft_v53) (1 : Int32) = true) (wft_hc106 : Op.cmpValue (FP.dcmp 4607182418800017408 wft_c68_q_v35) .g = (-1 : Int32)) (wft_hc115 : Op.cmpValue (FP.dcmp wft_c68_q_v35 (FP.i2d (own_imax (1 : Int32) wft_v53))) .g = (-1 : Int32)) (wft_hn124 : Jvm.Free.Fl.NoNaN64 (FP.dadd wft_v46 4607182418800017408)) (wft_hv124 : FP.dadd wft_v46 4607182418800017408 = wft_v124) (wft_hc125 : Op.cmpValue (FP.dcmp wft_c68_q_v35 wft_v124) .g = (-1 : Int32)) (wft_hv139 : p3 &&& (65535 : Int32) = wft_v139) (wft_hv145 : (Int32.toUInt32 p3 >>> ((16 : Int32) &&& 31).toUInt32).toInt32 = wft_v145) (wft_hv149 : wft_v145 &&& (32767 : Int32) = wft_v149) (wft_hv158 : wft_v139 + (1 : Int32) = wft_v158) (wft_hv159 : wft_v149 * wft_v158 = wft_v159) (wft_hv160 : (1 : Int32) + wft_v159 = wft_v160) (wft_c168_k_c13_i_hb7 : ifCond.holds .lt (Op.cmpValue (FP.dcmp wft_v9 0) .l) = false) (wft_c168_k_c13_i_hb15 : ifCond.holds .lt (Op.cmpValue (FP.dcmp wft_v9 (9218868437227405312 : UInt64)) .g) = true) (wft_c168_k_c13_i_hb35 : ifCond.holds .lt (Op.cmpValue (FP.dcmp wft_v22 0) .l) = false) (wft_c168_k_c13_i_hb41 : ifCond.holds .le (Op.cmpValue (FP.dcmp wft_v22 4607182418800017408) .g) = true) (wft_c168_k_c13_i_hb62 : ifCond.holds .lt (Op.cmpValue (FP.dcmp (FP.i2d wft_v139) 0) .l) = false) (wft_c168_k_c13_i_hb71 : ifCond.holds .lt (Op.cmpValue (FP.dcmp (FP.i2d wft_v139) (9218868437227405312 : UInt64)) .g) = true) (wft_c173_q_hb2 : if_icmp.holds .ge wft_v160 (1 : Int32) = true) (wft_c173_q_hn27 : Jvm.Free.Fl.NoNaN64 (FP.dadd (FP.i2d wft_v139) (FP.i2d wft_v160))) (wft_c173_q_hv27 : FP.dadd (FP.i2d wft_v139) (FP.i2d wft_v160) = wft_c173_q_v27) (wft_c173_q_hn33 : Jvm.Free.Fl.NoNaN64 (FP.dadd (FP.i2d wft_v139) 4607182418800017408)) (wft_c173_q_hv33 : FP.dadd (FP.i2d wft_v139) 4607182418800017408 = wft_c173_q_v33) (wft_c173_q_hn34 : Jvm.Free.Fl.NoNaN64 (FP.ddiv wft_c173_q_v27 wft_c173_q_v33)) (wft_c173_q_hv34 : FP.ddiv wft_c173_q_v27 wft_c173_q_v33 = wft_c173_q_v34) (wft_c173_q_hn35 : Jvm.Free.Fl.NoNaN64 (FP.ddiv (FP.i2d wft_v160) wft_c173_q_v34)) (wft_c173_q_hv35 : FP.ddiv (FP.i2d wft_v160) wft_c173_q_v34 = wft_c173_q_v35) (wft_hv186 : wft_v149 + (1 : Int32) = wft_v186) (wft_hn188 : Jvm.Free.Fl.NoNaN64 (FP.ddiv (FP.i2d wft_v160) (FP.i2d wft_v186))) (wft_hv188 : FP.ddiv (FP.i2d wft_v160) (FP.i2d wft_v186) = wft_v188) (wft_hc189 : Op.cmpValue (FP.dcmp wft_c173_q_v35 wft_v188) .l = (0 : Int32)) :
    MetFree l x (head1 (Jvm.Cond.code x code maxLocals ret :: ws) room_1) (fun a U => a = #[(.int p0), (.int p1), (.int p2), (.int p3)] ∧ Z.Warmed39 U.vm ∧ U.heap = h0) (fun _ _ _ _ _ => True) (fun _ U o U' => ∃ v L, o = .returned v ∧ own_Q0 n0 v U'.heap L ∧ FrameEnd U o U' L room_1.cells room_1.slots) := by
  refine MetFree.of_bodySF (plainFor_of_name own_pn_com_example_tally_odds_tallyodds_Bm25QtfPartPinLaw) hisR ?_
  intro p e s m args below meth c s₁ Bd hml0 hP hK
  obtain ⟨rfl, hZ, hh⟩ := hP
  have hx := Bd.exec
  have hby := Bd.bytes
  have hml : c.maxLocals = 21 := hml0
  have hown : s.vm.findClass "com/example/tally_odds/tallyodds/Bm25QtfPartPinLaw" = some m.cls := findClass_of_methodNamed Bd.named
  have hnm := (name_of_methodNamed Bd.named Bd.method).1
  have X0 : Stand p l e room_1 s m #[(.int p0), (.int p1), (.int p2), (.int p3)] below meth c s₁ [] 0 0 := Stand.of_body Bd
  have e0 : s₁.heap = h0 := by rw [← hh, Bd.state]; rfl
  have N0 := Fr.nil n0
  have pre0 : ∀ t, Steps p.tables e below (s₁.setTop (mkF m 0 #[.val (.int p0), .val (.int p1), .val (.int p2), .val (.int p3), .unset, .unset, .unset, .unset, .unset, .unset, .unset, .unset, .unset, .unset, .unset, .unset, .unset, .unset, .unset, .unset, .unset] [])) t → Steps p.tables e below (s₁.setTop (entryFrame m #[(.int p0), (.int p1), (.int p2), (.int p3)] maxLocals)) t := fun t k => castTop (own_ef_wft m p0 p1 p2 p3) k
  obtain ⟨Twft1, hwft1, Xwft1, ewft1, Ewft1, Awft1, Dwft1, -, stwft1⟩ := newO X0 hx hZ hown (hw _ (List.mem_of_getElem? (i := 1) rfl)) (hw _ (List.mem_of_getElem? (i := 2) rfl)) (hw _ (List.mem_of_getElem? (i := 3) rfl)) e0 (g := (mkF m 25 #[.val (.int p0), .val (.int p1), .val (.int p2), .val (.int p3), .val (.double wft_v9), .second, .val (.double wft_v22), .second, .unset, .unset, .unset, .unset, .unset, .unset, .unset, .unset, .unset, .unset, .unset, .unset, .unset] [])) rfl (hb hby at_25) (by decide) (by decide)
  obtain ⟨bwft1, Gwft1⟩ : ∃ z, z = h0.size := ⟨_, rfl⟩
  rw [← Gwft1] at Awft1 Dwft1 stwft1
  have g_bwft1 : n0 ≤ bwft1 := Nat.le_trans Z0 (Nat.le_of_eq Gwft1.symm)
  have sz_bwft1 : h0.size ≤ bwft1 := Nat.le_trans (Keep.refl h0 []).1 (Nat.le_of_eq Gwft1.symm)
  have Zwft1 : n0 ≤ hwft1.size := Nat.le_trans Z0 Ewft1.1
  have KKwft1 := (Keep.refl h0 []).ext Ewft1
  have F_k1_bwft1 : Fld Z hwft1 bwft1 "com/example/tally_odds/tallyodds/Bm25" "k1" "D" (.double 0) := Dwft1 (Or.inr (hw _ (List.mem_of_getElem? (i := 15) rfl))) (ty := .double) (by decide)
  have F_b_bwft1 : Fld Z hwft1 bwft1 "com/example/tally_odds/tallyodds/Bm25" "b" "D" (.double 0) := Dwft1 (Or.inr (hw _ (List.mem_of_getElem? (i := 17) rfl))) (ty := .double) (by decide)
  have F_k3_bwft1 : Fld Z hwft1 bwft1 "com/example/tally_odds/tallyodds/Bm25" "k3" "D" (.double 0) := Dwft1 (Or.inr (hw _ (List.mem_of_getElem? (i := 19) rfl))) (ty := .double) (by decide)
  obtain ⟨_, _, ⟨Twft2, Lwft2, kwft2, nwft2⟩, -, Xwft2, ⟨Lcwft2, hQwft2, lwft2, ywft2, zwft2⟩, stwft2⟩ := Xwft1.specialBack hx (y := (⟨"com/example/tally_odds/tallyodds/Bm25", "<init>", "(DD)V"⟩ : MethodName)) rfl hown (mvT hZ (hw _ (List.mem_of_getElem? (i := 4) rfl))) (mvT hZ (hw _ (List.mem_of_getElem? (i := 5) rfl))) (mvT hZ (hw _ (List.mem_of_getElem? (i := 6) rfl))) (by decide) (backOf (W := 1) (own_rm_j l Z a0 hw [] bwft1 wft_v9 wft_v22 hwft1 n0 Zwft1 Awft1 F_k1_bwft1 F_b_bwft1 F_k3_bwft1 g_bwft1 wft_c33_j_c4_i_hb7 wft_c33_j_c4_i_hb15 wft_c33_j_c4_i_hb35 wft_c33_j_c4_i_hb41 wft_c33_j_c4_i_hb62 wft_c33_j_c4_i_hb71) hZ (hw _ (List.mem_of_getElem? (i := 6) rfl)) (hw _ (List.mem_of_getElem? (i := 3) rfl)) (by decide) (by decide)) (g := (mkF m 33 #[.val (.int p0), .val (.int p1), .val (.int p2), .val (.int p3), .val (.double wft_v9), .second, .val (.double wft_v22), .second, .unset, .unset, .unset, .unset, .unset, .unset, .unset, .unset, .unset, .unset, .unset, .unset, .unset] [(.double wft_v22), (.double wft_v9), (.ref bwft1), (.ref bwft1)])) rfl (by rw [hml]; rfl) (Steps.refl _) (a := bwft1) (argsL := [(.double wft_v9), (.double wft_v22)]) (rest := [(.ref bwft1)]) (lenOf own_pd_28DD29V rfl) rfl (by show 2 * 0 + _ ≤ _; exact Nat.le_of_eq rfl) (hb hby at_33) (fun _ _ => ⟨rfl, ewft1, (by decide : 1 + 0 ≤ _), (by decide : 3 + 0 ≤ _)⟩)
  dsimp only [Pt.U, Pt.locs, Pt.cells, Pt.slots] at Xwft2 lwft2 ywft2 zwft2 stwft2 hQwft2
  rw [lwft2, ywft2, zwft2] at Xwft2
  obtain ⟨rfl, Nwft2q, Kwft2, qwft2_0, qwft2_1, qwft2_2, qwft2_3⟩ := hQwft2
  have Zwft2 : n0 ≤ Twft2.heap.size := Nat.le_trans Zwft1 Kwft2.1
  have KKwft2 := KKwft1.trans Kwft2 (fun q hq => by simp only [List.mem_cons, List.not_mem_nil, or_false] at hq; rcases hq with rfl; exact Or.inr sz_bwft1)
  have Nwft2 := Fr.app N0 Nwft2q
  obtain ⟨_, _, ⟨Twft3, Lwft3, kwft3, nwft3⟩, -, Xwft3, ⟨Lcwft3, hQwft3, lwft3, ywft3, zwft3⟩, stwft3⟩ := Jvm.LawKit.callS Xwft2 hx (y := (⟨"java/lang/Math", "max", "(II)I"⟩ : MethodName)) hown (mvT hZ (hw _ (List.mem_of_getElem? (i := 22) rfl))) (mvT hZ (hw _ (List.mem_of_getElem? (i := 23) rfl))) (mvT hZ (hw _ (List.mem_of_getElem? (i := 24) rfl))) (mvT hZ (hw _ (List.mem_of_getElem? (i := 25) rfl))) (by decide) (backOf (W := 0) (own_rm_ma l Z a0 hw [] (1 : Int32) wft_v53 Twft2.heap n0 Zwft2 ) hZ (hw _ (List.mem_of_getElem? (i := 25) rfl)) (hw _ (List.mem_of_getElem? (i := 24) rfl)) (by decide) (by decide)) (g := (mkF m 54 #[.val (.int p0), .val (.int p1), .val (.int p2), .val (.int p3), .val (.double wft_v9), .second, .val (.double wft_v22), .second, .val (.ref bwft1), .val (.double wft_v46), .second, .unset, .unset, .unset, .unset, .unset, .unset, .unset, .unset, .unset, .unset] [(.int wft_v53), (.int (1 : Int32))])) rfl (by rw [hml]; rfl) (argsL := [(.int (1 : Int32)), (.int wft_v53)]) (rest := []) (lenOf own_pd_28II29I rfl) rfl (by show 2 * 0 + _ ≤ _; exact Nat.le_of_eq rfl) (hb hby at_54) (fun _ _ => ⟨rfl, rfl, (by decide : 1 + 0 ≤ _), (by decide : 3 + 0 ≤ _)⟩)
  dsimp only [Pt.U, Pt.locs, Pt.cells, Pt.slots] at Xwft3 lwft3 ywft3 zwft3 stwft3 hQwft3
  rw [lwft3, ywft3, zwft3] at Xwft3
  obtain ⟨rfl, Nwft3q, ewft3⟩ := hQwft3
  have Nwft3 := Fr.app Nwft2 Nwft3q
  obtain ⟨cqwft4, kqwft4, qwft4a, qwft4b, qwft4c⟩ := isOf hZ ewft3 qwft2_0
  obtain ⟨_, _, ⟨Twft4, Lwft4, kwft4, nwft4⟩, -, Xwft4, ⟨Lcwft4, hQwft4, lwft4, ywft4, zwft4⟩, stwft4⟩ := Xwft3.virtualBack hx (y := (⟨"com/example/tally_odds/tallyodds/Bm25", "withK3", "(D)Lcom/example/tally_odds/tallyodds/Bm25;"⟩ : MethodName)) (z := (⟨"com/example/tally_odds/tallyodds/Bm25", "withK3", "(D)Lcom/example/tally_odds/tallyodds/Bm25;"⟩ : MethodName)) hown (mvT hZ (hw _ (List.mem_of_getElem? (i := 26) rfl))) (mvT hZ (hw _ (List.mem_of_getElem? (i := 27) rfl))) (notFace_of_selects (args := #[]) (mvT hZ (hw _ (List.mem_of_getElem? (i := 29) rfl)))) (mvT hZ (hw _ (List.mem_of_getElem? (i := 29) rfl))) (mvT hZ (hw _ (List.mem_of_getElem? (i := 28) rfl))) (by decide) (backOf (W := 0) (own_rm_k l Z a0 hw [] bwft1 wft_v9 wft_v22 0 wft_v46 Twft2.heap n0 Zwft2 qwft2_0 qwft2_1 qwft2_2 qwft2_3 wft_c63_k_c13_i_hb7 wft_c63_k_c13_i_hb15 wft_c63_k_c13_i_hb35 wft_c63_k_c13_i_hb41 wft_c63_k_c13_i_hb62 wft_c63_k_c13_i_hb71) hZ (hw _ (List.mem_of_getElem? (i := 30) rfl)) (hw _ (List.mem_of_getElem? (i := 3) rfl)) (by decide) (by decide)) qwft4a qwft4c (g := (mkF m 63 #[.val (.int p0), .val (.int p1), .val (.int p2), .val (.int p3), .val (.double wft_v9), .second, .val (.double wft_v22), .second, .val (.ref bwft1), .val (.double wft_v46), .second, .val (.int (own_imax (1 : Int32) wft_v53)), .unset, .unset, .unset, .unset, .unset, .unset, .unset, .unset, .unset] [(.double wft_v46), (.ref bwft1)])) rfl (by rw [hml]; rfl) (Steps.refl _) (argsL := [(.double wft_v46)]) (rest := []) (lenOf own_pd_28D29Lcom2fexample2ftally_odds2ftallyodds2fBm253b rfl) rfl (by show 2 * 0 + _ ≤ _; exact Nat.le_of_eq rfl) (hb hby at_63) (fun _ _ => ⟨rfl, ewft3, (by decide : 1 + 1 ≤ _), (by decide : 3 + 3 ≤ _)⟩)
  dsimp only [Pt.U, Pt.locs, Pt.cells, Pt.slots] at Xwft4 lwft4 ywft4 zwft4 stwft4 hQwft4
  rw [lwft4, ywft4, zwft4] at Xwft4
  obtain ⟨bwft4, rfl, Nwft4q, Kwft4, Gwft4, qwft4_0, qwft4_1, qwft4_2, qwft4_3⟩ := hQwft4
  have ne_bwft1_bwft4 : bwft1 ≠ bwft4 := Nat.ne_of_lt (Nat.lt_of_lt_of_le qwft2_0.lt Gwft4)
  have ne_bwft4_bwft1 : bwft4 ≠ bwft1 := Ne.symm ne_bwft1_bwft4
  have g_bwft4 : n0 ≤ bwft4 := Nat.le_trans Zwft2 Gwft4
  have sz_bwft4 : h0.size ≤ bwft4 := Nat.le_trans KKwft2.1 Gwft4
  have E_bwft1_wft4 := qwft2_0.keep Kwft4
  have F_k1_bwft1_wft4 := qwft2_1.keep Kwft4 (List.not_mem_nil)
  have F_b_bwft1_wft4 := qwft2_2.keep Kwft4 (List.not_mem_nil)
  have F_k3_bwft1_wft4 := qwft2_3.keep Kwft4 (List.not_mem_nil)
  have Zwft4 : n0 ≤ Twft4.heap.size := Nat.le_trans Zwft2 Kwft4.1
  have KKwft4 := KKwft2.trans Kwft4 (fun _ q => nomatch q)
  have Nwft4 := Fr.app Nwft3 Nwft4q
  obtain ⟨cqwft5, kqwft5, qwft5a, qwft5b, qwft5c⟩ := isOf hZ rfl qwft4_0
  obtain ⟨_, _, ⟨Twft5, Lwft5, kwft5, nwft5⟩, -, Xwft5, ⟨Lcwft5, hQwft5, lwft5, ywft5, zwft5⟩, stwft5⟩ := Xwft4.virtualBack hx (y := (⟨"com/example/tally_odds/tallyodds/Bm25", "qtfPart", "(I)D"⟩ : MethodName)) (z := (⟨"com/example/tally_odds/tallyodds/Bm25", "qtfPart", "(I)D"⟩ : MethodName)) hown (mvT hZ (hw _ (List.mem_of_getElem? (i := 32) rfl))) (mvT hZ (hw _ (List.mem_of_getElem? (i := 33) rfl))) (notFace_of_selects (args := #[]) (mvT hZ (hw _ (List.mem_of_getElem? (i := 35) rfl)))) (mvT hZ (hw _ (List.mem_of_getElem? (i := 35) rfl))) (mvT hZ (hw _ (List.mem_of_getElem? (i := 34) rfl))) (by decide) (backOf (W := 0) (own_rm_q l Z a0 hw [] bwft4 wft_v9 wft_v22 wft_v46 (own_imax (1 : Int32) wft_v53) Twft4.heap n0 Zwft4 qwft4_0 qwft4_1 qwft4_2 qwft4_3 wft_c68_q_hb2 wft_c68_q_hn27 wft_c68_q_hv27 wft_c68_q_hn33 wft_c68_q_hv33 wft_c68_q_hn34 wft_c68_q_hv34 wft_c68_q_hn35 wft_c68_q_hv35) hZ (hw _ (List.mem_of_getElem? (i := 36) rfl)) (hw _ (List.mem_of_getElem? (i := 3) rfl)) (by decide) (by decide)) qwft5a qwft5c (g := (mkF m 68 #[.val (.int p0), .val (.int p1), .val (.int p2), .val (.int p3), .val (.double wft_v9), .second, .val (.double wft_v22), .second, .val (.ref bwft1), .val (.double wft_v46), .second, .val (.int (own_imax (1 : Int32) wft_v53)), .unset, .unset, .unset, .unset, .unset, .unset, .unset, .unset, .unset] [(.int (own_imax (1 : Int32) wft_v53)), (.ref bwft4)])) rfl (by rw [hml]; rfl) (Steps.refl _) (argsL := [(.int (own_imax (1 : Int32) wft_v53))]) (rest := []) (lenOf own_pd_28I29D rfl) rfl (by show 2 * 0 + _ ≤ _; exact Nat.le_of_eq rfl) (hb hby at_68) (fun _ _ => ⟨rfl, rfl, (by decide : 2 + 0 ≤ _), (by decide : 6 + 0 ≤ _)⟩)
  dsimp only [Pt.U, Pt.locs, Pt.cells, Pt.slots] at Xwft5 lwft5 ywft5 zwft5 stwft5 hQwft5
  rw [lwft5, ywft5, zwft5] at Xwft5
  obtain ⟨rfl, Nwft5q, ewft5⟩ := hQwft5
  have Nwft5 := Fr.app Nwft4 Nwft5q
  obtain ⟨cqwft6, kqwft6, qwft6a, qwft6b, qwft6c⟩ := isOf hZ ewft5 E_bwft1_wft4
  obtain ⟨_, _, ⟨Twft6, Lwft6, kwft6, nwft6⟩, -, Xwft6, ⟨Lcwft6, hQwft6, lwft6, ywft6, zwft6⟩, stwft6⟩ := Xwft5.virtualBack hx (y := (⟨"com/example/tally_odds/tallyodds/Bm25", "withK3", "(D)Lcom/example/tally_odds/tallyodds/Bm25;"⟩ : MethodName)) (z := (⟨"com/example/tally_odds/tallyodds/Bm25", "withK3", "(D)Lcom/example/tally_odds/tallyodds/Bm25;"⟩ : MethodName)) hown (mvT hZ (hw _ (List.mem_of_getElem? (i := 26) rfl))) (mvT hZ (hw _ (List.mem_of_getElem? (i := 27) rfl))) (notFace_of_selects (args := #[]) (mvT hZ (hw _ (List.mem_of_getElem? (i := 29) rfl)))) (mvT hZ (hw _ (List.mem_of_getElem? (i := 29) rfl))) (mvT hZ (hw _ (List.mem_of_getElem? (i := 28) rfl))) (by decide) (backOf (W := 0) (own_rm_k l Z a0 hw [] bwft1 wft_v9 wft_v22 0 (FP.i2d wft_v139) Twft4.heap n0 Zwft4 E_bwft1_wft4 F_k1_bwft1_wft4 F_b_bwft1_wft4 F_k3_bwft1_wft4 wft_c168_k_c13_i_hb7 wft_c168_k_c13_i_hb15 wft_c168_k_c13_i_hb35 wft_c168_k_c13_i_hb41 wft_c168_k_c13_i_hb62 wft_c168_k_c13_i_hb71) hZ (hw _ (List.mem_of_getElem? (i := 30) rfl)) (hw _ (List.mem_of_getElem? (i := 3) rfl)) (by decide) (by decide)) qwft6a qwft6c (g := (mkF m 168 #[.val (.int p0), .val (.int p1), .val (.int p2), .val (.int p3), .val (.double wft_v9), .second, .val (.double wft_v22), .second, .val (.ref bwft1), .val (.double wft_v46), .second, .val (.int (own_imax (1 : Int32) wft_v53)), .val (.double wft_c68_q_v35), .second, .val (.int (1 : Int32)), .val (.int wft_v139), .val (.int wft_v149), .val (.int wft_v160), .unset, .unset, .unset] [(.double (FP.i2d wft_v139)), (.ref bwft1)])) rfl (by rw [hml]; rfl) (Steps.refl _) (argsL := [(.double (FP.i2d wft_v139))]) (rest := []) (lenOf own_pd_28D29Lcom2fexample2ftally_odds2ftallyodds2fBm253b rfl) rfl (by show 2 * 0 + _ ≤ _; exact Nat.le_of_eq rfl) (hb hby at_168) (fun _ _ => ⟨rfl, ewft5, (by decide : 2 + 1 ≤ _), (by decide : 6 + 3 ≤ _)⟩)
  dsimp only [Pt.U, Pt.locs, Pt.cells, Pt.slots] at Xwft6 lwft6 ywft6 zwft6 stwft6 hQwft6
  rw [lwft6, ywft6, zwft6] at Xwft6
  obtain ⟨bwft6, rfl, Nwft6q, Kwft6, Gwft6, qwft6_0, qwft6_1, qwft6_2, qwft6_3⟩ := hQwft6
  have ne_bwft1_bwft6 : bwft1 ≠ bwft6 := Nat.ne_of_lt (Nat.lt_of_lt_of_le E_bwft1_wft4.lt Gwft6)
  have ne_bwft6_bwft1 : bwft6 ≠ bwft1 := Ne.symm ne_bwft1_bwft6
  have ne_bwft4_bwft6 : bwft4 ≠ bwft6 := Nat.ne_of_lt (Nat.lt_of_lt_of_le qwft4_0.lt Gwft6)
  have ne_bwft6_bwft4 : bwft6 ≠ bwft4 := Ne.symm ne_bwft4_bwft6
  have g_bwft6 : n0 ≤ bwft6 := Nat.le_trans Zwft4 Gwft6
  have sz_bwft6 : h0.size ≤ bwft6 := Nat.le_trans KKwft4.1 Gwft6
  have E_bwft1_wft6 := E_bwft1_wft4.keep Kwft6
  have F_k1_bwft1_wft6 := F_k1_bwft1_wft4.keep Kwft6 (List.not_mem_nil)
  have F_b_bwft1_wft6 := F_b_bwft1_wft4.keep Kwft6 (List.not_mem_nil)
  have F_k3_bwft1_wft6 := F_k3_bwft1_wft4.keep Kwft6 (List.not_mem_nil)
  have E_bwft4_wft6 := qwft4_0.keep Kwft6
  have F_k1_bwft4_wft6 := qwft4_1.keep Kwft6 (List.not_mem_nil)
  have F_b_bwft4_wft6 := qwft4_2.keep Kwft6 (List.not_mem_nil)
  have F_k3_bwft4_wft6 := qwft4_3.keep Kwft6 (List.not_mem_nil)
  have Zwft6 : n0 ≤ Twft6.heap.size := Nat.le_trans Zwft4 Kwft6.1
  have KKwft6 := KKwft4.trans Kwft6 (fun _ q => nomatch q)
  have Nwft6 := Fr.app Nwft5 Nwft6q
  obtain ⟨cqwft7, kqwft7, qwft7a, qwft7b, qwft7c⟩ := isOf hZ rfl qwft6_0
  obtain ⟨_, _, ⟨Twft7, Lwft7, kwft7, nwft7⟩, -, Xwft7, ⟨Lcwft7, hQwft7, lwft7, ywft7, zwft7⟩, stwft7⟩ := Xwft6.virtualBack hx (y := (⟨"com/example/tally_odds/tallyodds/Bm25", "qtfPart", "(I)D"⟩ : MethodName)) (z := (⟨"com/example/tally_odds/tallyodds/Bm25", "qtfPart", "(I)D"⟩ : MethodName)) hown (mvT hZ (hw _ (List.mem_of_getElem? (i := 32) rfl))) (mvT hZ (hw _ (List.mem_of_getElem? (i := 33) rfl))) (notFace_of_selects (args := #[]) (mvT hZ (hw _ (List.mem_of_getElem? (i := 35) rfl)))) (mvT hZ (hw _ (List.mem_of_getElem? (i := 35) rfl))) (mvT hZ (hw _ (List.mem_of_getElem? (i := 34) rfl))) (by decide) (backOf (W := 0) (own_rm_q l Z a0 hw [] bwft6 wft_v9 wft_v22 (FP.i2d wft_v139) wft_v160 Twft6.heap n0 Zwft6 qwft6_0 qwft6_1 qwft6_2 qwft6_3 wft_c173_q_hb2 wft_c173_q_hn27 wft_c173_q_hv27 wft_c173_q_hn33 wft_c173_q_hv33 wft_c173_q_hn34 wft_c173_q_hv34 wft_c173_q_hn35 wft_c173_q_hv35) hZ (hw _ (List.mem_of_getElem? (i := 36) rfl)) (hw _ (List.mem_of_getElem? (i := 3) rfl)) (by decide) (by decide)) qwft7a qwft7c (g := (mkF m 173 #[.val (.int p0), .val (.int p1), .val (.int p2), .val (.int p3), .val (.double wft_v9), .second, .val (.double wft_v22), .second, .val (.ref bwft1), .val (.double wft_v46), .second, .val (.int (own_imax (1 : Int32) wft_v53)), .val (.double wft_c68_q_v35), .second, .val (.int (1 : Int32)), .val (.int wft_v139), .val (.int wft_v149), .val (.int wft_v160), .unset, .unset, .unset] [(.int wft_v160), (.ref bwft6)])) rfl (by rw [hml]; rfl) (Steps.refl _) (argsL := [(.int wft_v160)]) (rest := []) (lenOf own_pd_28I29D rfl) rfl (by show 2 * 0 + _ ≤ _; exact Nat.le_of_eq rfl) (hb hby at_173) (fun _ _ => ⟨rfl, rfl, (by decide : 3 + 0 ≤ _), (by decide : 9 + 0 ≤ _)⟩)
  dsimp only [Pt.U, Pt.locs, Pt.cells, Pt.slots] at Xwft7 lwft7 ywft7 zwft7 stwft7 hQwft7
  rw [lwft7, ywft7, zwft7] at Xwft7
  obtain ⟨rfl, Nwft7q, ewft7⟩ := hQwft7
  have Nwft7 := Fr.app Nwft6 Nwft7q
  obtain ⟨fs, hr, hrun, hended, hW, hsame⟩ := Xwft7.leave (v := some (.int (1 : Int32))) (fun h => by rw [Bd.returns] at h; cases h)
  refine ⟨_, _, pre0 _ ?_, hrun, hended, _, _, rfl, ?_, ⟨_, rfl⟩, hW, hsame.mono (by decide) (by decide)⟩
  · refine own_s_iloadN X0.here hx (hb hby at_0) (pc' := 1) rfl rfl ?_
    refine own_s_sipush X0.here hx (hb hby at_1) (pc' := 4) rfl (v := (255 : Int32)) (by decide) ?_
    refine own_s_iand X0.here hx (hb hby at_4) (pc' := 5) rfl (v := wft_v4) wft_hv4 ?_
    refine own_s_i2d X0.here hx (hb hby at_5) (pc' := 6) rfl (v := (FP.i2d wft_v4)) rfl ?_
    refine X0.ldc2DoubleC hx hown (mvT hZ (hw _ (List.mem_of_getElem? (i := 0) rfl))) (g := (mkF m 6 #[.val (.int p0), .val (.int p1), .val (.int p2), .val (.int p3), .unset, .unset, .unset, .unset, .unset, .unset, .unset, .unset, .unset, .unset, .unset, .unset, .unset, .unset, .unset, .unset, .unset] [(.double (FP.i2d wft_v4))])) rfl (hb hby at_6) _ ?_
    show Steps p.tables e below (s₁.setTop (mkF m 9 #[.val (.int p0), .val (.int p1), .val (.int p2), .val (.int p3), .unset, .unset, .unset, .unset, .unset, .unset, .unset, .unset, .unset, .unset, .unset, .unset, .unset, .unset, .unset, .unset, .unset] [(.double (4616189618054758400 : UInt64)), (.double (FP.i2d wft_v4))])) _
    refine own_s_ddiv X0.here hx (hb hby at_9) (pc' := 10) rfl wft_hn9 (v := wft_v9) wft_hv9 ?_
    refine own_s_dstore X0.here hx (hb hby at_10) (pc' := 12) rfl (L' := #[.val (.int p0), .val (.int p1), .val (.int p2), .val (.int p3), .val (.double wft_v9), .second, .unset, .unset, .unset, .unset, .unset, .unset, .unset, .unset, .unset, .unset, .unset, .unset, .unset, .unset, .unset]) rfl ?_
    refine own_s_iloadN X0.here hx (hb hby at_12) (pc' := 13) rfl rfl ?_
    refine own_s_bipush X0.here hx (hb hby at_13) (pc' := 15) rfl (v := (8 : Int32)) (by decide) ?_
    refine own_s_iushr X0.here hx (hb hby at_15) (pc' := 16) rfl (v := wft_v15) wft_hv15 ?_
    refine own_s_iconst X0.here hx (hb hby at_16) (pc' := 17) rfl (v := (3 : Int32)) (by decide) ?_
    refine own_s_iand X0.here hx (hb hby at_17) (pc' := 18) rfl (v := wft_v17) wft_hv17 ?_
    refine own_s_i2d X0.here hx (hb hby at_18) (pc' := 19) rfl (v := (FP.i2d wft_v17)) rfl ?_
    refine X0.ldc2DoubleC hx hown (mvT hZ (hw _ (List.mem_of_getElem? (i := 0) rfl))) (g := (mkF m 19 #[.val (.int p0), .val (.int p1), .val (.int p2), .val (.int p3), .val (.double wft_v9), .second, .unset, .unset, .unset, .unset, .unset, .unset, .unset, .unset, .unset, .unset, .unset, .unset, .unset, .unset, .unset] [(.double (FP.i2d wft_v17))])) rfl (hb hby at_19) _ ?_
    show Steps p.tables e below (s₁.setTop (mkF m 22 #[.val (.int p0), .val (.int p1), .val (.int p2), .val (.int p3), .val (.double wft_v9), .second, .unset, .unset, .unset, .unset, .unset, .unset, .unset, .unset, .unset, .unset, .unset, .unset, .unset, .unset, .unset] [(.double (4616189618054758400 : UInt64)), (.double (FP.i2d wft_v17))])) _
    refine own_s_ddiv X0.here hx (hb hby at_22) (pc' := 23) rfl wft_hn22 (v := wft_v22) wft_hv22 ?_
    refine own_s_dstore X0.here hx (hb hby at_23) (pc' := 25) rfl (L' := #[.val (.int p0), .val (.int p1), .val (.int p2), .val (.int p3), .val (.double wft_v9), .second, .val (.double wft_v22), .second, .unset, .unset, .unset, .unset, .unset, .unset, .unset, .unset, .unset, .unset, .unset, .unset, .unset]) rfl ?_
    refine stwft1 _ ?_
    show Steps p.tables e below (Twft1.setTop (mkF m 28 #[.val (.int p0), .val (.int p1), .val (.int p2), .val (.int p3), .val (.double wft_v9), .second, .val (.double wft_v22), .second, .unset, .unset, .unset, .unset, .unset, .unset, .unset, .unset, .unset, .unset, .unset, .unset, .unset] [(.ref bwft1)])) _
    refine own_s_dup Xwft1.here hx (hb hby at_28) (pc' := 29) rfl rfl ?_
    refine own_s_dload Xwft1.here hx (hb hby at_29) (pc' := 31) rfl rfl ?_
    refine own_s_dload Xwft1.here hx (hb hby at_31) (pc' := 33) rfl rfl ?_
    refine stwft2.trans ?_
    show Steps p.tables e below (Twft2.setTop (mkF m 36 #[.val (.int p0), .val (.int p1), .val (.int p2), .val (.int p3), .val (.double wft_v9), .second, .val (.double wft_v22), .second, .unset, .unset, .unset, .unset, .unset, .unset, .unset, .unset, .unset, .unset, .unset, .unset, .unset] [(.ref bwft1)])) _
    refine own_s_astore Xwft2.here hx (hb hby at_36) (pc' := 38) rfl rfl (L' := #[.val (.int p0), .val (.int p1), .val (.int p2), .val (.int p3), .val (.double wft_v9), .second, .val (.double wft_v22), .second, .val (.ref bwft1), .unset, .unset, .unset, .unset, .unset, .unset, .unset, .unset, .unset, .unset, .unset, .unset]) rfl ?_
    refine own_s_iloadN Xwft2.here hx (hb hby at_38) (pc' := 39) rfl rfl ?_
    refine Xwft2.ldcInt hx hown (mvT hZ (hw _ (List.mem_of_getElem? (i := 20) rfl))) (g := (mkF m 39 #[.val (.int p0), .val (.int p1), .val (.int p2), .val (.int p3), .val (.double wft_v9), .second, .val (.double wft_v22), .second, .val (.ref bwft1), .unset, .unset, .unset, .unset, .unset, .unset, .unset, .unset, .unset, .unset, .unset, .unset] [(.int p0)])) rfl (hb hby at_39) _ ?_
    show Steps p.tables e below (Twft2.setTop (mkF m 41 #[.val (.int p0), .val (.int p1), .val (.int p2), .val (.int p3), .val (.double wft_v9), .second, .val (.double wft_v22), .second, .val (.ref bwft1), .unset, .unset, .unset, .unset, .unset, .unset, .unset, .unset, .unset, .unset, .unset, .unset] [(.int (2147483647 : Int32)), (.int p0)])) _
    refine own_s_iand Xwft2.here hx (hb hby at_41) (pc' := 42) rfl (v := wft_v41) wft_hv41 ?_
    refine own_s_i2d Xwft2.here hx (hb hby at_42) (pc' := 43) rfl (v := (FP.i2d wft_v41)) rfl ?_
    refine Xwft2.ldc2DoubleC hx hown (mvT hZ (hw _ (List.mem_of_getElem? (i := 21) rfl))) (g := (mkF m 43 #[.val (.int p0), .val (.int p1), .val (.int p2), .val (.int p3), .val (.double wft_v9), .second, .val (.double wft_v22), .second, .val (.ref bwft1), .unset, .unset, .unset, .unset, .unset, .unset, .unset, .unset, .unset, .unset, .unset, .unset] [(.double (FP.i2d wft_v41))])) rfl (hb hby at_43) _ ?_
    show Steps p.tables e below (Twft2.setTop (mkF m 46 #[.val (.int p0), .val (.int p1), .val (.int p2), .val (.int p3), .val (.double wft_v9), .second, .val (.double wft_v22), .second, .val (.ref bwft1), .unset, .unset, .unset, .unset, .unset, .unset, .unset, .unset, .unset, .unset, .unset, .unset] [(.double (4620693217682128896 : UInt64)), (.double (FP.i2d wft_v41))])) _
    refine own_s_ddiv Xwft2.here hx (hb hby at_46) (pc' := 47) rfl wft_hn46 (v := wft_v46) wft_hv46 ?_
    refine own_s_dstore Xwft2.here hx (hb hby at_47) (pc' := 49) rfl (L' := #[.val (.int p0), .val (.int p1), .val (.int p2), .val (.int p3), .val (.double wft_v9), .second, .val (.double wft_v22), .second, .val (.ref bwft1), .val (.double wft_v46), .second, .unset, .unset, .unset, .unset, .unset, .unset, .unset, .unset, .unset, .unset]) rfl ?_
    refine own_s_iconst Xwft2.here hx (hb hby at_49) (pc' := 50) rfl (v := (1 : Int32)) (by decide) ?_
    refine own_s_iloadN Xwft2.here hx (hb hby at_50) (pc' := 51) rfl rfl ?_
    refine Xwft2.ldcInt hx hown (mvT hZ (hw _ (List.mem_of_getElem? (i := 20) rfl))) (g := (mkF m 51 #[.val (.int p0), .val (.int p1), .val (.int p2), .val (.int p3), .val (.double wft_v9), .second, .val (.double wft_v22), .second, .val (.ref bwft1), .val (.double wft_v46), .second, .unset, .unset, .unset, .unset, .unset, .unset, .unset, .unset, .unset, .unset] [(.int p1), (.int (1 : Int32))])) rfl (hb hby at_51) _ ?_
    show Steps p.tables e below (Twft2.setTop (mkF m 53 #[.val (.int p0), .val (.int p1), .val (.int p2), .val (.int p3), .val (.double wft_v9), .second, .val (.double wft_v22), .second, .val (.ref bwft1), .val (.double wft_v46), .second, .unset, .unset, .unset, .unset, .unset, .unset, .unset, .unset, .unset, .unset] [(.int (2147483647 : Int32)), (.int p1), (.int (1 : Int32))])) _
    refine own_s_iand Xwft2.here hx (hb hby at_53) (pc' := 54) rfl (v := wft_v53) wft_hv53 ?_
    refine stwft3 _ ?_
    show Steps p.tables e below (Twft3.setTop (mkF m 57 #[.val (.int p0), .val (.int p1), .val (.int p2), .val (.int p3), .val (.double wft_v9), .second, .val (.double wft_v22), .second, .val (.ref bwft1), .val (.double wft_v46), .second, .unset, .unset, .unset, .unset, .unset, .unset, .unset, .unset, .unset, .unset] [(.int (own_imax (1 : Int32) wft_v53))])) _
    refine own_s_istore Xwft3.here hx (hb hby at_57) (pc' := 59) rfl (L' := #[.val (.int p0), .val (.int p1), .val (.int p2), .val (.int p3), .val (.double wft_v9), .second, .val (.double wft_v22), .second, .val (.ref bwft1), .val (.double wft_v46), .second, .val (.int (own_imax (1 : Int32) wft_v53)), .unset, .unset, .unset, .unset, .unset, .unset, .unset, .unset, .unset]) rfl ?_
    refine own_s_aload Xwft3.here hx (hb hby at_59) (pc' := 61) rfl rfl rfl ?_
    refine own_s_dload Xwft3.here hx (hb hby at_61) (pc' := 63) rfl rfl ?_
    refine stwft4.trans ?_
    show Steps p.tables e below (Twft4.setTop (mkF m 66 #[.val (.int p0), .val (.int p1), .val (.int p2), .val (.int p3), .val (.double wft_v9), .second, .val (.double wft_v22), .second, .val (.ref bwft1), .val (.double wft_v46), .second, .val (.int (own_imax (1 : Int32) wft_v53)), .unset, .unset, .unset, .unset, .unset, .unset, .unset, .unset, .unset] [(.ref bwft4)])) _
    refine own_s_iload Xwft4.here hx (hb hby at_66) (pc' := 68) rfl rfl ?_
    refine stwft5.trans ?_
    show Steps p.tables e below (Twft5.setTop (mkF m 71 #[.val (.int p0), .val (.int p1), .val (.int p2), .val (.int p3), .val (.double wft_v9), .second, .val (.double wft_v22), .second, .val (.ref bwft1), .val (.double wft_v46), .second, .val (.int (own_imax (1 : Int32) wft_v53)), .unset, .unset, .unset, .unset, .unset, .unset, .unset, .unset, .unset] [(.double wft_c68_q_v35)])) _
    refine own_s_dstore Xwft5.here hx (hb hby at_71) (pc' := 73) rfl (L' := #[.val (.int p0), .val (.int p1), .val (.int p2), .val (.int p3), .val (.double wft_v9), .second, .val (.double wft_v22), .second, .val (.ref bwft1), .val (.double wft_v46), .second, .val (.int (own_imax (1 : Int32) wft_v53)), .val (.double wft_c68_q_v35), .second, .unset, .unset, .unset, .unset, .unset, .unset, .unset]) rfl ?_
    refine own_s_dload Xwft5.here hx (hb hby at_73) (pc' := 75) rfl rfl ?_
    refine own_s_dconst0 Xwft5.here hx (hb hby at_75) (pc' := 76) rfl  ?_
    refine own_s_dcmp Xwft5.here hx (hb hby at_76) (pc' := 77) rfl (v := (Op.cmpValue (FP.dcmp wft_v46 0) .l)) rfl ?_
    refine own_s_ifNo Xwft5.here hx (hb hby at_77) (pc' := 80) rfl wft_hb77 ?_
    refine own_s_iload Xwft5.here hx (hb hby at_80) (pc' := 82) rfl rfl ?_
    refine own_s_iconst Xwft5.here hx (hb hby at_82) (pc' := 83) rfl (v := (1 : Int32)) (by decide) ?_
    refine own_s_icmpYes Xwft5.here hx (hb hby at_83) (by decide) (pc' := 103) (by decide) wft_hb83 ?_
    refine own_s_dconst1 Xwft5.here hx (hb hby at_103) (pc' := 104) rfl  ?_
    refine own_s_dload Xwft5.here hx (hb hby at_104) (pc' := 106) rfl rfl ?_
    refine own_s_dcmp Xwft5.here hx (hb hby at_106) (pc' := 107) rfl (v := (-1 : Int32)) wft_hc106 ?_
    refine own_s_ifNo Xwft5.here hx (hb hby at_107) (pc' := 110) rfl (by decide) ?_
    refine own_s_dload Xwft5.here hx (hb hby at_110) (pc' := 112) rfl rfl ?_
    refine own_s_iload Xwft5.here hx (hb hby at_112) (pc' := 114) rfl rfl ?_
    refine own_s_i2d Xwft5.here hx (hb hby at_114) (pc' := 115) rfl (v := (FP.i2d (own_imax (1 : Int32) wft_v53))) rfl ?_
    refine own_s_dcmp Xwft5.here hx (hb hby at_115) (pc' := 116) rfl (v := (-1 : Int32)) wft_hc115 ?_
    refine own_s_ifNo Xwft5.here hx (hb hby at_116) (pc' := 119) rfl (by decide) ?_
    refine own_s_dload Xwft5.here hx (hb hby at_119) (pc' := 121) rfl rfl ?_
    refine own_s_dload Xwft5.here hx (hb hby at_121) (pc' := 123) rfl rfl ?_
    refine own_s_dconst1 Xwft5.here hx (hb hby at_123) (pc' := 124) rfl  ?_
    refine own_s_dadd Xwft5.here hx (hb hby at_124) (pc' := 125) rfl wft_hn124 (v := wft_v124) wft_hv124 ?_
    refine own_s_dcmp Xwft5.here hx (hb hby at_125) (pc' := 126) rfl (v := (-1 : Int32)) wft_hc125 ?_
    refine own_s_ifNo Xwft5.here hx (hb hby at_126) (pc' := 129) rfl (by decide) ?_
    refine own_s_iconst Xwft5.here hx (hb hby at_129) (pc' := 130) rfl (v := (1 : Int32)) (by decide) ?_
    refine own_s_goto Xwft5.here hx (hb hby at_130) (by decide) (pc' := 134) (by decide) ?_
    refine own_s_istore Xwft5.here hx (hb hby at_134) (pc' := 136) rfl (L' := #[.val (.int p0), .val (.int p1), .val (.int p2), .val (.int p3), .val (.double wft_v9), .second, .val (.double wft_v22), .second, .val (.ref bwft1), .val (.double wft_v46), .second, .val (.int (own_imax (1 : Int32) wft_v53)), .val (.double wft_c68_q_v35), .second, .val (.int (1 : Int32)), .unset, .unset, .unset, .unset, .unset, .unset]) rfl ?_
    refine own_s_iloadN Xwft5.here hx (hb hby at_136) (pc' := 137) rfl rfl ?_
    refine Xwft5.ldcInt hx hown (mvT hZ (hw _ (List.mem_of_getElem? (i := 37) rfl))) (g := (mkF m 137 #[.val (.int p0), .val (.int p1), .val (.int p2), .val (.int p3), .val (.double wft_v9), .second, .val (.double wft_v22), .second, .val (.ref bwft1), .val (.double wft_v46), .second, .val (.int (own_imax (1 : Int32) wft_v53)), .val (.double wft_c68_q_v35), .second, .val (.int (1 : Int32)), .unset, .unset, .unset, .unset, .unset, .unset] [(.int p3)])) rfl (hb hby at_137) _ ?_
    show Steps p.tables e below (Twft5.setTop (mkF m 139 #[.val (.int p0), .val (.int p1), .val (.int p2), .val (.int p3), .val (.double wft_v9), .second, .val (.double wft_v22), .second, .val (.ref bwft1), .val (.double wft_v46), .second, .val (.int (own_imax (1 : Int32) wft_v53)), .val (.double wft_c68_q_v35), .second, .val (.int (1 : Int32)), .unset, .unset, .unset, .unset, .unset, .unset] [(.int (65535 : Int32)), (.int p3)])) _
    refine own_s_iand Xwft5.here hx (hb hby at_139) (pc' := 140) rfl (v := wft_v139) wft_hv139 ?_
    refine own_s_istore Xwft5.here hx (hb hby at_140) (pc' := 142) rfl (L' := #[.val (.int p0), .val (.int p1), .val (.int p2), .val (.int p3), .val (.double wft_v9), .second, .val (.double wft_v22), .second, .val (.ref bwft1), .val (.double wft_v46), .second, .val (.int (own_imax (1 : Int32) wft_v53)), .val (.double wft_c68_q_v35), .second, .val (.int (1 : Int32)), .val (.int wft_v139), .unset, .unset, .unset, .unset, .unset]) rfl ?_
    refine own_s_iloadN Xwft5.here hx (hb hby at_142) (pc' := 143) rfl rfl ?_
    refine own_s_bipush Xwft5.here hx (hb hby at_143) (pc' := 145) rfl (v := (16 : Int32)) (by decide) ?_
    refine own_s_iushr Xwft5.here hx (hb hby at_145) (pc' := 146) rfl (v := wft_v145) wft_hv145 ?_
    refine own_s_sipush Xwft5.here hx (hb hby at_146) (pc' := 149) rfl (v := (32767 : Int32)) (by decide) ?_
    refine own_s_iand Xwft5.here hx (hb hby at_149) (pc' := 150) rfl (v := wft_v149) wft_hv149 ?_
    refine own_s_istore Xwft5.here hx (hb hby at_150) (pc' := 152) rfl (L' := #[.val (.int p0), .val (.int p1), .val (.int p2), .val (.int p3), .val (.double wft_v9), .second, .val (.double wft_v22), .second, .val (.ref bwft1), .val (.double wft_v46), .second, .val (.int (own_imax (1 : Int32) wft_v53)), .val (.double wft_c68_q_v35), .second, .val (.int (1 : Int32)), .val (.int wft_v139), .val (.int wft_v149), .unset, .unset, .unset, .unset]) rfl ?_
    refine own_s_iconst Xwft5.here hx (hb hby at_152) (pc' := 153) rfl (v := (1 : Int32)) (by decide) ?_
    refine own_s_iload Xwft5.here hx (hb hby at_153) (pc' := 155) rfl rfl ?_
    refine own_s_iload Xwft5.here hx (hb hby at_155) (pc' := 157) rfl rfl ?_
    refine own_s_iconst Xwft5.here hx (hb hby at_157) (pc' := 158) rfl (v := (1 : Int32)) (by decide) ?_
    refine own_s_iadd Xwft5.here hx (hb hby at_158) (pc' := 159) rfl (v := wft_v158) wft_hv158 ?_
    refine own_s_imul Xwft5.here hx (hb hby at_159) (pc' := 160) rfl (v := wft_v159) wft_hv159 ?_
    refine own_s_iadd Xwft5.here hx (hb hby at_160) (pc' := 161) rfl (v := wft_v160) wft_hv160 ?_
    refine own_s_istore Xwft5.here hx (hb hby at_161) (pc' := 163) rfl (L' := #[.val (.int p0), .val (.int p1), .val (.int p2), .val (.int p3), .val (.double wft_v9), .second, .val (.double wft_v22), .second, .val (.ref bwft1), .val (.double wft_v46), .second, .val (.int (own_imax (1 : Int32) wft_v53)), .val (.double wft_c68_q_v35), .second, .val (.int (1 : Int32)), .val (.int wft_v139), .val (.int wft_v149), .val (.int wft_v160), .unset, .unset, .unset]) rfl ?_
    refine own_s_aload Xwft5.here hx (hb hby at_163) (pc' := 165) rfl rfl rfl ?_
    refine own_s_iload Xwft5.here hx (hb hby at_165) (pc' := 167) rfl rfl ?_
    refine own_s_i2d Xwft5.here hx (hb hby at_167) (pc' := 168) rfl (v := (FP.i2d wft_v139)) rfl ?_
    refine stwft6.trans ?_
    show Steps p.tables e below (Twft6.setTop (mkF m 171 #[.val (.int p0), .val (.int p1), .val (.int p2), .val (.int p3), .val (.double wft_v9), .second, .val (.double wft_v22), .second, .val (.ref bwft1), .val (.double wft_v46), .second, .val (.int (own_imax (1 : Int32) wft_v53)), .val (.double wft_c68_q_v35), .second, .val (.int (1 : Int32)), .val (.int wft_v139), .val (.int wft_v149), .val (.int wft_v160), .unset, .unset, .unset] [(.ref bwft6)])) _
    refine own_s_iload Xwft6.here hx (hb hby at_171) (pc' := 173) rfl rfl ?_
    refine stwft7.trans ?_
    show Steps p.tables e below (Twft7.setTop (mkF m 176 #[.val (.int p0), .val (.int p1), .val (.int p2), .val (.int p3), .val (.double wft_v9), .second, .val (.double wft_v22), .second, .val (.ref bwft1), .val (.double wft_v46), .second, .val (.int (own_imax (1 : Int32) wft_v53)), .val (.double wft_c68_q_v35), .second, .val (.int (1 : Int32)), .val (.int wft_v139), .val (.int wft_v149), .val (.int wft_v160), .unset, .unset, .unset] [(.double wft_c173_q_v35)])) _
    refine own_s_dstore Xwft7.here hx (hb hby at_176) (pc' := 178) rfl (L' := #[.val (.int p0), .val (.int p1), .val (.int p2), .val (.int p3), .val (.double wft_v9), .second, .val (.double wft_v22), .second, .val (.ref bwft1), .val (.double wft_v46), .second, .val (.int (own_imax (1 : Int32) wft_v53)), .val (.double wft_c68_q_v35), .second, .val (.int (1 : Int32)), .val (.int wft_v139), .val (.int wft_v149), .val (.int wft_v160), .val (.double wft_c173_q_v35), .second, .unset]) rfl ?_
    refine own_s_dload Xwft7.here hx (hb hby at_178) (pc' := 180) rfl rfl ?_
    refine own_s_iload Xwft7.here hx (hb hby at_180) (pc' := 182) rfl rfl ?_
    refine own_s_i2d Xwft7.here hx (hb hby at_182) (pc' := 183) rfl (v := (FP.i2d wft_v160)) rfl ?_
    refine own_s_iload Xwft7.here hx (hb hby at_183) (pc' := 185) rfl rfl ?_
    refine own_s_iconst Xwft7.here hx (hb hby at_185) (pc' := 186) rfl (v := (1 : Int32)) (by decide) ?_
    refine own_s_iadd Xwft7.here hx (hb hby at_186) (pc' := 187) rfl (v := wft_v186) wft_hv186 ?_
    refine own_s_i2d Xwft7.here hx (hb hby at_187) (pc' := 188) rfl (v := (FP.i2d wft_v186)) rfl ?_
    refine own_s_ddiv Xwft7.here hx (hb hby at_188) (pc' := 189) rfl wft_hn188 (v := wft_v188) wft_hv188 ?_
    refine own_s_dcmp Xwft7.here hx (hb hby at_189) (pc' := 190) rfl (v := (0 : Int32)) wft_hc189 ?_
    refine own_s_ifNo Xwft7.here hx (hb hby at_190) (pc' := 193) rfl (by decide) ?_
    refine own_s_iconst Xwft7.here hx (hb hby at_193) (pc' := 194) rfl (v := (1 : Int32)) (by decide) ?_
    refine own_s_goto Xwft7.here hx (hb hby at_194) (by decide) (pc' := 198) (by decide) ?_
    refine own_s_istore Xwft7.here hx (hb hby at_198) (pc' := 200) rfl (L' := #[.val (.int p0), .val (.int p1), .val (.int p2), .val (.int p3), .val (.double wft_v9), .second, .val (.double wft_v22), .second, .val (.ref bwft1), .val (.double wft_v46), .second, .val (.int (own_imax (1 : Int32) wft_v53)), .val (.double wft_c68_q_v35), .second, .val (.int (1 : Int32)), .val (.int wft_v139), .val (.int wft_v149), .val (.int wft_v160), .val (.double wft_c173_q_v35), .second, .val (.int (1 : Int32))]) rfl ?_
    refine own_s_iload Xwft7.here hx (hb hby at_200) (pc' := 202) rfl rfl ?_
    refine own_s_ifNo Xwft7.here hx (hb hby at_202) (pc' := 205) rfl (by decide) ?_
    refine own_s_iload Xwft7.here hx (hb hby at_205) (pc' := 207) rfl rfl ?_
    refine own_s_ifNo Xwft7.here hx (hb hby at_207) (pc' := 210) rfl (by decide) ?_
    refine own_s_iconst Xwft7.here hx (hb hby at_210) (pc' := 211) rfl (v := (1 : Int32)) (by decide) ?_
    refine own_s_goto Xwft7.here hx (hb hby at_211) (by decide) (pc' := 215) (by decide) ?_
    exact retN Xwft7 hx (t := .boolean) Bd.returns (by simp) (hb hby at_215) hr
  · show own_Q0 n0 _ Twft7.heap _
    rw [ewft7]
    exact ⟨rfl, Nwft7⟩
set_option maxRecDepth 65536 in
set_option maxHeartbeats 40000000 in
theorem own_rm0 (l : Launch) (Z : State) (a0 : Array Value) (hw : ∀ d ∈ tables_1, d.before a0 Z = true) (ws : List Jvm.Cond) (p0 : Int32) (p1 : Int32) (p2 : Int32) (p3 : Int32) (h0 : Heap) (n0 : Nat) (Z0 : n0 ≤ h0.size)  :
    MetFree l x (head1 (Jvm.Cond.code x code maxLocals ret :: ws) room_1) (fun a U => a = #[(.int p0), (.int p1), (.int p2), (.int p3)] ∧ Z.Warmed39 U.vm ∧ U.heap = h0) (fun _ _ _ _ _ => True) (fun _ U o U' => ∃ v L, o = .returned v ∧ own_Q0 n0 v U'.heap L ∧ FrameEnd U o U' L room_1.cells room_1.slots) := by
  obtain ⟨v4, h4⟩ : ∃ v, p2 &&& 255 = v := ⟨_, rfl⟩
  have bv4 : 0 ≤ v4.toInt ∧ v4.toInt ≤ 255 := by have := c_mask p2 255 8 (by decide) (by decide); rw [h4] at this; omega
  obtain ⟨v15, h15⟩ : ∃ v, (Int32.toUInt32 p2 >>> ((8 : Int32) &&& 31).toUInt32).toInt32 = v := ⟨_, rfl⟩
  obtain ⟨v17, h17⟩ : ∃ v, v15 &&& 3 = v := ⟨_, rfl⟩
  have bv17 : 0 ≤ v17.toInt ∧ v17.toInt ≤ 3 := by have := c_mask v15 3 2 (by decide) (by decide); rw [h17] at this; omega
  obtain ⟨v41, h41⟩ : ∃ v, p0 &&& 2147483647 = v := ⟨_, rfl⟩
  have bv41 : 0 ≤ v41.toInt ∧ v41.toInt ≤ 2147483647 := by have := c_mask p0 2147483647 31 (by decide) (by decide); rw [h41] at this; omega
  obtain ⟨v53, h53⟩ : ∃ v, p1 &&& 2147483647 = v := ⟨_, rfl⟩
  have bv53 : 0 ≤ v53.toInt ∧ v53.toInt ≤ 2147483647 := by have := c_mask p1 2147483647 31 (by decide) (by decide); rw [h53] at this; omega
  have i4 : own_Is 4616189618054758400 1 2 := ⟨(Jvm.FP.Core.fin_bits _).mpr (by decide), by decide, by decide +kernel⟩
  have i8 : own_Is 4620693217682128896 1 3 := ⟨(Jvm.FP.Core.fin_bits _).mpr (by decide), by decide, by decide +kernel⟩
  have j9 := own_div (own_i2d v4) i4 (by decide) (Int.mul_one _).symm (e := -2) (by decide) (by decide) (by decide) (by omega)
  obtain ⟨v9, h9⟩ : ∃ v, FP.ddiv (FP.i2d v4) 4616189618054758400 = v := ⟨_, rfl⟩
  have h9n : Jvm.Free.Fl.NoNaN64 (FP.ddiv (FP.i2d v4) 4616189618054758400) := own_nn j9
  rw [show Jvm.FP.Core.ddiv (Jvm.FP.Core.i2d v4) 4616189618054758400 = v9 from h9] at j9
  have j22 := own_div (own_i2d v17) i4 (by decide) (Int.mul_one _).symm (e := -2) (by decide) (by decide) (by decide) (by omega)
  obtain ⟨v22, h22⟩ : ∃ v, FP.ddiv (FP.i2d v17) 4616189618054758400 = v := ⟨_, rfl⟩
  have h22n : Jvm.Free.Fl.NoNaN64 (FP.ddiv (FP.i2d v17) 4616189618054758400) := own_nn j22
  rw [show Jvm.FP.Core.ddiv (Jvm.FP.Core.i2d v17) 4616189618054758400 = v22 from h22] at j22
  have j46 := own_div (own_i2d v41) i8 (by decide) (Int.mul_one _).symm (e := -3) (by decide) (by decide) (by decide) (by omega)
  obtain ⟨v46, h46⟩ : ∃ v, FP.ddiv (FP.i2d v41) 4620693217682128896 = v := ⟨_, rfl⟩
  have h46n : Jvm.Free.Fl.NoNaN64 (FP.ddiv (FP.i2d v41) 4620693217682128896) := own_nn j46
  rw [show Jvm.FP.Core.ddiv (Jvm.FP.Core.i2d v41) 4620693217682128896 = v46 from h46] at j46
  have o2 := own_shift 2 own_one (e' := -2) (by decide) (by decide)
  have e4 : (1 : Int) * ((2 ^ 2 : Nat) : Int) = 4 := by decide
  rw [e4] at o2
  have o3 := own_shift 3 own_one (e' := -3) (by decide) (by decide)
  have e8 : (1 : Int) * ((2 ^ 3 : Nat) : Int) = 8 := by decide
  rw [e8] at o3
  have f7 := own_c_ge j9 (by omega) .l
  have f15 := own_c_inf j9 .g
  have f35 := own_c_ge j22 (by omega) .l
  have f41 := own_c_le j22 o2 (by omega) .g
  have f62 := own_c_ge own_zero (by decide) .l
  have f71 := own_c_inf own_zero .g
  have g62 := own_c_ge j46 (by omega) .l
  have g71 := own_c_inf j46 .g
  have bq : 1 ≤ (own_imax 1 v53).toInt ∧ (own_imax 1 v53).toInt ≤ 2147483647 := by
    unfold own_imax
    by_cases h : (1 : Int32) < v53
    · rw [if_pos h]; have := Int32.lt_iff_toInt_lt.mp h; have e1 : (1 : Int32).toInt = 1 := by decide
      omega
    · rw [if_neg h]; decide
  have fq := own_ge1 bq.1
  have iq := own_i2d (own_imax 1 v53)
  have iq3 := own_shift 3 iq (e' := -3) (by decide) (by decide)
  have p8 : ((2 ^ 3 : Nat) : Int) = 8 := by decide
  rw [p8] at iq3
  have k27 := own_add j46 iq3 (by decide) (by omega)
  obtain ⟨w27, h27⟩ : ∃ v, FP.dadd v46 (FP.i2d (own_imax 1 v53)) = v := ⟨_, rfl⟩
  have h27n : Jvm.Free.Fl.NoNaN64 (FP.dadd v46 (FP.i2d (own_imax 1 v53))) := own_nn k27
  rw [show Jvm.FP.Core.dadd v46 (Jvm.FP.Core.i2d (own_imax 1 v53)) = w27 from h27] at k27
  have k33 := own_add j46 o3 (by decide) (by omega)
  obtain ⟨w33, h33⟩ : ∃ v, FP.dadd v46 4607182418800017408 = v := ⟨_, rfl⟩
  have h33n : Jvm.Free.Fl.NoNaN64 (FP.dadd v46 4607182418800017408) := own_nn k33
  rw [show Jvm.FP.Core.dadd v46 4607182418800017408 = w33 from h33] at k33
  obtain ⟨w34, h34⟩ : ∃ v, FP.ddiv w27 w33 = v := ⟨_, rfl⟩
  have h34n : Jvm.Free.Fl.NoNaN64 (FP.ddiv w27 w33) := own_div_nn k27 k33 (by omega)
  obtain ⟨v139, h139⟩ : ∃ v, p3 &&& 65535 = v := ⟨_, rfl⟩
  have bv139 : 0 ≤ v139.toInt ∧ v139.toInt ≤ 65535 := by have := c_mask p3 65535 16 (by decide) (by decide); rw [h139] at this; omega
  obtain ⟨v145, h145⟩ : ∃ v, (Int32.toUInt32 p3 >>> ((16 : Int32) &&& 31).toUInt32).toInt32 = v := ⟨_, rfl⟩
  obtain ⟨v149, h149⟩ : ∃ v, v145 &&& 32767 = v := ⟨_, rfl⟩
  have bv149 : 0 ≤ v149.toInt ∧ v149.toInt ≤ 32767 := by have := c_mask v145 32767 15 (by decide) (by decide); rw [h149] at this; omega
  obtain ⟨v158, h158⟩ : ∃ v, v139 + 1 = v := ⟨_, rfl⟩
  obtain ⟨v159, h159⟩ : ∃ v, v149 * v158 = v := ⟨_, rfl⟩
  obtain ⟨v160, h160⟩ : ∃ v, 1 + v159 = v := ⟨_, rfl⟩
  obtain ⟨v186, h186⟩ : ∃ v, v149 + 1 = v := ⟨_, rfl⟩
  have L1 : own_I (1 : Int32) 1 1 := ⟨by decide, by decide, by decide⟩
  have L139 : own_I v139 v139.toInt 65535 := ⟨rfl, by omega, by omega⟩
  have L149 : own_I v149 v149.toInt 32767 := ⟨rfl, by omega, by omega⟩
  have L158 := own_Iadd h158 L139 L1 (by decide)
  have L159 := own_Imul h159 L149 L158 (by decide)
  have L160 := own_Iadd h160 L1 L159 (by decide)
  have L186 := own_Iadd h186 L149 L1 (by decide)
  have hmk : 0 ≤ v149.toInt * (v139.toInt + 1) := Int.mul_nonneg (by omega) (by omega)
  have q160 : 1 ≤ v160.toInt := by rw [L160.1]; omega
  have fq2 := own_ge1 q160
  have i139 := own_i2d v139
  have i160 := own_i2d v160
  have i186 := own_i2d v186
  have u62 := own_c_ge i139 (by omega) .l
  have u71 := own_c_inf i139 .g
  have b160 : v160.toInt ≤ 2147418113 := by have := L160.2.2; rw [L160.1]; omega
  have x27 := own_add i139 i160 (by decide) (by omega)
  obtain ⟨z27, y27⟩ : ∃ v, FP.dadd (FP.i2d v139) (FP.i2d v160) = v := ⟨_, rfl⟩
  have y27n : Jvm.Free.Fl.NoNaN64 (FP.dadd (FP.i2d v139) (FP.i2d v160)) := own_nn x27
  rw [show Jvm.FP.Core.dadd (Jvm.FP.Core.i2d v139) (Jvm.FP.Core.i2d v160) = z27 from y27] at x27
  have x33 := own_add i139 own_one (by decide) (by omega)
  obtain ⟨z33, y33⟩ : ∃ v, FP.dadd (FP.i2d v139) 4607182418800017408 = v := ⟨_, rfl⟩
  have y33n : Jvm.Free.Fl.NoNaN64 (FP.dadd (FP.i2d v139) 4607182418800017408) := own_nn x33
  rw [show Jvm.FP.Core.dadd (Jvm.FP.Core.i2d v139) 4607182418800017408 = z33 from y33] at x33
  have hmul : v139.toInt + v160.toInt = (v149.toInt + 1) * (v139.toInt + 1) := by rw [L160.1, Int.add_mul]; omega
  have x34 := own_div x27 x33 (by omega) hmul (e := 0) (by decide) (by decide) (by decide) (by omega)
  obtain ⟨z34, y34⟩ : ∃ v, FP.ddiv z27 z33 = v := ⟨_, rfl⟩
  have y34n : Jvm.Free.Fl.NoNaN64 (FP.ddiv z27 z33) := own_nn x34
  rw [show Jvm.FP.Core.ddiv z27 z33 = z34 from y34] at x34
  obtain ⟨z35, y35⟩ : ∃ v, FP.ddiv (FP.i2d v160) z34 = v := ⟨_, rfl⟩
  have y35n : Jvm.Free.Fl.NoNaN64 (FP.ddiv (FP.i2d v160) z34) := own_div_nn i160 x34 (by omega)
  obtain ⟨z188, y188⟩ : ∃ v, FP.ddiv (FP.i2d v160) (FP.i2d v186) = v := ⟨_, rfl⟩
  have y188n : Jvm.Free.Fl.NoNaN64 (FP.ddiv (FP.i2d v160) (FP.i2d v186)) := own_div_nn i160 i186 (by rw [L186.1]; omega)
  have same : Jvm.FP.Core.val64 z35 = Jvm.FP.Core.val64 z188 := by
    rw [← y35, ← y188]
    exact own_div_same i160 x34 i160 i186 (by omega) (by omega) (by omega) (by rw [L186.1]; omega) (by rw [L186.1])
  have f189 : Op.cmpValue (FP.dcmp z35 z188) .l = 0 := own_cmp_same same (y35 ▸ y35n) _
  by_cases c1 : v41.toInt = 0
  · have f77 : ifCond.holds .eq (Op.cmpValue (FP.dcmp v46 0) .l) = true := by rw [(own_cmpv j46 (own_zeroE (-3) (by decide)) .l).2.1 c1]; decide
    have k34 := own_div k27 k33 (by omega) (N := (own_imax 1 v53).toInt) (by rw [c1]; omega) (e := 0) (by decide) (by decide) (by decide) (by omega)
    rw [show Jvm.FP.Core.ddiv w27 w33 = w34 from h34] at k34
    have k35 := own_div iq k34 (by omega) (N := 1) (by omega) (e := 0) (by decide) (by decide) (by decide) (by decide)
    obtain ⟨w35, h35⟩ : ∃ v, FP.ddiv (FP.i2d (own_imax 1 v53)) w34 = v := ⟨_, rfl⟩
    have h35n : Jvm.Free.Fl.NoNaN64 (FP.ddiv (FP.i2d (own_imax 1 v53)) w34) := own_nn k35
    rw [show Jvm.FP.Core.ddiv (Jvm.FP.Core.i2d (own_imax 1 v53)) w34 = w35 from h35] at k35
    have f89 : Op.cmpValue (FP.dcmp w35 4607182418800017408) .l = 0 := own_eq0 k35 own_one rfl _
    exact own_rm_wt l Z a0 hw ws p0 p1 p2 p3 h0 n0 Z0 (wt_hv4 := h4) (wt_hn9 := h9n) (wt_hv9 := h9) (wt_hv15 := h15) (wt_hv17 := h17) (wt_hn22 := h22n) (wt_hv22 := h22) (wt_c33_j_c4_i_hb7 := f7) (wt_c33_j_c4_i_hb15 := f15) (wt_c33_j_c4_i_hb35 := f35) (wt_c33_j_c4_i_hb41 := f41) (wt_c33_j_c4_i_hb62 := f62) (wt_c33_j_c4_i_hb71 := f71) (wt_hv41 := h41) (wt_hn46 := h46n) (wt_hv46 := h46) (wt_hv53 := h53) (wt_c63_k_c13_i_hb7 := f7) (wt_c63_k_c13_i_hb15 := f15) (wt_c63_k_c13_i_hb35 := f35) (wt_c63_k_c13_i_hb41 := f41) (wt_c63_k_c13_i_hb62 := g62) (wt_c63_k_c13_i_hb71 := g71) (wt_c68_q_hb2 := fq) (wt_c68_q_hn27 := h27n) (wt_c68_q_hv27 := h27) (wt_c68_q_hn33 := h33n) (wt_c68_q_hv33 := h33) (wt_c68_q_hn34 := h34n) (wt_c68_q_hv34 := h34) (wt_c68_q_hn35 := h35n) (wt_c68_q_hv35 := h35) (wt_hb77 := f77) (wt_hc89 := f89) (wt_hv139 := h139) (wt_hv145 := h145) (wt_hv149 := h149) (wt_hv158 := h158) (wt_hv159 := h159) (wt_hv160 := h160) (wt_c168_k_c13_i_hb7 := f7) (wt_c168_k_c13_i_hb15 := f15) (wt_c168_k_c13_i_hb35 := f35) (wt_c168_k_c13_i_hb41 := f41) (wt_c168_k_c13_i_hb62 := u62) (wt_c168_k_c13_i_hb71 := u71) (wt_c173_q_hb2 := fq2) (wt_c173_q_hn27 := y27n) (wt_c173_q_hv27 := y27) (wt_c173_q_hn33 := y33n) (wt_c173_q_hv33 := y33) (wt_c173_q_hn34 := y34n) (wt_c173_q_hv34 := y34) (wt_c173_q_hn35 := y35n) (wt_c173_q_hv35 := y35) (wt_hv186 := h186) (wt_hn188 := y188n) (wt_hv188 := y188) (wt_hc189 := f189)
  · have f77 : ifCond.holds .eq (Op.cmpValue (FP.dcmp v46 0) .l) = false := by rw [(own_cmpv j46 (own_zeroE (-3) (by decide)) .l).2.2 (by omega)]; decide
    by_cases c2 : own_imax 1 v53 = 1
    · have f83 : if_icmp.holds .ne (own_imax 1 v53) 1 = false := XT.ii_ne_f c2
      have c3 : (own_imax 1 v53).toInt = 1 := by rw [c2]; decide
      have k34 := own_div k27 k33 (by omega) (N := 1) (by rw [c3]; omega) (e := 0) (by decide) (by decide) (by decide) (by decide)
      rw [show Jvm.FP.Core.ddiv w27 w33 = w34 from h34] at k34
      have k35 := own_div iq k34 (by decide) (N := 1) (by omega) (e := 0) (by decide) (by decide) (by decide) (by decide)
      obtain ⟨w35, h35⟩ : ∃ v, FP.ddiv (FP.i2d (own_imax 1 v53)) w34 = v := ⟨_, rfl⟩
      have h35n : Jvm.Free.Fl.NoNaN64 (FP.ddiv (FP.i2d (own_imax 1 v53)) w34) := own_nn k35
      rw [show Jvm.FP.Core.ddiv (Jvm.FP.Core.i2d (own_imax 1 v53)) w34 = w35 from h35] at k35
      have f89 : Op.cmpValue (FP.dcmp w35 4607182418800017408) .l = 0 := own_eq0 k35 own_one rfl _
      exact own_rm_wff l Z a0 hw ws p0 p1 p2 p3 h0 n0 Z0 (wff_hv4 := h4) (wff_hn9 := h9n) (wff_hv9 := h9) (wff_hv15 := h15) (wff_hv17 := h17) (wff_hn22 := h22n) (wff_hv22 := h22) (wff_c33_j_c4_i_hb7 := f7) (wff_c33_j_c4_i_hb15 := f15) (wff_c33_j_c4_i_hb35 := f35) (wff_c33_j_c4_i_hb41 := f41) (wff_c33_j_c4_i_hb62 := f62) (wff_c33_j_c4_i_hb71 := f71) (wff_hv41 := h41) (wff_hn46 := h46n) (wff_hv46 := h46) (wff_hv53 := h53) (wff_c63_k_c13_i_hb7 := f7) (wff_c63_k_c13_i_hb15 := f15) (wff_c63_k_c13_i_hb35 := f35) (wff_c63_k_c13_i_hb41 := f41) (wff_c63_k_c13_i_hb62 := g62) (wff_c63_k_c13_i_hb71 := g71) (wff_c68_q_hb2 := fq) (wff_c68_q_hn27 := h27n) (wff_c68_q_hv27 := h27) (wff_c68_q_hn33 := h33n) (wff_c68_q_hv33 := h33) (wff_c68_q_hn34 := h34n) (wff_c68_q_hv34 := h34) (wff_c68_q_hn35 := h35n) (wff_c68_q_hv35 := h35) (wff_hb77 := f77) (wff_hb83 := f83) (wff_hc89 := f89) (wff_hv139 := h139) (wff_hv145 := h145) (wff_hv149 := h149) (wff_hv158 := h158) (wff_hv159 := h159) (wff_hv160 := h160) (wff_c168_k_c13_i_hb7 := f7) (wff_c168_k_c13_i_hb15 := f15) (wff_c168_k_c13_i_hb35 := f35) (wff_c168_k_c13_i_hb41 := f41) (wff_c168_k_c13_i_hb62 := u62) (wff_c168_k_c13_i_hb71 := u71) (wff_c173_q_hb2 := fq2) (wff_c173_q_hn27 := y27n) (wff_c173_q_hv27 := y27) (wff_c173_q_hn33 := y33n) (wff_c173_q_hv33 := y33) (wff_c173_q_hn34 := y34n) (wff_c173_q_hv34 := y34) (wff_c173_q_hn35 := y35n) (wff_c173_q_hv35 := y35) (wff_hv186 := h186) (wff_hn188 := y188n) (wff_hv188 := y188) (wff_hc189 := f189)
    · have f83 : if_icmp.holds .ne (own_imax 1 v53) 1 = true := XT.ii_ne_t c2
      have c3 : 2 ≤ (own_imax 1 v53).toInt := by
        rcases Int.lt_or_eq_of_le bq.1 with h | h
        · omega
        · exact absurd (Int32.toInt_inj.mp (by rw [← h]; decide)) c2
      obtain ⟨d34, d35, ρ, zr, t1, t2, t3⟩ := own_qtf k27 k33 iq (by omega) (by omega)
      obtain ⟨w35, h35⟩ : ∃ v, FP.ddiv (FP.i2d (own_imax 1 v53)) w34 = v := ⟨_, rfl⟩
      rw [show Jvm.FP.Core.ddiv w27 w33 = w34 from h34] at d34 d35 zr
      have h35n : Jvm.Free.Fl.NoNaN64 (FP.ddiv (FP.i2d (own_imax 1 v53)) w34) := Jvm.Free.Fl.noNaN64_no.mpr d35.notNaN
      rw [show Jvm.FP.Core.ddiv (Jvm.FP.Core.i2d (own_imax 1 v53)) w34 = w35 from h35] at d35 zr
      rw [← zr] at t1 t2 t3
      have f106 : Op.cmpValue (FP.dcmp 4607182418800017408 w35) .g = -1 := own_zlt own_one.1 d35 t1 _
      have f115 : Op.cmpValue (FP.dcmp w35 (FP.i2d (own_imax 1 v53))) .g = -1 := own_zlt d35 iq.1 t2 _
      have f125 : Op.cmpValue (FP.dcmp w35 w33) .g = -1 := own_zlt d35 k33.1 t3 _
      exact own_rm_wft l Z a0 hw ws p0 p1 p2 p3 h0 n0 Z0 (wft_hv4 := h4) (wft_hn9 := h9n) (wft_hv9 := h9) (wft_hv15 := h15) (wft_hv17 := h17) (wft_hn22 := h22n) (wft_hv22 := h22) (wft_c33_j_c4_i_hb7 := f7) (wft_c33_j_c4_i_hb15 := f15) (wft_c33_j_c4_i_hb35 := f35) (wft_c33_j_c4_i_hb41 := f41) (wft_c33_j_c4_i_hb62 := f62) (wft_c33_j_c4_i_hb71 := f71) (wft_hv41 := h41) (wft_hn46 := h46n) (wft_hv46 := h46) (wft_hv53 := h53) (wft_c63_k_c13_i_hb7 := f7) (wft_c63_k_c13_i_hb15 := f15) (wft_c63_k_c13_i_hb35 := f35) (wft_c63_k_c13_i_hb41 := f41) (wft_c63_k_c13_i_hb62 := g62) (wft_c63_k_c13_i_hb71 := g71) (wft_c68_q_hb2 := fq) (wft_c68_q_hn27 := h27n) (wft_c68_q_hv27 := h27) (wft_c68_q_hn33 := h33n) (wft_c68_q_hv33 := h33) (wft_c68_q_hn34 := h34n) (wft_c68_q_hv34 := h34) (wft_c68_q_hn35 := h35n) (wft_c68_q_hv35 := h35) (wft_hb77 := f77) (wft_hb83 := f83) (wft_hc106 := f106) (wft_hc115 := f115) (wft_hn124 := h33n) (wft_hv124 := h33) (wft_hc125 := f125) (wft_hv139 := h139) (wft_hv145 := h145) (wft_hv149 := h149) (wft_hv158 := h158) (wft_hv159 := h159) (wft_hv160 := h160) (wft_c168_k_c13_i_hb7 := f7) (wft_c168_k_c13_i_hb15 := f15) (wft_c168_k_c13_i_hb35 := f35) (wft_c168_k_c13_i_hb41 := f41) (wft_c168_k_c13_i_hb62 := u62) (wft_c168_k_c13_i_hb71 := u71) (wft_c173_q_hb2 := fq2) (wft_c173_q_hn27 := y27n) (wft_c173_q_hv27 := y27) (wft_c173_q_hn33 := y33n) (wft_c173_q_hv33 := y33) (wft_c173_q_hn34 := y34n) (wft_c173_q_hv34 := y34) (wft_c173_q_hn35 := y35n) (wft_c173_q_hv35 := y35) (wft_hv186 := h186) (wft_hn188 := y188n) (wft_hv188 := y188) (wft_hc189 := f189)
set_option maxRecDepth 65536 in
set_option maxHeartbeats 40000000 in
theorem comes_1 {Post : Tables → Env → Array Value → State → Outcome → State → Prop} (hpost : ∀ tb e args s v u, (limb_1_1.after args s (.returned v) u = true ∧ limb_1_2.after args s (.returned v) u = true ∧ True) → FrameEnd s (.returned v) u (Jvm.fieldLocs frame_1_writes args s ++ Jvm.arrayLocs frame_1_arrays args s ++ Jvm.staticLocs frame_1_statics s) 16 128 → Post tb e args s (.returned v) u) :
    ArmFor flags0 classFile x code maxLocals ret World_1 tables_1 room_1 Calls_1 rest_1 Pre_1 Post := by
  intro l hfl _ _ p e ha hc hk s m args below hf hA hF happ hP
  obtain ⟨hcalls, hrest, hpre⟩ := hP
  obtain ⟨-, -, -, hnamed, -, -, -, hat⟩ := (Spec.applies_iff hf).mp happ
  obtain ⟨hg, hn⟩ := and_e (Cond.before_iff.mp (show (Jvm.Cond.and given_1 narrow_1).before args s = true from hpre))
  obtain ⟨hcount, g0⟩ := and_e hg
  obtain ⟨a0, g1⟩ := and_e g0
  obtain ⟨a1, g2⟩ := and_e g1
  obtain ⟨a2, g3⟩ := and_e g2
  have a3 := g3
  obtain ⟨w0, w1, w2, w3, rfl⟩ : ∃ w0 w1 w2 w3 : Value, args = #[w0, w1, w2, w3] := by
    have hs : args.size = 4 := by simpa [Cond.value, given_1] using hcount
    obtain ⟨L⟩ := args
    match L, hs with
    | [w0, w1, w2, w3], _ => exact ⟨w0, w1, w2, w3, rfl⟩
  have hw := fun d (hd : d ∈ tables_1) => atoms_spec (ws := Jvm.Cond.code x code maxLocals ret :: tables_1) hat d (List.mem_cons_of_mem _ hd)
  obtain ⟨i0, ei0⟩ := is_v a0
  obtain rfl : w0 = (.int i0) := Option.some.inj ei0
  obtain ⟨i1, ei1⟩ := is_v a1
  obtain rfl : w1 = (.int i1) := Option.some.inj ei1
  obtain ⟨i2, ei2⟩ := is_v a2
  obtain rfl : w2 = (.int i2) := Option.some.inj ei2
  obtain ⟨i3, ei3⟩ := is_v a3
  obtain rfl : w3 = (.int i3) := Option.some.inj ei3
  obtain ⟨n, o, h1, h2, h3, _, L, rfl, ⟨rfl, N⟩, hq⟩ := own_rm0 l s _ hw tables_1 i0 i1 i2 i3 s.heap s.heap.size (Nat.le_refl _)  p e ha hc hk s m _ below hf ((Spec.applies_iff_loose hf).mp happ).1 ⟨rfl, State.Warmed39.refl s, rfl⟩ trivial
  refine ⟨n, _, h1, h2, h3, hpost _ _ _ _ _ _ ⟨Cond.after_iff.mpr rfl, Cond.after_iff.mpr (eq_i res_at (Term.int_eval (1)) rfl), trivial⟩ ⟨hq.1, hq.2.1, (hq.2.2.sift fun y hy => Or.inr (N y hy)).mono (by decide) (by decide)⟩⟩
theorem main_1_1 : Claimed_1_1 := comes_1 fun _ _ _ _ _ _ h hF => ⟨h.1, hF⟩
theorem main_1_2 : Claimed_1_2 := comes_1 fun _ _ _ _ _ _ h hF => ⟨h.2.1, hF⟩
end Jvm.Pilot.@@N@@
namespace Jvm.Pilot.@@N@@
open Jvm Jvm.ClassFile Sem Op Lib Jvm.Free Jvm.Stand Jvm.Pilot.@@N@@.Jvm.D
/-! MADE BY PROGRAM (witnessworld.py) out of the Statement's table words and the real class files: 10 classes; the members and pool entries that the words name. The judged class is class 1, her method 1. -/
namespace start1
open Jvm.ClassFile
def u (s : String) : CpInfo := .utf8 (stringToUtf16 s)
/-- a pool by its gaps: so many unusable entries, then the entry; so many at the end -/
def gap : Nat → List CpInfo → List CpInfo
  | 0, r => r
  | n + 1, r => .unusable :: gap n r
def poolList (es : List (Nat × CpInfo)) (last : Nat) : List CpInfo := es.foldr (fun e r => gap e.1 (e.2 :: r)) (gap last [])
def pool (es : List (Nat × CpInfo)) (last : Nat) : Array CpInfo := ⟨poolList es last⟩
def fileOf (pool : Array CpInfo) (this : Nat) (attrs : Array Attribute := #[]) (ms : Array MethodInfo := #[]) (fl : Nat := 33) (sup : Nat := 0) (ifs : Array Nat := #[]) (fds : Array FieldInfo := #[]) : ClassFile where
  minorVersion := 0
  majorVersion := 65
  constantPool := pool
  accessFlags := fl
  thisClass := this
  superClass := sup
  interfaces := ifs
  fields := fds
  methods := ms
  attributes := attrs
def plain (name : String) (sup : Option ClassId) : Class where
  name := name
  kind := .ordinary
  loader := none
  accessFlags := 33
  super := sup
  interfaces := #[]
  cf := none
  fields := #[]
  methods := #[]
  instanceTypes := #[]
  staticTypes := #[]
  resolved := #[]
  callSites := []
  init := .initialized
  statics := none
  mirror := none

def pool0 : Array CpInfo := pool [(5, u "<init>"), (0, u "()V"), (1, .class_ 10), (1, u "java/lang/Object")] 113

def k0c0 : Code := { maxStack := 0, maxLocals := 1, code := object_method_1_code, exceptionTable := #[], attributes := #[] }
def k0m0 : Method := { name := "<init>", desc := "()V", sig := { parameters := [], returnType := none }, accessFlags := 1, code := some k0c0 }
/-- java/lang/Object -/
def k0 : Class := { plain "java/lang/Object" none with
  accessFlags := 33
  interfaces := #[]
  cf := some (fileOf pool0 8 #[] #[{ accessFlags := 1, nameIndex := 5, descriptorIndex := 6, attributes := #[] }] 33 0 #[] #[])
  fields := #[]
  methods := #[k0m0]
  instanceTypes := #[]
  staticTypes := #[]
  resolved := Array.replicate 124 none
  statics := none }

def pool1 : Array CpInfo := pool [(2, .class_ 4), (1, u "java/lang/Object"), (0, u "<init>"), (0, u "()V"), (0, .double 4616189618054758400), (1, .class_ 10), (0, u "com/example/tally_odds/tallyodds/Bm25"), (0, .methodref 9 12), (0, .nameAndType 5 13), (0, u "(DD)V"), (0, .integer 2147483647), (0, .double 4620693217682128896), (1, .methodref 18 19), (0, .class_ 20), (0, .nameAndType 21 22), (0, u "java/lang/Math"), (0, u "max"), (0, u "(II)I"), (0, .methodref 9 24), (0, .nameAndType 25 26), (0, u "withK3"), (0, u "(D)Lcom/example/tally_odds/tallyodds/Bm25;"), (0, .methodref 9 28), (0, .nameAndType 29 30), (0, u "qtfPart"), (0, u "(I)D"), (0, .integer 65535), (0, .class_ 33), (0, u "com/example/tally_odds/tallyodds/Bm25QtfPartPinLaw"), (2, u "law"), (0, u "(IIII)Z")] 3

def k1m0 : Method := { name := "<init>", desc := "()V", sig := { parameters := [], returnType := none }, accessFlags := 1, code := none }
def k1c1 : Code := { maxStack := 6, maxLocals := 21, code := code, exceptionTable := #[], attributes := #[] }
def k1m1 : Method := { name := "law", desc := "(IIII)Z", sig := { parameters := [.int, .int, .int, .int], returnType := some .boolean }, accessFlags := 9, code := some k1c1 }
/-- com/example/tally_odds/tallyodds/Bm25QtfPartPinLaw -/
def k1 : Class := { plain "com/example/tally_odds/tallyodds/Bm25QtfPartPinLaw" (some 0) with
  accessFlags := 49
  interfaces := #[]
  cf := some (fileOf pool1 32 #[] #[{ accessFlags := 1, nameIndex := 5, descriptorIndex := 6, attributes := #[] }, { accessFlags := 9, nameIndex := 36, descriptorIndex := 37, attributes := #[] }] 49 2 #[] #[])
  fields := #[]
  methods := #[k1m0, k1m1]
  instanceTypes := #[]
  staticTypes := #[]
  resolved := Array.replicate 41 none
  statics := none }

def pool2 : Array CpInfo := pool [(1, .class_ 2), (0, u "com/example/tally_odds/tallyodds/Bm25"), (6, u "<init>"), (0, u "(DD)V"), (0, .methodref 1 12), (0, .nameAndType 9 13), (0, u "(DDD)V"), (0, .methodref 15 16), (0, .class_ 17), (0, .nameAndType 9 18), (0, u "java/lang/Object"), (0, u "()V"), (2, .double 9218868437227405312), (12, .fieldref 1 35), (0, .nameAndType 36 37), (0, u "k1"), (0, u "D"), (0, .fieldref 1 39), (0, .nameAndType 40 37), (0, u "b"), (0, .fieldref 1 42), (0, .nameAndType 43 37), (0, u "k3"), (47, u "DEFAULT_K1"), (1, u "DEFAULT_B"), (0, u "DEFAULT_K3"), (8, u "(D)Lcom/example/tally_odds/tallyodds/Bm25;"), (1, u "withK3"), (7, u "qtfPart"), (0, u "(I)D")] 29

def k2m0 : Method := { name := "<init>", desc := "()V", sig := { parameters := [], returnType := none }, accessFlags := 1, code := none }
def k2c1 : Code := { maxStack := 7, maxLocals := 5, code := prog_2_method_2_code, exceptionTable := #[], attributes := #[] }
def k2m1 : Method := { name := "<init>", desc := "(DD)V", sig := { parameters := [.double, .double], returnType := none }, accessFlags := 1, code := some k2c1 }
def k2c2 : Code := { maxStack := 4, maxLocals := 7, code := prog_2_method_3_code, exceptionTable := #[], attributes := #[] }
def k2m2 : Method := { name := "<init>", desc := "(DDD)V", sig := { parameters := [.double, .double, .double], returnType := none }, accessFlags := 2, code := some k2c2 }
def k2c3 : Code := { maxStack := 8, maxLocals := 3, code := prog_2_method_7_code, exceptionTable := #[], attributes := #[] }
def k2m3 : Method := { name := "withK3", desc := "(D)Lcom/example/tally_odds/tallyodds/Bm25;", sig := { parameters := [.double], returnType := some (.object "com/example/tally_odds/tallyodds/Bm25") }, accessFlags := 1, code := some k2c3 }
def k2c4 : Code := { maxStack := 8, maxLocals := 2, code := prog_2_method_14_code, exceptionTable := #[], attributes := #[] }
def k2m4 : Method := { name := "qtfPart", desc := "(I)D", sig := { parameters := [.int], returnType := some .double }, accessFlags := 1, code := some k2c4 }
/-- com/example/tally_odds/tallyodds/Bm25 -/
def k2 : Class := { plain "com/example/tally_odds/tallyodds/Bm25" (some 0) with
  accessFlags := 33
  interfaces := #[]
  cf := some (fileOf pool2 1 #[] #[{ accessFlags := 1, nameIndex := 9, descriptorIndex := 18, attributes := #[] }, { accessFlags := 1, nameIndex := 9, descriptorIndex := 10, attributes := #[] }, { accessFlags := 2, nameIndex := 9, descriptorIndex := 13, attributes := #[] }, { accessFlags := 1, nameIndex := 105, descriptorIndex := 103, attributes := #[] }, { accessFlags := 1, nameIndex := 113, descriptorIndex := 114, attributes := #[] }] 33 15 #[] #[{ accessFlags := 25, nameIndex := 91, descriptorIndex := 37, attributes := #[] }, { accessFlags := 25, nameIndex := 93, descriptorIndex := 37, attributes := #[] }, { accessFlags := 25, nameIndex := 94, descriptorIndex := 37, attributes := #[] }, { accessFlags := 18, nameIndex := 36, descriptorIndex := 37, attributes := #[] }, { accessFlags := 18, nameIndex := 40, descriptorIndex := 37, attributes := #[] }, { accessFlags := 18, nameIndex := 43, descriptorIndex := 37, attributes := #[] }])
  fields := #[{ name := "DEFAULT_K1", type := .double, accessFlags := 25, slot := 0, constantValue := 0 }, { name := "DEFAULT_B", type := .double, accessFlags := 25, slot := 1, constantValue := 0 }, { name := "DEFAULT_K3", type := .double, accessFlags := 25, slot := 2, constantValue := 0 }, { name := "k1", type := .double, accessFlags := 18, slot := 0, constantValue := 0 }, { name := "b", type := .double, accessFlags := 18, slot := 1, constantValue := 0 }, { name := "k3", type := .double, accessFlags := 18, slot := 2, constantValue := 0 }]
  methods := #[k2m0, k2m1, k2m2, k2m3, k2m4]
  instanceTypes := #[.double, .double, .double]
  staticTypes := #[.double, .double, .double]
  resolved := Array.replicate 144 none
  statics := none }

def pool3 : Array CpInfo := pool [(1, .class_ 2), (0, u "java/lang/Math"), (1, .class_ 6), (1, u "java/lang/Object"), (0, u "<init>"), (0, u "()V"), (89, .class_ 100), (1, u "java/lang/Math$RandomNumberGeneratorHolder"), (71, u "negativeZeroFloatBits"), (0, u "J"), (2, u "negativeZeroDoubleBits"), (21, u "max"), (46, u "$assertionsDisabled"), (0, u "Z"), (88, u "(II)I"), (2, u "twoToTheDoubleScaleDown"), (0, u "D"), (4, u "twoToTheDoubleScaleUp"), (9, u "E"), (3, u "PI"), (2, u "TAU"), (2, u "DEGREES_TO_RADIANS"), (0, u "RADIANS_TO_DEGREES")] 94

def k3m0 : Method := { name := "<init>", desc := "()V", sig := { parameters := [], returnType := none }, accessFlags := 2, code := none }
def k3c1 : Code := { maxStack := 2, maxLocals := 2, code := jdk_29_method_65_code, exceptionTable := #[], attributes := #[] }
def k3m1 : Method := { name := "max", desc := "(II)I", sig := { parameters := [.int, .int], returnType := some .int }, accessFlags := 9, code := some k3c1 }
/-- java/lang/Math -/
def k3 : Class := { plain "java/lang/Math" (some 0) with
  accessFlags := 49
  interfaces := #[]
  cf := some (fileOf pool3 1 #[.nestMembers #[98]] #[{ accessFlags := 2, nameIndex := 7, descriptorIndex := 8, attributes := #[] }, { accessFlags := 9, nameIndex := 198, descriptorIndex := 335, attributes := #[] }] 49 4 #[] #[{ accessFlags := 25, nameIndex := 354, descriptorIndex := 339, attributes := #[] }, { accessFlags := 25, nameIndex := 358, descriptorIndex := 339, attributes := #[] }, { accessFlags := 25, nameIndex := 361, descriptorIndex := 339, attributes := #[] }, { accessFlags := 26, nameIndex := 364, descriptorIndex := 339, attributes := #[] }, { accessFlags := 26, nameIndex := 365, descriptorIndex := 339, attributes := #[] }, { accessFlags := 26, nameIndex := 172, descriptorIndex := 173, attributes := #[] }, { accessFlags := 26, nameIndex := 176, descriptorIndex := 173, attributes := #[] }, { accessFlags := 8, nameIndex := 344, descriptorIndex := 339, attributes := #[] }, { accessFlags := 8, nameIndex := 338, descriptorIndex := 339, attributes := #[] }, { accessFlags := 4120, nameIndex := 245, descriptorIndex := 246, attributes := #[] }])
  fields := #[{ name := "E", type := .double, accessFlags := 25, slot := 0, constantValue := 0 }, { name := "PI", type := .double, accessFlags := 25, slot := 1, constantValue := 0 }, { name := "TAU", type := .double, accessFlags := 25, slot := 2, constantValue := 0 }, { name := "DEGREES_TO_RADIANS", type := .double, accessFlags := 26, slot := 3, constantValue := 0 }, { name := "RADIANS_TO_DEGREES", type := .double, accessFlags := 26, slot := 4, constantValue := 0 }, { name := "negativeZeroFloatBits", type := .long, accessFlags := 26, slot := 5, constantValue := 0 }, { name := "negativeZeroDoubleBits", type := .long, accessFlags := 26, slot := 6, constantValue := 0 }, { name := "twoToTheDoubleScaleUp", type := .double, accessFlags := 8, slot := 7, constantValue := 0 }, { name := "twoToTheDoubleScaleDown", type := .double, accessFlags := 8, slot := 8, constantValue := 0 }, { name := "$assertionsDisabled", type := .boolean, accessFlags := 4120, slot := 9, constantValue := 0 }]
  methods := #[k3m0, k3m1]
  instanceTypes := #[]
  staticTypes := #[.double, .double, .double, .double, .double, .long, .long, .double, .double, .boolean]
  resolved := Array.replicate 460 none
  statics := none }

def pool4 : Array CpInfo := pool [(1, u "java/lang/Cloneable"), (0, .class_ 1), (0, u "java/lang/Object"), (0, .class_ 3)] 3

/-- java/lang/Cloneable -/
def k4 : Class := { plain "java/lang/Cloneable" (some 0) with
  accessFlags := 1537
  interfaces := #[]
  cf := some (fileOf pool4 2 #[] #[] 1537 4 #[] #[])
  fields := #[]
  methods := #[]
  instanceTypes := #[]
  staticTypes := #[]
  resolved := Array.replicate 8 none
  statics := none }

def pool5 : Array CpInfo := pool [(1, u "java/io/Serializable"), (0, .class_ 1), (0, u "java/lang/Object"), (0, .class_ 3)] 3

/-- java/io/Serializable -/
def k5 : Class := { plain "java/io/Serializable" (some 0) with
  accessFlags := 1537
  interfaces := #[]
  cf := some (fileOf pool5 2 #[] #[] 1537 4 #[] #[])
  fields := #[]
  methods := #[]
  instanceTypes := #[]
  staticTypes := #[]
  resolved := Array.replicate 8 none
  statics := none }

/-- the primitive byte -/
def k6 : Class := { plain "byte" none with kind := .primitive 'B', accessFlags := 0x411 }
/-- [B -/
def k7 : Class := { plain "[B" (some 0) with kind := .array 6 .byte, interfaces := #[4, 5], accessFlags := 1041 }

/-- the primitive int -/
def k8 : Class := { plain "int" none with kind := .primitive 'I', accessFlags := 0x411 }
/-- [I -/
def k9 : Class := { plain "[I" (some 0) with kind := .array 8 .int, interfaces := #[4, 5], accessFlags := 1041 }

def heap : Heap := #[]
def classes : Array Class := #[k0, k1, k2, k3, k4, k5, k6, k7, k8, k9]
def interned : List (Array UInt16 × Addr) := []
def slotsUsed : Nat := 0
def theMethod : MethodId := ⟨1, 1⟩
def args0 : Array Value := #[.int 3, .int 4, .int 5, .int 6]
def aboutOver (below : List Frame) : State where
  vm := { classes := classes, interned := interned.toArray }
  heap := heap
  slotsUsed := slotsUsed
  threads := #[{ frames := .invoking theMethod args0 :: below }]
def below0 : List Frame := [.native { method := ⟨0, 0⟩, args := #[] }]
def about1 : State := aboutOver below0
def p0 : Program := .bare "" "" ""
def e0 : Env := launch0.env 0 0 0
theorem w_frames : about1.frames = Frame.invoking theMethod args0 :: below0 := rfl
set_option maxRecDepth 65536 in
theorem w_args : argsFit about1.vm theMethod args0 = true := by decide +kernel
set_option maxRecDepth 65536 in
theorem w_heap : heapFits about1 = true := by decide +kernel
set_option maxRecDepth 65536 in
theorem w_runnable : about1.curStatus? = some .runnable := by decide +kernel
set_option maxRecDepth 65536 in
theorem w_alone : about1.alone = true := by decide +kernel
set_option maxRecDepth 65536 in
theorem w_named : about1.methodNamed? x = some theMethod := by decide +kernel
set_option maxRecDepth 65536 in
theorem w_hears : about1.hears theMethod below0 = true := by decide +kernel
set_option maxRecDepth 65536 in
theorem w_ripe : about1.ripe theMethod args0 below0 = true := by decide +kernel
theorem w_running : about1.status = .running := rfl
set_option maxRecDepth 65536 in
theorem w_room : about1.hasRoom e0.platform room_1 = true :=
  launch0.hasRoom_least _ room_1 (by decide +kernel) (by decide +kernel) (by decide +kernel) (by decide +kernel) (by decide +kernel) (by decide +kernel)
theorem allAtoms_all (ts : List Jvm.Cond) (a : Array Jvm.Value) (st : Jvm.State) : (allAtoms ts).before a st = ts.all (fun c => c.before a st) := by
  induction ts with
  | nil => rfl
  | cons c t ih =>
    show (Jvm.Cond.and c (allAtoms t)).before a st = _
    rw [Jvm.Cond.before_and, ih, List.all_cons]
def words1 : List Jvm.Cond := Jvm.Cond.code x code maxLocals ret :: tables_1
/-- a 'code' word, met by the world's own term for the bytes: nothing is compared byte by byte -/
theorem code_word {y : MethodName} {bytes : ByteArray} {mx : Nat} {rt : Option FieldType} {a : Array Value} {s : State} {m : MethodId} {meth : Method} {c : Code} (h1 : s.methodNamed? y = some m) (h2 : s.vm.method? m = some meth) (h3 : meth.code = some c) (h4 : c.code = bytes)
    (h5 : (c.maxLocals == mx && c.exceptionTable.isEmpty && decide (c.maxStack ≤ mostOperands) && decide (meth.sig.returnType = rt) && !meth.locks && decide (parseMethodDescriptor y.desc = some meth.sig)) = true) : (Jvm.Cond.code y bytes mx rt).before a s = true := by
  simp only [Bool.and_eq_true, beq_iff_eq, Bool.not_eq_true', decide_eq_true_eq] at h5
  obtain ⟨⟨⟨⟨⟨g1, g2⟩, g3⟩, g4⟩, g5⟩, g6⟩ := h5
  simp [Cond.before, Cond.holds, Cond.value, h1, h2, h3, h4, g1, g2, g3, g4, g5, g6]
def isCode : Jvm.Cond → Bool
  | .code _ _ _ _ => true
  | _ => false
theorem all_split {L : List Jvm.Cond} {P : Jvm.Cond → Bool} (h1 : L.all (fun c => isCode c || P c) = true) (h2 : ∀ c ∈ L.filter isCode, P c = true) : L.all P = true := by
  refine List.all_eq_true.mpr fun c hc => ?_
  have h := List.all_eq_true.mp h1 c hc
  rcases Bool.eq_false_or_eq_true (isCode c) with hi | hi
  · exact h2 c (List.mem_filter.mpr ⟨hc, hi⟩)
  · simpa [hi] using h
set_option maxRecDepth 65536 in
theorem w_c0 : (Jvm.Cond.code x code maxLocals ret).before args0 about1 = true := code_word (m := ⟨1, 1⟩) (meth := k1m1) (c := k1c1) (by decide +kernel) rfl rfl rfl (by decide +kernel)
set_option maxRecDepth 65536 in
theorem w_c1 : (Jvm.Cond.code ({ cls := "com/example/tally_odds/tallyodds/Bm25", name := "<init>", desc := "(DD)V" } : Jvm.MethodName) prog_2_method_2_code (5 : Nat) (Option.none : Option Jvm.ClassFile.FieldType)).before args0 about1 = true := code_word (m := ⟨2, 1⟩) (meth := k2m1) (c := k2c1) (by decide +kernel) rfl rfl rfl (by decide +kernel)
set_option maxRecDepth 65536 in
theorem w_c2 : (Jvm.Cond.code ({ cls := "com/example/tally_odds/tallyodds/Bm25", name := "<init>", desc := "(DDD)V" } : Jvm.MethodName) prog_2_method_3_code (7 : Nat) (Option.none : Option Jvm.ClassFile.FieldType)).before args0 about1 = true := code_word (m := ⟨2, 2⟩) (meth := k2m2) (c := k2c2) (by decide +kernel) rfl rfl rfl (by decide +kernel)
set_option maxRecDepth 65536 in
theorem w_c3 : (Jvm.Cond.code ({ cls := "java/lang/Object", name := "<init>", desc := "()V" } : Jvm.MethodName) object_method_1_code (1 : Nat) (Option.none : Option Jvm.ClassFile.FieldType)).before args0 about1 = true := code_word (m := ⟨0, 0⟩) (meth := k0m0) (c := k0c0) (by decide +kernel) rfl rfl rfl (by decide +kernel)
set_option maxRecDepth 65536 in
theorem w_c4 : (Jvm.Cond.code ({ cls := "java/lang/Math", name := "max", desc := "(II)I" } : Jvm.MethodName) jdk_29_method_65_code (2 : Nat) (Option.some Jvm.ClassFile.FieldType.int)).before args0 about1 = true := code_word (m := ⟨3, 1⟩) (meth := k3m1) (c := k3c1) (by decide +kernel) rfl rfl rfl (by decide +kernel)
set_option maxRecDepth 65536 in
theorem w_c5 : (Jvm.Cond.code ({ cls := "com/example/tally_odds/tallyodds/Bm25", name := "withK3", desc := "(D)Lcom/example/tally_odds/tallyodds/Bm25;" } : Jvm.MethodName) prog_2_method_7_code (3 : Nat) (Option.some (Jvm.ClassFile.FieldType.object "com/example/tally_odds/tallyodds/Bm25"))).before args0 about1 = true := code_word (m := ⟨2, 3⟩) (meth := k2m3) (c := k2c3) (by decide +kernel) rfl rfl rfl (by decide +kernel)
set_option maxRecDepth 65536 in
theorem w_c6 : (Jvm.Cond.code ({ cls := "com/example/tally_odds/tallyodds/Bm25", name := "qtfPart", desc := "(I)D" } : Jvm.MethodName) prog_2_method_14_code (2 : Nat) (Option.some Jvm.ClassFile.FieldType.double)).before args0 about1 = true := code_word (m := ⟨2, 4⟩) (meth := k2m4) (c := k2c4) (by decide +kernel) rfl rfl rfl (by decide +kernel)
def codes1 : List Jvm.Cond := [Jvm.Cond.code x code maxLocals ret, Jvm.Cond.code ({ cls := "com/example/tally_odds/tallyodds/Bm25", name := "<init>", desc := "(DD)V" } : Jvm.MethodName) prog_2_method_2_code (5 : Nat) (Option.none : Option Jvm.ClassFile.FieldType), Jvm.Cond.code ({ cls := "com/example/tally_odds/tallyodds/Bm25", name := "<init>", desc := "(DDD)V" } : Jvm.MethodName) prog_2_method_3_code (7 : Nat) (Option.none : Option Jvm.ClassFile.FieldType), Jvm.Cond.code ({ cls := "java/lang/Object", name := "<init>", desc := "()V" } : Jvm.MethodName) object_method_1_code (1 : Nat) (Option.none : Option Jvm.ClassFile.FieldType), Jvm.Cond.code ({ cls := "java/lang/Math", name := "max", desc := "(II)I" } : Jvm.MethodName) jdk_29_method_65_code (2 : Nat) (Option.some Jvm.ClassFile.FieldType.int), Jvm.Cond.code ({ cls := "com/example/tally_odds/tallyodds/Bm25", name := "withK3", desc := "(D)Lcom/example/tally_odds/tallyodds/Bm25;" } : Jvm.MethodName) prog_2_method_7_code (3 : Nat) (Option.some (Jvm.ClassFile.FieldType.object "com/example/tally_odds/tallyodds/Bm25")), Jvm.Cond.code ({ cls := "com/example/tally_odds/tallyodds/Bm25", name := "qtfPart", desc := "(I)D" } : Jvm.MethodName) prog_2_method_14_code (2 : Nat) (Option.some Jvm.ClassFile.FieldType.double)]
set_option maxRecDepth 65536 in
theorem codes_eq : words1.filter isCode = codes1 := rfl
theorem w_codes : ∀ c ∈ words1.filter isCode, c.before args0 about1 = true := by
  rw [codes_eq]
  intro c hc
  simp only [codes1, List.mem_cons, List.not_mem_nil, or_false] at hc
  rcases hc with rfl | rfl | rfl | rfl | rfl | rfl | rfl
  · exact w_c0
  · exact w_c1
  · exact w_c2
  · exact w_c3
  · exact w_c4
  · exact w_c5
  · exact w_c6
set_option maxRecDepth 65536 in
theorem w_t1 : (words1.take 24).all (fun c => isCode c || c.before args0 about1) = true := by decide +kernel
set_option maxRecDepth 65536 in
theorem w_t2 : (words1.drop 24).all (fun c => isCode c || c.before args0 about1) = true := by decide +kernel
theorem w_tables : (allAtoms (Jvm.Cond.code x code maxLocals ret :: tables_1)).before args0 about1 = true := by
  rw [allAtoms_all]
  show words1.all (fun c => c.before args0 about1) = true
  refine all_split ?_ w_codes
  rw [← List.take_append_drop 24 words1, List.all_append, w_t1, w_t2]
  rfl
set_option maxRecDepth 65536 in
theorem w_case : (Jvm.Cond.and given_1 narrow_1).before args0 about1 = true := by decide +kernel
theorem w_applies : (headSpec (Jvm.Cond.code x code maxLocals ret :: tables_1) room_1).applies x e0.platform about1 = true :=
  (Spec.applies_iff w_frames).mpr ⟨w_running, w_runnable, w_alone, w_named, w_hears, w_ripe, w_room, w_tables⟩
theorem atStart : AtStart classFile x code maxLocals ret World_1 tables_1 room_1 Calls_1 rest_1 Pre_1 launch0 p0 e0 about1 theMethod args0 below0 :=
  ⟨lists_1, trivial, launch0.admits_env _ _ _, launch0.least_env, fairChoices_fair.cas, fairChoices_fair.clock, w_frames, w_args, w_heap, w_applies, trivial, trivial, w_case⟩
end start1
theorem witness_1 : WitnessClaimed_1 := ⟨start1.p0, start1.e0, start1.about1, start1.theMethod, start1.args0, start1.below0, start1.atStart⟩
end Jvm.Pilot.@@N@@
