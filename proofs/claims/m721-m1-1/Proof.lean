import JvmDerived
import JvmDerived.Pilot.@@N@@Statement
import JvmDerived.Pilot.@@N@@Code
set_option linter.unusedVariables false
set_option linter.unusedSimpArgs false
namespace Jvm.Pilot.@@N@@
section OwnFP
open Jvm.FP.Core
/-! Exact doubles: own_Is x n e says that the double x is finite and worth n * 2^e. -/
def own_Is (x : UInt64) (n : Int) (e : Int) : Prop := DFin x ∧ -1074 ≤ e ∧ zval b64 (val64 x) = n * ((2 ^ (e + 1074).toNat : Nat) : Int)
theorem own_qmax : b64.qmax = 971 := by decide
theorem own_pp : b64.p = 53 := rfl
theorem own_powc {a b u v : Nat} (h : a * 2 ^ u = b * 2 ^ v) {w : Int} (hw : w = (u : Int) - v) : a * 2 ^ w.toNat = b * 2 ^ (-w).toNat := by
  subst hw
  have hu : u = ((u : Int) - v).toNat + min u v := by omega
  have hv : v = (-((u : Int) - v)).toNat + min u v := by omega
  have h2 : a * 2 ^ (((u : Int) - v).toNat + min u v) = b * 2 ^ ((-((u : Int) - v)).toNat + min u v) := by rw [← hu, ← hv]; exact h
  rw [Nat.pow_add, Nat.pow_add, ← Nat.mul_assoc, ← Nat.mul_assoc] at h2
  exact Nat.eq_of_mul_eq_mul_right (Nat.two_pow_pos _) h2
theorem own_signed_abs (s : Bool) (c : Nat) : (signed s c).natAbs = c := by cases s <;> simp [signed]
theorem own_signed_mul (s t : Bool) (c d : Nat) : signed (s != t) (c * d) = signed s c * signed t d := by
  cases s <;> cases t <;> simp [signed, Int.natCast_mul, Int.neg_mul, Int.mul_neg]
theorem own_signed_scale (s : Bool) (c d : Nat) : signed s (c * d) = signed s c * (d : Int) := by cases s <;> simp [signed, Int.natCast_mul, Int.neg_mul]
theorem own_round {s : Bool} {c : Nat} {q : Int} {M : Nat} {e : Int} (h2 : -2148 ≤ q) (hM : M < 9007199254740992) (he1 : -1074 ≤ e) (he2 : e ≤ 971) (h : inUnits c q (-2148) = M * 2 ^ (e + 2148).toNat) :
    ∃ c' q', round b64 (.fin s c q) = .fin s c' q' ∧ inUnits c' q' b64.qmin = M * 2 ^ (e + 1074).toNat := by
  have hq : b64.qmin = -1074 := qmin_b64
  obtain ⟨c', q', h1, h3⟩ := round_exact good_b64 s (c := M) (q := e) (show M < 2 ^ 53 from hM) (by rw [hq]; omega) (by rw [own_qmax]; omega)
  refine ⟨c', q', ?_, ?_⟩
  · rw [← h1]
    show roundRatio b64 s c 1 q = roundRatio b64 s M 1 e
    refine roundRatio_congr (by decide) (by decide) ?_
    unfold inUnits at h
    have h4 := own_powc (u := (q - -2148).toNat) (v := (e + 2148).toNat) h (w := q - e) (by omega)
    rw [Nat.mul_one, Nat.mul_one, h4, show -(q - e) = e - q by omega]
  · rw [h3]; unfold inUnits; rw [hq, show e - -1074 = e + 1074 by omega]
theorem own_fin_split {x : UInt64} {n e : Int} (h : own_Is x n e) : ∃ s c q, val64 x = .fin s c q ∧ Jvm.FP.Core.fits b64 (.fin s c q) ∧ signed s (inUnits c q b64.qmin) = n * ((2 ^ (e + 1074).toNat : Nat) : Int) ∧ -1074 ≤ q := by
  obtain ⟨⟨s, c, q, hv⟩, he, hz⟩ := h
  have hf := val64_fits x
  rw [hv] at hf hz
  have := hf.2.1
  rw [qmin_b64] at this
  exact ⟨s, c, q, hv, hf, hz, this⟩
theorem own_Is_of {x : UInt64} {s : Bool} {c : Nat} {q n e : Int} (hv : val64 x = .fin s c q) (he : -1074 ≤ e) (h : signed s (inUnits c q b64.qmin) = n * ((2 ^ (e + 1074).toNat : Nat) : Int)) : own_Is x n e :=
  ⟨⟨s, c, q, hv⟩, he, by rw [hv]; exact h⟩
theorem own_sum {s : Bool} {c : Nat} {q n e : Int} (hq : -1074 ≤ q) (hn : n.natAbs < 9007199254740992) (he1 : -1074 ≤ e) (he2 : e ≤ 971) (h : signed s (inUnits c q b64.qmin) = n * ((2 ^ (e + 1074).toNat : Nat) : Int)) :
    ∃ c' q', round b64 (.fin s c q) = .fin s c' q' ∧ signed s (inUnits c' q' b64.qmin) = n * ((2 ^ (e + 1074).toNat : Nat) : Int) := by
  have h1 : inUnits c q b64.qmin = n.natAbs * 2 ^ (e + 1074).toNat := by
    rw [← own_signed_abs s (inUnits c q b64.qmin), h, Int.natAbs_mul, Int.natAbs_natCast]
  have h2 : inUnits c q (-2148) = n.natAbs * 2 ^ (e + 2148).toNat := by
    rw [inUnits_move c (r := b64.qmin) (by rw [qmin_b64]; omega) (by rw [qmin_b64]; omega), h1, qmin_b64, Nat.mul_assoc, ← Nat.pow_add]
    congr 2; omega
  obtain ⟨c', q', h3, h4⟩ := own_round (s := s) (by omega) hn he1 he2 h2
  exact ⟨c', q', h3, by rw [h4, ← h1, h]⟩
theorem own_add {x y : UInt64} {m n e : Int} (hx : own_Is x m e) (hy : own_Is y n e) (he : e ≤ 971) (hb : (m + n).natAbs < 9007199254740992) : own_Is (dadd x y) (m + n) e := by
  have he1 := hx.2.1
  obtain ⟨s, c, q, vx, fx, zx, -⟩ := own_fin_split hx
  obtain ⟨t, d, r, vy, fy, zy, -⟩ := own_fin_split hy
  obtain ⟨sg, N, E, h1, h2, h3⟩ := sum_units fx fy
  have h4 : signed sg (inUnits N E b64.qmin) = (m + n) * ((2 ^ (e + 1074).toNat : Nat) : Int) := by
    rw [h3, Int.add_mul, ← zx, ← zy]; rfl
  obtain ⟨c', q', h5, h6⟩ := own_sum (by rw [qmin_b64] at h2; exact h2) hb he1 he h4
  exact own_Is_of (by rw [val64_dadd, vx, vy, h1, h5]) he1 h6
theorem own_sub {x y : UInt64} {m n e : Int} (hx : own_Is x m e) (hy : own_Is y n e) (he : e ≤ 971) (hb : (m - n).natAbs < 9007199254740992) : own_Is (dsub x y) (m - n) e := by
  have he1 := hx.2.1
  obtain ⟨s, c, q, vx, fx, zx, -⟩ := own_fin_split hx
  obtain ⟨t, d, r, vy, fy, zy, -⟩ := own_fin_split hy
  have fy' : Jvm.FP.Core.fits b64 (.fin (!t) d r) := fy
  obtain ⟨sg, N, E, h1, h2, h3⟩ := sum_units (t := !t) fx fy'
  have h4 : signed sg (inUnits N E b64.qmin) = (m - n) * ((2 ^ (e + 1074).toNat : Nat) : Int) := by
    rw [h3, Int.sub_mul, ← zx, ← zy]
    show signed s (inUnits c q b64.qmin) + signed (!t) (inUnits d r b64.qmin) = _
    rw [signed_not]; omega
  obtain ⟨c', q', h5, h6⟩ := own_sum (by rw [qmin_b64] at h2; exact h2) hb he1 he h4
  refine own_Is_of (s := sg) (c := c') (q := q') ?_ he1 h6
  rw [val64_dsub, vx, vy]
  show round b64 (exactSum (.fin s c q) (.fin (!t) d r)) = _
  rw [h1, h5]
theorem own_mul {x y : UInt64} {m n e1 e2 e : Int} (hx : own_Is x m e1) (hy : own_Is y n e2) (hee : e1 + e2 = e) (he1 : -1074 ≤ e) (he2 : e ≤ 971) (hb : (m * n).natAbs < 9007199254740992) : own_Is (dmul x y) (m * n) e := by
  subst hee
  have hx1 := hx.2.1
  have hy1 := hy.2.1
  obtain ⟨s, c, q, vx, fx, zx, qx⟩ := own_fin_split hx
  obtain ⟨t, d, r, vy, fy, zy, qy⟩ := own_fin_split hy
  obtain ⟨h1, h2, h3⟩ := product_units fx fy
  have hs : signed (s != t) (inUnits (c * d) (q + r) (-2148)) = (m * n) * ((2 ^ (e1 + e2 + 2148).toNat : Nat) : Int) := by
    have h4 : inUnits (c * d) (q + r) (-2148) = inUnits c q b64.qmin * inUnits d r b64.qmin := by
      have := h3
      rw [qmin_b64] at this ⊢
      exact this
    rw [h4, own_signed_mul, zx, zy, show (e1 + e2 + 2148).toNat = (e1 + 1074).toNat + (e2 + 1074).toNat by omega, Nat.pow_add, Int.natCast_mul]
    simp only [Int.mul_assoc, Int.mul_left_comm, Int.mul_comm]
  have h5 : inUnits (c * d) (q + r) (-2148) = (m * n).natAbs * 2 ^ (e1 + e2 + 2148).toNat := by
    rw [← own_signed_abs (s != t) (inUnits (c * d) (q + r) (-2148)), hs, Int.natAbs_mul, Int.natAbs_natCast]
  obtain ⟨c', q', h6, h7⟩ := own_round (s := (s != t)) (by omega) hb he1 he2 h5
  refine own_Is_of (s := (s != t)) (c := c') (q := q') (by rw [val64_dmul, vx, vy, h1, h6]) he1 ?_
  rw [h5, own_signed_scale] at hs
  have h8 : signed (s != t) (m * n).natAbs = m * n := Int.eq_of_mul_eq_mul_right (by have := Nat.two_pow_pos (e1 + e2 + 2148).toNat; omega) hs
  rw [h7, own_signed_scale, h8]
/-- the quotient of two exact doubles is the rounded ratio of their numbers -/
theorem own_divR {x y : UInt64} {m n e1 e2 : Int} (hx : own_Is x m e1) (hy : own_Is y n e2) (hn : n ≠ 0) :
    val64 (ddiv x y) = roundRatio b64 (sgn (val64 x) != sgn (val64 y)) m.natAbs n.natAbs (e1 - e2) ∧ signed (sgn (val64 x)) m.natAbs = m ∧ signed (sgn (val64 y)) n.natAbs = n := by
  have hx1 := hx.2.1
  have hy1 := hy.2.1
  obtain ⟨s, c, q, vx, fx, zx, qx⟩ := own_fin_split hx
  obtain ⟨t, d, r, vy, fy, zy, qy⟩ := own_fin_split hy
  have ax : inUnits c q b64.qmin = m.natAbs * 2 ^ (e1 + 1074).toNat := by
    rw [← own_signed_abs s (inUnits c q b64.qmin), zx, Int.natAbs_mul, Int.natAbs_natCast]
  have ay : inUnits d r b64.qmin = n.natAbs * 2 ^ (e2 + 1074).toNat := by
    rw [← own_signed_abs t (inUnits d r b64.qmin), zy, Int.natAbs_mul, Int.natAbs_natCast]
  have sx : signed s m.natAbs = m := by
    rw [ax, own_signed_scale] at zx
    exact Int.eq_of_mul_eq_mul_right (by have := Nat.two_pow_pos (e1 + 1074).toNat; omega) zx
  have sy : signed t n.natAbs = n := by
    rw [ay, own_signed_scale] at zy
    exact Int.eq_of_mul_eq_mul_right (by have := Nat.two_pow_pos (e2 + 1074).toNat; omega) zy
  have nn : n.natAbs ≠ 0 := by omega
  have hd : d ≠ 0 := by
    rintro rfl
    have : n.natAbs * 2 ^ (e2 + 1074).toNat = 0 := by rw [← ay]; unfold inUnits; simp
    rcases Nat.mul_eq_zero.mp this with h | h
    · exact nn h
    · have := Nat.two_pow_pos (e2 + 1074).toNat; omega
  refine ⟨?_, by rw [vx]; exact sx, by rw [vy]; exact sy⟩
  rw [val64_ddiv, vx, vy]
  show (if d = 0 then _ else roundRatio b64 (s != t) c d (q - r)) = roundRatio b64 (s != t) _ _ _
  rw [if_neg hd]
  refine roundRatio_congr (by omega) (by omega) ?_
  unfold inUnits at ax ay
  rw [qmin_b64] at ax ay
  have key : c * n.natAbs * 2 ^ ((q - -1074).toNat + (e2 + 1074).toNat) = m.natAbs * d * 2 ^ ((e1 + 1074).toNat + (r - -1074).toNat) := by
    have e3 : c * n.natAbs * 2 ^ ((q - -1074).toNat + (e2 + 1074).toNat) = (c * 2 ^ (q - -1074).toNat) * (n.natAbs * 2 ^ (e2 + 1074).toNat) := by
      rw [Nat.pow_add]; simp only [Nat.mul_assoc, Nat.mul_left_comm, Nat.mul_comm]
    rw [e3, ax, ← ay, Nat.pow_add]
    simp only [Nat.mul_assoc, Nat.mul_left_comm, Nat.mul_comm]
  have h4 := own_powc key (w := (q - r) - (e1 - e2)) (by omega)
  rw [h4, show -((q - r) - (e1 - e2)) = (e1 - e2) - (q - r) by omega]
theorem own_div {x y : UInt64} {m n N e1 e2 e : Int} (hx : own_Is x m e1) (hy : own_Is y n e2) (hn : n ≠ 0) (hm : m = N * n) (hee : e1 - e2 = e) (he1 : -1074 ≤ e) (he2 : e ≤ 971) (hb : N.natAbs < 9007199254740992) : own_Is (ddiv x y) N e := by
  subst hee
  obtain ⟨h1, h2, h3⟩ := own_divR hx hy hn
  have hq : b64.qmin = -1074 := qmin_b64
  obtain ⟨c', q', h5, h6⟩ := round_exact good_b64 (sgn (val64 x) != sgn (val64 y)) (c := N.natAbs) (q := e1 - e2) (show _ < 2 ^ 53 from hb) (by rw [hq]; omega) (by rw [own_qmax]; omega)
  refine own_Is_of (s := (sgn (val64 x) != sgn (val64 y))) (c := c') (q := q') ?_ he1 ?_
  · rw [h1, ← h5]
    show roundRatio _ _ _ _ _ = roundRatio b64 (sgn (val64 x) != sgn (val64 y)) N.natAbs 1 (e1 - e2)
    refine roundRatio_congr (by omega) (by decide) ?_
    rw [hm, Int.natAbs_mul]; simp
  · rw [h6]; unfold inUnits
    rw [hq, show e1 - e2 - -1074 = e1 - e2 + 1074 by omega, own_signed_scale]
    congr 1
    have h7 := own_signed_mul (sgn (val64 x)) (sgn (val64 y)) N.natAbs (n.natAbs * n.natAbs)
    have h8 : signed (sgn (val64 x) != sgn (val64 y)) (m.natAbs * n.natAbs) = m * n := by rw [own_signed_mul, h2, h3]
    rw [hm, Int.natAbs_mul, Nat.mul_assoc, own_signed_scale] at h8
    have h9 : ((n.natAbs * n.natAbs : Nat) : Int) = n * n := Int.natAbs_mul_self
    rw [h9, Int.mul_assoc] at h8
    refine Int.eq_of_mul_eq_mul_right ?_ h8
    intro h0
    rcases Int.mul_eq_zero.mp h0 with h | h <;> exact hn h
theorem own_shift {x : UInt64} {n e e' : Int} (j : Nat) (hx : own_Is x n e) (hj : e' = e - j) (he : -1074 ≤ e') : own_Is x (n * (2 ^ j : Nat)) e' := by
  subst hj
  refine ⟨hx.1, he, ?_⟩
  rw [hx.2.2, show (e + 1074).toNat = j + (e - j + 1074).toNat by omega, Nat.pow_add, Int.natCast_mul, ← Int.mul_assoc]
theorem own_nn {x : UInt64} {n e : Int} (h : own_Is x n e) : Jvm.Free.Fl.NoNaN64 x := Jvm.Free.Fl.noNaN64_no.mpr h.1.notNaN
theorem own_cmp {x y : UInt64} {m n e : Int} (hx : own_Is x m e) (hy : own_Is y n e) : dcmp x y = some (compare m n) := by
  rw [dcmp_zval hx.1.ne_nan hy.1.ne_nan, hx.2.2, hy.2.2]
  have hp : (0 : Int) < ((2 ^ (e + 1074).toNat : Nat) : Int) := by have := Nat.two_pow_pos (e + 1074).toNat; omega
  congr 1
  refine compare_congr ⟨fun h => Int.lt_of_mul_lt_mul_right h (Int.le_of_lt hp), fun h => Int.mul_lt_mul_of_pos_right h hp⟩ ⟨fun h => Int.eq_of_mul_eq_mul_right (Int.ne_of_gt hp) h, fun h => by rw [h]⟩
theorem own_i2d (a : Int32) : own_Is (i2d a) a.toInt 0 := by
  have h := i2d_int a
  refine ⟨?_, by decide, ?_⟩
  · rw [i2d_l2d]; exact l2d_fin _
  · rw [DInt_zval h]; rfl
theorem own_l2d {a : Int64} (h : a.toInt.natAbs ≤ 9007199254740992) : own_Is (l2d a) a.toInt 0 := by
  have h := l2d_int (a := a) h
  exact ⟨l2d_fin _, by decide, by rw [DInt_zval h]; rfl⟩
/-- with a bound on the number -/
def own_B (x : UInt64) (n e B : Int) : Prop := own_Is x n e ∧ -B ≤ n ∧ n ≤ B
theorem own_B.is {x : UInt64} {n e B : Int} (h : own_B x n e B) : own_Is x n e := h.1
theorem own_B.nn {x : UInt64} {n e B : Int} (h : own_B x n e B) : Jvm.Free.Fl.NoNaN64 x := own_nn h.1
theorem own_Badd {x y : UInt64} {m n e A B : Int} (hx : own_B x m e A) (hy : own_B y n e B) (h : (decide (e ≤ 971) && decide (A + B < 9007199254740992)) = true) : own_B (dadd x y) (m + n) e (A + B) := by
  simp only [Bool.and_eq_true, decide_eq_true_eq] at h
  have := hx.2; have := hy.2
  exact ⟨own_add hx.1 hy.1 h.1 (by omega), by omega, by omega⟩
theorem own_Bsub {x y : UInt64} {m n e A B : Int} (hx : own_B x m e A) (hy : own_B y n e B) (h : (decide (e ≤ 971) && decide (A + B < 9007199254740992)) = true) : own_B (dsub x y) (m - n) e (A + B) := by
  simp only [Bool.and_eq_true, decide_eq_true_eq] at h
  have := hx.2; have := hy.2
  exact ⟨own_sub hx.1 hy.1 h.1 (by omega), by omega, by omega⟩
theorem own_bmul {m n A B : Int} (hm : -A ≤ m ∧ m ≤ A) (hn : -B ≤ n ∧ n ≤ B) : -(A * B) ≤ m * n ∧ m * n ≤ A * B := by
  have h : (m * n).natAbs ≤ A.toNat * B.toNat := by rw [Int.natAbs_mul]; exact Nat.mul_le_mul (by omega) (by omega)
  have h2 : ((A.toNat * B.toNat : Nat) : Int) = A * B := by rw [Int.natCast_mul, Int.toNat_of_nonneg (by omega), Int.toNat_of_nonneg (by omega)]
  omega
theorem own_Bmul {x y : UInt64} {m n e1 e2 A B : Int} (hx : own_B x m e1 A) (hy : own_B y n e2 B) (h : (decide (-1074 ≤ e1 + e2) && decide (e1 + e2 ≤ 971) && decide (A * B < 9007199254740992)) = true) : own_B (dmul x y) (m * n) (e1 + e2) (A * B) := by
  simp only [Bool.and_eq_true, decide_eq_true_eq] at h
  have hb := own_bmul hx.2 hy.2
  exact ⟨own_mul hx.1 hy.1 rfl h.1.1 h.1.2 (by omega), hb⟩
/-- an exact quotient by a power of two (n = 1 in y = 1 * 2^e2) -/
theorem own_Bdiv {x y : UInt64} {m e1 e2 A : Int} (hx : own_B x m e1 A) (hy : own_Is y 1 e2) (h : (decide (-1074 ≤ e1 - e2) && decide (e1 - e2 ≤ 971) && decide (A < 9007199254740992)) = true) : own_B (ddiv x y) m (e1 - e2) A := by
  simp only [Bool.and_eq_true, decide_eq_true_eq] at h
  have := hx.2
  exact ⟨own_div hx.1 hy (by decide) (Int.mul_one _).symm rfl h.1.1 h.1.2 (by omega), hx.2⟩
theorem own_Bshift {x : UInt64} {n e A : Int} (j : Nat) (P : Int) (hx : own_B x n e A) (h : (decide (-1074 ≤ e - j) && decide (((2 ^ j : Nat) : Int) = P)) = true) : own_B x (n * P) (e - j) (A * P) := by
  simp only [Bool.and_eq_true, decide_eq_true_eq] at h
  obtain ⟨h, rfl⟩ := h
  refine ⟨own_shift j hx.1 rfl h, ?_⟩
  have hp : (0 : Int) ≤ (2 ^ j : Nat) := Int.natCast_nonneg _
  have := hx.2
  constructor
  · rw [← Int.neg_mul]; exact Int.mul_le_mul_of_nonneg_right this.1 hp
  · exact Int.mul_le_mul_of_nonneg_right this.2 hp
theorem own_Bcast {x : UInt64} {n n' e e' A A' : Int} (h : own_B x n e A) (hn : n = n') (he : e = e') (hA : A ≤ A') : own_B x n' e' A' := by
  subst hn he; exact ⟨h.1, by have := h.2; omega, by have := h.2; omega⟩
theorem own_eq0 {x y : UInt64} {m n e : Int} (hx : own_Is x m e) (hy : own_Is y n e) (h : m = n) (o : ClassFile.CmpOp) : Op.cmpValue (Jvm.FP.dcmp x y) o = 0 := by
  show Op.cmpValue (dcmp x y) o = 0
  subst h
  rw [own_cmp hx hy, show compare m m = .eq from (compare_eq_iff m m).mpr rfl]; cases o <;> rfl
theorem own_cmpv {x y : UInt64} {m n e : Int} (hx : own_Is x m e) (hy : own_Is y n e) (o : ClassFile.CmpOp) : (m < n → Op.cmpValue (Jvm.FP.dcmp x y) o = -1) ∧ (m = n → Op.cmpValue (Jvm.FP.dcmp x y) o = 0) ∧ (n < m → Op.cmpValue (Jvm.FP.dcmp x y) o = 1) := by
  refine ⟨fun h => ?_, fun h => own_eq0 hx hy h o, fun h => ?_⟩
  · show Op.cmpValue (dcmp x y) o = -1
    rw [own_cmp hx hy, (compare_lt_iff m n).mpr h]; cases o <;> rfl
  · show Op.cmpValue (dcmp x y) o = 1
    rw [own_cmp hx hy, (compare_gt_iff m n).mpr h]; cases o <;> rfl
theorem own_one : own_Is 4607182418800017408 1 0 := ⟨(fin_bits _).mpr (by decide), by decide, by decide +kernel⟩
theorem own_zero : own_Is 0 0 0 := ⟨(fin_bits _).mpr (by decide), by decide, by decide +kernel⟩
/-! ints and longs with their numbers and bounds -/
def own_I (v : Int32) (n B : Int) : Prop := v.toInt = n ∧ -B ≤ n ∧ n ≤ B
def own_L (v : Int64) (n B : Int) : Prop := v.toInt = n ∧ -B ≤ n ∧ n ≤ B
theorem own_Iadd {a b v : Int32} {m n A B : Int} (hv : a + b = v) (ha : own_I a m A) (hb : own_I b n B) (h : decide (A + B < 2147483648) = true) : own_I v (m + n) (A + B) := by
  subst hv; simp only [decide_eq_true_eq] at h; obtain ⟨rfl, h1, h2⟩ := ha; obtain ⟨rfl, h3, h4⟩ := hb
  exact ⟨by rw [Int32.toInt_add]; exact Int.bmod_eq_of_le (by omega) (by omega), by omega, by omega⟩
theorem own_Isub {a b v : Int32} {m n A B : Int} (hv : a - b = v) (ha : own_I a m A) (hb : own_I b n B) (h : decide (A + B < 2147483648) = true) : own_I v (m - n) (A + B) := by
  subst hv; simp only [decide_eq_true_eq] at h; obtain ⟨rfl, h1, h2⟩ := ha; obtain ⟨rfl, h3, h4⟩ := hb
  exact ⟨by rw [Int32.toInt_sub]; exact Int.bmod_eq_of_le (by omega) (by omega), by omega, by omega⟩
theorem own_Imul {a b v : Int32} {m n A B : Int} (hv : a * b = v) (ha : own_I a m A) (hb : own_I b n B) (h : decide (A * B < 2147483648) = true) : own_I v (m * n) (A * B) := by
  subst hv; simp only [decide_eq_true_eq] at h; obtain ⟨rfl, h1⟩ := ha; obtain ⟨rfl, h3⟩ := hb
  have hb := own_bmul h1 h3
  exact ⟨by rw [Int32.toInt_mul]; exact Int.bmod_eq_of_le (by omega) (by omega), hb⟩
theorem own_Ladd {a b v : Int64} {m n A B : Int} (hv : a + b = v) (ha : own_L a m A) (hb : own_L b n B) (h : decide (A + B < 9223372036854775808) = true) : own_L v (m + n) (A + B) := by
  subst hv; simp only [decide_eq_true_eq] at h; obtain ⟨rfl, h1, h2⟩ := ha; obtain ⟨rfl, h3, h4⟩ := hb
  exact ⟨by rw [Int64.toInt_add]; exact Int.bmod_eq_of_le (by omega) (by omega), by omega, by omega⟩
theorem own_Lsub {a b v : Int64} {m n A B : Int} (hv : a - b = v) (ha : own_L a m A) (hb : own_L b n B) (h : decide (A + B < 9223372036854775808) = true) : own_L v (m - n) (A + B) := by
  subst hv; simp only [decide_eq_true_eq] at h; obtain ⟨rfl, h1, h2⟩ := ha; obtain ⟨rfl, h3, h4⟩ := hb
  exact ⟨by rw [Int64.toInt_sub]; exact Int.bmod_eq_of_le (by omega) (by omega), by omega, by omega⟩
theorem own_Lmul {a b v : Int64} {m n A B : Int} (hv : a * b = v) (ha : own_L a m A) (hb : own_L b n B) (h : decide (A * B < 9223372036854775808) = true) : own_L v (m * n) (A * B) := by
  subst hv; simp only [decide_eq_true_eq] at h; obtain ⟨rfl, h1⟩ := ha; obtain ⟨rfl, h3⟩ := hb
  have hb := own_bmul h1 h3
  exact ⟨by rw [Int64.toInt_mul]; exact Int.bmod_eq_of_le (by omega) (by omega), hb⟩
theorem own_Ii2l {a : Int32} {v : Int64} {m A : Int} (hv : Int32.toInt64 a = v) (ha : own_I a m A) : own_L v m A := by
  subst hv; exact ⟨by rw [Int32.toInt_toInt64]; exact ha.1, ha.2⟩
theorem own_Icast {v : Int32} {n n' A A' : Int} (h : own_I v n A) (hn : n = n') (hA : A ≤ A') : own_I v n' A' := by
  subst hn; exact ⟨h.1, by have := h.2; omega, by have := h.2; omega⟩
theorem own_Lcast {v : Int64} {n n' A A' : Int} (h : own_L v n A) (hn : n = n') (hA : A ≤ A') : own_L v n' A' := by
  subst hn; exact ⟨h.1, by have := h.2; omega, by have := h.2; omega⟩
theorem own_Bi2d {v : Int32} {n A : Int} (h : own_I v n A) : own_B (i2d v) n 0 A := by
  obtain ⟨rfl, h1⟩ := h; exact ⟨own_i2d v, h1⟩
theorem own_Bl2d {v : Int64} {n A : Int} (h : own_L v n A) (hA : decide (A ≤ 9007199254740992) = true) : own_B (l2d v) n 0 A := by
  simp only [decide_eq_true_eq] at hA; obtain ⟨rfl, h1⟩ := h; exact ⟨own_l2d (by omega), h1⟩
theorem own_Irng (v : Int32) : own_I v v.toInt 2147483648 := ⟨rfl, by have := Jvm.RoadKit.rng32 v; omega, by have := Jvm.RoadKit.rng32 v; omega⟩
theorem own_Iand {x m v : Int32} {B : Int} (hv : x &&& m = v) (hB : m.toInt = B) (h0 : 0 ≤ B) : own_I v v.toInt B := by
  have := Jvm.RoadKit.c_and x m (by omega); rw [hv] at this; exact ⟨rfl, by omega, by omega⟩
end OwnFP
section OwnStep
open Jvm Jvm.ClassFile Sem Op Lib Jvm.Free Jvm.Stand Jvm.LawKit Jvm.RoadKit
variable {tb : Tables} [Ours tb] {e : Env} {below : List Frame} {T target : State} {m : MethodId} {c : Code} {pc pc' : Nat} {L : Array Slot} {S : List Value}
theorem own_s_iadd (h : At T m c below) (hx : tb.exec = Jvm.exec) {x y v : Int32} (hd : decode c.code pc = .ok (.iadd, 1)) (hp : pc + 1 = pc') (hv : x + y = v)
    (hr : Steps tb e below (T.setTop (mkF m pc' L (.int v :: S))) target) : Steps tb e below (T.setTop (mkF m pc L (.int y :: .int x :: S))) target := by
  subst hv hp; exact XS.iadd h hx rfl hd rfl hr
theorem own_s_ladd (h : At T m c below) (hx : tb.exec = Jvm.exec) {x y v : Int64} (hd : decode c.code pc = .ok (.ladd, 1)) (hp : pc + 1 = pc') (hv : x + y = v)
    (hr : Steps tb e below (T.setTop (mkF m pc' L (.long v :: S))) target) : Steps tb e below (T.setTop (mkF m pc L (.long y :: .long x :: S))) target := by
  subst hv hp; exact XS.ladd h hx rfl hd rfl hr
theorem own_s_isub (h : At T m c below) (hx : tb.exec = Jvm.exec) {x y v : Int32} (hd : decode c.code pc = .ok (.isub, 1)) (hp : pc + 1 = pc') (hv : x - y = v)
    (hr : Steps tb e below (T.setTop (mkF m pc' L (.int v :: S))) target) : Steps tb e below (T.setTop (mkF m pc L (.int y :: .int x :: S))) target := by
  subst hv hp; exact XS.isub h hx rfl hd rfl hr
theorem own_s_lsub (h : At T m c below) (hx : tb.exec = Jvm.exec) {x y v : Int64} (hd : decode c.code pc = .ok (.lsub, 1)) (hp : pc + 1 = pc') (hv : x - y = v)
    (hr : Steps tb e below (T.setTop (mkF m pc' L (.long v :: S))) target) : Steps tb e below (T.setTop (mkF m pc L (.long y :: .long x :: S))) target := by
  subst hv hp; exact XS.lsub h hx rfl hd rfl hr
theorem own_s_imul (h : At T m c below) (hx : tb.exec = Jvm.exec) {x y v : Int32} (hd : decode c.code pc = .ok (.imul, 1)) (hp : pc + 1 = pc') (hv : x * y = v)
    (hr : Steps tb e below (T.setTop (mkF m pc' L (.int v :: S))) target) : Steps tb e below (T.setTop (mkF m pc L (.int y :: .int x :: S))) target := by
  subst hv hp; exact XS.imul h hx rfl hd rfl hr
theorem own_s_lmul (h : At T m c below) (hx : tb.exec = Jvm.exec) {x y v : Int64} (hd : decode c.code pc = .ok (.lmul, 1)) (hp : pc + 1 = pc') (hv : x * y = v)
    (hr : Steps tb e below (T.setTop (mkF m pc' L (.long v :: S))) target) : Steps tb e below (T.setTop (mkF m pc L (.long y :: .long x :: S))) target := by
  subst hv hp; exact XS.lmul h hx rfl hd rfl hr
theorem own_s_iand (h : At T m c below) (hx : tb.exec = Jvm.exec) {x y v : Int32} (hd : decode c.code pc = .ok (.iand, 1)) (hp : pc + 1 = pc') (hv : x &&& y = v)
    (hr : Steps tb e below (T.setTop (mkF m pc' L (.int v :: S))) target) : Steps tb e below (T.setTop (mkF m pc L (.int y :: .int x :: S))) target := by
  subst hv hp; exact XS.iand h hx rfl hd rfl hr
theorem own_s_land (h : At T m c below) (hx : tb.exec = Jvm.exec) {x y v : Int64} (hd : decode c.code pc = .ok (.land, 1)) (hp : pc + 1 = pc') (hv : x &&& y = v)
    (hr : Steps tb e below (T.setTop (mkF m pc' L (.long v :: S))) target) : Steps tb e below (T.setTop (mkF m pc L (.long y :: .long x :: S))) target := by
  subst hv hp; exact XS.land h hx rfl hd rfl hr
theorem own_s_ior (h : At T m c below) (hx : tb.exec = Jvm.exec) {x y v : Int32} (hd : decode c.code pc = .ok (.ior, 1)) (hp : pc + 1 = pc') (hv : x ||| y = v)
    (hr : Steps tb e below (T.setTop (mkF m pc' L (.int v :: S))) target) : Steps tb e below (T.setTop (mkF m pc L (.int y :: .int x :: S))) target := by
  subst hv hp; exact XS.ior h hx rfl hd rfl hr
theorem own_s_lor (h : At T m c below) (hx : tb.exec = Jvm.exec) {x y v : Int64} (hd : decode c.code pc = .ok (.lor, 1)) (hp : pc + 1 = pc') (hv : x ||| y = v)
    (hr : Steps tb e below (T.setTop (mkF m pc' L (.long v :: S))) target) : Steps tb e below (T.setTop (mkF m pc L (.long y :: .long x :: S))) target := by
  subst hv hp; exact XS.lor h hx rfl hd rfl hr
theorem own_s_ixor (h : At T m c below) (hx : tb.exec = Jvm.exec) {x y v : Int32} (hd : decode c.code pc = .ok (.ixor, 1)) (hp : pc + 1 = pc') (hv : x ^^^ y = v)
    (hr : Steps tb e below (T.setTop (mkF m pc' L (.int v :: S))) target) : Steps tb e below (T.setTop (mkF m pc L (.int y :: .int x :: S))) target := by
  subst hv hp; exact XS.ixor h hx rfl hd rfl hr
theorem own_s_lxor (h : At T m c below) (hx : tb.exec = Jvm.exec) {x y v : Int64} (hd : decode c.code pc = .ok (.lxor, 1)) (hp : pc + 1 = pc') (hv : x ^^^ y = v)
    (hr : Steps tb e below (T.setTop (mkF m pc' L (.long v :: S))) target) : Steps tb e below (T.setTop (mkF m pc L (.long y :: .long x :: S))) target := by
  subst hv hp; exact XS.lxor h hx rfl hd rfl hr
theorem own_s_idiv (h : At T m c below) (hx : tb.exec = Jvm.exec) {x y v : Int32} (hd : decode c.code pc = .ok (.idiv, 1)) (hp : pc + 1 = pc') (hy : y ≠ 0) (hv : x / y = v)
    (hr : Steps tb e below (T.setTop (mkF m pc' L (.int v :: S))) target) : Steps tb e below (T.setTop (mkF m pc L (.int y :: .int x :: S))) target := by
  subst hv hp; exact XS.idiv h hx rfl hd rfl hy hr
theorem own_s_irem (h : At T m c below) (hx : tb.exec = Jvm.exec) {x y v : Int32} (hd : decode c.code pc = .ok (.irem, 1)) (hp : pc + 1 = pc') (hy : y ≠ 0) (hv : x % y = v)
    (hr : Steps tb e below (T.setTop (mkF m pc' L (.int v :: S))) target) : Steps tb e below (T.setTop (mkF m pc L (.int y :: .int x :: S))) target := by
  subst hv hp; rw [← irem_eq_mod] at hr; exact XS.irem h hx rfl hd rfl hy hr
theorem own_s_ldiv (h : At T m c below) (hx : tb.exec = Jvm.exec) {x y v : Int64} (hd : decode c.code pc = .ok (.ldiv, 1)) (hp : pc + 1 = pc') (hy : y ≠ 0) (hv : x / y = v)
    (hr : Steps tb e below (T.setTop (mkF m pc' L (.long v :: S))) target) : Steps tb e below (T.setTop (mkF m pc L (.long y :: .long x :: S))) target := by
  subst hv hp; exact XS.ldiv h hx rfl hd rfl hy hr
theorem own_s_lrem (h : At T m c below) (hx : tb.exec = Jvm.exec) {x y v : Int64} (hd : decode c.code pc = .ok (.lrem, 1)) (hp : pc + 1 = pc') (hy : y ≠ 0) (hv : x % y = v)
    (hr : Steps tb e below (T.setTop (mkF m pc' L (.long v :: S))) target) : Steps tb e below (T.setTop (mkF m pc L (.long y :: .long x :: S))) target := by
  subst hv hp; rw [← lrem_mod] at hr; exact XS.lrem h hx rfl hd rfl hy hr
theorem own_s_ishl (h : At T m c below) (hx : tb.exec = Jvm.exec) {x y v : Int32} (hd : decode c.code pc = .ok (.ishl, 1)) (hp : pc + 1 = pc') (hv : x <<< (y &&& 31) = v)
    (hr : Steps tb e below (T.setTop (mkF m pc' L (.int v :: S))) target) : Steps tb e below (T.setTop (mkF m pc L (.int y :: .int x :: S))) target := by
  subst hv hp; exact XS.ishl h hx rfl hd rfl hr
theorem own_s_ishr (h : At T m c below) (hx : tb.exec = Jvm.exec) {x y v : Int32} (hd : decode c.code pc = .ok (.ishr, 1)) (hp : pc + 1 = pc') (hv : x >>> (y &&& 31) = v)
    (hr : Steps tb e below (T.setTop (mkF m pc' L (.int v :: S))) target) : Steps tb e below (T.setTop (mkF m pc L (.int y :: .int x :: S))) target := by
  subst hv hp; exact XS.ishr h hx rfl hd rfl hr
theorem own_s_iushr (h : At T m c below) (hx : tb.exec = Jvm.exec) {x y v : Int32} (hd : decode c.code pc = .ok (.iushr, 1)) (hp : pc + 1 = pc') (hv : (x.toUInt32 >>> (y &&& 31).toUInt32).toInt32 = v)
    (hr : Steps tb e below (T.setTop (mkF m pc' L (.int v :: S))) target) : Steps tb e below (T.setTop (mkF m pc L (.int y :: .int x :: S))) target := by
  subst hv hp; exact XS.iushr h hx rfl hd rfl hr
theorem own_s_lshl (h : At T m c below) (hx : tb.exec = Jvm.exec) {x v : Int64} {y : Int32} (hd : decode c.code pc = .ok (.lshl, 1)) (hp : pc + 1 = pc') (hv : x <<< (y &&& 63).toInt64 = v)
    (hr : Steps tb e below (T.setTop (mkF m pc' L (.long v :: S))) target) : Steps tb e below (T.setTop (mkF m pc L (.int y :: .long x :: S))) target := by
  subst hv hp; exact XS.lshl h hx rfl hd rfl hr
theorem own_s_lshr (h : At T m c below) (hx : tb.exec = Jvm.exec) {x v : Int64} {y : Int32} (hd : decode c.code pc = .ok (.lshr, 1)) (hp : pc + 1 = pc') (hv : x >>> (y &&& 63).toInt64 = v)
    (hr : Steps tb e below (T.setTop (mkF m pc' L (.long v :: S))) target) : Steps tb e below (T.setTop (mkF m pc L (.int y :: .long x :: S))) target := by
  subst hv hp; exact XS.lshr h hx rfl hd rfl hr
theorem own_s_lushr (h : At T m c below) (hx : tb.exec = Jvm.exec) {x v : Int64} {y : Int32} (hd : decode c.code pc = .ok (.lushr, 1)) (hp : pc + 1 = pc') (hv : (x.toUInt64 >>> (y &&& 63).toInt64.toUInt64).toInt64 = v)
    (hr : Steps tb e below (T.setTop (mkF m pc' L (.long v :: S))) target) : Steps tb e below (T.setTop (mkF m pc L (.int y :: .long x :: S))) target := by
  subst hv hp; exact XS.lushr h hx rfl hd rfl hr
theorem own_s_i2l (h : At T m c below) (hx : tb.exec = Jvm.exec) {x : Int32} {v : Int64} (hd : decode c.code pc = .ok (.i2l, 1)) (hp : pc + 1 = pc') (hv : x.toInt64 = v)
    (hr : Steps tb e below (T.setTop (mkF m pc' L (.long v :: S))) target) : Steps tb e below (T.setTop (mkF m pc L (.int x :: S))) target := by
  subst hv hp; exact XS.i2l h hx rfl hd rfl hr
theorem own_s_l2i (h : At T m c below) (hx : tb.exec = Jvm.exec) {x : Int64} {v : Int32} (hd : decode c.code pc = .ok (.l2i, 1)) (hp : pc + 1 = pc') (hv : x.toInt32 = v)
    (hr : Steps tb e below (T.setTop (mkF m pc' L (.int v :: S))) target) : Steps tb e below (T.setTop (mkF m pc L (.long x :: S))) target := by
  subst hv hp; exact XS.l2i h hx rfl hd rfl hr
theorem own_s_i2b (h : At T m c below) (hx : tb.exec = Jvm.exec) {x : Int32} {v : Int32} (hd : decode c.code pc = .ok (.i2b, 1)) (hp : pc + 1 = pc') (hv : x.toInt8.toInt32 = v)
    (hr : Steps tb e below (T.setTop (mkF m pc' L (.int v :: S))) target) : Steps tb e below (T.setTop (mkF m pc L (.int x :: S))) target := by
  subst hv hp; exact XS.i2b h hx rfl hd rfl hr
theorem own_s_i2s (h : At T m c below) (hx : tb.exec = Jvm.exec) {x : Int32} {v : Int32} (hd : decode c.code pc = .ok (.i2s, 1)) (hp : pc + 1 = pc') (hv : x.toInt16.toInt32 = v)
    (hr : Steps tb e below (T.setTop (mkF m pc' L (.int v :: S))) target) : Steps tb e below (T.setTop (mkF m pc L (.int x :: S))) target := by
  subst hv hp; exact XS.i2s h hx rfl hd rfl hr
theorem own_s_ineg (h : At T m c below) (hx : tb.exec = Jvm.exec) {x : Int32} {v : Int32} (hd : decode c.code pc = .ok (.ineg, 1)) (hp : pc + 1 = pc') (hv : -x = v)
    (hr : Steps tb e below (T.setTop (mkF m pc' L (.int v :: S))) target) : Steps tb e below (T.setTop (mkF m pc L (.int x :: S))) target := by
  subst hv hp; exact XS.ineg h hx rfl hd rfl hr
theorem own_s_lneg (h : At T m c below) (hx : tb.exec = Jvm.exec) {x : Int64} {v : Int64} (hd : decode c.code pc = .ok (.lneg, 1)) (hp : pc + 1 = pc') (hv : -x = v)
    (hr : Steps tb e below (T.setTop (mkF m pc' L (.long v :: S))) target) : Steps tb e below (T.setTop (mkF m pc L (.long x :: S))) target := by
  subst hv hp; exact XS.lneg h hx rfl hd rfl hr
theorem own_s_i2d (h : At T m c below) (hx : tb.exec = Jvm.exec) {x : Int32} {v : UInt64} (hd : decode c.code pc = .ok (.i2d, 1)) (hp : pc + 1 = pc') (hv : FP.i2d x = v)
    (hr : Steps tb e below (T.setTop (mkF m pc' L (.double v :: S))) target) : Steps tb e below (T.setTop (mkF m pc L (.int x :: S))) target := by
  subst hv hp; exact XS.i2dS h hx rfl hd rfl rfl hr
theorem own_s_l2d (h : At T m c below) (hx : tb.exec = Jvm.exec) {x : Int64} {v : UInt64} (hd : decode c.code pc = .ok (.l2d, 1)) (hp : pc + 1 = pc') (hv : FP.l2d x = v)
    (hr : Steps tb e below (T.setTop (mkF m pc' L (.double v :: S))) target) : Steps tb e below (T.setTop (mkF m pc L (.long x :: S))) target := by
  subst hv hp; exact XS.l2dS h hx rfl hd rfl rfl hr
theorem own_s_dneg (h : At T m c below) (hx : tb.exec = Jvm.exec) {x : UInt64} {v : UInt64} (hd : decode c.code pc = .ok (.dneg, 1)) (hp : pc + 1 = pc') (hv : FP.dneg x = v)
    (hr : Steps tb e below (T.setTop (mkF m pc' L (.double v :: S))) target) : Steps tb e below (T.setTop (mkF m pc L (.double x :: S))) target := by
  subst hv hp; exact XS.dnegS h hx rfl hd rfl rfl hr
theorem own_s_dadd (h : At T m c below) (hx : tb.exec = Jvm.exec) {x y v : UInt64} (hd : decode c.code pc = .ok (.dadd, 1)) (hp : pc + 1 = pc') (hn : Jvm.Free.Fl.NoNaN64 (FP.dadd x y)) (hv : FP.dadd x y = v)
    (hr : Steps tb e below (T.setTop (mkF m pc' L (.double v :: S))) target) : Steps tb e below (T.setTop (mkF m pc L (.double y :: .double x :: S))) target := by
  subst hv hp; exact XS.daddS h hx rfl hd rfl hn rfl hr
theorem own_s_dsub (h : At T m c below) (hx : tb.exec = Jvm.exec) {x y v : UInt64} (hd : decode c.code pc = .ok (.dsub, 1)) (hp : pc + 1 = pc') (hn : Jvm.Free.Fl.NoNaN64 (FP.dsub x y)) (hv : FP.dsub x y = v)
    (hr : Steps tb e below (T.setTop (mkF m pc' L (.double v :: S))) target) : Steps tb e below (T.setTop (mkF m pc L (.double y :: .double x :: S))) target := by
  subst hv hp; exact XS.dsubS h hx rfl hd rfl hn rfl hr
theorem own_s_dmul (h : At T m c below) (hx : tb.exec = Jvm.exec) {x y v : UInt64} (hd : decode c.code pc = .ok (.dmul, 1)) (hp : pc + 1 = pc') (hn : Jvm.Free.Fl.NoNaN64 (FP.dmul x y)) (hv : FP.dmul x y = v)
    (hr : Steps tb e below (T.setTop (mkF m pc' L (.double v :: S))) target) : Steps tb e below (T.setTop (mkF m pc L (.double y :: .double x :: S))) target := by
  subst hv hp; exact XS.dmulS h hx rfl hd rfl hn rfl hr
theorem own_s_ddiv (h : At T m c below) (hx : tb.exec = Jvm.exec) {x y v : UInt64} (hd : decode c.code pc = .ok (.ddiv, 1)) (hp : pc + 1 = pc') (hn : Jvm.Free.Fl.NoNaN64 (FP.ddiv x y)) (hv : FP.ddiv x y = v)
    (hr : Steps tb e below (T.setTop (mkF m pc' L (.double v :: S))) target) : Steps tb e below (T.setTop (mkF m pc L (.double y :: .double x :: S))) target := by
  subst hv hp; exact XS.ddivS h hx rfl hd rfl hn rfl hr
theorem own_s_dcmp (h : At T m c below) (hx : tb.exec = Jvm.exec) {o : CmpOp} {x y : UInt64} {v : Int32} (hd : decode c.code pc = .ok (.dcmp o, 1)) (hp : pc + 1 = pc') (hv : Op.cmpValue (FP.dcmp x y) o = v)
    (hr : Steps tb e below (T.setTop (mkF m pc' L (.int v :: S))) target) : Steps tb e below (T.setTop (mkF m pc L (.double y :: .double x :: S))) target := by
  subst hv hp; exact XS.dcmpS h hx rfl hd rfl rfl hr
theorem own_s_lcmp (h : At T m c below) (hx : tb.exec = Jvm.exec) {x y : Int64} {v : Int32} (hd : decode c.code pc = .ok (.lcmp, 1)) (hp : pc + 1 = pc') (hv : lcmpW x y = v)
    (hr : Steps tb e below (T.setTop (mkF m pc' L (.int v :: S))) target) : Steps tb e below (T.setTop (mkF m pc L (.long y :: .long x :: S))) target := by
  subst hv hp; exact XS.lcmp h hx rfl hd rfl hr
theorem own_s_iconst (h : At T m c below) (hx : tb.exec = Jvm.exec) {i : Int} {v : Int32} (hd : decode c.code pc = .ok (.iconst i, 1)) (hp : pc + 1 = pc') (hv : Int32.ofInt i = v)
    (hr : Steps tb e below (T.setTop (mkF m pc' L (.int v :: S))) target) : Steps tb e below (T.setTop (mkF m pc L S)) target := by
  subst hv hp; exact XS.iconst h hx rfl hd hr
theorem own_s_bipush (h : At T m c below) (hx : tb.exec = Jvm.exec) {i : Int} {v : Int32} (hd : decode c.code pc = .ok (.bipush i, 2)) (hp : pc + 2 = pc') (hv : (Int8.ofInt i).toInt32 = v)
    (hr : Steps tb e below (T.setTop (mkF m pc' L (.int v :: S))) target) : Steps tb e below (T.setTop (mkF m pc L S)) target := by
  subst hv hp; exact XS.bipush h hx rfl hd hr
theorem own_s_sipush (h : At T m c below) (hx : tb.exec = Jvm.exec) {i : Int} {v : Int32} (hd : decode c.code pc = .ok (.sipush i, 3)) (hp : pc + 3 = pc') (hv : (Int16.ofInt i).toInt32 = v)
    (hr : Steps tb e below (T.setTop (mkF m pc' L (.int v :: S))) target) : Steps tb e below (T.setTop (mkF m pc L S)) target := by
  subst hv hp; exact XS.sipush h hx rfl hd hr
theorem own_s_lconst (h : At T m c below) (hx : tb.exec = Jvm.exec) {k : Fin 2} {v : Int64} (hd : decode c.code pc = .ok (.lconst k, 1)) (hp : pc + 1 = pc') (hv : Int64.ofNat k = v)
    (hr : Steps tb e below (T.setTop (mkF m pc' L (.long v :: S))) target) : Steps tb e below (T.setTop (mkF m pc L S)) target := by
  subst hv hp; exact XS.lconst h hx rfl hd hr
theorem own_s_dconst0 (h : At T m c below) (hx : tb.exec = Jvm.exec)  (hd : decode c.code pc = .ok (.dconst 0, 1)) (hp : pc + 1 = pc') 
    (hr : Steps tb e below (T.setTop (mkF m pc' L (.double 0 :: S))) target) : Steps tb e below (T.setTop (mkF m pc L S)) target := by
  subst hp; exact XS.dconst0 h hx rfl hd rfl hr
theorem own_s_dconst1 (h : At T m c below) (hx : tb.exec = Jvm.exec)  (hd : decode c.code pc = .ok (.dconst 1, 1)) (hp : pc + 1 = pc') 
    (hr : Steps tb e below (T.setTop (mkF m pc' L (.double 4607182418800017408 :: S))) target) : Steps tb e below (T.setTop (mkF m pc L S)) target := by
  subst hp; exact XS.dconst1 h hx rfl hd rfl hr
theorem own_s_aconst_null (h : At T m c below) (hx : tb.exec = Jvm.exec)  (hd : decode c.code pc = .ok (.aconst_null, 1)) (hp : pc + 1 = pc') 
    (hr : Steps tb e below (T.setTop (mkF m pc' L (.null :: S))) target) : Steps tb e below (T.setTop (mkF m pc L S)) target := by
  subst hp; exact XS.aconstNull h hx rfl hd hr
theorem own_s_dup (h : At T m c below) (hx : tb.exec = Jvm.exec) {x : Value} (hd : decode c.code pc = .ok (.dup, 1)) (hp : pc + 1 = pc') (hc : x.category = 1)
    (hr : Steps tb e below (T.setTop (mkF m pc' L (x :: x :: S))) target) : Steps tb e below (T.setTop (mkF m pc L (x :: S))) target := by
  subst hp; exact XS.dup h hx rfl hd rfl hc hr
theorem own_s_dupX1 (h : At T m c below) (hx : tb.exec = Jvm.exec) {x y : Value} (hd : decode c.code pc = .ok (.dup_x1, 1)) (hp : pc + 1 = pc') (hc : x.category = 1) (hc' : y.category = 1)
    (hr : Steps tb e below (T.setTop (mkF m pc' L (x :: y :: x :: S))) target) : Steps tb e below (T.setTop (mkF m pc L (x :: y :: S))) target := by
  subst hp; exact XS.dupX1 h hx rfl hd rfl hc hc' hr
theorem own_s_pop (h : At T m c below) (hx : tb.exec = Jvm.exec) {x : Value} (hd : decode c.code pc = .ok (.pop, 1)) (hp : pc + 1 = pc') (hc : x.category = 1)
    (hr : Steps tb e below (T.setTop (mkF m pc' L S)) target) : Steps tb e below (T.setTop (mkF m pc L (x :: S))) target := by
  subst hp; exact XS.pop h hx rfl hd rfl hc hr
theorem own_s_iloadN (h : At T m c below) (hx : tb.exec = Jvm.exec) {k : Fin 4} {v : Int32} (hd : decode c.code pc = .ok (.iload_n k, 1)) (hp : pc + 1 = pc') (hl : L[k.val]? = some (.val (.int v)))
    (hr : Steps tb e below (T.setTop (mkF m pc' L (.int v :: S))) target) : Steps tb e below (T.setTop (mkF m pc L S)) target := by
  subst hp; exact XS.iloadN h hx rfl hd hl hr
theorem own_s_iload (h : At T m c below) (hx : tb.exec = Jvm.exec) {k : Nat} {v : Int32} (hd : decode c.code pc = .ok (.iload k, 2)) (hp : pc + 2 = pc') (hl : L[k]? = some (.val (.int v)))
    (hr : Steps tb e below (T.setTop (mkF m pc' L (.int v :: S))) target) : Steps tb e below (T.setTop (mkF m pc L S)) target := by
  subst hp; exact XS.iload h hx rfl hd hl hr
theorem own_s_istoreN (h : At T m c below) (hx : tb.exec = Jvm.exec) {k : Fin 4} {v : Int32} {L' : Array Slot} (hd : decode c.code pc = .ok (.istore_n k, 1)) (hp : pc + 1 = pc') (hl : storeLocals L k.val (.int v) = some L')
    (hr : Steps tb e below (T.setTop (mkF m pc' L' S)) target) : Steps tb e below (T.setTop (mkF m pc L (.int v :: S))) target := by
  subst hp; exact XS.istoreN h hx rfl hd rfl hl hr
theorem own_s_istore (h : At T m c below) (hx : tb.exec = Jvm.exec) {k : Nat} {v : Int32} {L' : Array Slot} (hd : decode c.code pc = .ok (.istore k, 2)) (hp : pc + 2 = pc') (hl : storeLocals L k (.int v) = some L')
    (hr : Steps tb e below (T.setTop (mkF m pc' L' S)) target) : Steps tb e below (T.setTop (mkF m pc L (.int v :: S))) target := by
  subst hp; exact XS.istore h hx rfl hd rfl hl hr
theorem own_s_lloadN (h : At T m c below) (hx : tb.exec = Jvm.exec) {k : Fin 4} {v : Int64} (hd : decode c.code pc = .ok (.lload_n k, 1)) (hp : pc + 1 = pc') (hl : L[k.val]? = some (.val (.long v)))
    (hr : Steps tb e below (T.setTop (mkF m pc' L (.long v :: S))) target) : Steps tb e below (T.setTop (mkF m pc L S)) target := by
  subst hp; exact XS.lloadN h hx rfl hd hl hr
theorem own_s_lload (h : At T m c below) (hx : tb.exec = Jvm.exec) {k : Nat} {v : Int64} (hd : decode c.code pc = .ok (.lload k, 2)) (hp : pc + 2 = pc') (hl : L[k]? = some (.val (.long v)))
    (hr : Steps tb e below (T.setTop (mkF m pc' L (.long v :: S))) target) : Steps tb e below (T.setTop (mkF m pc L S)) target := by
  subst hp; exact XS.lload h hx rfl hd hl hr
theorem own_s_lstoreN (h : At T m c below) (hx : tb.exec = Jvm.exec) {k : Fin 4} {v : Int64} {L' : Array Slot} (hd : decode c.code pc = .ok (.lstore_n k, 1)) (hp : pc + 1 = pc') (hl : storeLocals L k.val (.long v) = some L')
    (hr : Steps tb e below (T.setTop (mkF m pc' L' S)) target) : Steps tb e below (T.setTop (mkF m pc L (.long v :: S))) target := by
  subst hp; exact XS.lstoreN h hx rfl hd rfl hl hr
theorem own_s_lstore (h : At T m c below) (hx : tb.exec = Jvm.exec) {k : Nat} {v : Int64} {L' : Array Slot} (hd : decode c.code pc = .ok (.lstore k, 2)) (hp : pc + 2 = pc') (hl : storeLocals L k (.long v) = some L')
    (hr : Steps tb e below (T.setTop (mkF m pc' L' S)) target) : Steps tb e below (T.setTop (mkF m pc L (.long v :: S))) target := by
  subst hp; exact XS.lstore h hx rfl hd rfl hl hr
theorem own_s_dloadN (h : At T m c below) (hx : tb.exec = Jvm.exec) {k : Fin 4} {v : UInt64} (hd : decode c.code pc = .ok (.dload_n k, 1)) (hp : pc + 1 = pc') (hl : L[k.val]? = some (.val (.double v)))
    (hr : Steps tb e below (T.setTop (mkF m pc' L (.double v :: S))) target) : Steps tb e below (T.setTop (mkF m pc L S)) target := by
  subst hp; exact XS.dloadN h hx rfl hd hl hr
theorem own_s_dload (h : At T m c below) (hx : tb.exec = Jvm.exec) {k : Nat} {v : UInt64} (hd : decode c.code pc = .ok (.dload k, 2)) (hp : pc + 2 = pc') (hl : L[k]? = some (.val (.double v)))
    (hr : Steps tb e below (T.setTop (mkF m pc' L (.double v :: S))) target) : Steps tb e below (T.setTop (mkF m pc L S)) target := by
  subst hp; exact XS.dload h hx rfl hd hl hr
theorem own_s_dstoreN (h : At T m c below) (hx : tb.exec = Jvm.exec) {k : Fin 4} {v : UInt64} {L' : Array Slot} (hd : decode c.code pc = .ok (.dstore_n k, 1)) (hp : pc + 1 = pc') (hl : storeLocals L k.val (.double v) = some L')
    (hr : Steps tb e below (T.setTop (mkF m pc' L' S)) target) : Steps tb e below (T.setTop (mkF m pc L (.double v :: S))) target := by
  subst hp; exact XS.dstoreN h hx rfl hd rfl hl hr
theorem own_s_dstore (h : At T m c below) (hx : tb.exec = Jvm.exec) {k : Nat} {v : UInt64} {L' : Array Slot} (hd : decode c.code pc = .ok (.dstore k, 2)) (hp : pc + 2 = pc') (hl : storeLocals L k (.double v) = some L')
    (hr : Steps tb e below (T.setTop (mkF m pc' L' S)) target) : Steps tb e below (T.setTop (mkF m pc L (.double v :: S))) target := by
  subst hp; exact XS.dstore h hx rfl hd rfl hl hr
theorem own_s_aloadN (h : At T m c below) (hx : tb.exec = Jvm.exec) {k : Fin 4} {v : Value} (hd : decode c.code pc = .ok (.aload_n k, 1)) (hp : pc + 1 = pc') (hl : L[k.val]? = some (.val v)) (hr0 : v.isRef = true)
    (hr : Steps tb e below (T.setTop (mkF m pc' L (v :: S))) target) : Steps tb e below (T.setTop (mkF m pc L S)) target := by
  subst hp; exact XS.aloadN h hx rfl hd hl hr0 hr
theorem own_s_aload (h : At T m c below) (hx : tb.exec = Jvm.exec) {k : Nat} {v : Value} (hd : decode c.code pc = .ok (.aload k, 2)) (hp : pc + 2 = pc') (hl : L[k]? = some (.val v)) (hr0 : v.isRef = true)
    (hr : Steps tb e below (T.setTop (mkF m pc' L (v :: S))) target) : Steps tb e below (T.setTop (mkF m pc L S)) target := by
  subst hp; exact XS.aload h hx rfl hd hl hr0 hr
theorem own_s_astoreN (h : At T m c below) (hx : tb.exec = Jvm.exec) {k : Fin 4} {v : Value} {L' : Array Slot} (hd : decode c.code pc = .ok (.astore_n k, 1)) (hp : pc + 1 = pc') (hr0 : v.isRef = true) (hl : storeLocals L k.val v = some L')
    (hr : Steps tb e below (T.setTop (mkF m pc' L' S)) target) : Steps tb e below (T.setTop (mkF m pc L (v :: S))) target := by
  subst hp; exact XS.astoreN h hx rfl hd rfl hr0 hl hr
theorem own_s_astore (h : At T m c below) (hx : tb.exec = Jvm.exec) {k : Nat} {v : Value} {L' : Array Slot} (hd : decode c.code pc = .ok (.astore k, 2)) (hp : pc + 2 = pc') (hr0 : v.isRef = true) (hl : storeLocals L k v = some L')
    (hr : Steps tb e below (T.setTop (mkF m pc' L' S)) target) : Steps tb e below (T.setTop (mkF m pc L (v :: S))) target := by
  subst hp; exact XS.astore h hx rfl hd rfl hr0 hl hr
theorem own_s_iinc (h : At T m c below) (hx : tb.exec = Jvm.exec) {k : Nat} {cst : Int} {x v : Int32} {L' : Array Slot} (hd : decode c.code pc = .ok (.iinc k cst, 3)) (hp : pc + 3 = pc') (hl : L[k]? = some (.val (.int x))) (hv : x + Int32.ofInt cst = v) (hl' : storeLocals L k (.int v) = some L')
    (hr : Steps tb e below (T.setTop (mkF m pc' L' S)) target) : Steps tb e below (T.setTop (mkF m pc L S)) target := by
  subst hv hp; exact XS.iinc h hx rfl hd hl hl' hr
theorem own_s_goto (h : At T m c below) (hx : tb.exec = Jvm.exec)  {o : Int} (hd : decode c.code pc = .ok (.goto o, 3)) (ho : 0 ≤ (pc : Int) + o) (hp : ((pc : Int) + o).toNat = pc') 
    (hr : Steps tb e below (T.setTop (mkF m pc' L S)) target) : Steps tb e below (T.setTop (mkF m pc L S)) target := by
  exact XS.goto h hx rfl rfl hd ho hp hr
theorem own_s_ifYes (h : At T m c below) (hx : tb.exec = Jvm.exec) {cd : ClassFile.Cond} {x : Int32} {o : Int} (hd : decode c.code pc = .ok (.ifCond cd o, 3)) (ho : 0 ≤ (pc : Int) + o) (hp : ((pc : Int) + o).toNat = pc') (hc : ifCond.holds cd x = true)
    (hr : Steps tb e below (T.setTop (mkF m pc' L S)) target) : Steps tb e below (T.setTop (mkF m pc L (.int x :: S))) target := by
  exact XS.ifYes h hx rfl rfl hd rfl hc ho hp hr
theorem own_s_icmpYes (h : At T m c below) (hx : tb.exec = Jvm.exec) {cd : ClassFile.Cond} {x y : Int32} {o : Int} (hd : decode c.code pc = .ok (.if_icmp cd o, 3)) (ho : 0 ≤ (pc : Int) + o) (hp : ((pc : Int) + o).toNat = pc') (hc : if_icmp.holds cd x y = true)
    (hr : Steps tb e below (T.setTop (mkF m pc' L S)) target) : Steps tb e below (T.setTop (mkF m pc L (.int y :: .int x :: S))) target := by
  exact XS.icmpYes h hx rfl rfl hd rfl hc ho hp hr
theorem own_s_ifNo (h : At T m c below) (hx : tb.exec = Jvm.exec) {cd : ClassFile.Cond} {o : Int} {x : Int32} (hd : decode c.code pc = .ok (.ifCond cd o, 3)) (hp : pc + 3 = pc') (hc : ifCond.holds cd x = false)
    (hr : Steps tb e below (T.setTop (mkF m pc' L S)) target) : Steps tb e below (T.setTop (mkF m pc L (.int x :: S))) target := by
  subst hp; exact XS.ifNo h hx rfl hd rfl hc hr
theorem own_s_icmpNo (h : At T m c below) (hx : tb.exec = Jvm.exec) {cd : ClassFile.Cond} {o : Int} {x y : Int32} (hd : decode c.code pc = .ok (.if_icmp cd o, 3)) (hp : pc + 3 = pc') (hc : if_icmp.holds cd x y = false)
    (hr : Steps tb e below (T.setTop (mkF m pc' L S)) target) : Steps tb e below (T.setTop (mkF m pc L (.int y :: .int x :: S))) target := by
  subst hp; exact XS.icmpNo h hx rfl hd rfl hc hr
theorem own_s_ifnullYes (h : At T m c below) (hx : tb.exec = Jvm.exec)  {o : Int} (hd : decode c.code pc = .ok (.ifnull o, 3)) (ho : 0 ≤ (pc : Int) + o) (hp : ((pc : Int) + o).toNat = pc') 
    (hr : Steps tb e below (T.setTop (mkF m pc' L S)) target) : Steps tb e below (T.setTop (mkF m pc L (.null :: S))) target := by
  exact XS.ifnullYes h hx rfl rfl hd rfl ho hp hr
theorem own_s_ifnullNo (h : At T m c below) (hx : tb.exec = Jvm.exec) {o : Int} {b : Addr} (hd : decode c.code pc = .ok (.ifnull o, 3)) (hp : pc + 3 = pc') 
    (hr : Steps tb e below (T.setTop (mkF m pc' L S)) target) : Steps tb e below (T.setTop (mkF m pc L (.ref b :: S))) target := by
  subst hp; exact XS.ifnullNo h hx rfl hd rfl hr
theorem own_s_ifnonnullYes (h : At T m c below) (hx : tb.exec = Jvm.exec) {b : Addr} {o : Int} (hd : decode c.code pc = .ok (.ifnonnull o, 3)) (ho : 0 ≤ (pc : Int) + o) (hp : ((pc : Int) + o).toNat = pc') 
    (hr : Steps tb e below (T.setTop (mkF m pc' L S)) target) : Steps tb e below (T.setTop (mkF m pc L (.ref b :: S))) target := by
  exact XS.ifnonnullYes h hx rfl rfl hd rfl ho hp hr
theorem own_s_ifnonnullNo (h : At T m c below) (hx : tb.exec = Jvm.exec) {o : Int} (hd : decode c.code pc = .ok (.ifnonnull o, 3)) (hp : pc + 3 = pc') 
    (hr : Steps tb e below (T.setTop (mkF m pc' L S)) target) : Steps tb e below (T.setTop (mkF m pc L (.null :: S))) target := by
  subst hp; exact XS.ifnonnullNo h hx rfl hd rfl hr
end OwnStep
section OwnHeap
open Jvm Jvm.ClassFile Sem Op Lib Jvm.Free Jvm.Stand Jvm.LawKit Jvm.RoadKit
variable {p : Program} {l : Launch} {e : Env} {R : Room} {s : State} {m : MethodId} {args : Array Value} {below : List Frame} {meth : Method} {c : Code} {T : State} {locs : List Loc} {cells slots : Nat} {Z : State} {a0 : Array Value} {h : Heap} {pc pc' : Nat} {L : Array Slot} {S : List Value} {a : Addr} {k : ClassId} {z : Int32} {vs : List Value} {dv : Value}
theorem own_newD (X : Stand p l e R s m args below meth c T locs cells slots) (hx : p.tables.exec = Jvm.exec) (hZ : Z.Warmed39 s.vm) (w : (Jvm.Cond.arrayClass .double).before a0 Z = true) (eT : T.heap = h) (n : Nat) (hz : z.toNatClampNeg = n) (hz0 : ¬ z < 0) (hb : n * 8 ≤ 536870912) (hc : cells + 1 ≤ R.cells) (hl : slots + n ≤ R.slots) (hd : decode c.code pc = .ok (.newarray .double, 2)) (hp : pc + 2 = pc') :
    ∃ T' h' k b, Stand p l e R s m args below meth c T' locs (cells + 1) (slots + n) ∧ T'.heap = h' ∧ Ext h h' ∧ b = h.size ∧ Arv Z h' b k .double z (List.replicate n (.double 0)) (.double 0) ∧ ∀ target, Steps p.tables e below (T'.setTop (mkF m pc' L (.ref b :: S))) target → Steps p.tables e below (T.setTop (mkF m pc L (.int z :: S))) target := by
  subst hp
  obtain ⟨T', h', k, X', e', E, A, st⟩ := newP X hx hZ (aty := .double) w eT (g := mkF m pc L (.int z :: S)) rfl hd rfl hz0 (cap := n) (Nat.le_of_eq hz) hb hc hl
  exact ⟨T', h', k, h.size, X', e', E, rfl, (Arv.new A hz0).pad (pad_rep [] (.double 0) n), st⟩
theorem own_newJ (X : Stand p l e R s m args below meth c T locs cells slots) (hx : p.tables.exec = Jvm.exec) (hZ : Z.Warmed39 s.vm) (w : (Jvm.Cond.arrayClass .long).before a0 Z = true) (eT : T.heap = h) (n : Nat) (hz : z.toNatClampNeg = n) (hz0 : ¬ z < 0) (hb : n * 8 ≤ 536870912) (hc : cells + 1 ≤ R.cells) (hl : slots + n ≤ R.slots) (hd : decode c.code pc = .ok (.newarray .long, 2)) (hp : pc + 2 = pc') :
    ∃ T' h' k b, Stand p l e R s m args below meth c T' locs (cells + 1) (slots + n) ∧ T'.heap = h' ∧ Ext h h' ∧ b = h.size ∧ Arv Z h' b k .long z (List.replicate n (.long 0)) (.long 0) ∧ ∀ target, Steps p.tables e below (T'.setTop (mkF m pc' L (.ref b :: S))) target → Steps p.tables e below (T.setTop (mkF m pc L (.int z :: S))) target := by
  subst hp
  obtain ⟨T', h', k, X', e', E, A, st⟩ := newP X hx hZ (aty := .long) w eT (g := mkF m pc L (.int z :: S)) rfl hd rfl hz0 (cap := n) (Nat.le_of_eq hz) hb hc hl
  exact ⟨T', h', k, h.size, X', e', E, rfl, (Arv.new A hz0).pad (pad_rep [] (.long 0) n), st⟩
theorem own_stD (X : Stand p l e R s m args below meth c T locs cells slots) (hx : p.tables.exec = Jvm.exec) (hZ : Z.Warmed39 s.vm) (eT : T.heap = h) (V : Arv Z h a k .double z vs dv) {j : Int32} {x : UInt64} (hj : ¬ j < 0 ∧ j < z) (i : Nat) (hi : j.toNatClampNeg = i) (hl : i < vs.length) (hd : decode c.code pc = .ok (.dastore, 1)) (hp : pc + 1 = pc') :
    ∃ T' h', Stand p l e R s m args below meth c T' (locs ++ [⟨a, j.toNatClampNeg⟩]) cells slots ∧ T'.heap = h' ∧ Wr h h' a j.toNatClampNeg (.double x) ∧ Arv Z h' a k .double z (vs.set i (.double x)) dv ∧ ∀ target, Steps p.tables e below (T'.setTop (mkF m pc' L S)) target → Steps p.tables e below (T.setTop (mkF m pc L (.double x :: .int j :: .ref a :: S))) target := by
  subst hp
  obtain ⟨cl, A, q1, S1, q3, H, G⟩ := V
  obtain ⟨T', h', X', e', W, st⟩ := stD X hx hZ eT A (j := j) (x := x) (inb_of S1 hj) (g := mkF m pc L (.double x :: .int j :: .ref a :: S)) rfl rfl hd
  exact ⟨T', h', X', e', W, Arv.set A q1 S1 q3 H G rfl W i hi hl, st⟩
theorem own_ldD (X : Stand p l e R s m args below meth c T locs cells slots) (hx : p.tables.exec = Jvm.exec) (hZ : Z.Warmed39 s.vm) (eT : T.heap = h) (V : Arv Z h a k .double z vs dv) {j : Int32} {x : UInt64} (hj : ¬ j < 0 ∧ j < z) (hv : vs.getD j.toNatClampNeg dv = .double x) (hd : decode c.code pc = .ok (.daload, 1)) (hp : pc + 1 = pc') {target : State}
    (hr : Steps p.tables e below (T.setTop (mkF m pc' L (.double x :: S))) target) : Steps p.tables e below (T.setTop (mkF m pc L (.int j :: .ref a :: S))) target := by
  subst hp
  obtain ⟨cl, A, q1, S1, q3, H, G⟩ := V
  exact X.daload hx (j := j) (v := .double x) (by rw [eT]; exact A.1) (State.isArrayOf_alike hZ.alike A.2.1) A.2.2 (inb_of S1 hj) (H.at (inb_of S1 hj) hv) (g := mkF m pc L (.int j :: .ref a :: S)) rfl rfl hd target hr
theorem own_len {ty : FieldType} (X : Stand p l e R s m args below meth c T locs cells slots) (hx : p.tables.exec = Jvm.exec) (hZ : Z.Warmed39 s.vm) (eT : T.heap = h) (V : Arv Z h a k ty z vs dv) (hd : decode c.code pc = .ok (.arraylength, 1)) (hp : pc + 1 = pc') {target : State}
    (hr : Steps p.tables e below (T.setTop (mkF m pc' L (.int z :: S))) target) : Steps p.tables e below (T.setTop (mkF m pc L (.ref a :: S))) target := by
  subst hp
  obtain ⟨cl, A, q1, S1, q3, H, G⟩ := V
  refine X.arraylength hx (by rw [eT]; exact A.1) (State.isArrayOf_alike hZ.alike A.2.1) (g := mkF m pc L (.ref a :: S)) rfl rfl hd target ?_
  rw [len_of S1 q3]
  exact hr
theorem own_retI (X : Stand p l e R s m args below meth c T locs cells slots) (hx : p.tables.exec = Jvm.exec) {x : Int32} (hret : meth.sig.returnType = some .int) (hd : decode c.code pc = .ok (.ireturn, 1)) {fs : List Frame}
    (hl : ∀ (f : JFrame) (acts : List Action), f.method = m → f.locked = none → f.entered = [] → (doReturn e (T.setTop f) acts (some (.int x))).1 = T.setFrames fs) : Steps p.tables e below (T.setTop (mkF m pc L (.int x :: S))) (T.setFrames fs) := by
  have hm' : T.vm.method? m = some meth := X.method'
  have hn : narrow .int (.int x) = .int x := rfl
  show Steps p.tables e below (T.setTop { method := m, pc := pc, locals := L, stack := _ :: S, locked := none }) _
  jvm_step X.here [X.here.top, hx, hd, hm', hret, hn]
  first | (intro acts; rw [hl _ acts rfl rfl rfl]) | rw [hl _ _ rfl rfl rfl]
  exact Steps.refl _
theorem own_retD (X : Stand p l e R s m args below meth c T locs cells slots) (hx : p.tables.exec = Jvm.exec) {x : UInt64} (hret : meth.sig.returnType = some .double) (hd : decode c.code pc = .ok (.dreturn, 1)) {fs : List Frame}
    (hl : ∀ (f : JFrame) (acts : List Action), f.method = m → f.locked = none → f.entered = [] → (doReturn e (T.setTop f) acts (some (.double x))).1 = T.setFrames fs) : Steps p.tables e below (T.setTop (mkF m pc L (.double x :: S))) (T.setFrames fs) := by
  have hm' : T.vm.method? m = some meth := X.method'
  show Steps p.tables e below (T.setTop { method := m, pc := pc, locals := L, stack := _ :: S, locked := none }) _
  jvm_step X.here [X.here.top, hx, hd, hm', hret, narrow]
  first | (intro acts; rw [hl _ acts rfl rfl rfl]) | rw [hl _ _ rfl rfl rfl]
  exact Steps.refl _
theorem own_retJ (X : Stand p l e R s m args below meth c T locs cells slots) (hx : p.tables.exec = Jvm.exec) {x : Int64} (hret : meth.sig.returnType = some .long) (hd : decode c.code pc = .ok (.lreturn, 1)) {fs : List Frame}
    (hl : ∀ (f : JFrame) (acts : List Action), f.method = m → f.locked = none → f.entered = [] → (doReturn e (T.setTop f) acts (some (.long x))).1 = T.setFrames fs) : Steps p.tables e below (T.setTop (mkF m pc L (.long x :: S))) (T.setFrames fs) := by
  have hm' : T.vm.method? m = some meth := X.method'
  show Steps p.tables e below (T.setTop { method := m, pc := pc, locals := L, stack := _ :: S, locked := none }) _
  jvm_step X.here [X.here.top, hx, hd, hm', hret, narrow]
  first | (intro acts; rw [hl _ acts rfl rfl rfl]) | rw [hl _ _ rfl rfl rfl]
  exact Steps.refl _
theorem own_retR (X : Stand p l e R s m args below meth c T locs cells slots) (hx : p.tables.exec = Jvm.exec) {b : Addr} {t : FieldType} (hret : meth.sig.returnType = some t) (ht : t.isReference = true) (hd : decode c.code pc = .ok (.areturn, 1)) {fs : List Frame}
    (hl : ∀ (f : JFrame) (acts : List Action), f.method = m → f.locked = none → f.entered = [] → (doReturn e (T.setTop f) acts (some (.ref b))).1 = T.setFrames fs) : Steps p.tables e below (T.setTop (mkF m pc L (.ref b :: S))) (T.setFrames fs) := by
  have hm' : T.vm.method? m = some meth := X.method'
  show Steps p.tables e below (T.setTop { method := m, pc := pc, locals := L, stack := _ :: S, locked := none }) _
  jvm_step X.here [X.here.top, hx, hd, hm', hret, Value.isRef, ht]
  first | (intro acts; rw [hl _ acts rfl rfl rfl]) | rw [hl _ _ rfl rfl rfl]
  exact Steps.refl _
end OwnHeap
open Jvm Jvm.ClassFile Sem Op Lib Jvm.Free Jvm.Stand Jvm.LawKit Jvm.RoadKit Bundle Jvm.Pilot.@@N@@.Jvm.D
def own_Q0 (n0 : Nat) (v : Option Value) (h : Heap) (L : List Loc) : Prop := v = some (.int 1) ∧ Fr n0 L
def own_QP (r : Option Value) (h0 : Heap) (n0 : Nat) (v : Option Value) (h : Heap) (L : List Loc) : Prop := v = r ∧ Fr n0 L ∧ h = h0
theorem own_mask3 (x : Int32) : x &&& 3 = 0 ∨ x &&& 3 = 1 ∨ x &&& 3 = 2 ∨ x &&& 3 = 3 := by
  have h1 := c_mask x 3 2 (by decide) (by decide)
  have e : ∀ k : Int32, x &&& 3 = k ↔ (x &&& 3).toInt = k.toInt := fun k => Int32.toInt_inj.symm
  simp only [e, show (0 : Int32).toInt = 0 from rfl, show (1 : Int32).toInt = 1 from rfl, show (2 : Int32).toInt = 2 from rfl, show (3 : Int32).toInt = 3 from rfl]
  omega
theorem own_d1_0 : decode method_2_code 0 = .ok (.lload_n 0, 1) := by decide +kernel
theorem own_d1_1 : decode method_2_code 1 = .ok (.bipush 8, 2) := by decide +kernel
theorem own_d1_3 : decode method_2_code 3 = .ok (.iload_n 2, 1) := by decide +kernel
theorem own_d1_4 : decode method_2_code 4 = .ok (.imul, 1) := by decide +kernel
theorem own_d1_5 : decode method_2_code 5 = .ok (.lushr, 1) := by decide +kernel
theorem own_d1_6 : decode method_2_code 6 = .ok (.l2i, 1) := by decide +kernel
theorem own_d1_7 : decode method_2_code 7 = .ok (.i2b, 1) := by decide +kernel
theorem own_d1_8 : decode method_2_code 8 = .ok (.i2d, 1) := by decide +kernel
theorem own_d1_9 : decode method_2_code 9 = .ok (.dreturn, 1) := by decide +kernel
theorem own_pn_com_example_differentia_differentia_problems_Cec2013TransformsRotatePinLaw : plainName "com/example/differentia/differentia/problems/Cec2013TransformsRotatePinLaw" = true := by first | (simp [plainName, overriddenIn]; done) | decide +kernel
theorem own_ef_b0 (m : MethodId) (w : Int64) : entryFrame m #[(.long w), (.int (0 : Int32))] 3 = mkF m 0 #[.val (.long w), .second, .val (.int (0 : Int32))] [] := by first | (simp [entryFrame, mkF, argsToLocals, Value.category]; done) | rfl
set_option maxRecDepth 65536 in
set_option maxHeartbeats 40000000 in
theorem own_rm_b0 (l : Launch) (Z : State) (a0 : Array Value) (hw : ∀ d ∈ tables_1, d.before a0 Z = true) (ws : List Jvm.Cond) (w : Int64) {b0_v5 : Int64} {b0_v6 : Int32} {b0_v7 : Int32} (h0 : Heap) (n0 : Nat) (Z0 : n0 ≤ h0.size)  (b0_hv5 : (Int64.toUInt64 w >>> ((0 : Int32) &&& 63).toInt64.toUInt64).toInt64 = b0_v5) (b0_hv6 : Int64.toInt32 b0_v5 = b0_v6) (b0_hv7 : (Int32.toInt8 b0_v6).toInt32 = b0_v7) :
    MetFree l (⟨"com/example/differentia/differentia/problems/Cec2013TransformsRotatePinLaw", "b", "(JI)D"⟩ : MethodName) (head1 (Jvm.Cond.code (⟨"com/example/differentia/differentia/problems/Cec2013TransformsRotatePinLaw", "b", "(JI)D"⟩ : MethodName) method_2_code 3 (some .double) :: ws) ({ frames := 0, cells := 0, slots := 0, locals := 0 } : Room)) (fun a U => a = #[(.long w), (.int (0 : Int32))] ∧ Z.Warmed39 U.vm ∧ U.heap = h0) (fun _ _ _ _ _ => True) (fun _ U o U' => ∃ v L, o = .returned v ∧ own_QP (some (.double (FP.i2d b0_v7))) h0 n0 v U'.heap L ∧ FrameEnd U o U' L ({ frames := 0, cells := 0, slots := 0, locals := 0 } : Room).cells ({ frames := 0, cells := 0, slots := 0, locals := 0 } : Room).slots) := by
  refine MetFree.of_bodySF (plainFor_of_name own_pn_com_example_differentia_differentia_problems_Cec2013TransformsRotatePinLaw) hisR ?_
  intro p e s m args below meth c s₁ Bd hml0 hP hK
  obtain ⟨rfl, hZ, hh⟩ := hP
  have hx := Bd.exec
  have hby := Bd.bytes
  have hml : c.maxLocals = 3 := hml0
  have hown : s.vm.findClass "com/example/differentia/differentia/problems/Cec2013TransformsRotatePinLaw" = some m.cls := findClass_of_methodNamed Bd.named
  have hnm := (name_of_methodNamed Bd.named Bd.method).1
  have X0 : Stand p l e ({ frames := 0, cells := 0, slots := 0, locals := 0 } : Room) s m #[(.long w), (.int (0 : Int32))] below meth c s₁ [] 0 0 := Stand.of_body Bd
  have e0 : s₁.heap = h0 := by rw [← hh, Bd.state]; rfl
  have N0 := Fr.nil n0
  have pre0 : ∀ t, Steps p.tables e below (s₁.setTop (mkF m 0 #[.val (.long w), .second, .val (.int (0 : Int32))] [])) t → Steps p.tables e below (s₁.setTop (entryFrame m #[(.long w), (.int (0 : Int32))] 3)) t := fun t k => castTop (own_ef_b0 m w) k
  obtain ⟨fs, hr, hrun, hended, hW, hsame⟩ := X0.leave (v := some (.double (FP.i2d b0_v7))) (fun h => by rw [Bd.returns] at h; cases h)
  refine ⟨_, _, pre0 _ ?_, hrun, hended, _, _, rfl, ?_, ⟨_, rfl⟩, hW, hsame.mono (by decide) (by decide)⟩
  · refine own_s_lloadN X0.here hx (hb hby own_d1_0) (pc' := 1) rfl rfl ?_
    refine own_s_bipush X0.here hx (hb hby own_d1_1) (pc' := 3) rfl (v := (8 : Int32)) (by decide) ?_
    refine own_s_iloadN X0.here hx (hb hby own_d1_3) (pc' := 4) rfl rfl ?_
    refine own_s_imul X0.here hx (hb hby own_d1_4) (pc' := 5) rfl (v := (0 : Int32)) (by decide) ?_
    refine own_s_lushr X0.here hx (hb hby own_d1_5) (pc' := 6) rfl (v := b0_v5) b0_hv5 ?_
    refine own_s_l2i X0.here hx (hb hby own_d1_6) (pc' := 7) rfl (v := b0_v6) b0_hv6 ?_
    refine own_s_i2b X0.here hx (hb hby own_d1_7) (pc' := 8) rfl (v := b0_v7) b0_hv7 ?_
    refine own_s_i2d X0.here hx (hb hby own_d1_8) (pc' := 9) rfl (v := (FP.i2d b0_v7)) rfl ?_
    exact own_retD X0 hx Bd.returns (hb hby own_d1_9) hr
  · show own_QP (some (.double (FP.i2d b0_v7))) h0 n0 _ s₁.heap _
    rw [e0]
    exact ⟨rfl, N0, rfl⟩
theorem own_ef_b1 (m : MethodId) (w : Int64) : entryFrame m #[(.long w), (.int (1 : Int32))] 3 = mkF m 0 #[.val (.long w), .second, .val (.int (1 : Int32))] [] := by first | (simp [entryFrame, mkF, argsToLocals, Value.category]; done) | rfl
set_option maxRecDepth 65536 in
set_option maxHeartbeats 40000000 in
theorem own_rm_b1 (l : Launch) (Z : State) (a0 : Array Value) (hw : ∀ d ∈ tables_1, d.before a0 Z = true) (ws : List Jvm.Cond) (w : Int64) {b1_v5 : Int64} {b1_v6 : Int32} {b1_v7 : Int32} (h0 : Heap) (n0 : Nat) (Z0 : n0 ≤ h0.size)  (b1_hv5 : (Int64.toUInt64 w >>> ((8 : Int32) &&& 63).toInt64.toUInt64).toInt64 = b1_v5) (b1_hv6 : Int64.toInt32 b1_v5 = b1_v6) (b1_hv7 : (Int32.toInt8 b1_v6).toInt32 = b1_v7) :
    MetFree l (⟨"com/example/differentia/differentia/problems/Cec2013TransformsRotatePinLaw", "b", "(JI)D"⟩ : MethodName) (head1 (Jvm.Cond.code (⟨"com/example/differentia/differentia/problems/Cec2013TransformsRotatePinLaw", "b", "(JI)D"⟩ : MethodName) method_2_code 3 (some .double) :: ws) ({ frames := 0, cells := 0, slots := 0, locals := 0 } : Room)) (fun a U => a = #[(.long w), (.int (1 : Int32))] ∧ Z.Warmed39 U.vm ∧ U.heap = h0) (fun _ _ _ _ _ => True) (fun _ U o U' => ∃ v L, o = .returned v ∧ own_QP (some (.double (FP.i2d b1_v7))) h0 n0 v U'.heap L ∧ FrameEnd U o U' L ({ frames := 0, cells := 0, slots := 0, locals := 0 } : Room).cells ({ frames := 0, cells := 0, slots := 0, locals := 0 } : Room).slots) := by
  refine MetFree.of_bodySF (plainFor_of_name own_pn_com_example_differentia_differentia_problems_Cec2013TransformsRotatePinLaw) hisR ?_
  intro p e s m args below meth c s₁ Bd hml0 hP hK
  obtain ⟨rfl, hZ, hh⟩ := hP
  have hx := Bd.exec
  have hby := Bd.bytes
  have hml : c.maxLocals = 3 := hml0
  have hown : s.vm.findClass "com/example/differentia/differentia/problems/Cec2013TransformsRotatePinLaw" = some m.cls := findClass_of_methodNamed Bd.named
  have hnm := (name_of_methodNamed Bd.named Bd.method).1
  have X0 : Stand p l e ({ frames := 0, cells := 0, slots := 0, locals := 0 } : Room) s m #[(.long w), (.int (1 : Int32))] below meth c s₁ [] 0 0 := Stand.of_body Bd
  have e0 : s₁.heap = h0 := by rw [← hh, Bd.state]; rfl
  have N0 := Fr.nil n0
  have pre0 : ∀ t, Steps p.tables e below (s₁.setTop (mkF m 0 #[.val (.long w), .second, .val (.int (1 : Int32))] [])) t → Steps p.tables e below (s₁.setTop (entryFrame m #[(.long w), (.int (1 : Int32))] 3)) t := fun t k => castTop (own_ef_b1 m w) k
  obtain ⟨fs, hr, hrun, hended, hW, hsame⟩ := X0.leave (v := some (.double (FP.i2d b1_v7))) (fun h => by rw [Bd.returns] at h; cases h)
  refine ⟨_, _, pre0 _ ?_, hrun, hended, _, _, rfl, ?_, ⟨_, rfl⟩, hW, hsame.mono (by decide) (by decide)⟩
  · refine own_s_lloadN X0.here hx (hb hby own_d1_0) (pc' := 1) rfl rfl ?_
    refine own_s_bipush X0.here hx (hb hby own_d1_1) (pc' := 3) rfl (v := (8 : Int32)) (by decide) ?_
    refine own_s_iloadN X0.here hx (hb hby own_d1_3) (pc' := 4) rfl rfl ?_
    refine own_s_imul X0.here hx (hb hby own_d1_4) (pc' := 5) rfl (v := (8 : Int32)) (by decide) ?_
    refine own_s_lushr X0.here hx (hb hby own_d1_5) (pc' := 6) rfl (v := b1_v5) b1_hv5 ?_
    refine own_s_l2i X0.here hx (hb hby own_d1_6) (pc' := 7) rfl (v := b1_v6) b1_hv6 ?_
    refine own_s_i2b X0.here hx (hb hby own_d1_7) (pc' := 8) rfl (v := b1_v7) b1_hv7 ?_
    refine own_s_i2d X0.here hx (hb hby own_d1_8) (pc' := 9) rfl (v := (FP.i2d b1_v7)) rfl ?_
    exact own_retD X0 hx Bd.returns (hb hby own_d1_9) hr
  · show own_QP (some (.double (FP.i2d b1_v7))) h0 n0 _ s₁.heap _
    rw [e0]
    exact ⟨rfl, N0, rfl⟩
theorem own_ef_b2 (m : MethodId) (w : Int64) : entryFrame m #[(.long w), (.int (2 : Int32))] 3 = mkF m 0 #[.val (.long w), .second, .val (.int (2 : Int32))] [] := by first | (simp [entryFrame, mkF, argsToLocals, Value.category]; done) | rfl
set_option maxRecDepth 65536 in
set_option maxHeartbeats 40000000 in
theorem own_rm_b2 (l : Launch) (Z : State) (a0 : Array Value) (hw : ∀ d ∈ tables_1, d.before a0 Z = true) (ws : List Jvm.Cond) (w : Int64) {b2_v5 : Int64} {b2_v6 : Int32} {b2_v7 : Int32} (h0 : Heap) (n0 : Nat) (Z0 : n0 ≤ h0.size)  (b2_hv5 : (Int64.toUInt64 w >>> ((16 : Int32) &&& 63).toInt64.toUInt64).toInt64 = b2_v5) (b2_hv6 : Int64.toInt32 b2_v5 = b2_v6) (b2_hv7 : (Int32.toInt8 b2_v6).toInt32 = b2_v7) :
    MetFree l (⟨"com/example/differentia/differentia/problems/Cec2013TransformsRotatePinLaw", "b", "(JI)D"⟩ : MethodName) (head1 (Jvm.Cond.code (⟨"com/example/differentia/differentia/problems/Cec2013TransformsRotatePinLaw", "b", "(JI)D"⟩ : MethodName) method_2_code 3 (some .double) :: ws) ({ frames := 0, cells := 0, slots := 0, locals := 0 } : Room)) (fun a U => a = #[(.long w), (.int (2 : Int32))] ∧ Z.Warmed39 U.vm ∧ U.heap = h0) (fun _ _ _ _ _ => True) (fun _ U o U' => ∃ v L, o = .returned v ∧ own_QP (some (.double (FP.i2d b2_v7))) h0 n0 v U'.heap L ∧ FrameEnd U o U' L ({ frames := 0, cells := 0, slots := 0, locals := 0 } : Room).cells ({ frames := 0, cells := 0, slots := 0, locals := 0 } : Room).slots) := by
  refine MetFree.of_bodySF (plainFor_of_name own_pn_com_example_differentia_differentia_problems_Cec2013TransformsRotatePinLaw) hisR ?_
  intro p e s m args below meth c s₁ Bd hml0 hP hK
  obtain ⟨rfl, hZ, hh⟩ := hP
  have hx := Bd.exec
  have hby := Bd.bytes
  have hml : c.maxLocals = 3 := hml0
  have hown : s.vm.findClass "com/example/differentia/differentia/problems/Cec2013TransformsRotatePinLaw" = some m.cls := findClass_of_methodNamed Bd.named
  have hnm := (name_of_methodNamed Bd.named Bd.method).1
  have X0 : Stand p l e ({ frames := 0, cells := 0, slots := 0, locals := 0 } : Room) s m #[(.long w), (.int (2 : Int32))] below meth c s₁ [] 0 0 := Stand.of_body Bd
  have e0 : s₁.heap = h0 := by rw [← hh, Bd.state]; rfl
  have N0 := Fr.nil n0
  have pre0 : ∀ t, Steps p.tables e below (s₁.setTop (mkF m 0 #[.val (.long w), .second, .val (.int (2 : Int32))] [])) t → Steps p.tables e below (s₁.setTop (entryFrame m #[(.long w), (.int (2 : Int32))] 3)) t := fun t k => castTop (own_ef_b2 m w) k
  obtain ⟨fs, hr, hrun, hended, hW, hsame⟩ := X0.leave (v := some (.double (FP.i2d b2_v7))) (fun h => by rw [Bd.returns] at h; cases h)
  refine ⟨_, _, pre0 _ ?_, hrun, hended, _, _, rfl, ?_, ⟨_, rfl⟩, hW, hsame.mono (by decide) (by decide)⟩
  · refine own_s_lloadN X0.here hx (hb hby own_d1_0) (pc' := 1) rfl rfl ?_
    refine own_s_bipush X0.here hx (hb hby own_d1_1) (pc' := 3) rfl (v := (8 : Int32)) (by decide) ?_
    refine own_s_iloadN X0.here hx (hb hby own_d1_3) (pc' := 4) rfl rfl ?_
    refine own_s_imul X0.here hx (hb hby own_d1_4) (pc' := 5) rfl (v := (16 : Int32)) (by decide) ?_
    refine own_s_lushr X0.here hx (hb hby own_d1_5) (pc' := 6) rfl (v := b2_v5) b2_hv5 ?_
    refine own_s_l2i X0.here hx (hb hby own_d1_6) (pc' := 7) rfl (v := b2_v6) b2_hv6 ?_
    refine own_s_i2b X0.here hx (hb hby own_d1_7) (pc' := 8) rfl (v := b2_v7) b2_hv7 ?_
    refine own_s_i2d X0.here hx (hb hby own_d1_8) (pc' := 9) rfl (v := (FP.i2d b2_v7)) rfl ?_
    exact own_retD X0 hx Bd.returns (hb hby own_d1_9) hr
  · show own_QP (some (.double (FP.i2d b2_v7))) h0 n0 _ s₁.heap _
    rw [e0]
    exact ⟨rfl, N0, rfl⟩
theorem own_ef_b3 (m : MethodId) (w : Int64) : entryFrame m #[(.long w), (.int (3 : Int32))] 3 = mkF m 0 #[.val (.long w), .second, .val (.int (3 : Int32))] [] := by first | (simp [entryFrame, mkF, argsToLocals, Value.category]; done) | rfl
set_option maxRecDepth 65536 in
set_option maxHeartbeats 40000000 in
theorem own_rm_b3 (l : Launch) (Z : State) (a0 : Array Value) (hw : ∀ d ∈ tables_1, d.before a0 Z = true) (ws : List Jvm.Cond) (w : Int64) {b3_v5 : Int64} {b3_v6 : Int32} {b3_v7 : Int32} (h0 : Heap) (n0 : Nat) (Z0 : n0 ≤ h0.size)  (b3_hv5 : (Int64.toUInt64 w >>> ((24 : Int32) &&& 63).toInt64.toUInt64).toInt64 = b3_v5) (b3_hv6 : Int64.toInt32 b3_v5 = b3_v6) (b3_hv7 : (Int32.toInt8 b3_v6).toInt32 = b3_v7) :
    MetFree l (⟨"com/example/differentia/differentia/problems/Cec2013TransformsRotatePinLaw", "b", "(JI)D"⟩ : MethodName) (head1 (Jvm.Cond.code (⟨"com/example/differentia/differentia/problems/Cec2013TransformsRotatePinLaw", "b", "(JI)D"⟩ : MethodName) method_2_code 3 (some .double) :: ws) ({ frames := 0, cells := 0, slots := 0, locals := 0 } : Room)) (fun a U => a = #[(.long w), (.int (3 : Int32))] ∧ Z.Warmed39 U.vm ∧ U.heap = h0) (fun _ _ _ _ _ => True) (fun _ U o U' => ∃ v L, o = .returned v ∧ own_QP (some (.double (FP.i2d b3_v7))) h0 n0 v U'.heap L ∧ FrameEnd U o U' L ({ frames := 0, cells := 0, slots := 0, locals := 0 } : Room).cells ({ frames := 0, cells := 0, slots := 0, locals := 0 } : Room).slots) := by
  refine MetFree.of_bodySF (plainFor_of_name own_pn_com_example_differentia_differentia_problems_Cec2013TransformsRotatePinLaw) hisR ?_
  intro p e s m args below meth c s₁ Bd hml0 hP hK
  obtain ⟨rfl, hZ, hh⟩ := hP
  have hx := Bd.exec
  have hby := Bd.bytes
  have hml : c.maxLocals = 3 := hml0
  have hown : s.vm.findClass "com/example/differentia/differentia/problems/Cec2013TransformsRotatePinLaw" = some m.cls := findClass_of_methodNamed Bd.named
  have hnm := (name_of_methodNamed Bd.named Bd.method).1
  have X0 : Stand p l e ({ frames := 0, cells := 0, slots := 0, locals := 0 } : Room) s m #[(.long w), (.int (3 : Int32))] below meth c s₁ [] 0 0 := Stand.of_body Bd
  have e0 : s₁.heap = h0 := by rw [← hh, Bd.state]; rfl
  have N0 := Fr.nil n0
  have pre0 : ∀ t, Steps p.tables e below (s₁.setTop (mkF m 0 #[.val (.long w), .second, .val (.int (3 : Int32))] [])) t → Steps p.tables e below (s₁.setTop (entryFrame m #[(.long w), (.int (3 : Int32))] 3)) t := fun t k => castTop (own_ef_b3 m w) k
  obtain ⟨fs, hr, hrun, hended, hW, hsame⟩ := X0.leave (v := some (.double (FP.i2d b3_v7))) (fun h => by rw [Bd.returns] at h; cases h)
  refine ⟨_, _, pre0 _ ?_, hrun, hended, _, _, rfl, ?_, ⟨_, rfl⟩, hW, hsame.mono (by decide) (by decide)⟩
  · refine own_s_lloadN X0.here hx (hb hby own_d1_0) (pc' := 1) rfl rfl ?_
    refine own_s_bipush X0.here hx (hb hby own_d1_1) (pc' := 3) rfl (v := (8 : Int32)) (by decide) ?_
    refine own_s_iloadN X0.here hx (hb hby own_d1_3) (pc' := 4) rfl rfl ?_
    refine own_s_imul X0.here hx (hb hby own_d1_4) (pc' := 5) rfl (v := (24 : Int32)) (by decide) ?_
    refine own_s_lushr X0.here hx (hb hby own_d1_5) (pc' := 6) rfl (v := b3_v5) b3_hv5 ?_
    refine own_s_l2i X0.here hx (hb hby own_d1_6) (pc' := 7) rfl (v := b3_v6) b3_hv6 ?_
    refine own_s_i2b X0.here hx (hb hby own_d1_7) (pc' := 8) rfl (v := b3_v7) b3_hv7 ?_
    refine own_s_i2d X0.here hx (hb hby own_d1_8) (pc' := 9) rfl (v := (FP.i2d b3_v7)) rfl ?_
    exact own_retD X0 hx Bd.returns (hb hby own_d1_9) hr
  · show own_QP (some (.double (FP.i2d b3_v7))) h0 n0 _ s₁.heap _
    rw [e0]
    exact ⟨rfl, N0, rfl⟩
theorem own_ef_b4 (m : MethodId) (w : Int64) : entryFrame m #[(.long w), (.int (4 : Int32))] 3 = mkF m 0 #[.val (.long w), .second, .val (.int (4 : Int32))] [] := by first | (simp [entryFrame, mkF, argsToLocals, Value.category]; done) | rfl
set_option maxRecDepth 65536 in
set_option maxHeartbeats 40000000 in
theorem own_rm_b4 (l : Launch) (Z : State) (a0 : Array Value) (hw : ∀ d ∈ tables_1, d.before a0 Z = true) (ws : List Jvm.Cond) (w : Int64) {b4_v5 : Int64} {b4_v6 : Int32} {b4_v7 : Int32} (h0 : Heap) (n0 : Nat) (Z0 : n0 ≤ h0.size)  (b4_hv5 : (Int64.toUInt64 w >>> ((32 : Int32) &&& 63).toInt64.toUInt64).toInt64 = b4_v5) (b4_hv6 : Int64.toInt32 b4_v5 = b4_v6) (b4_hv7 : (Int32.toInt8 b4_v6).toInt32 = b4_v7) :
    MetFree l (⟨"com/example/differentia/differentia/problems/Cec2013TransformsRotatePinLaw", "b", "(JI)D"⟩ : MethodName) (head1 (Jvm.Cond.code (⟨"com/example/differentia/differentia/problems/Cec2013TransformsRotatePinLaw", "b", "(JI)D"⟩ : MethodName) method_2_code 3 (some .double) :: ws) ({ frames := 0, cells := 0, slots := 0, locals := 0 } : Room)) (fun a U => a = #[(.long w), (.int (4 : Int32))] ∧ Z.Warmed39 U.vm ∧ U.heap = h0) (fun _ _ _ _ _ => True) (fun _ U o U' => ∃ v L, o = .returned v ∧ own_QP (some (.double (FP.i2d b4_v7))) h0 n0 v U'.heap L ∧ FrameEnd U o U' L ({ frames := 0, cells := 0, slots := 0, locals := 0 } : Room).cells ({ frames := 0, cells := 0, slots := 0, locals := 0 } : Room).slots) := by
  refine MetFree.of_bodySF (plainFor_of_name own_pn_com_example_differentia_differentia_problems_Cec2013TransformsRotatePinLaw) hisR ?_
  intro p e s m args below meth c s₁ Bd hml0 hP hK
  obtain ⟨rfl, hZ, hh⟩ := hP
  have hx := Bd.exec
  have hby := Bd.bytes
  have hml : c.maxLocals = 3 := hml0
  have hown : s.vm.findClass "com/example/differentia/differentia/problems/Cec2013TransformsRotatePinLaw" = some m.cls := findClass_of_methodNamed Bd.named
  have hnm := (name_of_methodNamed Bd.named Bd.method).1
  have X0 : Stand p l e ({ frames := 0, cells := 0, slots := 0, locals := 0 } : Room) s m #[(.long w), (.int (4 : Int32))] below meth c s₁ [] 0 0 := Stand.of_body Bd
  have e0 : s₁.heap = h0 := by rw [← hh, Bd.state]; rfl
  have N0 := Fr.nil n0
  have pre0 : ∀ t, Steps p.tables e below (s₁.setTop (mkF m 0 #[.val (.long w), .second, .val (.int (4 : Int32))] [])) t → Steps p.tables e below (s₁.setTop (entryFrame m #[(.long w), (.int (4 : Int32))] 3)) t := fun t k => castTop (own_ef_b4 m w) k
  obtain ⟨fs, hr, hrun, hended, hW, hsame⟩ := X0.leave (v := some (.double (FP.i2d b4_v7))) (fun h => by rw [Bd.returns] at h; cases h)
  refine ⟨_, _, pre0 _ ?_, hrun, hended, _, _, rfl, ?_, ⟨_, rfl⟩, hW, hsame.mono (by decide) (by decide)⟩
  · refine own_s_lloadN X0.here hx (hb hby own_d1_0) (pc' := 1) rfl rfl ?_
    refine own_s_bipush X0.here hx (hb hby own_d1_1) (pc' := 3) rfl (v := (8 : Int32)) (by decide) ?_
    refine own_s_iloadN X0.here hx (hb hby own_d1_3) (pc' := 4) rfl rfl ?_
    refine own_s_imul X0.here hx (hb hby own_d1_4) (pc' := 5) rfl (v := (32 : Int32)) (by decide) ?_
    refine own_s_lushr X0.here hx (hb hby own_d1_5) (pc' := 6) rfl (v := b4_v5) b4_hv5 ?_
    refine own_s_l2i X0.here hx (hb hby own_d1_6) (pc' := 7) rfl (v := b4_v6) b4_hv6 ?_
    refine own_s_i2b X0.here hx (hb hby own_d1_7) (pc' := 8) rfl (v := b4_v7) b4_hv7 ?_
    refine own_s_i2d X0.here hx (hb hby own_d1_8) (pc' := 9) rfl (v := (FP.i2d b4_v7)) rfl ?_
    exact own_retD X0 hx Bd.returns (hb hby own_d1_9) hr
  · show own_QP (some (.double (FP.i2d b4_v7))) h0 n0 _ s₁.heap _
    rw [e0]
    exact ⟨rfl, N0, rfl⟩
theorem own_ef_b5 (m : MethodId) (w : Int64) : entryFrame m #[(.long w), (.int (5 : Int32))] 3 = mkF m 0 #[.val (.long w), .second, .val (.int (5 : Int32))] [] := by first | (simp [entryFrame, mkF, argsToLocals, Value.category]; done) | rfl
set_option maxRecDepth 65536 in
set_option maxHeartbeats 40000000 in
theorem own_rm_b5 (l : Launch) (Z : State) (a0 : Array Value) (hw : ∀ d ∈ tables_1, d.before a0 Z = true) (ws : List Jvm.Cond) (w : Int64) {b5_v5 : Int64} {b5_v6 : Int32} {b5_v7 : Int32} (h0 : Heap) (n0 : Nat) (Z0 : n0 ≤ h0.size)  (b5_hv5 : (Int64.toUInt64 w >>> ((40 : Int32) &&& 63).toInt64.toUInt64).toInt64 = b5_v5) (b5_hv6 : Int64.toInt32 b5_v5 = b5_v6) (b5_hv7 : (Int32.toInt8 b5_v6).toInt32 = b5_v7) :
    MetFree l (⟨"com/example/differentia/differentia/problems/Cec2013TransformsRotatePinLaw", "b", "(JI)D"⟩ : MethodName) (head1 (Jvm.Cond.code (⟨"com/example/differentia/differentia/problems/Cec2013TransformsRotatePinLaw", "b", "(JI)D"⟩ : MethodName) method_2_code 3 (some .double) :: ws) ({ frames := 0, cells := 0, slots := 0, locals := 0 } : Room)) (fun a U => a = #[(.long w), (.int (5 : Int32))] ∧ Z.Warmed39 U.vm ∧ U.heap = h0) (fun _ _ _ _ _ => True) (fun _ U o U' => ∃ v L, o = .returned v ∧ own_QP (some (.double (FP.i2d b5_v7))) h0 n0 v U'.heap L ∧ FrameEnd U o U' L ({ frames := 0, cells := 0, slots := 0, locals := 0 } : Room).cells ({ frames := 0, cells := 0, slots := 0, locals := 0 } : Room).slots) := by
  refine MetFree.of_bodySF (plainFor_of_name own_pn_com_example_differentia_differentia_problems_Cec2013TransformsRotatePinLaw) hisR ?_
  intro p e s m args below meth c s₁ Bd hml0 hP hK
  obtain ⟨rfl, hZ, hh⟩ := hP
  have hx := Bd.exec
  have hby := Bd.bytes
  have hml : c.maxLocals = 3 := hml0
  have hown : s.vm.findClass "com/example/differentia/differentia/problems/Cec2013TransformsRotatePinLaw" = some m.cls := findClass_of_methodNamed Bd.named
  have hnm := (name_of_methodNamed Bd.named Bd.method).1
  have X0 : Stand p l e ({ frames := 0, cells := 0, slots := 0, locals := 0 } : Room) s m #[(.long w), (.int (5 : Int32))] below meth c s₁ [] 0 0 := Stand.of_body Bd
  have e0 : s₁.heap = h0 := by rw [← hh, Bd.state]; rfl
  have N0 := Fr.nil n0
  have pre0 : ∀ t, Steps p.tables e below (s₁.setTop (mkF m 0 #[.val (.long w), .second, .val (.int (5 : Int32))] [])) t → Steps p.tables e below (s₁.setTop (entryFrame m #[(.long w), (.int (5 : Int32))] 3)) t := fun t k => castTop (own_ef_b5 m w) k
  obtain ⟨fs, hr, hrun, hended, hW, hsame⟩ := X0.leave (v := some (.double (FP.i2d b5_v7))) (fun h => by rw [Bd.returns] at h; cases h)
  refine ⟨_, _, pre0 _ ?_, hrun, hended, _, _, rfl, ?_, ⟨_, rfl⟩, hW, hsame.mono (by decide) (by decide)⟩
  · refine own_s_lloadN X0.here hx (hb hby own_d1_0) (pc' := 1) rfl rfl ?_
    refine own_s_bipush X0.here hx (hb hby own_d1_1) (pc' := 3) rfl (v := (8 : Int32)) (by decide) ?_
    refine own_s_iloadN X0.here hx (hb hby own_d1_3) (pc' := 4) rfl rfl ?_
    refine own_s_imul X0.here hx (hb hby own_d1_4) (pc' := 5) rfl (v := (40 : Int32)) (by decide) ?_
    refine own_s_lushr X0.here hx (hb hby own_d1_5) (pc' := 6) rfl (v := b5_v5) b5_hv5 ?_
    refine own_s_l2i X0.here hx (hb hby own_d1_6) (pc' := 7) rfl (v := b5_v6) b5_hv6 ?_
    refine own_s_i2b X0.here hx (hb hby own_d1_7) (pc' := 8) rfl (v := b5_v7) b5_hv7 ?_
    refine own_s_i2d X0.here hx (hb hby own_d1_8) (pc' := 9) rfl (v := (FP.i2d b5_v7)) rfl ?_
    exact own_retD X0 hx Bd.returns (hb hby own_d1_9) hr
  · show own_QP (some (.double (FP.i2d b5_v7))) h0 n0 _ s₁.heap _
    rw [e0]
    exact ⟨rfl, N0, rfl⟩
theorem own_ef_b6 (m : MethodId) (w : Int64) : entryFrame m #[(.long w), (.int (6 : Int32))] 3 = mkF m 0 #[.val (.long w), .second, .val (.int (6 : Int32))] [] := by first | (simp [entryFrame, mkF, argsToLocals, Value.category]; done) | rfl
set_option maxRecDepth 65536 in
set_option maxHeartbeats 40000000 in
theorem own_rm_b6 (l : Launch) (Z : State) (a0 : Array Value) (hw : ∀ d ∈ tables_1, d.before a0 Z = true) (ws : List Jvm.Cond) (w : Int64) {b6_v5 : Int64} {b6_v6 : Int32} {b6_v7 : Int32} (h0 : Heap) (n0 : Nat) (Z0 : n0 ≤ h0.size)  (b6_hv5 : (Int64.toUInt64 w >>> ((48 : Int32) &&& 63).toInt64.toUInt64).toInt64 = b6_v5) (b6_hv6 : Int64.toInt32 b6_v5 = b6_v6) (b6_hv7 : (Int32.toInt8 b6_v6).toInt32 = b6_v7) :
    MetFree l (⟨"com/example/differentia/differentia/problems/Cec2013TransformsRotatePinLaw", "b", "(JI)D"⟩ : MethodName) (head1 (Jvm.Cond.code (⟨"com/example/differentia/differentia/problems/Cec2013TransformsRotatePinLaw", "b", "(JI)D"⟩ : MethodName) method_2_code 3 (some .double) :: ws) ({ frames := 0, cells := 0, slots := 0, locals := 0 } : Room)) (fun a U => a = #[(.long w), (.int (6 : Int32))] ∧ Z.Warmed39 U.vm ∧ U.heap = h0) (fun _ _ _ _ _ => True) (fun _ U o U' => ∃ v L, o = .returned v ∧ own_QP (some (.double (FP.i2d b6_v7))) h0 n0 v U'.heap L ∧ FrameEnd U o U' L ({ frames := 0, cells := 0, slots := 0, locals := 0 } : Room).cells ({ frames := 0, cells := 0, slots := 0, locals := 0 } : Room).slots) := by
  refine MetFree.of_bodySF (plainFor_of_name own_pn_com_example_differentia_differentia_problems_Cec2013TransformsRotatePinLaw) hisR ?_
  intro p e s m args below meth c s₁ Bd hml0 hP hK
  obtain ⟨rfl, hZ, hh⟩ := hP
  have hx := Bd.exec
  have hby := Bd.bytes
  have hml : c.maxLocals = 3 := hml0
  have hown : s.vm.findClass "com/example/differentia/differentia/problems/Cec2013TransformsRotatePinLaw" = some m.cls := findClass_of_methodNamed Bd.named
  have hnm := (name_of_methodNamed Bd.named Bd.method).1
  have X0 : Stand p l e ({ frames := 0, cells := 0, slots := 0, locals := 0 } : Room) s m #[(.long w), (.int (6 : Int32))] below meth c s₁ [] 0 0 := Stand.of_body Bd
  have e0 : s₁.heap = h0 := by rw [← hh, Bd.state]; rfl
  have N0 := Fr.nil n0
  have pre0 : ∀ t, Steps p.tables e below (s₁.setTop (mkF m 0 #[.val (.long w), .second, .val (.int (6 : Int32))] [])) t → Steps p.tables e below (s₁.setTop (entryFrame m #[(.long w), (.int (6 : Int32))] 3)) t := fun t k => castTop (own_ef_b6 m w) k
  obtain ⟨fs, hr, hrun, hended, hW, hsame⟩ := X0.leave (v := some (.double (FP.i2d b6_v7))) (fun h => by rw [Bd.returns] at h; cases h)
  refine ⟨_, _, pre0 _ ?_, hrun, hended, _, _, rfl, ?_, ⟨_, rfl⟩, hW, hsame.mono (by decide) (by decide)⟩
  · refine own_s_lloadN X0.here hx (hb hby own_d1_0) (pc' := 1) rfl rfl ?_
    refine own_s_bipush X0.here hx (hb hby own_d1_1) (pc' := 3) rfl (v := (8 : Int32)) (by decide) ?_
    refine own_s_iloadN X0.here hx (hb hby own_d1_3) (pc' := 4) rfl rfl ?_
    refine own_s_imul X0.here hx (hb hby own_d1_4) (pc' := 5) rfl (v := (48 : Int32)) (by decide) ?_
    refine own_s_lushr X0.here hx (hb hby own_d1_5) (pc' := 6) rfl (v := b6_v5) b6_hv5 ?_
    refine own_s_l2i X0.here hx (hb hby own_d1_6) (pc' := 7) rfl (v := b6_v6) b6_hv6 ?_
    refine own_s_i2b X0.here hx (hb hby own_d1_7) (pc' := 8) rfl (v := b6_v7) b6_hv7 ?_
    refine own_s_i2d X0.here hx (hb hby own_d1_8) (pc' := 9) rfl (v := (FP.i2d b6_v7)) rfl ?_
    exact own_retD X0 hx Bd.returns (hb hby own_d1_9) hr
  · show own_QP (some (.double (FP.i2d b6_v7))) h0 n0 _ s₁.heap _
    rw [e0]
    exact ⟨rfl, N0, rfl⟩
theorem own_ef_b7 (m : MethodId) (w : Int64) : entryFrame m #[(.long w), (.int (7 : Int32))] 3 = mkF m 0 #[.val (.long w), .second, .val (.int (7 : Int32))] [] := by first | (simp [entryFrame, mkF, argsToLocals, Value.category]; done) | rfl
set_option maxRecDepth 65536 in
set_option maxHeartbeats 40000000 in
theorem own_rm_b7 (l : Launch) (Z : State) (a0 : Array Value) (hw : ∀ d ∈ tables_1, d.before a0 Z = true) (ws : List Jvm.Cond) (w : Int64) {b7_v5 : Int64} {b7_v6 : Int32} {b7_v7 : Int32} (h0 : Heap) (n0 : Nat) (Z0 : n0 ≤ h0.size)  (b7_hv5 : (Int64.toUInt64 w >>> ((56 : Int32) &&& 63).toInt64.toUInt64).toInt64 = b7_v5) (b7_hv6 : Int64.toInt32 b7_v5 = b7_v6) (b7_hv7 : (Int32.toInt8 b7_v6).toInt32 = b7_v7) :
    MetFree l (⟨"com/example/differentia/differentia/problems/Cec2013TransformsRotatePinLaw", "b", "(JI)D"⟩ : MethodName) (head1 (Jvm.Cond.code (⟨"com/example/differentia/differentia/problems/Cec2013TransformsRotatePinLaw", "b", "(JI)D"⟩ : MethodName) method_2_code 3 (some .double) :: ws) ({ frames := 0, cells := 0, slots := 0, locals := 0 } : Room)) (fun a U => a = #[(.long w), (.int (7 : Int32))] ∧ Z.Warmed39 U.vm ∧ U.heap = h0) (fun _ _ _ _ _ => True) (fun _ U o U' => ∃ v L, o = .returned v ∧ own_QP (some (.double (FP.i2d b7_v7))) h0 n0 v U'.heap L ∧ FrameEnd U o U' L ({ frames := 0, cells := 0, slots := 0, locals := 0 } : Room).cells ({ frames := 0, cells := 0, slots := 0, locals := 0 } : Room).slots) := by
  refine MetFree.of_bodySF (plainFor_of_name own_pn_com_example_differentia_differentia_problems_Cec2013TransformsRotatePinLaw) hisR ?_
  intro p e s m args below meth c s₁ Bd hml0 hP hK
  obtain ⟨rfl, hZ, hh⟩ := hP
  have hx := Bd.exec
  have hby := Bd.bytes
  have hml : c.maxLocals = 3 := hml0
  have hown : s.vm.findClass "com/example/differentia/differentia/problems/Cec2013TransformsRotatePinLaw" = some m.cls := findClass_of_methodNamed Bd.named
  have hnm := (name_of_methodNamed Bd.named Bd.method).1
  have X0 : Stand p l e ({ frames := 0, cells := 0, slots := 0, locals := 0 } : Room) s m #[(.long w), (.int (7 : Int32))] below meth c s₁ [] 0 0 := Stand.of_body Bd
  have e0 : s₁.heap = h0 := by rw [← hh, Bd.state]; rfl
  have N0 := Fr.nil n0
  have pre0 : ∀ t, Steps p.tables e below (s₁.setTop (mkF m 0 #[.val (.long w), .second, .val (.int (7 : Int32))] [])) t → Steps p.tables e below (s₁.setTop (entryFrame m #[(.long w), (.int (7 : Int32))] 3)) t := fun t k => castTop (own_ef_b7 m w) k
  obtain ⟨fs, hr, hrun, hended, hW, hsame⟩ := X0.leave (v := some (.double (FP.i2d b7_v7))) (fun h => by rw [Bd.returns] at h; cases h)
  refine ⟨_, _, pre0 _ ?_, hrun, hended, _, _, rfl, ?_, ⟨_, rfl⟩, hW, hsame.mono (by decide) (by decide)⟩
  · refine own_s_lloadN X0.here hx (hb hby own_d1_0) (pc' := 1) rfl rfl ?_
    refine own_s_bipush X0.here hx (hb hby own_d1_1) (pc' := 3) rfl (v := (8 : Int32)) (by decide) ?_
    refine own_s_iloadN X0.here hx (hb hby own_d1_3) (pc' := 4) rfl rfl ?_
    refine own_s_imul X0.here hx (hb hby own_d1_4) (pc' := 5) rfl (v := (56 : Int32)) (by decide) ?_
    refine own_s_lushr X0.here hx (hb hby own_d1_5) (pc' := 6) rfl (v := b7_v5) b7_hv5 ?_
    refine own_s_l2i X0.here hx (hb hby own_d1_6) (pc' := 7) rfl (v := b7_v6) b7_hv6 ?_
    refine own_s_i2b X0.here hx (hb hby own_d1_7) (pc' := 8) rfl (v := b7_v7) b7_hv7 ?_
    refine own_s_i2d X0.here hx (hb hby own_d1_8) (pc' := 9) rfl (v := (FP.i2d b7_v7)) rfl ?_
    exact own_retD X0 hx Bd.returns (hb hby own_d1_9) hr
  · show own_QP (some (.double (FP.i2d b7_v7))) h0 n0 _ s₁.heap _
    rw [e0]
    exact ⟨rfl, N0, rfl⟩
theorem own_d2_0 : decode prog_63_method_5_code 0 = .ok (.aload_n 0, 1) := by decide +kernel
theorem own_d2_1 : decode prog_63_method_5_code 1 = .ok (.arraylength, 1) := by decide +kernel
theorem own_d2_2 : decode prog_63_method_5_code 2 = .ok (.istore_n 2, 1) := by decide +kernel
theorem own_d2_3 : decode prog_63_method_5_code 3 = .ok (.iload_n 2, 1) := by decide +kernel
theorem own_d2_4 : decode prog_63_method_5_code 4 = .ok (.newarray .double, 2) := by decide +kernel
theorem own_d2_6 : decode prog_63_method_5_code 6 = .ok (.astore_n 3, 1) := by decide +kernel
theorem own_d2_7 : decode prog_63_method_5_code 7 = .ok (.iconst 0, 1) := by decide +kernel
theorem own_d2_8 : decode prog_63_method_5_code 8 = .ok (.istore 4, 2) := by decide +kernel
theorem own_d2_10 : decode prog_63_method_5_code 10 = .ok (.iload 4, 2) := by decide +kernel
theorem own_d2_12 : decode prog_63_method_5_code 12 = .ok (.iload_n 2, 1) := by decide +kernel
theorem own_d2_13 : decode prog_63_method_5_code 13 = .ok (.if_icmp .ge 52, 3) := by decide +kernel
theorem own_d2_65 : decode prog_63_method_5_code 65 = .ok (.aload_n 3, 1) := by decide +kernel
theorem own_d2_66 : decode prog_63_method_5_code 66 = .ok (.areturn, 1) := by decide +kernel
theorem own_pn_com_example_differentia_differentia_problems_Cec2013Transforms : plainName "com/example/differentia/differentia/problems/Cec2013Transforms" = true := by first | (simp [plainName, overriddenIn]; done) | decide +kernel
theorem own_ef_c0 (m : MethodId) (qa : Addr) (qb : Addr) : entryFrame m #[(.ref qa), (.ref qb)] 8 = mkF m 0 #[.val (.ref qa), .val (.ref qb), .unset, .unset, .unset, .unset, .unset, .unset] [] := by first | (simp [entryFrame, mkF, argsToLocals, Value.category]; done) | rfl
def own_Q_c0 (Z : State) (qa : Addr) (qb : Addr) (qak : ClassId) (qbk : ClassId) (h0 : Heap) (n0 : Nat) (v : Option Value) (h : Heap) (L : List Loc) : Prop := ∃ (bc01 : Addr) (kc01 : ClassId), v = some (.ref bc01) ∧ Fr n0 L ∧ Keep h0 h [] ∧ h0.size ≤ bc01 ∧ Arv Z h bc01 kc01 .double (0 : Int32) [] (.double 0)
set_option maxRecDepth 65536 in
set_option maxHeartbeats 40000000 in
theorem own_rm_c0 (l : Launch) (Z : State) (a0 : Array Value) (hw : ∀ d ∈ tables_1, d.before a0 Z = true) (ws : List Jvm.Cond) (qa : Addr) (qb : Addr) {qak : ClassId} {qbk : ClassId} (h0 : Heap) (n0 : Nat) (Z0 : n0 ≤ h0.size) (V_qa : Arv Z h0 qa qak .double (0 : Int32) [] (.double 0)) (V_qb : Arv Z h0 qb qbk .double (0 : Int32) [] (.double 0))  :
    MetFree l (⟨"com/example/differentia/differentia/problems/Cec2013Transforms", "rotate", "([D[D)[D"⟩ : MethodName) (head1 (Jvm.Cond.code (⟨"com/example/differentia/differentia/problems/Cec2013Transforms", "rotate", "([D[D)[D"⟩ : MethodName) prog_63_method_5_code 8 (some (.array .double)) :: ws) ({ frames := 0, cells := 1, slots := 0, locals := 0 } : Room)) (fun a U => a = #[(.ref qa), (.ref qb)] ∧ Z.Warmed39 U.vm ∧ U.heap = h0) (fun _ _ _ _ _ => True) (fun _ U o U' => ∃ v L, o = .returned v ∧ own_Q_c0 Z qa qb qak qbk h0 n0 v U'.heap L ∧ FrameEnd U o U' L ({ frames := 0, cells := 1, slots := 0, locals := 0 } : Room).cells ({ frames := 0, cells := 1, slots := 0, locals := 0 } : Room).slots) := by
  refine MetFree.of_bodySF (plainFor_of_name own_pn_com_example_differentia_differentia_problems_Cec2013Transforms) hisR ?_
  intro p e s m args below meth c s₁ Bd hml0 hP hK
  obtain ⟨rfl, hZ, hh⟩ := hP
  have hx := Bd.exec
  have hby := Bd.bytes
  have hml : c.maxLocals = 8 := hml0
  have hown : s.vm.findClass "com/example/differentia/differentia/problems/Cec2013Transforms" = some m.cls := findClass_of_methodNamed Bd.named
  have hnm := (name_of_methodNamed Bd.named Bd.method).1
  have X0 : Stand p l e ({ frames := 0, cells := 1, slots := 0, locals := 0 } : Room) s m #[(.ref qa), (.ref qb)] below meth c s₁ [] 0 0 := Stand.of_body Bd
  have e0 : s₁.heap = h0 := by rw [← hh, Bd.state]; rfl
  have N0 := Fr.nil n0
  have pre0 : ∀ t, Steps p.tables e below (s₁.setTop (mkF m 0 #[.val (.ref qa), .val (.ref qb), .unset, .unset, .unset, .unset, .unset, .unset] [])) t → Steps p.tables e below (s₁.setTop (entryFrame m #[(.ref qa), (.ref qb)] 8)) t := fun t k => castTop (own_ef_c0 m qa qb) k
  obtain ⟨Tc01, hc01, kc01, bc01, Xc01, ec01, Ec01, Gc01, Vc01, stc01⟩ := own_newD (L := #[.val (.ref qa), .val (.ref qb), .val (.int (0 : Int32)), .unset, .unset, .unset, .unset, .unset]) (S := []) X0 hx hZ (hw _ (List.mem_of_getElem? (i := 4) rfl)) e0 (z := (0 : Int32)) 0 (by decide) (by decide) (by decide) (by decide) (by decide) (hb hby own_d2_4) (pc' := 6) rfl
  have ne_qa_bc01 : qa ≠ bc01 := Nat.ne_of_lt (Nat.lt_of_lt_of_le V_qa.lt (Nat.le_of_eq Gc01.symm))
  have ne_bc01_qa : bc01 ≠ qa := Ne.symm ne_qa_bc01
  have ne_qb_bc01 : qb ≠ bc01 := Nat.ne_of_lt (Nat.lt_of_lt_of_le V_qb.lt (Nat.le_of_eq Gc01.symm))
  have ne_bc01_qb : bc01 ≠ qb := Ne.symm ne_qb_bc01
  have g_bc01 : n0 ≤ bc01 := Nat.le_trans Z0 (Nat.le_of_eq Gc01.symm)
  have sz_bc01 : h0.size ≤ bc01 := Nat.le_trans (Keep.refl h0 []).1 (Nat.le_of_eq Gc01.symm)
  have V_qa_c01 := V_qa.ext Ec01
  have V_qb_c01 := V_qb.ext Ec01
  have Zc01 : n0 ≤ hc01.size := Nat.le_trans Z0 Ec01.1
  have KKc01 := (Keep.refl h0 []).ext Ec01
  have V_bc01 : Arv Z hc01 bc01 kc01 .double (0 : Int32) [] (.double 0) := Vc01
  obtain ⟨fs, hr, hrun, hended, hW, hsame⟩ := Xc01.leave (v := some (.ref bc01)) (fun h => by rw [Bd.returns] at h; cases h)
  refine ⟨_, _, pre0 _ ?_, hrun, hended, _, _, rfl, ?_, ⟨_, rfl⟩, hW, hsame.mono (by decide) (by decide)⟩
  · refine own_s_aloadN X0.here hx (hb hby own_d2_0) (pc' := 1) rfl rfl rfl ?_
    refine own_len X0 hx hZ e0 V_qa (hb hby own_d2_1) (pc' := 2) rfl ?_
    refine own_s_istoreN X0.here hx (hb hby own_d2_2) (pc' := 3) rfl (L' := #[.val (.ref qa), .val (.ref qb), .val (.int (0 : Int32)), .unset, .unset, .unset, .unset, .unset]) rfl ?_
    refine own_s_iloadN X0.here hx (hb hby own_d2_3) (pc' := 4) rfl rfl ?_
    refine stc01 _ ?_
    refine own_s_astoreN Xc01.here hx (hb hby own_d2_6) (pc' := 7) rfl rfl (L' := #[.val (.ref qa), .val (.ref qb), .val (.int (0 : Int32)), .val (.ref bc01), .unset, .unset, .unset, .unset]) rfl ?_
    refine own_s_iconst Xc01.here hx (hb hby own_d2_7) (pc' := 8) rfl (v := (0 : Int32)) (by decide) ?_
    refine own_s_istore Xc01.here hx (hb hby own_d2_8) (pc' := 10) rfl (L' := #[.val (.ref qa), .val (.ref qb), .val (.int (0 : Int32)), .val (.ref bc01), .val (.int (0 : Int32)), .unset, .unset, .unset]) rfl ?_
    refine own_s_iload Xc01.here hx (hb hby own_d2_10) (pc' := 12) rfl rfl ?_
    refine own_s_iloadN Xc01.here hx (hb hby own_d2_12) (pc' := 13) rfl rfl ?_
    refine own_s_icmpYes Xc01.here hx (hb hby own_d2_13) (by decide) (pc' := 65) (by decide) (by decide) ?_
    refine own_s_aloadN Xc01.here hx (hb hby own_d2_65) (pc' := 66) rfl rfl rfl ?_
    exact own_retR Xc01 hx Bd.returns rfl (hb hby own_d2_66) hr
  · show own_Q_c0 Z qa qb qak qbk h0 n0 _ Tc01.heap _
    rw [ec01]
    exact ⟨bc01, kc01, rfl, N0, KKc01, sz_bc01, V_bc01⟩
theorem own_pd_28JI29D : parseMethodDescriptor "(JI)D" = some ⟨[.long, .int], some .double⟩ := by decide +kernel
theorem own_pd_285bD5bD295bD : parseMethodDescriptor "([D[D)[D" = some ⟨[(.array .double), (.array .double)], some (.array .double)⟩ := by decide +kernel
theorem own_ef_w0 (m : MethodId) (p0 : Int64) (p1 : Int64) (p2 : Int32) : entryFrame m #[(.long p0), (.long p1), (.int p2)] maxLocals = mkF m 0 #[.val (.long p0), .second, .val (.long p1), .second, .val (.int p2), .unset, .unset, .unset, .unset, .unset, .unset, .unset, .unset, .unset, .unset, .unset, .unset, .unset, .unset, .unset, .unset, .unset, .unset, .unset, .unset, .unset, .unset, .unset, .unset, .unset, .unset, .unset, .unset] [] := by first | (simp [entryFrame, mkF, argsToLocals, Value.category, maxLocals]; done) | rfl
set_option maxRecDepth 65536 in
set_option maxHeartbeats 40000000 in
theorem own_rm_w0 (l : Launch) (Z : State) (a0 : Array Value) (hw : ∀ d ∈ tables_1, d.before a0 Z = true) (ws : List Jvm.Cond) (p0 : Int64) (p1 : Int64) (p2 : Int32) {w0_c8_b0_v5 : Int64} {w0_c8_b0_v6 : Int32} {w0_c8_b0_v7 : Int32} {w0_c15_b1_v5 : Int64} {w0_c15_b1_v6 : Int32} {w0_c15_b1_v7 : Int32} {w0_c22_b2_v5 : Int64} {w0_c22_b2_v6 : Int32} {w0_c22_b2_v7 : Int32} {w0_c29_b0_v5 : Int64} {w0_c29_b0_v6 : Int32} {w0_c29_b0_v7 : Int32} {w0_c36_b1_v5 : Int64} {w0_c36_b1_v6 : Int32} {w0_c36_b1_v7 : Int32} {w0_c43_b2_v5 : Int64} {w0_c43_b2_v6 : Int32} {w0_c43_b2_v7 : Int32} {w0_c50_b3_v5 : Int64} {w0_c50_b3_v6 : Int32} {w0_c50_b3_v7 : Int32} {w0_c57_b4_v5 : Int64} {w0_c57_b4_v6 : Int32} {w0_c57_b4_v7 : Int32} {w0_c64_b5_v5 : Int64} {w0_c64_b5_v6 : Int32} {w0_c64_b5_v7 : Int32} {w0_c72_b6_v5 : Int64} {w0_c72_b6_v6 : Int32} {w0_c72_b6_v7 : Int32} {w0_c80_b7_v5 : Int64} {w0_c80_b7_v6 : Int32} {w0_c80_b7_v7 : Int32} {w0_c87_b3_v5 : Int64} {w0_c87_b3_v6 : Int32} {w0_c87_b3_v7 : Int32} (h0 : Heap) (n0 : Nat) (Z0 : n0 ≤ h0.size)  (w0_hv3 : p2 &&& (3 : Int32) = (0 : Int32)) (w0_c8_b0_hv5 : (Int64.toUInt64 p0 >>> ((0 : Int32) &&& 63).toInt64.toUInt64).toInt64 = w0_c8_b0_v5) (w0_c8_b0_hv6 : Int64.toInt32 w0_c8_b0_v5 = w0_c8_b0_v6) (w0_c8_b0_hv7 : (Int32.toInt8 w0_c8_b0_v6).toInt32 = w0_c8_b0_v7) (w0_c15_b1_hv5 : (Int64.toUInt64 p0 >>> ((8 : Int32) &&& 63).toInt64.toUInt64).toInt64 = w0_c15_b1_v5) (w0_c15_b1_hv6 : Int64.toInt32 w0_c15_b1_v5 = w0_c15_b1_v6) (w0_c15_b1_hv7 : (Int32.toInt8 w0_c15_b1_v6).toInt32 = w0_c15_b1_v7) (w0_c22_b2_hv5 : (Int64.toUInt64 p0 >>> ((16 : Int32) &&& 63).toInt64.toUInt64).toInt64 = w0_c22_b2_v5) (w0_c22_b2_hv6 : Int64.toInt32 w0_c22_b2_v5 = w0_c22_b2_v6) (w0_c22_b2_hv7 : (Int32.toInt8 w0_c22_b2_v6).toInt32 = w0_c22_b2_v7) (w0_c29_b0_hv5 : (Int64.toUInt64 p1 >>> ((0 : Int32) &&& 63).toInt64.toUInt64).toInt64 = w0_c29_b0_v5) (w0_c29_b0_hv6 : Int64.toInt32 w0_c29_b0_v5 = w0_c29_b0_v6) (w0_c29_b0_hv7 : (Int32.toInt8 w0_c29_b0_v6).toInt32 = w0_c29_b0_v7) (w0_c36_b1_hv5 : (Int64.toUInt64 p1 >>> ((8 : Int32) &&& 63).toInt64.toUInt64).toInt64 = w0_c36_b1_v5) (w0_c36_b1_hv6 : Int64.toInt32 w0_c36_b1_v5 = w0_c36_b1_v6) (w0_c36_b1_hv7 : (Int32.toInt8 w0_c36_b1_v6).toInt32 = w0_c36_b1_v7) (w0_c43_b2_hv5 : (Int64.toUInt64 p1 >>> ((16 : Int32) &&& 63).toInt64.toUInt64).toInt64 = w0_c43_b2_v5) (w0_c43_b2_hv6 : Int64.toInt32 w0_c43_b2_v5 = w0_c43_b2_v6) (w0_c43_b2_hv7 : (Int32.toInt8 w0_c43_b2_v6).toInt32 = w0_c43_b2_v7) (w0_c50_b3_hv5 : (Int64.toUInt64 p1 >>> ((24 : Int32) &&& 63).toInt64.toUInt64).toInt64 = w0_c50_b3_v5) (w0_c50_b3_hv6 : Int64.toInt32 w0_c50_b3_v5 = w0_c50_b3_v6) (w0_c50_b3_hv7 : (Int32.toInt8 w0_c50_b3_v6).toInt32 = w0_c50_b3_v7) (w0_c57_b4_hv5 : (Int64.toUInt64 p1 >>> ((32 : Int32) &&& 63).toInt64.toUInt64).toInt64 = w0_c57_b4_v5) (w0_c57_b4_hv6 : Int64.toInt32 w0_c57_b4_v5 = w0_c57_b4_v6) (w0_c57_b4_hv7 : (Int32.toInt8 w0_c57_b4_v6).toInt32 = w0_c57_b4_v7) (w0_c64_b5_hv5 : (Int64.toUInt64 p1 >>> ((40 : Int32) &&& 63).toInt64.toUInt64).toInt64 = w0_c64_b5_v5) (w0_c64_b5_hv6 : Int64.toInt32 w0_c64_b5_v5 = w0_c64_b5_v6) (w0_c64_b5_hv7 : (Int32.toInt8 w0_c64_b5_v6).toInt32 = w0_c64_b5_v7) (w0_c72_b6_hv5 : (Int64.toUInt64 p1 >>> ((48 : Int32) &&& 63).toInt64.toUInt64).toInt64 = w0_c72_b6_v5) (w0_c72_b6_hv6 : Int64.toInt32 w0_c72_b6_v5 = w0_c72_b6_v6) (w0_c72_b6_hv7 : (Int32.toInt8 w0_c72_b6_v6).toInt32 = w0_c72_b6_v7) (w0_c80_b7_hv5 : (Int64.toUInt64 p1 >>> ((56 : Int32) &&& 63).toInt64.toUInt64).toInt64 = w0_c80_b7_v5) (w0_c80_b7_hv6 : Int64.toInt32 w0_c80_b7_v5 = w0_c80_b7_v6) (w0_c80_b7_hv7 : (Int32.toInt8 w0_c80_b7_v6).toInt32 = w0_c80_b7_v7) (w0_c87_b3_hv5 : (Int64.toUInt64 p0 >>> ((24 : Int32) &&& 63).toInt64.toUInt64).toInt64 = w0_c87_b3_v5) (w0_c87_b3_hv6 : Int64.toInt32 w0_c87_b3_v5 = w0_c87_b3_v6) (w0_c87_b3_hv7 : (Int32.toInt8 w0_c87_b3_v6).toInt32 = w0_c87_b3_v7) :
    MetFree l x (head1 (Jvm.Cond.code x code maxLocals ret :: ws) room_1) (fun a U => a = #[(.long p0), (.long p1), (.int p2)] ∧ Z.Warmed39 U.vm ∧ U.heap = h0) (fun _ _ _ _ _ => True) (fun _ U o U' => ∃ v L, o = .returned v ∧ own_Q0 n0 v U'.heap L ∧ FrameEnd U o U' L room_1.cells room_1.slots) := by
  refine MetFree.of_bodySF (plainFor_of_name own_pn_com_example_differentia_differentia_problems_Cec2013TransformsRotatePinLaw) hisR ?_
  intro p e s m args below meth c s₁ Bd hml0 hP hK
  obtain ⟨rfl, hZ, hh⟩ := hP
  have hx := Bd.exec
  have hby := Bd.bytes
  have hml : c.maxLocals = 33 := hml0
  have hown : s.vm.findClass "com/example/differentia/differentia/problems/Cec2013TransformsRotatePinLaw" = some m.cls := findClass_of_methodNamed Bd.named
  have hnm := (name_of_methodNamed Bd.named Bd.method).1
  have X0 : Stand p l e room_1 s m #[(.long p0), (.long p1), (.int p2)] below meth c s₁ [] 0 0 := Stand.of_body Bd
  have e0 : s₁.heap = h0 := by rw [← hh, Bd.state]; rfl
  have N0 := Fr.nil n0
  have pre0 : ∀ t, Steps p.tables e below (s₁.setTop (mkF m 0 #[.val (.long p0), .second, .val (.long p1), .second, .val (.int p2), .unset, .unset, .unset, .unset, .unset, .unset, .unset, .unset, .unset, .unset, .unset, .unset, .unset, .unset, .unset, .unset, .unset, .unset, .unset, .unset, .unset, .unset, .unset, .unset, .unset, .unset, .unset, .unset] [])) t → Steps p.tables e below (s₁.setTop (entryFrame m #[(.long p0), (.long p1), (.int p2)] maxLocals)) t := fun t k => castTop (own_ef_w0 m p0 p1 p2) k
  obtain ⟨_, _, ⟨Tw01, Lw01, kw01, nw01⟩, -, Xw01, ⟨Lcw01, hQw01, lw01, yw01, zw01⟩, stw01⟩ := Jvm.LawKit.callS X0 hx (y := (⟨"com/example/differentia/differentia/problems/Cec2013TransformsRotatePinLaw", "b", "(JI)D"⟩ : MethodName)) hown (mvT hZ (hw _ (List.mem_of_getElem? (i := 0) rfl))) (mvT hZ (hw _ (List.mem_of_getElem? (i := 1) rfl))) (mvT hZ (hw _ (List.mem_of_getElem? (i := 2) rfl))) (mvT hZ (hw _ (List.mem_of_getElem? (i := 3) rfl))) (by decide) (backOf (W := 0) (own_rm_b0 l Z a0 hw [] p0 h0 n0 Z0 w0_c8_b0_hv5 w0_c8_b0_hv6 w0_c8_b0_hv7) hZ (hw _ (List.mem_of_getElem? (i := 3) rfl)) (hw _ (List.mem_of_getElem? (i := 2) rfl)) (by decide) (by decide)) (g := (mkF m 8 #[.val (.long p0), .second, .val (.long p1), .second, .val (.int p2), .val (.int (0 : Int32)), .unset, .unset, .unset, .unset, .unset, .unset, .unset, .unset, .unset, .unset, .unset, .unset, .unset, .unset, .unset, .unset, .unset, .unset, .unset, .unset, .unset, .unset, .unset, .unset, .unset, .unset, .unset] [(.int (0 : Int32)), (.long p0)])) rfl (by rw [hml]; rfl) (argsL := [(.long p0), (.int (0 : Int32))]) (rest := []) (lenOf own_pd_28JI29D rfl) rfl (by show 2 * 0 + _ ≤ _; exact Nat.le_of_eq rfl) (hb hby at_8) (fun _ _ => ⟨rfl, e0, (by decide : 0 + 0 ≤ _), (by decide : 0 + 0 ≤ _)⟩)
  dsimp only [Pt.U, Pt.locs, Pt.cells, Pt.slots] at Xw01 lw01 yw01 zw01 stw01 hQw01
  rw [lw01, yw01, zw01] at Xw01
  obtain ⟨rfl, Nw01q, ew01⟩ := hQw01
  have Nw01 := Fr.app N0 Nw01q
  obtain ⟨_, _, ⟨Tw02, Lw02, kw02, nw02⟩, -, Xw02, ⟨Lcw02, hQw02, lw02, yw02, zw02⟩, stw02⟩ := Jvm.LawKit.callS Xw01 hx (y := (⟨"com/example/differentia/differentia/problems/Cec2013TransformsRotatePinLaw", "b", "(JI)D"⟩ : MethodName)) hown (mvT hZ (hw _ (List.mem_of_getElem? (i := 0) rfl))) (mvT hZ (hw _ (List.mem_of_getElem? (i := 1) rfl))) (mvT hZ (hw _ (List.mem_of_getElem? (i := 2) rfl))) (mvT hZ (hw _ (List.mem_of_getElem? (i := 3) rfl))) (by decide) (backOf (W := 0) (own_rm_b1 l Z a0 hw [] p0 h0 n0 Z0 w0_c15_b1_hv5 w0_c15_b1_hv6 w0_c15_b1_hv7) hZ (hw _ (List.mem_of_getElem? (i := 3) rfl)) (hw _ (List.mem_of_getElem? (i := 2) rfl)) (by decide) (by decide)) (g := (mkF m 15 #[.val (.long p0), .second, .val (.long p1), .second, .val (.int p2), .val (.int (0 : Int32)), .val (.double (FP.i2d w0_c8_b0_v7)), .second, .unset, .unset, .unset, .unset, .unset, .unset, .unset, .unset, .unset, .unset, .unset, .unset, .unset, .unset, .unset, .unset, .unset, .unset, .unset, .unset, .unset, .unset, .unset, .unset, .unset] [(.int (1 : Int32)), (.long p0)])) rfl (by rw [hml]; rfl) (argsL := [(.long p0), (.int (1 : Int32))]) (rest := []) (lenOf own_pd_28JI29D rfl) rfl (by show 2 * 0 + _ ≤ _; exact Nat.le_of_eq rfl) (hb hby at_15) (fun _ _ => ⟨rfl, ew01, (by decide : 0 + 0 ≤ _), (by decide : 0 + 0 ≤ _)⟩)
  dsimp only [Pt.U, Pt.locs, Pt.cells, Pt.slots] at Xw02 lw02 yw02 zw02 stw02 hQw02
  rw [lw02, yw02, zw02] at Xw02
  obtain ⟨rfl, Nw02q, ew02⟩ := hQw02
  have Nw02 := Fr.app Nw01 Nw02q
  obtain ⟨_, _, ⟨Tw03, Lw03, kw03, nw03⟩, -, Xw03, ⟨Lcw03, hQw03, lw03, yw03, zw03⟩, stw03⟩ := Jvm.LawKit.callS Xw02 hx (y := (⟨"com/example/differentia/differentia/problems/Cec2013TransformsRotatePinLaw", "b", "(JI)D"⟩ : MethodName)) hown (mvT hZ (hw _ (List.mem_of_getElem? (i := 0) rfl))) (mvT hZ (hw _ (List.mem_of_getElem? (i := 1) rfl))) (mvT hZ (hw _ (List.mem_of_getElem? (i := 2) rfl))) (mvT hZ (hw _ (List.mem_of_getElem? (i := 3) rfl))) (by decide) (backOf (W := 0) (own_rm_b2 l Z a0 hw [] p0 h0 n0 Z0 w0_c22_b2_hv5 w0_c22_b2_hv6 w0_c22_b2_hv7) hZ (hw _ (List.mem_of_getElem? (i := 3) rfl)) (hw _ (List.mem_of_getElem? (i := 2) rfl)) (by decide) (by decide)) (g := (mkF m 22 #[.val (.long p0), .second, .val (.long p1), .second, .val (.int p2), .val (.int (0 : Int32)), .val (.double (FP.i2d w0_c8_b0_v7)), .second, .val (.double (FP.i2d w0_c15_b1_v7)), .second, .unset, .unset, .unset, .unset, .unset, .unset, .unset, .unset, .unset, .unset, .unset, .unset, .unset, .unset, .unset, .unset, .unset, .unset, .unset, .unset, .unset, .unset, .unset] [(.int (2 : Int32)), (.long p0)])) rfl (by rw [hml]; rfl) (argsL := [(.long p0), (.int (2 : Int32))]) (rest := []) (lenOf own_pd_28JI29D rfl) rfl (by show 2 * 0 + _ ≤ _; exact Nat.le_of_eq rfl) (hb hby at_22) (fun _ _ => ⟨rfl, ew02, (by decide : 0 + 0 ≤ _), (by decide : 0 + 0 ≤ _)⟩)
  dsimp only [Pt.U, Pt.locs, Pt.cells, Pt.slots] at Xw03 lw03 yw03 zw03 stw03 hQw03
  rw [lw03, yw03, zw03] at Xw03
  obtain ⟨rfl, Nw03q, ew03⟩ := hQw03
  have Nw03 := Fr.app Nw02 Nw03q
  obtain ⟨_, _, ⟨Tw04, Lw04, kw04, nw04⟩, -, Xw04, ⟨Lcw04, hQw04, lw04, yw04, zw04⟩, stw04⟩ := Jvm.LawKit.callS Xw03 hx (y := (⟨"com/example/differentia/differentia/problems/Cec2013TransformsRotatePinLaw", "b", "(JI)D"⟩ : MethodName)) hown (mvT hZ (hw _ (List.mem_of_getElem? (i := 0) rfl))) (mvT hZ (hw _ (List.mem_of_getElem? (i := 1) rfl))) (mvT hZ (hw _ (List.mem_of_getElem? (i := 2) rfl))) (mvT hZ (hw _ (List.mem_of_getElem? (i := 3) rfl))) (by decide) (backOf (W := 0) (own_rm_b0 l Z a0 hw [] p1 h0 n0 Z0 w0_c29_b0_hv5 w0_c29_b0_hv6 w0_c29_b0_hv7) hZ (hw _ (List.mem_of_getElem? (i := 3) rfl)) (hw _ (List.mem_of_getElem? (i := 2) rfl)) (by decide) (by decide)) (g := (mkF m 29 #[.val (.long p0), .second, .val (.long p1), .second, .val (.int p2), .val (.int (0 : Int32)), .val (.double (FP.i2d w0_c8_b0_v7)), .second, .val (.double (FP.i2d w0_c15_b1_v7)), .second, .val (.double (FP.i2d w0_c22_b2_v7)), .second, .unset, .unset, .unset, .unset, .unset, .unset, .unset, .unset, .unset, .unset, .unset, .unset, .unset, .unset, .unset, .unset, .unset, .unset, .unset, .unset, .unset] [(.int (0 : Int32)), (.long p1)])) rfl (by rw [hml]; rfl) (argsL := [(.long p1), (.int (0 : Int32))]) (rest := []) (lenOf own_pd_28JI29D rfl) rfl (by show 2 * 0 + _ ≤ _; exact Nat.le_of_eq rfl) (hb hby at_29) (fun _ _ => ⟨rfl, ew03, (by decide : 0 + 0 ≤ _), (by decide : 0 + 0 ≤ _)⟩)
  dsimp only [Pt.U, Pt.locs, Pt.cells, Pt.slots] at Xw04 lw04 yw04 zw04 stw04 hQw04
  rw [lw04, yw04, zw04] at Xw04
  obtain ⟨rfl, Nw04q, ew04⟩ := hQw04
  have Nw04 := Fr.app Nw03 Nw04q
  obtain ⟨_, _, ⟨Tw05, Lw05, kw05, nw05⟩, -, Xw05, ⟨Lcw05, hQw05, lw05, yw05, zw05⟩, stw05⟩ := Jvm.LawKit.callS Xw04 hx (y := (⟨"com/example/differentia/differentia/problems/Cec2013TransformsRotatePinLaw", "b", "(JI)D"⟩ : MethodName)) hown (mvT hZ (hw _ (List.mem_of_getElem? (i := 0) rfl))) (mvT hZ (hw _ (List.mem_of_getElem? (i := 1) rfl))) (mvT hZ (hw _ (List.mem_of_getElem? (i := 2) rfl))) (mvT hZ (hw _ (List.mem_of_getElem? (i := 3) rfl))) (by decide) (backOf (W := 0) (own_rm_b1 l Z a0 hw [] p1 h0 n0 Z0 w0_c36_b1_hv5 w0_c36_b1_hv6 w0_c36_b1_hv7) hZ (hw _ (List.mem_of_getElem? (i := 3) rfl)) (hw _ (List.mem_of_getElem? (i := 2) rfl)) (by decide) (by decide)) (g := (mkF m 36 #[.val (.long p0), .second, .val (.long p1), .second, .val (.int p2), .val (.int (0 : Int32)), .val (.double (FP.i2d w0_c8_b0_v7)), .second, .val (.double (FP.i2d w0_c15_b1_v7)), .second, .val (.double (FP.i2d w0_c22_b2_v7)), .second, .val (.double (FP.i2d w0_c29_b0_v7)), .second, .unset, .unset, .unset, .unset, .unset, .unset, .unset, .unset, .unset, .unset, .unset, .unset, .unset, .unset, .unset, .unset, .unset, .unset, .unset] [(.int (1 : Int32)), (.long p1)])) rfl (by rw [hml]; rfl) (argsL := [(.long p1), (.int (1 : Int32))]) (rest := []) (lenOf own_pd_28JI29D rfl) rfl (by show 2 * 0 + _ ≤ _; exact Nat.le_of_eq rfl) (hb hby at_36) (fun _ _ => ⟨rfl, ew04, (by decide : 0 + 0 ≤ _), (by decide : 0 + 0 ≤ _)⟩)
  dsimp only [Pt.U, Pt.locs, Pt.cells, Pt.slots] at Xw05 lw05 yw05 zw05 stw05 hQw05
  rw [lw05, yw05, zw05] at Xw05
  obtain ⟨rfl, Nw05q, ew05⟩ := hQw05
  have Nw05 := Fr.app Nw04 Nw05q
  obtain ⟨_, _, ⟨Tw06, Lw06, kw06, nw06⟩, -, Xw06, ⟨Lcw06, hQw06, lw06, yw06, zw06⟩, stw06⟩ := Jvm.LawKit.callS Xw05 hx (y := (⟨"com/example/differentia/differentia/problems/Cec2013TransformsRotatePinLaw", "b", "(JI)D"⟩ : MethodName)) hown (mvT hZ (hw _ (List.mem_of_getElem? (i := 0) rfl))) (mvT hZ (hw _ (List.mem_of_getElem? (i := 1) rfl))) (mvT hZ (hw _ (List.mem_of_getElem? (i := 2) rfl))) (mvT hZ (hw _ (List.mem_of_getElem? (i := 3) rfl))) (by decide) (backOf (W := 0) (own_rm_b2 l Z a0 hw [] p1 h0 n0 Z0 w0_c43_b2_hv5 w0_c43_b2_hv6 w0_c43_b2_hv7) hZ (hw _ (List.mem_of_getElem? (i := 3) rfl)) (hw _ (List.mem_of_getElem? (i := 2) rfl)) (by decide) (by decide)) (g := (mkF m 43 #[.val (.long p0), .second, .val (.long p1), .second, .val (.int p2), .val (.int (0 : Int32)), .val (.double (FP.i2d w0_c8_b0_v7)), .second, .val (.double (FP.i2d w0_c15_b1_v7)), .second, .val (.double (FP.i2d w0_c22_b2_v7)), .second, .val (.double (FP.i2d w0_c29_b0_v7)), .second, .val (.double (FP.i2d w0_c36_b1_v7)), .second, .unset, .unset, .unset, .unset, .unset, .unset, .unset, .unset, .unset, .unset, .unset, .unset, .unset, .unset, .unset, .unset, .unset] [(.int (2 : Int32)), (.long p1)])) rfl (by rw [hml]; rfl) (argsL := [(.long p1), (.int (2 : Int32))]) (rest := []) (lenOf own_pd_28JI29D rfl) rfl (by show 2 * 0 + _ ≤ _; exact Nat.le_of_eq rfl) (hb hby at_43) (fun _ _ => ⟨rfl, ew05, (by decide : 0 + 0 ≤ _), (by decide : 0 + 0 ≤ _)⟩)
  dsimp only [Pt.U, Pt.locs, Pt.cells, Pt.slots] at Xw06 lw06 yw06 zw06 stw06 hQw06
  rw [lw06, yw06, zw06] at Xw06
  obtain ⟨rfl, Nw06q, ew06⟩ := hQw06
  have Nw06 := Fr.app Nw05 Nw06q
  obtain ⟨_, _, ⟨Tw07, Lw07, kw07, nw07⟩, -, Xw07, ⟨Lcw07, hQw07, lw07, yw07, zw07⟩, stw07⟩ := Jvm.LawKit.callS Xw06 hx (y := (⟨"com/example/differentia/differentia/problems/Cec2013TransformsRotatePinLaw", "b", "(JI)D"⟩ : MethodName)) hown (mvT hZ (hw _ (List.mem_of_getElem? (i := 0) rfl))) (mvT hZ (hw _ (List.mem_of_getElem? (i := 1) rfl))) (mvT hZ (hw _ (List.mem_of_getElem? (i := 2) rfl))) (mvT hZ (hw _ (List.mem_of_getElem? (i := 3) rfl))) (by decide) (backOf (W := 0) (own_rm_b3 l Z a0 hw [] p1 h0 n0 Z0 w0_c50_b3_hv5 w0_c50_b3_hv6 w0_c50_b3_hv7) hZ (hw _ (List.mem_of_getElem? (i := 3) rfl)) (hw _ (List.mem_of_getElem? (i := 2) rfl)) (by decide) (by decide)) (g := (mkF m 50 #[.val (.long p0), .second, .val (.long p1), .second, .val (.int p2), .val (.int (0 : Int32)), .val (.double (FP.i2d w0_c8_b0_v7)), .second, .val (.double (FP.i2d w0_c15_b1_v7)), .second, .val (.double (FP.i2d w0_c22_b2_v7)), .second, .val (.double (FP.i2d w0_c29_b0_v7)), .second, .val (.double (FP.i2d w0_c36_b1_v7)), .second, .val (.double (FP.i2d w0_c43_b2_v7)), .second, .unset, .unset, .unset, .unset, .unset, .unset, .unset, .unset, .unset, .unset, .unset, .unset, .unset, .unset, .unset] [(.int (3 : Int32)), (.long p1)])) rfl (by rw [hml]; rfl) (argsL := [(.long p1), (.int (3 : Int32))]) (rest := []) (lenOf own_pd_28JI29D rfl) rfl (by show 2 * 0 + _ ≤ _; exact Nat.le_of_eq rfl) (hb hby at_50) (fun _ _ => ⟨rfl, ew06, (by decide : 0 + 0 ≤ _), (by decide : 0 + 0 ≤ _)⟩)
  dsimp only [Pt.U, Pt.locs, Pt.cells, Pt.slots] at Xw07 lw07 yw07 zw07 stw07 hQw07
  rw [lw07, yw07, zw07] at Xw07
  obtain ⟨rfl, Nw07q, ew07⟩ := hQw07
  have Nw07 := Fr.app Nw06 Nw07q
  obtain ⟨_, _, ⟨Tw08, Lw08, kw08, nw08⟩, -, Xw08, ⟨Lcw08, hQw08, lw08, yw08, zw08⟩, stw08⟩ := Jvm.LawKit.callS Xw07 hx (y := (⟨"com/example/differentia/differentia/problems/Cec2013TransformsRotatePinLaw", "b", "(JI)D"⟩ : MethodName)) hown (mvT hZ (hw _ (List.mem_of_getElem? (i := 0) rfl))) (mvT hZ (hw _ (List.mem_of_getElem? (i := 1) rfl))) (mvT hZ (hw _ (List.mem_of_getElem? (i := 2) rfl))) (mvT hZ (hw _ (List.mem_of_getElem? (i := 3) rfl))) (by decide) (backOf (W := 0) (own_rm_b4 l Z a0 hw [] p1 h0 n0 Z0 w0_c57_b4_hv5 w0_c57_b4_hv6 w0_c57_b4_hv7) hZ (hw _ (List.mem_of_getElem? (i := 3) rfl)) (hw _ (List.mem_of_getElem? (i := 2) rfl)) (by decide) (by decide)) (g := (mkF m 57 #[.val (.long p0), .second, .val (.long p1), .second, .val (.int p2), .val (.int (0 : Int32)), .val (.double (FP.i2d w0_c8_b0_v7)), .second, .val (.double (FP.i2d w0_c15_b1_v7)), .second, .val (.double (FP.i2d w0_c22_b2_v7)), .second, .val (.double (FP.i2d w0_c29_b0_v7)), .second, .val (.double (FP.i2d w0_c36_b1_v7)), .second, .val (.double (FP.i2d w0_c43_b2_v7)), .second, .val (.double (FP.i2d w0_c50_b3_v7)), .second, .unset, .unset, .unset, .unset, .unset, .unset, .unset, .unset, .unset, .unset, .unset, .unset, .unset] [(.int (4 : Int32)), (.long p1)])) rfl (by rw [hml]; rfl) (argsL := [(.long p1), (.int (4 : Int32))]) (rest := []) (lenOf own_pd_28JI29D rfl) rfl (by show 2 * 0 + _ ≤ _; exact Nat.le_of_eq rfl) (hb hby at_57) (fun _ _ => ⟨rfl, ew07, (by decide : 0 + 0 ≤ _), (by decide : 0 + 0 ≤ _)⟩)
  dsimp only [Pt.U, Pt.locs, Pt.cells, Pt.slots] at Xw08 lw08 yw08 zw08 stw08 hQw08
  rw [lw08, yw08, zw08] at Xw08
  obtain ⟨rfl, Nw08q, ew08⟩ := hQw08
  have Nw08 := Fr.app Nw07 Nw08q
  obtain ⟨_, _, ⟨Tw09, Lw09, kw09, nw09⟩, -, Xw09, ⟨Lcw09, hQw09, lw09, yw09, zw09⟩, stw09⟩ := Jvm.LawKit.callS Xw08 hx (y := (⟨"com/example/differentia/differentia/problems/Cec2013TransformsRotatePinLaw", "b", "(JI)D"⟩ : MethodName)) hown (mvT hZ (hw _ (List.mem_of_getElem? (i := 0) rfl))) (mvT hZ (hw _ (List.mem_of_getElem? (i := 1) rfl))) (mvT hZ (hw _ (List.mem_of_getElem? (i := 2) rfl))) (mvT hZ (hw _ (List.mem_of_getElem? (i := 3) rfl))) (by decide) (backOf (W := 0) (own_rm_b5 l Z a0 hw [] p1 h0 n0 Z0 w0_c64_b5_hv5 w0_c64_b5_hv6 w0_c64_b5_hv7) hZ (hw _ (List.mem_of_getElem? (i := 3) rfl)) (hw _ (List.mem_of_getElem? (i := 2) rfl)) (by decide) (by decide)) (g := (mkF m 64 #[.val (.long p0), .second, .val (.long p1), .second, .val (.int p2), .val (.int (0 : Int32)), .val (.double (FP.i2d w0_c8_b0_v7)), .second, .val (.double (FP.i2d w0_c15_b1_v7)), .second, .val (.double (FP.i2d w0_c22_b2_v7)), .second, .val (.double (FP.i2d w0_c29_b0_v7)), .second, .val (.double (FP.i2d w0_c36_b1_v7)), .second, .val (.double (FP.i2d w0_c43_b2_v7)), .second, .val (.double (FP.i2d w0_c50_b3_v7)), .second, .val (.double (FP.i2d w0_c57_b4_v7)), .second, .unset, .unset, .unset, .unset, .unset, .unset, .unset, .unset, .unset, .unset, .unset] [(.int (5 : Int32)), (.long p1)])) rfl (by rw [hml]; rfl) (argsL := [(.long p1), (.int (5 : Int32))]) (rest := []) (lenOf own_pd_28JI29D rfl) rfl (by show 2 * 0 + _ ≤ _; exact Nat.le_of_eq rfl) (hb hby at_64) (fun _ _ => ⟨rfl, ew08, (by decide : 0 + 0 ≤ _), (by decide : 0 + 0 ≤ _)⟩)
  dsimp only [Pt.U, Pt.locs, Pt.cells, Pt.slots] at Xw09 lw09 yw09 zw09 stw09 hQw09
  rw [lw09, yw09, zw09] at Xw09
  obtain ⟨rfl, Nw09q, ew09⟩ := hQw09
  have Nw09 := Fr.app Nw08 Nw09q
  obtain ⟨_, _, ⟨Tw010, Lw010, kw010, nw010⟩, -, Xw010, ⟨Lcw010, hQw010, lw010, yw010, zw010⟩, stw010⟩ := Jvm.LawKit.callS Xw09 hx (y := (⟨"com/example/differentia/differentia/problems/Cec2013TransformsRotatePinLaw", "b", "(JI)D"⟩ : MethodName)) hown (mvT hZ (hw _ (List.mem_of_getElem? (i := 0) rfl))) (mvT hZ (hw _ (List.mem_of_getElem? (i := 1) rfl))) (mvT hZ (hw _ (List.mem_of_getElem? (i := 2) rfl))) (mvT hZ (hw _ (List.mem_of_getElem? (i := 3) rfl))) (by decide) (backOf (W := 0) (own_rm_b6 l Z a0 hw [] p1 h0 n0 Z0 w0_c72_b6_hv5 w0_c72_b6_hv6 w0_c72_b6_hv7) hZ (hw _ (List.mem_of_getElem? (i := 3) rfl)) (hw _ (List.mem_of_getElem? (i := 2) rfl)) (by decide) (by decide)) (g := (mkF m 72 #[.val (.long p0), .second, .val (.long p1), .second, .val (.int p2), .val (.int (0 : Int32)), .val (.double (FP.i2d w0_c8_b0_v7)), .second, .val (.double (FP.i2d w0_c15_b1_v7)), .second, .val (.double (FP.i2d w0_c22_b2_v7)), .second, .val (.double (FP.i2d w0_c29_b0_v7)), .second, .val (.double (FP.i2d w0_c36_b1_v7)), .second, .val (.double (FP.i2d w0_c43_b2_v7)), .second, .val (.double (FP.i2d w0_c50_b3_v7)), .second, .val (.double (FP.i2d w0_c57_b4_v7)), .second, .val (.double (FP.i2d w0_c64_b5_v7)), .second, .unset, .unset, .unset, .unset, .unset, .unset, .unset, .unset, .unset] [(.int (6 : Int32)), (.long p1)])) rfl (by rw [hml]; rfl) (argsL := [(.long p1), (.int (6 : Int32))]) (rest := []) (lenOf own_pd_28JI29D rfl) rfl (by show 2 * 0 + _ ≤ _; exact Nat.le_of_eq rfl) (hb hby at_72) (fun _ _ => ⟨rfl, ew09, (by decide : 0 + 0 ≤ _), (by decide : 0 + 0 ≤ _)⟩)
  dsimp only [Pt.U, Pt.locs, Pt.cells, Pt.slots] at Xw010 lw010 yw010 zw010 stw010 hQw010
  rw [lw010, yw010, zw010] at Xw010
  obtain ⟨rfl, Nw010q, ew010⟩ := hQw010
  have Nw010 := Fr.app Nw09 Nw010q
  obtain ⟨_, _, ⟨Tw011, Lw011, kw011, nw011⟩, -, Xw011, ⟨Lcw011, hQw011, lw011, yw011, zw011⟩, stw011⟩ := Jvm.LawKit.callS Xw010 hx (y := (⟨"com/example/differentia/differentia/problems/Cec2013TransformsRotatePinLaw", "b", "(JI)D"⟩ : MethodName)) hown (mvT hZ (hw _ (List.mem_of_getElem? (i := 0) rfl))) (mvT hZ (hw _ (List.mem_of_getElem? (i := 1) rfl))) (mvT hZ (hw _ (List.mem_of_getElem? (i := 2) rfl))) (mvT hZ (hw _ (List.mem_of_getElem? (i := 3) rfl))) (by decide) (backOf (W := 0) (own_rm_b7 l Z a0 hw [] p1 h0 n0 Z0 w0_c80_b7_hv5 w0_c80_b7_hv6 w0_c80_b7_hv7) hZ (hw _ (List.mem_of_getElem? (i := 3) rfl)) (hw _ (List.mem_of_getElem? (i := 2) rfl)) (by decide) (by decide)) (g := (mkF m 80 #[.val (.long p0), .second, .val (.long p1), .second, .val (.int p2), .val (.int (0 : Int32)), .val (.double (FP.i2d w0_c8_b0_v7)), .second, .val (.double (FP.i2d w0_c15_b1_v7)), .second, .val (.double (FP.i2d w0_c22_b2_v7)), .second, .val (.double (FP.i2d w0_c29_b0_v7)), .second, .val (.double (FP.i2d w0_c36_b1_v7)), .second, .val (.double (FP.i2d w0_c43_b2_v7)), .second, .val (.double (FP.i2d w0_c50_b3_v7)), .second, .val (.double (FP.i2d w0_c57_b4_v7)), .second, .val (.double (FP.i2d w0_c64_b5_v7)), .second, .val (.double (FP.i2d w0_c72_b6_v7)), .second, .unset, .unset, .unset, .unset, .unset, .unset, .unset] [(.int (7 : Int32)), (.long p1)])) rfl (by rw [hml]; rfl) (argsL := [(.long p1), (.int (7 : Int32))]) (rest := []) (lenOf own_pd_28JI29D rfl) rfl (by show 2 * 0 + _ ≤ _; exact Nat.le_of_eq rfl) (hb hby at_80) (fun _ _ => ⟨rfl, ew010, (by decide : 0 + 0 ≤ _), (by decide : 0 + 0 ≤ _)⟩)
  dsimp only [Pt.U, Pt.locs, Pt.cells, Pt.slots] at Xw011 lw011 yw011 zw011 stw011 hQw011
  rw [lw011, yw011, zw011] at Xw011
  obtain ⟨rfl, Nw011q, ew011⟩ := hQw011
  have Nw011 := Fr.app Nw010 Nw011q
  obtain ⟨_, _, ⟨Tw012, Lw012, kw012, nw012⟩, -, Xw012, ⟨Lcw012, hQw012, lw012, yw012, zw012⟩, stw012⟩ := Jvm.LawKit.callS Xw011 hx (y := (⟨"com/example/differentia/differentia/problems/Cec2013TransformsRotatePinLaw", "b", "(JI)D"⟩ : MethodName)) hown (mvT hZ (hw _ (List.mem_of_getElem? (i := 0) rfl))) (mvT hZ (hw _ (List.mem_of_getElem? (i := 1) rfl))) (mvT hZ (hw _ (List.mem_of_getElem? (i := 2) rfl))) (mvT hZ (hw _ (List.mem_of_getElem? (i := 3) rfl))) (by decide) (backOf (W := 0) (own_rm_b3 l Z a0 hw [] p0 h0 n0 Z0 w0_c87_b3_hv5 w0_c87_b3_hv6 w0_c87_b3_hv7) hZ (hw _ (List.mem_of_getElem? (i := 3) rfl)) (hw _ (List.mem_of_getElem? (i := 2) rfl)) (by decide) (by decide)) (g := (mkF m 87 #[.val (.long p0), .second, .val (.long p1), .second, .val (.int p2), .val (.int (0 : Int32)), .val (.double (FP.i2d w0_c8_b0_v7)), .second, .val (.double (FP.i2d w0_c15_b1_v7)), .second, .val (.double (FP.i2d w0_c22_b2_v7)), .second, .val (.double (FP.i2d w0_c29_b0_v7)), .second, .val (.double (FP.i2d w0_c36_b1_v7)), .second, .val (.double (FP.i2d w0_c43_b2_v7)), .second, .val (.double (FP.i2d w0_c50_b3_v7)), .second, .val (.double (FP.i2d w0_c57_b4_v7)), .second, .val (.double (FP.i2d w0_c64_b5_v7)), .second, .val (.double (FP.i2d w0_c72_b6_v7)), .second, .val (.double (FP.i2d w0_c80_b7_v7)), .second, .unset, .unset, .unset, .unset, .unset] [(.int (3 : Int32)), (.long p0)])) rfl (by rw [hml]; rfl) (argsL := [(.long p0), (.int (3 : Int32))]) (rest := []) (lenOf own_pd_28JI29D rfl) rfl (by show 2 * 0 + _ ≤ _; exact Nat.le_of_eq rfl) (hb hby at_87) (fun _ _ => ⟨rfl, ew011, (by decide : 0 + 0 ≤ _), (by decide : 0 + 0 ≤ _)⟩)
  dsimp only [Pt.U, Pt.locs, Pt.cells, Pt.slots] at Xw012 lw012 yw012 zw012 stw012 hQw012
  rw [lw012, yw012, zw012] at Xw012
  obtain ⟨rfl, Nw012q, ew012⟩ := hQw012
  have Nw012 := Fr.app Nw011 Nw012q
  obtain ⟨Tw013, hw013, kw013, bw013, Xw013, ew013, Ew013, Gw013, Vw013, stw013⟩ := own_newD (L := #[.val (.long p0), .second, .val (.long p1), .second, .val (.int p2), .val (.int (0 : Int32)), .val (.double (FP.i2d w0_c8_b0_v7)), .second, .val (.double (FP.i2d w0_c15_b1_v7)), .second, .val (.double (FP.i2d w0_c22_b2_v7)), .second, .val (.double (FP.i2d w0_c29_b0_v7)), .second, .val (.double (FP.i2d w0_c36_b1_v7)), .second, .val (.double (FP.i2d w0_c43_b2_v7)), .second, .val (.double (FP.i2d w0_c50_b3_v7)), .second, .val (.double (FP.i2d w0_c57_b4_v7)), .second, .val (.double (FP.i2d w0_c64_b5_v7)), .second, .val (.double (FP.i2d w0_c72_b6_v7)), .second, .val (.double (FP.i2d w0_c80_b7_v7)), .second, .val (.double (FP.i2d w0_c87_b3_v7)), .second, .unset, .unset, .unset]) (S := []) Xw012 hx hZ (hw _ (List.mem_of_getElem? (i := 4) rfl)) ew012 (z := (0 : Int32)) 0 (by decide) (by decide) (by decide) (by decide) (by decide) (hb hby at_98) (pc' := 100) rfl
  have g_bw013 : n0 ≤ bw013 := Nat.le_trans Z0 (Nat.le_of_eq Gw013.symm)
  have sz_bw013 : h0.size ≤ bw013 := Nat.le_trans (Keep.refl h0 []).1 (Nat.le_of_eq Gw013.symm)
  have Zw013 : n0 ≤ hw013.size := Nat.le_trans Z0 Ew013.1
  have KKw013 := (Keep.refl h0 []).ext Ew013
  have V_bw013 : Arv Z hw013 bw013 kw013 .double (0 : Int32) [] (.double 0) := Vw013
  obtain ⟨Tw014, hw014, kw014, bw014, Xw014, ew014, Ew014, Gw014, Vw014, stw014⟩ := own_newD (L := #[.val (.long p0), .second, .val (.long p1), .second, .val (.int p2), .val (.int (0 : Int32)), .val (.double (FP.i2d w0_c8_b0_v7)), .second, .val (.double (FP.i2d w0_c15_b1_v7)), .second, .val (.double (FP.i2d w0_c22_b2_v7)), .second, .val (.double (FP.i2d w0_c29_b0_v7)), .second, .val (.double (FP.i2d w0_c36_b1_v7)), .second, .val (.double (FP.i2d w0_c43_b2_v7)), .second, .val (.double (FP.i2d w0_c50_b3_v7)), .second, .val (.double (FP.i2d w0_c57_b4_v7)), .second, .val (.double (FP.i2d w0_c64_b5_v7)), .second, .val (.double (FP.i2d w0_c72_b6_v7)), .second, .val (.double (FP.i2d w0_c80_b7_v7)), .second, .val (.double (FP.i2d w0_c87_b3_v7)), .second, .unset, .unset, .unset]) (S := [(.ref bw013)]) Xw013 hx hZ (hw _ (List.mem_of_getElem? (i := 4) rfl)) ew013 (z := (0 : Int32)) 0 (by decide) (by decide) (by decide) (by decide) (by decide) (hb hby at_101) (pc' := 103) rfl
  have ne_bw013_bw014 : bw013 ≠ bw014 := Nat.ne_of_lt (Nat.lt_of_lt_of_le V_bw013.lt (Nat.le_of_eq Gw014.symm))
  have ne_bw014_bw013 : bw014 ≠ bw013 := Ne.symm ne_bw013_bw014
  have g_bw014 : n0 ≤ bw014 := Nat.le_trans Zw013 (Nat.le_of_eq Gw014.symm)
  have sz_bw014 : h0.size ≤ bw014 := Nat.le_trans KKw013.1 (Nat.le_of_eq Gw014.symm)
  have V_bw013_w014 := V_bw013.ext Ew014
  have Zw014 : n0 ≤ hw014.size := Nat.le_trans Zw013 Ew014.1
  have KKw014 := KKw013.ext Ew014
  have V_bw014 : Arv Z hw014 bw014 kw014 .double (0 : Int32) [] (.double 0) := Vw014
  obtain ⟨_, _, ⟨Tw015, Lw015, kw015, nw015⟩, -, Xw015, ⟨Lcw015, hQw015, lw015, yw015, zw015⟩, stw015⟩ := Jvm.LawKit.callS Xw014 hx (y := (⟨"com/example/differentia/differentia/problems/Cec2013Transforms", "rotate", "([D[D)[D"⟩ : MethodName)) hown (mvT hZ (hw _ (List.mem_of_getElem? (i := 5) rfl))) (mvT hZ (hw _ (List.mem_of_getElem? (i := 6) rfl))) (mvT hZ (hw _ (List.mem_of_getElem? (i := 7) rfl))) (mvT hZ (hw _ (List.mem_of_getElem? (i := 8) rfl))) (by decide) (backOf (W := 0) (own_rm_c0 l Z a0 hw [] bw013 bw014 hw014 n0 Zw014 V_bw013_w014 V_bw014) hZ (hw _ (List.mem_of_getElem? (i := 8) rfl)) (hw _ (List.mem_of_getElem? (i := 7) rfl)) (by decide) (by decide)) (g := (mkF m 103 #[.val (.long p0), .second, .val (.long p1), .second, .val (.int p2), .val (.int (0 : Int32)), .val (.double (FP.i2d w0_c8_b0_v7)), .second, .val (.double (FP.i2d w0_c15_b1_v7)), .second, .val (.double (FP.i2d w0_c22_b2_v7)), .second, .val (.double (FP.i2d w0_c29_b0_v7)), .second, .val (.double (FP.i2d w0_c36_b1_v7)), .second, .val (.double (FP.i2d w0_c43_b2_v7)), .second, .val (.double (FP.i2d w0_c50_b3_v7)), .second, .val (.double (FP.i2d w0_c57_b4_v7)), .second, .val (.double (FP.i2d w0_c64_b5_v7)), .second, .val (.double (FP.i2d w0_c72_b6_v7)), .second, .val (.double (FP.i2d w0_c80_b7_v7)), .second, .val (.double (FP.i2d w0_c87_b3_v7)), .second, .unset, .unset, .unset] [(.ref bw014), (.ref bw013)])) rfl (by rw [hml]; rfl) (argsL := [(.ref bw013), (.ref bw014)]) (rest := []) (lenOf own_pd_285bD5bD295bD rfl) rfl (by show 2 * 0 + _ ≤ _; exact Nat.le_of_eq rfl) (hb hby at_103) (fun _ _ => ⟨rfl, ew014, (by decide : 2 + 1 ≤ _), (by decide : 0 + 0 ≤ _)⟩)
  dsimp only [Pt.U, Pt.locs, Pt.cells, Pt.slots] at Xw015 lw015 yw015 zw015 stw015 hQw015
  rw [lw015, yw015, zw015] at Xw015
  obtain ⟨bw015, kw015a, rfl, Nw015q, Kw015, Gw015, qw015_0⟩ := hQw015
  have ne_bw013_bw015 : bw013 ≠ bw015 := Nat.ne_of_lt (Nat.lt_of_lt_of_le V_bw013_w014.lt Gw015)
  have ne_bw015_bw013 : bw015 ≠ bw013 := Ne.symm ne_bw013_bw015
  have ne_bw014_bw015 : bw014 ≠ bw015 := Nat.ne_of_lt (Nat.lt_of_lt_of_le V_bw014.lt Gw015)
  have ne_bw015_bw014 : bw015 ≠ bw014 := Ne.symm ne_bw014_bw015
  have g_bw015 : n0 ≤ bw015 := Nat.le_trans Zw014 Gw015
  have sz_bw015 : h0.size ≤ bw015 := Nat.le_trans KKw014.1 Gw015
  have V_bw013_w015 := V_bw013_w014.keep Kw015 (List.not_mem_nil)
  have V_bw014_w015 := V_bw014.keep Kw015 (List.not_mem_nil)
  have Zw015 : n0 ≤ Tw015.heap.size := Nat.le_trans Zw014 Kw015.1
  have KKw015 := KKw014.trans Kw015 (fun _ q => nomatch q)
  have Nw015 := Fr.app Nw012 Nw015q
  obtain ⟨fs, hr, hrun, hended, hW, hsame⟩ := Xw015.leave (v := some (.int (1 : Int32))) (fun h => by rw [Bd.returns] at h; cases h)
  refine ⟨_, _, pre0 _ ?_, hrun, hended, _, _, rfl, ?_, ⟨_, rfl⟩, hW, hsame.mono (by decide) (by decide)⟩
  · refine own_s_iload X0.here hx (hb hby at_0) (pc' := 2) rfl rfl ?_
    refine own_s_iconst X0.here hx (hb hby at_2) (pc' := 3) rfl (v := (3 : Int32)) (by decide) ?_
    refine own_s_iand X0.here hx (hb hby at_3) (pc' := 4) rfl (v := (0 : Int32)) w0_hv3 ?_
    refine own_s_istore X0.here hx (hb hby at_4) (pc' := 6) rfl (L' := #[.val (.long p0), .second, .val (.long p1), .second, .val (.int p2), .val (.int (0 : Int32)), .unset, .unset, .unset, .unset, .unset, .unset, .unset, .unset, .unset, .unset, .unset, .unset, .unset, .unset, .unset, .unset, .unset, .unset, .unset, .unset, .unset, .unset, .unset, .unset, .unset, .unset, .unset]) rfl ?_
    refine own_s_lloadN X0.here hx (hb hby at_6) (pc' := 7) rfl rfl ?_
    refine own_s_iconst X0.here hx (hb hby at_7) (pc' := 8) rfl (v := (0 : Int32)) (by decide) ?_
    refine stw01 _ ?_
    show Steps p.tables e below (Tw01.setTop (mkF m 11 #[.val (.long p0), .second, .val (.long p1), .second, .val (.int p2), .val (.int (0 : Int32)), .unset, .unset, .unset, .unset, .unset, .unset, .unset, .unset, .unset, .unset, .unset, .unset, .unset, .unset, .unset, .unset, .unset, .unset, .unset, .unset, .unset, .unset, .unset, .unset, .unset, .unset, .unset] [(.double (FP.i2d w0_c8_b0_v7))])) _
    refine own_s_dstore Xw01.here hx (hb hby at_11) (pc' := 13) rfl (L' := #[.val (.long p0), .second, .val (.long p1), .second, .val (.int p2), .val (.int (0 : Int32)), .val (.double (FP.i2d w0_c8_b0_v7)), .second, .unset, .unset, .unset, .unset, .unset, .unset, .unset, .unset, .unset, .unset, .unset, .unset, .unset, .unset, .unset, .unset, .unset, .unset, .unset, .unset, .unset, .unset, .unset, .unset, .unset]) rfl ?_
    refine own_s_lloadN Xw01.here hx (hb hby at_13) (pc' := 14) rfl rfl ?_
    refine own_s_iconst Xw01.here hx (hb hby at_14) (pc' := 15) rfl (v := (1 : Int32)) (by decide) ?_
    refine stw02 _ ?_
    show Steps p.tables e below (Tw02.setTop (mkF m 18 #[.val (.long p0), .second, .val (.long p1), .second, .val (.int p2), .val (.int (0 : Int32)), .val (.double (FP.i2d w0_c8_b0_v7)), .second, .unset, .unset, .unset, .unset, .unset, .unset, .unset, .unset, .unset, .unset, .unset, .unset, .unset, .unset, .unset, .unset, .unset, .unset, .unset, .unset, .unset, .unset, .unset, .unset, .unset] [(.double (FP.i2d w0_c15_b1_v7))])) _
    refine own_s_dstore Xw02.here hx (hb hby at_18) (pc' := 20) rfl (L' := #[.val (.long p0), .second, .val (.long p1), .second, .val (.int p2), .val (.int (0 : Int32)), .val (.double (FP.i2d w0_c8_b0_v7)), .second, .val (.double (FP.i2d w0_c15_b1_v7)), .second, .unset, .unset, .unset, .unset, .unset, .unset, .unset, .unset, .unset, .unset, .unset, .unset, .unset, .unset, .unset, .unset, .unset, .unset, .unset, .unset, .unset, .unset, .unset]) rfl ?_
    refine own_s_lloadN Xw02.here hx (hb hby at_20) (pc' := 21) rfl rfl ?_
    refine own_s_iconst Xw02.here hx (hb hby at_21) (pc' := 22) rfl (v := (2 : Int32)) (by decide) ?_
    refine stw03 _ ?_
    show Steps p.tables e below (Tw03.setTop (mkF m 25 #[.val (.long p0), .second, .val (.long p1), .second, .val (.int p2), .val (.int (0 : Int32)), .val (.double (FP.i2d w0_c8_b0_v7)), .second, .val (.double (FP.i2d w0_c15_b1_v7)), .second, .unset, .unset, .unset, .unset, .unset, .unset, .unset, .unset, .unset, .unset, .unset, .unset, .unset, .unset, .unset, .unset, .unset, .unset, .unset, .unset, .unset, .unset, .unset] [(.double (FP.i2d w0_c22_b2_v7))])) _
    refine own_s_dstore Xw03.here hx (hb hby at_25) (pc' := 27) rfl (L' := #[.val (.long p0), .second, .val (.long p1), .second, .val (.int p2), .val (.int (0 : Int32)), .val (.double (FP.i2d w0_c8_b0_v7)), .second, .val (.double (FP.i2d w0_c15_b1_v7)), .second, .val (.double (FP.i2d w0_c22_b2_v7)), .second, .unset, .unset, .unset, .unset, .unset, .unset, .unset, .unset, .unset, .unset, .unset, .unset, .unset, .unset, .unset, .unset, .unset, .unset, .unset, .unset, .unset]) rfl ?_
    refine own_s_lloadN Xw03.here hx (hb hby at_27) (pc' := 28) rfl rfl ?_
    refine own_s_iconst Xw03.here hx (hb hby at_28) (pc' := 29) rfl (v := (0 : Int32)) (by decide) ?_
    refine stw04 _ ?_
    show Steps p.tables e below (Tw04.setTop (mkF m 32 #[.val (.long p0), .second, .val (.long p1), .second, .val (.int p2), .val (.int (0 : Int32)), .val (.double (FP.i2d w0_c8_b0_v7)), .second, .val (.double (FP.i2d w0_c15_b1_v7)), .second, .val (.double (FP.i2d w0_c22_b2_v7)), .second, .unset, .unset, .unset, .unset, .unset, .unset, .unset, .unset, .unset, .unset, .unset, .unset, .unset, .unset, .unset, .unset, .unset, .unset, .unset, .unset, .unset] [(.double (FP.i2d w0_c29_b0_v7))])) _
    refine own_s_dstore Xw04.here hx (hb hby at_32) (pc' := 34) rfl (L' := #[.val (.long p0), .second, .val (.long p1), .second, .val (.int p2), .val (.int (0 : Int32)), .val (.double (FP.i2d w0_c8_b0_v7)), .second, .val (.double (FP.i2d w0_c15_b1_v7)), .second, .val (.double (FP.i2d w0_c22_b2_v7)), .second, .val (.double (FP.i2d w0_c29_b0_v7)), .second, .unset, .unset, .unset, .unset, .unset, .unset, .unset, .unset, .unset, .unset, .unset, .unset, .unset, .unset, .unset, .unset, .unset, .unset, .unset]) rfl ?_
    refine own_s_lloadN Xw04.here hx (hb hby at_34) (pc' := 35) rfl rfl ?_
    refine own_s_iconst Xw04.here hx (hb hby at_35) (pc' := 36) rfl (v := (1 : Int32)) (by decide) ?_
    refine stw05 _ ?_
    show Steps p.tables e below (Tw05.setTop (mkF m 39 #[.val (.long p0), .second, .val (.long p1), .second, .val (.int p2), .val (.int (0 : Int32)), .val (.double (FP.i2d w0_c8_b0_v7)), .second, .val (.double (FP.i2d w0_c15_b1_v7)), .second, .val (.double (FP.i2d w0_c22_b2_v7)), .second, .val (.double (FP.i2d w0_c29_b0_v7)), .second, .unset, .unset, .unset, .unset, .unset, .unset, .unset, .unset, .unset, .unset, .unset, .unset, .unset, .unset, .unset, .unset, .unset, .unset, .unset] [(.double (FP.i2d w0_c36_b1_v7))])) _
    refine own_s_dstore Xw05.here hx (hb hby at_39) (pc' := 41) rfl (L' := #[.val (.long p0), .second, .val (.long p1), .second, .val (.int p2), .val (.int (0 : Int32)), .val (.double (FP.i2d w0_c8_b0_v7)), .second, .val (.double (FP.i2d w0_c15_b1_v7)), .second, .val (.double (FP.i2d w0_c22_b2_v7)), .second, .val (.double (FP.i2d w0_c29_b0_v7)), .second, .val (.double (FP.i2d w0_c36_b1_v7)), .second, .unset, .unset, .unset, .unset, .unset, .unset, .unset, .unset, .unset, .unset, .unset, .unset, .unset, .unset, .unset, .unset, .unset]) rfl ?_
    refine own_s_lloadN Xw05.here hx (hb hby at_41) (pc' := 42) rfl rfl ?_
    refine own_s_iconst Xw05.here hx (hb hby at_42) (pc' := 43) rfl (v := (2 : Int32)) (by decide) ?_
    refine stw06 _ ?_
    show Steps p.tables e below (Tw06.setTop (mkF m 46 #[.val (.long p0), .second, .val (.long p1), .second, .val (.int p2), .val (.int (0 : Int32)), .val (.double (FP.i2d w0_c8_b0_v7)), .second, .val (.double (FP.i2d w0_c15_b1_v7)), .second, .val (.double (FP.i2d w0_c22_b2_v7)), .second, .val (.double (FP.i2d w0_c29_b0_v7)), .second, .val (.double (FP.i2d w0_c36_b1_v7)), .second, .unset, .unset, .unset, .unset, .unset, .unset, .unset, .unset, .unset, .unset, .unset, .unset, .unset, .unset, .unset, .unset, .unset] [(.double (FP.i2d w0_c43_b2_v7))])) _
    refine own_s_dstore Xw06.here hx (hb hby at_46) (pc' := 48) rfl (L' := #[.val (.long p0), .second, .val (.long p1), .second, .val (.int p2), .val (.int (0 : Int32)), .val (.double (FP.i2d w0_c8_b0_v7)), .second, .val (.double (FP.i2d w0_c15_b1_v7)), .second, .val (.double (FP.i2d w0_c22_b2_v7)), .second, .val (.double (FP.i2d w0_c29_b0_v7)), .second, .val (.double (FP.i2d w0_c36_b1_v7)), .second, .val (.double (FP.i2d w0_c43_b2_v7)), .second, .unset, .unset, .unset, .unset, .unset, .unset, .unset, .unset, .unset, .unset, .unset, .unset, .unset, .unset, .unset]) rfl ?_
    refine own_s_lloadN Xw06.here hx (hb hby at_48) (pc' := 49) rfl rfl ?_
    refine own_s_iconst Xw06.here hx (hb hby at_49) (pc' := 50) rfl (v := (3 : Int32)) (by decide) ?_
    refine stw07 _ ?_
    show Steps p.tables e below (Tw07.setTop (mkF m 53 #[.val (.long p0), .second, .val (.long p1), .second, .val (.int p2), .val (.int (0 : Int32)), .val (.double (FP.i2d w0_c8_b0_v7)), .second, .val (.double (FP.i2d w0_c15_b1_v7)), .second, .val (.double (FP.i2d w0_c22_b2_v7)), .second, .val (.double (FP.i2d w0_c29_b0_v7)), .second, .val (.double (FP.i2d w0_c36_b1_v7)), .second, .val (.double (FP.i2d w0_c43_b2_v7)), .second, .unset, .unset, .unset, .unset, .unset, .unset, .unset, .unset, .unset, .unset, .unset, .unset, .unset, .unset, .unset] [(.double (FP.i2d w0_c50_b3_v7))])) _
    refine own_s_dstore Xw07.here hx (hb hby at_53) (pc' := 55) rfl (L' := #[.val (.long p0), .second, .val (.long p1), .second, .val (.int p2), .val (.int (0 : Int32)), .val (.double (FP.i2d w0_c8_b0_v7)), .second, .val (.double (FP.i2d w0_c15_b1_v7)), .second, .val (.double (FP.i2d w0_c22_b2_v7)), .second, .val (.double (FP.i2d w0_c29_b0_v7)), .second, .val (.double (FP.i2d w0_c36_b1_v7)), .second, .val (.double (FP.i2d w0_c43_b2_v7)), .second, .val (.double (FP.i2d w0_c50_b3_v7)), .second, .unset, .unset, .unset, .unset, .unset, .unset, .unset, .unset, .unset, .unset, .unset, .unset, .unset]) rfl ?_
    refine own_s_lloadN Xw07.here hx (hb hby at_55) (pc' := 56) rfl rfl ?_
    refine own_s_iconst Xw07.here hx (hb hby at_56) (pc' := 57) rfl (v := (4 : Int32)) (by decide) ?_
    refine stw08 _ ?_
    show Steps p.tables e below (Tw08.setTop (mkF m 60 #[.val (.long p0), .second, .val (.long p1), .second, .val (.int p2), .val (.int (0 : Int32)), .val (.double (FP.i2d w0_c8_b0_v7)), .second, .val (.double (FP.i2d w0_c15_b1_v7)), .second, .val (.double (FP.i2d w0_c22_b2_v7)), .second, .val (.double (FP.i2d w0_c29_b0_v7)), .second, .val (.double (FP.i2d w0_c36_b1_v7)), .second, .val (.double (FP.i2d w0_c43_b2_v7)), .second, .val (.double (FP.i2d w0_c50_b3_v7)), .second, .unset, .unset, .unset, .unset, .unset, .unset, .unset, .unset, .unset, .unset, .unset, .unset, .unset] [(.double (FP.i2d w0_c57_b4_v7))])) _
    refine own_s_dstore Xw08.here hx (hb hby at_60) (pc' := 62) rfl (L' := #[.val (.long p0), .second, .val (.long p1), .second, .val (.int p2), .val (.int (0 : Int32)), .val (.double (FP.i2d w0_c8_b0_v7)), .second, .val (.double (FP.i2d w0_c15_b1_v7)), .second, .val (.double (FP.i2d w0_c22_b2_v7)), .second, .val (.double (FP.i2d w0_c29_b0_v7)), .second, .val (.double (FP.i2d w0_c36_b1_v7)), .second, .val (.double (FP.i2d w0_c43_b2_v7)), .second, .val (.double (FP.i2d w0_c50_b3_v7)), .second, .val (.double (FP.i2d w0_c57_b4_v7)), .second, .unset, .unset, .unset, .unset, .unset, .unset, .unset, .unset, .unset, .unset, .unset]) rfl ?_
    refine own_s_lloadN Xw08.here hx (hb hby at_62) (pc' := 63) rfl rfl ?_
    refine own_s_iconst Xw08.here hx (hb hby at_63) (pc' := 64) rfl (v := (5 : Int32)) (by decide) ?_
    refine stw09 _ ?_
    show Steps p.tables e below (Tw09.setTop (mkF m 67 #[.val (.long p0), .second, .val (.long p1), .second, .val (.int p2), .val (.int (0 : Int32)), .val (.double (FP.i2d w0_c8_b0_v7)), .second, .val (.double (FP.i2d w0_c15_b1_v7)), .second, .val (.double (FP.i2d w0_c22_b2_v7)), .second, .val (.double (FP.i2d w0_c29_b0_v7)), .second, .val (.double (FP.i2d w0_c36_b1_v7)), .second, .val (.double (FP.i2d w0_c43_b2_v7)), .second, .val (.double (FP.i2d w0_c50_b3_v7)), .second, .val (.double (FP.i2d w0_c57_b4_v7)), .second, .unset, .unset, .unset, .unset, .unset, .unset, .unset, .unset, .unset, .unset, .unset] [(.double (FP.i2d w0_c64_b5_v7))])) _
    refine own_s_dstore Xw09.here hx (hb hby at_67) (pc' := 69) rfl (L' := #[.val (.long p0), .second, .val (.long p1), .second, .val (.int p2), .val (.int (0 : Int32)), .val (.double (FP.i2d w0_c8_b0_v7)), .second, .val (.double (FP.i2d w0_c15_b1_v7)), .second, .val (.double (FP.i2d w0_c22_b2_v7)), .second, .val (.double (FP.i2d w0_c29_b0_v7)), .second, .val (.double (FP.i2d w0_c36_b1_v7)), .second, .val (.double (FP.i2d w0_c43_b2_v7)), .second, .val (.double (FP.i2d w0_c50_b3_v7)), .second, .val (.double (FP.i2d w0_c57_b4_v7)), .second, .val (.double (FP.i2d w0_c64_b5_v7)), .second, .unset, .unset, .unset, .unset, .unset, .unset, .unset, .unset, .unset]) rfl ?_
    refine own_s_lloadN Xw09.here hx (hb hby at_69) (pc' := 70) rfl rfl ?_
    refine own_s_bipush Xw09.here hx (hb hby at_70) (pc' := 72) rfl (v := (6 : Int32)) (by decide) ?_
    refine stw010 _ ?_
    show Steps p.tables e below (Tw010.setTop (mkF m 75 #[.val (.long p0), .second, .val (.long p1), .second, .val (.int p2), .val (.int (0 : Int32)), .val (.double (FP.i2d w0_c8_b0_v7)), .second, .val (.double (FP.i2d w0_c15_b1_v7)), .second, .val (.double (FP.i2d w0_c22_b2_v7)), .second, .val (.double (FP.i2d w0_c29_b0_v7)), .second, .val (.double (FP.i2d w0_c36_b1_v7)), .second, .val (.double (FP.i2d w0_c43_b2_v7)), .second, .val (.double (FP.i2d w0_c50_b3_v7)), .second, .val (.double (FP.i2d w0_c57_b4_v7)), .second, .val (.double (FP.i2d w0_c64_b5_v7)), .second, .unset, .unset, .unset, .unset, .unset, .unset, .unset, .unset, .unset] [(.double (FP.i2d w0_c72_b6_v7))])) _
    refine own_s_dstore Xw010.here hx (hb hby at_75) (pc' := 77) rfl (L' := #[.val (.long p0), .second, .val (.long p1), .second, .val (.int p2), .val (.int (0 : Int32)), .val (.double (FP.i2d w0_c8_b0_v7)), .second, .val (.double (FP.i2d w0_c15_b1_v7)), .second, .val (.double (FP.i2d w0_c22_b2_v7)), .second, .val (.double (FP.i2d w0_c29_b0_v7)), .second, .val (.double (FP.i2d w0_c36_b1_v7)), .second, .val (.double (FP.i2d w0_c43_b2_v7)), .second, .val (.double (FP.i2d w0_c50_b3_v7)), .second, .val (.double (FP.i2d w0_c57_b4_v7)), .second, .val (.double (FP.i2d w0_c64_b5_v7)), .second, .val (.double (FP.i2d w0_c72_b6_v7)), .second, .unset, .unset, .unset, .unset, .unset, .unset, .unset]) rfl ?_
    refine own_s_lloadN Xw010.here hx (hb hby at_77) (pc' := 78) rfl rfl ?_
    refine own_s_bipush Xw010.here hx (hb hby at_78) (pc' := 80) rfl (v := (7 : Int32)) (by decide) ?_
    refine stw011 _ ?_
    show Steps p.tables e below (Tw011.setTop (mkF m 83 #[.val (.long p0), .second, .val (.long p1), .second, .val (.int p2), .val (.int (0 : Int32)), .val (.double (FP.i2d w0_c8_b0_v7)), .second, .val (.double (FP.i2d w0_c15_b1_v7)), .second, .val (.double (FP.i2d w0_c22_b2_v7)), .second, .val (.double (FP.i2d w0_c29_b0_v7)), .second, .val (.double (FP.i2d w0_c36_b1_v7)), .second, .val (.double (FP.i2d w0_c43_b2_v7)), .second, .val (.double (FP.i2d w0_c50_b3_v7)), .second, .val (.double (FP.i2d w0_c57_b4_v7)), .second, .val (.double (FP.i2d w0_c64_b5_v7)), .second, .val (.double (FP.i2d w0_c72_b6_v7)), .second, .unset, .unset, .unset, .unset, .unset, .unset, .unset] [(.double (FP.i2d w0_c80_b7_v7))])) _
    refine own_s_dstore Xw011.here hx (hb hby at_83) (pc' := 85) rfl (L' := #[.val (.long p0), .second, .val (.long p1), .second, .val (.int p2), .val (.int (0 : Int32)), .val (.double (FP.i2d w0_c8_b0_v7)), .second, .val (.double (FP.i2d w0_c15_b1_v7)), .second, .val (.double (FP.i2d w0_c22_b2_v7)), .second, .val (.double (FP.i2d w0_c29_b0_v7)), .second, .val (.double (FP.i2d w0_c36_b1_v7)), .second, .val (.double (FP.i2d w0_c43_b2_v7)), .second, .val (.double (FP.i2d w0_c50_b3_v7)), .second, .val (.double (FP.i2d w0_c57_b4_v7)), .second, .val (.double (FP.i2d w0_c64_b5_v7)), .second, .val (.double (FP.i2d w0_c72_b6_v7)), .second, .val (.double (FP.i2d w0_c80_b7_v7)), .second, .unset, .unset, .unset, .unset, .unset]) rfl ?_
    refine own_s_lloadN Xw011.here hx (hb hby at_85) (pc' := 86) rfl rfl ?_
    refine own_s_iconst Xw011.here hx (hb hby at_86) (pc' := 87) rfl (v := (3 : Int32)) (by decide) ?_
    refine stw012 _ ?_
    show Steps p.tables e below (Tw012.setTop (mkF m 90 #[.val (.long p0), .second, .val (.long p1), .second, .val (.int p2), .val (.int (0 : Int32)), .val (.double (FP.i2d w0_c8_b0_v7)), .second, .val (.double (FP.i2d w0_c15_b1_v7)), .second, .val (.double (FP.i2d w0_c22_b2_v7)), .second, .val (.double (FP.i2d w0_c29_b0_v7)), .second, .val (.double (FP.i2d w0_c36_b1_v7)), .second, .val (.double (FP.i2d w0_c43_b2_v7)), .second, .val (.double (FP.i2d w0_c50_b3_v7)), .second, .val (.double (FP.i2d w0_c57_b4_v7)), .second, .val (.double (FP.i2d w0_c64_b5_v7)), .second, .val (.double (FP.i2d w0_c72_b6_v7)), .second, .val (.double (FP.i2d w0_c80_b7_v7)), .second, .unset, .unset, .unset, .unset, .unset] [(.double (FP.i2d w0_c87_b3_v7))])) _
    refine own_s_dstore Xw012.here hx (hb hby at_90) (pc' := 92) rfl (L' := #[.val (.long p0), .second, .val (.long p1), .second, .val (.int p2), .val (.int (0 : Int32)), .val (.double (FP.i2d w0_c8_b0_v7)), .second, .val (.double (FP.i2d w0_c15_b1_v7)), .second, .val (.double (FP.i2d w0_c22_b2_v7)), .second, .val (.double (FP.i2d w0_c29_b0_v7)), .second, .val (.double (FP.i2d w0_c36_b1_v7)), .second, .val (.double (FP.i2d w0_c43_b2_v7)), .second, .val (.double (FP.i2d w0_c50_b3_v7)), .second, .val (.double (FP.i2d w0_c57_b4_v7)), .second, .val (.double (FP.i2d w0_c64_b5_v7)), .second, .val (.double (FP.i2d w0_c72_b6_v7)), .second, .val (.double (FP.i2d w0_c80_b7_v7)), .second, .val (.double (FP.i2d w0_c87_b3_v7)), .second, .unset, .unset, .unset]) rfl ?_
    refine own_s_iload Xw012.here hx (hb hby at_92) (pc' := 94) rfl rfl ?_
    refine own_s_ifNo Xw012.here hx (hb hby at_94) (pc' := 97) rfl (by decide) ?_
    refine own_s_iconst Xw012.here hx (hb hby at_97) (pc' := 98) rfl (v := (0 : Int32)) (by decide) ?_
    refine stw013 _ ?_
    refine own_s_iconst Xw013.here hx (hb hby at_100) (pc' := 101) rfl (v := (0 : Int32)) (by decide) ?_
    refine stw014 _ ?_
    refine stw015 _ ?_
    show Steps p.tables e below (Tw015.setTop (mkF m 106 #[.val (.long p0), .second, .val (.long p1), .second, .val (.int p2), .val (.int (0 : Int32)), .val (.double (FP.i2d w0_c8_b0_v7)), .second, .val (.double (FP.i2d w0_c15_b1_v7)), .second, .val (.double (FP.i2d w0_c22_b2_v7)), .second, .val (.double (FP.i2d w0_c29_b0_v7)), .second, .val (.double (FP.i2d w0_c36_b1_v7)), .second, .val (.double (FP.i2d w0_c43_b2_v7)), .second, .val (.double (FP.i2d w0_c50_b3_v7)), .second, .val (.double (FP.i2d w0_c57_b4_v7)), .second, .val (.double (FP.i2d w0_c64_b5_v7)), .second, .val (.double (FP.i2d w0_c72_b6_v7)), .second, .val (.double (FP.i2d w0_c80_b7_v7)), .second, .val (.double (FP.i2d w0_c87_b3_v7)), .second, .unset, .unset, .unset] [(.ref bw015)])) _
    refine own_s_astore Xw015.here hx (hb hby at_106) (pc' := 108) rfl rfl (L' := #[.val (.long p0), .second, .val (.long p1), .second, .val (.int p2), .val (.int (0 : Int32)), .val (.double (FP.i2d w0_c8_b0_v7)), .second, .val (.double (FP.i2d w0_c15_b1_v7)), .second, .val (.double (FP.i2d w0_c22_b2_v7)), .second, .val (.double (FP.i2d w0_c29_b0_v7)), .second, .val (.double (FP.i2d w0_c36_b1_v7)), .second, .val (.double (FP.i2d w0_c43_b2_v7)), .second, .val (.double (FP.i2d w0_c50_b3_v7)), .second, .val (.double (FP.i2d w0_c57_b4_v7)), .second, .val (.double (FP.i2d w0_c64_b5_v7)), .second, .val (.double (FP.i2d w0_c72_b6_v7)), .second, .val (.double (FP.i2d w0_c80_b7_v7)), .second, .val (.double (FP.i2d w0_c87_b3_v7)), .second, .val (.ref bw015), .unset, .unset]) rfl ?_
    refine own_s_aload Xw015.here hx (hb hby at_108) (pc' := 110) rfl rfl rfl ?_
    refine own_len Xw015 hx hZ rfl qw015_0 (hb hby at_110) (pc' := 111) rfl ?_
    refine own_s_ifNo Xw015.here hx (hb hby at_111) (pc' := 114) rfl (by decide) ?_
    refine own_s_iconst Xw015.here hx (hb hby at_114) (pc' := 115) rfl (v := (1 : Int32)) (by decide) ?_
    refine own_s_goto Xw015.here hx (hb hby at_115) (by decide) (pc' := 119) (by decide) ?_
    exact retN Xw015 hx (t := .boolean) Bd.returns (by simp) (hb hby at_119) hr
  · show own_Q0 n0 _ Tw015.heap _
    exact ⟨rfl, Nw015⟩
theorem own_d2_16 : decode prog_63_method_5_code 16 = .ok (.dconst 0, 1) := by decide +kernel
theorem own_d2_17 : decode prog_63_method_5_code 17 = .ok (.dstore 5, 2) := by decide +kernel
theorem own_d2_19 : decode prog_63_method_5_code 19 = .ok (.iconst 0, 1) := by decide +kernel
theorem own_d2_20 : decode prog_63_method_5_code 20 = .ok (.istore 7, 2) := by decide +kernel
theorem own_d2_22 : decode prog_63_method_5_code 22 = .ok (.iload 7, 2) := by decide +kernel
theorem own_d2_24 : decode prog_63_method_5_code 24 = .ok (.iload_n 2, 1) := by decide +kernel
theorem own_d2_25 : decode prog_63_method_5_code 25 = .ok (.if_icmp .ge 28, 3) := by decide +kernel
theorem own_d2_28 : decode prog_63_method_5_code 28 = .ok (.dload 5, 2) := by decide +kernel
theorem own_d2_30 : decode prog_63_method_5_code 30 = .ok (.aload_n 0, 1) := by decide +kernel
theorem own_d2_31 : decode prog_63_method_5_code 31 = .ok (.iload 7, 2) := by decide +kernel
theorem own_d2_33 : decode prog_63_method_5_code 33 = .ok (.daload, 1) := by decide +kernel
theorem own_d2_34 : decode prog_63_method_5_code 34 = .ok (.aload_n 1, 1) := by decide +kernel
theorem own_d2_35 : decode prog_63_method_5_code 35 = .ok (.iload 4, 2) := by decide +kernel
theorem own_d2_37 : decode prog_63_method_5_code 37 = .ok (.iload_n 2, 1) := by decide +kernel
theorem own_d2_38 : decode prog_63_method_5_code 38 = .ok (.imul, 1) := by decide +kernel
theorem own_d2_39 : decode prog_63_method_5_code 39 = .ok (.iload 7, 2) := by decide +kernel
theorem own_d2_41 : decode prog_63_method_5_code 41 = .ok (.iadd, 1) := by decide +kernel
theorem own_d2_42 : decode prog_63_method_5_code 42 = .ok (.daload, 1) := by decide +kernel
theorem own_d2_43 : decode prog_63_method_5_code 43 = .ok (.dmul, 1) := by decide +kernel
theorem own_d2_44 : decode prog_63_method_5_code 44 = .ok (.dadd, 1) := by decide +kernel
theorem own_d2_45 : decode prog_63_method_5_code 45 = .ok (.dstore 5, 2) := by decide +kernel
theorem own_d2_47 : decode prog_63_method_5_code 47 = .ok (.iinc 7 1, 3) := by decide +kernel
theorem own_d2_50 : decode prog_63_method_5_code 50 = .ok (.goto (-28), 3) := by decide +kernel
theorem own_d2_53 : decode prog_63_method_5_code 53 = .ok (.aload_n 3, 1) := by decide +kernel
theorem own_d2_54 : decode prog_63_method_5_code 54 = .ok (.iload 4, 2) := by decide +kernel
theorem own_d2_56 : decode prog_63_method_5_code 56 = .ok (.dload 5, 2) := by decide +kernel
theorem own_d2_58 : decode prog_63_method_5_code 58 = .ok (.dastore, 1) := by decide +kernel
theorem own_d2_59 : decode prog_63_method_5_code 59 = .ok (.iinc 4 1, 3) := by decide +kernel
theorem own_d2_62 : decode prog_63_method_5_code 62 = .ok (.goto (-52), 3) := by decide +kernel
theorem own_ef_c1 (m : MethodId) (qa : Addr) (qb : Addr) : entryFrame m #[(.ref qa), (.ref qb)] 8 = mkF m 0 #[.val (.ref qa), .val (.ref qb), .unset, .unset, .unset, .unset, .unset, .unset] [] := by first | (simp [entryFrame, mkF, argsToLocals, Value.category]; done) | rfl
def own_Q_c1 (Z : State) (qa : Addr) (d0 : UInt64) (qb : Addr) (ee0 : UInt64) (qak : ClassId) (qbk : ClassId) (c1_v43 : UInt64) (c1_v44 : UInt64) (h0 : Heap) (n0 : Nat) (v : Option Value) (h : Heap) (L : List Loc) : Prop := ∃ (bc11 : Addr) (kc11 : ClassId), v = some (.ref bc11) ∧ Fr n0 L ∧ Keep h0 h [] ∧ h0.size ≤ bc11 ∧ Arv Z h bc11 kc11 .double (1 : Int32) [(.double c1_v44)] (.double 0)
set_option maxRecDepth 65536 in
set_option maxHeartbeats 40000000 in
theorem own_rm_c1 (l : Launch) (Z : State) (a0 : Array Value) (hw : ∀ d ∈ tables_1, d.before a0 Z = true) (ws : List Jvm.Cond) (qa : Addr) (d0 : UInt64) (qb : Addr) (ee0 : UInt64) {qak : ClassId} {qbk : ClassId} {c1_v43 : UInt64} {c1_v44 : UInt64} (h0 : Heap) (n0 : Nat) (Z0 : n0 ≤ h0.size) (V_qa : Arv Z h0 qa qak .double (1 : Int32) [(.double d0)] (.double 0)) (V_qb : Arv Z h0 qb qbk .double (1 : Int32) [(.double ee0)] (.double 0)) (c1_hn43 : Jvm.Free.Fl.NoNaN64 (FP.dmul d0 ee0)) (c1_hv43 : FP.dmul d0 ee0 = c1_v43) (c1_hn44 : Jvm.Free.Fl.NoNaN64 (FP.dadd 0 c1_v43)) (c1_hv44 : FP.dadd 0 c1_v43 = c1_v44) :
    MetFree l (⟨"com/example/differentia/differentia/problems/Cec2013Transforms", "rotate", "([D[D)[D"⟩ : MethodName) (head1 (Jvm.Cond.code (⟨"com/example/differentia/differentia/problems/Cec2013Transforms", "rotate", "([D[D)[D"⟩ : MethodName) prog_63_method_5_code 8 (some (.array .double)) :: ws) ({ frames := 0, cells := 1, slots := 1, locals := 0 } : Room)) (fun a U => a = #[(.ref qa), (.ref qb)] ∧ Z.Warmed39 U.vm ∧ U.heap = h0) (fun _ _ _ _ _ => True) (fun _ U o U' => ∃ v L, o = .returned v ∧ own_Q_c1 Z qa d0 qb ee0 qak qbk c1_v43 c1_v44 h0 n0 v U'.heap L ∧ FrameEnd U o U' L ({ frames := 0, cells := 1, slots := 1, locals := 0 } : Room).cells ({ frames := 0, cells := 1, slots := 1, locals := 0 } : Room).slots) := by
  refine MetFree.of_bodySF (plainFor_of_name own_pn_com_example_differentia_differentia_problems_Cec2013Transforms) hisR ?_
  intro p e s m args below meth c s₁ Bd hml0 hP hK
  obtain ⟨rfl, hZ, hh⟩ := hP
  have hx := Bd.exec
  have hby := Bd.bytes
  have hml : c.maxLocals = 8 := hml0
  have hown : s.vm.findClass "com/example/differentia/differentia/problems/Cec2013Transforms" = some m.cls := findClass_of_methodNamed Bd.named
  have hnm := (name_of_methodNamed Bd.named Bd.method).1
  have X0 : Stand p l e ({ frames := 0, cells := 1, slots := 1, locals := 0 } : Room) s m #[(.ref qa), (.ref qb)] below meth c s₁ [] 0 0 := Stand.of_body Bd
  have e0 : s₁.heap = h0 := by rw [← hh, Bd.state]; rfl
  have N0 := Fr.nil n0
  have pre0 : ∀ t, Steps p.tables e below (s₁.setTop (mkF m 0 #[.val (.ref qa), .val (.ref qb), .unset, .unset, .unset, .unset, .unset, .unset] [])) t → Steps p.tables e below (s₁.setTop (entryFrame m #[(.ref qa), (.ref qb)] 8)) t := fun t k => castTop (own_ef_c1 m qa qb) k
  obtain ⟨Tc11, hc11, kc11, bc11, Xc11, ec11, Ec11, Gc11, Vc11, stc11⟩ := own_newD (L := #[.val (.ref qa), .val (.ref qb), .val (.int (1 : Int32)), .unset, .unset, .unset, .unset, .unset]) (S := []) X0 hx hZ (hw _ (List.mem_of_getElem? (i := 4) rfl)) e0 (z := (1 : Int32)) 1 (by decide) (by decide) (by decide) (by decide) (by decide) (hb hby own_d2_4) (pc' := 6) rfl
  have ne_qa_bc11 : qa ≠ bc11 := Nat.ne_of_lt (Nat.lt_of_lt_of_le V_qa.lt (Nat.le_of_eq Gc11.symm))
  have ne_bc11_qa : bc11 ≠ qa := Ne.symm ne_qa_bc11
  have ne_qb_bc11 : qb ≠ bc11 := Nat.ne_of_lt (Nat.lt_of_lt_of_le V_qb.lt (Nat.le_of_eq Gc11.symm))
  have ne_bc11_qb : bc11 ≠ qb := Ne.symm ne_qb_bc11
  have g_bc11 : n0 ≤ bc11 := Nat.le_trans Z0 (Nat.le_of_eq Gc11.symm)
  have sz_bc11 : h0.size ≤ bc11 := Nat.le_trans (Keep.refl h0 []).1 (Nat.le_of_eq Gc11.symm)
  have V_qa_c11 := V_qa.ext Ec11
  have V_qb_c11 := V_qb.ext Ec11
  have Zc11 : n0 ≤ hc11.size := Nat.le_trans Z0 Ec11.1
  have KKc11 := (Keep.refl h0 []).ext Ec11
  have V_bc11 : Arv Z hc11 bc11 kc11 .double (1 : Int32) [(.double 0)] (.double 0) := Vc11
  obtain ⟨Tc12, hc12, Xc12, ec12, Wc12, Vc12, stc12⟩ := own_stD (L := #[.val (.ref qa), .val (.ref qb), .val (.int (1 : Int32)), .val (.ref bc11), .val (.int (0 : Int32)), .val (.double c1_v44), .second, .val (.int (1 : Int32))]) (S := []) Xc11 hx hZ ec11 V_bc11 (j := (0 : Int32)) (x := c1_v44) (by decide) 0 (by decide) (Nat.le_of_ble_eq_true rfl) (hb hby own_d2_58) (pc' := 59) rfl
  have V_qa_c12 := V_qa_c11.other Wc12 ne_qa_bc11
  have V_qb_c12 := V_qb_c11.other Wc12 ne_qb_bc11
  have Zc12 : n0 ≤ hc12.size := Nat.le_trans Zc11 (Nat.le_of_eq Wc12.size.symm)
  have KKc12 := KKc11.wr Wc12 (Or.inr sz_bc11)
  have V_bc11_c12 : Arv Z hc12 bc11 kc11 .double (1 : Int32) [(.double c1_v44)] (.double 0) := Vc12
  have Nc12 := Fr.snoc Xc12 N0 g_bc11
  obtain ⟨fs, hr, hrun, hended, hW, hsame⟩ := Xc12.leave (v := some (.ref bc11)) (fun h => by rw [Bd.returns] at h; cases h)
  refine ⟨_, _, pre0 _ ?_, hrun, hended, _, _, rfl, ?_, ⟨_, rfl⟩, hW, hsame.mono (by decide) (by decide)⟩
  · refine own_s_aloadN X0.here hx (hb hby own_d2_0) (pc' := 1) rfl rfl rfl ?_
    refine own_len X0 hx hZ e0 V_qa (hb hby own_d2_1) (pc' := 2) rfl ?_
    refine own_s_istoreN X0.here hx (hb hby own_d2_2) (pc' := 3) rfl (L' := #[.val (.ref qa), .val (.ref qb), .val (.int (1 : Int32)), .unset, .unset, .unset, .unset, .unset]) rfl ?_
    refine own_s_iloadN X0.here hx (hb hby own_d2_3) (pc' := 4) rfl rfl ?_
    refine stc11 _ ?_
    refine own_s_astoreN Xc11.here hx (hb hby own_d2_6) (pc' := 7) rfl rfl (L' := #[.val (.ref qa), .val (.ref qb), .val (.int (1 : Int32)), .val (.ref bc11), .unset, .unset, .unset, .unset]) rfl ?_
    refine own_s_iconst Xc11.here hx (hb hby own_d2_7) (pc' := 8) rfl (v := (0 : Int32)) (by decide) ?_
    refine own_s_istore Xc11.here hx (hb hby own_d2_8) (pc' := 10) rfl (L' := #[.val (.ref qa), .val (.ref qb), .val (.int (1 : Int32)), .val (.ref bc11), .val (.int (0 : Int32)), .unset, .unset, .unset]) rfl ?_
    refine own_s_iload Xc11.here hx (hb hby own_d2_10) (pc' := 12) rfl rfl ?_
    refine own_s_iloadN Xc11.here hx (hb hby own_d2_12) (pc' := 13) rfl rfl ?_
    refine own_s_icmpNo Xc11.here hx (hb hby own_d2_13) (pc' := 16) rfl (by decide) ?_
    refine own_s_dconst0 Xc11.here hx (hb hby own_d2_16) (pc' := 17) rfl  ?_
    refine own_s_dstore Xc11.here hx (hb hby own_d2_17) (pc' := 19) rfl (L' := #[.val (.ref qa), .val (.ref qb), .val (.int (1 : Int32)), .val (.ref bc11), .val (.int (0 : Int32)), .val (.double 0), .second, .unset]) rfl ?_
    refine own_s_iconst Xc11.here hx (hb hby own_d2_19) (pc' := 20) rfl (v := (0 : Int32)) (by decide) ?_
    refine own_s_istore Xc11.here hx (hb hby own_d2_20) (pc' := 22) rfl (L' := #[.val (.ref qa), .val (.ref qb), .val (.int (1 : Int32)), .val (.ref bc11), .val (.int (0 : Int32)), .val (.double 0), .second, .val (.int (0 : Int32))]) rfl ?_
    refine own_s_iload Xc11.here hx (hb hby own_d2_22) (pc' := 24) rfl rfl ?_
    refine own_s_iloadN Xc11.here hx (hb hby own_d2_24) (pc' := 25) rfl rfl ?_
    refine own_s_icmpNo Xc11.here hx (hb hby own_d2_25) (pc' := 28) rfl (by decide) ?_
    refine own_s_dload Xc11.here hx (hb hby own_d2_28) (pc' := 30) rfl rfl ?_
    refine own_s_aloadN Xc11.here hx (hb hby own_d2_30) (pc' := 31) rfl rfl rfl ?_
    refine own_s_iload Xc11.here hx (hb hby own_d2_31) (pc' := 33) rfl rfl ?_
    refine own_ldD Xc11 hx hZ ec11 V_qa_c11 (j := (0 : Int32)) (x := d0) (by decide) rfl (hb hby own_d2_33) (pc' := 34) rfl ?_
    refine own_s_aloadN Xc11.here hx (hb hby own_d2_34) (pc' := 35) rfl rfl rfl ?_
    refine own_s_iload Xc11.here hx (hb hby own_d2_35) (pc' := 37) rfl rfl ?_
    refine own_s_iloadN Xc11.here hx (hb hby own_d2_37) (pc' := 38) rfl rfl ?_
    refine own_s_imul Xc11.here hx (hb hby own_d2_38) (pc' := 39) rfl (v := (0 : Int32)) (by decide) ?_
    refine own_s_iload Xc11.here hx (hb hby own_d2_39) (pc' := 41) rfl rfl ?_
    refine own_s_iadd Xc11.here hx (hb hby own_d2_41) (pc' := 42) rfl (v := (0 : Int32)) (by decide) ?_
    refine own_ldD Xc11 hx hZ ec11 V_qb_c11 (j := (0 : Int32)) (x := ee0) (by decide) rfl (hb hby own_d2_42) (pc' := 43) rfl ?_
    refine own_s_dmul Xc11.here hx (hb hby own_d2_43) (pc' := 44) rfl c1_hn43 (v := c1_v43) c1_hv43 ?_
    refine own_s_dadd Xc11.here hx (hb hby own_d2_44) (pc' := 45) rfl c1_hn44 (v := c1_v44) c1_hv44 ?_
    refine own_s_dstore Xc11.here hx (hb hby own_d2_45) (pc' := 47) rfl (L' := #[.val (.ref qa), .val (.ref qb), .val (.int (1 : Int32)), .val (.ref bc11), .val (.int (0 : Int32)), .val (.double c1_v44), .second, .val (.int (0 : Int32))]) rfl ?_
    refine own_s_iinc Xc11.here hx (hb hby own_d2_47) (pc' := 50) rfl rfl (v := (1 : Int32)) (by decide) (L' := #[.val (.ref qa), .val (.ref qb), .val (.int (1 : Int32)), .val (.ref bc11), .val (.int (0 : Int32)), .val (.double c1_v44), .second, .val (.int (1 : Int32))]) rfl ?_
    refine own_s_goto Xc11.here hx (hb hby own_d2_50) (by decide) (pc' := 22) (by decide) ?_
    refine own_s_iload Xc11.here hx (hb hby own_d2_22) (pc' := 24) rfl rfl ?_
    refine own_s_iloadN Xc11.here hx (hb hby own_d2_24) (pc' := 25) rfl rfl ?_
    refine own_s_icmpYes Xc11.here hx (hb hby own_d2_25) (by decide) (pc' := 53) (by decide) (by decide) ?_
    refine own_s_aloadN Xc11.here hx (hb hby own_d2_53) (pc' := 54) rfl rfl rfl ?_
    refine own_s_iload Xc11.here hx (hb hby own_d2_54) (pc' := 56) rfl rfl ?_
    refine own_s_dload Xc11.here hx (hb hby own_d2_56) (pc' := 58) rfl rfl ?_
    refine stc12 _ ?_
    refine own_s_iinc Xc12.here hx (hb hby own_d2_59) (pc' := 62) rfl rfl (v := (1 : Int32)) (by decide) (L' := #[.val (.ref qa), .val (.ref qb), .val (.int (1 : Int32)), .val (.ref bc11), .val (.int (1 : Int32)), .val (.double c1_v44), .second, .val (.int (1 : Int32))]) rfl ?_
    refine own_s_goto Xc12.here hx (hb hby own_d2_62) (by decide) (pc' := 10) (by decide) ?_
    refine own_s_iload Xc12.here hx (hb hby own_d2_10) (pc' := 12) rfl rfl ?_
    refine own_s_iloadN Xc12.here hx (hb hby own_d2_12) (pc' := 13) rfl rfl ?_
    refine own_s_icmpYes Xc12.here hx (hb hby own_d2_13) (by decide) (pc' := 65) (by decide) (by decide) ?_
    refine own_s_aloadN Xc12.here hx (hb hby own_d2_65) (pc' := 66) rfl rfl rfl ?_
    exact own_retR Xc12 hx Bd.returns rfl (hb hby own_d2_66) hr
  · show own_Q_c1 Z qa d0 qb ee0 qak qbk c1_v43 c1_v44 h0 n0 _ Tc12.heap _
    rw [ec12]
    exact ⟨bc11, kc11, rfl, Nc12, KKc12, sz_bc11, V_bc11_c12⟩
theorem own_ef_w1 (m : MethodId) (p0 : Int64) (p1 : Int64) (p2 : Int32) : entryFrame m #[(.long p0), (.long p1), (.int p2)] maxLocals = mkF m 0 #[.val (.long p0), .second, .val (.long p1), .second, .val (.int p2), .unset, .unset, .unset, .unset, .unset, .unset, .unset, .unset, .unset, .unset, .unset, .unset, .unset, .unset, .unset, .unset, .unset, .unset, .unset, .unset, .unset, .unset, .unset, .unset, .unset, .unset, .unset, .unset] [] := by first | (simp [entryFrame, mkF, argsToLocals, Value.category, maxLocals]; done) | rfl
set_option maxRecDepth 65536 in
set_option maxHeartbeats 40000000 in
theorem own_rm_w1 (l : Launch) (Z : State) (a0 : Array Value) (hw : ∀ d ∈ tables_1, d.before a0 Z = true) (ws : List Jvm.Cond) (p0 : Int64) (p1 : Int64) (p2 : Int32) {w1_c8_b0_v5 : Int64} {w1_c8_b0_v6 : Int32} {w1_c8_b0_v7 : Int32} {w1_c15_b1_v5 : Int64} {w1_c15_b1_v6 : Int32} {w1_c15_b1_v7 : Int32} {w1_c22_b2_v5 : Int64} {w1_c22_b2_v6 : Int32} {w1_c22_b2_v7 : Int32} {w1_c29_b0_v5 : Int64} {w1_c29_b0_v6 : Int32} {w1_c29_b0_v7 : Int32} {w1_c36_b1_v5 : Int64} {w1_c36_b1_v6 : Int32} {w1_c36_b1_v7 : Int32} {w1_c43_b2_v5 : Int64} {w1_c43_b2_v6 : Int32} {w1_c43_b2_v7 : Int32} {w1_c50_b3_v5 : Int64} {w1_c50_b3_v6 : Int32} {w1_c50_b3_v7 : Int32} {w1_c57_b4_v5 : Int64} {w1_c57_b4_v6 : Int32} {w1_c57_b4_v7 : Int32} {w1_c64_b5_v5 : Int64} {w1_c64_b5_v6 : Int32} {w1_c64_b5_v7 : Int32} {w1_c72_b6_v5 : Int64} {w1_c72_b6_v6 : Int32} {w1_c72_b6_v7 : Int32} {w1_c80_b7_v5 : Int64} {w1_c80_b7_v6 : Int32} {w1_c80_b7_v7 : Int32} {w1_c87_b3_v5 : Int64} {w1_c87_b3_v6 : Int32} {w1_c87_b3_v7 : Int32} {w1_c150_c1_v43 : UInt64} {w1_c150_c1_v44 : UInt64} {w1_v170 : UInt64} (h0 : Heap) (n0 : Nat) (Z0 : n0 ≤ h0.size)  (w1_hv3 : p2 &&& (3 : Int32) = (1 : Int32)) (w1_c8_b0_hv5 : (Int64.toUInt64 p0 >>> ((0 : Int32) &&& 63).toInt64.toUInt64).toInt64 = w1_c8_b0_v5) (w1_c8_b0_hv6 : Int64.toInt32 w1_c8_b0_v5 = w1_c8_b0_v6) (w1_c8_b0_hv7 : (Int32.toInt8 w1_c8_b0_v6).toInt32 = w1_c8_b0_v7) (w1_c15_b1_hv5 : (Int64.toUInt64 p0 >>> ((8 : Int32) &&& 63).toInt64.toUInt64).toInt64 = w1_c15_b1_v5) (w1_c15_b1_hv6 : Int64.toInt32 w1_c15_b1_v5 = w1_c15_b1_v6) (w1_c15_b1_hv7 : (Int32.toInt8 w1_c15_b1_v6).toInt32 = w1_c15_b1_v7) (w1_c22_b2_hv5 : (Int64.toUInt64 p0 >>> ((16 : Int32) &&& 63).toInt64.toUInt64).toInt64 = w1_c22_b2_v5) (w1_c22_b2_hv6 : Int64.toInt32 w1_c22_b2_v5 = w1_c22_b2_v6) (w1_c22_b2_hv7 : (Int32.toInt8 w1_c22_b2_v6).toInt32 = w1_c22_b2_v7) (w1_c29_b0_hv5 : (Int64.toUInt64 p1 >>> ((0 : Int32) &&& 63).toInt64.toUInt64).toInt64 = w1_c29_b0_v5) (w1_c29_b0_hv6 : Int64.toInt32 w1_c29_b0_v5 = w1_c29_b0_v6) (w1_c29_b0_hv7 : (Int32.toInt8 w1_c29_b0_v6).toInt32 = w1_c29_b0_v7) (w1_c36_b1_hv5 : (Int64.toUInt64 p1 >>> ((8 : Int32) &&& 63).toInt64.toUInt64).toInt64 = w1_c36_b1_v5) (w1_c36_b1_hv6 : Int64.toInt32 w1_c36_b1_v5 = w1_c36_b1_v6) (w1_c36_b1_hv7 : (Int32.toInt8 w1_c36_b1_v6).toInt32 = w1_c36_b1_v7) (w1_c43_b2_hv5 : (Int64.toUInt64 p1 >>> ((16 : Int32) &&& 63).toInt64.toUInt64).toInt64 = w1_c43_b2_v5) (w1_c43_b2_hv6 : Int64.toInt32 w1_c43_b2_v5 = w1_c43_b2_v6) (w1_c43_b2_hv7 : (Int32.toInt8 w1_c43_b2_v6).toInt32 = w1_c43_b2_v7) (w1_c50_b3_hv5 : (Int64.toUInt64 p1 >>> ((24 : Int32) &&& 63).toInt64.toUInt64).toInt64 = w1_c50_b3_v5) (w1_c50_b3_hv6 : Int64.toInt32 w1_c50_b3_v5 = w1_c50_b3_v6) (w1_c50_b3_hv7 : (Int32.toInt8 w1_c50_b3_v6).toInt32 = w1_c50_b3_v7) (w1_c57_b4_hv5 : (Int64.toUInt64 p1 >>> ((32 : Int32) &&& 63).toInt64.toUInt64).toInt64 = w1_c57_b4_v5) (w1_c57_b4_hv6 : Int64.toInt32 w1_c57_b4_v5 = w1_c57_b4_v6) (w1_c57_b4_hv7 : (Int32.toInt8 w1_c57_b4_v6).toInt32 = w1_c57_b4_v7) (w1_c64_b5_hv5 : (Int64.toUInt64 p1 >>> ((40 : Int32) &&& 63).toInt64.toUInt64).toInt64 = w1_c64_b5_v5) (w1_c64_b5_hv6 : Int64.toInt32 w1_c64_b5_v5 = w1_c64_b5_v6) (w1_c64_b5_hv7 : (Int32.toInt8 w1_c64_b5_v6).toInt32 = w1_c64_b5_v7) (w1_c72_b6_hv5 : (Int64.toUInt64 p1 >>> ((48 : Int32) &&& 63).toInt64.toUInt64).toInt64 = w1_c72_b6_v5) (w1_c72_b6_hv6 : Int64.toInt32 w1_c72_b6_v5 = w1_c72_b6_v6) (w1_c72_b6_hv7 : (Int32.toInt8 w1_c72_b6_v6).toInt32 = w1_c72_b6_v7) (w1_c80_b7_hv5 : (Int64.toUInt64 p1 >>> ((56 : Int32) &&& 63).toInt64.toUInt64).toInt64 = w1_c80_b7_v5) (w1_c80_b7_hv6 : Int64.toInt32 w1_c80_b7_v5 = w1_c80_b7_v6) (w1_c80_b7_hv7 : (Int32.toInt8 w1_c80_b7_v6).toInt32 = w1_c80_b7_v7) (w1_c87_b3_hv5 : (Int64.toUInt64 p0 >>> ((24 : Int32) &&& 63).toInt64.toUInt64).toInt64 = w1_c87_b3_v5) (w1_c87_b3_hv6 : Int64.toInt32 w1_c87_b3_v5 = w1_c87_b3_v6) (w1_c87_b3_hv7 : (Int32.toInt8 w1_c87_b3_v6).toInt32 = w1_c87_b3_v7) (w1_c150_c1_hn43 : Jvm.Free.Fl.NoNaN64 (FP.dmul (FP.i2d w1_c8_b0_v7) (FP.i2d w1_c29_b0_v7))) (w1_c150_c1_hv43 : FP.dmul (FP.i2d w1_c8_b0_v7) (FP.i2d w1_c29_b0_v7) = w1_c150_c1_v43) (w1_c150_c1_hn44 : Jvm.Free.Fl.NoNaN64 (FP.dadd 0 w1_c150_c1_v43)) (w1_c150_c1_hv44 : FP.dadd 0 w1_c150_c1_v43 = w1_c150_c1_v44) (w1_hn170 : Jvm.Free.Fl.NoNaN64 (FP.dmul (FP.i2d w1_c29_b0_v7) (FP.i2d w1_c8_b0_v7))) (w1_hv170 : FP.dmul (FP.i2d w1_c29_b0_v7) (FP.i2d w1_c8_b0_v7) = w1_v170) (w1_hc171 : Op.cmpValue (FP.dcmp w1_c150_c1_v44 w1_v170) .l = (0 : Int32)) :
    MetFree l x (head1 (Jvm.Cond.code x code maxLocals ret :: ws) room_1) (fun a U => a = #[(.long p0), (.long p1), (.int p2)] ∧ Z.Warmed39 U.vm ∧ U.heap = h0) (fun _ _ _ _ _ => True) (fun _ U o U' => ∃ v L, o = .returned v ∧ own_Q0 n0 v U'.heap L ∧ FrameEnd U o U' L room_1.cells room_1.slots) := by
  refine MetFree.of_bodySF (plainFor_of_name own_pn_com_example_differentia_differentia_problems_Cec2013TransformsRotatePinLaw) hisR ?_
  intro p e s m args below meth c s₁ Bd hml0 hP hK
  obtain ⟨rfl, hZ, hh⟩ := hP
  have hx := Bd.exec
  have hby := Bd.bytes
  have hml : c.maxLocals = 33 := hml0
  have hown : s.vm.findClass "com/example/differentia/differentia/problems/Cec2013TransformsRotatePinLaw" = some m.cls := findClass_of_methodNamed Bd.named
  have hnm := (name_of_methodNamed Bd.named Bd.method).1
  have X0 : Stand p l e room_1 s m #[(.long p0), (.long p1), (.int p2)] below meth c s₁ [] 0 0 := Stand.of_body Bd
  have e0 : s₁.heap = h0 := by rw [← hh, Bd.state]; rfl
  have N0 := Fr.nil n0
  have pre0 : ∀ t, Steps p.tables e below (s₁.setTop (mkF m 0 #[.val (.long p0), .second, .val (.long p1), .second, .val (.int p2), .unset, .unset, .unset, .unset, .unset, .unset, .unset, .unset, .unset, .unset, .unset, .unset, .unset, .unset, .unset, .unset, .unset, .unset, .unset, .unset, .unset, .unset, .unset, .unset, .unset, .unset, .unset, .unset] [])) t → Steps p.tables e below (s₁.setTop (entryFrame m #[(.long p0), (.long p1), (.int p2)] maxLocals)) t := fun t k => castTop (own_ef_w1 m p0 p1 p2) k
  obtain ⟨_, _, ⟨Tw11, Lw11, kw11, nw11⟩, -, Xw11, ⟨Lcw11, hQw11, lw11, yw11, zw11⟩, stw11⟩ := Jvm.LawKit.callS X0 hx (y := (⟨"com/example/differentia/differentia/problems/Cec2013TransformsRotatePinLaw", "b", "(JI)D"⟩ : MethodName)) hown (mvT hZ (hw _ (List.mem_of_getElem? (i := 0) rfl))) (mvT hZ (hw _ (List.mem_of_getElem? (i := 1) rfl))) (mvT hZ (hw _ (List.mem_of_getElem? (i := 2) rfl))) (mvT hZ (hw _ (List.mem_of_getElem? (i := 3) rfl))) (by decide) (backOf (W := 0) (own_rm_b0 l Z a0 hw [] p0 h0 n0 Z0 w1_c8_b0_hv5 w1_c8_b0_hv6 w1_c8_b0_hv7) hZ (hw _ (List.mem_of_getElem? (i := 3) rfl)) (hw _ (List.mem_of_getElem? (i := 2) rfl)) (by decide) (by decide)) (g := (mkF m 8 #[.val (.long p0), .second, .val (.long p1), .second, .val (.int p2), .val (.int (1 : Int32)), .unset, .unset, .unset, .unset, .unset, .unset, .unset, .unset, .unset, .unset, .unset, .unset, .unset, .unset, .unset, .unset, .unset, .unset, .unset, .unset, .unset, .unset, .unset, .unset, .unset, .unset, .unset] [(.int (0 : Int32)), (.long p0)])) rfl (by rw [hml]; rfl) (argsL := [(.long p0), (.int (0 : Int32))]) (rest := []) (lenOf own_pd_28JI29D rfl) rfl (by show 2 * 0 + _ ≤ _; exact Nat.le_of_eq rfl) (hb hby at_8) (fun _ _ => ⟨rfl, e0, (by decide : 0 + 0 ≤ _), (by decide : 0 + 0 ≤ _)⟩)
  dsimp only [Pt.U, Pt.locs, Pt.cells, Pt.slots] at Xw11 lw11 yw11 zw11 stw11 hQw11
  rw [lw11, yw11, zw11] at Xw11
  obtain ⟨rfl, Nw11q, ew11⟩ := hQw11
  have Nw11 := Fr.app N0 Nw11q
  obtain ⟨_, _, ⟨Tw12, Lw12, kw12, nw12⟩, -, Xw12, ⟨Lcw12, hQw12, lw12, yw12, zw12⟩, stw12⟩ := Jvm.LawKit.callS Xw11 hx (y := (⟨"com/example/differentia/differentia/problems/Cec2013TransformsRotatePinLaw", "b", "(JI)D"⟩ : MethodName)) hown (mvT hZ (hw _ (List.mem_of_getElem? (i := 0) rfl))) (mvT hZ (hw _ (List.mem_of_getElem? (i := 1) rfl))) (mvT hZ (hw _ (List.mem_of_getElem? (i := 2) rfl))) (mvT hZ (hw _ (List.mem_of_getElem? (i := 3) rfl))) (by decide) (backOf (W := 0) (own_rm_b1 l Z a0 hw [] p0 h0 n0 Z0 w1_c15_b1_hv5 w1_c15_b1_hv6 w1_c15_b1_hv7) hZ (hw _ (List.mem_of_getElem? (i := 3) rfl)) (hw _ (List.mem_of_getElem? (i := 2) rfl)) (by decide) (by decide)) (g := (mkF m 15 #[.val (.long p0), .second, .val (.long p1), .second, .val (.int p2), .val (.int (1 : Int32)), .val (.double (FP.i2d w1_c8_b0_v7)), .second, .unset, .unset, .unset, .unset, .unset, .unset, .unset, .unset, .unset, .unset, .unset, .unset, .unset, .unset, .unset, .unset, .unset, .unset, .unset, .unset, .unset, .unset, .unset, .unset, .unset] [(.int (1 : Int32)), (.long p0)])) rfl (by rw [hml]; rfl) (argsL := [(.long p0), (.int (1 : Int32))]) (rest := []) (lenOf own_pd_28JI29D rfl) rfl (by show 2 * 0 + _ ≤ _; exact Nat.le_of_eq rfl) (hb hby at_15) (fun _ _ => ⟨rfl, ew11, (by decide : 0 + 0 ≤ _), (by decide : 0 + 0 ≤ _)⟩)
  dsimp only [Pt.U, Pt.locs, Pt.cells, Pt.slots] at Xw12 lw12 yw12 zw12 stw12 hQw12
  rw [lw12, yw12, zw12] at Xw12
  obtain ⟨rfl, Nw12q, ew12⟩ := hQw12
  have Nw12 := Fr.app Nw11 Nw12q
  obtain ⟨_, _, ⟨Tw13, Lw13, kw13, nw13⟩, -, Xw13, ⟨Lcw13, hQw13, lw13, yw13, zw13⟩, stw13⟩ := Jvm.LawKit.callS Xw12 hx (y := (⟨"com/example/differentia/differentia/problems/Cec2013TransformsRotatePinLaw", "b", "(JI)D"⟩ : MethodName)) hown (mvT hZ (hw _ (List.mem_of_getElem? (i := 0) rfl))) (mvT hZ (hw _ (List.mem_of_getElem? (i := 1) rfl))) (mvT hZ (hw _ (List.mem_of_getElem? (i := 2) rfl))) (mvT hZ (hw _ (List.mem_of_getElem? (i := 3) rfl))) (by decide) (backOf (W := 0) (own_rm_b2 l Z a0 hw [] p0 h0 n0 Z0 w1_c22_b2_hv5 w1_c22_b2_hv6 w1_c22_b2_hv7) hZ (hw _ (List.mem_of_getElem? (i := 3) rfl)) (hw _ (List.mem_of_getElem? (i := 2) rfl)) (by decide) (by decide)) (g := (mkF m 22 #[.val (.long p0), .second, .val (.long p1), .second, .val (.int p2), .val (.int (1 : Int32)), .val (.double (FP.i2d w1_c8_b0_v7)), .second, .val (.double (FP.i2d w1_c15_b1_v7)), .second, .unset, .unset, .unset, .unset, .unset, .unset, .unset, .unset, .unset, .unset, .unset, .unset, .unset, .unset, .unset, .unset, .unset, .unset, .unset, .unset, .unset, .unset, .unset] [(.int (2 : Int32)), (.long p0)])) rfl (by rw [hml]; rfl) (argsL := [(.long p0), (.int (2 : Int32))]) (rest := []) (lenOf own_pd_28JI29D rfl) rfl (by show 2 * 0 + _ ≤ _; exact Nat.le_of_eq rfl) (hb hby at_22) (fun _ _ => ⟨rfl, ew12, (by decide : 0 + 0 ≤ _), (by decide : 0 + 0 ≤ _)⟩)
  dsimp only [Pt.U, Pt.locs, Pt.cells, Pt.slots] at Xw13 lw13 yw13 zw13 stw13 hQw13
  rw [lw13, yw13, zw13] at Xw13
  obtain ⟨rfl, Nw13q, ew13⟩ := hQw13
  have Nw13 := Fr.app Nw12 Nw13q
  obtain ⟨_, _, ⟨Tw14, Lw14, kw14, nw14⟩, -, Xw14, ⟨Lcw14, hQw14, lw14, yw14, zw14⟩, stw14⟩ := Jvm.LawKit.callS Xw13 hx (y := (⟨"com/example/differentia/differentia/problems/Cec2013TransformsRotatePinLaw", "b", "(JI)D"⟩ : MethodName)) hown (mvT hZ (hw _ (List.mem_of_getElem? (i := 0) rfl))) (mvT hZ (hw _ (List.mem_of_getElem? (i := 1) rfl))) (mvT hZ (hw _ (List.mem_of_getElem? (i := 2) rfl))) (mvT hZ (hw _ (List.mem_of_getElem? (i := 3) rfl))) (by decide) (backOf (W := 0) (own_rm_b0 l Z a0 hw [] p1 h0 n0 Z0 w1_c29_b0_hv5 w1_c29_b0_hv6 w1_c29_b0_hv7) hZ (hw _ (List.mem_of_getElem? (i := 3) rfl)) (hw _ (List.mem_of_getElem? (i := 2) rfl)) (by decide) (by decide)) (g := (mkF m 29 #[.val (.long p0), .second, .val (.long p1), .second, .val (.int p2), .val (.int (1 : Int32)), .val (.double (FP.i2d w1_c8_b0_v7)), .second, .val (.double (FP.i2d w1_c15_b1_v7)), .second, .val (.double (FP.i2d w1_c22_b2_v7)), .second, .unset, .unset, .unset, .unset, .unset, .unset, .unset, .unset, .unset, .unset, .unset, .unset, .unset, .unset, .unset, .unset, .unset, .unset, .unset, .unset, .unset] [(.int (0 : Int32)), (.long p1)])) rfl (by rw [hml]; rfl) (argsL := [(.long p1), (.int (0 : Int32))]) (rest := []) (lenOf own_pd_28JI29D rfl) rfl (by show 2 * 0 + _ ≤ _; exact Nat.le_of_eq rfl) (hb hby at_29) (fun _ _ => ⟨rfl, ew13, (by decide : 0 + 0 ≤ _), (by decide : 0 + 0 ≤ _)⟩)
  dsimp only [Pt.U, Pt.locs, Pt.cells, Pt.slots] at Xw14 lw14 yw14 zw14 stw14 hQw14
  rw [lw14, yw14, zw14] at Xw14
  obtain ⟨rfl, Nw14q, ew14⟩ := hQw14
  have Nw14 := Fr.app Nw13 Nw14q
  obtain ⟨_, _, ⟨Tw15, Lw15, kw15, nw15⟩, -, Xw15, ⟨Lcw15, hQw15, lw15, yw15, zw15⟩, stw15⟩ := Jvm.LawKit.callS Xw14 hx (y := (⟨"com/example/differentia/differentia/problems/Cec2013TransformsRotatePinLaw", "b", "(JI)D"⟩ : MethodName)) hown (mvT hZ (hw _ (List.mem_of_getElem? (i := 0) rfl))) (mvT hZ (hw _ (List.mem_of_getElem? (i := 1) rfl))) (mvT hZ (hw _ (List.mem_of_getElem? (i := 2) rfl))) (mvT hZ (hw _ (List.mem_of_getElem? (i := 3) rfl))) (by decide) (backOf (W := 0) (own_rm_b1 l Z a0 hw [] p1 h0 n0 Z0 w1_c36_b1_hv5 w1_c36_b1_hv6 w1_c36_b1_hv7) hZ (hw _ (List.mem_of_getElem? (i := 3) rfl)) (hw _ (List.mem_of_getElem? (i := 2) rfl)) (by decide) (by decide)) (g := (mkF m 36 #[.val (.long p0), .second, .val (.long p1), .second, .val (.int p2), .val (.int (1 : Int32)), .val (.double (FP.i2d w1_c8_b0_v7)), .second, .val (.double (FP.i2d w1_c15_b1_v7)), .second, .val (.double (FP.i2d w1_c22_b2_v7)), .second, .val (.double (FP.i2d w1_c29_b0_v7)), .second, .unset, .unset, .unset, .unset, .unset, .unset, .unset, .unset, .unset, .unset, .unset, .unset, .unset, .unset, .unset, .unset, .unset, .unset, .unset] [(.int (1 : Int32)), (.long p1)])) rfl (by rw [hml]; rfl) (argsL := [(.long p1), (.int (1 : Int32))]) (rest := []) (lenOf own_pd_28JI29D rfl) rfl (by show 2 * 0 + _ ≤ _; exact Nat.le_of_eq rfl) (hb hby at_36) (fun _ _ => ⟨rfl, ew14, (by decide : 0 + 0 ≤ _), (by decide : 0 + 0 ≤ _)⟩)
  dsimp only [Pt.U, Pt.locs, Pt.cells, Pt.slots] at Xw15 lw15 yw15 zw15 stw15 hQw15
  rw [lw15, yw15, zw15] at Xw15
  obtain ⟨rfl, Nw15q, ew15⟩ := hQw15
  have Nw15 := Fr.app Nw14 Nw15q
  obtain ⟨_, _, ⟨Tw16, Lw16, kw16, nw16⟩, -, Xw16, ⟨Lcw16, hQw16, lw16, yw16, zw16⟩, stw16⟩ := Jvm.LawKit.callS Xw15 hx (y := (⟨"com/example/differentia/differentia/problems/Cec2013TransformsRotatePinLaw", "b", "(JI)D"⟩ : MethodName)) hown (mvT hZ (hw _ (List.mem_of_getElem? (i := 0) rfl))) (mvT hZ (hw _ (List.mem_of_getElem? (i := 1) rfl))) (mvT hZ (hw _ (List.mem_of_getElem? (i := 2) rfl))) (mvT hZ (hw _ (List.mem_of_getElem? (i := 3) rfl))) (by decide) (backOf (W := 0) (own_rm_b2 l Z a0 hw [] p1 h0 n0 Z0 w1_c43_b2_hv5 w1_c43_b2_hv6 w1_c43_b2_hv7) hZ (hw _ (List.mem_of_getElem? (i := 3) rfl)) (hw _ (List.mem_of_getElem? (i := 2) rfl)) (by decide) (by decide)) (g := (mkF m 43 #[.val (.long p0), .second, .val (.long p1), .second, .val (.int p2), .val (.int (1 : Int32)), .val (.double (FP.i2d w1_c8_b0_v7)), .second, .val (.double (FP.i2d w1_c15_b1_v7)), .second, .val (.double (FP.i2d w1_c22_b2_v7)), .second, .val (.double (FP.i2d w1_c29_b0_v7)), .second, .val (.double (FP.i2d w1_c36_b1_v7)), .second, .unset, .unset, .unset, .unset, .unset, .unset, .unset, .unset, .unset, .unset, .unset, .unset, .unset, .unset, .unset, .unset, .unset] [(.int (2 : Int32)), (.long p1)])) rfl (by rw [hml]; rfl) (argsL := [(.long p1), (.int (2 : Int32))]) (rest := []) (lenOf own_pd_28JI29D rfl) rfl (by show 2 * 0 + _ ≤ _; exact Nat.le_of_eq rfl) (hb hby at_43) (fun _ _ => ⟨rfl, ew15, (by decide : 0 + 0 ≤ _), (by decide : 0 + 0 ≤ _)⟩)
  dsimp only [Pt.U, Pt.locs, Pt.cells, Pt.slots] at Xw16 lw16 yw16 zw16 stw16 hQw16
  rw [lw16, yw16, zw16] at Xw16
  obtain ⟨rfl, Nw16q, ew16⟩ := hQw16
  have Nw16 := Fr.app Nw15 Nw16q
  obtain ⟨_, _, ⟨Tw17, Lw17, kw17, nw17⟩, -, Xw17, ⟨Lcw17, hQw17, lw17, yw17, zw17⟩, stw17⟩ := Jvm.LawKit.callS Xw16 hx (y := (⟨"com/example/differentia/differentia/problems/Cec2013TransformsRotatePinLaw", "b", "(JI)D"⟩ : MethodName)) hown (mvT hZ (hw _ (List.mem_of_getElem? (i := 0) rfl))) (mvT hZ (hw _ (List.mem_of_getElem? (i := 1) rfl))) (mvT hZ (hw _ (List.mem_of_getElem? (i := 2) rfl))) (mvT hZ (hw _ (List.mem_of_getElem? (i := 3) rfl))) (by decide) (backOf (W := 0) (own_rm_b3 l Z a0 hw [] p1 h0 n0 Z0 w1_c50_b3_hv5 w1_c50_b3_hv6 w1_c50_b3_hv7) hZ (hw _ (List.mem_of_getElem? (i := 3) rfl)) (hw _ (List.mem_of_getElem? (i := 2) rfl)) (by decide) (by decide)) (g := (mkF m 50 #[.val (.long p0), .second, .val (.long p1), .second, .val (.int p2), .val (.int (1 : Int32)), .val (.double (FP.i2d w1_c8_b0_v7)), .second, .val (.double (FP.i2d w1_c15_b1_v7)), .second, .val (.double (FP.i2d w1_c22_b2_v7)), .second, .val (.double (FP.i2d w1_c29_b0_v7)), .second, .val (.double (FP.i2d w1_c36_b1_v7)), .second, .val (.double (FP.i2d w1_c43_b2_v7)), .second, .unset, .unset, .unset, .unset, .unset, .unset, .unset, .unset, .unset, .unset, .unset, .unset, .unset, .unset, .unset] [(.int (3 : Int32)), (.long p1)])) rfl (by rw [hml]; rfl) (argsL := [(.long p1), (.int (3 : Int32))]) (rest := []) (lenOf own_pd_28JI29D rfl) rfl (by show 2 * 0 + _ ≤ _; exact Nat.le_of_eq rfl) (hb hby at_50) (fun _ _ => ⟨rfl, ew16, (by decide : 0 + 0 ≤ _), (by decide : 0 + 0 ≤ _)⟩)
  dsimp only [Pt.U, Pt.locs, Pt.cells, Pt.slots] at Xw17 lw17 yw17 zw17 stw17 hQw17
  rw [lw17, yw17, zw17] at Xw17
  obtain ⟨rfl, Nw17q, ew17⟩ := hQw17
  have Nw17 := Fr.app Nw16 Nw17q
  obtain ⟨_, _, ⟨Tw18, Lw18, kw18, nw18⟩, -, Xw18, ⟨Lcw18, hQw18, lw18, yw18, zw18⟩, stw18⟩ := Jvm.LawKit.callS Xw17 hx (y := (⟨"com/example/differentia/differentia/problems/Cec2013TransformsRotatePinLaw", "b", "(JI)D"⟩ : MethodName)) hown (mvT hZ (hw _ (List.mem_of_getElem? (i := 0) rfl))) (mvT hZ (hw _ (List.mem_of_getElem? (i := 1) rfl))) (mvT hZ (hw _ (List.mem_of_getElem? (i := 2) rfl))) (mvT hZ (hw _ (List.mem_of_getElem? (i := 3) rfl))) (by decide) (backOf (W := 0) (own_rm_b4 l Z a0 hw [] p1 h0 n0 Z0 w1_c57_b4_hv5 w1_c57_b4_hv6 w1_c57_b4_hv7) hZ (hw _ (List.mem_of_getElem? (i := 3) rfl)) (hw _ (List.mem_of_getElem? (i := 2) rfl)) (by decide) (by decide)) (g := (mkF m 57 #[.val (.long p0), .second, .val (.long p1), .second, .val (.int p2), .val (.int (1 : Int32)), .val (.double (FP.i2d w1_c8_b0_v7)), .second, .val (.double (FP.i2d w1_c15_b1_v7)), .second, .val (.double (FP.i2d w1_c22_b2_v7)), .second, .val (.double (FP.i2d w1_c29_b0_v7)), .second, .val (.double (FP.i2d w1_c36_b1_v7)), .second, .val (.double (FP.i2d w1_c43_b2_v7)), .second, .val (.double (FP.i2d w1_c50_b3_v7)), .second, .unset, .unset, .unset, .unset, .unset, .unset, .unset, .unset, .unset, .unset, .unset, .unset, .unset] [(.int (4 : Int32)), (.long p1)])) rfl (by rw [hml]; rfl) (argsL := [(.long p1), (.int (4 : Int32))]) (rest := []) (lenOf own_pd_28JI29D rfl) rfl (by show 2 * 0 + _ ≤ _; exact Nat.le_of_eq rfl) (hb hby at_57) (fun _ _ => ⟨rfl, ew17, (by decide : 0 + 0 ≤ _), (by decide : 0 + 0 ≤ _)⟩)
  dsimp only [Pt.U, Pt.locs, Pt.cells, Pt.slots] at Xw18 lw18 yw18 zw18 stw18 hQw18
  rw [lw18, yw18, zw18] at Xw18
  obtain ⟨rfl, Nw18q, ew18⟩ := hQw18
  have Nw18 := Fr.app Nw17 Nw18q
  obtain ⟨_, _, ⟨Tw19, Lw19, kw19, nw19⟩, -, Xw19, ⟨Lcw19, hQw19, lw19, yw19, zw19⟩, stw19⟩ := Jvm.LawKit.callS Xw18 hx (y := (⟨"com/example/differentia/differentia/problems/Cec2013TransformsRotatePinLaw", "b", "(JI)D"⟩ : MethodName)) hown (mvT hZ (hw _ (List.mem_of_getElem? (i := 0) rfl))) (mvT hZ (hw _ (List.mem_of_getElem? (i := 1) rfl))) (mvT hZ (hw _ (List.mem_of_getElem? (i := 2) rfl))) (mvT hZ (hw _ (List.mem_of_getElem? (i := 3) rfl))) (by decide) (backOf (W := 0) (own_rm_b5 l Z a0 hw [] p1 h0 n0 Z0 w1_c64_b5_hv5 w1_c64_b5_hv6 w1_c64_b5_hv7) hZ (hw _ (List.mem_of_getElem? (i := 3) rfl)) (hw _ (List.mem_of_getElem? (i := 2) rfl)) (by decide) (by decide)) (g := (mkF m 64 #[.val (.long p0), .second, .val (.long p1), .second, .val (.int p2), .val (.int (1 : Int32)), .val (.double (FP.i2d w1_c8_b0_v7)), .second, .val (.double (FP.i2d w1_c15_b1_v7)), .second, .val (.double (FP.i2d w1_c22_b2_v7)), .second, .val (.double (FP.i2d w1_c29_b0_v7)), .second, .val (.double (FP.i2d w1_c36_b1_v7)), .second, .val (.double (FP.i2d w1_c43_b2_v7)), .second, .val (.double (FP.i2d w1_c50_b3_v7)), .second, .val (.double (FP.i2d w1_c57_b4_v7)), .second, .unset, .unset, .unset, .unset, .unset, .unset, .unset, .unset, .unset, .unset, .unset] [(.int (5 : Int32)), (.long p1)])) rfl (by rw [hml]; rfl) (argsL := [(.long p1), (.int (5 : Int32))]) (rest := []) (lenOf own_pd_28JI29D rfl) rfl (by show 2 * 0 + _ ≤ _; exact Nat.le_of_eq rfl) (hb hby at_64) (fun _ _ => ⟨rfl, ew18, (by decide : 0 + 0 ≤ _), (by decide : 0 + 0 ≤ _)⟩)
  dsimp only [Pt.U, Pt.locs, Pt.cells, Pt.slots] at Xw19 lw19 yw19 zw19 stw19 hQw19
  rw [lw19, yw19, zw19] at Xw19
  obtain ⟨rfl, Nw19q, ew19⟩ := hQw19
  have Nw19 := Fr.app Nw18 Nw19q
  obtain ⟨_, _, ⟨Tw110, Lw110, kw110, nw110⟩, -, Xw110, ⟨Lcw110, hQw110, lw110, yw110, zw110⟩, stw110⟩ := Jvm.LawKit.callS Xw19 hx (y := (⟨"com/example/differentia/differentia/problems/Cec2013TransformsRotatePinLaw", "b", "(JI)D"⟩ : MethodName)) hown (mvT hZ (hw _ (List.mem_of_getElem? (i := 0) rfl))) (mvT hZ (hw _ (List.mem_of_getElem? (i := 1) rfl))) (mvT hZ (hw _ (List.mem_of_getElem? (i := 2) rfl))) (mvT hZ (hw _ (List.mem_of_getElem? (i := 3) rfl))) (by decide) (backOf (W := 0) (own_rm_b6 l Z a0 hw [] p1 h0 n0 Z0 w1_c72_b6_hv5 w1_c72_b6_hv6 w1_c72_b6_hv7) hZ (hw _ (List.mem_of_getElem? (i := 3) rfl)) (hw _ (List.mem_of_getElem? (i := 2) rfl)) (by decide) (by decide)) (g := (mkF m 72 #[.val (.long p0), .second, .val (.long p1), .second, .val (.int p2), .val (.int (1 : Int32)), .val (.double (FP.i2d w1_c8_b0_v7)), .second, .val (.double (FP.i2d w1_c15_b1_v7)), .second, .val (.double (FP.i2d w1_c22_b2_v7)), .second, .val (.double (FP.i2d w1_c29_b0_v7)), .second, .val (.double (FP.i2d w1_c36_b1_v7)), .second, .val (.double (FP.i2d w1_c43_b2_v7)), .second, .val (.double (FP.i2d w1_c50_b3_v7)), .second, .val (.double (FP.i2d w1_c57_b4_v7)), .second, .val (.double (FP.i2d w1_c64_b5_v7)), .second, .unset, .unset, .unset, .unset, .unset, .unset, .unset, .unset, .unset] [(.int (6 : Int32)), (.long p1)])) rfl (by rw [hml]; rfl) (argsL := [(.long p1), (.int (6 : Int32))]) (rest := []) (lenOf own_pd_28JI29D rfl) rfl (by show 2 * 0 + _ ≤ _; exact Nat.le_of_eq rfl) (hb hby at_72) (fun _ _ => ⟨rfl, ew19, (by decide : 0 + 0 ≤ _), (by decide : 0 + 0 ≤ _)⟩)
  dsimp only [Pt.U, Pt.locs, Pt.cells, Pt.slots] at Xw110 lw110 yw110 zw110 stw110 hQw110
  rw [lw110, yw110, zw110] at Xw110
  obtain ⟨rfl, Nw110q, ew110⟩ := hQw110
  have Nw110 := Fr.app Nw19 Nw110q
  obtain ⟨_, _, ⟨Tw111, Lw111, kw111, nw111⟩, -, Xw111, ⟨Lcw111, hQw111, lw111, yw111, zw111⟩, stw111⟩ := Jvm.LawKit.callS Xw110 hx (y := (⟨"com/example/differentia/differentia/problems/Cec2013TransformsRotatePinLaw", "b", "(JI)D"⟩ : MethodName)) hown (mvT hZ (hw _ (List.mem_of_getElem? (i := 0) rfl))) (mvT hZ (hw _ (List.mem_of_getElem? (i := 1) rfl))) (mvT hZ (hw _ (List.mem_of_getElem? (i := 2) rfl))) (mvT hZ (hw _ (List.mem_of_getElem? (i := 3) rfl))) (by decide) (backOf (W := 0) (own_rm_b7 l Z a0 hw [] p1 h0 n0 Z0 w1_c80_b7_hv5 w1_c80_b7_hv6 w1_c80_b7_hv7) hZ (hw _ (List.mem_of_getElem? (i := 3) rfl)) (hw _ (List.mem_of_getElem? (i := 2) rfl)) (by decide) (by decide)) (g := (mkF m 80 #[.val (.long p0), .second, .val (.long p1), .second, .val (.int p2), .val (.int (1 : Int32)), .val (.double (FP.i2d w1_c8_b0_v7)), .second, .val (.double (FP.i2d w1_c15_b1_v7)), .second, .val (.double (FP.i2d w1_c22_b2_v7)), .second, .val (.double (FP.i2d w1_c29_b0_v7)), .second, .val (.double (FP.i2d w1_c36_b1_v7)), .second, .val (.double (FP.i2d w1_c43_b2_v7)), .second, .val (.double (FP.i2d w1_c50_b3_v7)), .second, .val (.double (FP.i2d w1_c57_b4_v7)), .second, .val (.double (FP.i2d w1_c64_b5_v7)), .second, .val (.double (FP.i2d w1_c72_b6_v7)), .second, .unset, .unset, .unset, .unset, .unset, .unset, .unset] [(.int (7 : Int32)), (.long p1)])) rfl (by rw [hml]; rfl) (argsL := [(.long p1), (.int (7 : Int32))]) (rest := []) (lenOf own_pd_28JI29D rfl) rfl (by show 2 * 0 + _ ≤ _; exact Nat.le_of_eq rfl) (hb hby at_80) (fun _ _ => ⟨rfl, ew110, (by decide : 0 + 0 ≤ _), (by decide : 0 + 0 ≤ _)⟩)
  dsimp only [Pt.U, Pt.locs, Pt.cells, Pt.slots] at Xw111 lw111 yw111 zw111 stw111 hQw111
  rw [lw111, yw111, zw111] at Xw111
  obtain ⟨rfl, Nw111q, ew111⟩ := hQw111
  have Nw111 := Fr.app Nw110 Nw111q
  obtain ⟨_, _, ⟨Tw112, Lw112, kw112, nw112⟩, -, Xw112, ⟨Lcw112, hQw112, lw112, yw112, zw112⟩, stw112⟩ := Jvm.LawKit.callS Xw111 hx (y := (⟨"com/example/differentia/differentia/problems/Cec2013TransformsRotatePinLaw", "b", "(JI)D"⟩ : MethodName)) hown (mvT hZ (hw _ (List.mem_of_getElem? (i := 0) rfl))) (mvT hZ (hw _ (List.mem_of_getElem? (i := 1) rfl))) (mvT hZ (hw _ (List.mem_of_getElem? (i := 2) rfl))) (mvT hZ (hw _ (List.mem_of_getElem? (i := 3) rfl))) (by decide) (backOf (W := 0) (own_rm_b3 l Z a0 hw [] p0 h0 n0 Z0 w1_c87_b3_hv5 w1_c87_b3_hv6 w1_c87_b3_hv7) hZ (hw _ (List.mem_of_getElem? (i := 3) rfl)) (hw _ (List.mem_of_getElem? (i := 2) rfl)) (by decide) (by decide)) (g := (mkF m 87 #[.val (.long p0), .second, .val (.long p1), .second, .val (.int p2), .val (.int (1 : Int32)), .val (.double (FP.i2d w1_c8_b0_v7)), .second, .val (.double (FP.i2d w1_c15_b1_v7)), .second, .val (.double (FP.i2d w1_c22_b2_v7)), .second, .val (.double (FP.i2d w1_c29_b0_v7)), .second, .val (.double (FP.i2d w1_c36_b1_v7)), .second, .val (.double (FP.i2d w1_c43_b2_v7)), .second, .val (.double (FP.i2d w1_c50_b3_v7)), .second, .val (.double (FP.i2d w1_c57_b4_v7)), .second, .val (.double (FP.i2d w1_c64_b5_v7)), .second, .val (.double (FP.i2d w1_c72_b6_v7)), .second, .val (.double (FP.i2d w1_c80_b7_v7)), .second, .unset, .unset, .unset, .unset, .unset] [(.int (3 : Int32)), (.long p0)])) rfl (by rw [hml]; rfl) (argsL := [(.long p0), (.int (3 : Int32))]) (rest := []) (lenOf own_pd_28JI29D rfl) rfl (by show 2 * 0 + _ ≤ _; exact Nat.le_of_eq rfl) (hb hby at_87) (fun _ _ => ⟨rfl, ew111, (by decide : 0 + 0 ≤ _), (by decide : 0 + 0 ≤ _)⟩)
  dsimp only [Pt.U, Pt.locs, Pt.cells, Pt.slots] at Xw112 lw112 yw112 zw112 stw112 hQw112
  rw [lw112, yw112, zw112] at Xw112
  obtain ⟨rfl, Nw112q, ew112⟩ := hQw112
  have Nw112 := Fr.app Nw111 Nw112q
  obtain ⟨Tw113, hw113, kw113, bw113, Xw113, ew113, Ew113, Gw113, Vw113, stw113⟩ := own_newD (L := #[.val (.long p0), .second, .val (.long p1), .second, .val (.int p2), .val (.int (1 : Int32)), .val (.double (FP.i2d w1_c8_b0_v7)), .second, .val (.double (FP.i2d w1_c15_b1_v7)), .second, .val (.double (FP.i2d w1_c22_b2_v7)), .second, .val (.double (FP.i2d w1_c29_b0_v7)), .second, .val (.double (FP.i2d w1_c36_b1_v7)), .second, .val (.double (FP.i2d w1_c43_b2_v7)), .second, .val (.double (FP.i2d w1_c50_b3_v7)), .second, .val (.double (FP.i2d w1_c57_b4_v7)), .second, .val (.double (FP.i2d w1_c64_b5_v7)), .second, .val (.double (FP.i2d w1_c72_b6_v7)), .second, .val (.double (FP.i2d w1_c80_b7_v7)), .second, .val (.double (FP.i2d w1_c87_b3_v7)), .second, .unset, .unset, .unset]) (S := []) Xw112 hx hZ (hw _ (List.mem_of_getElem? (i := 4) rfl)) ew112 (z := (1 : Int32)) 1 (by decide) (by decide) (by decide) (by decide) (by decide) (hb hby at_127) (pc' := 129) rfl
  have g_bw113 : n0 ≤ bw113 := Nat.le_trans Z0 (Nat.le_of_eq Gw113.symm)
  have sz_bw113 : h0.size ≤ bw113 := Nat.le_trans (Keep.refl h0 []).1 (Nat.le_of_eq Gw113.symm)
  have Zw113 : n0 ≤ hw113.size := Nat.le_trans Z0 Ew113.1
  have KKw113 := (Keep.refl h0 []).ext Ew113
  have V_bw113 : Arv Z hw113 bw113 kw113 .double (1 : Int32) [(.double 0)] (.double 0) := Vw113
  obtain ⟨Tw114, hw114, Xw114, ew114, Ww114, Vw114, stw114⟩ := own_stD (L := #[.val (.long p0), .second, .val (.long p1), .second, .val (.int p2), .val (.int (1 : Int32)), .val (.double (FP.i2d w1_c8_b0_v7)), .second, .val (.double (FP.i2d w1_c15_b1_v7)), .second, .val (.double (FP.i2d w1_c22_b2_v7)), .second, .val (.double (FP.i2d w1_c29_b0_v7)), .second, .val (.double (FP.i2d w1_c36_b1_v7)), .second, .val (.double (FP.i2d w1_c43_b2_v7)), .second, .val (.double (FP.i2d w1_c50_b3_v7)), .second, .val (.double (FP.i2d w1_c57_b4_v7)), .second, .val (.double (FP.i2d w1_c64_b5_v7)), .second, .val (.double (FP.i2d w1_c72_b6_v7)), .second, .val (.double (FP.i2d w1_c80_b7_v7)), .second, .val (.double (FP.i2d w1_c87_b3_v7)), .second, .unset, .unset, .unset]) (S := [(.ref bw113)]) Xw113 hx hZ ew113 V_bw113 (j := (0 : Int32)) (x := (FP.i2d w1_c8_b0_v7)) (by decide) 0 (by decide) (Nat.le_of_ble_eq_true rfl) (hb hby at_133) (pc' := 134) rfl
  have Zw114 : n0 ≤ hw114.size := Nat.le_trans Zw113 (Nat.le_of_eq Ww114.size.symm)
  have KKw114 := KKw113.wr Ww114 (Or.inr sz_bw113)
  have V_bw113_w114 : Arv Z hw114 bw113 kw113 .double (1 : Int32) [(.double (FP.i2d w1_c8_b0_v7))] (.double 0) := Vw114
  have Nw114 := Fr.snoc Xw114 Nw112 g_bw113
  obtain ⟨Tw115, hw115, kw115, bw115, Xw115, ew115, Ew115, Gw115, Vw115, stw115⟩ := own_newD (L := #[.val (.long p0), .second, .val (.long p1), .second, .val (.int p2), .val (.int (1 : Int32)), .val (.double (FP.i2d w1_c8_b0_v7)), .second, .val (.double (FP.i2d w1_c15_b1_v7)), .second, .val (.double (FP.i2d w1_c22_b2_v7)), .second, .val (.double (FP.i2d w1_c29_b0_v7)), .second, .val (.double (FP.i2d w1_c36_b1_v7)), .second, .val (.double (FP.i2d w1_c43_b2_v7)), .second, .val (.double (FP.i2d w1_c50_b3_v7)), .second, .val (.double (FP.i2d w1_c57_b4_v7)), .second, .val (.double (FP.i2d w1_c64_b5_v7)), .second, .val (.double (FP.i2d w1_c72_b6_v7)), .second, .val (.double (FP.i2d w1_c80_b7_v7)), .second, .val (.double (FP.i2d w1_c87_b3_v7)), .second, .val (.ref bw113), .unset, .unset]) (S := []) Xw114 hx hZ (hw _ (List.mem_of_getElem? (i := 4) rfl)) ew114 (z := (1 : Int32)) 1 (by decide) (by decide) (by decide) (by decide) (by decide) (hb hby at_137) (pc' := 139) rfl
  have ne_bw113_bw115 : bw113 ≠ bw115 := Nat.ne_of_lt (Nat.lt_of_lt_of_le V_bw113_w114.lt (Nat.le_of_eq Gw115.symm))
  have ne_bw115_bw113 : bw115 ≠ bw113 := Ne.symm ne_bw113_bw115
  have g_bw115 : n0 ≤ bw115 := Nat.le_trans Zw114 (Nat.le_of_eq Gw115.symm)
  have sz_bw115 : h0.size ≤ bw115 := Nat.le_trans KKw114.1 (Nat.le_of_eq Gw115.symm)
  have V_bw113_w115 := V_bw113_w114.ext Ew115
  have Zw115 : n0 ≤ hw115.size := Nat.le_trans Zw114 Ew115.1
  have KKw115 := KKw114.ext Ew115
  have V_bw115 : Arv Z hw115 bw115 kw115 .double (1 : Int32) [(.double 0)] (.double 0) := Vw115
  obtain ⟨Tw116, hw116, Xw116, ew116, Ww116, Vw116, stw116⟩ := own_stD (L := #[.val (.long p0), .second, .val (.long p1), .second, .val (.int p2), .val (.int (1 : Int32)), .val (.double (FP.i2d w1_c8_b0_v7)), .second, .val (.double (FP.i2d w1_c15_b1_v7)), .second, .val (.double (FP.i2d w1_c22_b2_v7)), .second, .val (.double (FP.i2d w1_c29_b0_v7)), .second, .val (.double (FP.i2d w1_c36_b1_v7)), .second, .val (.double (FP.i2d w1_c43_b2_v7)), .second, .val (.double (FP.i2d w1_c50_b3_v7)), .second, .val (.double (FP.i2d w1_c57_b4_v7)), .second, .val (.double (FP.i2d w1_c64_b5_v7)), .second, .val (.double (FP.i2d w1_c72_b6_v7)), .second, .val (.double (FP.i2d w1_c80_b7_v7)), .second, .val (.double (FP.i2d w1_c87_b3_v7)), .second, .val (.ref bw113), .unset, .unset]) (S := [(.ref bw115)]) Xw115 hx hZ ew115 V_bw115 (j := (0 : Int32)) (x := (FP.i2d w1_c29_b0_v7)) (by decide) 0 (by decide) (Nat.le_of_ble_eq_true rfl) (hb hby at_143) (pc' := 144) rfl
  have V_bw113_w116 := V_bw113_w115.other Ww116 ne_bw113_bw115
  have Zw116 : n0 ≤ hw116.size := Nat.le_trans Zw115 (Nat.le_of_eq Ww116.size.symm)
  have KKw116 := KKw115.wr Ww116 (Or.inr sz_bw115)
  have V_bw115_w116 : Arv Z hw116 bw115 kw115 .double (1 : Int32) [(.double (FP.i2d w1_c29_b0_v7))] (.double 0) := Vw116
  have Nw116 := Fr.snoc Xw116 Nw114 g_bw115
  obtain ⟨_, _, ⟨Tw117, Lw117, kw117, nw117⟩, -, Xw117, ⟨Lcw117, hQw117, lw117, yw117, zw117⟩, stw117⟩ := Jvm.LawKit.callS Xw116 hx (y := (⟨"com/example/differentia/differentia/problems/Cec2013Transforms", "rotate", "([D[D)[D"⟩ : MethodName)) hown (mvT hZ (hw _ (List.mem_of_getElem? (i := 5) rfl))) (mvT hZ (hw _ (List.mem_of_getElem? (i := 6) rfl))) (mvT hZ (hw _ (List.mem_of_getElem? (i := 7) rfl))) (mvT hZ (hw _ (List.mem_of_getElem? (i := 8) rfl))) (by decide) (backOf (W := 0) (own_rm_c1 l Z a0 hw [] bw113 (FP.i2d w1_c8_b0_v7) bw115 (FP.i2d w1_c29_b0_v7) hw116 n0 Zw116 V_bw113_w116 V_bw115_w116 w1_c150_c1_hn43 w1_c150_c1_hv43 w1_c150_c1_hn44 w1_c150_c1_hv44) hZ (hw _ (List.mem_of_getElem? (i := 8) rfl)) (hw _ (List.mem_of_getElem? (i := 7) rfl)) (by decide) (by decide)) (g := (mkF m 150 #[.val (.long p0), .second, .val (.long p1), .second, .val (.int p2), .val (.int (1 : Int32)), .val (.double (FP.i2d w1_c8_b0_v7)), .second, .val (.double (FP.i2d w1_c15_b1_v7)), .second, .val (.double (FP.i2d w1_c22_b2_v7)), .second, .val (.double (FP.i2d w1_c29_b0_v7)), .second, .val (.double (FP.i2d w1_c36_b1_v7)), .second, .val (.double (FP.i2d w1_c43_b2_v7)), .second, .val (.double (FP.i2d w1_c50_b3_v7)), .second, .val (.double (FP.i2d w1_c57_b4_v7)), .second, .val (.double (FP.i2d w1_c64_b5_v7)), .second, .val (.double (FP.i2d w1_c72_b6_v7)), .second, .val (.double (FP.i2d w1_c80_b7_v7)), .second, .val (.double (FP.i2d w1_c87_b3_v7)), .second, .val (.ref bw113), .val (.ref bw115), .unset] [(.ref bw115), (.ref bw113)])) rfl (by rw [hml]; rfl) (argsL := [(.ref bw113), (.ref bw115)]) (rest := []) (lenOf own_pd_285bD5bD295bD rfl) rfl (by show 2 * 0 + _ ≤ _; exact Nat.le_of_eq rfl) (hb hby at_150) (fun _ _ => ⟨rfl, ew116, (by decide : 2 + 1 ≤ _), (by decide : 2 + 1 ≤ _)⟩)
  dsimp only [Pt.U, Pt.locs, Pt.cells, Pt.slots] at Xw117 lw117 yw117 zw117 stw117 hQw117
  rw [lw117, yw117, zw117] at Xw117
  obtain ⟨bw117, kw117a, rfl, Nw117q, Kw117, Gw117, qw117_0⟩ := hQw117
  have ne_bw113_bw117 : bw113 ≠ bw117 := Nat.ne_of_lt (Nat.lt_of_lt_of_le V_bw113_w116.lt Gw117)
  have ne_bw117_bw113 : bw117 ≠ bw113 := Ne.symm ne_bw113_bw117
  have ne_bw115_bw117 : bw115 ≠ bw117 := Nat.ne_of_lt (Nat.lt_of_lt_of_le V_bw115_w116.lt Gw117)
  have ne_bw117_bw115 : bw117 ≠ bw115 := Ne.symm ne_bw115_bw117
  have g_bw117 : n0 ≤ bw117 := Nat.le_trans Zw116 Gw117
  have sz_bw117 : h0.size ≤ bw117 := Nat.le_trans KKw116.1 Gw117
  have V_bw113_w117 := V_bw113_w116.keep Kw117 (List.not_mem_nil)
  have V_bw115_w117 := V_bw115_w116.keep Kw117 (List.not_mem_nil)
  have Zw117 : n0 ≤ Tw117.heap.size := Nat.le_trans Zw116 Kw117.1
  have KKw117 := KKw116.trans Kw117 (fun _ q => nomatch q)
  have Nw117 := Fr.app Nw116 Nw117q
  obtain ⟨fs, hr, hrun, hended, hW, hsame⟩ := Xw117.leave (v := some (.int (1 : Int32))) (fun h => by rw [Bd.returns] at h; cases h)
  refine ⟨_, _, pre0 _ ?_, hrun, hended, _, _, rfl, ?_, ⟨_, rfl⟩, hW, hsame.mono (by decide) (by decide)⟩
  · refine own_s_iload X0.here hx (hb hby at_0) (pc' := 2) rfl rfl ?_
    refine own_s_iconst X0.here hx (hb hby at_2) (pc' := 3) rfl (v := (3 : Int32)) (by decide) ?_
    refine own_s_iand X0.here hx (hb hby at_3) (pc' := 4) rfl (v := (1 : Int32)) w1_hv3 ?_
    refine own_s_istore X0.here hx (hb hby at_4) (pc' := 6) rfl (L' := #[.val (.long p0), .second, .val (.long p1), .second, .val (.int p2), .val (.int (1 : Int32)), .unset, .unset, .unset, .unset, .unset, .unset, .unset, .unset, .unset, .unset, .unset, .unset, .unset, .unset, .unset, .unset, .unset, .unset, .unset, .unset, .unset, .unset, .unset, .unset, .unset, .unset, .unset]) rfl ?_
    refine own_s_lloadN X0.here hx (hb hby at_6) (pc' := 7) rfl rfl ?_
    refine own_s_iconst X0.here hx (hb hby at_7) (pc' := 8) rfl (v := (0 : Int32)) (by decide) ?_
    refine stw11 _ ?_
    show Steps p.tables e below (Tw11.setTop (mkF m 11 #[.val (.long p0), .second, .val (.long p1), .second, .val (.int p2), .val (.int (1 : Int32)), .unset, .unset, .unset, .unset, .unset, .unset, .unset, .unset, .unset, .unset, .unset, .unset, .unset, .unset, .unset, .unset, .unset, .unset, .unset, .unset, .unset, .unset, .unset, .unset, .unset, .unset, .unset] [(.double (FP.i2d w1_c8_b0_v7))])) _
    refine own_s_dstore Xw11.here hx (hb hby at_11) (pc' := 13) rfl (L' := #[.val (.long p0), .second, .val (.long p1), .second, .val (.int p2), .val (.int (1 : Int32)), .val (.double (FP.i2d w1_c8_b0_v7)), .second, .unset, .unset, .unset, .unset, .unset, .unset, .unset, .unset, .unset, .unset, .unset, .unset, .unset, .unset, .unset, .unset, .unset, .unset, .unset, .unset, .unset, .unset, .unset, .unset, .unset]) rfl ?_
    refine own_s_lloadN Xw11.here hx (hb hby at_13) (pc' := 14) rfl rfl ?_
    refine own_s_iconst Xw11.here hx (hb hby at_14) (pc' := 15) rfl (v := (1 : Int32)) (by decide) ?_
    refine stw12 _ ?_
    show Steps p.tables e below (Tw12.setTop (mkF m 18 #[.val (.long p0), .second, .val (.long p1), .second, .val (.int p2), .val (.int (1 : Int32)), .val (.double (FP.i2d w1_c8_b0_v7)), .second, .unset, .unset, .unset, .unset, .unset, .unset, .unset, .unset, .unset, .unset, .unset, .unset, .unset, .unset, .unset, .unset, .unset, .unset, .unset, .unset, .unset, .unset, .unset, .unset, .unset] [(.double (FP.i2d w1_c15_b1_v7))])) _
    refine own_s_dstore Xw12.here hx (hb hby at_18) (pc' := 20) rfl (L' := #[.val (.long p0), .second, .val (.long p1), .second, .val (.int p2), .val (.int (1 : Int32)), .val (.double (FP.i2d w1_c8_b0_v7)), .second, .val (.double (FP.i2d w1_c15_b1_v7)), .second, .unset, .unset, .unset, .unset, .unset, .unset, .unset, .unset, .unset, .unset, .unset, .unset, .unset, .unset, .unset, .unset, .unset, .unset, .unset, .unset, .unset, .unset, .unset]) rfl ?_
    refine own_s_lloadN Xw12.here hx (hb hby at_20) (pc' := 21) rfl rfl ?_
    refine own_s_iconst Xw12.here hx (hb hby at_21) (pc' := 22) rfl (v := (2 : Int32)) (by decide) ?_
    refine stw13 _ ?_
    show Steps p.tables e below (Tw13.setTop (mkF m 25 #[.val (.long p0), .second, .val (.long p1), .second, .val (.int p2), .val (.int (1 : Int32)), .val (.double (FP.i2d w1_c8_b0_v7)), .second, .val (.double (FP.i2d w1_c15_b1_v7)), .second, .unset, .unset, .unset, .unset, .unset, .unset, .unset, .unset, .unset, .unset, .unset, .unset, .unset, .unset, .unset, .unset, .unset, .unset, .unset, .unset, .unset, .unset, .unset] [(.double (FP.i2d w1_c22_b2_v7))])) _
    refine own_s_dstore Xw13.here hx (hb hby at_25) (pc' := 27) rfl (L' := #[.val (.long p0), .second, .val (.long p1), .second, .val (.int p2), .val (.int (1 : Int32)), .val (.double (FP.i2d w1_c8_b0_v7)), .second, .val (.double (FP.i2d w1_c15_b1_v7)), .second, .val (.double (FP.i2d w1_c22_b2_v7)), .second, .unset, .unset, .unset, .unset, .unset, .unset, .unset, .unset, .unset, .unset, .unset, .unset, .unset, .unset, .unset, .unset, .unset, .unset, .unset, .unset, .unset]) rfl ?_
    refine own_s_lloadN Xw13.here hx (hb hby at_27) (pc' := 28) rfl rfl ?_
    refine own_s_iconst Xw13.here hx (hb hby at_28) (pc' := 29) rfl (v := (0 : Int32)) (by decide) ?_
    refine stw14 _ ?_
    show Steps p.tables e below (Tw14.setTop (mkF m 32 #[.val (.long p0), .second, .val (.long p1), .second, .val (.int p2), .val (.int (1 : Int32)), .val (.double (FP.i2d w1_c8_b0_v7)), .second, .val (.double (FP.i2d w1_c15_b1_v7)), .second, .val (.double (FP.i2d w1_c22_b2_v7)), .second, .unset, .unset, .unset, .unset, .unset, .unset, .unset, .unset, .unset, .unset, .unset, .unset, .unset, .unset, .unset, .unset, .unset, .unset, .unset, .unset, .unset] [(.double (FP.i2d w1_c29_b0_v7))])) _
    refine own_s_dstore Xw14.here hx (hb hby at_32) (pc' := 34) rfl (L' := #[.val (.long p0), .second, .val (.long p1), .second, .val (.int p2), .val (.int (1 : Int32)), .val (.double (FP.i2d w1_c8_b0_v7)), .second, .val (.double (FP.i2d w1_c15_b1_v7)), .second, .val (.double (FP.i2d w1_c22_b2_v7)), .second, .val (.double (FP.i2d w1_c29_b0_v7)), .second, .unset, .unset, .unset, .unset, .unset, .unset, .unset, .unset, .unset, .unset, .unset, .unset, .unset, .unset, .unset, .unset, .unset, .unset, .unset]) rfl ?_
    refine own_s_lloadN Xw14.here hx (hb hby at_34) (pc' := 35) rfl rfl ?_
    refine own_s_iconst Xw14.here hx (hb hby at_35) (pc' := 36) rfl (v := (1 : Int32)) (by decide) ?_
    refine stw15 _ ?_
    show Steps p.tables e below (Tw15.setTop (mkF m 39 #[.val (.long p0), .second, .val (.long p1), .second, .val (.int p2), .val (.int (1 : Int32)), .val (.double (FP.i2d w1_c8_b0_v7)), .second, .val (.double (FP.i2d w1_c15_b1_v7)), .second, .val (.double (FP.i2d w1_c22_b2_v7)), .second, .val (.double (FP.i2d w1_c29_b0_v7)), .second, .unset, .unset, .unset, .unset, .unset, .unset, .unset, .unset, .unset, .unset, .unset, .unset, .unset, .unset, .unset, .unset, .unset, .unset, .unset] [(.double (FP.i2d w1_c36_b1_v7))])) _
    refine own_s_dstore Xw15.here hx (hb hby at_39) (pc' := 41) rfl (L' := #[.val (.long p0), .second, .val (.long p1), .second, .val (.int p2), .val (.int (1 : Int32)), .val (.double (FP.i2d w1_c8_b0_v7)), .second, .val (.double (FP.i2d w1_c15_b1_v7)), .second, .val (.double (FP.i2d w1_c22_b2_v7)), .second, .val (.double (FP.i2d w1_c29_b0_v7)), .second, .val (.double (FP.i2d w1_c36_b1_v7)), .second, .unset, .unset, .unset, .unset, .unset, .unset, .unset, .unset, .unset, .unset, .unset, .unset, .unset, .unset, .unset, .unset, .unset]) rfl ?_
    refine own_s_lloadN Xw15.here hx (hb hby at_41) (pc' := 42) rfl rfl ?_
    refine own_s_iconst Xw15.here hx (hb hby at_42) (pc' := 43) rfl (v := (2 : Int32)) (by decide) ?_
    refine stw16 _ ?_
    show Steps p.tables e below (Tw16.setTop (mkF m 46 #[.val (.long p0), .second, .val (.long p1), .second, .val (.int p2), .val (.int (1 : Int32)), .val (.double (FP.i2d w1_c8_b0_v7)), .second, .val (.double (FP.i2d w1_c15_b1_v7)), .second, .val (.double (FP.i2d w1_c22_b2_v7)), .second, .val (.double (FP.i2d w1_c29_b0_v7)), .second, .val (.double (FP.i2d w1_c36_b1_v7)), .second, .unset, .unset, .unset, .unset, .unset, .unset, .unset, .unset, .unset, .unset, .unset, .unset, .unset, .unset, .unset, .unset, .unset] [(.double (FP.i2d w1_c43_b2_v7))])) _
    refine own_s_dstore Xw16.here hx (hb hby at_46) (pc' := 48) rfl (L' := #[.val (.long p0), .second, .val (.long p1), .second, .val (.int p2), .val (.int (1 : Int32)), .val (.double (FP.i2d w1_c8_b0_v7)), .second, .val (.double (FP.i2d w1_c15_b1_v7)), .second, .val (.double (FP.i2d w1_c22_b2_v7)), .second, .val (.double (FP.i2d w1_c29_b0_v7)), .second, .val (.double (FP.i2d w1_c36_b1_v7)), .second, .val (.double (FP.i2d w1_c43_b2_v7)), .second, .unset, .unset, .unset, .unset, .unset, .unset, .unset, .unset, .unset, .unset, .unset, .unset, .unset, .unset, .unset]) rfl ?_
    refine own_s_lloadN Xw16.here hx (hb hby at_48) (pc' := 49) rfl rfl ?_
    refine own_s_iconst Xw16.here hx (hb hby at_49) (pc' := 50) rfl (v := (3 : Int32)) (by decide) ?_
    refine stw17 _ ?_
    show Steps p.tables e below (Tw17.setTop (mkF m 53 #[.val (.long p0), .second, .val (.long p1), .second, .val (.int p2), .val (.int (1 : Int32)), .val (.double (FP.i2d w1_c8_b0_v7)), .second, .val (.double (FP.i2d w1_c15_b1_v7)), .second, .val (.double (FP.i2d w1_c22_b2_v7)), .second, .val (.double (FP.i2d w1_c29_b0_v7)), .second, .val (.double (FP.i2d w1_c36_b1_v7)), .second, .val (.double (FP.i2d w1_c43_b2_v7)), .second, .unset, .unset, .unset, .unset, .unset, .unset, .unset, .unset, .unset, .unset, .unset, .unset, .unset, .unset, .unset] [(.double (FP.i2d w1_c50_b3_v7))])) _
    refine own_s_dstore Xw17.here hx (hb hby at_53) (pc' := 55) rfl (L' := #[.val (.long p0), .second, .val (.long p1), .second, .val (.int p2), .val (.int (1 : Int32)), .val (.double (FP.i2d w1_c8_b0_v7)), .second, .val (.double (FP.i2d w1_c15_b1_v7)), .second, .val (.double (FP.i2d w1_c22_b2_v7)), .second, .val (.double (FP.i2d w1_c29_b0_v7)), .second, .val (.double (FP.i2d w1_c36_b1_v7)), .second, .val (.double (FP.i2d w1_c43_b2_v7)), .second, .val (.double (FP.i2d w1_c50_b3_v7)), .second, .unset, .unset, .unset, .unset, .unset, .unset, .unset, .unset, .unset, .unset, .unset, .unset, .unset]) rfl ?_
    refine own_s_lloadN Xw17.here hx (hb hby at_55) (pc' := 56) rfl rfl ?_
    refine own_s_iconst Xw17.here hx (hb hby at_56) (pc' := 57) rfl (v := (4 : Int32)) (by decide) ?_
    refine stw18 _ ?_
    show Steps p.tables e below (Tw18.setTop (mkF m 60 #[.val (.long p0), .second, .val (.long p1), .second, .val (.int p2), .val (.int (1 : Int32)), .val (.double (FP.i2d w1_c8_b0_v7)), .second, .val (.double (FP.i2d w1_c15_b1_v7)), .second, .val (.double (FP.i2d w1_c22_b2_v7)), .second, .val (.double (FP.i2d w1_c29_b0_v7)), .second, .val (.double (FP.i2d w1_c36_b1_v7)), .second, .val (.double (FP.i2d w1_c43_b2_v7)), .second, .val (.double (FP.i2d w1_c50_b3_v7)), .second, .unset, .unset, .unset, .unset, .unset, .unset, .unset, .unset, .unset, .unset, .unset, .unset, .unset] [(.double (FP.i2d w1_c57_b4_v7))])) _
    refine own_s_dstore Xw18.here hx (hb hby at_60) (pc' := 62) rfl (L' := #[.val (.long p0), .second, .val (.long p1), .second, .val (.int p2), .val (.int (1 : Int32)), .val (.double (FP.i2d w1_c8_b0_v7)), .second, .val (.double (FP.i2d w1_c15_b1_v7)), .second, .val (.double (FP.i2d w1_c22_b2_v7)), .second, .val (.double (FP.i2d w1_c29_b0_v7)), .second, .val (.double (FP.i2d w1_c36_b1_v7)), .second, .val (.double (FP.i2d w1_c43_b2_v7)), .second, .val (.double (FP.i2d w1_c50_b3_v7)), .second, .val (.double (FP.i2d w1_c57_b4_v7)), .second, .unset, .unset, .unset, .unset, .unset, .unset, .unset, .unset, .unset, .unset, .unset]) rfl ?_
    refine own_s_lloadN Xw18.here hx (hb hby at_62) (pc' := 63) rfl rfl ?_
    refine own_s_iconst Xw18.here hx (hb hby at_63) (pc' := 64) rfl (v := (5 : Int32)) (by decide) ?_
    refine stw19 _ ?_
    show Steps p.tables e below (Tw19.setTop (mkF m 67 #[.val (.long p0), .second, .val (.long p1), .second, .val (.int p2), .val (.int (1 : Int32)), .val (.double (FP.i2d w1_c8_b0_v7)), .second, .val (.double (FP.i2d w1_c15_b1_v7)), .second, .val (.double (FP.i2d w1_c22_b2_v7)), .second, .val (.double (FP.i2d w1_c29_b0_v7)), .second, .val (.double (FP.i2d w1_c36_b1_v7)), .second, .val (.double (FP.i2d w1_c43_b2_v7)), .second, .val (.double (FP.i2d w1_c50_b3_v7)), .second, .val (.double (FP.i2d w1_c57_b4_v7)), .second, .unset, .unset, .unset, .unset, .unset, .unset, .unset, .unset, .unset, .unset, .unset] [(.double (FP.i2d w1_c64_b5_v7))])) _
    refine own_s_dstore Xw19.here hx (hb hby at_67) (pc' := 69) rfl (L' := #[.val (.long p0), .second, .val (.long p1), .second, .val (.int p2), .val (.int (1 : Int32)), .val (.double (FP.i2d w1_c8_b0_v7)), .second, .val (.double (FP.i2d w1_c15_b1_v7)), .second, .val (.double (FP.i2d w1_c22_b2_v7)), .second, .val (.double (FP.i2d w1_c29_b0_v7)), .second, .val (.double (FP.i2d w1_c36_b1_v7)), .second, .val (.double (FP.i2d w1_c43_b2_v7)), .second, .val (.double (FP.i2d w1_c50_b3_v7)), .second, .val (.double (FP.i2d w1_c57_b4_v7)), .second, .val (.double (FP.i2d w1_c64_b5_v7)), .second, .unset, .unset, .unset, .unset, .unset, .unset, .unset, .unset, .unset]) rfl ?_
    refine own_s_lloadN Xw19.here hx (hb hby at_69) (pc' := 70) rfl rfl ?_
    refine own_s_bipush Xw19.here hx (hb hby at_70) (pc' := 72) rfl (v := (6 : Int32)) (by decide) ?_
    refine stw110 _ ?_
    show Steps p.tables e below (Tw110.setTop (mkF m 75 #[.val (.long p0), .second, .val (.long p1), .second, .val (.int p2), .val (.int (1 : Int32)), .val (.double (FP.i2d w1_c8_b0_v7)), .second, .val (.double (FP.i2d w1_c15_b1_v7)), .second, .val (.double (FP.i2d w1_c22_b2_v7)), .second, .val (.double (FP.i2d w1_c29_b0_v7)), .second, .val (.double (FP.i2d w1_c36_b1_v7)), .second, .val (.double (FP.i2d w1_c43_b2_v7)), .second, .val (.double (FP.i2d w1_c50_b3_v7)), .second, .val (.double (FP.i2d w1_c57_b4_v7)), .second, .val (.double (FP.i2d w1_c64_b5_v7)), .second, .unset, .unset, .unset, .unset, .unset, .unset, .unset, .unset, .unset] [(.double (FP.i2d w1_c72_b6_v7))])) _
    refine own_s_dstore Xw110.here hx (hb hby at_75) (pc' := 77) rfl (L' := #[.val (.long p0), .second, .val (.long p1), .second, .val (.int p2), .val (.int (1 : Int32)), .val (.double (FP.i2d w1_c8_b0_v7)), .second, .val (.double (FP.i2d w1_c15_b1_v7)), .second, .val (.double (FP.i2d w1_c22_b2_v7)), .second, .val (.double (FP.i2d w1_c29_b0_v7)), .second, .val (.double (FP.i2d w1_c36_b1_v7)), .second, .val (.double (FP.i2d w1_c43_b2_v7)), .second, .val (.double (FP.i2d w1_c50_b3_v7)), .second, .val (.double (FP.i2d w1_c57_b4_v7)), .second, .val (.double (FP.i2d w1_c64_b5_v7)), .second, .val (.double (FP.i2d w1_c72_b6_v7)), .second, .unset, .unset, .unset, .unset, .unset, .unset, .unset]) rfl ?_
    refine own_s_lloadN Xw110.here hx (hb hby at_77) (pc' := 78) rfl rfl ?_
    refine own_s_bipush Xw110.here hx (hb hby at_78) (pc' := 80) rfl (v := (7 : Int32)) (by decide) ?_
    refine stw111 _ ?_
    show Steps p.tables e below (Tw111.setTop (mkF m 83 #[.val (.long p0), .second, .val (.long p1), .second, .val (.int p2), .val (.int (1 : Int32)), .val (.double (FP.i2d w1_c8_b0_v7)), .second, .val (.double (FP.i2d w1_c15_b1_v7)), .second, .val (.double (FP.i2d w1_c22_b2_v7)), .second, .val (.double (FP.i2d w1_c29_b0_v7)), .second, .val (.double (FP.i2d w1_c36_b1_v7)), .second, .val (.double (FP.i2d w1_c43_b2_v7)), .second, .val (.double (FP.i2d w1_c50_b3_v7)), .second, .val (.double (FP.i2d w1_c57_b4_v7)), .second, .val (.double (FP.i2d w1_c64_b5_v7)), .second, .val (.double (FP.i2d w1_c72_b6_v7)), .second, .unset, .unset, .unset, .unset, .unset, .unset, .unset] [(.double (FP.i2d w1_c80_b7_v7))])) _
    refine own_s_dstore Xw111.here hx (hb hby at_83) (pc' := 85) rfl (L' := #[.val (.long p0), .second, .val (.long p1), .second, .val (.int p2), .val (.int (1 : Int32)), .val (.double (FP.i2d w1_c8_b0_v7)), .second, .val (.double (FP.i2d w1_c15_b1_v7)), .second, .val (.double (FP.i2d w1_c22_b2_v7)), .second, .val (.double (FP.i2d w1_c29_b0_v7)), .second, .val (.double (FP.i2d w1_c36_b1_v7)), .second, .val (.double (FP.i2d w1_c43_b2_v7)), .second, .val (.double (FP.i2d w1_c50_b3_v7)), .second, .val (.double (FP.i2d w1_c57_b4_v7)), .second, .val (.double (FP.i2d w1_c64_b5_v7)), .second, .val (.double (FP.i2d w1_c72_b6_v7)), .second, .val (.double (FP.i2d w1_c80_b7_v7)), .second, .unset, .unset, .unset, .unset, .unset]) rfl ?_
    refine own_s_lloadN Xw111.here hx (hb hby at_85) (pc' := 86) rfl rfl ?_
    refine own_s_iconst Xw111.here hx (hb hby at_86) (pc' := 87) rfl (v := (3 : Int32)) (by decide) ?_
    refine stw112 _ ?_
    show Steps p.tables e below (Tw112.setTop (mkF m 90 #[.val (.long p0), .second, .val (.long p1), .second, .val (.int p2), .val (.int (1 : Int32)), .val (.double (FP.i2d w1_c8_b0_v7)), .second, .val (.double (FP.i2d w1_c15_b1_v7)), .second, .val (.double (FP.i2d w1_c22_b2_v7)), .second, .val (.double (FP.i2d w1_c29_b0_v7)), .second, .val (.double (FP.i2d w1_c36_b1_v7)), .second, .val (.double (FP.i2d w1_c43_b2_v7)), .second, .val (.double (FP.i2d w1_c50_b3_v7)), .second, .val (.double (FP.i2d w1_c57_b4_v7)), .second, .val (.double (FP.i2d w1_c64_b5_v7)), .second, .val (.double (FP.i2d w1_c72_b6_v7)), .second, .val (.double (FP.i2d w1_c80_b7_v7)), .second, .unset, .unset, .unset, .unset, .unset] [(.double (FP.i2d w1_c87_b3_v7))])) _
    refine own_s_dstore Xw112.here hx (hb hby at_90) (pc' := 92) rfl (L' := #[.val (.long p0), .second, .val (.long p1), .second, .val (.int p2), .val (.int (1 : Int32)), .val (.double (FP.i2d w1_c8_b0_v7)), .second, .val (.double (FP.i2d w1_c15_b1_v7)), .second, .val (.double (FP.i2d w1_c22_b2_v7)), .second, .val (.double (FP.i2d w1_c29_b0_v7)), .second, .val (.double (FP.i2d w1_c36_b1_v7)), .second, .val (.double (FP.i2d w1_c43_b2_v7)), .second, .val (.double (FP.i2d w1_c50_b3_v7)), .second, .val (.double (FP.i2d w1_c57_b4_v7)), .second, .val (.double (FP.i2d w1_c64_b5_v7)), .second, .val (.double (FP.i2d w1_c72_b6_v7)), .second, .val (.double (FP.i2d w1_c80_b7_v7)), .second, .val (.double (FP.i2d w1_c87_b3_v7)), .second, .unset, .unset, .unset]) rfl ?_
    refine own_s_iload Xw112.here hx (hb hby at_92) (pc' := 94) rfl rfl ?_
    refine own_s_ifYes Xw112.here hx (hb hby at_94) (by decide) (pc' := 120) (by decide) (by decide) ?_
    refine own_s_iload Xw112.here hx (hb hby at_120) (pc' := 122) rfl rfl ?_
    refine own_s_iconst Xw112.here hx (hb hby at_122) (pc' := 123) rfl (v := (1 : Int32)) (by decide) ?_
    refine own_s_icmpNo Xw112.here hx (hb hby at_123) (pc' := 126) rfl (by decide) ?_
    refine own_s_iconst Xw112.here hx (hb hby at_126) (pc' := 127) rfl (v := (1 : Int32)) (by decide) ?_
    refine stw113 _ ?_
    refine own_s_dup Xw113.here hx (hb hby at_129) (pc' := 130) rfl rfl ?_
    refine own_s_iconst Xw113.here hx (hb hby at_130) (pc' := 131) rfl (v := (0 : Int32)) (by decide) ?_
    refine own_s_dload Xw113.here hx (hb hby at_131) (pc' := 133) rfl rfl ?_
    refine stw114 _ ?_
    refine own_s_astore Xw114.here hx (hb hby at_134) (pc' := 136) rfl rfl (L' := #[.val (.long p0), .second, .val (.long p1), .second, .val (.int p2), .val (.int (1 : Int32)), .val (.double (FP.i2d w1_c8_b0_v7)), .second, .val (.double (FP.i2d w1_c15_b1_v7)), .second, .val (.double (FP.i2d w1_c22_b2_v7)), .second, .val (.double (FP.i2d w1_c29_b0_v7)), .second, .val (.double (FP.i2d w1_c36_b1_v7)), .second, .val (.double (FP.i2d w1_c43_b2_v7)), .second, .val (.double (FP.i2d w1_c50_b3_v7)), .second, .val (.double (FP.i2d w1_c57_b4_v7)), .second, .val (.double (FP.i2d w1_c64_b5_v7)), .second, .val (.double (FP.i2d w1_c72_b6_v7)), .second, .val (.double (FP.i2d w1_c80_b7_v7)), .second, .val (.double (FP.i2d w1_c87_b3_v7)), .second, .val (.ref bw113), .unset, .unset]) rfl ?_
    refine own_s_iconst Xw114.here hx (hb hby at_136) (pc' := 137) rfl (v := (1 : Int32)) (by decide) ?_
    refine stw115 _ ?_
    refine own_s_dup Xw115.here hx (hb hby at_139) (pc' := 140) rfl rfl ?_
    refine own_s_iconst Xw115.here hx (hb hby at_140) (pc' := 141) rfl (v := (0 : Int32)) (by decide) ?_
    refine own_s_dload Xw115.here hx (hb hby at_141) (pc' := 143) rfl rfl ?_
    refine stw116 _ ?_
    refine own_s_astore Xw116.here hx (hb hby at_144) (pc' := 146) rfl rfl (L' := #[.val (.long p0), .second, .val (.long p1), .second, .val (.int p2), .val (.int (1 : Int32)), .val (.double (FP.i2d w1_c8_b0_v7)), .second, .val (.double (FP.i2d w1_c15_b1_v7)), .second, .val (.double (FP.i2d w1_c22_b2_v7)), .second, .val (.double (FP.i2d w1_c29_b0_v7)), .second, .val (.double (FP.i2d w1_c36_b1_v7)), .second, .val (.double (FP.i2d w1_c43_b2_v7)), .second, .val (.double (FP.i2d w1_c50_b3_v7)), .second, .val (.double (FP.i2d w1_c57_b4_v7)), .second, .val (.double (FP.i2d w1_c64_b5_v7)), .second, .val (.double (FP.i2d w1_c72_b6_v7)), .second, .val (.double (FP.i2d w1_c80_b7_v7)), .second, .val (.double (FP.i2d w1_c87_b3_v7)), .second, .val (.ref bw113), .val (.ref bw115), .unset]) rfl ?_
    refine own_s_aload Xw116.here hx (hb hby at_146) (pc' := 148) rfl rfl rfl ?_
    refine own_s_aload Xw116.here hx (hb hby at_148) (pc' := 150) rfl rfl rfl ?_
    refine stw117 _ ?_
    show Steps p.tables e below (Tw117.setTop (mkF m 153 #[.val (.long p0), .second, .val (.long p1), .second, .val (.int p2), .val (.int (1 : Int32)), .val (.double (FP.i2d w1_c8_b0_v7)), .second, .val (.double (FP.i2d w1_c15_b1_v7)), .second, .val (.double (FP.i2d w1_c22_b2_v7)), .second, .val (.double (FP.i2d w1_c29_b0_v7)), .second, .val (.double (FP.i2d w1_c36_b1_v7)), .second, .val (.double (FP.i2d w1_c43_b2_v7)), .second, .val (.double (FP.i2d w1_c50_b3_v7)), .second, .val (.double (FP.i2d w1_c57_b4_v7)), .second, .val (.double (FP.i2d w1_c64_b5_v7)), .second, .val (.double (FP.i2d w1_c72_b6_v7)), .second, .val (.double (FP.i2d w1_c80_b7_v7)), .second, .val (.double (FP.i2d w1_c87_b3_v7)), .second, .val (.ref bw113), .val (.ref bw115), .unset] [(.ref bw117)])) _
    refine own_s_astore Xw117.here hx (hb hby at_153) (pc' := 155) rfl rfl (L' := #[.val (.long p0), .second, .val (.long p1), .second, .val (.int p2), .val (.int (1 : Int32)), .val (.double (FP.i2d w1_c8_b0_v7)), .second, .val (.double (FP.i2d w1_c15_b1_v7)), .second, .val (.double (FP.i2d w1_c22_b2_v7)), .second, .val (.double (FP.i2d w1_c29_b0_v7)), .second, .val (.double (FP.i2d w1_c36_b1_v7)), .second, .val (.double (FP.i2d w1_c43_b2_v7)), .second, .val (.double (FP.i2d w1_c50_b3_v7)), .second, .val (.double (FP.i2d w1_c57_b4_v7)), .second, .val (.double (FP.i2d w1_c64_b5_v7)), .second, .val (.double (FP.i2d w1_c72_b6_v7)), .second, .val (.double (FP.i2d w1_c80_b7_v7)), .second, .val (.double (FP.i2d w1_c87_b3_v7)), .second, .val (.ref bw113), .val (.ref bw115), .val (.ref bw117)]) rfl ?_
    refine own_s_aload Xw117.here hx (hb hby at_155) (pc' := 157) rfl rfl rfl ?_
    refine own_len Xw117 hx hZ rfl qw117_0 (hb hby at_157) (pc' := 158) rfl ?_
    refine own_s_iconst Xw117.here hx (hb hby at_158) (pc' := 159) rfl (v := (1 : Int32)) (by decide) ?_
    refine own_s_icmpNo Xw117.here hx (hb hby at_159) (pc' := 162) rfl (by decide) ?_
    refine own_s_aload Xw117.here hx (hb hby at_162) (pc' := 164) rfl rfl rfl ?_
    refine own_s_iconst Xw117.here hx (hb hby at_164) (pc' := 165) rfl (v := (0 : Int32)) (by decide) ?_
    refine own_ldD Xw117 hx hZ rfl qw117_0 (j := (0 : Int32)) (x := w1_c150_c1_v44) (by decide) rfl (hb hby at_165) (pc' := 166) rfl ?_
    refine own_s_dload Xw117.here hx (hb hby at_166) (pc' := 168) rfl rfl ?_
    refine own_s_dload Xw117.here hx (hb hby at_168) (pc' := 170) rfl rfl ?_
    refine own_s_dmul Xw117.here hx (hb hby at_170) (pc' := 171) rfl w1_hn170 (v := w1_v170) w1_hv170 ?_
    refine own_s_dcmp Xw117.here hx (hb hby at_171) (pc' := 172) rfl (v := (0 : Int32)) w1_hc171 ?_
    refine own_s_ifNo Xw117.here hx (hb hby at_172) (pc' := 175) rfl (by decide) ?_
    refine own_s_iconst Xw117.here hx (hb hby at_175) (pc' := 176) rfl (v := (1 : Int32)) (by decide) ?_
    refine own_s_goto Xw117.here hx (hb hby at_176) (by decide) (pc' := 180) (by decide) ?_
    exact retN Xw117 hx (t := .boolean) Bd.returns (by simp) (hb hby at_180) hr
  · show own_Q0 n0 _ Tw117.heap _
    exact ⟨rfl, Nw117⟩
theorem own_ef_c2 (m : MethodId) (qa : Addr) (qb : Addr) : entryFrame m #[(.ref qa), (.ref qb)] 8 = mkF m 0 #[.val (.ref qa), .val (.ref qb), .unset, .unset, .unset, .unset, .unset, .unset] [] := by first | (simp [entryFrame, mkF, argsToLocals, Value.category]; done) | rfl
def own_Q_c2 (Z : State) (qa : Addr) (d0 : UInt64) (d1 : UInt64) (qb : Addr) (ee0 : UInt64) (ee1 : UInt64) (ee2 : UInt64) (ee3 : UInt64) (qak : ClassId) (qbk : ClassId) (c2_v43 : UInt64) (c2_v44 : UInt64) (c2_v43_2 : UInt64) (c2_v44_2 : UInt64) (c2_v43_3 : UInt64) (c2_v44_3 : UInt64) (c2_v43_4 : UInt64) (c2_v44_4 : UInt64) (h0 : Heap) (n0 : Nat) (v : Option Value) (h : Heap) (L : List Loc) : Prop := ∃ (bc21 : Addr) (kc21 : ClassId), v = some (.ref bc21) ∧ Fr n0 L ∧ Keep h0 h [] ∧ h0.size ≤ bc21 ∧ Arv Z h bc21 kc21 .double (2 : Int32) [(.double c2_v44_2), (.double c2_v44_4)] (.double 0)
set_option maxRecDepth 65536 in
set_option maxHeartbeats 40000000 in
theorem own_rm_c2 (l : Launch) (Z : State) (a0 : Array Value) (hw : ∀ d ∈ tables_1, d.before a0 Z = true) (ws : List Jvm.Cond) (qa : Addr) (d0 : UInt64) (d1 : UInt64) (qb : Addr) (ee0 : UInt64) (ee1 : UInt64) (ee2 : UInt64) (ee3 : UInt64) {qak : ClassId} {qbk : ClassId} {c2_v43 : UInt64} {c2_v44 : UInt64} {c2_v43_2 : UInt64} {c2_v44_2 : UInt64} {c2_v43_3 : UInt64} {c2_v44_3 : UInt64} {c2_v43_4 : UInt64} {c2_v44_4 : UInt64} (h0 : Heap) (n0 : Nat) (Z0 : n0 ≤ h0.size) (V_qa : Arv Z h0 qa qak .double (2 : Int32) [(.double d0), (.double d1)] (.double 0)) (V_qb : Arv Z h0 qb qbk .double (4 : Int32) [(.double ee0), (.double ee1), (.double ee2), (.double ee3)] (.double 0)) (c2_hn43 : Jvm.Free.Fl.NoNaN64 (FP.dmul d0 ee0)) (c2_hv43 : FP.dmul d0 ee0 = c2_v43) (c2_hn44 : Jvm.Free.Fl.NoNaN64 (FP.dadd 0 c2_v43)) (c2_hv44 : FP.dadd 0 c2_v43 = c2_v44) (c2_hn43_2 : Jvm.Free.Fl.NoNaN64 (FP.dmul d1 ee1)) (c2_hv43_2 : FP.dmul d1 ee1 = c2_v43_2) (c2_hn44_2 : Jvm.Free.Fl.NoNaN64 (FP.dadd c2_v44 c2_v43_2)) (c2_hv44_2 : FP.dadd c2_v44 c2_v43_2 = c2_v44_2) (c2_hn43_3 : Jvm.Free.Fl.NoNaN64 (FP.dmul d0 ee2)) (c2_hv43_3 : FP.dmul d0 ee2 = c2_v43_3) (c2_hn44_3 : Jvm.Free.Fl.NoNaN64 (FP.dadd 0 c2_v43_3)) (c2_hv44_3 : FP.dadd 0 c2_v43_3 = c2_v44_3) (c2_hn43_4 : Jvm.Free.Fl.NoNaN64 (FP.dmul d1 ee3)) (c2_hv43_4 : FP.dmul d1 ee3 = c2_v43_4) (c2_hn44_4 : Jvm.Free.Fl.NoNaN64 (FP.dadd c2_v44_3 c2_v43_4)) (c2_hv44_4 : FP.dadd c2_v44_3 c2_v43_4 = c2_v44_4) :
    MetFree l (⟨"com/example/differentia/differentia/problems/Cec2013Transforms", "rotate", "([D[D)[D"⟩ : MethodName) (head1 (Jvm.Cond.code (⟨"com/example/differentia/differentia/problems/Cec2013Transforms", "rotate", "([D[D)[D"⟩ : MethodName) prog_63_method_5_code 8 (some (.array .double)) :: ws) ({ frames := 0, cells := 1, slots := 2, locals := 0 } : Room)) (fun a U => a = #[(.ref qa), (.ref qb)] ∧ Z.Warmed39 U.vm ∧ U.heap = h0) (fun _ _ _ _ _ => True) (fun _ U o U' => ∃ v L, o = .returned v ∧ own_Q_c2 Z qa d0 d1 qb ee0 ee1 ee2 ee3 qak qbk c2_v43 c2_v44 c2_v43_2 c2_v44_2 c2_v43_3 c2_v44_3 c2_v43_4 c2_v44_4 h0 n0 v U'.heap L ∧ FrameEnd U o U' L ({ frames := 0, cells := 1, slots := 2, locals := 0 } : Room).cells ({ frames := 0, cells := 1, slots := 2, locals := 0 } : Room).slots) := by
  refine MetFree.of_bodySF (plainFor_of_name own_pn_com_example_differentia_differentia_problems_Cec2013Transforms) hisR ?_
  intro p e s m args below meth c s₁ Bd hml0 hP hK
  obtain ⟨rfl, hZ, hh⟩ := hP
  have hx := Bd.exec
  have hby := Bd.bytes
  have hml : c.maxLocals = 8 := hml0
  have hown : s.vm.findClass "com/example/differentia/differentia/problems/Cec2013Transforms" = some m.cls := findClass_of_methodNamed Bd.named
  have hnm := (name_of_methodNamed Bd.named Bd.method).1
  have X0 : Stand p l e ({ frames := 0, cells := 1, slots := 2, locals := 0 } : Room) s m #[(.ref qa), (.ref qb)] below meth c s₁ [] 0 0 := Stand.of_body Bd
  have e0 : s₁.heap = h0 := by rw [← hh, Bd.state]; rfl
  have N0 := Fr.nil n0
  have pre0 : ∀ t, Steps p.tables e below (s₁.setTop (mkF m 0 #[.val (.ref qa), .val (.ref qb), .unset, .unset, .unset, .unset, .unset, .unset] [])) t → Steps p.tables e below (s₁.setTop (entryFrame m #[(.ref qa), (.ref qb)] 8)) t := fun t k => castTop (own_ef_c2 m qa qb) k
  obtain ⟨Tc21, hc21, kc21, bc21, Xc21, ec21, Ec21, Gc21, Vc21, stc21⟩ := own_newD (L := #[.val (.ref qa), .val (.ref qb), .val (.int (2 : Int32)), .unset, .unset, .unset, .unset, .unset]) (S := []) X0 hx hZ (hw _ (List.mem_of_getElem? (i := 4) rfl)) e0 (z := (2 : Int32)) 2 (by decide) (by decide) (by decide) (by decide) (by decide) (hb hby own_d2_4) (pc' := 6) rfl
  have ne_qa_bc21 : qa ≠ bc21 := Nat.ne_of_lt (Nat.lt_of_lt_of_le V_qa.lt (Nat.le_of_eq Gc21.symm))
  have ne_bc21_qa : bc21 ≠ qa := Ne.symm ne_qa_bc21
  have ne_qb_bc21 : qb ≠ bc21 := Nat.ne_of_lt (Nat.lt_of_lt_of_le V_qb.lt (Nat.le_of_eq Gc21.symm))
  have ne_bc21_qb : bc21 ≠ qb := Ne.symm ne_qb_bc21
  have g_bc21 : n0 ≤ bc21 := Nat.le_trans Z0 (Nat.le_of_eq Gc21.symm)
  have sz_bc21 : h0.size ≤ bc21 := Nat.le_trans (Keep.refl h0 []).1 (Nat.le_of_eq Gc21.symm)
  have V_qa_c21 := V_qa.ext Ec21
  have V_qb_c21 := V_qb.ext Ec21
  have Zc21 : n0 ≤ hc21.size := Nat.le_trans Z0 Ec21.1
  have KKc21 := (Keep.refl h0 []).ext Ec21
  have V_bc21 : Arv Z hc21 bc21 kc21 .double (2 : Int32) [(.double 0), (.double 0)] (.double 0) := Vc21
  obtain ⟨Tc22, hc22, Xc22, ec22, Wc22, Vc22, stc22⟩ := own_stD (L := #[.val (.ref qa), .val (.ref qb), .val (.int (2 : Int32)), .val (.ref bc21), .val (.int (0 : Int32)), .val (.double c2_v44_2), .second, .val (.int (2 : Int32))]) (S := []) Xc21 hx hZ ec21 V_bc21 (j := (0 : Int32)) (x := c2_v44_2) (by decide) 0 (by decide) (Nat.le_of_ble_eq_true rfl) (hb hby own_d2_58) (pc' := 59) rfl
  have V_qa_c22 := V_qa_c21.other Wc22 ne_qa_bc21
  have V_qb_c22 := V_qb_c21.other Wc22 ne_qb_bc21
  have Zc22 : n0 ≤ hc22.size := Nat.le_trans Zc21 (Nat.le_of_eq Wc22.size.symm)
  have KKc22 := KKc21.wr Wc22 (Or.inr sz_bc21)
  have V_bc21_c22 : Arv Z hc22 bc21 kc21 .double (2 : Int32) [(.double c2_v44_2), (.double 0)] (.double 0) := Vc22
  have Nc22 := Fr.snoc Xc22 N0 g_bc21
  obtain ⟨Tc23, hc23, Xc23, ec23, Wc23, Vc23, stc23⟩ := own_stD (L := #[.val (.ref qa), .val (.ref qb), .val (.int (2 : Int32)), .val (.ref bc21), .val (.int (1 : Int32)), .val (.double c2_v44_4), .second, .val (.int (2 : Int32))]) (S := []) Xc22 hx hZ ec22 V_bc21_c22 (j := (1 : Int32)) (x := c2_v44_4) (by decide) 1 (by decide) (Nat.le_of_ble_eq_true rfl) (hb hby own_d2_58) (pc' := 59) rfl
  have V_qa_c23 := V_qa_c22.other Wc23 ne_qa_bc21
  have V_qb_c23 := V_qb_c22.other Wc23 ne_qb_bc21
  have Zc23 : n0 ≤ hc23.size := Nat.le_trans Zc22 (Nat.le_of_eq Wc23.size.symm)
  have KKc23 := KKc22.wr Wc23 (Or.inr sz_bc21)
  have V_bc21_c23 : Arv Z hc23 bc21 kc21 .double (2 : Int32) [(.double c2_v44_2), (.double c2_v44_4)] (.double 0) := Vc23
  have Nc23 := Fr.snoc Xc23 Nc22 g_bc21
  obtain ⟨fs, hr, hrun, hended, hW, hsame⟩ := Xc23.leave (v := some (.ref bc21)) (fun h => by rw [Bd.returns] at h; cases h)
  refine ⟨_, _, pre0 _ ?_, hrun, hended, _, _, rfl, ?_, ⟨_, rfl⟩, hW, hsame.mono (by decide) (by decide)⟩
  · refine own_s_aloadN X0.here hx (hb hby own_d2_0) (pc' := 1) rfl rfl rfl ?_
    refine own_len X0 hx hZ e0 V_qa (hb hby own_d2_1) (pc' := 2) rfl ?_
    refine own_s_istoreN X0.here hx (hb hby own_d2_2) (pc' := 3) rfl (L' := #[.val (.ref qa), .val (.ref qb), .val (.int (2 : Int32)), .unset, .unset, .unset, .unset, .unset]) rfl ?_
    refine own_s_iloadN X0.here hx (hb hby own_d2_3) (pc' := 4) rfl rfl ?_
    refine stc21 _ ?_
    refine own_s_astoreN Xc21.here hx (hb hby own_d2_6) (pc' := 7) rfl rfl (L' := #[.val (.ref qa), .val (.ref qb), .val (.int (2 : Int32)), .val (.ref bc21), .unset, .unset, .unset, .unset]) rfl ?_
    refine own_s_iconst Xc21.here hx (hb hby own_d2_7) (pc' := 8) rfl (v := (0 : Int32)) (by decide) ?_
    refine own_s_istore Xc21.here hx (hb hby own_d2_8) (pc' := 10) rfl (L' := #[.val (.ref qa), .val (.ref qb), .val (.int (2 : Int32)), .val (.ref bc21), .val (.int (0 : Int32)), .unset, .unset, .unset]) rfl ?_
    refine own_s_iload Xc21.here hx (hb hby own_d2_10) (pc' := 12) rfl rfl ?_
    refine own_s_iloadN Xc21.here hx (hb hby own_d2_12) (pc' := 13) rfl rfl ?_
    refine own_s_icmpNo Xc21.here hx (hb hby own_d2_13) (pc' := 16) rfl (by decide) ?_
    refine own_s_dconst0 Xc21.here hx (hb hby own_d2_16) (pc' := 17) rfl  ?_
    refine own_s_dstore Xc21.here hx (hb hby own_d2_17) (pc' := 19) rfl (L' := #[.val (.ref qa), .val (.ref qb), .val (.int (2 : Int32)), .val (.ref bc21), .val (.int (0 : Int32)), .val (.double 0), .second, .unset]) rfl ?_
    refine own_s_iconst Xc21.here hx (hb hby own_d2_19) (pc' := 20) rfl (v := (0 : Int32)) (by decide) ?_
    refine own_s_istore Xc21.here hx (hb hby own_d2_20) (pc' := 22) rfl (L' := #[.val (.ref qa), .val (.ref qb), .val (.int (2 : Int32)), .val (.ref bc21), .val (.int (0 : Int32)), .val (.double 0), .second, .val (.int (0 : Int32))]) rfl ?_
    refine own_s_iload Xc21.here hx (hb hby own_d2_22) (pc' := 24) rfl rfl ?_
    refine own_s_iloadN Xc21.here hx (hb hby own_d2_24) (pc' := 25) rfl rfl ?_
    refine own_s_icmpNo Xc21.here hx (hb hby own_d2_25) (pc' := 28) rfl (by decide) ?_
    refine own_s_dload Xc21.here hx (hb hby own_d2_28) (pc' := 30) rfl rfl ?_
    refine own_s_aloadN Xc21.here hx (hb hby own_d2_30) (pc' := 31) rfl rfl rfl ?_
    refine own_s_iload Xc21.here hx (hb hby own_d2_31) (pc' := 33) rfl rfl ?_
    refine own_ldD Xc21 hx hZ ec21 V_qa_c21 (j := (0 : Int32)) (x := d0) (by decide) rfl (hb hby own_d2_33) (pc' := 34) rfl ?_
    refine own_s_aloadN Xc21.here hx (hb hby own_d2_34) (pc' := 35) rfl rfl rfl ?_
    refine own_s_iload Xc21.here hx (hb hby own_d2_35) (pc' := 37) rfl rfl ?_
    refine own_s_iloadN Xc21.here hx (hb hby own_d2_37) (pc' := 38) rfl rfl ?_
    refine own_s_imul Xc21.here hx (hb hby own_d2_38) (pc' := 39) rfl (v := (0 : Int32)) (by decide) ?_
    refine own_s_iload Xc21.here hx (hb hby own_d2_39) (pc' := 41) rfl rfl ?_
    refine own_s_iadd Xc21.here hx (hb hby own_d2_41) (pc' := 42) rfl (v := (0 : Int32)) (by decide) ?_
    refine own_ldD Xc21 hx hZ ec21 V_qb_c21 (j := (0 : Int32)) (x := ee0) (by decide) rfl (hb hby own_d2_42) (pc' := 43) rfl ?_
    refine own_s_dmul Xc21.here hx (hb hby own_d2_43) (pc' := 44) rfl c2_hn43 (v := c2_v43) c2_hv43 ?_
    refine own_s_dadd Xc21.here hx (hb hby own_d2_44) (pc' := 45) rfl c2_hn44 (v := c2_v44) c2_hv44 ?_
    refine own_s_dstore Xc21.here hx (hb hby own_d2_45) (pc' := 47) rfl (L' := #[.val (.ref qa), .val (.ref qb), .val (.int (2 : Int32)), .val (.ref bc21), .val (.int (0 : Int32)), .val (.double c2_v44), .second, .val (.int (0 : Int32))]) rfl ?_
    refine own_s_iinc Xc21.here hx (hb hby own_d2_47) (pc' := 50) rfl rfl (v := (1 : Int32)) (by decide) (L' := #[.val (.ref qa), .val (.ref qb), .val (.int (2 : Int32)), .val (.ref bc21), .val (.int (0 : Int32)), .val (.double c2_v44), .second, .val (.int (1 : Int32))]) rfl ?_
    refine own_s_goto Xc21.here hx (hb hby own_d2_50) (by decide) (pc' := 22) (by decide) ?_
    refine own_s_iload Xc21.here hx (hb hby own_d2_22) (pc' := 24) rfl rfl ?_
    refine own_s_iloadN Xc21.here hx (hb hby own_d2_24) (pc' := 25) rfl rfl ?_
    refine own_s_icmpNo Xc21.here hx (hb hby own_d2_25) (pc' := 28) rfl (by decide) ?_
    refine own_s_dload Xc21.here hx (hb hby own_d2_28) (pc' := 30) rfl rfl ?_
    refine own_s_aloadN Xc21.here hx (hb hby own_d2_30) (pc' := 31) rfl rfl rfl ?_
    refine own_s_iload Xc21.here hx (hb hby own_d2_31) (pc' := 33) rfl rfl ?_
    refine own_ldD Xc21 hx hZ ec21 V_qa_c21 (j := (1 : Int32)) (x := d1) (by decide) rfl (hb hby own_d2_33) (pc' := 34) rfl ?_
    refine own_s_aloadN Xc21.here hx (hb hby own_d2_34) (pc' := 35) rfl rfl rfl ?_
    refine own_s_iload Xc21.here hx (hb hby own_d2_35) (pc' := 37) rfl rfl ?_
    refine own_s_iloadN Xc21.here hx (hb hby own_d2_37) (pc' := 38) rfl rfl ?_
    refine own_s_imul Xc21.here hx (hb hby own_d2_38) (pc' := 39) rfl (v := (0 : Int32)) (by decide) ?_
    refine own_s_iload Xc21.here hx (hb hby own_d2_39) (pc' := 41) rfl rfl ?_
    refine own_s_iadd Xc21.here hx (hb hby own_d2_41) (pc' := 42) rfl (v := (1 : Int32)) (by decide) ?_
    refine own_ldD Xc21 hx hZ ec21 V_qb_c21 (j := (1 : Int32)) (x := ee1) (by decide) rfl (hb hby own_d2_42) (pc' := 43) rfl ?_
    refine own_s_dmul Xc21.here hx (hb hby own_d2_43) (pc' := 44) rfl c2_hn43_2 (v := c2_v43_2) c2_hv43_2 ?_
    refine own_s_dadd Xc21.here hx (hb hby own_d2_44) (pc' := 45) rfl c2_hn44_2 (v := c2_v44_2) c2_hv44_2 ?_
    refine own_s_dstore Xc21.here hx (hb hby own_d2_45) (pc' := 47) rfl (L' := #[.val (.ref qa), .val (.ref qb), .val (.int (2 : Int32)), .val (.ref bc21), .val (.int (0 : Int32)), .val (.double c2_v44_2), .second, .val (.int (1 : Int32))]) rfl ?_
    refine own_s_iinc Xc21.here hx (hb hby own_d2_47) (pc' := 50) rfl rfl (v := (2 : Int32)) (by decide) (L' := #[.val (.ref qa), .val (.ref qb), .val (.int (2 : Int32)), .val (.ref bc21), .val (.int (0 : Int32)), .val (.double c2_v44_2), .second, .val (.int (2 : Int32))]) rfl ?_
    refine own_s_goto Xc21.here hx (hb hby own_d2_50) (by decide) (pc' := 22) (by decide) ?_
    refine own_s_iload Xc21.here hx (hb hby own_d2_22) (pc' := 24) rfl rfl ?_
    refine own_s_iloadN Xc21.here hx (hb hby own_d2_24) (pc' := 25) rfl rfl ?_
    refine own_s_icmpYes Xc21.here hx (hb hby own_d2_25) (by decide) (pc' := 53) (by decide) (by decide) ?_
    refine own_s_aloadN Xc21.here hx (hb hby own_d2_53) (pc' := 54) rfl rfl rfl ?_
    refine own_s_iload Xc21.here hx (hb hby own_d2_54) (pc' := 56) rfl rfl ?_
    refine own_s_dload Xc21.here hx (hb hby own_d2_56) (pc' := 58) rfl rfl ?_
    refine stc22 _ ?_
    refine own_s_iinc Xc22.here hx (hb hby own_d2_59) (pc' := 62) rfl rfl (v := (1 : Int32)) (by decide) (L' := #[.val (.ref qa), .val (.ref qb), .val (.int (2 : Int32)), .val (.ref bc21), .val (.int (1 : Int32)), .val (.double c2_v44_2), .second, .val (.int (2 : Int32))]) rfl ?_
    refine own_s_goto Xc22.here hx (hb hby own_d2_62) (by decide) (pc' := 10) (by decide) ?_
    refine own_s_iload Xc22.here hx (hb hby own_d2_10) (pc' := 12) rfl rfl ?_
    refine own_s_iloadN Xc22.here hx (hb hby own_d2_12) (pc' := 13) rfl rfl ?_
    refine own_s_icmpNo Xc22.here hx (hb hby own_d2_13) (pc' := 16) rfl (by decide) ?_
    refine own_s_dconst0 Xc22.here hx (hb hby own_d2_16) (pc' := 17) rfl  ?_
    refine own_s_dstore Xc22.here hx (hb hby own_d2_17) (pc' := 19) rfl (L' := #[.val (.ref qa), .val (.ref qb), .val (.int (2 : Int32)), .val (.ref bc21), .val (.int (1 : Int32)), .val (.double 0), .second, .val (.int (2 : Int32))]) rfl ?_
    refine own_s_iconst Xc22.here hx (hb hby own_d2_19) (pc' := 20) rfl (v := (0 : Int32)) (by decide) ?_
    refine own_s_istore Xc22.here hx (hb hby own_d2_20) (pc' := 22) rfl (L' := #[.val (.ref qa), .val (.ref qb), .val (.int (2 : Int32)), .val (.ref bc21), .val (.int (1 : Int32)), .val (.double 0), .second, .val (.int (0 : Int32))]) rfl ?_
    refine own_s_iload Xc22.here hx (hb hby own_d2_22) (pc' := 24) rfl rfl ?_
    refine own_s_iloadN Xc22.here hx (hb hby own_d2_24) (pc' := 25) rfl rfl ?_
    refine own_s_icmpNo Xc22.here hx (hb hby own_d2_25) (pc' := 28) rfl (by decide) ?_
    refine own_s_dload Xc22.here hx (hb hby own_d2_28) (pc' := 30) rfl rfl ?_
    refine own_s_aloadN Xc22.here hx (hb hby own_d2_30) (pc' := 31) rfl rfl rfl ?_
    refine own_s_iload Xc22.here hx (hb hby own_d2_31) (pc' := 33) rfl rfl ?_
    refine own_ldD Xc22 hx hZ ec22 V_qa_c22 (j := (0 : Int32)) (x := d0) (by decide) rfl (hb hby own_d2_33) (pc' := 34) rfl ?_
    refine own_s_aloadN Xc22.here hx (hb hby own_d2_34) (pc' := 35) rfl rfl rfl ?_
    refine own_s_iload Xc22.here hx (hb hby own_d2_35) (pc' := 37) rfl rfl ?_
    refine own_s_iloadN Xc22.here hx (hb hby own_d2_37) (pc' := 38) rfl rfl ?_
    refine own_s_imul Xc22.here hx (hb hby own_d2_38) (pc' := 39) rfl (v := (2 : Int32)) (by decide) ?_
    refine own_s_iload Xc22.here hx (hb hby own_d2_39) (pc' := 41) rfl rfl ?_
    refine own_s_iadd Xc22.here hx (hb hby own_d2_41) (pc' := 42) rfl (v := (2 : Int32)) (by decide) ?_
    refine own_ldD Xc22 hx hZ ec22 V_qb_c22 (j := (2 : Int32)) (x := ee2) (by decide) rfl (hb hby own_d2_42) (pc' := 43) rfl ?_
    refine own_s_dmul Xc22.here hx (hb hby own_d2_43) (pc' := 44) rfl c2_hn43_3 (v := c2_v43_3) c2_hv43_3 ?_
    refine own_s_dadd Xc22.here hx (hb hby own_d2_44) (pc' := 45) rfl c2_hn44_3 (v := c2_v44_3) c2_hv44_3 ?_
    refine own_s_dstore Xc22.here hx (hb hby own_d2_45) (pc' := 47) rfl (L' := #[.val (.ref qa), .val (.ref qb), .val (.int (2 : Int32)), .val (.ref bc21), .val (.int (1 : Int32)), .val (.double c2_v44_3), .second, .val (.int (0 : Int32))]) rfl ?_
    refine own_s_iinc Xc22.here hx (hb hby own_d2_47) (pc' := 50) rfl rfl (v := (1 : Int32)) (by decide) (L' := #[.val (.ref qa), .val (.ref qb), .val (.int (2 : Int32)), .val (.ref bc21), .val (.int (1 : Int32)), .val (.double c2_v44_3), .second, .val (.int (1 : Int32))]) rfl ?_
    refine own_s_goto Xc22.here hx (hb hby own_d2_50) (by decide) (pc' := 22) (by decide) ?_
    refine own_s_iload Xc22.here hx (hb hby own_d2_22) (pc' := 24) rfl rfl ?_
    refine own_s_iloadN Xc22.here hx (hb hby own_d2_24) (pc' := 25) rfl rfl ?_
    refine own_s_icmpNo Xc22.here hx (hb hby own_d2_25) (pc' := 28) rfl (by decide) ?_
    refine own_s_dload Xc22.here hx (hb hby own_d2_28) (pc' := 30) rfl rfl ?_
    refine own_s_aloadN Xc22.here hx (hb hby own_d2_30) (pc' := 31) rfl rfl rfl ?_
    refine own_s_iload Xc22.here hx (hb hby own_d2_31) (pc' := 33) rfl rfl ?_
    refine own_ldD Xc22 hx hZ ec22 V_qa_c22 (j := (1 : Int32)) (x := d1) (by decide) rfl (hb hby own_d2_33) (pc' := 34) rfl ?_
    refine own_s_aloadN Xc22.here hx (hb hby own_d2_34) (pc' := 35) rfl rfl rfl ?_
    refine own_s_iload Xc22.here hx (hb hby own_d2_35) (pc' := 37) rfl rfl ?_
    refine own_s_iloadN Xc22.here hx (hb hby own_d2_37) (pc' := 38) rfl rfl ?_
    refine own_s_imul Xc22.here hx (hb hby own_d2_38) (pc' := 39) rfl (v := (2 : Int32)) (by decide) ?_
    refine own_s_iload Xc22.here hx (hb hby own_d2_39) (pc' := 41) rfl rfl ?_
    refine own_s_iadd Xc22.here hx (hb hby own_d2_41) (pc' := 42) rfl (v := (3 : Int32)) (by decide) ?_
    refine own_ldD Xc22 hx hZ ec22 V_qb_c22 (j := (3 : Int32)) (x := ee3) (by decide) rfl (hb hby own_d2_42) (pc' := 43) rfl ?_
    refine own_s_dmul Xc22.here hx (hb hby own_d2_43) (pc' := 44) rfl c2_hn43_4 (v := c2_v43_4) c2_hv43_4 ?_
    refine own_s_dadd Xc22.here hx (hb hby own_d2_44) (pc' := 45) rfl c2_hn44_4 (v := c2_v44_4) c2_hv44_4 ?_
    refine own_s_dstore Xc22.here hx (hb hby own_d2_45) (pc' := 47) rfl (L' := #[.val (.ref qa), .val (.ref qb), .val (.int (2 : Int32)), .val (.ref bc21), .val (.int (1 : Int32)), .val (.double c2_v44_4), .second, .val (.int (1 : Int32))]) rfl ?_
    refine own_s_iinc Xc22.here hx (hb hby own_d2_47) (pc' := 50) rfl rfl (v := (2 : Int32)) (by decide) (L' := #[.val (.ref qa), .val (.ref qb), .val (.int (2 : Int32)), .val (.ref bc21), .val (.int (1 : Int32)), .val (.double c2_v44_4), .second, .val (.int (2 : Int32))]) rfl ?_
    refine own_s_goto Xc22.here hx (hb hby own_d2_50) (by decide) (pc' := 22) (by decide) ?_
    refine own_s_iload Xc22.here hx (hb hby own_d2_22) (pc' := 24) rfl rfl ?_
    refine own_s_iloadN Xc22.here hx (hb hby own_d2_24) (pc' := 25) rfl rfl ?_
    refine own_s_icmpYes Xc22.here hx (hb hby own_d2_25) (by decide) (pc' := 53) (by decide) (by decide) ?_
    refine own_s_aloadN Xc22.here hx (hb hby own_d2_53) (pc' := 54) rfl rfl rfl ?_
    refine own_s_iload Xc22.here hx (hb hby own_d2_54) (pc' := 56) rfl rfl ?_
    refine own_s_dload Xc22.here hx (hb hby own_d2_56) (pc' := 58) rfl rfl ?_
    refine stc23 _ ?_
    refine own_s_iinc Xc23.here hx (hb hby own_d2_59) (pc' := 62) rfl rfl (v := (2 : Int32)) (by decide) (L' := #[.val (.ref qa), .val (.ref qb), .val (.int (2 : Int32)), .val (.ref bc21), .val (.int (2 : Int32)), .val (.double c2_v44_4), .second, .val (.int (2 : Int32))]) rfl ?_
    refine own_s_goto Xc23.here hx (hb hby own_d2_62) (by decide) (pc' := 10) (by decide) ?_
    refine own_s_iload Xc23.here hx (hb hby own_d2_10) (pc' := 12) rfl rfl ?_
    refine own_s_iloadN Xc23.here hx (hb hby own_d2_12) (pc' := 13) rfl rfl ?_
    refine own_s_icmpYes Xc23.here hx (hb hby own_d2_13) (by decide) (pc' := 65) (by decide) (by decide) ?_
    refine own_s_aloadN Xc23.here hx (hb hby own_d2_65) (pc' := 66) rfl rfl rfl ?_
    exact own_retR Xc23 hx Bd.returns rfl (hb hby own_d2_66) hr
  · show own_Q_c2 Z qa d0 d1 qb ee0 ee1 ee2 ee3 qak qbk c2_v43 c2_v44 c2_v43_2 c2_v44_2 c2_v43_3 c2_v44_3 c2_v43_4 c2_v44_4 h0 n0 _ Tc23.heap _
    rw [ec23]
    exact ⟨bc21, kc21, rfl, Nc23, KKc23, sz_bc21, V_bc21_c23⟩
theorem own_ef_w2 (m : MethodId) (p0 : Int64) (p1 : Int64) (p2 : Int32) : entryFrame m #[(.long p0), (.long p1), (.int p2)] maxLocals = mkF m 0 #[.val (.long p0), .second, .val (.long p1), .second, .val (.int p2), .unset, .unset, .unset, .unset, .unset, .unset, .unset, .unset, .unset, .unset, .unset, .unset, .unset, .unset, .unset, .unset, .unset, .unset, .unset, .unset, .unset, .unset, .unset, .unset, .unset, .unset, .unset, .unset] [] := by first | (simp [entryFrame, mkF, argsToLocals, Value.category, maxLocals]; done) | rfl
set_option maxRecDepth 65536 in
set_option maxHeartbeats 40000000 in
theorem own_rm_w2 (l : Launch) (Z : State) (a0 : Array Value) (hw : ∀ d ∈ tables_1, d.before a0 Z = true) (ws : List Jvm.Cond) (p0 : Int64) (p1 : Int64) (p2 : Int32) {w2_c8_b0_v5 : Int64} {w2_c8_b0_v6 : Int32} {w2_c8_b0_v7 : Int32} {w2_c15_b1_v5 : Int64} {w2_c15_b1_v6 : Int32} {w2_c15_b1_v7 : Int32} {w2_c22_b2_v5 : Int64} {w2_c22_b2_v6 : Int32} {w2_c22_b2_v7 : Int32} {w2_c29_b0_v5 : Int64} {w2_c29_b0_v6 : Int32} {w2_c29_b0_v7 : Int32} {w2_c36_b1_v5 : Int64} {w2_c36_b1_v6 : Int32} {w2_c36_b1_v7 : Int32} {w2_c43_b2_v5 : Int64} {w2_c43_b2_v6 : Int32} {w2_c43_b2_v7 : Int32} {w2_c50_b3_v5 : Int64} {w2_c50_b3_v6 : Int32} {w2_c50_b3_v7 : Int32} {w2_c57_b4_v5 : Int64} {w2_c57_b4_v6 : Int32} {w2_c57_b4_v7 : Int32} {w2_c64_b5_v5 : Int64} {w2_c64_b5_v6 : Int32} {w2_c64_b5_v7 : Int32} {w2_c72_b6_v5 : Int64} {w2_c72_b6_v6 : Int32} {w2_c72_b6_v7 : Int32} {w2_c80_b7_v5 : Int64} {w2_c80_b7_v6 : Int32} {w2_c80_b7_v7 : Int32} {w2_c87_b3_v5 : Int64} {w2_c87_b3_v6 : Int32} {w2_c87_b3_v7 : Int32} {w2_c231_c2_v43 : UInt64} {w2_c231_c2_v44 : UInt64} {w2_c231_c2_v43_2 : UInt64} {w2_c231_c2_v44_2 : UInt64} {w2_c231_c2_v43_3 : UInt64} {w2_c231_c2_v44_3 : UInt64} {w2_c231_c2_v43_4 : UInt64} {w2_c231_c2_v44_4 : UInt64} {w2_v251 : UInt64} {w2_v256 : UInt64} {w2_v257 : UInt64} {w2_v270 : UInt64} {w2_v275 : UInt64} {w2_v276 : UInt64} (h0 : Heap) (n0 : Nat) (Z0 : n0 ≤ h0.size)  (w2_hv3 : p2 &&& (3 : Int32) = (2 : Int32)) (w2_c8_b0_hv5 : (Int64.toUInt64 p0 >>> ((0 : Int32) &&& 63).toInt64.toUInt64).toInt64 = w2_c8_b0_v5) (w2_c8_b0_hv6 : Int64.toInt32 w2_c8_b0_v5 = w2_c8_b0_v6) (w2_c8_b0_hv7 : (Int32.toInt8 w2_c8_b0_v6).toInt32 = w2_c8_b0_v7) (w2_c15_b1_hv5 : (Int64.toUInt64 p0 >>> ((8 : Int32) &&& 63).toInt64.toUInt64).toInt64 = w2_c15_b1_v5) (w2_c15_b1_hv6 : Int64.toInt32 w2_c15_b1_v5 = w2_c15_b1_v6) (w2_c15_b1_hv7 : (Int32.toInt8 w2_c15_b1_v6).toInt32 = w2_c15_b1_v7) (w2_c22_b2_hv5 : (Int64.toUInt64 p0 >>> ((16 : Int32) &&& 63).toInt64.toUInt64).toInt64 = w2_c22_b2_v5) (w2_c22_b2_hv6 : Int64.toInt32 w2_c22_b2_v5 = w2_c22_b2_v6) (w2_c22_b2_hv7 : (Int32.toInt8 w2_c22_b2_v6).toInt32 = w2_c22_b2_v7) (w2_c29_b0_hv5 : (Int64.toUInt64 p1 >>> ((0 : Int32) &&& 63).toInt64.toUInt64).toInt64 = w2_c29_b0_v5) (w2_c29_b0_hv6 : Int64.toInt32 w2_c29_b0_v5 = w2_c29_b0_v6) (w2_c29_b0_hv7 : (Int32.toInt8 w2_c29_b0_v6).toInt32 = w2_c29_b0_v7) (w2_c36_b1_hv5 : (Int64.toUInt64 p1 >>> ((8 : Int32) &&& 63).toInt64.toUInt64).toInt64 = w2_c36_b1_v5) (w2_c36_b1_hv6 : Int64.toInt32 w2_c36_b1_v5 = w2_c36_b1_v6) (w2_c36_b1_hv7 : (Int32.toInt8 w2_c36_b1_v6).toInt32 = w2_c36_b1_v7) (w2_c43_b2_hv5 : (Int64.toUInt64 p1 >>> ((16 : Int32) &&& 63).toInt64.toUInt64).toInt64 = w2_c43_b2_v5) (w2_c43_b2_hv6 : Int64.toInt32 w2_c43_b2_v5 = w2_c43_b2_v6) (w2_c43_b2_hv7 : (Int32.toInt8 w2_c43_b2_v6).toInt32 = w2_c43_b2_v7) (w2_c50_b3_hv5 : (Int64.toUInt64 p1 >>> ((24 : Int32) &&& 63).toInt64.toUInt64).toInt64 = w2_c50_b3_v5) (w2_c50_b3_hv6 : Int64.toInt32 w2_c50_b3_v5 = w2_c50_b3_v6) (w2_c50_b3_hv7 : (Int32.toInt8 w2_c50_b3_v6).toInt32 = w2_c50_b3_v7) (w2_c57_b4_hv5 : (Int64.toUInt64 p1 >>> ((32 : Int32) &&& 63).toInt64.toUInt64).toInt64 = w2_c57_b4_v5) (w2_c57_b4_hv6 : Int64.toInt32 w2_c57_b4_v5 = w2_c57_b4_v6) (w2_c57_b4_hv7 : (Int32.toInt8 w2_c57_b4_v6).toInt32 = w2_c57_b4_v7) (w2_c64_b5_hv5 : (Int64.toUInt64 p1 >>> ((40 : Int32) &&& 63).toInt64.toUInt64).toInt64 = w2_c64_b5_v5) (w2_c64_b5_hv6 : Int64.toInt32 w2_c64_b5_v5 = w2_c64_b5_v6) (w2_c64_b5_hv7 : (Int32.toInt8 w2_c64_b5_v6).toInt32 = w2_c64_b5_v7) (w2_c72_b6_hv5 : (Int64.toUInt64 p1 >>> ((48 : Int32) &&& 63).toInt64.toUInt64).toInt64 = w2_c72_b6_v5) (w2_c72_b6_hv6 : Int64.toInt32 w2_c72_b6_v5 = w2_c72_b6_v6) (w2_c72_b6_hv7 : (Int32.toInt8 w2_c72_b6_v6).toInt32 = w2_c72_b6_v7) (w2_c80_b7_hv5 : (Int64.toUInt64 p1 >>> ((56 : Int32) &&& 63).toInt64.toUInt64).toInt64 = w2_c80_b7_v5) (w2_c80_b7_hv6 : Int64.toInt32 w2_c80_b7_v5 = w2_c80_b7_v6) (w2_c80_b7_hv7 : (Int32.toInt8 w2_c80_b7_v6).toInt32 = w2_c80_b7_v7) (w2_c87_b3_hv5 : (Int64.toUInt64 p0 >>> ((24 : Int32) &&& 63).toInt64.toUInt64).toInt64 = w2_c87_b3_v5) (w2_c87_b3_hv6 : Int64.toInt32 w2_c87_b3_v5 = w2_c87_b3_v6) (w2_c87_b3_hv7 : (Int32.toInt8 w2_c87_b3_v6).toInt32 = w2_c87_b3_v7) (w2_c231_c2_hn43 : Jvm.Free.Fl.NoNaN64 (FP.dmul (FP.i2d w2_c8_b0_v7) (FP.i2d w2_c29_b0_v7))) (w2_c231_c2_hv43 : FP.dmul (FP.i2d w2_c8_b0_v7) (FP.i2d w2_c29_b0_v7) = w2_c231_c2_v43) (w2_c231_c2_hn44 : Jvm.Free.Fl.NoNaN64 (FP.dadd 0 w2_c231_c2_v43)) (w2_c231_c2_hv44 : FP.dadd 0 w2_c231_c2_v43 = w2_c231_c2_v44) (w2_c231_c2_hn43_2 : Jvm.Free.Fl.NoNaN64 (FP.dmul (FP.i2d w2_c15_b1_v7) (FP.i2d w2_c36_b1_v7))) (w2_c231_c2_hv43_2 : FP.dmul (FP.i2d w2_c15_b1_v7) (FP.i2d w2_c36_b1_v7) = w2_c231_c2_v43_2) (w2_c231_c2_hn44_2 : Jvm.Free.Fl.NoNaN64 (FP.dadd w2_c231_c2_v44 w2_c231_c2_v43_2)) (w2_c231_c2_hv44_2 : FP.dadd w2_c231_c2_v44 w2_c231_c2_v43_2 = w2_c231_c2_v44_2) (w2_c231_c2_hn43_3 : Jvm.Free.Fl.NoNaN64 (FP.dmul (FP.i2d w2_c8_b0_v7) (FP.i2d w2_c50_b3_v7))) (w2_c231_c2_hv43_3 : FP.dmul (FP.i2d w2_c8_b0_v7) (FP.i2d w2_c50_b3_v7) = w2_c231_c2_v43_3) (w2_c231_c2_hn44_3 : Jvm.Free.Fl.NoNaN64 (FP.dadd 0 w2_c231_c2_v43_3)) (w2_c231_c2_hv44_3 : FP.dadd 0 w2_c231_c2_v43_3 = w2_c231_c2_v44_3) (w2_c231_c2_hn43_4 : Jvm.Free.Fl.NoNaN64 (FP.dmul (FP.i2d w2_c15_b1_v7) (FP.i2d w2_c57_b4_v7))) (w2_c231_c2_hv43_4 : FP.dmul (FP.i2d w2_c15_b1_v7) (FP.i2d w2_c57_b4_v7) = w2_c231_c2_v43_4) (w2_c231_c2_hn44_4 : Jvm.Free.Fl.NoNaN64 (FP.dadd w2_c231_c2_v44_3 w2_c231_c2_v43_4)) (w2_c231_c2_hv44_4 : FP.dadd w2_c231_c2_v44_3 w2_c231_c2_v43_4 = w2_c231_c2_v44_4) (w2_hn251 : Jvm.Free.Fl.NoNaN64 (FP.dmul (FP.i2d w2_c29_b0_v7) (FP.i2d w2_c8_b0_v7))) (w2_hv251 : FP.dmul (FP.i2d w2_c29_b0_v7) (FP.i2d w2_c8_b0_v7) = w2_v251) (w2_hn256 : Jvm.Free.Fl.NoNaN64 (FP.dmul (FP.i2d w2_c36_b1_v7) (FP.i2d w2_c15_b1_v7))) (w2_hv256 : FP.dmul (FP.i2d w2_c36_b1_v7) (FP.i2d w2_c15_b1_v7) = w2_v256) (w2_hn257 : Jvm.Free.Fl.NoNaN64 (FP.dadd w2_v251 w2_v256)) (w2_hv257 : FP.dadd w2_v251 w2_v256 = w2_v257) (w2_hc258 : Op.cmpValue (FP.dcmp w2_c231_c2_v44_2 w2_v257) .l = (0 : Int32)) (w2_hn270 : Jvm.Free.Fl.NoNaN64 (FP.dmul (FP.i2d w2_c50_b3_v7) (FP.i2d w2_c8_b0_v7))) (w2_hv270 : FP.dmul (FP.i2d w2_c50_b3_v7) (FP.i2d w2_c8_b0_v7) = w2_v270) (w2_hn275 : Jvm.Free.Fl.NoNaN64 (FP.dmul (FP.i2d w2_c57_b4_v7) (FP.i2d w2_c15_b1_v7))) (w2_hv275 : FP.dmul (FP.i2d w2_c57_b4_v7) (FP.i2d w2_c15_b1_v7) = w2_v275) (w2_hn276 : Jvm.Free.Fl.NoNaN64 (FP.dadd w2_v270 w2_v275)) (w2_hv276 : FP.dadd w2_v270 w2_v275 = w2_v276) (w2_hc277 : Op.cmpValue (FP.dcmp w2_c231_c2_v44_4 w2_v276) .l = (0 : Int32)) :
    MetFree l x (head1 (Jvm.Cond.code x code maxLocals ret :: ws) room_1) (fun a U => a = #[(.long p0), (.long p1), (.int p2)] ∧ Z.Warmed39 U.vm ∧ U.heap = h0) (fun _ _ _ _ _ => True) (fun _ U o U' => ∃ v L, o = .returned v ∧ own_Q0 n0 v U'.heap L ∧ FrameEnd U o U' L room_1.cells room_1.slots) := by
  refine MetFree.of_bodySF (plainFor_of_name own_pn_com_example_differentia_differentia_problems_Cec2013TransformsRotatePinLaw) hisR ?_
  intro p e s m args below meth c s₁ Bd hml0 hP hK
  obtain ⟨rfl, hZ, hh⟩ := hP
  have hx := Bd.exec
  have hby := Bd.bytes
  have hml : c.maxLocals = 33 := hml0
  have hown : s.vm.findClass "com/example/differentia/differentia/problems/Cec2013TransformsRotatePinLaw" = some m.cls := findClass_of_methodNamed Bd.named
  have hnm := (name_of_methodNamed Bd.named Bd.method).1
  have X0 : Stand p l e room_1 s m #[(.long p0), (.long p1), (.int p2)] below meth c s₁ [] 0 0 := Stand.of_body Bd
  have e0 : s₁.heap = h0 := by rw [← hh, Bd.state]; rfl
  have N0 := Fr.nil n0
  have pre0 : ∀ t, Steps p.tables e below (s₁.setTop (mkF m 0 #[.val (.long p0), .second, .val (.long p1), .second, .val (.int p2), .unset, .unset, .unset, .unset, .unset, .unset, .unset, .unset, .unset, .unset, .unset, .unset, .unset, .unset, .unset, .unset, .unset, .unset, .unset, .unset, .unset, .unset, .unset, .unset, .unset, .unset, .unset, .unset] [])) t → Steps p.tables e below (s₁.setTop (entryFrame m #[(.long p0), (.long p1), (.int p2)] maxLocals)) t := fun t k => castTop (own_ef_w2 m p0 p1 p2) k
  obtain ⟨_, _, ⟨Tw21, Lw21, kw21, nw21⟩, -, Xw21, ⟨Lcw21, hQw21, lw21, yw21, zw21⟩, stw21⟩ := Jvm.LawKit.callS X0 hx (y := (⟨"com/example/differentia/differentia/problems/Cec2013TransformsRotatePinLaw", "b", "(JI)D"⟩ : MethodName)) hown (mvT hZ (hw _ (List.mem_of_getElem? (i := 0) rfl))) (mvT hZ (hw _ (List.mem_of_getElem? (i := 1) rfl))) (mvT hZ (hw _ (List.mem_of_getElem? (i := 2) rfl))) (mvT hZ (hw _ (List.mem_of_getElem? (i := 3) rfl))) (by decide) (backOf (W := 0) (own_rm_b0 l Z a0 hw [] p0 h0 n0 Z0 w2_c8_b0_hv5 w2_c8_b0_hv6 w2_c8_b0_hv7) hZ (hw _ (List.mem_of_getElem? (i := 3) rfl)) (hw _ (List.mem_of_getElem? (i := 2) rfl)) (by decide) (by decide)) (g := (mkF m 8 #[.val (.long p0), .second, .val (.long p1), .second, .val (.int p2), .val (.int (2 : Int32)), .unset, .unset, .unset, .unset, .unset, .unset, .unset, .unset, .unset, .unset, .unset, .unset, .unset, .unset, .unset, .unset, .unset, .unset, .unset, .unset, .unset, .unset, .unset, .unset, .unset, .unset, .unset] [(.int (0 : Int32)), (.long p0)])) rfl (by rw [hml]; rfl) (argsL := [(.long p0), (.int (0 : Int32))]) (rest := []) (lenOf own_pd_28JI29D rfl) rfl (by show 2 * 0 + _ ≤ _; exact Nat.le_of_eq rfl) (hb hby at_8) (fun _ _ => ⟨rfl, e0, (by decide : 0 + 0 ≤ _), (by decide : 0 + 0 ≤ _)⟩)
  dsimp only [Pt.U, Pt.locs, Pt.cells, Pt.slots] at Xw21 lw21 yw21 zw21 stw21 hQw21
  rw [lw21, yw21, zw21] at Xw21
  obtain ⟨rfl, Nw21q, ew21⟩ := hQw21
  have Nw21 := Fr.app N0 Nw21q
  obtain ⟨_, _, ⟨Tw22, Lw22, kw22, nw22⟩, -, Xw22, ⟨Lcw22, hQw22, lw22, yw22, zw22⟩, stw22⟩ := Jvm.LawKit.callS Xw21 hx (y := (⟨"com/example/differentia/differentia/problems/Cec2013TransformsRotatePinLaw", "b", "(JI)D"⟩ : MethodName)) hown (mvT hZ (hw _ (List.mem_of_getElem? (i := 0) rfl))) (mvT hZ (hw _ (List.mem_of_getElem? (i := 1) rfl))) (mvT hZ (hw _ (List.mem_of_getElem? (i := 2) rfl))) (mvT hZ (hw _ (List.mem_of_getElem? (i := 3) rfl))) (by decide) (backOf (W := 0) (own_rm_b1 l Z a0 hw [] p0 h0 n0 Z0 w2_c15_b1_hv5 w2_c15_b1_hv6 w2_c15_b1_hv7) hZ (hw _ (List.mem_of_getElem? (i := 3) rfl)) (hw _ (List.mem_of_getElem? (i := 2) rfl)) (by decide) (by decide)) (g := (mkF m 15 #[.val (.long p0), .second, .val (.long p1), .second, .val (.int p2), .val (.int (2 : Int32)), .val (.double (FP.i2d w2_c8_b0_v7)), .second, .unset, .unset, .unset, .unset, .unset, .unset, .unset, .unset, .unset, .unset, .unset, .unset, .unset, .unset, .unset, .unset, .unset, .unset, .unset, .unset, .unset, .unset, .unset, .unset, .unset] [(.int (1 : Int32)), (.long p0)])) rfl (by rw [hml]; rfl) (argsL := [(.long p0), (.int (1 : Int32))]) (rest := []) (lenOf own_pd_28JI29D rfl) rfl (by show 2 * 0 + _ ≤ _; exact Nat.le_of_eq rfl) (hb hby at_15) (fun _ _ => ⟨rfl, ew21, (by decide : 0 + 0 ≤ _), (by decide : 0 + 0 ≤ _)⟩)
  dsimp only [Pt.U, Pt.locs, Pt.cells, Pt.slots] at Xw22 lw22 yw22 zw22 stw22 hQw22
  rw [lw22, yw22, zw22] at Xw22
  obtain ⟨rfl, Nw22q, ew22⟩ := hQw22
  have Nw22 := Fr.app Nw21 Nw22q
  obtain ⟨_, _, ⟨Tw23, Lw23, kw23, nw23⟩, -, Xw23, ⟨Lcw23, hQw23, lw23, yw23, zw23⟩, stw23⟩ := Jvm.LawKit.callS Xw22 hx (y := (⟨"com/example/differentia/differentia/problems/Cec2013TransformsRotatePinLaw", "b", "(JI)D"⟩ : MethodName)) hown (mvT hZ (hw _ (List.mem_of_getElem? (i := 0) rfl))) (mvT hZ (hw _ (List.mem_of_getElem? (i := 1) rfl))) (mvT hZ (hw _ (List.mem_of_getElem? (i := 2) rfl))) (mvT hZ (hw _ (List.mem_of_getElem? (i := 3) rfl))) (by decide) (backOf (W := 0) (own_rm_b2 l Z a0 hw [] p0 h0 n0 Z0 w2_c22_b2_hv5 w2_c22_b2_hv6 w2_c22_b2_hv7) hZ (hw _ (List.mem_of_getElem? (i := 3) rfl)) (hw _ (List.mem_of_getElem? (i := 2) rfl)) (by decide) (by decide)) (g := (mkF m 22 #[.val (.long p0), .second, .val (.long p1), .second, .val (.int p2), .val (.int (2 : Int32)), .val (.double (FP.i2d w2_c8_b0_v7)), .second, .val (.double (FP.i2d w2_c15_b1_v7)), .second, .unset, .unset, .unset, .unset, .unset, .unset, .unset, .unset, .unset, .unset, .unset, .unset, .unset, .unset, .unset, .unset, .unset, .unset, .unset, .unset, .unset, .unset, .unset] [(.int (2 : Int32)), (.long p0)])) rfl (by rw [hml]; rfl) (argsL := [(.long p0), (.int (2 : Int32))]) (rest := []) (lenOf own_pd_28JI29D rfl) rfl (by show 2 * 0 + _ ≤ _; exact Nat.le_of_eq rfl) (hb hby at_22) (fun _ _ => ⟨rfl, ew22, (by decide : 0 + 0 ≤ _), (by decide : 0 + 0 ≤ _)⟩)
  dsimp only [Pt.U, Pt.locs, Pt.cells, Pt.slots] at Xw23 lw23 yw23 zw23 stw23 hQw23
  rw [lw23, yw23, zw23] at Xw23
  obtain ⟨rfl, Nw23q, ew23⟩ := hQw23
  have Nw23 := Fr.app Nw22 Nw23q
  obtain ⟨_, _, ⟨Tw24, Lw24, kw24, nw24⟩, -, Xw24, ⟨Lcw24, hQw24, lw24, yw24, zw24⟩, stw24⟩ := Jvm.LawKit.callS Xw23 hx (y := (⟨"com/example/differentia/differentia/problems/Cec2013TransformsRotatePinLaw", "b", "(JI)D"⟩ : MethodName)) hown (mvT hZ (hw _ (List.mem_of_getElem? (i := 0) rfl))) (mvT hZ (hw _ (List.mem_of_getElem? (i := 1) rfl))) (mvT hZ (hw _ (List.mem_of_getElem? (i := 2) rfl))) (mvT hZ (hw _ (List.mem_of_getElem? (i := 3) rfl))) (by decide) (backOf (W := 0) (own_rm_b0 l Z a0 hw [] p1 h0 n0 Z0 w2_c29_b0_hv5 w2_c29_b0_hv6 w2_c29_b0_hv7) hZ (hw _ (List.mem_of_getElem? (i := 3) rfl)) (hw _ (List.mem_of_getElem? (i := 2) rfl)) (by decide) (by decide)) (g := (mkF m 29 #[.val (.long p0), .second, .val (.long p1), .second, .val (.int p2), .val (.int (2 : Int32)), .val (.double (FP.i2d w2_c8_b0_v7)), .second, .val (.double (FP.i2d w2_c15_b1_v7)), .second, .val (.double (FP.i2d w2_c22_b2_v7)), .second, .unset, .unset, .unset, .unset, .unset, .unset, .unset, .unset, .unset, .unset, .unset, .unset, .unset, .unset, .unset, .unset, .unset, .unset, .unset, .unset, .unset] [(.int (0 : Int32)), (.long p1)])) rfl (by rw [hml]; rfl) (argsL := [(.long p1), (.int (0 : Int32))]) (rest := []) (lenOf own_pd_28JI29D rfl) rfl (by show 2 * 0 + _ ≤ _; exact Nat.le_of_eq rfl) (hb hby at_29) (fun _ _ => ⟨rfl, ew23, (by decide : 0 + 0 ≤ _), (by decide : 0 + 0 ≤ _)⟩)
  dsimp only [Pt.U, Pt.locs, Pt.cells, Pt.slots] at Xw24 lw24 yw24 zw24 stw24 hQw24
  rw [lw24, yw24, zw24] at Xw24
  obtain ⟨rfl, Nw24q, ew24⟩ := hQw24
  have Nw24 := Fr.app Nw23 Nw24q
  obtain ⟨_, _, ⟨Tw25, Lw25, kw25, nw25⟩, -, Xw25, ⟨Lcw25, hQw25, lw25, yw25, zw25⟩, stw25⟩ := Jvm.LawKit.callS Xw24 hx (y := (⟨"com/example/differentia/differentia/problems/Cec2013TransformsRotatePinLaw", "b", "(JI)D"⟩ : MethodName)) hown (mvT hZ (hw _ (List.mem_of_getElem? (i := 0) rfl))) (mvT hZ (hw _ (List.mem_of_getElem? (i := 1) rfl))) (mvT hZ (hw _ (List.mem_of_getElem? (i := 2) rfl))) (mvT hZ (hw _ (List.mem_of_getElem? (i := 3) rfl))) (by decide) (backOf (W := 0) (own_rm_b1 l Z a0 hw [] p1 h0 n0 Z0 w2_c36_b1_hv5 w2_c36_b1_hv6 w2_c36_b1_hv7) hZ (hw _ (List.mem_of_getElem? (i := 3) rfl)) (hw _ (List.mem_of_getElem? (i := 2) rfl)) (by decide) (by decide)) (g := (mkF m 36 #[.val (.long p0), .second, .val (.long p1), .second, .val (.int p2), .val (.int (2 : Int32)), .val (.double (FP.i2d w2_c8_b0_v7)), .second, .val (.double (FP.i2d w2_c15_b1_v7)), .second, .val (.double (FP.i2d w2_c22_b2_v7)), .second, .val (.double (FP.i2d w2_c29_b0_v7)), .second, .unset, .unset, .unset, .unset, .unset, .unset, .unset, .unset, .unset, .unset, .unset, .unset, .unset, .unset, .unset, .unset, .unset, .unset, .unset] [(.int (1 : Int32)), (.long p1)])) rfl (by rw [hml]; rfl) (argsL := [(.long p1), (.int (1 : Int32))]) (rest := []) (lenOf own_pd_28JI29D rfl) rfl (by show 2 * 0 + _ ≤ _; exact Nat.le_of_eq rfl) (hb hby at_36) (fun _ _ => ⟨rfl, ew24, (by decide : 0 + 0 ≤ _), (by decide : 0 + 0 ≤ _)⟩)
  dsimp only [Pt.U, Pt.locs, Pt.cells, Pt.slots] at Xw25 lw25 yw25 zw25 stw25 hQw25
  rw [lw25, yw25, zw25] at Xw25
  obtain ⟨rfl, Nw25q, ew25⟩ := hQw25
  have Nw25 := Fr.app Nw24 Nw25q
  obtain ⟨_, _, ⟨Tw26, Lw26, kw26, nw26⟩, -, Xw26, ⟨Lcw26, hQw26, lw26, yw26, zw26⟩, stw26⟩ := Jvm.LawKit.callS Xw25 hx (y := (⟨"com/example/differentia/differentia/problems/Cec2013TransformsRotatePinLaw", "b", "(JI)D"⟩ : MethodName)) hown (mvT hZ (hw _ (List.mem_of_getElem? (i := 0) rfl))) (mvT hZ (hw _ (List.mem_of_getElem? (i := 1) rfl))) (mvT hZ (hw _ (List.mem_of_getElem? (i := 2) rfl))) (mvT hZ (hw _ (List.mem_of_getElem? (i := 3) rfl))) (by decide) (backOf (W := 0) (own_rm_b2 l Z a0 hw [] p1 h0 n0 Z0 w2_c43_b2_hv5 w2_c43_b2_hv6 w2_c43_b2_hv7) hZ (hw _ (List.mem_of_getElem? (i := 3) rfl)) (hw _ (List.mem_of_getElem? (i := 2) rfl)) (by decide) (by decide)) (g := (mkF m 43 #[.val (.long p0), .second, .val (.long p1), .second, .val (.int p2), .val (.int (2 : Int32)), .val (.double (FP.i2d w2_c8_b0_v7)), .second, .val (.double (FP.i2d w2_c15_b1_v7)), .second, .val (.double (FP.i2d w2_c22_b2_v7)), .second, .val (.double (FP.i2d w2_c29_b0_v7)), .second, .val (.double (FP.i2d w2_c36_b1_v7)), .second, .unset, .unset, .unset, .unset, .unset, .unset, .unset, .unset, .unset, .unset, .unset, .unset, .unset, .unset, .unset, .unset, .unset] [(.int (2 : Int32)), (.long p1)])) rfl (by rw [hml]; rfl) (argsL := [(.long p1), (.int (2 : Int32))]) (rest := []) (lenOf own_pd_28JI29D rfl) rfl (by show 2 * 0 + _ ≤ _; exact Nat.le_of_eq rfl) (hb hby at_43) (fun _ _ => ⟨rfl, ew25, (by decide : 0 + 0 ≤ _), (by decide : 0 + 0 ≤ _)⟩)
  dsimp only [Pt.U, Pt.locs, Pt.cells, Pt.slots] at Xw26 lw26 yw26 zw26 stw26 hQw26
  rw [lw26, yw26, zw26] at Xw26
  obtain ⟨rfl, Nw26q, ew26⟩ := hQw26
  have Nw26 := Fr.app Nw25 Nw26q
  obtain ⟨_, _, ⟨Tw27, Lw27, kw27, nw27⟩, -, Xw27, ⟨Lcw27, hQw27, lw27, yw27, zw27⟩, stw27⟩ := Jvm.LawKit.callS Xw26 hx (y := (⟨"com/example/differentia/differentia/problems/Cec2013TransformsRotatePinLaw", "b", "(JI)D"⟩ : MethodName)) hown (mvT hZ (hw _ (List.mem_of_getElem? (i := 0) rfl))) (mvT hZ (hw _ (List.mem_of_getElem? (i := 1) rfl))) (mvT hZ (hw _ (List.mem_of_getElem? (i := 2) rfl))) (mvT hZ (hw _ (List.mem_of_getElem? (i := 3) rfl))) (by decide) (backOf (W := 0) (own_rm_b3 l Z a0 hw [] p1 h0 n0 Z0 w2_c50_b3_hv5 w2_c50_b3_hv6 w2_c50_b3_hv7) hZ (hw _ (List.mem_of_getElem? (i := 3) rfl)) (hw _ (List.mem_of_getElem? (i := 2) rfl)) (by decide) (by decide)) (g := (mkF m 50 #[.val (.long p0), .second, .val (.long p1), .second, .val (.int p2), .val (.int (2 : Int32)), .val (.double (FP.i2d w2_c8_b0_v7)), .second, .val (.double (FP.i2d w2_c15_b1_v7)), .second, .val (.double (FP.i2d w2_c22_b2_v7)), .second, .val (.double (FP.i2d w2_c29_b0_v7)), .second, .val (.double (FP.i2d w2_c36_b1_v7)), .second, .val (.double (FP.i2d w2_c43_b2_v7)), .second, .unset, .unset, .unset, .unset, .unset, .unset, .unset, .unset, .unset, .unset, .unset, .unset, .unset, .unset, .unset] [(.int (3 : Int32)), (.long p1)])) rfl (by rw [hml]; rfl) (argsL := [(.long p1), (.int (3 : Int32))]) (rest := []) (lenOf own_pd_28JI29D rfl) rfl (by show 2 * 0 + _ ≤ _; exact Nat.le_of_eq rfl) (hb hby at_50) (fun _ _ => ⟨rfl, ew26, (by decide : 0 + 0 ≤ _), (by decide : 0 + 0 ≤ _)⟩)
  dsimp only [Pt.U, Pt.locs, Pt.cells, Pt.slots] at Xw27 lw27 yw27 zw27 stw27 hQw27
  rw [lw27, yw27, zw27] at Xw27
  obtain ⟨rfl, Nw27q, ew27⟩ := hQw27
  have Nw27 := Fr.app Nw26 Nw27q
  obtain ⟨_, _, ⟨Tw28, Lw28, kw28, nw28⟩, -, Xw28, ⟨Lcw28, hQw28, lw28, yw28, zw28⟩, stw28⟩ := Jvm.LawKit.callS Xw27 hx (y := (⟨"com/example/differentia/differentia/problems/Cec2013TransformsRotatePinLaw", "b", "(JI)D"⟩ : MethodName)) hown (mvT hZ (hw _ (List.mem_of_getElem? (i := 0) rfl))) (mvT hZ (hw _ (List.mem_of_getElem? (i := 1) rfl))) (mvT hZ (hw _ (List.mem_of_getElem? (i := 2) rfl))) (mvT hZ (hw _ (List.mem_of_getElem? (i := 3) rfl))) (by decide) (backOf (W := 0) (own_rm_b4 l Z a0 hw [] p1 h0 n0 Z0 w2_c57_b4_hv5 w2_c57_b4_hv6 w2_c57_b4_hv7) hZ (hw _ (List.mem_of_getElem? (i := 3) rfl)) (hw _ (List.mem_of_getElem? (i := 2) rfl)) (by decide) (by decide)) (g := (mkF m 57 #[.val (.long p0), .second, .val (.long p1), .second, .val (.int p2), .val (.int (2 : Int32)), .val (.double (FP.i2d w2_c8_b0_v7)), .second, .val (.double (FP.i2d w2_c15_b1_v7)), .second, .val (.double (FP.i2d w2_c22_b2_v7)), .second, .val (.double (FP.i2d w2_c29_b0_v7)), .second, .val (.double (FP.i2d w2_c36_b1_v7)), .second, .val (.double (FP.i2d w2_c43_b2_v7)), .second, .val (.double (FP.i2d w2_c50_b3_v7)), .second, .unset, .unset, .unset, .unset, .unset, .unset, .unset, .unset, .unset, .unset, .unset, .unset, .unset] [(.int (4 : Int32)), (.long p1)])) rfl (by rw [hml]; rfl) (argsL := [(.long p1), (.int (4 : Int32))]) (rest := []) (lenOf own_pd_28JI29D rfl) rfl (by show 2 * 0 + _ ≤ _; exact Nat.le_of_eq rfl) (hb hby at_57) (fun _ _ => ⟨rfl, ew27, (by decide : 0 + 0 ≤ _), (by decide : 0 + 0 ≤ _)⟩)
  dsimp only [Pt.U, Pt.locs, Pt.cells, Pt.slots] at Xw28 lw28 yw28 zw28 stw28 hQw28
  rw [lw28, yw28, zw28] at Xw28
  obtain ⟨rfl, Nw28q, ew28⟩ := hQw28
  have Nw28 := Fr.app Nw27 Nw28q
  obtain ⟨_, _, ⟨Tw29, Lw29, kw29, nw29⟩, -, Xw29, ⟨Lcw29, hQw29, lw29, yw29, zw29⟩, stw29⟩ := Jvm.LawKit.callS Xw28 hx (y := (⟨"com/example/differentia/differentia/problems/Cec2013TransformsRotatePinLaw", "b", "(JI)D"⟩ : MethodName)) hown (mvT hZ (hw _ (List.mem_of_getElem? (i := 0) rfl))) (mvT hZ (hw _ (List.mem_of_getElem? (i := 1) rfl))) (mvT hZ (hw _ (List.mem_of_getElem? (i := 2) rfl))) (mvT hZ (hw _ (List.mem_of_getElem? (i := 3) rfl))) (by decide) (backOf (W := 0) (own_rm_b5 l Z a0 hw [] p1 h0 n0 Z0 w2_c64_b5_hv5 w2_c64_b5_hv6 w2_c64_b5_hv7) hZ (hw _ (List.mem_of_getElem? (i := 3) rfl)) (hw _ (List.mem_of_getElem? (i := 2) rfl)) (by decide) (by decide)) (g := (mkF m 64 #[.val (.long p0), .second, .val (.long p1), .second, .val (.int p2), .val (.int (2 : Int32)), .val (.double (FP.i2d w2_c8_b0_v7)), .second, .val (.double (FP.i2d w2_c15_b1_v7)), .second, .val (.double (FP.i2d w2_c22_b2_v7)), .second, .val (.double (FP.i2d w2_c29_b0_v7)), .second, .val (.double (FP.i2d w2_c36_b1_v7)), .second, .val (.double (FP.i2d w2_c43_b2_v7)), .second, .val (.double (FP.i2d w2_c50_b3_v7)), .second, .val (.double (FP.i2d w2_c57_b4_v7)), .second, .unset, .unset, .unset, .unset, .unset, .unset, .unset, .unset, .unset, .unset, .unset] [(.int (5 : Int32)), (.long p1)])) rfl (by rw [hml]; rfl) (argsL := [(.long p1), (.int (5 : Int32))]) (rest := []) (lenOf own_pd_28JI29D rfl) rfl (by show 2 * 0 + _ ≤ _; exact Nat.le_of_eq rfl) (hb hby at_64) (fun _ _ => ⟨rfl, ew28, (by decide : 0 + 0 ≤ _), (by decide : 0 + 0 ≤ _)⟩)
  dsimp only [Pt.U, Pt.locs, Pt.cells, Pt.slots] at Xw29 lw29 yw29 zw29 stw29 hQw29
  rw [lw29, yw29, zw29] at Xw29
  obtain ⟨rfl, Nw29q, ew29⟩ := hQw29
  have Nw29 := Fr.app Nw28 Nw29q
  obtain ⟨_, _, ⟨Tw210, Lw210, kw210, nw210⟩, -, Xw210, ⟨Lcw210, hQw210, lw210, yw210, zw210⟩, stw210⟩ := Jvm.LawKit.callS Xw29 hx (y := (⟨"com/example/differentia/differentia/problems/Cec2013TransformsRotatePinLaw", "b", "(JI)D"⟩ : MethodName)) hown (mvT hZ (hw _ (List.mem_of_getElem? (i := 0) rfl))) (mvT hZ (hw _ (List.mem_of_getElem? (i := 1) rfl))) (mvT hZ (hw _ (List.mem_of_getElem? (i := 2) rfl))) (mvT hZ (hw _ (List.mem_of_getElem? (i := 3) rfl))) (by decide) (backOf (W := 0) (own_rm_b6 l Z a0 hw [] p1 h0 n0 Z0 w2_c72_b6_hv5 w2_c72_b6_hv6 w2_c72_b6_hv7) hZ (hw _ (List.mem_of_getElem? (i := 3) rfl)) (hw _ (List.mem_of_getElem? (i := 2) rfl)) (by decide) (by decide)) (g := (mkF m 72 #[.val (.long p0), .second, .val (.long p1), .second, .val (.int p2), .val (.int (2 : Int32)), .val (.double (FP.i2d w2_c8_b0_v7)), .second, .val (.double (FP.i2d w2_c15_b1_v7)), .second, .val (.double (FP.i2d w2_c22_b2_v7)), .second, .val (.double (FP.i2d w2_c29_b0_v7)), .second, .val (.double (FP.i2d w2_c36_b1_v7)), .second, .val (.double (FP.i2d w2_c43_b2_v7)), .second, .val (.double (FP.i2d w2_c50_b3_v7)), .second, .val (.double (FP.i2d w2_c57_b4_v7)), .second, .val (.double (FP.i2d w2_c64_b5_v7)), .second, .unset, .unset, .unset, .unset, .unset, .unset, .unset, .unset, .unset] [(.int (6 : Int32)), (.long p1)])) rfl (by rw [hml]; rfl) (argsL := [(.long p1), (.int (6 : Int32))]) (rest := []) (lenOf own_pd_28JI29D rfl) rfl (by show 2 * 0 + _ ≤ _; exact Nat.le_of_eq rfl) (hb hby at_72) (fun _ _ => ⟨rfl, ew29, (by decide : 0 + 0 ≤ _), (by decide : 0 + 0 ≤ _)⟩)
  dsimp only [Pt.U, Pt.locs, Pt.cells, Pt.slots] at Xw210 lw210 yw210 zw210 stw210 hQw210
  rw [lw210, yw210, zw210] at Xw210
  obtain ⟨rfl, Nw210q, ew210⟩ := hQw210
  have Nw210 := Fr.app Nw29 Nw210q
  obtain ⟨_, _, ⟨Tw211, Lw211, kw211, nw211⟩, -, Xw211, ⟨Lcw211, hQw211, lw211, yw211, zw211⟩, stw211⟩ := Jvm.LawKit.callS Xw210 hx (y := (⟨"com/example/differentia/differentia/problems/Cec2013TransformsRotatePinLaw", "b", "(JI)D"⟩ : MethodName)) hown (mvT hZ (hw _ (List.mem_of_getElem? (i := 0) rfl))) (mvT hZ (hw _ (List.mem_of_getElem? (i := 1) rfl))) (mvT hZ (hw _ (List.mem_of_getElem? (i := 2) rfl))) (mvT hZ (hw _ (List.mem_of_getElem? (i := 3) rfl))) (by decide) (backOf (W := 0) (own_rm_b7 l Z a0 hw [] p1 h0 n0 Z0 w2_c80_b7_hv5 w2_c80_b7_hv6 w2_c80_b7_hv7) hZ (hw _ (List.mem_of_getElem? (i := 3) rfl)) (hw _ (List.mem_of_getElem? (i := 2) rfl)) (by decide) (by decide)) (g := (mkF m 80 #[.val (.long p0), .second, .val (.long p1), .second, .val (.int p2), .val (.int (2 : Int32)), .val (.double (FP.i2d w2_c8_b0_v7)), .second, .val (.double (FP.i2d w2_c15_b1_v7)), .second, .val (.double (FP.i2d w2_c22_b2_v7)), .second, .val (.double (FP.i2d w2_c29_b0_v7)), .second, .val (.double (FP.i2d w2_c36_b1_v7)), .second, .val (.double (FP.i2d w2_c43_b2_v7)), .second, .val (.double (FP.i2d w2_c50_b3_v7)), .second, .val (.double (FP.i2d w2_c57_b4_v7)), .second, .val (.double (FP.i2d w2_c64_b5_v7)), .second, .val (.double (FP.i2d w2_c72_b6_v7)), .second, .unset, .unset, .unset, .unset, .unset, .unset, .unset] [(.int (7 : Int32)), (.long p1)])) rfl (by rw [hml]; rfl) (argsL := [(.long p1), (.int (7 : Int32))]) (rest := []) (lenOf own_pd_28JI29D rfl) rfl (by show 2 * 0 + _ ≤ _; exact Nat.le_of_eq rfl) (hb hby at_80) (fun _ _ => ⟨rfl, ew210, (by decide : 0 + 0 ≤ _), (by decide : 0 + 0 ≤ _)⟩)
  dsimp only [Pt.U, Pt.locs, Pt.cells, Pt.slots] at Xw211 lw211 yw211 zw211 stw211 hQw211
  rw [lw211, yw211, zw211] at Xw211
  obtain ⟨rfl, Nw211q, ew211⟩ := hQw211
  have Nw211 := Fr.app Nw210 Nw211q
  obtain ⟨_, _, ⟨Tw212, Lw212, kw212, nw212⟩, -, Xw212, ⟨Lcw212, hQw212, lw212, yw212, zw212⟩, stw212⟩ := Jvm.LawKit.callS Xw211 hx (y := (⟨"com/example/differentia/differentia/problems/Cec2013TransformsRotatePinLaw", "b", "(JI)D"⟩ : MethodName)) hown (mvT hZ (hw _ (List.mem_of_getElem? (i := 0) rfl))) (mvT hZ (hw _ (List.mem_of_getElem? (i := 1) rfl))) (mvT hZ (hw _ (List.mem_of_getElem? (i := 2) rfl))) (mvT hZ (hw _ (List.mem_of_getElem? (i := 3) rfl))) (by decide) (backOf (W := 0) (own_rm_b3 l Z a0 hw [] p0 h0 n0 Z0 w2_c87_b3_hv5 w2_c87_b3_hv6 w2_c87_b3_hv7) hZ (hw _ (List.mem_of_getElem? (i := 3) rfl)) (hw _ (List.mem_of_getElem? (i := 2) rfl)) (by decide) (by decide)) (g := (mkF m 87 #[.val (.long p0), .second, .val (.long p1), .second, .val (.int p2), .val (.int (2 : Int32)), .val (.double (FP.i2d w2_c8_b0_v7)), .second, .val (.double (FP.i2d w2_c15_b1_v7)), .second, .val (.double (FP.i2d w2_c22_b2_v7)), .second, .val (.double (FP.i2d w2_c29_b0_v7)), .second, .val (.double (FP.i2d w2_c36_b1_v7)), .second, .val (.double (FP.i2d w2_c43_b2_v7)), .second, .val (.double (FP.i2d w2_c50_b3_v7)), .second, .val (.double (FP.i2d w2_c57_b4_v7)), .second, .val (.double (FP.i2d w2_c64_b5_v7)), .second, .val (.double (FP.i2d w2_c72_b6_v7)), .second, .val (.double (FP.i2d w2_c80_b7_v7)), .second, .unset, .unset, .unset, .unset, .unset] [(.int (3 : Int32)), (.long p0)])) rfl (by rw [hml]; rfl) (argsL := [(.long p0), (.int (3 : Int32))]) (rest := []) (lenOf own_pd_28JI29D rfl) rfl (by show 2 * 0 + _ ≤ _; exact Nat.le_of_eq rfl) (hb hby at_87) (fun _ _ => ⟨rfl, ew211, (by decide : 0 + 0 ≤ _), (by decide : 0 + 0 ≤ _)⟩)
  dsimp only [Pt.U, Pt.locs, Pt.cells, Pt.slots] at Xw212 lw212 yw212 zw212 stw212 hQw212
  rw [lw212, yw212, zw212] at Xw212
  obtain ⟨rfl, Nw212q, ew212⟩ := hQw212
  have Nw212 := Fr.app Nw211 Nw212q
  obtain ⟨Tw213, hw213, kw213, bw213, Xw213, ew213, Ew213, Gw213, Vw213, stw213⟩ := own_newD (L := #[.val (.long p0), .second, .val (.long p1), .second, .val (.int p2), .val (.int (2 : Int32)), .val (.double (FP.i2d w2_c8_b0_v7)), .second, .val (.double (FP.i2d w2_c15_b1_v7)), .second, .val (.double (FP.i2d w2_c22_b2_v7)), .second, .val (.double (FP.i2d w2_c29_b0_v7)), .second, .val (.double (FP.i2d w2_c36_b1_v7)), .second, .val (.double (FP.i2d w2_c43_b2_v7)), .second, .val (.double (FP.i2d w2_c50_b3_v7)), .second, .val (.double (FP.i2d w2_c57_b4_v7)), .second, .val (.double (FP.i2d w2_c64_b5_v7)), .second, .val (.double (FP.i2d w2_c72_b6_v7)), .second, .val (.double (FP.i2d w2_c80_b7_v7)), .second, .val (.double (FP.i2d w2_c87_b3_v7)), .second, .unset, .unset, .unset]) (S := []) Xw212 hx hZ (hw _ (List.mem_of_getElem? (i := 4) rfl)) ew212 (z := (2 : Int32)) 2 (by decide) (by decide) (by decide) (by decide) (by decide) (hb hby at_188) (pc' := 190) rfl
  have g_bw213 : n0 ≤ bw213 := Nat.le_trans Z0 (Nat.le_of_eq Gw213.symm)
  have sz_bw213 : h0.size ≤ bw213 := Nat.le_trans (Keep.refl h0 []).1 (Nat.le_of_eq Gw213.symm)
  have Zw213 : n0 ≤ hw213.size := Nat.le_trans Z0 Ew213.1
  have KKw213 := (Keep.refl h0 []).ext Ew213
  have V_bw213 : Arv Z hw213 bw213 kw213 .double (2 : Int32) [(.double 0), (.double 0)] (.double 0) := Vw213
  obtain ⟨Tw214, hw214, Xw214, ew214, Ww214, Vw214, stw214⟩ := own_stD (L := #[.val (.long p0), .second, .val (.long p1), .second, .val (.int p2), .val (.int (2 : Int32)), .val (.double (FP.i2d w2_c8_b0_v7)), .second, .val (.double (FP.i2d w2_c15_b1_v7)), .second, .val (.double (FP.i2d w2_c22_b2_v7)), .second, .val (.double (FP.i2d w2_c29_b0_v7)), .second, .val (.double (FP.i2d w2_c36_b1_v7)), .second, .val (.double (FP.i2d w2_c43_b2_v7)), .second, .val (.double (FP.i2d w2_c50_b3_v7)), .second, .val (.double (FP.i2d w2_c57_b4_v7)), .second, .val (.double (FP.i2d w2_c64_b5_v7)), .second, .val (.double (FP.i2d w2_c72_b6_v7)), .second, .val (.double (FP.i2d w2_c80_b7_v7)), .second, .val (.double (FP.i2d w2_c87_b3_v7)), .second, .unset, .unset, .unset]) (S := [(.ref bw213)]) Xw213 hx hZ ew213 V_bw213 (j := (0 : Int32)) (x := (FP.i2d w2_c8_b0_v7)) (by decide) 0 (by decide) (Nat.le_of_ble_eq_true rfl) (hb hby at_194) (pc' := 195) rfl
  have Zw214 : n0 ≤ hw214.size := Nat.le_trans Zw213 (Nat.le_of_eq Ww214.size.symm)
  have KKw214 := KKw213.wr Ww214 (Or.inr sz_bw213)
  have V_bw213_w214 : Arv Z hw214 bw213 kw213 .double (2 : Int32) [(.double (FP.i2d w2_c8_b0_v7)), (.double 0)] (.double 0) := Vw214
  have Nw214 := Fr.snoc Xw214 Nw212 g_bw213
  obtain ⟨Tw215, hw215, Xw215, ew215, Ww215, Vw215, stw215⟩ := own_stD (L := #[.val (.long p0), .second, .val (.long p1), .second, .val (.int p2), .val (.int (2 : Int32)), .val (.double (FP.i2d w2_c8_b0_v7)), .second, .val (.double (FP.i2d w2_c15_b1_v7)), .second, .val (.double (FP.i2d w2_c22_b2_v7)), .second, .val (.double (FP.i2d w2_c29_b0_v7)), .second, .val (.double (FP.i2d w2_c36_b1_v7)), .second, .val (.double (FP.i2d w2_c43_b2_v7)), .second, .val (.double (FP.i2d w2_c50_b3_v7)), .second, .val (.double (FP.i2d w2_c57_b4_v7)), .second, .val (.double (FP.i2d w2_c64_b5_v7)), .second, .val (.double (FP.i2d w2_c72_b6_v7)), .second, .val (.double (FP.i2d w2_c80_b7_v7)), .second, .val (.double (FP.i2d w2_c87_b3_v7)), .second, .unset, .unset, .unset]) (S := [(.ref bw213)]) Xw214 hx hZ ew214 V_bw213_w214 (j := (1 : Int32)) (x := (FP.i2d w2_c15_b1_v7)) (by decide) 1 (by decide) (Nat.le_of_ble_eq_true rfl) (hb hby at_199) (pc' := 200) rfl
  have Zw215 : n0 ≤ hw215.size := Nat.le_trans Zw214 (Nat.le_of_eq Ww215.size.symm)
  have KKw215 := KKw214.wr Ww215 (Or.inr sz_bw213)
  have V_bw213_w215 : Arv Z hw215 bw213 kw213 .double (2 : Int32) [(.double (FP.i2d w2_c8_b0_v7)), (.double (FP.i2d w2_c15_b1_v7))] (.double 0) := Vw215
  have Nw215 := Fr.snoc Xw215 Nw214 g_bw213
  obtain ⟨Tw216, hw216, kw216, bw216, Xw216, ew216, Ew216, Gw216, Vw216, stw216⟩ := own_newD (L := #[.val (.long p0), .second, .val (.long p1), .second, .val (.int p2), .val (.int (2 : Int32)), .val (.double (FP.i2d w2_c8_b0_v7)), .second, .val (.double (FP.i2d w2_c15_b1_v7)), .second, .val (.double (FP.i2d w2_c22_b2_v7)), .second, .val (.double (FP.i2d w2_c29_b0_v7)), .second, .val (.double (FP.i2d w2_c36_b1_v7)), .second, .val (.double (FP.i2d w2_c43_b2_v7)), .second, .val (.double (FP.i2d w2_c50_b3_v7)), .second, .val (.double (FP.i2d w2_c57_b4_v7)), .second, .val (.double (FP.i2d w2_c64_b5_v7)), .second, .val (.double (FP.i2d w2_c72_b6_v7)), .second, .val (.double (FP.i2d w2_c80_b7_v7)), .second, .val (.double (FP.i2d w2_c87_b3_v7)), .second, .val (.ref bw213), .unset, .unset]) (S := []) Xw215 hx hZ (hw _ (List.mem_of_getElem? (i := 4) rfl)) ew215 (z := (4 : Int32)) 4 (by decide) (by decide) (by decide) (by decide) (by decide) (hb hby at_203) (pc' := 205) rfl
  have ne_bw213_bw216 : bw213 ≠ bw216 := Nat.ne_of_lt (Nat.lt_of_lt_of_le V_bw213_w215.lt (Nat.le_of_eq Gw216.symm))
  have ne_bw216_bw213 : bw216 ≠ bw213 := Ne.symm ne_bw213_bw216
  have g_bw216 : n0 ≤ bw216 := Nat.le_trans Zw215 (Nat.le_of_eq Gw216.symm)
  have sz_bw216 : h0.size ≤ bw216 := Nat.le_trans KKw215.1 (Nat.le_of_eq Gw216.symm)
  have V_bw213_w216 := V_bw213_w215.ext Ew216
  have Zw216 : n0 ≤ hw216.size := Nat.le_trans Zw215 Ew216.1
  have KKw216 := KKw215.ext Ew216
  have V_bw216 : Arv Z hw216 bw216 kw216 .double (4 : Int32) [(.double 0), (.double 0), (.double 0), (.double 0)] (.double 0) := Vw216
  obtain ⟨Tw217, hw217, Xw217, ew217, Ww217, Vw217, stw217⟩ := own_stD (L := #[.val (.long p0), .second, .val (.long p1), .second, .val (.int p2), .val (.int (2 : Int32)), .val (.double (FP.i2d w2_c8_b0_v7)), .second, .val (.double (FP.i2d w2_c15_b1_v7)), .second, .val (.double (FP.i2d w2_c22_b2_v7)), .second, .val (.double (FP.i2d w2_c29_b0_v7)), .second, .val (.double (FP.i2d w2_c36_b1_v7)), .second, .val (.double (FP.i2d w2_c43_b2_v7)), .second, .val (.double (FP.i2d w2_c50_b3_v7)), .second, .val (.double (FP.i2d w2_c57_b4_v7)), .second, .val (.double (FP.i2d w2_c64_b5_v7)), .second, .val (.double (FP.i2d w2_c72_b6_v7)), .second, .val (.double (FP.i2d w2_c80_b7_v7)), .second, .val (.double (FP.i2d w2_c87_b3_v7)), .second, .val (.ref bw213), .unset, .unset]) (S := [(.ref bw216)]) Xw216 hx hZ ew216 V_bw216 (j := (0 : Int32)) (x := (FP.i2d w2_c29_b0_v7)) (by decide) 0 (by decide) (Nat.le_of_ble_eq_true rfl) (hb hby at_209) (pc' := 210) rfl
  have V_bw213_w217 := V_bw213_w216.other Ww217 ne_bw213_bw216
  have Zw217 : n0 ≤ hw217.size := Nat.le_trans Zw216 (Nat.le_of_eq Ww217.size.symm)
  have KKw217 := KKw216.wr Ww217 (Or.inr sz_bw216)
  have V_bw216_w217 : Arv Z hw217 bw216 kw216 .double (4 : Int32) [(.double (FP.i2d w2_c29_b0_v7)), (.double 0), (.double 0), (.double 0)] (.double 0) := Vw217
  have Nw217 := Fr.snoc Xw217 Nw215 g_bw216
  obtain ⟨Tw218, hw218, Xw218, ew218, Ww218, Vw218, stw218⟩ := own_stD (L := #[.val (.long p0), .second, .val (.long p1), .second, .val (.int p2), .val (.int (2 : Int32)), .val (.double (FP.i2d w2_c8_b0_v7)), .second, .val (.double (FP.i2d w2_c15_b1_v7)), .second, .val (.double (FP.i2d w2_c22_b2_v7)), .second, .val (.double (FP.i2d w2_c29_b0_v7)), .second, .val (.double (FP.i2d w2_c36_b1_v7)), .second, .val (.double (FP.i2d w2_c43_b2_v7)), .second, .val (.double (FP.i2d w2_c50_b3_v7)), .second, .val (.double (FP.i2d w2_c57_b4_v7)), .second, .val (.double (FP.i2d w2_c64_b5_v7)), .second, .val (.double (FP.i2d w2_c72_b6_v7)), .second, .val (.double (FP.i2d w2_c80_b7_v7)), .second, .val (.double (FP.i2d w2_c87_b3_v7)), .second, .val (.ref bw213), .unset, .unset]) (S := [(.ref bw216)]) Xw217 hx hZ ew217 V_bw216_w217 (j := (1 : Int32)) (x := (FP.i2d w2_c36_b1_v7)) (by decide) 1 (by decide) (Nat.le_of_ble_eq_true rfl) (hb hby at_214) (pc' := 215) rfl
  have V_bw213_w218 := V_bw213_w217.other Ww218 ne_bw213_bw216
  have Zw218 : n0 ≤ hw218.size := Nat.le_trans Zw217 (Nat.le_of_eq Ww218.size.symm)
  have KKw218 := KKw217.wr Ww218 (Or.inr sz_bw216)
  have V_bw216_w218 : Arv Z hw218 bw216 kw216 .double (4 : Int32) [(.double (FP.i2d w2_c29_b0_v7)), (.double (FP.i2d w2_c36_b1_v7)), (.double 0), (.double 0)] (.double 0) := Vw218
  have Nw218 := Fr.snoc Xw218 Nw217 g_bw216
  obtain ⟨Tw219, hw219, Xw219, ew219, Ww219, Vw219, stw219⟩ := own_stD (L := #[.val (.long p0), .second, .val (.long p1), .second, .val (.int p2), .val (.int (2 : Int32)), .val (.double (FP.i2d w2_c8_b0_v7)), .second, .val (.double (FP.i2d w2_c15_b1_v7)), .second, .val (.double (FP.i2d w2_c22_b2_v7)), .second, .val (.double (FP.i2d w2_c29_b0_v7)), .second, .val (.double (FP.i2d w2_c36_b1_v7)), .second, .val (.double (FP.i2d w2_c43_b2_v7)), .second, .val (.double (FP.i2d w2_c50_b3_v7)), .second, .val (.double (FP.i2d w2_c57_b4_v7)), .second, .val (.double (FP.i2d w2_c64_b5_v7)), .second, .val (.double (FP.i2d w2_c72_b6_v7)), .second, .val (.double (FP.i2d w2_c80_b7_v7)), .second, .val (.double (FP.i2d w2_c87_b3_v7)), .second, .val (.ref bw213), .unset, .unset]) (S := [(.ref bw216)]) Xw218 hx hZ ew218 V_bw216_w218 (j := (2 : Int32)) (x := (FP.i2d w2_c50_b3_v7)) (by decide) 2 (by decide) (Nat.le_of_ble_eq_true rfl) (hb hby at_219) (pc' := 220) rfl
  have V_bw213_w219 := V_bw213_w218.other Ww219 ne_bw213_bw216
  have Zw219 : n0 ≤ hw219.size := Nat.le_trans Zw218 (Nat.le_of_eq Ww219.size.symm)
  have KKw219 := KKw218.wr Ww219 (Or.inr sz_bw216)
  have V_bw216_w219 : Arv Z hw219 bw216 kw216 .double (4 : Int32) [(.double (FP.i2d w2_c29_b0_v7)), (.double (FP.i2d w2_c36_b1_v7)), (.double (FP.i2d w2_c50_b3_v7)), (.double 0)] (.double 0) := Vw219
  have Nw219 := Fr.snoc Xw219 Nw218 g_bw216
  obtain ⟨Tw220, hw220, Xw220, ew220, Ww220, Vw220, stw220⟩ := own_stD (L := #[.val (.long p0), .second, .val (.long p1), .second, .val (.int p2), .val (.int (2 : Int32)), .val (.double (FP.i2d w2_c8_b0_v7)), .second, .val (.double (FP.i2d w2_c15_b1_v7)), .second, .val (.double (FP.i2d w2_c22_b2_v7)), .second, .val (.double (FP.i2d w2_c29_b0_v7)), .second, .val (.double (FP.i2d w2_c36_b1_v7)), .second, .val (.double (FP.i2d w2_c43_b2_v7)), .second, .val (.double (FP.i2d w2_c50_b3_v7)), .second, .val (.double (FP.i2d w2_c57_b4_v7)), .second, .val (.double (FP.i2d w2_c64_b5_v7)), .second, .val (.double (FP.i2d w2_c72_b6_v7)), .second, .val (.double (FP.i2d w2_c80_b7_v7)), .second, .val (.double (FP.i2d w2_c87_b3_v7)), .second, .val (.ref bw213), .unset, .unset]) (S := [(.ref bw216)]) Xw219 hx hZ ew219 V_bw216_w219 (j := (3 : Int32)) (x := (FP.i2d w2_c57_b4_v7)) (by decide) 3 (by decide) (Nat.le_of_ble_eq_true rfl) (hb hby at_224) (pc' := 225) rfl
  have V_bw213_w220 := V_bw213_w219.other Ww220 ne_bw213_bw216
  have Zw220 : n0 ≤ hw220.size := Nat.le_trans Zw219 (Nat.le_of_eq Ww220.size.symm)
  have KKw220 := KKw219.wr Ww220 (Or.inr sz_bw216)
  have V_bw216_w220 : Arv Z hw220 bw216 kw216 .double (4 : Int32) [(.double (FP.i2d w2_c29_b0_v7)), (.double (FP.i2d w2_c36_b1_v7)), (.double (FP.i2d w2_c50_b3_v7)), (.double (FP.i2d w2_c57_b4_v7))] (.double 0) := Vw220
  have Nw220 := Fr.snoc Xw220 Nw219 g_bw216
  obtain ⟨_, _, ⟨Tw221, Lw221, kw221, nw221⟩, -, Xw221, ⟨Lcw221, hQw221, lw221, yw221, zw221⟩, stw221⟩ := Jvm.LawKit.callS Xw220 hx (y := (⟨"com/example/differentia/differentia/problems/Cec2013Transforms", "rotate", "([D[D)[D"⟩ : MethodName)) hown (mvT hZ (hw _ (List.mem_of_getElem? (i := 5) rfl))) (mvT hZ (hw _ (List.mem_of_getElem? (i := 6) rfl))) (mvT hZ (hw _ (List.mem_of_getElem? (i := 7) rfl))) (mvT hZ (hw _ (List.mem_of_getElem? (i := 8) rfl))) (by decide) (backOf (W := 0) (own_rm_c2 l Z a0 hw [] bw213 (FP.i2d w2_c8_b0_v7) (FP.i2d w2_c15_b1_v7) bw216 (FP.i2d w2_c29_b0_v7) (FP.i2d w2_c36_b1_v7) (FP.i2d w2_c50_b3_v7) (FP.i2d w2_c57_b4_v7) hw220 n0 Zw220 V_bw213_w220 V_bw216_w220 w2_c231_c2_hn43 w2_c231_c2_hv43 w2_c231_c2_hn44 w2_c231_c2_hv44 w2_c231_c2_hn43_2 w2_c231_c2_hv43_2 w2_c231_c2_hn44_2 w2_c231_c2_hv44_2 w2_c231_c2_hn43_3 w2_c231_c2_hv43_3 w2_c231_c2_hn44_3 w2_c231_c2_hv44_3 w2_c231_c2_hn43_4 w2_c231_c2_hv43_4 w2_c231_c2_hn44_4 w2_c231_c2_hv44_4) hZ (hw _ (List.mem_of_getElem? (i := 8) rfl)) (hw _ (List.mem_of_getElem? (i := 7) rfl)) (by decide) (by decide)) (g := (mkF m 231 #[.val (.long p0), .second, .val (.long p1), .second, .val (.int p2), .val (.int (2 : Int32)), .val (.double (FP.i2d w2_c8_b0_v7)), .second, .val (.double (FP.i2d w2_c15_b1_v7)), .second, .val (.double (FP.i2d w2_c22_b2_v7)), .second, .val (.double (FP.i2d w2_c29_b0_v7)), .second, .val (.double (FP.i2d w2_c36_b1_v7)), .second, .val (.double (FP.i2d w2_c43_b2_v7)), .second, .val (.double (FP.i2d w2_c50_b3_v7)), .second, .val (.double (FP.i2d w2_c57_b4_v7)), .second, .val (.double (FP.i2d w2_c64_b5_v7)), .second, .val (.double (FP.i2d w2_c72_b6_v7)), .second, .val (.double (FP.i2d w2_c80_b7_v7)), .second, .val (.double (FP.i2d w2_c87_b3_v7)), .second, .val (.ref bw213), .val (.ref bw216), .unset] [(.ref bw216), (.ref bw213)])) rfl (by rw [hml]; rfl) (argsL := [(.ref bw213), (.ref bw216)]) (rest := []) (lenOf own_pd_285bD5bD295bD rfl) rfl (by show 2 * 0 + _ ≤ _; exact Nat.le_of_eq rfl) (hb hby at_231) (fun _ _ => ⟨rfl, ew220, (by decide : 2 + 1 ≤ _), (by decide : 6 + 2 ≤ _)⟩)
  dsimp only [Pt.U, Pt.locs, Pt.cells, Pt.slots] at Xw221 lw221 yw221 zw221 stw221 hQw221
  rw [lw221, yw221, zw221] at Xw221
  obtain ⟨bw221, kw221a, rfl, Nw221q, Kw221, Gw221, qw221_0⟩ := hQw221
  have ne_bw213_bw221 : bw213 ≠ bw221 := Nat.ne_of_lt (Nat.lt_of_lt_of_le V_bw213_w220.lt Gw221)
  have ne_bw221_bw213 : bw221 ≠ bw213 := Ne.symm ne_bw213_bw221
  have ne_bw216_bw221 : bw216 ≠ bw221 := Nat.ne_of_lt (Nat.lt_of_lt_of_le V_bw216_w220.lt Gw221)
  have ne_bw221_bw216 : bw221 ≠ bw216 := Ne.symm ne_bw216_bw221
  have g_bw221 : n0 ≤ bw221 := Nat.le_trans Zw220 Gw221
  have sz_bw221 : h0.size ≤ bw221 := Nat.le_trans KKw220.1 Gw221
  have V_bw213_w221 := V_bw213_w220.keep Kw221 (List.not_mem_nil)
  have V_bw216_w221 := V_bw216_w220.keep Kw221 (List.not_mem_nil)
  have Zw221 : n0 ≤ Tw221.heap.size := Nat.le_trans Zw220 Kw221.1
  have KKw221 := KKw220.trans Kw221 (fun _ q => nomatch q)
  have Nw221 := Fr.app Nw220 Nw221q
  obtain ⟨fs, hr, hrun, hended, hW, hsame⟩ := Xw221.leave (v := some (.int (1 : Int32))) (fun h => by rw [Bd.returns] at h; cases h)
  refine ⟨_, _, pre0 _ ?_, hrun, hended, _, _, rfl, ?_, ⟨_, rfl⟩, hW, hsame.mono (by decide) (by decide)⟩
  · refine own_s_iload X0.here hx (hb hby at_0) (pc' := 2) rfl rfl ?_
    refine own_s_iconst X0.here hx (hb hby at_2) (pc' := 3) rfl (v := (3 : Int32)) (by decide) ?_
    refine own_s_iand X0.here hx (hb hby at_3) (pc' := 4) rfl (v := (2 : Int32)) w2_hv3 ?_
    refine own_s_istore X0.here hx (hb hby at_4) (pc' := 6) rfl (L' := #[.val (.long p0), .second, .val (.long p1), .second, .val (.int p2), .val (.int (2 : Int32)), .unset, .unset, .unset, .unset, .unset, .unset, .unset, .unset, .unset, .unset, .unset, .unset, .unset, .unset, .unset, .unset, .unset, .unset, .unset, .unset, .unset, .unset, .unset, .unset, .unset, .unset, .unset]) rfl ?_
    refine own_s_lloadN X0.here hx (hb hby at_6) (pc' := 7) rfl rfl ?_
    refine own_s_iconst X0.here hx (hb hby at_7) (pc' := 8) rfl (v := (0 : Int32)) (by decide) ?_
    refine stw21 _ ?_
    show Steps p.tables e below (Tw21.setTop (mkF m 11 #[.val (.long p0), .second, .val (.long p1), .second, .val (.int p2), .val (.int (2 : Int32)), .unset, .unset, .unset, .unset, .unset, .unset, .unset, .unset, .unset, .unset, .unset, .unset, .unset, .unset, .unset, .unset, .unset, .unset, .unset, .unset, .unset, .unset, .unset, .unset, .unset, .unset, .unset] [(.double (FP.i2d w2_c8_b0_v7))])) _
    refine own_s_dstore Xw21.here hx (hb hby at_11) (pc' := 13) rfl (L' := #[.val (.long p0), .second, .val (.long p1), .second, .val (.int p2), .val (.int (2 : Int32)), .val (.double (FP.i2d w2_c8_b0_v7)), .second, .unset, .unset, .unset, .unset, .unset, .unset, .unset, .unset, .unset, .unset, .unset, .unset, .unset, .unset, .unset, .unset, .unset, .unset, .unset, .unset, .unset, .unset, .unset, .unset, .unset]) rfl ?_
    refine own_s_lloadN Xw21.here hx (hb hby at_13) (pc' := 14) rfl rfl ?_
    refine own_s_iconst Xw21.here hx (hb hby at_14) (pc' := 15) rfl (v := (1 : Int32)) (by decide) ?_
    refine stw22 _ ?_
    show Steps p.tables e below (Tw22.setTop (mkF m 18 #[.val (.long p0), .second, .val (.long p1), .second, .val (.int p2), .val (.int (2 : Int32)), .val (.double (FP.i2d w2_c8_b0_v7)), .second, .unset, .unset, .unset, .unset, .unset, .unset, .unset, .unset, .unset, .unset, .unset, .unset, .unset, .unset, .unset, .unset, .unset, .unset, .unset, .unset, .unset, .unset, .unset, .unset, .unset] [(.double (FP.i2d w2_c15_b1_v7))])) _
    refine own_s_dstore Xw22.here hx (hb hby at_18) (pc' := 20) rfl (L' := #[.val (.long p0), .second, .val (.long p1), .second, .val (.int p2), .val (.int (2 : Int32)), .val (.double (FP.i2d w2_c8_b0_v7)), .second, .val (.double (FP.i2d w2_c15_b1_v7)), .second, .unset, .unset, .unset, .unset, .unset, .unset, .unset, .unset, .unset, .unset, .unset, .unset, .unset, .unset, .unset, .unset, .unset, .unset, .unset, .unset, .unset, .unset, .unset]) rfl ?_
    refine own_s_lloadN Xw22.here hx (hb hby at_20) (pc' := 21) rfl rfl ?_
    refine own_s_iconst Xw22.here hx (hb hby at_21) (pc' := 22) rfl (v := (2 : Int32)) (by decide) ?_
    refine stw23 _ ?_
    show Steps p.tables e below (Tw23.setTop (mkF m 25 #[.val (.long p0), .second, .val (.long p1), .second, .val (.int p2), .val (.int (2 : Int32)), .val (.double (FP.i2d w2_c8_b0_v7)), .second, .val (.double (FP.i2d w2_c15_b1_v7)), .second, .unset, .unset, .unset, .unset, .unset, .unset, .unset, .unset, .unset, .unset, .unset, .unset, .unset, .unset, .unset, .unset, .unset, .unset, .unset, .unset, .unset, .unset, .unset] [(.double (FP.i2d w2_c22_b2_v7))])) _
    refine own_s_dstore Xw23.here hx (hb hby at_25) (pc' := 27) rfl (L' := #[.val (.long p0), .second, .val (.long p1), .second, .val (.int p2), .val (.int (2 : Int32)), .val (.double (FP.i2d w2_c8_b0_v7)), .second, .val (.double (FP.i2d w2_c15_b1_v7)), .second, .val (.double (FP.i2d w2_c22_b2_v7)), .second, .unset, .unset, .unset, .unset, .unset, .unset, .unset, .unset, .unset, .unset, .unset, .unset, .unset, .unset, .unset, .unset, .unset, .unset, .unset, .unset, .unset]) rfl ?_
    refine own_s_lloadN Xw23.here hx (hb hby at_27) (pc' := 28) rfl rfl ?_
    refine own_s_iconst Xw23.here hx (hb hby at_28) (pc' := 29) rfl (v := (0 : Int32)) (by decide) ?_
    refine stw24 _ ?_
    show Steps p.tables e below (Tw24.setTop (mkF m 32 #[.val (.long p0), .second, .val (.long p1), .second, .val (.int p2), .val (.int (2 : Int32)), .val (.double (FP.i2d w2_c8_b0_v7)), .second, .val (.double (FP.i2d w2_c15_b1_v7)), .second, .val (.double (FP.i2d w2_c22_b2_v7)), .second, .unset, .unset, .unset, .unset, .unset, .unset, .unset, .unset, .unset, .unset, .unset, .unset, .unset, .unset, .unset, .unset, .unset, .unset, .unset, .unset, .unset] [(.double (FP.i2d w2_c29_b0_v7))])) _
    refine own_s_dstore Xw24.here hx (hb hby at_32) (pc' := 34) rfl (L' := #[.val (.long p0), .second, .val (.long p1), .second, .val (.int p2), .val (.int (2 : Int32)), .val (.double (FP.i2d w2_c8_b0_v7)), .second, .val (.double (FP.i2d w2_c15_b1_v7)), .second, .val (.double (FP.i2d w2_c22_b2_v7)), .second, .val (.double (FP.i2d w2_c29_b0_v7)), .second, .unset, .unset, .unset, .unset, .unset, .unset, .unset, .unset, .unset, .unset, .unset, .unset, .unset, .unset, .unset, .unset, .unset, .unset, .unset]) rfl ?_
    refine own_s_lloadN Xw24.here hx (hb hby at_34) (pc' := 35) rfl rfl ?_
    refine own_s_iconst Xw24.here hx (hb hby at_35) (pc' := 36) rfl (v := (1 : Int32)) (by decide) ?_
    refine stw25 _ ?_
    show Steps p.tables e below (Tw25.setTop (mkF m 39 #[.val (.long p0), .second, .val (.long p1), .second, .val (.int p2), .val (.int (2 : Int32)), .val (.double (FP.i2d w2_c8_b0_v7)), .second, .val (.double (FP.i2d w2_c15_b1_v7)), .second, .val (.double (FP.i2d w2_c22_b2_v7)), .second, .val (.double (FP.i2d w2_c29_b0_v7)), .second, .unset, .unset, .unset, .unset, .unset, .unset, .unset, .unset, .unset, .unset, .unset, .unset, .unset, .unset, .unset, .unset, .unset, .unset, .unset] [(.double (FP.i2d w2_c36_b1_v7))])) _
    refine own_s_dstore Xw25.here hx (hb hby at_39) (pc' := 41) rfl (L' := #[.val (.long p0), .second, .val (.long p1), .second, .val (.int p2), .val (.int (2 : Int32)), .val (.double (FP.i2d w2_c8_b0_v7)), .second, .val (.double (FP.i2d w2_c15_b1_v7)), .second, .val (.double (FP.i2d w2_c22_b2_v7)), .second, .val (.double (FP.i2d w2_c29_b0_v7)), .second, .val (.double (FP.i2d w2_c36_b1_v7)), .second, .unset, .unset, .unset, .unset, .unset, .unset, .unset, .unset, .unset, .unset, .unset, .unset, .unset, .unset, .unset, .unset, .unset]) rfl ?_
    refine own_s_lloadN Xw25.here hx (hb hby at_41) (pc' := 42) rfl rfl ?_
    refine own_s_iconst Xw25.here hx (hb hby at_42) (pc' := 43) rfl (v := (2 : Int32)) (by decide) ?_
    refine stw26 _ ?_
    show Steps p.tables e below (Tw26.setTop (mkF m 46 #[.val (.long p0), .second, .val (.long p1), .second, .val (.int p2), .val (.int (2 : Int32)), .val (.double (FP.i2d w2_c8_b0_v7)), .second, .val (.double (FP.i2d w2_c15_b1_v7)), .second, .val (.double (FP.i2d w2_c22_b2_v7)), .second, .val (.double (FP.i2d w2_c29_b0_v7)), .second, .val (.double (FP.i2d w2_c36_b1_v7)), .second, .unset, .unset, .unset, .unset, .unset, .unset, .unset, .unset, .unset, .unset, .unset, .unset, .unset, .unset, .unset, .unset, .unset] [(.double (FP.i2d w2_c43_b2_v7))])) _
    refine own_s_dstore Xw26.here hx (hb hby at_46) (pc' := 48) rfl (L' := #[.val (.long p0), .second, .val (.long p1), .second, .val (.int p2), .val (.int (2 : Int32)), .val (.double (FP.i2d w2_c8_b0_v7)), .second, .val (.double (FP.i2d w2_c15_b1_v7)), .second, .val (.double (FP.i2d w2_c22_b2_v7)), .second, .val (.double (FP.i2d w2_c29_b0_v7)), .second, .val (.double (FP.i2d w2_c36_b1_v7)), .second, .val (.double (FP.i2d w2_c43_b2_v7)), .second, .unset, .unset, .unset, .unset, .unset, .unset, .unset, .unset, .unset, .unset, .unset, .unset, .unset, .unset, .unset]) rfl ?_
    refine own_s_lloadN Xw26.here hx (hb hby at_48) (pc' := 49) rfl rfl ?_
    refine own_s_iconst Xw26.here hx (hb hby at_49) (pc' := 50) rfl (v := (3 : Int32)) (by decide) ?_
    refine stw27 _ ?_
    show Steps p.tables e below (Tw27.setTop (mkF m 53 #[.val (.long p0), .second, .val (.long p1), .second, .val (.int p2), .val (.int (2 : Int32)), .val (.double (FP.i2d w2_c8_b0_v7)), .second, .val (.double (FP.i2d w2_c15_b1_v7)), .second, .val (.double (FP.i2d w2_c22_b2_v7)), .second, .val (.double (FP.i2d w2_c29_b0_v7)), .second, .val (.double (FP.i2d w2_c36_b1_v7)), .second, .val (.double (FP.i2d w2_c43_b2_v7)), .second, .unset, .unset, .unset, .unset, .unset, .unset, .unset, .unset, .unset, .unset, .unset, .unset, .unset, .unset, .unset] [(.double (FP.i2d w2_c50_b3_v7))])) _
    refine own_s_dstore Xw27.here hx (hb hby at_53) (pc' := 55) rfl (L' := #[.val (.long p0), .second, .val (.long p1), .second, .val (.int p2), .val (.int (2 : Int32)), .val (.double (FP.i2d w2_c8_b0_v7)), .second, .val (.double (FP.i2d w2_c15_b1_v7)), .second, .val (.double (FP.i2d w2_c22_b2_v7)), .second, .val (.double (FP.i2d w2_c29_b0_v7)), .second, .val (.double (FP.i2d w2_c36_b1_v7)), .second, .val (.double (FP.i2d w2_c43_b2_v7)), .second, .val (.double (FP.i2d w2_c50_b3_v7)), .second, .unset, .unset, .unset, .unset, .unset, .unset, .unset, .unset, .unset, .unset, .unset, .unset, .unset]) rfl ?_
    refine own_s_lloadN Xw27.here hx (hb hby at_55) (pc' := 56) rfl rfl ?_
    refine own_s_iconst Xw27.here hx (hb hby at_56) (pc' := 57) rfl (v := (4 : Int32)) (by decide) ?_
    refine stw28 _ ?_
    show Steps p.tables e below (Tw28.setTop (mkF m 60 #[.val (.long p0), .second, .val (.long p1), .second, .val (.int p2), .val (.int (2 : Int32)), .val (.double (FP.i2d w2_c8_b0_v7)), .second, .val (.double (FP.i2d w2_c15_b1_v7)), .second, .val (.double (FP.i2d w2_c22_b2_v7)), .second, .val (.double (FP.i2d w2_c29_b0_v7)), .second, .val (.double (FP.i2d w2_c36_b1_v7)), .second, .val (.double (FP.i2d w2_c43_b2_v7)), .second, .val (.double (FP.i2d w2_c50_b3_v7)), .second, .unset, .unset, .unset, .unset, .unset, .unset, .unset, .unset, .unset, .unset, .unset, .unset, .unset] [(.double (FP.i2d w2_c57_b4_v7))])) _
    refine own_s_dstore Xw28.here hx (hb hby at_60) (pc' := 62) rfl (L' := #[.val (.long p0), .second, .val (.long p1), .second, .val (.int p2), .val (.int (2 : Int32)), .val (.double (FP.i2d w2_c8_b0_v7)), .second, .val (.double (FP.i2d w2_c15_b1_v7)), .second, .val (.double (FP.i2d w2_c22_b2_v7)), .second, .val (.double (FP.i2d w2_c29_b0_v7)), .second, .val (.double (FP.i2d w2_c36_b1_v7)), .second, .val (.double (FP.i2d w2_c43_b2_v7)), .second, .val (.double (FP.i2d w2_c50_b3_v7)), .second, .val (.double (FP.i2d w2_c57_b4_v7)), .second, .unset, .unset, .unset, .unset, .unset, .unset, .unset, .unset, .unset, .unset, .unset]) rfl ?_
    refine own_s_lloadN Xw28.here hx (hb hby at_62) (pc' := 63) rfl rfl ?_
    refine own_s_iconst Xw28.here hx (hb hby at_63) (pc' := 64) rfl (v := (5 : Int32)) (by decide) ?_
    refine stw29 _ ?_
    show Steps p.tables e below (Tw29.setTop (mkF m 67 #[.val (.long p0), .second, .val (.long p1), .second, .val (.int p2), .val (.int (2 : Int32)), .val (.double (FP.i2d w2_c8_b0_v7)), .second, .val (.double (FP.i2d w2_c15_b1_v7)), .second, .val (.double (FP.i2d w2_c22_b2_v7)), .second, .val (.double (FP.i2d w2_c29_b0_v7)), .second, .val (.double (FP.i2d w2_c36_b1_v7)), .second, .val (.double (FP.i2d w2_c43_b2_v7)), .second, .val (.double (FP.i2d w2_c50_b3_v7)), .second, .val (.double (FP.i2d w2_c57_b4_v7)), .second, .unset, .unset, .unset, .unset, .unset, .unset, .unset, .unset, .unset, .unset, .unset] [(.double (FP.i2d w2_c64_b5_v7))])) _
    refine own_s_dstore Xw29.here hx (hb hby at_67) (pc' := 69) rfl (L' := #[.val (.long p0), .second, .val (.long p1), .second, .val (.int p2), .val (.int (2 : Int32)), .val (.double (FP.i2d w2_c8_b0_v7)), .second, .val (.double (FP.i2d w2_c15_b1_v7)), .second, .val (.double (FP.i2d w2_c22_b2_v7)), .second, .val (.double (FP.i2d w2_c29_b0_v7)), .second, .val (.double (FP.i2d w2_c36_b1_v7)), .second, .val (.double (FP.i2d w2_c43_b2_v7)), .second, .val (.double (FP.i2d w2_c50_b3_v7)), .second, .val (.double (FP.i2d w2_c57_b4_v7)), .second, .val (.double (FP.i2d w2_c64_b5_v7)), .second, .unset, .unset, .unset, .unset, .unset, .unset, .unset, .unset, .unset]) rfl ?_
    refine own_s_lloadN Xw29.here hx (hb hby at_69) (pc' := 70) rfl rfl ?_
    refine own_s_bipush Xw29.here hx (hb hby at_70) (pc' := 72) rfl (v := (6 : Int32)) (by decide) ?_
    refine stw210 _ ?_
    show Steps p.tables e below (Tw210.setTop (mkF m 75 #[.val (.long p0), .second, .val (.long p1), .second, .val (.int p2), .val (.int (2 : Int32)), .val (.double (FP.i2d w2_c8_b0_v7)), .second, .val (.double (FP.i2d w2_c15_b1_v7)), .second, .val (.double (FP.i2d w2_c22_b2_v7)), .second, .val (.double (FP.i2d w2_c29_b0_v7)), .second, .val (.double (FP.i2d w2_c36_b1_v7)), .second, .val (.double (FP.i2d w2_c43_b2_v7)), .second, .val (.double (FP.i2d w2_c50_b3_v7)), .second, .val (.double (FP.i2d w2_c57_b4_v7)), .second, .val (.double (FP.i2d w2_c64_b5_v7)), .second, .unset, .unset, .unset, .unset, .unset, .unset, .unset, .unset, .unset] [(.double (FP.i2d w2_c72_b6_v7))])) _
    refine own_s_dstore Xw210.here hx (hb hby at_75) (pc' := 77) rfl (L' := #[.val (.long p0), .second, .val (.long p1), .second, .val (.int p2), .val (.int (2 : Int32)), .val (.double (FP.i2d w2_c8_b0_v7)), .second, .val (.double (FP.i2d w2_c15_b1_v7)), .second, .val (.double (FP.i2d w2_c22_b2_v7)), .second, .val (.double (FP.i2d w2_c29_b0_v7)), .second, .val (.double (FP.i2d w2_c36_b1_v7)), .second, .val (.double (FP.i2d w2_c43_b2_v7)), .second, .val (.double (FP.i2d w2_c50_b3_v7)), .second, .val (.double (FP.i2d w2_c57_b4_v7)), .second, .val (.double (FP.i2d w2_c64_b5_v7)), .second, .val (.double (FP.i2d w2_c72_b6_v7)), .second, .unset, .unset, .unset, .unset, .unset, .unset, .unset]) rfl ?_
    refine own_s_lloadN Xw210.here hx (hb hby at_77) (pc' := 78) rfl rfl ?_
    refine own_s_bipush Xw210.here hx (hb hby at_78) (pc' := 80) rfl (v := (7 : Int32)) (by decide) ?_
    refine stw211 _ ?_
    show Steps p.tables e below (Tw211.setTop (mkF m 83 #[.val (.long p0), .second, .val (.long p1), .second, .val (.int p2), .val (.int (2 : Int32)), .val (.double (FP.i2d w2_c8_b0_v7)), .second, .val (.double (FP.i2d w2_c15_b1_v7)), .second, .val (.double (FP.i2d w2_c22_b2_v7)), .second, .val (.double (FP.i2d w2_c29_b0_v7)), .second, .val (.double (FP.i2d w2_c36_b1_v7)), .second, .val (.double (FP.i2d w2_c43_b2_v7)), .second, .val (.double (FP.i2d w2_c50_b3_v7)), .second, .val (.double (FP.i2d w2_c57_b4_v7)), .second, .val (.double (FP.i2d w2_c64_b5_v7)), .second, .val (.double (FP.i2d w2_c72_b6_v7)), .second, .unset, .unset, .unset, .unset, .unset, .unset, .unset] [(.double (FP.i2d w2_c80_b7_v7))])) _
    refine own_s_dstore Xw211.here hx (hb hby at_83) (pc' := 85) rfl (L' := #[.val (.long p0), .second, .val (.long p1), .second, .val (.int p2), .val (.int (2 : Int32)), .val (.double (FP.i2d w2_c8_b0_v7)), .second, .val (.double (FP.i2d w2_c15_b1_v7)), .second, .val (.double (FP.i2d w2_c22_b2_v7)), .second, .val (.double (FP.i2d w2_c29_b0_v7)), .second, .val (.double (FP.i2d w2_c36_b1_v7)), .second, .val (.double (FP.i2d w2_c43_b2_v7)), .second, .val (.double (FP.i2d w2_c50_b3_v7)), .second, .val (.double (FP.i2d w2_c57_b4_v7)), .second, .val (.double (FP.i2d w2_c64_b5_v7)), .second, .val (.double (FP.i2d w2_c72_b6_v7)), .second, .val (.double (FP.i2d w2_c80_b7_v7)), .second, .unset, .unset, .unset, .unset, .unset]) rfl ?_
    refine own_s_lloadN Xw211.here hx (hb hby at_85) (pc' := 86) rfl rfl ?_
    refine own_s_iconst Xw211.here hx (hb hby at_86) (pc' := 87) rfl (v := (3 : Int32)) (by decide) ?_
    refine stw212 _ ?_
    show Steps p.tables e below (Tw212.setTop (mkF m 90 #[.val (.long p0), .second, .val (.long p1), .second, .val (.int p2), .val (.int (2 : Int32)), .val (.double (FP.i2d w2_c8_b0_v7)), .second, .val (.double (FP.i2d w2_c15_b1_v7)), .second, .val (.double (FP.i2d w2_c22_b2_v7)), .second, .val (.double (FP.i2d w2_c29_b0_v7)), .second, .val (.double (FP.i2d w2_c36_b1_v7)), .second, .val (.double (FP.i2d w2_c43_b2_v7)), .second, .val (.double (FP.i2d w2_c50_b3_v7)), .second, .val (.double (FP.i2d w2_c57_b4_v7)), .second, .val (.double (FP.i2d w2_c64_b5_v7)), .second, .val (.double (FP.i2d w2_c72_b6_v7)), .second, .val (.double (FP.i2d w2_c80_b7_v7)), .second, .unset, .unset, .unset, .unset, .unset] [(.double (FP.i2d w2_c87_b3_v7))])) _
    refine own_s_dstore Xw212.here hx (hb hby at_90) (pc' := 92) rfl (L' := #[.val (.long p0), .second, .val (.long p1), .second, .val (.int p2), .val (.int (2 : Int32)), .val (.double (FP.i2d w2_c8_b0_v7)), .second, .val (.double (FP.i2d w2_c15_b1_v7)), .second, .val (.double (FP.i2d w2_c22_b2_v7)), .second, .val (.double (FP.i2d w2_c29_b0_v7)), .second, .val (.double (FP.i2d w2_c36_b1_v7)), .second, .val (.double (FP.i2d w2_c43_b2_v7)), .second, .val (.double (FP.i2d w2_c50_b3_v7)), .second, .val (.double (FP.i2d w2_c57_b4_v7)), .second, .val (.double (FP.i2d w2_c64_b5_v7)), .second, .val (.double (FP.i2d w2_c72_b6_v7)), .second, .val (.double (FP.i2d w2_c80_b7_v7)), .second, .val (.double (FP.i2d w2_c87_b3_v7)), .second, .unset, .unset, .unset]) rfl ?_
    refine own_s_iload Xw212.here hx (hb hby at_92) (pc' := 94) rfl rfl ?_
    refine own_s_ifYes Xw212.here hx (hb hby at_94) (by decide) (pc' := 120) (by decide) (by decide) ?_
    refine own_s_iload Xw212.here hx (hb hby at_120) (pc' := 122) rfl rfl ?_
    refine own_s_iconst Xw212.here hx (hb hby at_122) (pc' := 123) rfl (v := (1 : Int32)) (by decide) ?_
    refine own_s_icmpYes Xw212.here hx (hb hby at_123) (by decide) (pc' := 181) (by decide) (by decide) ?_
    refine own_s_iload Xw212.here hx (hb hby at_181) (pc' := 183) rfl rfl ?_
    refine own_s_iconst Xw212.here hx (hb hby at_183) (pc' := 184) rfl (v := (2 : Int32)) (by decide) ?_
    refine own_s_icmpNo Xw212.here hx (hb hby at_184) (pc' := 187) rfl (by decide) ?_
    refine own_s_iconst Xw212.here hx (hb hby at_187) (pc' := 188) rfl (v := (2 : Int32)) (by decide) ?_
    refine stw213 _ ?_
    refine own_s_dup Xw213.here hx (hb hby at_190) (pc' := 191) rfl rfl ?_
    refine own_s_iconst Xw213.here hx (hb hby at_191) (pc' := 192) rfl (v := (0 : Int32)) (by decide) ?_
    refine own_s_dload Xw213.here hx (hb hby at_192) (pc' := 194) rfl rfl ?_
    refine stw214 _ ?_
    refine own_s_dup Xw214.here hx (hb hby at_195) (pc' := 196) rfl rfl ?_
    refine own_s_iconst Xw214.here hx (hb hby at_196) (pc' := 197) rfl (v := (1 : Int32)) (by decide) ?_
    refine own_s_dload Xw214.here hx (hb hby at_197) (pc' := 199) rfl rfl ?_
    refine stw215 _ ?_
    refine own_s_astore Xw215.here hx (hb hby at_200) (pc' := 202) rfl rfl (L' := #[.val (.long p0), .second, .val (.long p1), .second, .val (.int p2), .val (.int (2 : Int32)), .val (.double (FP.i2d w2_c8_b0_v7)), .second, .val (.double (FP.i2d w2_c15_b1_v7)), .second, .val (.double (FP.i2d w2_c22_b2_v7)), .second, .val (.double (FP.i2d w2_c29_b0_v7)), .second, .val (.double (FP.i2d w2_c36_b1_v7)), .second, .val (.double (FP.i2d w2_c43_b2_v7)), .second, .val (.double (FP.i2d w2_c50_b3_v7)), .second, .val (.double (FP.i2d w2_c57_b4_v7)), .second, .val (.double (FP.i2d w2_c64_b5_v7)), .second, .val (.double (FP.i2d w2_c72_b6_v7)), .second, .val (.double (FP.i2d w2_c80_b7_v7)), .second, .val (.double (FP.i2d w2_c87_b3_v7)), .second, .val (.ref bw213), .unset, .unset]) rfl ?_
    refine own_s_iconst Xw215.here hx (hb hby at_202) (pc' := 203) rfl (v := (4 : Int32)) (by decide) ?_
    refine stw216 _ ?_
    refine own_s_dup Xw216.here hx (hb hby at_205) (pc' := 206) rfl rfl ?_
    refine own_s_iconst Xw216.here hx (hb hby at_206) (pc' := 207) rfl (v := (0 : Int32)) (by decide) ?_
    refine own_s_dload Xw216.here hx (hb hby at_207) (pc' := 209) rfl rfl ?_
    refine stw217 _ ?_
    refine own_s_dup Xw217.here hx (hb hby at_210) (pc' := 211) rfl rfl ?_
    refine own_s_iconst Xw217.here hx (hb hby at_211) (pc' := 212) rfl (v := (1 : Int32)) (by decide) ?_
    refine own_s_dload Xw217.here hx (hb hby at_212) (pc' := 214) rfl rfl ?_
    refine stw218 _ ?_
    refine own_s_dup Xw218.here hx (hb hby at_215) (pc' := 216) rfl rfl ?_
    refine own_s_iconst Xw218.here hx (hb hby at_216) (pc' := 217) rfl (v := (2 : Int32)) (by decide) ?_
    refine own_s_dload Xw218.here hx (hb hby at_217) (pc' := 219) rfl rfl ?_
    refine stw219 _ ?_
    refine own_s_dup Xw219.here hx (hb hby at_220) (pc' := 221) rfl rfl ?_
    refine own_s_iconst Xw219.here hx (hb hby at_221) (pc' := 222) rfl (v := (3 : Int32)) (by decide) ?_
    refine own_s_dload Xw219.here hx (hb hby at_222) (pc' := 224) rfl rfl ?_
    refine stw220 _ ?_
    refine own_s_astore Xw220.here hx (hb hby at_225) (pc' := 227) rfl rfl (L' := #[.val (.long p0), .second, .val (.long p1), .second, .val (.int p2), .val (.int (2 : Int32)), .val (.double (FP.i2d w2_c8_b0_v7)), .second, .val (.double (FP.i2d w2_c15_b1_v7)), .second, .val (.double (FP.i2d w2_c22_b2_v7)), .second, .val (.double (FP.i2d w2_c29_b0_v7)), .second, .val (.double (FP.i2d w2_c36_b1_v7)), .second, .val (.double (FP.i2d w2_c43_b2_v7)), .second, .val (.double (FP.i2d w2_c50_b3_v7)), .second, .val (.double (FP.i2d w2_c57_b4_v7)), .second, .val (.double (FP.i2d w2_c64_b5_v7)), .second, .val (.double (FP.i2d w2_c72_b6_v7)), .second, .val (.double (FP.i2d w2_c80_b7_v7)), .second, .val (.double (FP.i2d w2_c87_b3_v7)), .second, .val (.ref bw213), .val (.ref bw216), .unset]) rfl ?_
    refine own_s_aload Xw220.here hx (hb hby at_227) (pc' := 229) rfl rfl rfl ?_
    refine own_s_aload Xw220.here hx (hb hby at_229) (pc' := 231) rfl rfl rfl ?_
    refine stw221 _ ?_
    show Steps p.tables e below (Tw221.setTop (mkF m 234 #[.val (.long p0), .second, .val (.long p1), .second, .val (.int p2), .val (.int (2 : Int32)), .val (.double (FP.i2d w2_c8_b0_v7)), .second, .val (.double (FP.i2d w2_c15_b1_v7)), .second, .val (.double (FP.i2d w2_c22_b2_v7)), .second, .val (.double (FP.i2d w2_c29_b0_v7)), .second, .val (.double (FP.i2d w2_c36_b1_v7)), .second, .val (.double (FP.i2d w2_c43_b2_v7)), .second, .val (.double (FP.i2d w2_c50_b3_v7)), .second, .val (.double (FP.i2d w2_c57_b4_v7)), .second, .val (.double (FP.i2d w2_c64_b5_v7)), .second, .val (.double (FP.i2d w2_c72_b6_v7)), .second, .val (.double (FP.i2d w2_c80_b7_v7)), .second, .val (.double (FP.i2d w2_c87_b3_v7)), .second, .val (.ref bw213), .val (.ref bw216), .unset] [(.ref bw221)])) _
    refine own_s_astore Xw221.here hx (hb hby at_234) (pc' := 236) rfl rfl (L' := #[.val (.long p0), .second, .val (.long p1), .second, .val (.int p2), .val (.int (2 : Int32)), .val (.double (FP.i2d w2_c8_b0_v7)), .second, .val (.double (FP.i2d w2_c15_b1_v7)), .second, .val (.double (FP.i2d w2_c22_b2_v7)), .second, .val (.double (FP.i2d w2_c29_b0_v7)), .second, .val (.double (FP.i2d w2_c36_b1_v7)), .second, .val (.double (FP.i2d w2_c43_b2_v7)), .second, .val (.double (FP.i2d w2_c50_b3_v7)), .second, .val (.double (FP.i2d w2_c57_b4_v7)), .second, .val (.double (FP.i2d w2_c64_b5_v7)), .second, .val (.double (FP.i2d w2_c72_b6_v7)), .second, .val (.double (FP.i2d w2_c80_b7_v7)), .second, .val (.double (FP.i2d w2_c87_b3_v7)), .second, .val (.ref bw213), .val (.ref bw216), .val (.ref bw221)]) rfl ?_
    refine own_s_aload Xw221.here hx (hb hby at_236) (pc' := 238) rfl rfl rfl ?_
    refine own_len Xw221 hx hZ rfl qw221_0 (hb hby at_238) (pc' := 239) rfl ?_
    refine own_s_iconst Xw221.here hx (hb hby at_239) (pc' := 240) rfl (v := (2 : Int32)) (by decide) ?_
    refine own_s_icmpNo Xw221.here hx (hb hby at_240) (pc' := 243) rfl (by decide) ?_
    refine own_s_aload Xw221.here hx (hb hby at_243) (pc' := 245) rfl rfl rfl ?_
    refine own_s_iconst Xw221.here hx (hb hby at_245) (pc' := 246) rfl (v := (0 : Int32)) (by decide) ?_
    refine own_ldD Xw221 hx hZ rfl qw221_0 (j := (0 : Int32)) (x := w2_c231_c2_v44_2) (by decide) rfl (hb hby at_246) (pc' := 247) rfl ?_
    refine own_s_dload Xw221.here hx (hb hby at_247) (pc' := 249) rfl rfl ?_
    refine own_s_dload Xw221.here hx (hb hby at_249) (pc' := 251) rfl rfl ?_
    refine own_s_dmul Xw221.here hx (hb hby at_251) (pc' := 252) rfl w2_hn251 (v := w2_v251) w2_hv251 ?_
    refine own_s_dload Xw221.here hx (hb hby at_252) (pc' := 254) rfl rfl ?_
    refine own_s_dload Xw221.here hx (hb hby at_254) (pc' := 256) rfl rfl ?_
    refine own_s_dmul Xw221.here hx (hb hby at_256) (pc' := 257) rfl w2_hn256 (v := w2_v256) w2_hv256 ?_
    refine own_s_dadd Xw221.here hx (hb hby at_257) (pc' := 258) rfl w2_hn257 (v := w2_v257) w2_hv257 ?_
    refine own_s_dcmp Xw221.here hx (hb hby at_258) (pc' := 259) rfl (v := (0 : Int32)) w2_hc258 ?_
    refine own_s_ifNo Xw221.here hx (hb hby at_259) (pc' := 262) rfl (by decide) ?_
    refine own_s_aload Xw221.here hx (hb hby at_262) (pc' := 264) rfl rfl rfl ?_
    refine own_s_iconst Xw221.here hx (hb hby at_264) (pc' := 265) rfl (v := (1 : Int32)) (by decide) ?_
    refine own_ldD Xw221 hx hZ rfl qw221_0 (j := (1 : Int32)) (x := w2_c231_c2_v44_4) (by decide) rfl (hb hby at_265) (pc' := 266) rfl ?_
    refine own_s_dload Xw221.here hx (hb hby at_266) (pc' := 268) rfl rfl ?_
    refine own_s_dload Xw221.here hx (hb hby at_268) (pc' := 270) rfl rfl ?_
    refine own_s_dmul Xw221.here hx (hb hby at_270) (pc' := 271) rfl w2_hn270 (v := w2_v270) w2_hv270 ?_
    refine own_s_dload Xw221.here hx (hb hby at_271) (pc' := 273) rfl rfl ?_
    refine own_s_dload Xw221.here hx (hb hby at_273) (pc' := 275) rfl rfl ?_
    refine own_s_dmul Xw221.here hx (hb hby at_275) (pc' := 276) rfl w2_hn275 (v := w2_v275) w2_hv275 ?_
    refine own_s_dadd Xw221.here hx (hb hby at_276) (pc' := 277) rfl w2_hn276 (v := w2_v276) w2_hv276 ?_
    refine own_s_dcmp Xw221.here hx (hb hby at_277) (pc' := 278) rfl (v := (0 : Int32)) w2_hc277 ?_
    refine own_s_ifNo Xw221.here hx (hb hby at_278) (pc' := 281) rfl (by decide) ?_
    refine own_s_iconst Xw221.here hx (hb hby at_281) (pc' := 282) rfl (v := (1 : Int32)) (by decide) ?_
    refine own_s_goto Xw221.here hx (hb hby at_282) (by decide) (pc' := 286) (by decide) ?_
    exact retN Xw221 hx (t := .boolean) Bd.returns (by simp) (hb hby at_286) hr
  · show own_Q0 n0 _ Tw221.heap _
    exact ⟨rfl, Nw221⟩
theorem own_ef_c3 (m : MethodId) (qa : Addr) (qb : Addr) : entryFrame m #[(.ref qa), (.ref qb)] 8 = mkF m 0 #[.val (.ref qa), .val (.ref qb), .unset, .unset, .unset, .unset, .unset, .unset] [] := by first | (simp [entryFrame, mkF, argsToLocals, Value.category]; done) | rfl
def own_Q_c3 (Z : State) (qa : Addr) (d0 : UInt64) (d1 : UInt64) (d2 : UInt64) (qb : Addr) (ee0 : UInt64) (ee1 : UInt64) (ee2 : UInt64) (ee3 : UInt64) (ee4 : UInt64) (ee5 : UInt64) (ee6 : UInt64) (ee7 : UInt64) (ee8 : UInt64) (qak : ClassId) (qbk : ClassId) (c3_v43 : UInt64) (c3_v44 : UInt64) (c3_v43_2 : UInt64) (c3_v44_2 : UInt64) (c3_v43_3 : UInt64) (c3_v44_3 : UInt64) (c3_v43_4 : UInt64) (c3_v44_4 : UInt64) (c3_v43_5 : UInt64) (c3_v44_5 : UInt64) (c3_v43_6 : UInt64) (c3_v44_6 : UInt64) (c3_v43_7 : UInt64) (c3_v44_7 : UInt64) (c3_v43_8 : UInt64) (c3_v44_8 : UInt64) (c3_v43_9 : UInt64) (c3_v44_9 : UInt64) (h0 : Heap) (n0 : Nat) (v : Option Value) (h : Heap) (L : List Loc) : Prop := ∃ (bc31 : Addr) (kc31 : ClassId), v = some (.ref bc31) ∧ Fr n0 L ∧ Keep h0 h [] ∧ h0.size ≤ bc31 ∧ Arv Z h bc31 kc31 .double (3 : Int32) [(.double c3_v44_3), (.double c3_v44_6), (.double c3_v44_9)] (.double 0)
set_option maxRecDepth 65536 in
set_option maxHeartbeats 40000000 in
theorem own_rm_c3 (l : Launch) (Z : State) (a0 : Array Value) (hw : ∀ d ∈ tables_1, d.before a0 Z = true) (ws : List Jvm.Cond) (qa : Addr) (d0 : UInt64) (d1 : UInt64) (d2 : UInt64) (qb : Addr) (ee0 : UInt64) (ee1 : UInt64) (ee2 : UInt64) (ee3 : UInt64) (ee4 : UInt64) (ee5 : UInt64) (ee6 : UInt64) (ee7 : UInt64) (ee8 : UInt64) {qak : ClassId} {qbk : ClassId} {c3_v43 : UInt64} {c3_v44 : UInt64} {c3_v43_2 : UInt64} {c3_v44_2 : UInt64} {c3_v43_3 : UInt64} {c3_v44_3 : UInt64} {c3_v43_4 : UInt64} {c3_v44_4 : UInt64} {c3_v43_5 : UInt64} {c3_v44_5 : UInt64} {c3_v43_6 : UInt64} {c3_v44_6 : UInt64} {c3_v43_7 : UInt64} {c3_v44_7 : UInt64} {c3_v43_8 : UInt64} {c3_v44_8 : UInt64} {c3_v43_9 : UInt64} {c3_v44_9 : UInt64} (h0 : Heap) (n0 : Nat) (Z0 : n0 ≤ h0.size) (V_qa : Arv Z h0 qa qak .double (3 : Int32) [(.double d0), (.double d1), (.double d2)] (.double 0)) (V_qb : Arv Z h0 qb qbk .double (9 : Int32) [(.double ee0), (.double ee1), (.double ee2), (.double ee3), (.double ee4), (.double ee5), (.double ee6), (.double ee7), (.double ee8)] (.double 0)) (c3_hn43 : Jvm.Free.Fl.NoNaN64 (FP.dmul d0 ee0)) (c3_hv43 : FP.dmul d0 ee0 = c3_v43) (c3_hn44 : Jvm.Free.Fl.NoNaN64 (FP.dadd 0 c3_v43)) (c3_hv44 : FP.dadd 0 c3_v43 = c3_v44) (c3_hn43_2 : Jvm.Free.Fl.NoNaN64 (FP.dmul d1 ee1)) (c3_hv43_2 : FP.dmul d1 ee1 = c3_v43_2) (c3_hn44_2 : Jvm.Free.Fl.NoNaN64 (FP.dadd c3_v44 c3_v43_2)) (c3_hv44_2 : FP.dadd c3_v44 c3_v43_2 = c3_v44_2) (c3_hn43_3 : Jvm.Free.Fl.NoNaN64 (FP.dmul d2 ee2)) (c3_hv43_3 : FP.dmul d2 ee2 = c3_v43_3) (c3_hn44_3 : Jvm.Free.Fl.NoNaN64 (FP.dadd c3_v44_2 c3_v43_3)) (c3_hv44_3 : FP.dadd c3_v44_2 c3_v43_3 = c3_v44_3) (c3_hn43_4 : Jvm.Free.Fl.NoNaN64 (FP.dmul d0 ee3)) (c3_hv43_4 : FP.dmul d0 ee3 = c3_v43_4) (c3_hn44_4 : Jvm.Free.Fl.NoNaN64 (FP.dadd 0 c3_v43_4)) (c3_hv44_4 : FP.dadd 0 c3_v43_4 = c3_v44_4) (c3_hn43_5 : Jvm.Free.Fl.NoNaN64 (FP.dmul d1 ee4)) (c3_hv43_5 : FP.dmul d1 ee4 = c3_v43_5) (c3_hn44_5 : Jvm.Free.Fl.NoNaN64 (FP.dadd c3_v44_4 c3_v43_5)) (c3_hv44_5 : FP.dadd c3_v44_4 c3_v43_5 = c3_v44_5) (c3_hn43_6 : Jvm.Free.Fl.NoNaN64 (FP.dmul d2 ee5)) (c3_hv43_6 : FP.dmul d2 ee5 = c3_v43_6) (c3_hn44_6 : Jvm.Free.Fl.NoNaN64 (FP.dadd c3_v44_5 c3_v43_6)) (c3_hv44_6 : FP.dadd c3_v44_5 c3_v43_6 = c3_v44_6) (c3_hn43_7 : Jvm.Free.Fl.NoNaN64 (FP.dmul d0 ee6)) (c3_hv43_7 : FP.dmul d0 ee6 = c3_v43_7) (c3_hn44_7 : Jvm.Free.Fl.NoNaN64 (FP.dadd 0 c3_v43_7)) (c3_hv44_7 : FP.dadd 0 c3_v43_7 = c3_v44_7) (c3_hn43_8 : Jvm.Free.Fl.NoNaN64 (FP.dmul d1 ee7)) (c3_hv43_8 : FP.dmul d1 ee7 = c3_v43_8) (c3_hn44_8 : Jvm.Free.Fl.NoNaN64 (FP.dadd c3_v44_7 c3_v43_8)) (c3_hv44_8 : FP.dadd c3_v44_7 c3_v43_8 = c3_v44_8) (c3_hn43_9 : Jvm.Free.Fl.NoNaN64 (FP.dmul d2 ee8)) (c3_hv43_9 : FP.dmul d2 ee8 = c3_v43_9) (c3_hn44_9 : Jvm.Free.Fl.NoNaN64 (FP.dadd c3_v44_8 c3_v43_9)) (c3_hv44_9 : FP.dadd c3_v44_8 c3_v43_9 = c3_v44_9) :
    MetFree l (⟨"com/example/differentia/differentia/problems/Cec2013Transforms", "rotate", "([D[D)[D"⟩ : MethodName) (head1 (Jvm.Cond.code (⟨"com/example/differentia/differentia/problems/Cec2013Transforms", "rotate", "([D[D)[D"⟩ : MethodName) prog_63_method_5_code 8 (some (.array .double)) :: ws) ({ frames := 0, cells := 1, slots := 3, locals := 0 } : Room)) (fun a U => a = #[(.ref qa), (.ref qb)] ∧ Z.Warmed39 U.vm ∧ U.heap = h0) (fun _ _ _ _ _ => True) (fun _ U o U' => ∃ v L, o = .returned v ∧ own_Q_c3 Z qa d0 d1 d2 qb ee0 ee1 ee2 ee3 ee4 ee5 ee6 ee7 ee8 qak qbk c3_v43 c3_v44 c3_v43_2 c3_v44_2 c3_v43_3 c3_v44_3 c3_v43_4 c3_v44_4 c3_v43_5 c3_v44_5 c3_v43_6 c3_v44_6 c3_v43_7 c3_v44_7 c3_v43_8 c3_v44_8 c3_v43_9 c3_v44_9 h0 n0 v U'.heap L ∧ FrameEnd U o U' L ({ frames := 0, cells := 1, slots := 3, locals := 0 } : Room).cells ({ frames := 0, cells := 1, slots := 3, locals := 0 } : Room).slots) := by
  refine MetFree.of_bodySF (plainFor_of_name own_pn_com_example_differentia_differentia_problems_Cec2013Transforms) hisR ?_
  intro p e s m args below meth c s₁ Bd hml0 hP hK
  obtain ⟨rfl, hZ, hh⟩ := hP
  have hx := Bd.exec
  have hby := Bd.bytes
  have hml : c.maxLocals = 8 := hml0
  have hown : s.vm.findClass "com/example/differentia/differentia/problems/Cec2013Transforms" = some m.cls := findClass_of_methodNamed Bd.named
  have hnm := (name_of_methodNamed Bd.named Bd.method).1
  have X0 : Stand p l e ({ frames := 0, cells := 1, slots := 3, locals := 0 } : Room) s m #[(.ref qa), (.ref qb)] below meth c s₁ [] 0 0 := Stand.of_body Bd
  have e0 : s₁.heap = h0 := by rw [← hh, Bd.state]; rfl
  have N0 := Fr.nil n0
  have pre0 : ∀ t, Steps p.tables e below (s₁.setTop (mkF m 0 #[.val (.ref qa), .val (.ref qb), .unset, .unset, .unset, .unset, .unset, .unset] [])) t → Steps p.tables e below (s₁.setTop (entryFrame m #[(.ref qa), (.ref qb)] 8)) t := fun t k => castTop (own_ef_c3 m qa qb) k
  obtain ⟨Tc31, hc31, kc31, bc31, Xc31, ec31, Ec31, Gc31, Vc31, stc31⟩ := own_newD (L := #[.val (.ref qa), .val (.ref qb), .val (.int (3 : Int32)), .unset, .unset, .unset, .unset, .unset]) (S := []) X0 hx hZ (hw _ (List.mem_of_getElem? (i := 4) rfl)) e0 (z := (3 : Int32)) 3 (by decide) (by decide) (by decide) (by decide) (by decide) (hb hby own_d2_4) (pc' := 6) rfl
  have ne_qa_bc31 : qa ≠ bc31 := Nat.ne_of_lt (Nat.lt_of_lt_of_le V_qa.lt (Nat.le_of_eq Gc31.symm))
  have ne_bc31_qa : bc31 ≠ qa := Ne.symm ne_qa_bc31
  have ne_qb_bc31 : qb ≠ bc31 := Nat.ne_of_lt (Nat.lt_of_lt_of_le V_qb.lt (Nat.le_of_eq Gc31.symm))
  have ne_bc31_qb : bc31 ≠ qb := Ne.symm ne_qb_bc31
  have g_bc31 : n0 ≤ bc31 := Nat.le_trans Z0 (Nat.le_of_eq Gc31.symm)
  have sz_bc31 : h0.size ≤ bc31 := Nat.le_trans (Keep.refl h0 []).1 (Nat.le_of_eq Gc31.symm)
  have V_qa_c31 := V_qa.ext Ec31
  have V_qb_c31 := V_qb.ext Ec31
  have Zc31 : n0 ≤ hc31.size := Nat.le_trans Z0 Ec31.1
  have KKc31 := (Keep.refl h0 []).ext Ec31
  have V_bc31 : Arv Z hc31 bc31 kc31 .double (3 : Int32) [(.double 0), (.double 0), (.double 0)] (.double 0) := Vc31
  obtain ⟨Tc32, hc32, Xc32, ec32, Wc32, Vc32, stc32⟩ := own_stD (L := #[.val (.ref qa), .val (.ref qb), .val (.int (3 : Int32)), .val (.ref bc31), .val (.int (0 : Int32)), .val (.double c3_v44_3), .second, .val (.int (3 : Int32))]) (S := []) Xc31 hx hZ ec31 V_bc31 (j := (0 : Int32)) (x := c3_v44_3) (by decide) 0 (by decide) (Nat.le_of_ble_eq_true rfl) (hb hby own_d2_58) (pc' := 59) rfl
  have V_qa_c32 := V_qa_c31.other Wc32 ne_qa_bc31
  have V_qb_c32 := V_qb_c31.other Wc32 ne_qb_bc31
  have Zc32 : n0 ≤ hc32.size := Nat.le_trans Zc31 (Nat.le_of_eq Wc32.size.symm)
  have KKc32 := KKc31.wr Wc32 (Or.inr sz_bc31)
  have V_bc31_c32 : Arv Z hc32 bc31 kc31 .double (3 : Int32) [(.double c3_v44_3), (.double 0), (.double 0)] (.double 0) := Vc32
  have Nc32 := Fr.snoc Xc32 N0 g_bc31
  obtain ⟨Tc33, hc33, Xc33, ec33, Wc33, Vc33, stc33⟩ := own_stD (L := #[.val (.ref qa), .val (.ref qb), .val (.int (3 : Int32)), .val (.ref bc31), .val (.int (1 : Int32)), .val (.double c3_v44_6), .second, .val (.int (3 : Int32))]) (S := []) Xc32 hx hZ ec32 V_bc31_c32 (j := (1 : Int32)) (x := c3_v44_6) (by decide) 1 (by decide) (Nat.le_of_ble_eq_true rfl) (hb hby own_d2_58) (pc' := 59) rfl
  have V_qa_c33 := V_qa_c32.other Wc33 ne_qa_bc31
  have V_qb_c33 := V_qb_c32.other Wc33 ne_qb_bc31
  have Zc33 : n0 ≤ hc33.size := Nat.le_trans Zc32 (Nat.le_of_eq Wc33.size.symm)
  have KKc33 := KKc32.wr Wc33 (Or.inr sz_bc31)
  have V_bc31_c33 : Arv Z hc33 bc31 kc31 .double (3 : Int32) [(.double c3_v44_3), (.double c3_v44_6), (.double 0)] (.double 0) := Vc33
  have Nc33 := Fr.snoc Xc33 Nc32 g_bc31
  obtain ⟨Tc34, hc34, Xc34, ec34, Wc34, Vc34, stc34⟩ := own_stD (L := #[.val (.ref qa), .val (.ref qb), .val (.int (3 : Int32)), .val (.ref bc31), .val (.int (2 : Int32)), .val (.double c3_v44_9), .second, .val (.int (3 : Int32))]) (S := []) Xc33 hx hZ ec33 V_bc31_c33 (j := (2 : Int32)) (x := c3_v44_9) (by decide) 2 (by decide) (Nat.le_of_ble_eq_true rfl) (hb hby own_d2_58) (pc' := 59) rfl
  have V_qa_c34 := V_qa_c33.other Wc34 ne_qa_bc31
  have V_qb_c34 := V_qb_c33.other Wc34 ne_qb_bc31
  have Zc34 : n0 ≤ hc34.size := Nat.le_trans Zc33 (Nat.le_of_eq Wc34.size.symm)
  have KKc34 := KKc33.wr Wc34 (Or.inr sz_bc31)
  have V_bc31_c34 : Arv Z hc34 bc31 kc31 .double (3 : Int32) [(.double c3_v44_3), (.double c3_v44_6), (.double c3_v44_9)] (.double 0) := Vc34
  have Nc34 := Fr.snoc Xc34 Nc33 g_bc31
  obtain ⟨fs, hr, hrun, hended, hW, hsame⟩ := Xc34.leave (v := some (.ref bc31)) (fun h => by rw [Bd.returns] at h; cases h)
  refine ⟨_, _, pre0 _ ?_, hrun, hended, _, _, rfl, ?_, ⟨_, rfl⟩, hW, hsame.mono (by decide) (by decide)⟩
  · refine own_s_aloadN X0.here hx (hb hby own_d2_0) (pc' := 1) rfl rfl rfl ?_
    refine own_len X0 hx hZ e0 V_qa (hb hby own_d2_1) (pc' := 2) rfl ?_
    refine own_s_istoreN X0.here hx (hb hby own_d2_2) (pc' := 3) rfl (L' := #[.val (.ref qa), .val (.ref qb), .val (.int (3 : Int32)), .unset, .unset, .unset, .unset, .unset]) rfl ?_
    refine own_s_iloadN X0.here hx (hb hby own_d2_3) (pc' := 4) rfl rfl ?_
    refine stc31 _ ?_
    refine own_s_astoreN Xc31.here hx (hb hby own_d2_6) (pc' := 7) rfl rfl (L' := #[.val (.ref qa), .val (.ref qb), .val (.int (3 : Int32)), .val (.ref bc31), .unset, .unset, .unset, .unset]) rfl ?_
    refine own_s_iconst Xc31.here hx (hb hby own_d2_7) (pc' := 8) rfl (v := (0 : Int32)) (by decide) ?_
    refine own_s_istore Xc31.here hx (hb hby own_d2_8) (pc' := 10) rfl (L' := #[.val (.ref qa), .val (.ref qb), .val (.int (3 : Int32)), .val (.ref bc31), .val (.int (0 : Int32)), .unset, .unset, .unset]) rfl ?_
    refine own_s_iload Xc31.here hx (hb hby own_d2_10) (pc' := 12) rfl rfl ?_
    refine own_s_iloadN Xc31.here hx (hb hby own_d2_12) (pc' := 13) rfl rfl ?_
    refine own_s_icmpNo Xc31.here hx (hb hby own_d2_13) (pc' := 16) rfl (by decide) ?_
    refine own_s_dconst0 Xc31.here hx (hb hby own_d2_16) (pc' := 17) rfl  ?_
    refine own_s_dstore Xc31.here hx (hb hby own_d2_17) (pc' := 19) rfl (L' := #[.val (.ref qa), .val (.ref qb), .val (.int (3 : Int32)), .val (.ref bc31), .val (.int (0 : Int32)), .val (.double 0), .second, .unset]) rfl ?_
    refine own_s_iconst Xc31.here hx (hb hby own_d2_19) (pc' := 20) rfl (v := (0 : Int32)) (by decide) ?_
    refine own_s_istore Xc31.here hx (hb hby own_d2_20) (pc' := 22) rfl (L' := #[.val (.ref qa), .val (.ref qb), .val (.int (3 : Int32)), .val (.ref bc31), .val (.int (0 : Int32)), .val (.double 0), .second, .val (.int (0 : Int32))]) rfl ?_
    refine own_s_iload Xc31.here hx (hb hby own_d2_22) (pc' := 24) rfl rfl ?_
    refine own_s_iloadN Xc31.here hx (hb hby own_d2_24) (pc' := 25) rfl rfl ?_
    refine own_s_icmpNo Xc31.here hx (hb hby own_d2_25) (pc' := 28) rfl (by decide) ?_
    refine own_s_dload Xc31.here hx (hb hby own_d2_28) (pc' := 30) rfl rfl ?_
    refine own_s_aloadN Xc31.here hx (hb hby own_d2_30) (pc' := 31) rfl rfl rfl ?_
    refine own_s_iload Xc31.here hx (hb hby own_d2_31) (pc' := 33) rfl rfl ?_
    refine own_ldD Xc31 hx hZ ec31 V_qa_c31 (j := (0 : Int32)) (x := d0) (by decide) rfl (hb hby own_d2_33) (pc' := 34) rfl ?_
    refine own_s_aloadN Xc31.here hx (hb hby own_d2_34) (pc' := 35) rfl rfl rfl ?_
    refine own_s_iload Xc31.here hx (hb hby own_d2_35) (pc' := 37) rfl rfl ?_
    refine own_s_iloadN Xc31.here hx (hb hby own_d2_37) (pc' := 38) rfl rfl ?_
    refine own_s_imul Xc31.here hx (hb hby own_d2_38) (pc' := 39) rfl (v := (0 : Int32)) (by decide) ?_
    refine own_s_iload Xc31.here hx (hb hby own_d2_39) (pc' := 41) rfl rfl ?_
    refine own_s_iadd Xc31.here hx (hb hby own_d2_41) (pc' := 42) rfl (v := (0 : Int32)) (by decide) ?_
    refine own_ldD Xc31 hx hZ ec31 V_qb_c31 (j := (0 : Int32)) (x := ee0) (by decide) rfl (hb hby own_d2_42) (pc' := 43) rfl ?_
    refine own_s_dmul Xc31.here hx (hb hby own_d2_43) (pc' := 44) rfl c3_hn43 (v := c3_v43) c3_hv43 ?_
    refine own_s_dadd Xc31.here hx (hb hby own_d2_44) (pc' := 45) rfl c3_hn44 (v := c3_v44) c3_hv44 ?_
    refine own_s_dstore Xc31.here hx (hb hby own_d2_45) (pc' := 47) rfl (L' := #[.val (.ref qa), .val (.ref qb), .val (.int (3 : Int32)), .val (.ref bc31), .val (.int (0 : Int32)), .val (.double c3_v44), .second, .val (.int (0 : Int32))]) rfl ?_
    refine own_s_iinc Xc31.here hx (hb hby own_d2_47) (pc' := 50) rfl rfl (v := (1 : Int32)) (by decide) (L' := #[.val (.ref qa), .val (.ref qb), .val (.int (3 : Int32)), .val (.ref bc31), .val (.int (0 : Int32)), .val (.double c3_v44), .second, .val (.int (1 : Int32))]) rfl ?_
    refine own_s_goto Xc31.here hx (hb hby own_d2_50) (by decide) (pc' := 22) (by decide) ?_
    refine own_s_iload Xc31.here hx (hb hby own_d2_22) (pc' := 24) rfl rfl ?_
    refine own_s_iloadN Xc31.here hx (hb hby own_d2_24) (pc' := 25) rfl rfl ?_
    refine own_s_icmpNo Xc31.here hx (hb hby own_d2_25) (pc' := 28) rfl (by decide) ?_
    refine own_s_dload Xc31.here hx (hb hby own_d2_28) (pc' := 30) rfl rfl ?_
    refine own_s_aloadN Xc31.here hx (hb hby own_d2_30) (pc' := 31) rfl rfl rfl ?_
    refine own_s_iload Xc31.here hx (hb hby own_d2_31) (pc' := 33) rfl rfl ?_
    refine own_ldD Xc31 hx hZ ec31 V_qa_c31 (j := (1 : Int32)) (x := d1) (by decide) rfl (hb hby own_d2_33) (pc' := 34) rfl ?_
    refine own_s_aloadN Xc31.here hx (hb hby own_d2_34) (pc' := 35) rfl rfl rfl ?_
    refine own_s_iload Xc31.here hx (hb hby own_d2_35) (pc' := 37) rfl rfl ?_
    refine own_s_iloadN Xc31.here hx (hb hby own_d2_37) (pc' := 38) rfl rfl ?_
    refine own_s_imul Xc31.here hx (hb hby own_d2_38) (pc' := 39) rfl (v := (0 : Int32)) (by decide) ?_
    refine own_s_iload Xc31.here hx (hb hby own_d2_39) (pc' := 41) rfl rfl ?_
    refine own_s_iadd Xc31.here hx (hb hby own_d2_41) (pc' := 42) rfl (v := (1 : Int32)) (by decide) ?_
    refine own_ldD Xc31 hx hZ ec31 V_qb_c31 (j := (1 : Int32)) (x := ee1) (by decide) rfl (hb hby own_d2_42) (pc' := 43) rfl ?_
    refine own_s_dmul Xc31.here hx (hb hby own_d2_43) (pc' := 44) rfl c3_hn43_2 (v := c3_v43_2) c3_hv43_2 ?_
    refine own_s_dadd Xc31.here hx (hb hby own_d2_44) (pc' := 45) rfl c3_hn44_2 (v := c3_v44_2) c3_hv44_2 ?_
    refine own_s_dstore Xc31.here hx (hb hby own_d2_45) (pc' := 47) rfl (L' := #[.val (.ref qa), .val (.ref qb), .val (.int (3 : Int32)), .val (.ref bc31), .val (.int (0 : Int32)), .val (.double c3_v44_2), .second, .val (.int (1 : Int32))]) rfl ?_
    refine own_s_iinc Xc31.here hx (hb hby own_d2_47) (pc' := 50) rfl rfl (v := (2 : Int32)) (by decide) (L' := #[.val (.ref qa), .val (.ref qb), .val (.int (3 : Int32)), .val (.ref bc31), .val (.int (0 : Int32)), .val (.double c3_v44_2), .second, .val (.int (2 : Int32))]) rfl ?_
    refine own_s_goto Xc31.here hx (hb hby own_d2_50) (by decide) (pc' := 22) (by decide) ?_
    refine own_s_iload Xc31.here hx (hb hby own_d2_22) (pc' := 24) rfl rfl ?_
    refine own_s_iloadN Xc31.here hx (hb hby own_d2_24) (pc' := 25) rfl rfl ?_
    refine own_s_icmpNo Xc31.here hx (hb hby own_d2_25) (pc' := 28) rfl (by decide) ?_
    refine own_s_dload Xc31.here hx (hb hby own_d2_28) (pc' := 30) rfl rfl ?_
    refine own_s_aloadN Xc31.here hx (hb hby own_d2_30) (pc' := 31) rfl rfl rfl ?_
    refine own_s_iload Xc31.here hx (hb hby own_d2_31) (pc' := 33) rfl rfl ?_
    refine own_ldD Xc31 hx hZ ec31 V_qa_c31 (j := (2 : Int32)) (x := d2) (by decide) rfl (hb hby own_d2_33) (pc' := 34) rfl ?_
    refine own_s_aloadN Xc31.here hx (hb hby own_d2_34) (pc' := 35) rfl rfl rfl ?_
    refine own_s_iload Xc31.here hx (hb hby own_d2_35) (pc' := 37) rfl rfl ?_
    refine own_s_iloadN Xc31.here hx (hb hby own_d2_37) (pc' := 38) rfl rfl ?_
    refine own_s_imul Xc31.here hx (hb hby own_d2_38) (pc' := 39) rfl (v := (0 : Int32)) (by decide) ?_
    refine own_s_iload Xc31.here hx (hb hby own_d2_39) (pc' := 41) rfl rfl ?_
    refine own_s_iadd Xc31.here hx (hb hby own_d2_41) (pc' := 42) rfl (v := (2 : Int32)) (by decide) ?_
    refine own_ldD Xc31 hx hZ ec31 V_qb_c31 (j := (2 : Int32)) (x := ee2) (by decide) rfl (hb hby own_d2_42) (pc' := 43) rfl ?_
    refine own_s_dmul Xc31.here hx (hb hby own_d2_43) (pc' := 44) rfl c3_hn43_3 (v := c3_v43_3) c3_hv43_3 ?_
    refine own_s_dadd Xc31.here hx (hb hby own_d2_44) (pc' := 45) rfl c3_hn44_3 (v := c3_v44_3) c3_hv44_3 ?_
    refine own_s_dstore Xc31.here hx (hb hby own_d2_45) (pc' := 47) rfl (L' := #[.val (.ref qa), .val (.ref qb), .val (.int (3 : Int32)), .val (.ref bc31), .val (.int (0 : Int32)), .val (.double c3_v44_3), .second, .val (.int (2 : Int32))]) rfl ?_
    refine own_s_iinc Xc31.here hx (hb hby own_d2_47) (pc' := 50) rfl rfl (v := (3 : Int32)) (by decide) (L' := #[.val (.ref qa), .val (.ref qb), .val (.int (3 : Int32)), .val (.ref bc31), .val (.int (0 : Int32)), .val (.double c3_v44_3), .second, .val (.int (3 : Int32))]) rfl ?_
    refine own_s_goto Xc31.here hx (hb hby own_d2_50) (by decide) (pc' := 22) (by decide) ?_
    refine own_s_iload Xc31.here hx (hb hby own_d2_22) (pc' := 24) rfl rfl ?_
    refine own_s_iloadN Xc31.here hx (hb hby own_d2_24) (pc' := 25) rfl rfl ?_
    refine own_s_icmpYes Xc31.here hx (hb hby own_d2_25) (by decide) (pc' := 53) (by decide) (by decide) ?_
    refine own_s_aloadN Xc31.here hx (hb hby own_d2_53) (pc' := 54) rfl rfl rfl ?_
    refine own_s_iload Xc31.here hx (hb hby own_d2_54) (pc' := 56) rfl rfl ?_
    refine own_s_dload Xc31.here hx (hb hby own_d2_56) (pc' := 58) rfl rfl ?_
    refine stc32 _ ?_
    refine own_s_iinc Xc32.here hx (hb hby own_d2_59) (pc' := 62) rfl rfl (v := (1 : Int32)) (by decide) (L' := #[.val (.ref qa), .val (.ref qb), .val (.int (3 : Int32)), .val (.ref bc31), .val (.int (1 : Int32)), .val (.double c3_v44_3), .second, .val (.int (3 : Int32))]) rfl ?_
    refine own_s_goto Xc32.here hx (hb hby own_d2_62) (by decide) (pc' := 10) (by decide) ?_
    refine own_s_iload Xc32.here hx (hb hby own_d2_10) (pc' := 12) rfl rfl ?_
    refine own_s_iloadN Xc32.here hx (hb hby own_d2_12) (pc' := 13) rfl rfl ?_
    refine own_s_icmpNo Xc32.here hx (hb hby own_d2_13) (pc' := 16) rfl (by decide) ?_
    refine own_s_dconst0 Xc32.here hx (hb hby own_d2_16) (pc' := 17) rfl  ?_
    refine own_s_dstore Xc32.here hx (hb hby own_d2_17) (pc' := 19) rfl (L' := #[.val (.ref qa), .val (.ref qb), .val (.int (3 : Int32)), .val (.ref bc31), .val (.int (1 : Int32)), .val (.double 0), .second, .val (.int (3 : Int32))]) rfl ?_
    refine own_s_iconst Xc32.here hx (hb hby own_d2_19) (pc' := 20) rfl (v := (0 : Int32)) (by decide) ?_
    refine own_s_istore Xc32.here hx (hb hby own_d2_20) (pc' := 22) rfl (L' := #[.val (.ref qa), .val (.ref qb), .val (.int (3 : Int32)), .val (.ref bc31), .val (.int (1 : Int32)), .val (.double 0), .second, .val (.int (0 : Int32))]) rfl ?_
    refine own_s_iload Xc32.here hx (hb hby own_d2_22) (pc' := 24) rfl rfl ?_
    refine own_s_iloadN Xc32.here hx (hb hby own_d2_24) (pc' := 25) rfl rfl ?_
    refine own_s_icmpNo Xc32.here hx (hb hby own_d2_25) (pc' := 28) rfl (by decide) ?_
    refine own_s_dload Xc32.here hx (hb hby own_d2_28) (pc' := 30) rfl rfl ?_
    refine own_s_aloadN Xc32.here hx (hb hby own_d2_30) (pc' := 31) rfl rfl rfl ?_
    refine own_s_iload Xc32.here hx (hb hby own_d2_31) (pc' := 33) rfl rfl ?_
    refine own_ldD Xc32 hx hZ ec32 V_qa_c32 (j := (0 : Int32)) (x := d0) (by decide) rfl (hb hby own_d2_33) (pc' := 34) rfl ?_
    refine own_s_aloadN Xc32.here hx (hb hby own_d2_34) (pc' := 35) rfl rfl rfl ?_
    refine own_s_iload Xc32.here hx (hb hby own_d2_35) (pc' := 37) rfl rfl ?_
    refine own_s_iloadN Xc32.here hx (hb hby own_d2_37) (pc' := 38) rfl rfl ?_
    refine own_s_imul Xc32.here hx (hb hby own_d2_38) (pc' := 39) rfl (v := (3 : Int32)) (by decide) ?_
    refine own_s_iload Xc32.here hx (hb hby own_d2_39) (pc' := 41) rfl rfl ?_
    refine own_s_iadd Xc32.here hx (hb hby own_d2_41) (pc' := 42) rfl (v := (3 : Int32)) (by decide) ?_
    refine own_ldD Xc32 hx hZ ec32 V_qb_c32 (j := (3 : Int32)) (x := ee3) (by decide) rfl (hb hby own_d2_42) (pc' := 43) rfl ?_
    refine own_s_dmul Xc32.here hx (hb hby own_d2_43) (pc' := 44) rfl c3_hn43_4 (v := c3_v43_4) c3_hv43_4 ?_
    refine own_s_dadd Xc32.here hx (hb hby own_d2_44) (pc' := 45) rfl c3_hn44_4 (v := c3_v44_4) c3_hv44_4 ?_
    refine own_s_dstore Xc32.here hx (hb hby own_d2_45) (pc' := 47) rfl (L' := #[.val (.ref qa), .val (.ref qb), .val (.int (3 : Int32)), .val (.ref bc31), .val (.int (1 : Int32)), .val (.double c3_v44_4), .second, .val (.int (0 : Int32))]) rfl ?_
    refine own_s_iinc Xc32.here hx (hb hby own_d2_47) (pc' := 50) rfl rfl (v := (1 : Int32)) (by decide) (L' := #[.val (.ref qa), .val (.ref qb), .val (.int (3 : Int32)), .val (.ref bc31), .val (.int (1 : Int32)), .val (.double c3_v44_4), .second, .val (.int (1 : Int32))]) rfl ?_
    refine own_s_goto Xc32.here hx (hb hby own_d2_50) (by decide) (pc' := 22) (by decide) ?_
    refine own_s_iload Xc32.here hx (hb hby own_d2_22) (pc' := 24) rfl rfl ?_
    refine own_s_iloadN Xc32.here hx (hb hby own_d2_24) (pc' := 25) rfl rfl ?_
    refine own_s_icmpNo Xc32.here hx (hb hby own_d2_25) (pc' := 28) rfl (by decide) ?_
    refine own_s_dload Xc32.here hx (hb hby own_d2_28) (pc' := 30) rfl rfl ?_
    refine own_s_aloadN Xc32.here hx (hb hby own_d2_30) (pc' := 31) rfl rfl rfl ?_
    refine own_s_iload Xc32.here hx (hb hby own_d2_31) (pc' := 33) rfl rfl ?_
    refine own_ldD Xc32 hx hZ ec32 V_qa_c32 (j := (1 : Int32)) (x := d1) (by decide) rfl (hb hby own_d2_33) (pc' := 34) rfl ?_
    refine own_s_aloadN Xc32.here hx (hb hby own_d2_34) (pc' := 35) rfl rfl rfl ?_
    refine own_s_iload Xc32.here hx (hb hby own_d2_35) (pc' := 37) rfl rfl ?_
    refine own_s_iloadN Xc32.here hx (hb hby own_d2_37) (pc' := 38) rfl rfl ?_
    refine own_s_imul Xc32.here hx (hb hby own_d2_38) (pc' := 39) rfl (v := (3 : Int32)) (by decide) ?_
    refine own_s_iload Xc32.here hx (hb hby own_d2_39) (pc' := 41) rfl rfl ?_
    refine own_s_iadd Xc32.here hx (hb hby own_d2_41) (pc' := 42) rfl (v := (4 : Int32)) (by decide) ?_
    refine own_ldD Xc32 hx hZ ec32 V_qb_c32 (j := (4 : Int32)) (x := ee4) (by decide) rfl (hb hby own_d2_42) (pc' := 43) rfl ?_
    refine own_s_dmul Xc32.here hx (hb hby own_d2_43) (pc' := 44) rfl c3_hn43_5 (v := c3_v43_5) c3_hv43_5 ?_
    refine own_s_dadd Xc32.here hx (hb hby own_d2_44) (pc' := 45) rfl c3_hn44_5 (v := c3_v44_5) c3_hv44_5 ?_
    refine own_s_dstore Xc32.here hx (hb hby own_d2_45) (pc' := 47) rfl (L' := #[.val (.ref qa), .val (.ref qb), .val (.int (3 : Int32)), .val (.ref bc31), .val (.int (1 : Int32)), .val (.double c3_v44_5), .second, .val (.int (1 : Int32))]) rfl ?_
    refine own_s_iinc Xc32.here hx (hb hby own_d2_47) (pc' := 50) rfl rfl (v := (2 : Int32)) (by decide) (L' := #[.val (.ref qa), .val (.ref qb), .val (.int (3 : Int32)), .val (.ref bc31), .val (.int (1 : Int32)), .val (.double c3_v44_5), .second, .val (.int (2 : Int32))]) rfl ?_
    refine own_s_goto Xc32.here hx (hb hby own_d2_50) (by decide) (pc' := 22) (by decide) ?_
    refine own_s_iload Xc32.here hx (hb hby own_d2_22) (pc' := 24) rfl rfl ?_
    refine own_s_iloadN Xc32.here hx (hb hby own_d2_24) (pc' := 25) rfl rfl ?_
    refine own_s_icmpNo Xc32.here hx (hb hby own_d2_25) (pc' := 28) rfl (by decide) ?_
    refine own_s_dload Xc32.here hx (hb hby own_d2_28) (pc' := 30) rfl rfl ?_
    refine own_s_aloadN Xc32.here hx (hb hby own_d2_30) (pc' := 31) rfl rfl rfl ?_
    refine own_s_iload Xc32.here hx (hb hby own_d2_31) (pc' := 33) rfl rfl ?_
    refine own_ldD Xc32 hx hZ ec32 V_qa_c32 (j := (2 : Int32)) (x := d2) (by decide) rfl (hb hby own_d2_33) (pc' := 34) rfl ?_
    refine own_s_aloadN Xc32.here hx (hb hby own_d2_34) (pc' := 35) rfl rfl rfl ?_
    refine own_s_iload Xc32.here hx (hb hby own_d2_35) (pc' := 37) rfl rfl ?_
    refine own_s_iloadN Xc32.here hx (hb hby own_d2_37) (pc' := 38) rfl rfl ?_
    refine own_s_imul Xc32.here hx (hb hby own_d2_38) (pc' := 39) rfl (v := (3 : Int32)) (by decide) ?_
    refine own_s_iload Xc32.here hx (hb hby own_d2_39) (pc' := 41) rfl rfl ?_
    refine own_s_iadd Xc32.here hx (hb hby own_d2_41) (pc' := 42) rfl (v := (5 : Int32)) (by decide) ?_
    refine own_ldD Xc32 hx hZ ec32 V_qb_c32 (j := (5 : Int32)) (x := ee5) (by decide) rfl (hb hby own_d2_42) (pc' := 43) rfl ?_
    refine own_s_dmul Xc32.here hx (hb hby own_d2_43) (pc' := 44) rfl c3_hn43_6 (v := c3_v43_6) c3_hv43_6 ?_
    refine own_s_dadd Xc32.here hx (hb hby own_d2_44) (pc' := 45) rfl c3_hn44_6 (v := c3_v44_6) c3_hv44_6 ?_
    refine own_s_dstore Xc32.here hx (hb hby own_d2_45) (pc' := 47) rfl (L' := #[.val (.ref qa), .val (.ref qb), .val (.int (3 : Int32)), .val (.ref bc31), .val (.int (1 : Int32)), .val (.double c3_v44_6), .second, .val (.int (2 : Int32))]) rfl ?_
    refine own_s_iinc Xc32.here hx (hb hby own_d2_47) (pc' := 50) rfl rfl (v := (3 : Int32)) (by decide) (L' := #[.val (.ref qa), .val (.ref qb), .val (.int (3 : Int32)), .val (.ref bc31), .val (.int (1 : Int32)), .val (.double c3_v44_6), .second, .val (.int (3 : Int32))]) rfl ?_
    refine own_s_goto Xc32.here hx (hb hby own_d2_50) (by decide) (pc' := 22) (by decide) ?_
    refine own_s_iload Xc32.here hx (hb hby own_d2_22) (pc' := 24) rfl rfl ?_
    refine own_s_iloadN Xc32.here hx (hb hby own_d2_24) (pc' := 25) rfl rfl ?_
    refine own_s_icmpYes Xc32.here hx (hb hby own_d2_25) (by decide) (pc' := 53) (by decide) (by decide) ?_
    refine own_s_aloadN Xc32.here hx (hb hby own_d2_53) (pc' := 54) rfl rfl rfl ?_
    refine own_s_iload Xc32.here hx (hb hby own_d2_54) (pc' := 56) rfl rfl ?_
    refine own_s_dload Xc32.here hx (hb hby own_d2_56) (pc' := 58) rfl rfl ?_
    refine stc33 _ ?_
    refine own_s_iinc Xc33.here hx (hb hby own_d2_59) (pc' := 62) rfl rfl (v := (2 : Int32)) (by decide) (L' := #[.val (.ref qa), .val (.ref qb), .val (.int (3 : Int32)), .val (.ref bc31), .val (.int (2 : Int32)), .val (.double c3_v44_6), .second, .val (.int (3 : Int32))]) rfl ?_
    refine own_s_goto Xc33.here hx (hb hby own_d2_62) (by decide) (pc' := 10) (by decide) ?_
    refine own_s_iload Xc33.here hx (hb hby own_d2_10) (pc' := 12) rfl rfl ?_
    refine own_s_iloadN Xc33.here hx (hb hby own_d2_12) (pc' := 13) rfl rfl ?_
    refine own_s_icmpNo Xc33.here hx (hb hby own_d2_13) (pc' := 16) rfl (by decide) ?_
    refine own_s_dconst0 Xc33.here hx (hb hby own_d2_16) (pc' := 17) rfl  ?_
    refine own_s_dstore Xc33.here hx (hb hby own_d2_17) (pc' := 19) rfl (L' := #[.val (.ref qa), .val (.ref qb), .val (.int (3 : Int32)), .val (.ref bc31), .val (.int (2 : Int32)), .val (.double 0), .second, .val (.int (3 : Int32))]) rfl ?_
    refine own_s_iconst Xc33.here hx (hb hby own_d2_19) (pc' := 20) rfl (v := (0 : Int32)) (by decide) ?_
    refine own_s_istore Xc33.here hx (hb hby own_d2_20) (pc' := 22) rfl (L' := #[.val (.ref qa), .val (.ref qb), .val (.int (3 : Int32)), .val (.ref bc31), .val (.int (2 : Int32)), .val (.double 0), .second, .val (.int (0 : Int32))]) rfl ?_
    refine own_s_iload Xc33.here hx (hb hby own_d2_22) (pc' := 24) rfl rfl ?_
    refine own_s_iloadN Xc33.here hx (hb hby own_d2_24) (pc' := 25) rfl rfl ?_
    refine own_s_icmpNo Xc33.here hx (hb hby own_d2_25) (pc' := 28) rfl (by decide) ?_
    refine own_s_dload Xc33.here hx (hb hby own_d2_28) (pc' := 30) rfl rfl ?_
    refine own_s_aloadN Xc33.here hx (hb hby own_d2_30) (pc' := 31) rfl rfl rfl ?_
    refine own_s_iload Xc33.here hx (hb hby own_d2_31) (pc' := 33) rfl rfl ?_
    refine own_ldD Xc33 hx hZ ec33 V_qa_c33 (j := (0 : Int32)) (x := d0) (by decide) rfl (hb hby own_d2_33) (pc' := 34) rfl ?_
    refine own_s_aloadN Xc33.here hx (hb hby own_d2_34) (pc' := 35) rfl rfl rfl ?_
    refine own_s_iload Xc33.here hx (hb hby own_d2_35) (pc' := 37) rfl rfl ?_
    refine own_s_iloadN Xc33.here hx (hb hby own_d2_37) (pc' := 38) rfl rfl ?_
    refine own_s_imul Xc33.here hx (hb hby own_d2_38) (pc' := 39) rfl (v := (6 : Int32)) (by decide) ?_
    refine own_s_iload Xc33.here hx (hb hby own_d2_39) (pc' := 41) rfl rfl ?_
    refine own_s_iadd Xc33.here hx (hb hby own_d2_41) (pc' := 42) rfl (v := (6 : Int32)) (by decide) ?_
    refine own_ldD Xc33 hx hZ ec33 V_qb_c33 (j := (6 : Int32)) (x := ee6) (by decide) rfl (hb hby own_d2_42) (pc' := 43) rfl ?_
    refine own_s_dmul Xc33.here hx (hb hby own_d2_43) (pc' := 44) rfl c3_hn43_7 (v := c3_v43_7) c3_hv43_7 ?_
    refine own_s_dadd Xc33.here hx (hb hby own_d2_44) (pc' := 45) rfl c3_hn44_7 (v := c3_v44_7) c3_hv44_7 ?_
    refine own_s_dstore Xc33.here hx (hb hby own_d2_45) (pc' := 47) rfl (L' := #[.val (.ref qa), .val (.ref qb), .val (.int (3 : Int32)), .val (.ref bc31), .val (.int (2 : Int32)), .val (.double c3_v44_7), .second, .val (.int (0 : Int32))]) rfl ?_
    refine own_s_iinc Xc33.here hx (hb hby own_d2_47) (pc' := 50) rfl rfl (v := (1 : Int32)) (by decide) (L' := #[.val (.ref qa), .val (.ref qb), .val (.int (3 : Int32)), .val (.ref bc31), .val (.int (2 : Int32)), .val (.double c3_v44_7), .second, .val (.int (1 : Int32))]) rfl ?_
    refine own_s_goto Xc33.here hx (hb hby own_d2_50) (by decide) (pc' := 22) (by decide) ?_
    refine own_s_iload Xc33.here hx (hb hby own_d2_22) (pc' := 24) rfl rfl ?_
    refine own_s_iloadN Xc33.here hx (hb hby own_d2_24) (pc' := 25) rfl rfl ?_
    refine own_s_icmpNo Xc33.here hx (hb hby own_d2_25) (pc' := 28) rfl (by decide) ?_
    refine own_s_dload Xc33.here hx (hb hby own_d2_28) (pc' := 30) rfl rfl ?_
    refine own_s_aloadN Xc33.here hx (hb hby own_d2_30) (pc' := 31) rfl rfl rfl ?_
    refine own_s_iload Xc33.here hx (hb hby own_d2_31) (pc' := 33) rfl rfl ?_
    refine own_ldD Xc33 hx hZ ec33 V_qa_c33 (j := (1 : Int32)) (x := d1) (by decide) rfl (hb hby own_d2_33) (pc' := 34) rfl ?_
    refine own_s_aloadN Xc33.here hx (hb hby own_d2_34) (pc' := 35) rfl rfl rfl ?_
    refine own_s_iload Xc33.here hx (hb hby own_d2_35) (pc' := 37) rfl rfl ?_
    refine own_s_iloadN Xc33.here hx (hb hby own_d2_37) (pc' := 38) rfl rfl ?_
    refine own_s_imul Xc33.here hx (hb hby own_d2_38) (pc' := 39) rfl (v := (6 : Int32)) (by decide) ?_
    refine own_s_iload Xc33.here hx (hb hby own_d2_39) (pc' := 41) rfl rfl ?_
    refine own_s_iadd Xc33.here hx (hb hby own_d2_41) (pc' := 42) rfl (v := (7 : Int32)) (by decide) ?_
    refine own_ldD Xc33 hx hZ ec33 V_qb_c33 (j := (7 : Int32)) (x := ee7) (by decide) rfl (hb hby own_d2_42) (pc' := 43) rfl ?_
    refine own_s_dmul Xc33.here hx (hb hby own_d2_43) (pc' := 44) rfl c3_hn43_8 (v := c3_v43_8) c3_hv43_8 ?_
    refine own_s_dadd Xc33.here hx (hb hby own_d2_44) (pc' := 45) rfl c3_hn44_8 (v := c3_v44_8) c3_hv44_8 ?_
    refine own_s_dstore Xc33.here hx (hb hby own_d2_45) (pc' := 47) rfl (L' := #[.val (.ref qa), .val (.ref qb), .val (.int (3 : Int32)), .val (.ref bc31), .val (.int (2 : Int32)), .val (.double c3_v44_8), .second, .val (.int (1 : Int32))]) rfl ?_
    refine own_s_iinc Xc33.here hx (hb hby own_d2_47) (pc' := 50) rfl rfl (v := (2 : Int32)) (by decide) (L' := #[.val (.ref qa), .val (.ref qb), .val (.int (3 : Int32)), .val (.ref bc31), .val (.int (2 : Int32)), .val (.double c3_v44_8), .second, .val (.int (2 : Int32))]) rfl ?_
    refine own_s_goto Xc33.here hx (hb hby own_d2_50) (by decide) (pc' := 22) (by decide) ?_
    refine own_s_iload Xc33.here hx (hb hby own_d2_22) (pc' := 24) rfl rfl ?_
    refine own_s_iloadN Xc33.here hx (hb hby own_d2_24) (pc' := 25) rfl rfl ?_
    refine own_s_icmpNo Xc33.here hx (hb hby own_d2_25) (pc' := 28) rfl (by decide) ?_
    refine own_s_dload Xc33.here hx (hb hby own_d2_28) (pc' := 30) rfl rfl ?_
    refine own_s_aloadN Xc33.here hx (hb hby own_d2_30) (pc' := 31) rfl rfl rfl ?_
    refine own_s_iload Xc33.here hx (hb hby own_d2_31) (pc' := 33) rfl rfl ?_
    refine own_ldD Xc33 hx hZ ec33 V_qa_c33 (j := (2 : Int32)) (x := d2) (by decide) rfl (hb hby own_d2_33) (pc' := 34) rfl ?_
    refine own_s_aloadN Xc33.here hx (hb hby own_d2_34) (pc' := 35) rfl rfl rfl ?_
    refine own_s_iload Xc33.here hx (hb hby own_d2_35) (pc' := 37) rfl rfl ?_
    refine own_s_iloadN Xc33.here hx (hb hby own_d2_37) (pc' := 38) rfl rfl ?_
    refine own_s_imul Xc33.here hx (hb hby own_d2_38) (pc' := 39) rfl (v := (6 : Int32)) (by decide) ?_
    refine own_s_iload Xc33.here hx (hb hby own_d2_39) (pc' := 41) rfl rfl ?_
    refine own_s_iadd Xc33.here hx (hb hby own_d2_41) (pc' := 42) rfl (v := (8 : Int32)) (by decide) ?_
    refine own_ldD Xc33 hx hZ ec33 V_qb_c33 (j := (8 : Int32)) (x := ee8) (by decide) rfl (hb hby own_d2_42) (pc' := 43) rfl ?_
    refine own_s_dmul Xc33.here hx (hb hby own_d2_43) (pc' := 44) rfl c3_hn43_9 (v := c3_v43_9) c3_hv43_9 ?_
    refine own_s_dadd Xc33.here hx (hb hby own_d2_44) (pc' := 45) rfl c3_hn44_9 (v := c3_v44_9) c3_hv44_9 ?_
    refine own_s_dstore Xc33.here hx (hb hby own_d2_45) (pc' := 47) rfl (L' := #[.val (.ref qa), .val (.ref qb), .val (.int (3 : Int32)), .val (.ref bc31), .val (.int (2 : Int32)), .val (.double c3_v44_9), .second, .val (.int (2 : Int32))]) rfl ?_
    refine own_s_iinc Xc33.here hx (hb hby own_d2_47) (pc' := 50) rfl rfl (v := (3 : Int32)) (by decide) (L' := #[.val (.ref qa), .val (.ref qb), .val (.int (3 : Int32)), .val (.ref bc31), .val (.int (2 : Int32)), .val (.double c3_v44_9), .second, .val (.int (3 : Int32))]) rfl ?_
    refine own_s_goto Xc33.here hx (hb hby own_d2_50) (by decide) (pc' := 22) (by decide) ?_
    refine own_s_iload Xc33.here hx (hb hby own_d2_22) (pc' := 24) rfl rfl ?_
    refine own_s_iloadN Xc33.here hx (hb hby own_d2_24) (pc' := 25) rfl rfl ?_
    refine own_s_icmpYes Xc33.here hx (hb hby own_d2_25) (by decide) (pc' := 53) (by decide) (by decide) ?_
    refine own_s_aloadN Xc33.here hx (hb hby own_d2_53) (pc' := 54) rfl rfl rfl ?_
    refine own_s_iload Xc33.here hx (hb hby own_d2_54) (pc' := 56) rfl rfl ?_
    refine own_s_dload Xc33.here hx (hb hby own_d2_56) (pc' := 58) rfl rfl ?_
    refine stc34 _ ?_
    refine own_s_iinc Xc34.here hx (hb hby own_d2_59) (pc' := 62) rfl rfl (v := (3 : Int32)) (by decide) (L' := #[.val (.ref qa), .val (.ref qb), .val (.int (3 : Int32)), .val (.ref bc31), .val (.int (3 : Int32)), .val (.double c3_v44_9), .second, .val (.int (3 : Int32))]) rfl ?_
    refine own_s_goto Xc34.here hx (hb hby own_d2_62) (by decide) (pc' := 10) (by decide) ?_
    refine own_s_iload Xc34.here hx (hb hby own_d2_10) (pc' := 12) rfl rfl ?_
    refine own_s_iloadN Xc34.here hx (hb hby own_d2_12) (pc' := 13) rfl rfl ?_
    refine own_s_icmpYes Xc34.here hx (hb hby own_d2_13) (by decide) (pc' := 65) (by decide) (by decide) ?_
    refine own_s_aloadN Xc34.here hx (hb hby own_d2_65) (pc' := 66) rfl rfl rfl ?_
    exact own_retR Xc34 hx Bd.returns rfl (hb hby own_d2_66) hr
  · show own_Q_c3 Z qa d0 d1 d2 qb ee0 ee1 ee2 ee3 ee4 ee5 ee6 ee7 ee8 qak qbk c3_v43 c3_v44 c3_v43_2 c3_v44_2 c3_v43_3 c3_v44_3 c3_v43_4 c3_v44_4 c3_v43_5 c3_v44_5 c3_v43_6 c3_v44_6 c3_v43_7 c3_v44_7 c3_v43_8 c3_v44_8 c3_v43_9 c3_v44_9 h0 n0 _ Tc34.heap _
    rw [ec34]
    exact ⟨bc31, kc31, rfl, Nc34, KKc34, sz_bc31, V_bc31_c34⟩
theorem own_ef_w3 (m : MethodId) (p0 : Int64) (p1 : Int64) (p2 : Int32) : entryFrame m #[(.long p0), (.long p1), (.int p2)] maxLocals = mkF m 0 #[.val (.long p0), .second, .val (.long p1), .second, .val (.int p2), .unset, .unset, .unset, .unset, .unset, .unset, .unset, .unset, .unset, .unset, .unset, .unset, .unset, .unset, .unset, .unset, .unset, .unset, .unset, .unset, .unset, .unset, .unset, .unset, .unset, .unset, .unset, .unset] [] := by first | (simp [entryFrame, mkF, argsToLocals, Value.category, maxLocals]; done) | rfl
set_option maxRecDepth 65536 in
set_option maxHeartbeats 40000000 in
theorem own_rm_w3 (l : Launch) (Z : State) (a0 : Array Value) (hw : ∀ d ∈ tables_1, d.before a0 Z = true) (ws : List Jvm.Cond) (p0 : Int64) (p1 : Int64) (p2 : Int32) {w3_c8_b0_v5 : Int64} {w3_c8_b0_v6 : Int32} {w3_c8_b0_v7 : Int32} {w3_c15_b1_v5 : Int64} {w3_c15_b1_v6 : Int32} {w3_c15_b1_v7 : Int32} {w3_c22_b2_v5 : Int64} {w3_c22_b2_v6 : Int32} {w3_c22_b2_v7 : Int32} {w3_c29_b0_v5 : Int64} {w3_c29_b0_v6 : Int32} {w3_c29_b0_v7 : Int32} {w3_c36_b1_v5 : Int64} {w3_c36_b1_v6 : Int32} {w3_c36_b1_v7 : Int32} {w3_c43_b2_v5 : Int64} {w3_c43_b2_v6 : Int32} {w3_c43_b2_v7 : Int32} {w3_c50_b3_v5 : Int64} {w3_c50_b3_v6 : Int32} {w3_c50_b3_v7 : Int32} {w3_c57_b4_v5 : Int64} {w3_c57_b4_v6 : Int32} {w3_c57_b4_v7 : Int32} {w3_c64_b5_v5 : Int64} {w3_c64_b5_v6 : Int32} {w3_c64_b5_v7 : Int32} {w3_c72_b6_v5 : Int64} {w3_c72_b6_v6 : Int32} {w3_c72_b6_v7 : Int32} {w3_c80_b7_v5 : Int64} {w3_c80_b7_v6 : Int32} {w3_c80_b7_v7 : Int32} {w3_c87_b3_v5 : Int64} {w3_c87_b3_v6 : Int32} {w3_c87_b3_v7 : Int32} {w3_c365_c3_v43 : UInt64} {w3_c365_c3_v44 : UInt64} {w3_c365_c3_v43_2 : UInt64} {w3_c365_c3_v44_2 : UInt64} {w3_c365_c3_v43_3 : UInt64} {w3_c365_c3_v44_3 : UInt64} {w3_c365_c3_v43_4 : UInt64} {w3_c365_c3_v44_4 : UInt64} {w3_c365_c3_v43_5 : UInt64} {w3_c365_c3_v44_5 : UInt64} {w3_c365_c3_v43_6 : UInt64} {w3_c365_c3_v44_6 : UInt64} {w3_c365_c3_v43_7 : UInt64} {w3_c365_c3_v44_7 : UInt64} {w3_c365_c3_v43_8 : UInt64} {w3_c365_c3_v44_8 : UInt64} {w3_c365_c3_v43_9 : UInt64} {w3_c365_c3_v44_9 : UInt64} {w3_v385 : UInt64} {w3_v390 : UInt64} {w3_v391 : UInt64} {w3_v396 : UInt64} {w3_v397 : UInt64} {w3_v410 : UInt64} {w3_v415 : UInt64} {w3_v416 : UInt64} {w3_v421 : UInt64} {w3_v422 : UInt64} {w3_v435 : UInt64} {w3_v440 : UInt64} {w3_v441 : UInt64} {w3_v446 : UInt64} {w3_v447 : UInt64} (h0 : Heap) (n0 : Nat) (Z0 : n0 ≤ h0.size)  (w3_hv3 : p2 &&& (3 : Int32) = (3 : Int32)) (w3_c8_b0_hv5 : (Int64.toUInt64 p0 >>> ((0 : Int32) &&& 63).toInt64.toUInt64).toInt64 = w3_c8_b0_v5) (w3_c8_b0_hv6 : Int64.toInt32 w3_c8_b0_v5 = w3_c8_b0_v6) (w3_c8_b0_hv7 : (Int32.toInt8 w3_c8_b0_v6).toInt32 = w3_c8_b0_v7) (w3_c15_b1_hv5 : (Int64.toUInt64 p0 >>> ((8 : Int32) &&& 63).toInt64.toUInt64).toInt64 = w3_c15_b1_v5) (w3_c15_b1_hv6 : Int64.toInt32 w3_c15_b1_v5 = w3_c15_b1_v6) (w3_c15_b1_hv7 : (Int32.toInt8 w3_c15_b1_v6).toInt32 = w3_c15_b1_v7) (w3_c22_b2_hv5 : (Int64.toUInt64 p0 >>> ((16 : Int32) &&& 63).toInt64.toUInt64).toInt64 = w3_c22_b2_v5) (w3_c22_b2_hv6 : Int64.toInt32 w3_c22_b2_v5 = w3_c22_b2_v6) (w3_c22_b2_hv7 : (Int32.toInt8 w3_c22_b2_v6).toInt32 = w3_c22_b2_v7) (w3_c29_b0_hv5 : (Int64.toUInt64 p1 >>> ((0 : Int32) &&& 63).toInt64.toUInt64).toInt64 = w3_c29_b0_v5) (w3_c29_b0_hv6 : Int64.toInt32 w3_c29_b0_v5 = w3_c29_b0_v6) (w3_c29_b0_hv7 : (Int32.toInt8 w3_c29_b0_v6).toInt32 = w3_c29_b0_v7) (w3_c36_b1_hv5 : (Int64.toUInt64 p1 >>> ((8 : Int32) &&& 63).toInt64.toUInt64).toInt64 = w3_c36_b1_v5) (w3_c36_b1_hv6 : Int64.toInt32 w3_c36_b1_v5 = w3_c36_b1_v6) (w3_c36_b1_hv7 : (Int32.toInt8 w3_c36_b1_v6).toInt32 = w3_c36_b1_v7) (w3_c43_b2_hv5 : (Int64.toUInt64 p1 >>> ((16 : Int32) &&& 63).toInt64.toUInt64).toInt64 = w3_c43_b2_v5) (w3_c43_b2_hv6 : Int64.toInt32 w3_c43_b2_v5 = w3_c43_b2_v6) (w3_c43_b2_hv7 : (Int32.toInt8 w3_c43_b2_v6).toInt32 = w3_c43_b2_v7) (w3_c50_b3_hv5 : (Int64.toUInt64 p1 >>> ((24 : Int32) &&& 63).toInt64.toUInt64).toInt64 = w3_c50_b3_v5) (w3_c50_b3_hv6 : Int64.toInt32 w3_c50_b3_v5 = w3_c50_b3_v6) (w3_c50_b3_hv7 : (Int32.toInt8 w3_c50_b3_v6).toInt32 = w3_c50_b3_v7) (w3_c57_b4_hv5 : (Int64.toUInt64 p1 >>> ((32 : Int32) &&& 63).toInt64.toUInt64).toInt64 = w3_c57_b4_v5) (w3_c57_b4_hv6 : Int64.toInt32 w3_c57_b4_v5 = w3_c57_b4_v6) (w3_c57_b4_hv7 : (Int32.toInt8 w3_c57_b4_v6).toInt32 = w3_c57_b4_v7) (w3_c64_b5_hv5 : (Int64.toUInt64 p1 >>> ((40 : Int32) &&& 63).toInt64.toUInt64).toInt64 = w3_c64_b5_v5) (w3_c64_b5_hv6 : Int64.toInt32 w3_c64_b5_v5 = w3_c64_b5_v6) (w3_c64_b5_hv7 : (Int32.toInt8 w3_c64_b5_v6).toInt32 = w3_c64_b5_v7) (w3_c72_b6_hv5 : (Int64.toUInt64 p1 >>> ((48 : Int32) &&& 63).toInt64.toUInt64).toInt64 = w3_c72_b6_v5) (w3_c72_b6_hv6 : Int64.toInt32 w3_c72_b6_v5 = w3_c72_b6_v6) (w3_c72_b6_hv7 : (Int32.toInt8 w3_c72_b6_v6).toInt32 = w3_c72_b6_v7) (w3_c80_b7_hv5 : (Int64.toUInt64 p1 >>> ((56 : Int32) &&& 63).toInt64.toUInt64).toInt64 = w3_c80_b7_v5) (w3_c80_b7_hv6 : Int64.toInt32 w3_c80_b7_v5 = w3_c80_b7_v6) (w3_c80_b7_hv7 : (Int32.toInt8 w3_c80_b7_v6).toInt32 = w3_c80_b7_v7) (w3_c87_b3_hv5 : (Int64.toUInt64 p0 >>> ((24 : Int32) &&& 63).toInt64.toUInt64).toInt64 = w3_c87_b3_v5) (w3_c87_b3_hv6 : Int64.toInt32 w3_c87_b3_v5 = w3_c87_b3_v6) (w3_c87_b3_hv7 : (Int32.toInt8 w3_c87_b3_v6).toInt32 = w3_c87_b3_v7) (w3_c365_c3_hn43 : Jvm.Free.Fl.NoNaN64 (FP.dmul (FP.i2d w3_c8_b0_v7) (FP.i2d w3_c29_b0_v7))) (w3_c365_c3_hv43 : FP.dmul (FP.i2d w3_c8_b0_v7) (FP.i2d w3_c29_b0_v7) = w3_c365_c3_v43) (w3_c365_c3_hn44 : Jvm.Free.Fl.NoNaN64 (FP.dadd 0 w3_c365_c3_v43)) (w3_c365_c3_hv44 : FP.dadd 0 w3_c365_c3_v43 = w3_c365_c3_v44) (w3_c365_c3_hn43_2 : Jvm.Free.Fl.NoNaN64 (FP.dmul (FP.i2d w3_c15_b1_v7) (FP.i2d w3_c36_b1_v7))) (w3_c365_c3_hv43_2 : FP.dmul (FP.i2d w3_c15_b1_v7) (FP.i2d w3_c36_b1_v7) = w3_c365_c3_v43_2) (w3_c365_c3_hn44_2 : Jvm.Free.Fl.NoNaN64 (FP.dadd w3_c365_c3_v44 w3_c365_c3_v43_2)) (w3_c365_c3_hv44_2 : FP.dadd w3_c365_c3_v44 w3_c365_c3_v43_2 = w3_c365_c3_v44_2) (w3_c365_c3_hn43_3 : Jvm.Free.Fl.NoNaN64 (FP.dmul (FP.i2d w3_c22_b2_v7) (FP.i2d w3_c43_b2_v7))) (w3_c365_c3_hv43_3 : FP.dmul (FP.i2d w3_c22_b2_v7) (FP.i2d w3_c43_b2_v7) = w3_c365_c3_v43_3) (w3_c365_c3_hn44_3 : Jvm.Free.Fl.NoNaN64 (FP.dadd w3_c365_c3_v44_2 w3_c365_c3_v43_3)) (w3_c365_c3_hv44_3 : FP.dadd w3_c365_c3_v44_2 w3_c365_c3_v43_3 = w3_c365_c3_v44_3) (w3_c365_c3_hn43_4 : Jvm.Free.Fl.NoNaN64 (FP.dmul (FP.i2d w3_c8_b0_v7) (FP.i2d w3_c50_b3_v7))) (w3_c365_c3_hv43_4 : FP.dmul (FP.i2d w3_c8_b0_v7) (FP.i2d w3_c50_b3_v7) = w3_c365_c3_v43_4) (w3_c365_c3_hn44_4 : Jvm.Free.Fl.NoNaN64 (FP.dadd 0 w3_c365_c3_v43_4)) (w3_c365_c3_hv44_4 : FP.dadd 0 w3_c365_c3_v43_4 = w3_c365_c3_v44_4) (w3_c365_c3_hn43_5 : Jvm.Free.Fl.NoNaN64 (FP.dmul (FP.i2d w3_c15_b1_v7) (FP.i2d w3_c57_b4_v7))) (w3_c365_c3_hv43_5 : FP.dmul (FP.i2d w3_c15_b1_v7) (FP.i2d w3_c57_b4_v7) = w3_c365_c3_v43_5) (w3_c365_c3_hn44_5 : Jvm.Free.Fl.NoNaN64 (FP.dadd w3_c365_c3_v44_4 w3_c365_c3_v43_5)) (w3_c365_c3_hv44_5 : FP.dadd w3_c365_c3_v44_4 w3_c365_c3_v43_5 = w3_c365_c3_v44_5) (w3_c365_c3_hn43_6 : Jvm.Free.Fl.NoNaN64 (FP.dmul (FP.i2d w3_c22_b2_v7) (FP.i2d w3_c64_b5_v7))) (w3_c365_c3_hv43_6 : FP.dmul (FP.i2d w3_c22_b2_v7) (FP.i2d w3_c64_b5_v7) = w3_c365_c3_v43_6) (w3_c365_c3_hn44_6 : Jvm.Free.Fl.NoNaN64 (FP.dadd w3_c365_c3_v44_5 w3_c365_c3_v43_6)) (w3_c365_c3_hv44_6 : FP.dadd w3_c365_c3_v44_5 w3_c365_c3_v43_6 = w3_c365_c3_v44_6) (w3_c365_c3_hn43_7 : Jvm.Free.Fl.NoNaN64 (FP.dmul (FP.i2d w3_c8_b0_v7) (FP.i2d w3_c72_b6_v7))) (w3_c365_c3_hv43_7 : FP.dmul (FP.i2d w3_c8_b0_v7) (FP.i2d w3_c72_b6_v7) = w3_c365_c3_v43_7) (w3_c365_c3_hn44_7 : Jvm.Free.Fl.NoNaN64 (FP.dadd 0 w3_c365_c3_v43_7)) (w3_c365_c3_hv44_7 : FP.dadd 0 w3_c365_c3_v43_7 = w3_c365_c3_v44_7) (w3_c365_c3_hn43_8 : Jvm.Free.Fl.NoNaN64 (FP.dmul (FP.i2d w3_c15_b1_v7) (FP.i2d w3_c80_b7_v7))) (w3_c365_c3_hv43_8 : FP.dmul (FP.i2d w3_c15_b1_v7) (FP.i2d w3_c80_b7_v7) = w3_c365_c3_v43_8) (w3_c365_c3_hn44_8 : Jvm.Free.Fl.NoNaN64 (FP.dadd w3_c365_c3_v44_7 w3_c365_c3_v43_8)) (w3_c365_c3_hv44_8 : FP.dadd w3_c365_c3_v44_7 w3_c365_c3_v43_8 = w3_c365_c3_v44_8) (w3_c365_c3_hn43_9 : Jvm.Free.Fl.NoNaN64 (FP.dmul (FP.i2d w3_c22_b2_v7) (FP.i2d w3_c87_b3_v7))) (w3_c365_c3_hv43_9 : FP.dmul (FP.i2d w3_c22_b2_v7) (FP.i2d w3_c87_b3_v7) = w3_c365_c3_v43_9) (w3_c365_c3_hn44_9 : Jvm.Free.Fl.NoNaN64 (FP.dadd w3_c365_c3_v44_8 w3_c365_c3_v43_9)) (w3_c365_c3_hv44_9 : FP.dadd w3_c365_c3_v44_8 w3_c365_c3_v43_9 = w3_c365_c3_v44_9) (w3_hn385 : Jvm.Free.Fl.NoNaN64 (FP.dmul (FP.i2d w3_c29_b0_v7) (FP.i2d w3_c8_b0_v7))) (w3_hv385 : FP.dmul (FP.i2d w3_c29_b0_v7) (FP.i2d w3_c8_b0_v7) = w3_v385) (w3_hn390 : Jvm.Free.Fl.NoNaN64 (FP.dmul (FP.i2d w3_c36_b1_v7) (FP.i2d w3_c15_b1_v7))) (w3_hv390 : FP.dmul (FP.i2d w3_c36_b1_v7) (FP.i2d w3_c15_b1_v7) = w3_v390) (w3_hn391 : Jvm.Free.Fl.NoNaN64 (FP.dadd w3_v385 w3_v390)) (w3_hv391 : FP.dadd w3_v385 w3_v390 = w3_v391) (w3_hn396 : Jvm.Free.Fl.NoNaN64 (FP.dmul (FP.i2d w3_c43_b2_v7) (FP.i2d w3_c22_b2_v7))) (w3_hv396 : FP.dmul (FP.i2d w3_c43_b2_v7) (FP.i2d w3_c22_b2_v7) = w3_v396) (w3_hn397 : Jvm.Free.Fl.NoNaN64 (FP.dadd w3_v391 w3_v396)) (w3_hv397 : FP.dadd w3_v391 w3_v396 = w3_v397) (w3_hc398 : Op.cmpValue (FP.dcmp w3_c365_c3_v44_3 w3_v397) .l = (0 : Int32)) (w3_hn410 : Jvm.Free.Fl.NoNaN64 (FP.dmul (FP.i2d w3_c50_b3_v7) (FP.i2d w3_c8_b0_v7))) (w3_hv410 : FP.dmul (FP.i2d w3_c50_b3_v7) (FP.i2d w3_c8_b0_v7) = w3_v410) (w3_hn415 : Jvm.Free.Fl.NoNaN64 (FP.dmul (FP.i2d w3_c57_b4_v7) (FP.i2d w3_c15_b1_v7))) (w3_hv415 : FP.dmul (FP.i2d w3_c57_b4_v7) (FP.i2d w3_c15_b1_v7) = w3_v415) (w3_hn416 : Jvm.Free.Fl.NoNaN64 (FP.dadd w3_v410 w3_v415)) (w3_hv416 : FP.dadd w3_v410 w3_v415 = w3_v416) (w3_hn421 : Jvm.Free.Fl.NoNaN64 (FP.dmul (FP.i2d w3_c64_b5_v7) (FP.i2d w3_c22_b2_v7))) (w3_hv421 : FP.dmul (FP.i2d w3_c64_b5_v7) (FP.i2d w3_c22_b2_v7) = w3_v421) (w3_hn422 : Jvm.Free.Fl.NoNaN64 (FP.dadd w3_v416 w3_v421)) (w3_hv422 : FP.dadd w3_v416 w3_v421 = w3_v422) (w3_hc423 : Op.cmpValue (FP.dcmp w3_c365_c3_v44_6 w3_v422) .l = (0 : Int32)) (w3_hn435 : Jvm.Free.Fl.NoNaN64 (FP.dmul (FP.i2d w3_c72_b6_v7) (FP.i2d w3_c8_b0_v7))) (w3_hv435 : FP.dmul (FP.i2d w3_c72_b6_v7) (FP.i2d w3_c8_b0_v7) = w3_v435) (w3_hn440 : Jvm.Free.Fl.NoNaN64 (FP.dmul (FP.i2d w3_c80_b7_v7) (FP.i2d w3_c15_b1_v7))) (w3_hv440 : FP.dmul (FP.i2d w3_c80_b7_v7) (FP.i2d w3_c15_b1_v7) = w3_v440) (w3_hn441 : Jvm.Free.Fl.NoNaN64 (FP.dadd w3_v435 w3_v440)) (w3_hv441 : FP.dadd w3_v435 w3_v440 = w3_v441) (w3_hn446 : Jvm.Free.Fl.NoNaN64 (FP.dmul (FP.i2d w3_c87_b3_v7) (FP.i2d w3_c22_b2_v7))) (w3_hv446 : FP.dmul (FP.i2d w3_c87_b3_v7) (FP.i2d w3_c22_b2_v7) = w3_v446) (w3_hn447 : Jvm.Free.Fl.NoNaN64 (FP.dadd w3_v441 w3_v446)) (w3_hv447 : FP.dadd w3_v441 w3_v446 = w3_v447) (w3_hc448 : Op.cmpValue (FP.dcmp w3_c365_c3_v44_9 w3_v447) .l = (0 : Int32)) :
    MetFree l x (head1 (Jvm.Cond.code x code maxLocals ret :: ws) room_1) (fun a U => a = #[(.long p0), (.long p1), (.int p2)] ∧ Z.Warmed39 U.vm ∧ U.heap = h0) (fun _ _ _ _ _ => True) (fun _ U o U' => ∃ v L, o = .returned v ∧ own_Q0 n0 v U'.heap L ∧ FrameEnd U o U' L room_1.cells room_1.slots) := by
  refine MetFree.of_bodySF (plainFor_of_name own_pn_com_example_differentia_differentia_problems_Cec2013TransformsRotatePinLaw) hisR ?_
  intro p e s m args below meth c s₁ Bd hml0 hP hK
  obtain ⟨rfl, hZ, hh⟩ := hP
  have hx := Bd.exec
  have hby := Bd.bytes
  have hml : c.maxLocals = 33 := hml0
  have hown : s.vm.findClass "com/example/differentia/differentia/problems/Cec2013TransformsRotatePinLaw" = some m.cls := findClass_of_methodNamed Bd.named
  have hnm := (name_of_methodNamed Bd.named Bd.method).1
  have X0 : Stand p l e room_1 s m #[(.long p0), (.long p1), (.int p2)] below meth c s₁ [] 0 0 := Stand.of_body Bd
  have e0 : s₁.heap = h0 := by rw [← hh, Bd.state]; rfl
  have N0 := Fr.nil n0
  have pre0 : ∀ t, Steps p.tables e below (s₁.setTop (mkF m 0 #[.val (.long p0), .second, .val (.long p1), .second, .val (.int p2), .unset, .unset, .unset, .unset, .unset, .unset, .unset, .unset, .unset, .unset, .unset, .unset, .unset, .unset, .unset, .unset, .unset, .unset, .unset, .unset, .unset, .unset, .unset, .unset, .unset, .unset, .unset, .unset] [])) t → Steps p.tables e below (s₁.setTop (entryFrame m #[(.long p0), (.long p1), (.int p2)] maxLocals)) t := fun t k => castTop (own_ef_w3 m p0 p1 p2) k
  obtain ⟨_, _, ⟨Tw31, Lw31, kw31, nw31⟩, -, Xw31, ⟨Lcw31, hQw31, lw31, yw31, zw31⟩, stw31⟩ := Jvm.LawKit.callS X0 hx (y := (⟨"com/example/differentia/differentia/problems/Cec2013TransformsRotatePinLaw", "b", "(JI)D"⟩ : MethodName)) hown (mvT hZ (hw _ (List.mem_of_getElem? (i := 0) rfl))) (mvT hZ (hw _ (List.mem_of_getElem? (i := 1) rfl))) (mvT hZ (hw _ (List.mem_of_getElem? (i := 2) rfl))) (mvT hZ (hw _ (List.mem_of_getElem? (i := 3) rfl))) (by decide) (backOf (W := 0) (own_rm_b0 l Z a0 hw [] p0 h0 n0 Z0 w3_c8_b0_hv5 w3_c8_b0_hv6 w3_c8_b0_hv7) hZ (hw _ (List.mem_of_getElem? (i := 3) rfl)) (hw _ (List.mem_of_getElem? (i := 2) rfl)) (by decide) (by decide)) (g := (mkF m 8 #[.val (.long p0), .second, .val (.long p1), .second, .val (.int p2), .val (.int (3 : Int32)), .unset, .unset, .unset, .unset, .unset, .unset, .unset, .unset, .unset, .unset, .unset, .unset, .unset, .unset, .unset, .unset, .unset, .unset, .unset, .unset, .unset, .unset, .unset, .unset, .unset, .unset, .unset] [(.int (0 : Int32)), (.long p0)])) rfl (by rw [hml]; rfl) (argsL := [(.long p0), (.int (0 : Int32))]) (rest := []) (lenOf own_pd_28JI29D rfl) rfl (by show 2 * 0 + _ ≤ _; exact Nat.le_of_eq rfl) (hb hby at_8) (fun _ _ => ⟨rfl, e0, (by decide : 0 + 0 ≤ _), (by decide : 0 + 0 ≤ _)⟩)
  dsimp only [Pt.U, Pt.locs, Pt.cells, Pt.slots] at Xw31 lw31 yw31 zw31 stw31 hQw31
  rw [lw31, yw31, zw31] at Xw31
  obtain ⟨rfl, Nw31q, ew31⟩ := hQw31
  have Nw31 := Fr.app N0 Nw31q
  obtain ⟨_, _, ⟨Tw32, Lw32, kw32, nw32⟩, -, Xw32, ⟨Lcw32, hQw32, lw32, yw32, zw32⟩, stw32⟩ := Jvm.LawKit.callS Xw31 hx (y := (⟨"com/example/differentia/differentia/problems/Cec2013TransformsRotatePinLaw", "b", "(JI)D"⟩ : MethodName)) hown (mvT hZ (hw _ (List.mem_of_getElem? (i := 0) rfl))) (mvT hZ (hw _ (List.mem_of_getElem? (i := 1) rfl))) (mvT hZ (hw _ (List.mem_of_getElem? (i := 2) rfl))) (mvT hZ (hw _ (List.mem_of_getElem? (i := 3) rfl))) (by decide) (backOf (W := 0) (own_rm_b1 l Z a0 hw [] p0 h0 n0 Z0 w3_c15_b1_hv5 w3_c15_b1_hv6 w3_c15_b1_hv7) hZ (hw _ (List.mem_of_getElem? (i := 3) rfl)) (hw _ (List.mem_of_getElem? (i := 2) rfl)) (by decide) (by decide)) (g := (mkF m 15 #[.val (.long p0), .second, .val (.long p1), .second, .val (.int p2), .val (.int (3 : Int32)), .val (.double (FP.i2d w3_c8_b0_v7)), .second, .unset, .unset, .unset, .unset, .unset, .unset, .unset, .unset, .unset, .unset, .unset, .unset, .unset, .unset, .unset, .unset, .unset, .unset, .unset, .unset, .unset, .unset, .unset, .unset, .unset] [(.int (1 : Int32)), (.long p0)])) rfl (by rw [hml]; rfl) (argsL := [(.long p0), (.int (1 : Int32))]) (rest := []) (lenOf own_pd_28JI29D rfl) rfl (by show 2 * 0 + _ ≤ _; exact Nat.le_of_eq rfl) (hb hby at_15) (fun _ _ => ⟨rfl, ew31, (by decide : 0 + 0 ≤ _), (by decide : 0 + 0 ≤ _)⟩)
  dsimp only [Pt.U, Pt.locs, Pt.cells, Pt.slots] at Xw32 lw32 yw32 zw32 stw32 hQw32
  rw [lw32, yw32, zw32] at Xw32
  obtain ⟨rfl, Nw32q, ew32⟩ := hQw32
  have Nw32 := Fr.app Nw31 Nw32q
  obtain ⟨_, _, ⟨Tw33, Lw33, kw33, nw33⟩, -, Xw33, ⟨Lcw33, hQw33, lw33, yw33, zw33⟩, stw33⟩ := Jvm.LawKit.callS Xw32 hx (y := (⟨"com/example/differentia/differentia/problems/Cec2013TransformsRotatePinLaw", "b", "(JI)D"⟩ : MethodName)) hown (mvT hZ (hw _ (List.mem_of_getElem? (i := 0) rfl))) (mvT hZ (hw _ (List.mem_of_getElem? (i := 1) rfl))) (mvT hZ (hw _ (List.mem_of_getElem? (i := 2) rfl))) (mvT hZ (hw _ (List.mem_of_getElem? (i := 3) rfl))) (by decide) (backOf (W := 0) (own_rm_b2 l Z a0 hw [] p0 h0 n0 Z0 w3_c22_b2_hv5 w3_c22_b2_hv6 w3_c22_b2_hv7) hZ (hw _ (List.mem_of_getElem? (i := 3) rfl)) (hw _ (List.mem_of_getElem? (i := 2) rfl)) (by decide) (by decide)) (g := (mkF m 22 #[.val (.long p0), .second, .val (.long p1), .second, .val (.int p2), .val (.int (3 : Int32)), .val (.double (FP.i2d w3_c8_b0_v7)), .second, .val (.double (FP.i2d w3_c15_b1_v7)), .second, .unset, .unset, .unset, .unset, .unset, .unset, .unset, .unset, .unset, .unset, .unset, .unset, .unset, .unset, .unset, .unset, .unset, .unset, .unset, .unset, .unset, .unset, .unset] [(.int (2 : Int32)), (.long p0)])) rfl (by rw [hml]; rfl) (argsL := [(.long p0), (.int (2 : Int32))]) (rest := []) (lenOf own_pd_28JI29D rfl) rfl (by show 2 * 0 + _ ≤ _; exact Nat.le_of_eq rfl) (hb hby at_22) (fun _ _ => ⟨rfl, ew32, (by decide : 0 + 0 ≤ _), (by decide : 0 + 0 ≤ _)⟩)
  dsimp only [Pt.U, Pt.locs, Pt.cells, Pt.slots] at Xw33 lw33 yw33 zw33 stw33 hQw33
  rw [lw33, yw33, zw33] at Xw33
  obtain ⟨rfl, Nw33q, ew33⟩ := hQw33
  have Nw33 := Fr.app Nw32 Nw33q
  obtain ⟨_, _, ⟨Tw34, Lw34, kw34, nw34⟩, -, Xw34, ⟨Lcw34, hQw34, lw34, yw34, zw34⟩, stw34⟩ := Jvm.LawKit.callS Xw33 hx (y := (⟨"com/example/differentia/differentia/problems/Cec2013TransformsRotatePinLaw", "b", "(JI)D"⟩ : MethodName)) hown (mvT hZ (hw _ (List.mem_of_getElem? (i := 0) rfl))) (mvT hZ (hw _ (List.mem_of_getElem? (i := 1) rfl))) (mvT hZ (hw _ (List.mem_of_getElem? (i := 2) rfl))) (mvT hZ (hw _ (List.mem_of_getElem? (i := 3) rfl))) (by decide) (backOf (W := 0) (own_rm_b0 l Z a0 hw [] p1 h0 n0 Z0 w3_c29_b0_hv5 w3_c29_b0_hv6 w3_c29_b0_hv7) hZ (hw _ (List.mem_of_getElem? (i := 3) rfl)) (hw _ (List.mem_of_getElem? (i := 2) rfl)) (by decide) (by decide)) (g := (mkF m 29 #[.val (.long p0), .second, .val (.long p1), .second, .val (.int p2), .val (.int (3 : Int32)), .val (.double (FP.i2d w3_c8_b0_v7)), .second, .val (.double (FP.i2d w3_c15_b1_v7)), .second, .val (.double (FP.i2d w3_c22_b2_v7)), .second, .unset, .unset, .unset, .unset, .unset, .unset, .unset, .unset, .unset, .unset, .unset, .unset, .unset, .unset, .unset, .unset, .unset, .unset, .unset, .unset, .unset] [(.int (0 : Int32)), (.long p1)])) rfl (by rw [hml]; rfl) (argsL := [(.long p1), (.int (0 : Int32))]) (rest := []) (lenOf own_pd_28JI29D rfl) rfl (by show 2 * 0 + _ ≤ _; exact Nat.le_of_eq rfl) (hb hby at_29) (fun _ _ => ⟨rfl, ew33, (by decide : 0 + 0 ≤ _), (by decide : 0 + 0 ≤ _)⟩)
  dsimp only [Pt.U, Pt.locs, Pt.cells, Pt.slots] at Xw34 lw34 yw34 zw34 stw34 hQw34
  rw [lw34, yw34, zw34] at Xw34
  obtain ⟨rfl, Nw34q, ew34⟩ := hQw34
  have Nw34 := Fr.app Nw33 Nw34q
  obtain ⟨_, _, ⟨Tw35, Lw35, kw35, nw35⟩, -, Xw35, ⟨Lcw35, hQw35, lw35, yw35, zw35⟩, stw35⟩ := Jvm.LawKit.callS Xw34 hx (y := (⟨"com/example/differentia/differentia/problems/Cec2013TransformsRotatePinLaw", "b", "(JI)D"⟩ : MethodName)) hown (mvT hZ (hw _ (List.mem_of_getElem? (i := 0) rfl))) (mvT hZ (hw _ (List.mem_of_getElem? (i := 1) rfl))) (mvT hZ (hw _ (List.mem_of_getElem? (i := 2) rfl))) (mvT hZ (hw _ (List.mem_of_getElem? (i := 3) rfl))) (by decide) (backOf (W := 0) (own_rm_b1 l Z a0 hw [] p1 h0 n0 Z0 w3_c36_b1_hv5 w3_c36_b1_hv6 w3_c36_b1_hv7) hZ (hw _ (List.mem_of_getElem? (i := 3) rfl)) (hw _ (List.mem_of_getElem? (i := 2) rfl)) (by decide) (by decide)) (g := (mkF m 36 #[.val (.long p0), .second, .val (.long p1), .second, .val (.int p2), .val (.int (3 : Int32)), .val (.double (FP.i2d w3_c8_b0_v7)), .second, .val (.double (FP.i2d w3_c15_b1_v7)), .second, .val (.double (FP.i2d w3_c22_b2_v7)), .second, .val (.double (FP.i2d w3_c29_b0_v7)), .second, .unset, .unset, .unset, .unset, .unset, .unset, .unset, .unset, .unset, .unset, .unset, .unset, .unset, .unset, .unset, .unset, .unset, .unset, .unset] [(.int (1 : Int32)), (.long p1)])) rfl (by rw [hml]; rfl) (argsL := [(.long p1), (.int (1 : Int32))]) (rest := []) (lenOf own_pd_28JI29D rfl) rfl (by show 2 * 0 + _ ≤ _; exact Nat.le_of_eq rfl) (hb hby at_36) (fun _ _ => ⟨rfl, ew34, (by decide : 0 + 0 ≤ _), (by decide : 0 + 0 ≤ _)⟩)
  dsimp only [Pt.U, Pt.locs, Pt.cells, Pt.slots] at Xw35 lw35 yw35 zw35 stw35 hQw35
  rw [lw35, yw35, zw35] at Xw35
  obtain ⟨rfl, Nw35q, ew35⟩ := hQw35
  have Nw35 := Fr.app Nw34 Nw35q
  obtain ⟨_, _, ⟨Tw36, Lw36, kw36, nw36⟩, -, Xw36, ⟨Lcw36, hQw36, lw36, yw36, zw36⟩, stw36⟩ := Jvm.LawKit.callS Xw35 hx (y := (⟨"com/example/differentia/differentia/problems/Cec2013TransformsRotatePinLaw", "b", "(JI)D"⟩ : MethodName)) hown (mvT hZ (hw _ (List.mem_of_getElem? (i := 0) rfl))) (mvT hZ (hw _ (List.mem_of_getElem? (i := 1) rfl))) (mvT hZ (hw _ (List.mem_of_getElem? (i := 2) rfl))) (mvT hZ (hw _ (List.mem_of_getElem? (i := 3) rfl))) (by decide) (backOf (W := 0) (own_rm_b2 l Z a0 hw [] p1 h0 n0 Z0 w3_c43_b2_hv5 w3_c43_b2_hv6 w3_c43_b2_hv7) hZ (hw _ (List.mem_of_getElem? (i := 3) rfl)) (hw _ (List.mem_of_getElem? (i := 2) rfl)) (by decide) (by decide)) (g := (mkF m 43 #[.val (.long p0), .second, .val (.long p1), .second, .val (.int p2), .val (.int (3 : Int32)), .val (.double (FP.i2d w3_c8_b0_v7)), .second, .val (.double (FP.i2d w3_c15_b1_v7)), .second, .val (.double (FP.i2d w3_c22_b2_v7)), .second, .val (.double (FP.i2d w3_c29_b0_v7)), .second, .val (.double (FP.i2d w3_c36_b1_v7)), .second, .unset, .unset, .unset, .unset, .unset, .unset, .unset, .unset, .unset, .unset, .unset, .unset, .unset, .unset, .unset, .unset, .unset] [(.int (2 : Int32)), (.long p1)])) rfl (by rw [hml]; rfl) (argsL := [(.long p1), (.int (2 : Int32))]) (rest := []) (lenOf own_pd_28JI29D rfl) rfl (by show 2 * 0 + _ ≤ _; exact Nat.le_of_eq rfl) (hb hby at_43) (fun _ _ => ⟨rfl, ew35, (by decide : 0 + 0 ≤ _), (by decide : 0 + 0 ≤ _)⟩)
  dsimp only [Pt.U, Pt.locs, Pt.cells, Pt.slots] at Xw36 lw36 yw36 zw36 stw36 hQw36
  rw [lw36, yw36, zw36] at Xw36
  obtain ⟨rfl, Nw36q, ew36⟩ := hQw36
  have Nw36 := Fr.app Nw35 Nw36q
  obtain ⟨_, _, ⟨Tw37, Lw37, kw37, nw37⟩, -, Xw37, ⟨Lcw37, hQw37, lw37, yw37, zw37⟩, stw37⟩ := Jvm.LawKit.callS Xw36 hx (y := (⟨"com/example/differentia/differentia/problems/Cec2013TransformsRotatePinLaw", "b", "(JI)D"⟩ : MethodName)) hown (mvT hZ (hw _ (List.mem_of_getElem? (i := 0) rfl))) (mvT hZ (hw _ (List.mem_of_getElem? (i := 1) rfl))) (mvT hZ (hw _ (List.mem_of_getElem? (i := 2) rfl))) (mvT hZ (hw _ (List.mem_of_getElem? (i := 3) rfl))) (by decide) (backOf (W := 0) (own_rm_b3 l Z a0 hw [] p1 h0 n0 Z0 w3_c50_b3_hv5 w3_c50_b3_hv6 w3_c50_b3_hv7) hZ (hw _ (List.mem_of_getElem? (i := 3) rfl)) (hw _ (List.mem_of_getElem? (i := 2) rfl)) (by decide) (by decide)) (g := (mkF m 50 #[.val (.long p0), .second, .val (.long p1), .second, .val (.int p2), .val (.int (3 : Int32)), .val (.double (FP.i2d w3_c8_b0_v7)), .second, .val (.double (FP.i2d w3_c15_b1_v7)), .second, .val (.double (FP.i2d w3_c22_b2_v7)), .second, .val (.double (FP.i2d w3_c29_b0_v7)), .second, .val (.double (FP.i2d w3_c36_b1_v7)), .second, .val (.double (FP.i2d w3_c43_b2_v7)), .second, .unset, .unset, .unset, .unset, .unset, .unset, .unset, .unset, .unset, .unset, .unset, .unset, .unset, .unset, .unset] [(.int (3 : Int32)), (.long p1)])) rfl (by rw [hml]; rfl) (argsL := [(.long p1), (.int (3 : Int32))]) (rest := []) (lenOf own_pd_28JI29D rfl) rfl (by show 2 * 0 + _ ≤ _; exact Nat.le_of_eq rfl) (hb hby at_50) (fun _ _ => ⟨rfl, ew36, (by decide : 0 + 0 ≤ _), (by decide : 0 + 0 ≤ _)⟩)
  dsimp only [Pt.U, Pt.locs, Pt.cells, Pt.slots] at Xw37 lw37 yw37 zw37 stw37 hQw37
  rw [lw37, yw37, zw37] at Xw37
  obtain ⟨rfl, Nw37q, ew37⟩ := hQw37
  have Nw37 := Fr.app Nw36 Nw37q
  obtain ⟨_, _, ⟨Tw38, Lw38, kw38, nw38⟩, -, Xw38, ⟨Lcw38, hQw38, lw38, yw38, zw38⟩, stw38⟩ := Jvm.LawKit.callS Xw37 hx (y := (⟨"com/example/differentia/differentia/problems/Cec2013TransformsRotatePinLaw", "b", "(JI)D"⟩ : MethodName)) hown (mvT hZ (hw _ (List.mem_of_getElem? (i := 0) rfl))) (mvT hZ (hw _ (List.mem_of_getElem? (i := 1) rfl))) (mvT hZ (hw _ (List.mem_of_getElem? (i := 2) rfl))) (mvT hZ (hw _ (List.mem_of_getElem? (i := 3) rfl))) (by decide) (backOf (W := 0) (own_rm_b4 l Z a0 hw [] p1 h0 n0 Z0 w3_c57_b4_hv5 w3_c57_b4_hv6 w3_c57_b4_hv7) hZ (hw _ (List.mem_of_getElem? (i := 3) rfl)) (hw _ (List.mem_of_getElem? (i := 2) rfl)) (by decide) (by decide)) (g := (mkF m 57 #[.val (.long p0), .second, .val (.long p1), .second, .val (.int p2), .val (.int (3 : Int32)), .val (.double (FP.i2d w3_c8_b0_v7)), .second, .val (.double (FP.i2d w3_c15_b1_v7)), .second, .val (.double (FP.i2d w3_c22_b2_v7)), .second, .val (.double (FP.i2d w3_c29_b0_v7)), .second, .val (.double (FP.i2d w3_c36_b1_v7)), .second, .val (.double (FP.i2d w3_c43_b2_v7)), .second, .val (.double (FP.i2d w3_c50_b3_v7)), .second, .unset, .unset, .unset, .unset, .unset, .unset, .unset, .unset, .unset, .unset, .unset, .unset, .unset] [(.int (4 : Int32)), (.long p1)])) rfl (by rw [hml]; rfl) (argsL := [(.long p1), (.int (4 : Int32))]) (rest := []) (lenOf own_pd_28JI29D rfl) rfl (by show 2 * 0 + _ ≤ _; exact Nat.le_of_eq rfl) (hb hby at_57) (fun _ _ => ⟨rfl, ew37, (by decide : 0 + 0 ≤ _), (by decide : 0 + 0 ≤ _)⟩)
  dsimp only [Pt.U, Pt.locs, Pt.cells, Pt.slots] at Xw38 lw38 yw38 zw38 stw38 hQw38
  rw [lw38, yw38, zw38] at Xw38
  obtain ⟨rfl, Nw38q, ew38⟩ := hQw38
  have Nw38 := Fr.app Nw37 Nw38q
  obtain ⟨_, _, ⟨Tw39, Lw39, kw39, nw39⟩, -, Xw39, ⟨Lcw39, hQw39, lw39, yw39, zw39⟩, stw39⟩ := Jvm.LawKit.callS Xw38 hx (y := (⟨"com/example/differentia/differentia/problems/Cec2013TransformsRotatePinLaw", "b", "(JI)D"⟩ : MethodName)) hown (mvT hZ (hw _ (List.mem_of_getElem? (i := 0) rfl))) (mvT hZ (hw _ (List.mem_of_getElem? (i := 1) rfl))) (mvT hZ (hw _ (List.mem_of_getElem? (i := 2) rfl))) (mvT hZ (hw _ (List.mem_of_getElem? (i := 3) rfl))) (by decide) (backOf (W := 0) (own_rm_b5 l Z a0 hw [] p1 h0 n0 Z0 w3_c64_b5_hv5 w3_c64_b5_hv6 w3_c64_b5_hv7) hZ (hw _ (List.mem_of_getElem? (i := 3) rfl)) (hw _ (List.mem_of_getElem? (i := 2) rfl)) (by decide) (by decide)) (g := (mkF m 64 #[.val (.long p0), .second, .val (.long p1), .second, .val (.int p2), .val (.int (3 : Int32)), .val (.double (FP.i2d w3_c8_b0_v7)), .second, .val (.double (FP.i2d w3_c15_b1_v7)), .second, .val (.double (FP.i2d w3_c22_b2_v7)), .second, .val (.double (FP.i2d w3_c29_b0_v7)), .second, .val (.double (FP.i2d w3_c36_b1_v7)), .second, .val (.double (FP.i2d w3_c43_b2_v7)), .second, .val (.double (FP.i2d w3_c50_b3_v7)), .second, .val (.double (FP.i2d w3_c57_b4_v7)), .second, .unset, .unset, .unset, .unset, .unset, .unset, .unset, .unset, .unset, .unset, .unset] [(.int (5 : Int32)), (.long p1)])) rfl (by rw [hml]; rfl) (argsL := [(.long p1), (.int (5 : Int32))]) (rest := []) (lenOf own_pd_28JI29D rfl) rfl (by show 2 * 0 + _ ≤ _; exact Nat.le_of_eq rfl) (hb hby at_64) (fun _ _ => ⟨rfl, ew38, (by decide : 0 + 0 ≤ _), (by decide : 0 + 0 ≤ _)⟩)
  dsimp only [Pt.U, Pt.locs, Pt.cells, Pt.slots] at Xw39 lw39 yw39 zw39 stw39 hQw39
  rw [lw39, yw39, zw39] at Xw39
  obtain ⟨rfl, Nw39q, ew39⟩ := hQw39
  have Nw39 := Fr.app Nw38 Nw39q
  obtain ⟨_, _, ⟨Tw310, Lw310, kw310, nw310⟩, -, Xw310, ⟨Lcw310, hQw310, lw310, yw310, zw310⟩, stw310⟩ := Jvm.LawKit.callS Xw39 hx (y := (⟨"com/example/differentia/differentia/problems/Cec2013TransformsRotatePinLaw", "b", "(JI)D"⟩ : MethodName)) hown (mvT hZ (hw _ (List.mem_of_getElem? (i := 0) rfl))) (mvT hZ (hw _ (List.mem_of_getElem? (i := 1) rfl))) (mvT hZ (hw _ (List.mem_of_getElem? (i := 2) rfl))) (mvT hZ (hw _ (List.mem_of_getElem? (i := 3) rfl))) (by decide) (backOf (W := 0) (own_rm_b6 l Z a0 hw [] p1 h0 n0 Z0 w3_c72_b6_hv5 w3_c72_b6_hv6 w3_c72_b6_hv7) hZ (hw _ (List.mem_of_getElem? (i := 3) rfl)) (hw _ (List.mem_of_getElem? (i := 2) rfl)) (by decide) (by decide)) (g := (mkF m 72 #[.val (.long p0), .second, .val (.long p1), .second, .val (.int p2), .val (.int (3 : Int32)), .val (.double (FP.i2d w3_c8_b0_v7)), .second, .val (.double (FP.i2d w3_c15_b1_v7)), .second, .val (.double (FP.i2d w3_c22_b2_v7)), .second, .val (.double (FP.i2d w3_c29_b0_v7)), .second, .val (.double (FP.i2d w3_c36_b1_v7)), .second, .val (.double (FP.i2d w3_c43_b2_v7)), .second, .val (.double (FP.i2d w3_c50_b3_v7)), .second, .val (.double (FP.i2d w3_c57_b4_v7)), .second, .val (.double (FP.i2d w3_c64_b5_v7)), .second, .unset, .unset, .unset, .unset, .unset, .unset, .unset, .unset, .unset] [(.int (6 : Int32)), (.long p1)])) rfl (by rw [hml]; rfl) (argsL := [(.long p1), (.int (6 : Int32))]) (rest := []) (lenOf own_pd_28JI29D rfl) rfl (by show 2 * 0 + _ ≤ _; exact Nat.le_of_eq rfl) (hb hby at_72) (fun _ _ => ⟨rfl, ew39, (by decide : 0 + 0 ≤ _), (by decide : 0 + 0 ≤ _)⟩)
  dsimp only [Pt.U, Pt.locs, Pt.cells, Pt.slots] at Xw310 lw310 yw310 zw310 stw310 hQw310
  rw [lw310, yw310, zw310] at Xw310
  obtain ⟨rfl, Nw310q, ew310⟩ := hQw310
  have Nw310 := Fr.app Nw39 Nw310q
  obtain ⟨_, _, ⟨Tw311, Lw311, kw311, nw311⟩, -, Xw311, ⟨Lcw311, hQw311, lw311, yw311, zw311⟩, stw311⟩ := Jvm.LawKit.callS Xw310 hx (y := (⟨"com/example/differentia/differentia/problems/Cec2013TransformsRotatePinLaw", "b", "(JI)D"⟩ : MethodName)) hown (mvT hZ (hw _ (List.mem_of_getElem? (i := 0) rfl))) (mvT hZ (hw _ (List.mem_of_getElem? (i := 1) rfl))) (mvT hZ (hw _ (List.mem_of_getElem? (i := 2) rfl))) (mvT hZ (hw _ (List.mem_of_getElem? (i := 3) rfl))) (by decide) (backOf (W := 0) (own_rm_b7 l Z a0 hw [] p1 h0 n0 Z0 w3_c80_b7_hv5 w3_c80_b7_hv6 w3_c80_b7_hv7) hZ (hw _ (List.mem_of_getElem? (i := 3) rfl)) (hw _ (List.mem_of_getElem? (i := 2) rfl)) (by decide) (by decide)) (g := (mkF m 80 #[.val (.long p0), .second, .val (.long p1), .second, .val (.int p2), .val (.int (3 : Int32)), .val (.double (FP.i2d w3_c8_b0_v7)), .second, .val (.double (FP.i2d w3_c15_b1_v7)), .second, .val (.double (FP.i2d w3_c22_b2_v7)), .second, .val (.double (FP.i2d w3_c29_b0_v7)), .second, .val (.double (FP.i2d w3_c36_b1_v7)), .second, .val (.double (FP.i2d w3_c43_b2_v7)), .second, .val (.double (FP.i2d w3_c50_b3_v7)), .second, .val (.double (FP.i2d w3_c57_b4_v7)), .second, .val (.double (FP.i2d w3_c64_b5_v7)), .second, .val (.double (FP.i2d w3_c72_b6_v7)), .second, .unset, .unset, .unset, .unset, .unset, .unset, .unset] [(.int (7 : Int32)), (.long p1)])) rfl (by rw [hml]; rfl) (argsL := [(.long p1), (.int (7 : Int32))]) (rest := []) (lenOf own_pd_28JI29D rfl) rfl (by show 2 * 0 + _ ≤ _; exact Nat.le_of_eq rfl) (hb hby at_80) (fun _ _ => ⟨rfl, ew310, (by decide : 0 + 0 ≤ _), (by decide : 0 + 0 ≤ _)⟩)
  dsimp only [Pt.U, Pt.locs, Pt.cells, Pt.slots] at Xw311 lw311 yw311 zw311 stw311 hQw311
  rw [lw311, yw311, zw311] at Xw311
  obtain ⟨rfl, Nw311q, ew311⟩ := hQw311
  have Nw311 := Fr.app Nw310 Nw311q
  obtain ⟨_, _, ⟨Tw312, Lw312, kw312, nw312⟩, -, Xw312, ⟨Lcw312, hQw312, lw312, yw312, zw312⟩, stw312⟩ := Jvm.LawKit.callS Xw311 hx (y := (⟨"com/example/differentia/differentia/problems/Cec2013TransformsRotatePinLaw", "b", "(JI)D"⟩ : MethodName)) hown (mvT hZ (hw _ (List.mem_of_getElem? (i := 0) rfl))) (mvT hZ (hw _ (List.mem_of_getElem? (i := 1) rfl))) (mvT hZ (hw _ (List.mem_of_getElem? (i := 2) rfl))) (mvT hZ (hw _ (List.mem_of_getElem? (i := 3) rfl))) (by decide) (backOf (W := 0) (own_rm_b3 l Z a0 hw [] p0 h0 n0 Z0 w3_c87_b3_hv5 w3_c87_b3_hv6 w3_c87_b3_hv7) hZ (hw _ (List.mem_of_getElem? (i := 3) rfl)) (hw _ (List.mem_of_getElem? (i := 2) rfl)) (by decide) (by decide)) (g := (mkF m 87 #[.val (.long p0), .second, .val (.long p1), .second, .val (.int p2), .val (.int (3 : Int32)), .val (.double (FP.i2d w3_c8_b0_v7)), .second, .val (.double (FP.i2d w3_c15_b1_v7)), .second, .val (.double (FP.i2d w3_c22_b2_v7)), .second, .val (.double (FP.i2d w3_c29_b0_v7)), .second, .val (.double (FP.i2d w3_c36_b1_v7)), .second, .val (.double (FP.i2d w3_c43_b2_v7)), .second, .val (.double (FP.i2d w3_c50_b3_v7)), .second, .val (.double (FP.i2d w3_c57_b4_v7)), .second, .val (.double (FP.i2d w3_c64_b5_v7)), .second, .val (.double (FP.i2d w3_c72_b6_v7)), .second, .val (.double (FP.i2d w3_c80_b7_v7)), .second, .unset, .unset, .unset, .unset, .unset] [(.int (3 : Int32)), (.long p0)])) rfl (by rw [hml]; rfl) (argsL := [(.long p0), (.int (3 : Int32))]) (rest := []) (lenOf own_pd_28JI29D rfl) rfl (by show 2 * 0 + _ ≤ _; exact Nat.le_of_eq rfl) (hb hby at_87) (fun _ _ => ⟨rfl, ew311, (by decide : 0 + 0 ≤ _), (by decide : 0 + 0 ≤ _)⟩)
  dsimp only [Pt.U, Pt.locs, Pt.cells, Pt.slots] at Xw312 lw312 yw312 zw312 stw312 hQw312
  rw [lw312, yw312, zw312] at Xw312
  obtain ⟨rfl, Nw312q, ew312⟩ := hQw312
  have Nw312 := Fr.app Nw311 Nw312q
  obtain ⟨Tw313, hw313, kw313, bw313, Xw313, ew313, Ew313, Gw313, Vw313, stw313⟩ := own_newD (L := #[.val (.long p0), .second, .val (.long p1), .second, .val (.int p2), .val (.int (3 : Int32)), .val (.double (FP.i2d w3_c8_b0_v7)), .second, .val (.double (FP.i2d w3_c15_b1_v7)), .second, .val (.double (FP.i2d w3_c22_b2_v7)), .second, .val (.double (FP.i2d w3_c29_b0_v7)), .second, .val (.double (FP.i2d w3_c36_b1_v7)), .second, .val (.double (FP.i2d w3_c43_b2_v7)), .second, .val (.double (FP.i2d w3_c50_b3_v7)), .second, .val (.double (FP.i2d w3_c57_b4_v7)), .second, .val (.double (FP.i2d w3_c64_b5_v7)), .second, .val (.double (FP.i2d w3_c72_b6_v7)), .second, .val (.double (FP.i2d w3_c80_b7_v7)), .second, .val (.double (FP.i2d w3_c87_b3_v7)), .second, .unset, .unset, .unset]) (S := []) Xw312 hx hZ (hw _ (List.mem_of_getElem? (i := 4) rfl)) ew312 (z := (3 : Int32)) 3 (by decide) (by decide) (by decide) (by decide) (by decide) (hb hby at_288) (pc' := 290) rfl
  have g_bw313 : n0 ≤ bw313 := Nat.le_trans Z0 (Nat.le_of_eq Gw313.symm)
  have sz_bw313 : h0.size ≤ bw313 := Nat.le_trans (Keep.refl h0 []).1 (Nat.le_of_eq Gw313.symm)
  have Zw313 : n0 ≤ hw313.size := Nat.le_trans Z0 Ew313.1
  have KKw313 := (Keep.refl h0 []).ext Ew313
  have V_bw313 : Arv Z hw313 bw313 kw313 .double (3 : Int32) [(.double 0), (.double 0), (.double 0)] (.double 0) := Vw313
  obtain ⟨Tw314, hw314, Xw314, ew314, Ww314, Vw314, stw314⟩ := own_stD (L := #[.val (.long p0), .second, .val (.long p1), .second, .val (.int p2), .val (.int (3 : Int32)), .val (.double (FP.i2d w3_c8_b0_v7)), .second, .val (.double (FP.i2d w3_c15_b1_v7)), .second, .val (.double (FP.i2d w3_c22_b2_v7)), .second, .val (.double (FP.i2d w3_c29_b0_v7)), .second, .val (.double (FP.i2d w3_c36_b1_v7)), .second, .val (.double (FP.i2d w3_c43_b2_v7)), .second, .val (.double (FP.i2d w3_c50_b3_v7)), .second, .val (.double (FP.i2d w3_c57_b4_v7)), .second, .val (.double (FP.i2d w3_c64_b5_v7)), .second, .val (.double (FP.i2d w3_c72_b6_v7)), .second, .val (.double (FP.i2d w3_c80_b7_v7)), .second, .val (.double (FP.i2d w3_c87_b3_v7)), .second, .unset, .unset, .unset]) (S := [(.ref bw313)]) Xw313 hx hZ ew313 V_bw313 (j := (0 : Int32)) (x := (FP.i2d w3_c8_b0_v7)) (by decide) 0 (by decide) (Nat.le_of_ble_eq_true rfl) (hb hby at_294) (pc' := 295) rfl
  have Zw314 : n0 ≤ hw314.size := Nat.le_trans Zw313 (Nat.le_of_eq Ww314.size.symm)
  have KKw314 := KKw313.wr Ww314 (Or.inr sz_bw313)
  have V_bw313_w314 : Arv Z hw314 bw313 kw313 .double (3 : Int32) [(.double (FP.i2d w3_c8_b0_v7)), (.double 0), (.double 0)] (.double 0) := Vw314
  have Nw314 := Fr.snoc Xw314 Nw312 g_bw313
  obtain ⟨Tw315, hw315, Xw315, ew315, Ww315, Vw315, stw315⟩ := own_stD (L := #[.val (.long p0), .second, .val (.long p1), .second, .val (.int p2), .val (.int (3 : Int32)), .val (.double (FP.i2d w3_c8_b0_v7)), .second, .val (.double (FP.i2d w3_c15_b1_v7)), .second, .val (.double (FP.i2d w3_c22_b2_v7)), .second, .val (.double (FP.i2d w3_c29_b0_v7)), .second, .val (.double (FP.i2d w3_c36_b1_v7)), .second, .val (.double (FP.i2d w3_c43_b2_v7)), .second, .val (.double (FP.i2d w3_c50_b3_v7)), .second, .val (.double (FP.i2d w3_c57_b4_v7)), .second, .val (.double (FP.i2d w3_c64_b5_v7)), .second, .val (.double (FP.i2d w3_c72_b6_v7)), .second, .val (.double (FP.i2d w3_c80_b7_v7)), .second, .val (.double (FP.i2d w3_c87_b3_v7)), .second, .unset, .unset, .unset]) (S := [(.ref bw313)]) Xw314 hx hZ ew314 V_bw313_w314 (j := (1 : Int32)) (x := (FP.i2d w3_c15_b1_v7)) (by decide) 1 (by decide) (Nat.le_of_ble_eq_true rfl) (hb hby at_299) (pc' := 300) rfl
  have Zw315 : n0 ≤ hw315.size := Nat.le_trans Zw314 (Nat.le_of_eq Ww315.size.symm)
  have KKw315 := KKw314.wr Ww315 (Or.inr sz_bw313)
  have V_bw313_w315 : Arv Z hw315 bw313 kw313 .double (3 : Int32) [(.double (FP.i2d w3_c8_b0_v7)), (.double (FP.i2d w3_c15_b1_v7)), (.double 0)] (.double 0) := Vw315
  have Nw315 := Fr.snoc Xw315 Nw314 g_bw313
  obtain ⟨Tw316, hw316, Xw316, ew316, Ww316, Vw316, stw316⟩ := own_stD (L := #[.val (.long p0), .second, .val (.long p1), .second, .val (.int p2), .val (.int (3 : Int32)), .val (.double (FP.i2d w3_c8_b0_v7)), .second, .val (.double (FP.i2d w3_c15_b1_v7)), .second, .val (.double (FP.i2d w3_c22_b2_v7)), .second, .val (.double (FP.i2d w3_c29_b0_v7)), .second, .val (.double (FP.i2d w3_c36_b1_v7)), .second, .val (.double (FP.i2d w3_c43_b2_v7)), .second, .val (.double (FP.i2d w3_c50_b3_v7)), .second, .val (.double (FP.i2d w3_c57_b4_v7)), .second, .val (.double (FP.i2d w3_c64_b5_v7)), .second, .val (.double (FP.i2d w3_c72_b6_v7)), .second, .val (.double (FP.i2d w3_c80_b7_v7)), .second, .val (.double (FP.i2d w3_c87_b3_v7)), .second, .unset, .unset, .unset]) (S := [(.ref bw313)]) Xw315 hx hZ ew315 V_bw313_w315 (j := (2 : Int32)) (x := (FP.i2d w3_c22_b2_v7)) (by decide) 2 (by decide) (Nat.le_of_ble_eq_true rfl) (hb hby at_304) (pc' := 305) rfl
  have Zw316 : n0 ≤ hw316.size := Nat.le_trans Zw315 (Nat.le_of_eq Ww316.size.symm)
  have KKw316 := KKw315.wr Ww316 (Or.inr sz_bw313)
  have V_bw313_w316 : Arv Z hw316 bw313 kw313 .double (3 : Int32) [(.double (FP.i2d w3_c8_b0_v7)), (.double (FP.i2d w3_c15_b1_v7)), (.double (FP.i2d w3_c22_b2_v7))] (.double 0) := Vw316
  have Nw316 := Fr.snoc Xw316 Nw315 g_bw313
  obtain ⟨Tw317, hw317, kw317, bw317, Xw317, ew317, Ew317, Gw317, Vw317, stw317⟩ := own_newD (L := #[.val (.long p0), .second, .val (.long p1), .second, .val (.int p2), .val (.int (3 : Int32)), .val (.double (FP.i2d w3_c8_b0_v7)), .second, .val (.double (FP.i2d w3_c15_b1_v7)), .second, .val (.double (FP.i2d w3_c22_b2_v7)), .second, .val (.double (FP.i2d w3_c29_b0_v7)), .second, .val (.double (FP.i2d w3_c36_b1_v7)), .second, .val (.double (FP.i2d w3_c43_b2_v7)), .second, .val (.double (FP.i2d w3_c50_b3_v7)), .second, .val (.double (FP.i2d w3_c57_b4_v7)), .second, .val (.double (FP.i2d w3_c64_b5_v7)), .second, .val (.double (FP.i2d w3_c72_b6_v7)), .second, .val (.double (FP.i2d w3_c80_b7_v7)), .second, .val (.double (FP.i2d w3_c87_b3_v7)), .second, .val (.ref bw313), .unset, .unset]) (S := []) Xw316 hx hZ (hw _ (List.mem_of_getElem? (i := 4) rfl)) ew316 (z := (9 : Int32)) 9 (by decide) (by decide) (by decide) (by decide) (by decide) (hb hby at_309) (pc' := 311) rfl
  have ne_bw313_bw317 : bw313 ≠ bw317 := Nat.ne_of_lt (Nat.lt_of_lt_of_le V_bw313_w316.lt (Nat.le_of_eq Gw317.symm))
  have ne_bw317_bw313 : bw317 ≠ bw313 := Ne.symm ne_bw313_bw317
  have g_bw317 : n0 ≤ bw317 := Nat.le_trans Zw316 (Nat.le_of_eq Gw317.symm)
  have sz_bw317 : h0.size ≤ bw317 := Nat.le_trans KKw316.1 (Nat.le_of_eq Gw317.symm)
  have V_bw313_w317 := V_bw313_w316.ext Ew317
  have Zw317 : n0 ≤ hw317.size := Nat.le_trans Zw316 Ew317.1
  have KKw317 := KKw316.ext Ew317
  have V_bw317 : Arv Z hw317 bw317 kw317 .double (9 : Int32) [(.double 0), (.double 0), (.double 0), (.double 0), (.double 0), (.double 0), (.double 0), (.double 0), (.double 0)] (.double 0) := Vw317
  obtain ⟨Tw318, hw318, Xw318, ew318, Ww318, Vw318, stw318⟩ := own_stD (L := #[.val (.long p0), .second, .val (.long p1), .second, .val (.int p2), .val (.int (3 : Int32)), .val (.double (FP.i2d w3_c8_b0_v7)), .second, .val (.double (FP.i2d w3_c15_b1_v7)), .second, .val (.double (FP.i2d w3_c22_b2_v7)), .second, .val (.double (FP.i2d w3_c29_b0_v7)), .second, .val (.double (FP.i2d w3_c36_b1_v7)), .second, .val (.double (FP.i2d w3_c43_b2_v7)), .second, .val (.double (FP.i2d w3_c50_b3_v7)), .second, .val (.double (FP.i2d w3_c57_b4_v7)), .second, .val (.double (FP.i2d w3_c64_b5_v7)), .second, .val (.double (FP.i2d w3_c72_b6_v7)), .second, .val (.double (FP.i2d w3_c80_b7_v7)), .second, .val (.double (FP.i2d w3_c87_b3_v7)), .second, .val (.ref bw313), .unset, .unset]) (S := [(.ref bw317)]) Xw317 hx hZ ew317 V_bw317 (j := (0 : Int32)) (x := (FP.i2d w3_c29_b0_v7)) (by decide) 0 (by decide) (Nat.le_of_ble_eq_true rfl) (hb hby at_315) (pc' := 316) rfl
  have V_bw313_w318 := V_bw313_w317.other Ww318 ne_bw313_bw317
  have Zw318 : n0 ≤ hw318.size := Nat.le_trans Zw317 (Nat.le_of_eq Ww318.size.symm)
  have KKw318 := KKw317.wr Ww318 (Or.inr sz_bw317)
  have V_bw317_w318 : Arv Z hw318 bw317 kw317 .double (9 : Int32) [(.double (FP.i2d w3_c29_b0_v7)), (.double 0), (.double 0), (.double 0), (.double 0), (.double 0), (.double 0), (.double 0), (.double 0)] (.double 0) := Vw318
  have Nw318 := Fr.snoc Xw318 Nw316 g_bw317
  obtain ⟨Tw319, hw319, Xw319, ew319, Ww319, Vw319, stw319⟩ := own_stD (L := #[.val (.long p0), .second, .val (.long p1), .second, .val (.int p2), .val (.int (3 : Int32)), .val (.double (FP.i2d w3_c8_b0_v7)), .second, .val (.double (FP.i2d w3_c15_b1_v7)), .second, .val (.double (FP.i2d w3_c22_b2_v7)), .second, .val (.double (FP.i2d w3_c29_b0_v7)), .second, .val (.double (FP.i2d w3_c36_b1_v7)), .second, .val (.double (FP.i2d w3_c43_b2_v7)), .second, .val (.double (FP.i2d w3_c50_b3_v7)), .second, .val (.double (FP.i2d w3_c57_b4_v7)), .second, .val (.double (FP.i2d w3_c64_b5_v7)), .second, .val (.double (FP.i2d w3_c72_b6_v7)), .second, .val (.double (FP.i2d w3_c80_b7_v7)), .second, .val (.double (FP.i2d w3_c87_b3_v7)), .second, .val (.ref bw313), .unset, .unset]) (S := [(.ref bw317)]) Xw318 hx hZ ew318 V_bw317_w318 (j := (1 : Int32)) (x := (FP.i2d w3_c36_b1_v7)) (by decide) 1 (by decide) (Nat.le_of_ble_eq_true rfl) (hb hby at_320) (pc' := 321) rfl
  have V_bw313_w319 := V_bw313_w318.other Ww319 ne_bw313_bw317
  have Zw319 : n0 ≤ hw319.size := Nat.le_trans Zw318 (Nat.le_of_eq Ww319.size.symm)
  have KKw319 := KKw318.wr Ww319 (Or.inr sz_bw317)
  have V_bw317_w319 : Arv Z hw319 bw317 kw317 .double (9 : Int32) [(.double (FP.i2d w3_c29_b0_v7)), (.double (FP.i2d w3_c36_b1_v7)), (.double 0), (.double 0), (.double 0), (.double 0), (.double 0), (.double 0), (.double 0)] (.double 0) := Vw319
  have Nw319 := Fr.snoc Xw319 Nw318 g_bw317
  obtain ⟨Tw320, hw320, Xw320, ew320, Ww320, Vw320, stw320⟩ := own_stD (L := #[.val (.long p0), .second, .val (.long p1), .second, .val (.int p2), .val (.int (3 : Int32)), .val (.double (FP.i2d w3_c8_b0_v7)), .second, .val (.double (FP.i2d w3_c15_b1_v7)), .second, .val (.double (FP.i2d w3_c22_b2_v7)), .second, .val (.double (FP.i2d w3_c29_b0_v7)), .second, .val (.double (FP.i2d w3_c36_b1_v7)), .second, .val (.double (FP.i2d w3_c43_b2_v7)), .second, .val (.double (FP.i2d w3_c50_b3_v7)), .second, .val (.double (FP.i2d w3_c57_b4_v7)), .second, .val (.double (FP.i2d w3_c64_b5_v7)), .second, .val (.double (FP.i2d w3_c72_b6_v7)), .second, .val (.double (FP.i2d w3_c80_b7_v7)), .second, .val (.double (FP.i2d w3_c87_b3_v7)), .second, .val (.ref bw313), .unset, .unset]) (S := [(.ref bw317)]) Xw319 hx hZ ew319 V_bw317_w319 (j := (2 : Int32)) (x := (FP.i2d w3_c43_b2_v7)) (by decide) 2 (by decide) (Nat.le_of_ble_eq_true rfl) (hb hby at_325) (pc' := 326) rfl
  have V_bw313_w320 := V_bw313_w319.other Ww320 ne_bw313_bw317
  have Zw320 : n0 ≤ hw320.size := Nat.le_trans Zw319 (Nat.le_of_eq Ww320.size.symm)
  have KKw320 := KKw319.wr Ww320 (Or.inr sz_bw317)
  have V_bw317_w320 : Arv Z hw320 bw317 kw317 .double (9 : Int32) [(.double (FP.i2d w3_c29_b0_v7)), (.double (FP.i2d w3_c36_b1_v7)), (.double (FP.i2d w3_c43_b2_v7)), (.double 0), (.double 0), (.double 0), (.double 0), (.double 0), (.double 0)] (.double 0) := Vw320
  have Nw320 := Fr.snoc Xw320 Nw319 g_bw317
  obtain ⟨Tw321, hw321, Xw321, ew321, Ww321, Vw321, stw321⟩ := own_stD (L := #[.val (.long p0), .second, .val (.long p1), .second, .val (.int p2), .val (.int (3 : Int32)), .val (.double (FP.i2d w3_c8_b0_v7)), .second, .val (.double (FP.i2d w3_c15_b1_v7)), .second, .val (.double (FP.i2d w3_c22_b2_v7)), .second, .val (.double (FP.i2d w3_c29_b0_v7)), .second, .val (.double (FP.i2d w3_c36_b1_v7)), .second, .val (.double (FP.i2d w3_c43_b2_v7)), .second, .val (.double (FP.i2d w3_c50_b3_v7)), .second, .val (.double (FP.i2d w3_c57_b4_v7)), .second, .val (.double (FP.i2d w3_c64_b5_v7)), .second, .val (.double (FP.i2d w3_c72_b6_v7)), .second, .val (.double (FP.i2d w3_c80_b7_v7)), .second, .val (.double (FP.i2d w3_c87_b3_v7)), .second, .val (.ref bw313), .unset, .unset]) (S := [(.ref bw317)]) Xw320 hx hZ ew320 V_bw317_w320 (j := (3 : Int32)) (x := (FP.i2d w3_c50_b3_v7)) (by decide) 3 (by decide) (Nat.le_of_ble_eq_true rfl) (hb hby at_330) (pc' := 331) rfl
  have V_bw313_w321 := V_bw313_w320.other Ww321 ne_bw313_bw317
  have Zw321 : n0 ≤ hw321.size := Nat.le_trans Zw320 (Nat.le_of_eq Ww321.size.symm)
  have KKw321 := KKw320.wr Ww321 (Or.inr sz_bw317)
  have V_bw317_w321 : Arv Z hw321 bw317 kw317 .double (9 : Int32) [(.double (FP.i2d w3_c29_b0_v7)), (.double (FP.i2d w3_c36_b1_v7)), (.double (FP.i2d w3_c43_b2_v7)), (.double (FP.i2d w3_c50_b3_v7)), (.double 0), (.double 0), (.double 0), (.double 0), (.double 0)] (.double 0) := Vw321
  have Nw321 := Fr.snoc Xw321 Nw320 g_bw317
  obtain ⟨Tw322, hw322, Xw322, ew322, Ww322, Vw322, stw322⟩ := own_stD (L := #[.val (.long p0), .second, .val (.long p1), .second, .val (.int p2), .val (.int (3 : Int32)), .val (.double (FP.i2d w3_c8_b0_v7)), .second, .val (.double (FP.i2d w3_c15_b1_v7)), .second, .val (.double (FP.i2d w3_c22_b2_v7)), .second, .val (.double (FP.i2d w3_c29_b0_v7)), .second, .val (.double (FP.i2d w3_c36_b1_v7)), .second, .val (.double (FP.i2d w3_c43_b2_v7)), .second, .val (.double (FP.i2d w3_c50_b3_v7)), .second, .val (.double (FP.i2d w3_c57_b4_v7)), .second, .val (.double (FP.i2d w3_c64_b5_v7)), .second, .val (.double (FP.i2d w3_c72_b6_v7)), .second, .val (.double (FP.i2d w3_c80_b7_v7)), .second, .val (.double (FP.i2d w3_c87_b3_v7)), .second, .val (.ref bw313), .unset, .unset]) (S := [(.ref bw317)]) Xw321 hx hZ ew321 V_bw317_w321 (j := (4 : Int32)) (x := (FP.i2d w3_c57_b4_v7)) (by decide) 4 (by decide) (Nat.le_of_ble_eq_true rfl) (hb hby at_335) (pc' := 336) rfl
  have V_bw313_w322 := V_bw313_w321.other Ww322 ne_bw313_bw317
  have Zw322 : n0 ≤ hw322.size := Nat.le_trans Zw321 (Nat.le_of_eq Ww322.size.symm)
  have KKw322 := KKw321.wr Ww322 (Or.inr sz_bw317)
  have V_bw317_w322 : Arv Z hw322 bw317 kw317 .double (9 : Int32) [(.double (FP.i2d w3_c29_b0_v7)), (.double (FP.i2d w3_c36_b1_v7)), (.double (FP.i2d w3_c43_b2_v7)), (.double (FP.i2d w3_c50_b3_v7)), (.double (FP.i2d w3_c57_b4_v7)), (.double 0), (.double 0), (.double 0), (.double 0)] (.double 0) := Vw322
  have Nw322 := Fr.snoc Xw322 Nw321 g_bw317
  obtain ⟨Tw323, hw323, Xw323, ew323, Ww323, Vw323, stw323⟩ := own_stD (L := #[.val (.long p0), .second, .val (.long p1), .second, .val (.int p2), .val (.int (3 : Int32)), .val (.double (FP.i2d w3_c8_b0_v7)), .second, .val (.double (FP.i2d w3_c15_b1_v7)), .second, .val (.double (FP.i2d w3_c22_b2_v7)), .second, .val (.double (FP.i2d w3_c29_b0_v7)), .second, .val (.double (FP.i2d w3_c36_b1_v7)), .second, .val (.double (FP.i2d w3_c43_b2_v7)), .second, .val (.double (FP.i2d w3_c50_b3_v7)), .second, .val (.double (FP.i2d w3_c57_b4_v7)), .second, .val (.double (FP.i2d w3_c64_b5_v7)), .second, .val (.double (FP.i2d w3_c72_b6_v7)), .second, .val (.double (FP.i2d w3_c80_b7_v7)), .second, .val (.double (FP.i2d w3_c87_b3_v7)), .second, .val (.ref bw313), .unset, .unset]) (S := [(.ref bw317)]) Xw322 hx hZ ew322 V_bw317_w322 (j := (5 : Int32)) (x := (FP.i2d w3_c64_b5_v7)) (by decide) 5 (by decide) (Nat.le_of_ble_eq_true rfl) (hb hby at_340) (pc' := 341) rfl
  have V_bw313_w323 := V_bw313_w322.other Ww323 ne_bw313_bw317
  have Zw323 : n0 ≤ hw323.size := Nat.le_trans Zw322 (Nat.le_of_eq Ww323.size.symm)
  have KKw323 := KKw322.wr Ww323 (Or.inr sz_bw317)
  have V_bw317_w323 : Arv Z hw323 bw317 kw317 .double (9 : Int32) [(.double (FP.i2d w3_c29_b0_v7)), (.double (FP.i2d w3_c36_b1_v7)), (.double (FP.i2d w3_c43_b2_v7)), (.double (FP.i2d w3_c50_b3_v7)), (.double (FP.i2d w3_c57_b4_v7)), (.double (FP.i2d w3_c64_b5_v7)), (.double 0), (.double 0), (.double 0)] (.double 0) := Vw323
  have Nw323 := Fr.snoc Xw323 Nw322 g_bw317
  obtain ⟨Tw324, hw324, Xw324, ew324, Ww324, Vw324, stw324⟩ := own_stD (L := #[.val (.long p0), .second, .val (.long p1), .second, .val (.int p2), .val (.int (3 : Int32)), .val (.double (FP.i2d w3_c8_b0_v7)), .second, .val (.double (FP.i2d w3_c15_b1_v7)), .second, .val (.double (FP.i2d w3_c22_b2_v7)), .second, .val (.double (FP.i2d w3_c29_b0_v7)), .second, .val (.double (FP.i2d w3_c36_b1_v7)), .second, .val (.double (FP.i2d w3_c43_b2_v7)), .second, .val (.double (FP.i2d w3_c50_b3_v7)), .second, .val (.double (FP.i2d w3_c57_b4_v7)), .second, .val (.double (FP.i2d w3_c64_b5_v7)), .second, .val (.double (FP.i2d w3_c72_b6_v7)), .second, .val (.double (FP.i2d w3_c80_b7_v7)), .second, .val (.double (FP.i2d w3_c87_b3_v7)), .second, .val (.ref bw313), .unset, .unset]) (S := [(.ref bw317)]) Xw323 hx hZ ew323 V_bw317_w323 (j := (6 : Int32)) (x := (FP.i2d w3_c72_b6_v7)) (by decide) 6 (by decide) (Nat.le_of_ble_eq_true rfl) (hb hby at_346) (pc' := 347) rfl
  have V_bw313_w324 := V_bw313_w323.other Ww324 ne_bw313_bw317
  have Zw324 : n0 ≤ hw324.size := Nat.le_trans Zw323 (Nat.le_of_eq Ww324.size.symm)
  have KKw324 := KKw323.wr Ww324 (Or.inr sz_bw317)
  have V_bw317_w324 : Arv Z hw324 bw317 kw317 .double (9 : Int32) [(.double (FP.i2d w3_c29_b0_v7)), (.double (FP.i2d w3_c36_b1_v7)), (.double (FP.i2d w3_c43_b2_v7)), (.double (FP.i2d w3_c50_b3_v7)), (.double (FP.i2d w3_c57_b4_v7)), (.double (FP.i2d w3_c64_b5_v7)), (.double (FP.i2d w3_c72_b6_v7)), (.double 0), (.double 0)] (.double 0) := Vw324
  have Nw324 := Fr.snoc Xw324 Nw323 g_bw317
  obtain ⟨Tw325, hw325, Xw325, ew325, Ww325, Vw325, stw325⟩ := own_stD (L := #[.val (.long p0), .second, .val (.long p1), .second, .val (.int p2), .val (.int (3 : Int32)), .val (.double (FP.i2d w3_c8_b0_v7)), .second, .val (.double (FP.i2d w3_c15_b1_v7)), .second, .val (.double (FP.i2d w3_c22_b2_v7)), .second, .val (.double (FP.i2d w3_c29_b0_v7)), .second, .val (.double (FP.i2d w3_c36_b1_v7)), .second, .val (.double (FP.i2d w3_c43_b2_v7)), .second, .val (.double (FP.i2d w3_c50_b3_v7)), .second, .val (.double (FP.i2d w3_c57_b4_v7)), .second, .val (.double (FP.i2d w3_c64_b5_v7)), .second, .val (.double (FP.i2d w3_c72_b6_v7)), .second, .val (.double (FP.i2d w3_c80_b7_v7)), .second, .val (.double (FP.i2d w3_c87_b3_v7)), .second, .val (.ref bw313), .unset, .unset]) (S := [(.ref bw317)]) Xw324 hx hZ ew324 V_bw317_w324 (j := (7 : Int32)) (x := (FP.i2d w3_c80_b7_v7)) (by decide) 7 (by decide) (Nat.le_of_ble_eq_true rfl) (hb hby at_352) (pc' := 353) rfl
  have V_bw313_w325 := V_bw313_w324.other Ww325 ne_bw313_bw317
  have Zw325 : n0 ≤ hw325.size := Nat.le_trans Zw324 (Nat.le_of_eq Ww325.size.symm)
  have KKw325 := KKw324.wr Ww325 (Or.inr sz_bw317)
  have V_bw317_w325 : Arv Z hw325 bw317 kw317 .double (9 : Int32) [(.double (FP.i2d w3_c29_b0_v7)), (.double (FP.i2d w3_c36_b1_v7)), (.double (FP.i2d w3_c43_b2_v7)), (.double (FP.i2d w3_c50_b3_v7)), (.double (FP.i2d w3_c57_b4_v7)), (.double (FP.i2d w3_c64_b5_v7)), (.double (FP.i2d w3_c72_b6_v7)), (.double (FP.i2d w3_c80_b7_v7)), (.double 0)] (.double 0) := Vw325
  have Nw325 := Fr.snoc Xw325 Nw324 g_bw317
  obtain ⟨Tw326, hw326, Xw326, ew326, Ww326, Vw326, stw326⟩ := own_stD (L := #[.val (.long p0), .second, .val (.long p1), .second, .val (.int p2), .val (.int (3 : Int32)), .val (.double (FP.i2d w3_c8_b0_v7)), .second, .val (.double (FP.i2d w3_c15_b1_v7)), .second, .val (.double (FP.i2d w3_c22_b2_v7)), .second, .val (.double (FP.i2d w3_c29_b0_v7)), .second, .val (.double (FP.i2d w3_c36_b1_v7)), .second, .val (.double (FP.i2d w3_c43_b2_v7)), .second, .val (.double (FP.i2d w3_c50_b3_v7)), .second, .val (.double (FP.i2d w3_c57_b4_v7)), .second, .val (.double (FP.i2d w3_c64_b5_v7)), .second, .val (.double (FP.i2d w3_c72_b6_v7)), .second, .val (.double (FP.i2d w3_c80_b7_v7)), .second, .val (.double (FP.i2d w3_c87_b3_v7)), .second, .val (.ref bw313), .unset, .unset]) (S := [(.ref bw317)]) Xw325 hx hZ ew325 V_bw317_w325 (j := (8 : Int32)) (x := (FP.i2d w3_c87_b3_v7)) (by decide) 8 (by decide) (Nat.le_of_ble_eq_true rfl) (hb hby at_358) (pc' := 359) rfl
  have V_bw313_w326 := V_bw313_w325.other Ww326 ne_bw313_bw317
  have Zw326 : n0 ≤ hw326.size := Nat.le_trans Zw325 (Nat.le_of_eq Ww326.size.symm)
  have KKw326 := KKw325.wr Ww326 (Or.inr sz_bw317)
  have V_bw317_w326 : Arv Z hw326 bw317 kw317 .double (9 : Int32) [(.double (FP.i2d w3_c29_b0_v7)), (.double (FP.i2d w3_c36_b1_v7)), (.double (FP.i2d w3_c43_b2_v7)), (.double (FP.i2d w3_c50_b3_v7)), (.double (FP.i2d w3_c57_b4_v7)), (.double (FP.i2d w3_c64_b5_v7)), (.double (FP.i2d w3_c72_b6_v7)), (.double (FP.i2d w3_c80_b7_v7)), (.double (FP.i2d w3_c87_b3_v7))] (.double 0) := Vw326
  have Nw326 := Fr.snoc Xw326 Nw325 g_bw317
  obtain ⟨_, _, ⟨Tw327, Lw327, kw327, nw327⟩, -, Xw327, ⟨Lcw327, hQw327, lw327, yw327, zw327⟩, stw327⟩ := Jvm.LawKit.callS Xw326 hx (y := (⟨"com/example/differentia/differentia/problems/Cec2013Transforms", "rotate", "([D[D)[D"⟩ : MethodName)) hown (mvT hZ (hw _ (List.mem_of_getElem? (i := 5) rfl))) (mvT hZ (hw _ (List.mem_of_getElem? (i := 6) rfl))) (mvT hZ (hw _ (List.mem_of_getElem? (i := 7) rfl))) (mvT hZ (hw _ (List.mem_of_getElem? (i := 8) rfl))) (by decide) (backOf (W := 0) (own_rm_c3 l Z a0 hw [] bw313 (FP.i2d w3_c8_b0_v7) (FP.i2d w3_c15_b1_v7) (FP.i2d w3_c22_b2_v7) bw317 (FP.i2d w3_c29_b0_v7) (FP.i2d w3_c36_b1_v7) (FP.i2d w3_c43_b2_v7) (FP.i2d w3_c50_b3_v7) (FP.i2d w3_c57_b4_v7) (FP.i2d w3_c64_b5_v7) (FP.i2d w3_c72_b6_v7) (FP.i2d w3_c80_b7_v7) (FP.i2d w3_c87_b3_v7) hw326 n0 Zw326 V_bw313_w326 V_bw317_w326 w3_c365_c3_hn43 w3_c365_c3_hv43 w3_c365_c3_hn44 w3_c365_c3_hv44 w3_c365_c3_hn43_2 w3_c365_c3_hv43_2 w3_c365_c3_hn44_2 w3_c365_c3_hv44_2 w3_c365_c3_hn43_3 w3_c365_c3_hv43_3 w3_c365_c3_hn44_3 w3_c365_c3_hv44_3 w3_c365_c3_hn43_4 w3_c365_c3_hv43_4 w3_c365_c3_hn44_4 w3_c365_c3_hv44_4 w3_c365_c3_hn43_5 w3_c365_c3_hv43_5 w3_c365_c3_hn44_5 w3_c365_c3_hv44_5 w3_c365_c3_hn43_6 w3_c365_c3_hv43_6 w3_c365_c3_hn44_6 w3_c365_c3_hv44_6 w3_c365_c3_hn43_7 w3_c365_c3_hv43_7 w3_c365_c3_hn44_7 w3_c365_c3_hv44_7 w3_c365_c3_hn43_8 w3_c365_c3_hv43_8 w3_c365_c3_hn44_8 w3_c365_c3_hv44_8 w3_c365_c3_hn43_9 w3_c365_c3_hv43_9 w3_c365_c3_hn44_9 w3_c365_c3_hv44_9) hZ (hw _ (List.mem_of_getElem? (i := 8) rfl)) (hw _ (List.mem_of_getElem? (i := 7) rfl)) (by decide) (by decide)) (g := (mkF m 365 #[.val (.long p0), .second, .val (.long p1), .second, .val (.int p2), .val (.int (3 : Int32)), .val (.double (FP.i2d w3_c8_b0_v7)), .second, .val (.double (FP.i2d w3_c15_b1_v7)), .second, .val (.double (FP.i2d w3_c22_b2_v7)), .second, .val (.double (FP.i2d w3_c29_b0_v7)), .second, .val (.double (FP.i2d w3_c36_b1_v7)), .second, .val (.double (FP.i2d w3_c43_b2_v7)), .second, .val (.double (FP.i2d w3_c50_b3_v7)), .second, .val (.double (FP.i2d w3_c57_b4_v7)), .second, .val (.double (FP.i2d w3_c64_b5_v7)), .second, .val (.double (FP.i2d w3_c72_b6_v7)), .second, .val (.double (FP.i2d w3_c80_b7_v7)), .second, .val (.double (FP.i2d w3_c87_b3_v7)), .second, .val (.ref bw313), .val (.ref bw317), .unset] [(.ref bw317), (.ref bw313)])) rfl (by rw [hml]; rfl) (argsL := [(.ref bw313), (.ref bw317)]) (rest := []) (lenOf own_pd_285bD5bD295bD rfl) rfl (by show 2 * 0 + _ ≤ _; exact Nat.le_of_eq rfl) (hb hby at_365) (fun _ _ => ⟨rfl, ew326, (by decide : 2 + 1 ≤ _), (by decide : 12 + 3 ≤ _)⟩)
  dsimp only [Pt.U, Pt.locs, Pt.cells, Pt.slots] at Xw327 lw327 yw327 zw327 stw327 hQw327
  rw [lw327, yw327, zw327] at Xw327
  obtain ⟨bw327, kw327a, rfl, Nw327q, Kw327, Gw327, qw327_0⟩ := hQw327
  have ne_bw313_bw327 : bw313 ≠ bw327 := Nat.ne_of_lt (Nat.lt_of_lt_of_le V_bw313_w326.lt Gw327)
  have ne_bw327_bw313 : bw327 ≠ bw313 := Ne.symm ne_bw313_bw327
  have ne_bw317_bw327 : bw317 ≠ bw327 := Nat.ne_of_lt (Nat.lt_of_lt_of_le V_bw317_w326.lt Gw327)
  have ne_bw327_bw317 : bw327 ≠ bw317 := Ne.symm ne_bw317_bw327
  have g_bw327 : n0 ≤ bw327 := Nat.le_trans Zw326 Gw327
  have sz_bw327 : h0.size ≤ bw327 := Nat.le_trans KKw326.1 Gw327
  have V_bw313_w327 := V_bw313_w326.keep Kw327 (List.not_mem_nil)
  have V_bw317_w327 := V_bw317_w326.keep Kw327 (List.not_mem_nil)
  have Zw327 : n0 ≤ Tw327.heap.size := Nat.le_trans Zw326 Kw327.1
  have KKw327 := KKw326.trans Kw327 (fun _ q => nomatch q)
  have Nw327 := Fr.app Nw326 Nw327q
  obtain ⟨fs, hr, hrun, hended, hW, hsame⟩ := Xw327.leave (v := some (.int (1 : Int32))) (fun h => by rw [Bd.returns] at h; cases h)
  refine ⟨_, _, pre0 _ ?_, hrun, hended, _, _, rfl, ?_, ⟨_, rfl⟩, hW, hsame.mono (by decide) (by decide)⟩
  · refine own_s_iload X0.here hx (hb hby at_0) (pc' := 2) rfl rfl ?_
    refine own_s_iconst X0.here hx (hb hby at_2) (pc' := 3) rfl (v := (3 : Int32)) (by decide) ?_
    refine own_s_iand X0.here hx (hb hby at_3) (pc' := 4) rfl (v := (3 : Int32)) w3_hv3 ?_
    refine own_s_istore X0.here hx (hb hby at_4) (pc' := 6) rfl (L' := #[.val (.long p0), .second, .val (.long p1), .second, .val (.int p2), .val (.int (3 : Int32)), .unset, .unset, .unset, .unset, .unset, .unset, .unset, .unset, .unset, .unset, .unset, .unset, .unset, .unset, .unset, .unset, .unset, .unset, .unset, .unset, .unset, .unset, .unset, .unset, .unset, .unset, .unset]) rfl ?_
    refine own_s_lloadN X0.here hx (hb hby at_6) (pc' := 7) rfl rfl ?_
    refine own_s_iconst X0.here hx (hb hby at_7) (pc' := 8) rfl (v := (0 : Int32)) (by decide) ?_
    refine stw31 _ ?_
    show Steps p.tables e below (Tw31.setTop (mkF m 11 #[.val (.long p0), .second, .val (.long p1), .second, .val (.int p2), .val (.int (3 : Int32)), .unset, .unset, .unset, .unset, .unset, .unset, .unset, .unset, .unset, .unset, .unset, .unset, .unset, .unset, .unset, .unset, .unset, .unset, .unset, .unset, .unset, .unset, .unset, .unset, .unset, .unset, .unset] [(.double (FP.i2d w3_c8_b0_v7))])) _
    refine own_s_dstore Xw31.here hx (hb hby at_11) (pc' := 13) rfl (L' := #[.val (.long p0), .second, .val (.long p1), .second, .val (.int p2), .val (.int (3 : Int32)), .val (.double (FP.i2d w3_c8_b0_v7)), .second, .unset, .unset, .unset, .unset, .unset, .unset, .unset, .unset, .unset, .unset, .unset, .unset, .unset, .unset, .unset, .unset, .unset, .unset, .unset, .unset, .unset, .unset, .unset, .unset, .unset]) rfl ?_
    refine own_s_lloadN Xw31.here hx (hb hby at_13) (pc' := 14) rfl rfl ?_
    refine own_s_iconst Xw31.here hx (hb hby at_14) (pc' := 15) rfl (v := (1 : Int32)) (by decide) ?_
    refine stw32 _ ?_
    show Steps p.tables e below (Tw32.setTop (mkF m 18 #[.val (.long p0), .second, .val (.long p1), .second, .val (.int p2), .val (.int (3 : Int32)), .val (.double (FP.i2d w3_c8_b0_v7)), .second, .unset, .unset, .unset, .unset, .unset, .unset, .unset, .unset, .unset, .unset, .unset, .unset, .unset, .unset, .unset, .unset, .unset, .unset, .unset, .unset, .unset, .unset, .unset, .unset, .unset] [(.double (FP.i2d w3_c15_b1_v7))])) _
    refine own_s_dstore Xw32.here hx (hb hby at_18) (pc' := 20) rfl (L' := #[.val (.long p0), .second, .val (.long p1), .second, .val (.int p2), .val (.int (3 : Int32)), .val (.double (FP.i2d w3_c8_b0_v7)), .second, .val (.double (FP.i2d w3_c15_b1_v7)), .second, .unset, .unset, .unset, .unset, .unset, .unset, .unset, .unset, .unset, .unset, .unset, .unset, .unset, .unset, .unset, .unset, .unset, .unset, .unset, .unset, .unset, .unset, .unset]) rfl ?_
    refine own_s_lloadN Xw32.here hx (hb hby at_20) (pc' := 21) rfl rfl ?_
    refine own_s_iconst Xw32.here hx (hb hby at_21) (pc' := 22) rfl (v := (2 : Int32)) (by decide) ?_
    refine stw33 _ ?_
    show Steps p.tables e below (Tw33.setTop (mkF m 25 #[.val (.long p0), .second, .val (.long p1), .second, .val (.int p2), .val (.int (3 : Int32)), .val (.double (FP.i2d w3_c8_b0_v7)), .second, .val (.double (FP.i2d w3_c15_b1_v7)), .second, .unset, .unset, .unset, .unset, .unset, .unset, .unset, .unset, .unset, .unset, .unset, .unset, .unset, .unset, .unset, .unset, .unset, .unset, .unset, .unset, .unset, .unset, .unset] [(.double (FP.i2d w3_c22_b2_v7))])) _
    refine own_s_dstore Xw33.here hx (hb hby at_25) (pc' := 27) rfl (L' := #[.val (.long p0), .second, .val (.long p1), .second, .val (.int p2), .val (.int (3 : Int32)), .val (.double (FP.i2d w3_c8_b0_v7)), .second, .val (.double (FP.i2d w3_c15_b1_v7)), .second, .val (.double (FP.i2d w3_c22_b2_v7)), .second, .unset, .unset, .unset, .unset, .unset, .unset, .unset, .unset, .unset, .unset, .unset, .unset, .unset, .unset, .unset, .unset, .unset, .unset, .unset, .unset, .unset]) rfl ?_
    refine own_s_lloadN Xw33.here hx (hb hby at_27) (pc' := 28) rfl rfl ?_
    refine own_s_iconst Xw33.here hx (hb hby at_28) (pc' := 29) rfl (v := (0 : Int32)) (by decide) ?_
    refine stw34 _ ?_
    show Steps p.tables e below (Tw34.setTop (mkF m 32 #[.val (.long p0), .second, .val (.long p1), .second, .val (.int p2), .val (.int (3 : Int32)), .val (.double (FP.i2d w3_c8_b0_v7)), .second, .val (.double (FP.i2d w3_c15_b1_v7)), .second, .val (.double (FP.i2d w3_c22_b2_v7)), .second, .unset, .unset, .unset, .unset, .unset, .unset, .unset, .unset, .unset, .unset, .unset, .unset, .unset, .unset, .unset, .unset, .unset, .unset, .unset, .unset, .unset] [(.double (FP.i2d w3_c29_b0_v7))])) _
    refine own_s_dstore Xw34.here hx (hb hby at_32) (pc' := 34) rfl (L' := #[.val (.long p0), .second, .val (.long p1), .second, .val (.int p2), .val (.int (3 : Int32)), .val (.double (FP.i2d w3_c8_b0_v7)), .second, .val (.double (FP.i2d w3_c15_b1_v7)), .second, .val (.double (FP.i2d w3_c22_b2_v7)), .second, .val (.double (FP.i2d w3_c29_b0_v7)), .second, .unset, .unset, .unset, .unset, .unset, .unset, .unset, .unset, .unset, .unset, .unset, .unset, .unset, .unset, .unset, .unset, .unset, .unset, .unset]) rfl ?_
    refine own_s_lloadN Xw34.here hx (hb hby at_34) (pc' := 35) rfl rfl ?_
    refine own_s_iconst Xw34.here hx (hb hby at_35) (pc' := 36) rfl (v := (1 : Int32)) (by decide) ?_
    refine stw35 _ ?_
    show Steps p.tables e below (Tw35.setTop (mkF m 39 #[.val (.long p0), .second, .val (.long p1), .second, .val (.int p2), .val (.int (3 : Int32)), .val (.double (FP.i2d w3_c8_b0_v7)), .second, .val (.double (FP.i2d w3_c15_b1_v7)), .second, .val (.double (FP.i2d w3_c22_b2_v7)), .second, .val (.double (FP.i2d w3_c29_b0_v7)), .second, .unset, .unset, .unset, .unset, .unset, .unset, .unset, .unset, .unset, .unset, .unset, .unset, .unset, .unset, .unset, .unset, .unset, .unset, .unset] [(.double (FP.i2d w3_c36_b1_v7))])) _
    refine own_s_dstore Xw35.here hx (hb hby at_39) (pc' := 41) rfl (L' := #[.val (.long p0), .second, .val (.long p1), .second, .val (.int p2), .val (.int (3 : Int32)), .val (.double (FP.i2d w3_c8_b0_v7)), .second, .val (.double (FP.i2d w3_c15_b1_v7)), .second, .val (.double (FP.i2d w3_c22_b2_v7)), .second, .val (.double (FP.i2d w3_c29_b0_v7)), .second, .val (.double (FP.i2d w3_c36_b1_v7)), .second, .unset, .unset, .unset, .unset, .unset, .unset, .unset, .unset, .unset, .unset, .unset, .unset, .unset, .unset, .unset, .unset, .unset]) rfl ?_
    refine own_s_lloadN Xw35.here hx (hb hby at_41) (pc' := 42) rfl rfl ?_
    refine own_s_iconst Xw35.here hx (hb hby at_42) (pc' := 43) rfl (v := (2 : Int32)) (by decide) ?_
    refine stw36 _ ?_
    show Steps p.tables e below (Tw36.setTop (mkF m 46 #[.val (.long p0), .second, .val (.long p1), .second, .val (.int p2), .val (.int (3 : Int32)), .val (.double (FP.i2d w3_c8_b0_v7)), .second, .val (.double (FP.i2d w3_c15_b1_v7)), .second, .val (.double (FP.i2d w3_c22_b2_v7)), .second, .val (.double (FP.i2d w3_c29_b0_v7)), .second, .val (.double (FP.i2d w3_c36_b1_v7)), .second, .unset, .unset, .unset, .unset, .unset, .unset, .unset, .unset, .unset, .unset, .unset, .unset, .unset, .unset, .unset, .unset, .unset] [(.double (FP.i2d w3_c43_b2_v7))])) _
    refine own_s_dstore Xw36.here hx (hb hby at_46) (pc' := 48) rfl (L' := #[.val (.long p0), .second, .val (.long p1), .second, .val (.int p2), .val (.int (3 : Int32)), .val (.double (FP.i2d w3_c8_b0_v7)), .second, .val (.double (FP.i2d w3_c15_b1_v7)), .second, .val (.double (FP.i2d w3_c22_b2_v7)), .second, .val (.double (FP.i2d w3_c29_b0_v7)), .second, .val (.double (FP.i2d w3_c36_b1_v7)), .second, .val (.double (FP.i2d w3_c43_b2_v7)), .second, .unset, .unset, .unset, .unset, .unset, .unset, .unset, .unset, .unset, .unset, .unset, .unset, .unset, .unset, .unset]) rfl ?_
    refine own_s_lloadN Xw36.here hx (hb hby at_48) (pc' := 49) rfl rfl ?_
    refine own_s_iconst Xw36.here hx (hb hby at_49) (pc' := 50) rfl (v := (3 : Int32)) (by decide) ?_
    refine stw37 _ ?_
    show Steps p.tables e below (Tw37.setTop (mkF m 53 #[.val (.long p0), .second, .val (.long p1), .second, .val (.int p2), .val (.int (3 : Int32)), .val (.double (FP.i2d w3_c8_b0_v7)), .second, .val (.double (FP.i2d w3_c15_b1_v7)), .second, .val (.double (FP.i2d w3_c22_b2_v7)), .second, .val (.double (FP.i2d w3_c29_b0_v7)), .second, .val (.double (FP.i2d w3_c36_b1_v7)), .second, .val (.double (FP.i2d w3_c43_b2_v7)), .second, .unset, .unset, .unset, .unset, .unset, .unset, .unset, .unset, .unset, .unset, .unset, .unset, .unset, .unset, .unset] [(.double (FP.i2d w3_c50_b3_v7))])) _
    refine own_s_dstore Xw37.here hx (hb hby at_53) (pc' := 55) rfl (L' := #[.val (.long p0), .second, .val (.long p1), .second, .val (.int p2), .val (.int (3 : Int32)), .val (.double (FP.i2d w3_c8_b0_v7)), .second, .val (.double (FP.i2d w3_c15_b1_v7)), .second, .val (.double (FP.i2d w3_c22_b2_v7)), .second, .val (.double (FP.i2d w3_c29_b0_v7)), .second, .val (.double (FP.i2d w3_c36_b1_v7)), .second, .val (.double (FP.i2d w3_c43_b2_v7)), .second, .val (.double (FP.i2d w3_c50_b3_v7)), .second, .unset, .unset, .unset, .unset, .unset, .unset, .unset, .unset, .unset, .unset, .unset, .unset, .unset]) rfl ?_
    refine own_s_lloadN Xw37.here hx (hb hby at_55) (pc' := 56) rfl rfl ?_
    refine own_s_iconst Xw37.here hx (hb hby at_56) (pc' := 57) rfl (v := (4 : Int32)) (by decide) ?_
    refine stw38 _ ?_
    show Steps p.tables e below (Tw38.setTop (mkF m 60 #[.val (.long p0), .second, .val (.long p1), .second, .val (.int p2), .val (.int (3 : Int32)), .val (.double (FP.i2d w3_c8_b0_v7)), .second, .val (.double (FP.i2d w3_c15_b1_v7)), .second, .val (.double (FP.i2d w3_c22_b2_v7)), .second, .val (.double (FP.i2d w3_c29_b0_v7)), .second, .val (.double (FP.i2d w3_c36_b1_v7)), .second, .val (.double (FP.i2d w3_c43_b2_v7)), .second, .val (.double (FP.i2d w3_c50_b3_v7)), .second, .unset, .unset, .unset, .unset, .unset, .unset, .unset, .unset, .unset, .unset, .unset, .unset, .unset] [(.double (FP.i2d w3_c57_b4_v7))])) _
    refine own_s_dstore Xw38.here hx (hb hby at_60) (pc' := 62) rfl (L' := #[.val (.long p0), .second, .val (.long p1), .second, .val (.int p2), .val (.int (3 : Int32)), .val (.double (FP.i2d w3_c8_b0_v7)), .second, .val (.double (FP.i2d w3_c15_b1_v7)), .second, .val (.double (FP.i2d w3_c22_b2_v7)), .second, .val (.double (FP.i2d w3_c29_b0_v7)), .second, .val (.double (FP.i2d w3_c36_b1_v7)), .second, .val (.double (FP.i2d w3_c43_b2_v7)), .second, .val (.double (FP.i2d w3_c50_b3_v7)), .second, .val (.double (FP.i2d w3_c57_b4_v7)), .second, .unset, .unset, .unset, .unset, .unset, .unset, .unset, .unset, .unset, .unset, .unset]) rfl ?_
    refine own_s_lloadN Xw38.here hx (hb hby at_62) (pc' := 63) rfl rfl ?_
    refine own_s_iconst Xw38.here hx (hb hby at_63) (pc' := 64) rfl (v := (5 : Int32)) (by decide) ?_
    refine stw39 _ ?_
    show Steps p.tables e below (Tw39.setTop (mkF m 67 #[.val (.long p0), .second, .val (.long p1), .second, .val (.int p2), .val (.int (3 : Int32)), .val (.double (FP.i2d w3_c8_b0_v7)), .second, .val (.double (FP.i2d w3_c15_b1_v7)), .second, .val (.double (FP.i2d w3_c22_b2_v7)), .second, .val (.double (FP.i2d w3_c29_b0_v7)), .second, .val (.double (FP.i2d w3_c36_b1_v7)), .second, .val (.double (FP.i2d w3_c43_b2_v7)), .second, .val (.double (FP.i2d w3_c50_b3_v7)), .second, .val (.double (FP.i2d w3_c57_b4_v7)), .second, .unset, .unset, .unset, .unset, .unset, .unset, .unset, .unset, .unset, .unset, .unset] [(.double (FP.i2d w3_c64_b5_v7))])) _
    refine own_s_dstore Xw39.here hx (hb hby at_67) (pc' := 69) rfl (L' := #[.val (.long p0), .second, .val (.long p1), .second, .val (.int p2), .val (.int (3 : Int32)), .val (.double (FP.i2d w3_c8_b0_v7)), .second, .val (.double (FP.i2d w3_c15_b1_v7)), .second, .val (.double (FP.i2d w3_c22_b2_v7)), .second, .val (.double (FP.i2d w3_c29_b0_v7)), .second, .val (.double (FP.i2d w3_c36_b1_v7)), .second, .val (.double (FP.i2d w3_c43_b2_v7)), .second, .val (.double (FP.i2d w3_c50_b3_v7)), .second, .val (.double (FP.i2d w3_c57_b4_v7)), .second, .val (.double (FP.i2d w3_c64_b5_v7)), .second, .unset, .unset, .unset, .unset, .unset, .unset, .unset, .unset, .unset]) rfl ?_
    refine own_s_lloadN Xw39.here hx (hb hby at_69) (pc' := 70) rfl rfl ?_
    refine own_s_bipush Xw39.here hx (hb hby at_70) (pc' := 72) rfl (v := (6 : Int32)) (by decide) ?_
    refine stw310 _ ?_
    show Steps p.tables e below (Tw310.setTop (mkF m 75 #[.val (.long p0), .second, .val (.long p1), .second, .val (.int p2), .val (.int (3 : Int32)), .val (.double (FP.i2d w3_c8_b0_v7)), .second, .val (.double (FP.i2d w3_c15_b1_v7)), .second, .val (.double (FP.i2d w3_c22_b2_v7)), .second, .val (.double (FP.i2d w3_c29_b0_v7)), .second, .val (.double (FP.i2d w3_c36_b1_v7)), .second, .val (.double (FP.i2d w3_c43_b2_v7)), .second, .val (.double (FP.i2d w3_c50_b3_v7)), .second, .val (.double (FP.i2d w3_c57_b4_v7)), .second, .val (.double (FP.i2d w3_c64_b5_v7)), .second, .unset, .unset, .unset, .unset, .unset, .unset, .unset, .unset, .unset] [(.double (FP.i2d w3_c72_b6_v7))])) _
    refine own_s_dstore Xw310.here hx (hb hby at_75) (pc' := 77) rfl (L' := #[.val (.long p0), .second, .val (.long p1), .second, .val (.int p2), .val (.int (3 : Int32)), .val (.double (FP.i2d w3_c8_b0_v7)), .second, .val (.double (FP.i2d w3_c15_b1_v7)), .second, .val (.double (FP.i2d w3_c22_b2_v7)), .second, .val (.double (FP.i2d w3_c29_b0_v7)), .second, .val (.double (FP.i2d w3_c36_b1_v7)), .second, .val (.double (FP.i2d w3_c43_b2_v7)), .second, .val (.double (FP.i2d w3_c50_b3_v7)), .second, .val (.double (FP.i2d w3_c57_b4_v7)), .second, .val (.double (FP.i2d w3_c64_b5_v7)), .second, .val (.double (FP.i2d w3_c72_b6_v7)), .second, .unset, .unset, .unset, .unset, .unset, .unset, .unset]) rfl ?_
    refine own_s_lloadN Xw310.here hx (hb hby at_77) (pc' := 78) rfl rfl ?_
    refine own_s_bipush Xw310.here hx (hb hby at_78) (pc' := 80) rfl (v := (7 : Int32)) (by decide) ?_
    refine stw311 _ ?_
    show Steps p.tables e below (Tw311.setTop (mkF m 83 #[.val (.long p0), .second, .val (.long p1), .second, .val (.int p2), .val (.int (3 : Int32)), .val (.double (FP.i2d w3_c8_b0_v7)), .second, .val (.double (FP.i2d w3_c15_b1_v7)), .second, .val (.double (FP.i2d w3_c22_b2_v7)), .second, .val (.double (FP.i2d w3_c29_b0_v7)), .second, .val (.double (FP.i2d w3_c36_b1_v7)), .second, .val (.double (FP.i2d w3_c43_b2_v7)), .second, .val (.double (FP.i2d w3_c50_b3_v7)), .second, .val (.double (FP.i2d w3_c57_b4_v7)), .second, .val (.double (FP.i2d w3_c64_b5_v7)), .second, .val (.double (FP.i2d w3_c72_b6_v7)), .second, .unset, .unset, .unset, .unset, .unset, .unset, .unset] [(.double (FP.i2d w3_c80_b7_v7))])) _
    refine own_s_dstore Xw311.here hx (hb hby at_83) (pc' := 85) rfl (L' := #[.val (.long p0), .second, .val (.long p1), .second, .val (.int p2), .val (.int (3 : Int32)), .val (.double (FP.i2d w3_c8_b0_v7)), .second, .val (.double (FP.i2d w3_c15_b1_v7)), .second, .val (.double (FP.i2d w3_c22_b2_v7)), .second, .val (.double (FP.i2d w3_c29_b0_v7)), .second, .val (.double (FP.i2d w3_c36_b1_v7)), .second, .val (.double (FP.i2d w3_c43_b2_v7)), .second, .val (.double (FP.i2d w3_c50_b3_v7)), .second, .val (.double (FP.i2d w3_c57_b4_v7)), .second, .val (.double (FP.i2d w3_c64_b5_v7)), .second, .val (.double (FP.i2d w3_c72_b6_v7)), .second, .val (.double (FP.i2d w3_c80_b7_v7)), .second, .unset, .unset, .unset, .unset, .unset]) rfl ?_
    refine own_s_lloadN Xw311.here hx (hb hby at_85) (pc' := 86) rfl rfl ?_
    refine own_s_iconst Xw311.here hx (hb hby at_86) (pc' := 87) rfl (v := (3 : Int32)) (by decide) ?_
    refine stw312 _ ?_
    show Steps p.tables e below (Tw312.setTop (mkF m 90 #[.val (.long p0), .second, .val (.long p1), .second, .val (.int p2), .val (.int (3 : Int32)), .val (.double (FP.i2d w3_c8_b0_v7)), .second, .val (.double (FP.i2d w3_c15_b1_v7)), .second, .val (.double (FP.i2d w3_c22_b2_v7)), .second, .val (.double (FP.i2d w3_c29_b0_v7)), .second, .val (.double (FP.i2d w3_c36_b1_v7)), .second, .val (.double (FP.i2d w3_c43_b2_v7)), .second, .val (.double (FP.i2d w3_c50_b3_v7)), .second, .val (.double (FP.i2d w3_c57_b4_v7)), .second, .val (.double (FP.i2d w3_c64_b5_v7)), .second, .val (.double (FP.i2d w3_c72_b6_v7)), .second, .val (.double (FP.i2d w3_c80_b7_v7)), .second, .unset, .unset, .unset, .unset, .unset] [(.double (FP.i2d w3_c87_b3_v7))])) _
    refine own_s_dstore Xw312.here hx (hb hby at_90) (pc' := 92) rfl (L' := #[.val (.long p0), .second, .val (.long p1), .second, .val (.int p2), .val (.int (3 : Int32)), .val (.double (FP.i2d w3_c8_b0_v7)), .second, .val (.double (FP.i2d w3_c15_b1_v7)), .second, .val (.double (FP.i2d w3_c22_b2_v7)), .second, .val (.double (FP.i2d w3_c29_b0_v7)), .second, .val (.double (FP.i2d w3_c36_b1_v7)), .second, .val (.double (FP.i2d w3_c43_b2_v7)), .second, .val (.double (FP.i2d w3_c50_b3_v7)), .second, .val (.double (FP.i2d w3_c57_b4_v7)), .second, .val (.double (FP.i2d w3_c64_b5_v7)), .second, .val (.double (FP.i2d w3_c72_b6_v7)), .second, .val (.double (FP.i2d w3_c80_b7_v7)), .second, .val (.double (FP.i2d w3_c87_b3_v7)), .second, .unset, .unset, .unset]) rfl ?_
    refine own_s_iload Xw312.here hx (hb hby at_92) (pc' := 94) rfl rfl ?_
    refine own_s_ifYes Xw312.here hx (hb hby at_94) (by decide) (pc' := 120) (by decide) (by decide) ?_
    refine own_s_iload Xw312.here hx (hb hby at_120) (pc' := 122) rfl rfl ?_
    refine own_s_iconst Xw312.here hx (hb hby at_122) (pc' := 123) rfl (v := (1 : Int32)) (by decide) ?_
    refine own_s_icmpYes Xw312.here hx (hb hby at_123) (by decide) (pc' := 181) (by decide) (by decide) ?_
    refine own_s_iload Xw312.here hx (hb hby at_181) (pc' := 183) rfl rfl ?_
    refine own_s_iconst Xw312.here hx (hb hby at_183) (pc' := 184) rfl (v := (2 : Int32)) (by decide) ?_
    refine own_s_icmpYes Xw312.here hx (hb hby at_184) (by decide) (pc' := 287) (by decide) (by decide) ?_
    refine own_s_iconst Xw312.here hx (hb hby at_287) (pc' := 288) rfl (v := (3 : Int32)) (by decide) ?_
    refine stw313 _ ?_
    refine own_s_dup Xw313.here hx (hb hby at_290) (pc' := 291) rfl rfl ?_
    refine own_s_iconst Xw313.here hx (hb hby at_291) (pc' := 292) rfl (v := (0 : Int32)) (by decide) ?_
    refine own_s_dload Xw313.here hx (hb hby at_292) (pc' := 294) rfl rfl ?_
    refine stw314 _ ?_
    refine own_s_dup Xw314.here hx (hb hby at_295) (pc' := 296) rfl rfl ?_
    refine own_s_iconst Xw314.here hx (hb hby at_296) (pc' := 297) rfl (v := (1 : Int32)) (by decide) ?_
    refine own_s_dload Xw314.here hx (hb hby at_297) (pc' := 299) rfl rfl ?_
    refine stw315 _ ?_
    refine own_s_dup Xw315.here hx (hb hby at_300) (pc' := 301) rfl rfl ?_
    refine own_s_iconst Xw315.here hx (hb hby at_301) (pc' := 302) rfl (v := (2 : Int32)) (by decide) ?_
    refine own_s_dload Xw315.here hx (hb hby at_302) (pc' := 304) rfl rfl ?_
    refine stw316 _ ?_
    refine own_s_astore Xw316.here hx (hb hby at_305) (pc' := 307) rfl rfl (L' := #[.val (.long p0), .second, .val (.long p1), .second, .val (.int p2), .val (.int (3 : Int32)), .val (.double (FP.i2d w3_c8_b0_v7)), .second, .val (.double (FP.i2d w3_c15_b1_v7)), .second, .val (.double (FP.i2d w3_c22_b2_v7)), .second, .val (.double (FP.i2d w3_c29_b0_v7)), .second, .val (.double (FP.i2d w3_c36_b1_v7)), .second, .val (.double (FP.i2d w3_c43_b2_v7)), .second, .val (.double (FP.i2d w3_c50_b3_v7)), .second, .val (.double (FP.i2d w3_c57_b4_v7)), .second, .val (.double (FP.i2d w3_c64_b5_v7)), .second, .val (.double (FP.i2d w3_c72_b6_v7)), .second, .val (.double (FP.i2d w3_c80_b7_v7)), .second, .val (.double (FP.i2d w3_c87_b3_v7)), .second, .val (.ref bw313), .unset, .unset]) rfl ?_
    refine own_s_bipush Xw316.here hx (hb hby at_307) (pc' := 309) rfl (v := (9 : Int32)) (by decide) ?_
    refine stw317 _ ?_
    refine own_s_dup Xw317.here hx (hb hby at_311) (pc' := 312) rfl rfl ?_
    refine own_s_iconst Xw317.here hx (hb hby at_312) (pc' := 313) rfl (v := (0 : Int32)) (by decide) ?_
    refine own_s_dload Xw317.here hx (hb hby at_313) (pc' := 315) rfl rfl ?_
    refine stw318 _ ?_
    refine own_s_dup Xw318.here hx (hb hby at_316) (pc' := 317) rfl rfl ?_
    refine own_s_iconst Xw318.here hx (hb hby at_317) (pc' := 318) rfl (v := (1 : Int32)) (by decide) ?_
    refine own_s_dload Xw318.here hx (hb hby at_318) (pc' := 320) rfl rfl ?_
    refine stw319 _ ?_
    refine own_s_dup Xw319.here hx (hb hby at_321) (pc' := 322) rfl rfl ?_
    refine own_s_iconst Xw319.here hx (hb hby at_322) (pc' := 323) rfl (v := (2 : Int32)) (by decide) ?_
    refine own_s_dload Xw319.here hx (hb hby at_323) (pc' := 325) rfl rfl ?_
    refine stw320 _ ?_
    refine own_s_dup Xw320.here hx (hb hby at_326) (pc' := 327) rfl rfl ?_
    refine own_s_iconst Xw320.here hx (hb hby at_327) (pc' := 328) rfl (v := (3 : Int32)) (by decide) ?_
    refine own_s_dload Xw320.here hx (hb hby at_328) (pc' := 330) rfl rfl ?_
    refine stw321 _ ?_
    refine own_s_dup Xw321.here hx (hb hby at_331) (pc' := 332) rfl rfl ?_
    refine own_s_iconst Xw321.here hx (hb hby at_332) (pc' := 333) rfl (v := (4 : Int32)) (by decide) ?_
    refine own_s_dload Xw321.here hx (hb hby at_333) (pc' := 335) rfl rfl ?_
    refine stw322 _ ?_
    refine own_s_dup Xw322.here hx (hb hby at_336) (pc' := 337) rfl rfl ?_
    refine own_s_iconst Xw322.here hx (hb hby at_337) (pc' := 338) rfl (v := (5 : Int32)) (by decide) ?_
    refine own_s_dload Xw322.here hx (hb hby at_338) (pc' := 340) rfl rfl ?_
    refine stw323 _ ?_
    refine own_s_dup Xw323.here hx (hb hby at_341) (pc' := 342) rfl rfl ?_
    refine own_s_bipush Xw323.here hx (hb hby at_342) (pc' := 344) rfl (v := (6 : Int32)) (by decide) ?_
    refine own_s_dload Xw323.here hx (hb hby at_344) (pc' := 346) rfl rfl ?_
    refine stw324 _ ?_
    refine own_s_dup Xw324.here hx (hb hby at_347) (pc' := 348) rfl rfl ?_
    refine own_s_bipush Xw324.here hx (hb hby at_348) (pc' := 350) rfl (v := (7 : Int32)) (by decide) ?_
    refine own_s_dload Xw324.here hx (hb hby at_350) (pc' := 352) rfl rfl ?_
    refine stw325 _ ?_
    refine own_s_dup Xw325.here hx (hb hby at_353) (pc' := 354) rfl rfl ?_
    refine own_s_bipush Xw325.here hx (hb hby at_354) (pc' := 356) rfl (v := (8 : Int32)) (by decide) ?_
    refine own_s_dload Xw325.here hx (hb hby at_356) (pc' := 358) rfl rfl ?_
    refine stw326 _ ?_
    refine own_s_astore Xw326.here hx (hb hby at_359) (pc' := 361) rfl rfl (L' := #[.val (.long p0), .second, .val (.long p1), .second, .val (.int p2), .val (.int (3 : Int32)), .val (.double (FP.i2d w3_c8_b0_v7)), .second, .val (.double (FP.i2d w3_c15_b1_v7)), .second, .val (.double (FP.i2d w3_c22_b2_v7)), .second, .val (.double (FP.i2d w3_c29_b0_v7)), .second, .val (.double (FP.i2d w3_c36_b1_v7)), .second, .val (.double (FP.i2d w3_c43_b2_v7)), .second, .val (.double (FP.i2d w3_c50_b3_v7)), .second, .val (.double (FP.i2d w3_c57_b4_v7)), .second, .val (.double (FP.i2d w3_c64_b5_v7)), .second, .val (.double (FP.i2d w3_c72_b6_v7)), .second, .val (.double (FP.i2d w3_c80_b7_v7)), .second, .val (.double (FP.i2d w3_c87_b3_v7)), .second, .val (.ref bw313), .val (.ref bw317), .unset]) rfl ?_
    refine own_s_aload Xw326.here hx (hb hby at_361) (pc' := 363) rfl rfl rfl ?_
    refine own_s_aload Xw326.here hx (hb hby at_363) (pc' := 365) rfl rfl rfl ?_
    refine stw327 _ ?_
    show Steps p.tables e below (Tw327.setTop (mkF m 368 #[.val (.long p0), .second, .val (.long p1), .second, .val (.int p2), .val (.int (3 : Int32)), .val (.double (FP.i2d w3_c8_b0_v7)), .second, .val (.double (FP.i2d w3_c15_b1_v7)), .second, .val (.double (FP.i2d w3_c22_b2_v7)), .second, .val (.double (FP.i2d w3_c29_b0_v7)), .second, .val (.double (FP.i2d w3_c36_b1_v7)), .second, .val (.double (FP.i2d w3_c43_b2_v7)), .second, .val (.double (FP.i2d w3_c50_b3_v7)), .second, .val (.double (FP.i2d w3_c57_b4_v7)), .second, .val (.double (FP.i2d w3_c64_b5_v7)), .second, .val (.double (FP.i2d w3_c72_b6_v7)), .second, .val (.double (FP.i2d w3_c80_b7_v7)), .second, .val (.double (FP.i2d w3_c87_b3_v7)), .second, .val (.ref bw313), .val (.ref bw317), .unset] [(.ref bw327)])) _
    refine own_s_astore Xw327.here hx (hb hby at_368) (pc' := 370) rfl rfl (L' := #[.val (.long p0), .second, .val (.long p1), .second, .val (.int p2), .val (.int (3 : Int32)), .val (.double (FP.i2d w3_c8_b0_v7)), .second, .val (.double (FP.i2d w3_c15_b1_v7)), .second, .val (.double (FP.i2d w3_c22_b2_v7)), .second, .val (.double (FP.i2d w3_c29_b0_v7)), .second, .val (.double (FP.i2d w3_c36_b1_v7)), .second, .val (.double (FP.i2d w3_c43_b2_v7)), .second, .val (.double (FP.i2d w3_c50_b3_v7)), .second, .val (.double (FP.i2d w3_c57_b4_v7)), .second, .val (.double (FP.i2d w3_c64_b5_v7)), .second, .val (.double (FP.i2d w3_c72_b6_v7)), .second, .val (.double (FP.i2d w3_c80_b7_v7)), .second, .val (.double (FP.i2d w3_c87_b3_v7)), .second, .val (.ref bw313), .val (.ref bw317), .val (.ref bw327)]) rfl ?_
    refine own_s_aload Xw327.here hx (hb hby at_370) (pc' := 372) rfl rfl rfl ?_
    refine own_len Xw327 hx hZ rfl qw327_0 (hb hby at_372) (pc' := 373) rfl ?_
    refine own_s_iconst Xw327.here hx (hb hby at_373) (pc' := 374) rfl (v := (3 : Int32)) (by decide) ?_
    refine own_s_icmpNo Xw327.here hx (hb hby at_374) (pc' := 377) rfl (by decide) ?_
    refine own_s_aload Xw327.here hx (hb hby at_377) (pc' := 379) rfl rfl rfl ?_
    refine own_s_iconst Xw327.here hx (hb hby at_379) (pc' := 380) rfl (v := (0 : Int32)) (by decide) ?_
    refine own_ldD Xw327 hx hZ rfl qw327_0 (j := (0 : Int32)) (x := w3_c365_c3_v44_3) (by decide) rfl (hb hby at_380) (pc' := 381) rfl ?_
    refine own_s_dload Xw327.here hx (hb hby at_381) (pc' := 383) rfl rfl ?_
    refine own_s_dload Xw327.here hx (hb hby at_383) (pc' := 385) rfl rfl ?_
    refine own_s_dmul Xw327.here hx (hb hby at_385) (pc' := 386) rfl w3_hn385 (v := w3_v385) w3_hv385 ?_
    refine own_s_dload Xw327.here hx (hb hby at_386) (pc' := 388) rfl rfl ?_
    refine own_s_dload Xw327.here hx (hb hby at_388) (pc' := 390) rfl rfl ?_
    refine own_s_dmul Xw327.here hx (hb hby at_390) (pc' := 391) rfl w3_hn390 (v := w3_v390) w3_hv390 ?_
    refine own_s_dadd Xw327.here hx (hb hby at_391) (pc' := 392) rfl w3_hn391 (v := w3_v391) w3_hv391 ?_
    refine own_s_dload Xw327.here hx (hb hby at_392) (pc' := 394) rfl rfl ?_
    refine own_s_dload Xw327.here hx (hb hby at_394) (pc' := 396) rfl rfl ?_
    refine own_s_dmul Xw327.here hx (hb hby at_396) (pc' := 397) rfl w3_hn396 (v := w3_v396) w3_hv396 ?_
    refine own_s_dadd Xw327.here hx (hb hby at_397) (pc' := 398) rfl w3_hn397 (v := w3_v397) w3_hv397 ?_
    refine own_s_dcmp Xw327.here hx (hb hby at_398) (pc' := 399) rfl (v := (0 : Int32)) w3_hc398 ?_
    refine own_s_ifNo Xw327.here hx (hb hby at_399) (pc' := 402) rfl (by decide) ?_
    refine own_s_aload Xw327.here hx (hb hby at_402) (pc' := 404) rfl rfl rfl ?_
    refine own_s_iconst Xw327.here hx (hb hby at_404) (pc' := 405) rfl (v := (1 : Int32)) (by decide) ?_
    refine own_ldD Xw327 hx hZ rfl qw327_0 (j := (1 : Int32)) (x := w3_c365_c3_v44_6) (by decide) rfl (hb hby at_405) (pc' := 406) rfl ?_
    refine own_s_dload Xw327.here hx (hb hby at_406) (pc' := 408) rfl rfl ?_
    refine own_s_dload Xw327.here hx (hb hby at_408) (pc' := 410) rfl rfl ?_
    refine own_s_dmul Xw327.here hx (hb hby at_410) (pc' := 411) rfl w3_hn410 (v := w3_v410) w3_hv410 ?_
    refine own_s_dload Xw327.here hx (hb hby at_411) (pc' := 413) rfl rfl ?_
    refine own_s_dload Xw327.here hx (hb hby at_413) (pc' := 415) rfl rfl ?_
    refine own_s_dmul Xw327.here hx (hb hby at_415) (pc' := 416) rfl w3_hn415 (v := w3_v415) w3_hv415 ?_
    refine own_s_dadd Xw327.here hx (hb hby at_416) (pc' := 417) rfl w3_hn416 (v := w3_v416) w3_hv416 ?_
    refine own_s_dload Xw327.here hx (hb hby at_417) (pc' := 419) rfl rfl ?_
    refine own_s_dload Xw327.here hx (hb hby at_419) (pc' := 421) rfl rfl ?_
    refine own_s_dmul Xw327.here hx (hb hby at_421) (pc' := 422) rfl w3_hn421 (v := w3_v421) w3_hv421 ?_
    refine own_s_dadd Xw327.here hx (hb hby at_422) (pc' := 423) rfl w3_hn422 (v := w3_v422) w3_hv422 ?_
    refine own_s_dcmp Xw327.here hx (hb hby at_423) (pc' := 424) rfl (v := (0 : Int32)) w3_hc423 ?_
    refine own_s_ifNo Xw327.here hx (hb hby at_424) (pc' := 427) rfl (by decide) ?_
    refine own_s_aload Xw327.here hx (hb hby at_427) (pc' := 429) rfl rfl rfl ?_
    refine own_s_iconst Xw327.here hx (hb hby at_429) (pc' := 430) rfl (v := (2 : Int32)) (by decide) ?_
    refine own_ldD Xw327 hx hZ rfl qw327_0 (j := (2 : Int32)) (x := w3_c365_c3_v44_9) (by decide) rfl (hb hby at_430) (pc' := 431) rfl ?_
    refine own_s_dload Xw327.here hx (hb hby at_431) (pc' := 433) rfl rfl ?_
    refine own_s_dload Xw327.here hx (hb hby at_433) (pc' := 435) rfl rfl ?_
    refine own_s_dmul Xw327.here hx (hb hby at_435) (pc' := 436) rfl w3_hn435 (v := w3_v435) w3_hv435 ?_
    refine own_s_dload Xw327.here hx (hb hby at_436) (pc' := 438) rfl rfl ?_
    refine own_s_dload Xw327.here hx (hb hby at_438) (pc' := 440) rfl rfl ?_
    refine own_s_dmul Xw327.here hx (hb hby at_440) (pc' := 441) rfl w3_hn440 (v := w3_v440) w3_hv440 ?_
    refine own_s_dadd Xw327.here hx (hb hby at_441) (pc' := 442) rfl w3_hn441 (v := w3_v441) w3_hv441 ?_
    refine own_s_dload Xw327.here hx (hb hby at_442) (pc' := 444) rfl rfl ?_
    refine own_s_dload Xw327.here hx (hb hby at_444) (pc' := 446) rfl rfl ?_
    refine own_s_dmul Xw327.here hx (hb hby at_446) (pc' := 447) rfl w3_hn446 (v := w3_v446) w3_hv446 ?_
    refine own_s_dadd Xw327.here hx (hb hby at_447) (pc' := 448) rfl w3_hn447 (v := w3_v447) w3_hv447 ?_
    refine own_s_dcmp Xw327.here hx (hb hby at_448) (pc' := 449) rfl (v := (0 : Int32)) w3_hc448 ?_
    refine own_s_ifNo Xw327.here hx (hb hby at_449) (pc' := 452) rfl (by decide) ?_
    refine own_s_iconst Xw327.here hx (hb hby at_452) (pc' := 453) rfl (v := (1 : Int32)) (by decide) ?_
    refine own_s_goto Xw327.here hx (hb hby at_453) (by decide) (pc' := 457) (by decide) ?_
    exact retN Xw327 hx (t := .boolean) Bd.returns (by simp) (hb hby at_457) hr
  · show own_Q0 n0 _ Tw327.heap _
    exact ⟨rfl, Nw327⟩
set_option maxRecDepth 65536 in
set_option maxHeartbeats 40000000 in
theorem own_rm0 (l : Launch) (Z : State) (a0 : Array Value) (hw : ∀ d ∈ tables_1, d.before a0 Z = true) (ws : List Jvm.Cond) (p0 : Int64) (p1 : Int64) (p2 : Int32) (h0 : Heap) (n0 : Nat) (Z0 : n0 ≤ h0.size)  :
    MetFree l x (head1 (Jvm.Cond.code x code maxLocals ret :: ws) room_1) (fun a U => a = #[(.long p0), (.long p1), (.int p2)] ∧ Z.Warmed39 U.vm ∧ U.heap = h0) (fun _ _ _ _ _ => True) (fun _ U o U' => ∃ v L, o = .returned v ∧ own_Q0 n0 v U'.heap L ∧ FrameEnd U o U' L room_1.cells room_1.slots) := by
  rcases own_mask3 p2 with hn | hn | hn | hn
  · obtain ⟨c8_b0_v5, c8_b0_hv5⟩ : ∃ v, (Int64.toUInt64 p0 >>> ((0 : Int32) &&& 63).toInt64.toUInt64).toInt64 = v := ⟨_, rfl⟩
    obtain ⟨c8_b0_v6, c8_b0_hv6⟩ : ∃ v, Int64.toInt32 c8_b0_v5 = v := ⟨_, rfl⟩
    obtain ⟨c8_b0_v7, c8_b0_hv7⟩ : ∃ v, (Int32.toInt8 c8_b0_v6).toInt32 = v := ⟨_, rfl⟩
    have L_c8_b0_v7 : own_I c8_b0_v7 c8_b0_v7.toInt 128 := by have := c_i2b c8_b0_v6; rw [c8_b0_hv7] at this; exact ⟨rfl, by omega, by omega⟩
    obtain ⟨c15_b1_v5, c15_b1_hv5⟩ : ∃ v, (Int64.toUInt64 p0 >>> ((8 : Int32) &&& 63).toInt64.toUInt64).toInt64 = v := ⟨_, rfl⟩
    obtain ⟨c15_b1_v6, c15_b1_hv6⟩ : ∃ v, Int64.toInt32 c15_b1_v5 = v := ⟨_, rfl⟩
    obtain ⟨c15_b1_v7, c15_b1_hv7⟩ : ∃ v, (Int32.toInt8 c15_b1_v6).toInt32 = v := ⟨_, rfl⟩
    have L_c15_b1_v7 : own_I c15_b1_v7 c15_b1_v7.toInt 128 := by have := c_i2b c15_b1_v6; rw [c15_b1_hv7] at this; exact ⟨rfl, by omega, by omega⟩
    obtain ⟨c22_b2_v5, c22_b2_hv5⟩ : ∃ v, (Int64.toUInt64 p0 >>> ((16 : Int32) &&& 63).toInt64.toUInt64).toInt64 = v := ⟨_, rfl⟩
    obtain ⟨c22_b2_v6, c22_b2_hv6⟩ : ∃ v, Int64.toInt32 c22_b2_v5 = v := ⟨_, rfl⟩
    obtain ⟨c22_b2_v7, c22_b2_hv7⟩ : ∃ v, (Int32.toInt8 c22_b2_v6).toInt32 = v := ⟨_, rfl⟩
    have L_c22_b2_v7 : own_I c22_b2_v7 c22_b2_v7.toInt 128 := by have := c_i2b c22_b2_v6; rw [c22_b2_hv7] at this; exact ⟨rfl, by omega, by omega⟩
    obtain ⟨c29_b0_v5, c29_b0_hv5⟩ : ∃ v, (Int64.toUInt64 p1 >>> ((0 : Int32) &&& 63).toInt64.toUInt64).toInt64 = v := ⟨_, rfl⟩
    obtain ⟨c29_b0_v6, c29_b0_hv6⟩ : ∃ v, Int64.toInt32 c29_b0_v5 = v := ⟨_, rfl⟩
    obtain ⟨c29_b0_v7, c29_b0_hv7⟩ : ∃ v, (Int32.toInt8 c29_b0_v6).toInt32 = v := ⟨_, rfl⟩
    have L_c29_b0_v7 : own_I c29_b0_v7 c29_b0_v7.toInt 128 := by have := c_i2b c29_b0_v6; rw [c29_b0_hv7] at this; exact ⟨rfl, by omega, by omega⟩
    obtain ⟨c36_b1_v5, c36_b1_hv5⟩ : ∃ v, (Int64.toUInt64 p1 >>> ((8 : Int32) &&& 63).toInt64.toUInt64).toInt64 = v := ⟨_, rfl⟩
    obtain ⟨c36_b1_v6, c36_b1_hv6⟩ : ∃ v, Int64.toInt32 c36_b1_v5 = v := ⟨_, rfl⟩
    obtain ⟨c36_b1_v7, c36_b1_hv7⟩ : ∃ v, (Int32.toInt8 c36_b1_v6).toInt32 = v := ⟨_, rfl⟩
    have L_c36_b1_v7 : own_I c36_b1_v7 c36_b1_v7.toInt 128 := by have := c_i2b c36_b1_v6; rw [c36_b1_hv7] at this; exact ⟨rfl, by omega, by omega⟩
    obtain ⟨c43_b2_v5, c43_b2_hv5⟩ : ∃ v, (Int64.toUInt64 p1 >>> ((16 : Int32) &&& 63).toInt64.toUInt64).toInt64 = v := ⟨_, rfl⟩
    obtain ⟨c43_b2_v6, c43_b2_hv6⟩ : ∃ v, Int64.toInt32 c43_b2_v5 = v := ⟨_, rfl⟩
    obtain ⟨c43_b2_v7, c43_b2_hv7⟩ : ∃ v, (Int32.toInt8 c43_b2_v6).toInt32 = v := ⟨_, rfl⟩
    have L_c43_b2_v7 : own_I c43_b2_v7 c43_b2_v7.toInt 128 := by have := c_i2b c43_b2_v6; rw [c43_b2_hv7] at this; exact ⟨rfl, by omega, by omega⟩
    obtain ⟨c50_b3_v5, c50_b3_hv5⟩ : ∃ v, (Int64.toUInt64 p1 >>> ((24 : Int32) &&& 63).toInt64.toUInt64).toInt64 = v := ⟨_, rfl⟩
    obtain ⟨c50_b3_v6, c50_b3_hv6⟩ : ∃ v, Int64.toInt32 c50_b3_v5 = v := ⟨_, rfl⟩
    obtain ⟨c50_b3_v7, c50_b3_hv7⟩ : ∃ v, (Int32.toInt8 c50_b3_v6).toInt32 = v := ⟨_, rfl⟩
    have L_c50_b3_v7 : own_I c50_b3_v7 c50_b3_v7.toInt 128 := by have := c_i2b c50_b3_v6; rw [c50_b3_hv7] at this; exact ⟨rfl, by omega, by omega⟩
    obtain ⟨c57_b4_v5, c57_b4_hv5⟩ : ∃ v, (Int64.toUInt64 p1 >>> ((32 : Int32) &&& 63).toInt64.toUInt64).toInt64 = v := ⟨_, rfl⟩
    obtain ⟨c57_b4_v6, c57_b4_hv6⟩ : ∃ v, Int64.toInt32 c57_b4_v5 = v := ⟨_, rfl⟩
    obtain ⟨c57_b4_v7, c57_b4_hv7⟩ : ∃ v, (Int32.toInt8 c57_b4_v6).toInt32 = v := ⟨_, rfl⟩
    have L_c57_b4_v7 : own_I c57_b4_v7 c57_b4_v7.toInt 128 := by have := c_i2b c57_b4_v6; rw [c57_b4_hv7] at this; exact ⟨rfl, by omega, by omega⟩
    obtain ⟨c64_b5_v5, c64_b5_hv5⟩ : ∃ v, (Int64.toUInt64 p1 >>> ((40 : Int32) &&& 63).toInt64.toUInt64).toInt64 = v := ⟨_, rfl⟩
    obtain ⟨c64_b5_v6, c64_b5_hv6⟩ : ∃ v, Int64.toInt32 c64_b5_v5 = v := ⟨_, rfl⟩
    obtain ⟨c64_b5_v7, c64_b5_hv7⟩ : ∃ v, (Int32.toInt8 c64_b5_v6).toInt32 = v := ⟨_, rfl⟩
    have L_c64_b5_v7 : own_I c64_b5_v7 c64_b5_v7.toInt 128 := by have := c_i2b c64_b5_v6; rw [c64_b5_hv7] at this; exact ⟨rfl, by omega, by omega⟩
    obtain ⟨c72_b6_v5, c72_b6_hv5⟩ : ∃ v, (Int64.toUInt64 p1 >>> ((48 : Int32) &&& 63).toInt64.toUInt64).toInt64 = v := ⟨_, rfl⟩
    obtain ⟨c72_b6_v6, c72_b6_hv6⟩ : ∃ v, Int64.toInt32 c72_b6_v5 = v := ⟨_, rfl⟩
    obtain ⟨c72_b6_v7, c72_b6_hv7⟩ : ∃ v, (Int32.toInt8 c72_b6_v6).toInt32 = v := ⟨_, rfl⟩
    have L_c72_b6_v7 : own_I c72_b6_v7 c72_b6_v7.toInt 128 := by have := c_i2b c72_b6_v6; rw [c72_b6_hv7] at this; exact ⟨rfl, by omega, by omega⟩
    obtain ⟨c80_b7_v5, c80_b7_hv5⟩ : ∃ v, (Int64.toUInt64 p1 >>> ((56 : Int32) &&& 63).toInt64.toUInt64).toInt64 = v := ⟨_, rfl⟩
    obtain ⟨c80_b7_v6, c80_b7_hv6⟩ : ∃ v, Int64.toInt32 c80_b7_v5 = v := ⟨_, rfl⟩
    obtain ⟨c80_b7_v7, c80_b7_hv7⟩ : ∃ v, (Int32.toInt8 c80_b7_v6).toInt32 = v := ⟨_, rfl⟩
    have L_c80_b7_v7 : own_I c80_b7_v7 c80_b7_v7.toInt 128 := by have := c_i2b c80_b7_v6; rw [c80_b7_hv7] at this; exact ⟨rfl, by omega, by omega⟩
    obtain ⟨c87_b3_v5, c87_b3_hv5⟩ : ∃ v, (Int64.toUInt64 p0 >>> ((24 : Int32) &&& 63).toInt64.toUInt64).toInt64 = v := ⟨_, rfl⟩
    obtain ⟨c87_b3_v6, c87_b3_hv6⟩ : ∃ v, Int64.toInt32 c87_b3_v5 = v := ⟨_, rfl⟩
    obtain ⟨c87_b3_v7, c87_b3_hv7⟩ : ∃ v, (Int32.toInt8 c87_b3_v6).toInt32 = v := ⟨_, rfl⟩
    have L_c87_b3_v7 : own_I c87_b3_v7 c87_b3_v7.toInt 128 := by have := c_i2b c87_b3_v6; rw [c87_b3_hv7] at this; exact ⟨rfl, by omega, by omega⟩
    exact own_rm_w0 l Z a0 hw ws p0 p1 p2 h0 n0 Z0 (w0_hv3 := hn) (w0_c8_b0_hv5 := c8_b0_hv5) (w0_c8_b0_hv6 := c8_b0_hv6) (w0_c8_b0_hv7 := c8_b0_hv7) (w0_c15_b1_hv5 := c15_b1_hv5) (w0_c15_b1_hv6 := c15_b1_hv6) (w0_c15_b1_hv7 := c15_b1_hv7) (w0_c22_b2_hv5 := c22_b2_hv5) (w0_c22_b2_hv6 := c22_b2_hv6) (w0_c22_b2_hv7 := c22_b2_hv7) (w0_c29_b0_hv5 := c29_b0_hv5) (w0_c29_b0_hv6 := c29_b0_hv6) (w0_c29_b0_hv7 := c29_b0_hv7) (w0_c36_b1_hv5 := c36_b1_hv5) (w0_c36_b1_hv6 := c36_b1_hv6) (w0_c36_b1_hv7 := c36_b1_hv7) (w0_c43_b2_hv5 := c43_b2_hv5) (w0_c43_b2_hv6 := c43_b2_hv6) (w0_c43_b2_hv7 := c43_b2_hv7) (w0_c50_b3_hv5 := c50_b3_hv5) (w0_c50_b3_hv6 := c50_b3_hv6) (w0_c50_b3_hv7 := c50_b3_hv7) (w0_c57_b4_hv5 := c57_b4_hv5) (w0_c57_b4_hv6 := c57_b4_hv6) (w0_c57_b4_hv7 := c57_b4_hv7) (w0_c64_b5_hv5 := c64_b5_hv5) (w0_c64_b5_hv6 := c64_b5_hv6) (w0_c64_b5_hv7 := c64_b5_hv7) (w0_c72_b6_hv5 := c72_b6_hv5) (w0_c72_b6_hv6 := c72_b6_hv6) (w0_c72_b6_hv7 := c72_b6_hv7) (w0_c80_b7_hv5 := c80_b7_hv5) (w0_c80_b7_hv6 := c80_b7_hv6) (w0_c80_b7_hv7 := c80_b7_hv7) (w0_c87_b3_hv5 := c87_b3_hv5) (w0_c87_b3_hv6 := c87_b3_hv6) (w0_c87_b3_hv7 := c87_b3_hv7)
  · obtain ⟨c8_b0_v5, c8_b0_hv5⟩ : ∃ v, (Int64.toUInt64 p0 >>> ((0 : Int32) &&& 63).toInt64.toUInt64).toInt64 = v := ⟨_, rfl⟩
    obtain ⟨c8_b0_v6, c8_b0_hv6⟩ : ∃ v, Int64.toInt32 c8_b0_v5 = v := ⟨_, rfl⟩
    obtain ⟨c8_b0_v7, c8_b0_hv7⟩ : ∃ v, (Int32.toInt8 c8_b0_v6).toInt32 = v := ⟨_, rfl⟩
    have L_c8_b0_v7 : own_I c8_b0_v7 c8_b0_v7.toInt 128 := by have := c_i2b c8_b0_v6; rw [c8_b0_hv7] at this; exact ⟨rfl, by omega, by omega⟩
    obtain ⟨c15_b1_v5, c15_b1_hv5⟩ : ∃ v, (Int64.toUInt64 p0 >>> ((8 : Int32) &&& 63).toInt64.toUInt64).toInt64 = v := ⟨_, rfl⟩
    obtain ⟨c15_b1_v6, c15_b1_hv6⟩ : ∃ v, Int64.toInt32 c15_b1_v5 = v := ⟨_, rfl⟩
    obtain ⟨c15_b1_v7, c15_b1_hv7⟩ : ∃ v, (Int32.toInt8 c15_b1_v6).toInt32 = v := ⟨_, rfl⟩
    have L_c15_b1_v7 : own_I c15_b1_v7 c15_b1_v7.toInt 128 := by have := c_i2b c15_b1_v6; rw [c15_b1_hv7] at this; exact ⟨rfl, by omega, by omega⟩
    obtain ⟨c22_b2_v5, c22_b2_hv5⟩ : ∃ v, (Int64.toUInt64 p0 >>> ((16 : Int32) &&& 63).toInt64.toUInt64).toInt64 = v := ⟨_, rfl⟩
    obtain ⟨c22_b2_v6, c22_b2_hv6⟩ : ∃ v, Int64.toInt32 c22_b2_v5 = v := ⟨_, rfl⟩
    obtain ⟨c22_b2_v7, c22_b2_hv7⟩ : ∃ v, (Int32.toInt8 c22_b2_v6).toInt32 = v := ⟨_, rfl⟩
    have L_c22_b2_v7 : own_I c22_b2_v7 c22_b2_v7.toInt 128 := by have := c_i2b c22_b2_v6; rw [c22_b2_hv7] at this; exact ⟨rfl, by omega, by omega⟩
    obtain ⟨c29_b0_v5, c29_b0_hv5⟩ : ∃ v, (Int64.toUInt64 p1 >>> ((0 : Int32) &&& 63).toInt64.toUInt64).toInt64 = v := ⟨_, rfl⟩
    obtain ⟨c29_b0_v6, c29_b0_hv6⟩ : ∃ v, Int64.toInt32 c29_b0_v5 = v := ⟨_, rfl⟩
    obtain ⟨c29_b0_v7, c29_b0_hv7⟩ : ∃ v, (Int32.toInt8 c29_b0_v6).toInt32 = v := ⟨_, rfl⟩
    have L_c29_b0_v7 : own_I c29_b0_v7 c29_b0_v7.toInt 128 := by have := c_i2b c29_b0_v6; rw [c29_b0_hv7] at this; exact ⟨rfl, by omega, by omega⟩
    obtain ⟨c36_b1_v5, c36_b1_hv5⟩ : ∃ v, (Int64.toUInt64 p1 >>> ((8 : Int32) &&& 63).toInt64.toUInt64).toInt64 = v := ⟨_, rfl⟩
    obtain ⟨c36_b1_v6, c36_b1_hv6⟩ : ∃ v, Int64.toInt32 c36_b1_v5 = v := ⟨_, rfl⟩
    obtain ⟨c36_b1_v7, c36_b1_hv7⟩ : ∃ v, (Int32.toInt8 c36_b1_v6).toInt32 = v := ⟨_, rfl⟩
    have L_c36_b1_v7 : own_I c36_b1_v7 c36_b1_v7.toInt 128 := by have := c_i2b c36_b1_v6; rw [c36_b1_hv7] at this; exact ⟨rfl, by omega, by omega⟩
    obtain ⟨c43_b2_v5, c43_b2_hv5⟩ : ∃ v, (Int64.toUInt64 p1 >>> ((16 : Int32) &&& 63).toInt64.toUInt64).toInt64 = v := ⟨_, rfl⟩
    obtain ⟨c43_b2_v6, c43_b2_hv6⟩ : ∃ v, Int64.toInt32 c43_b2_v5 = v := ⟨_, rfl⟩
    obtain ⟨c43_b2_v7, c43_b2_hv7⟩ : ∃ v, (Int32.toInt8 c43_b2_v6).toInt32 = v := ⟨_, rfl⟩
    have L_c43_b2_v7 : own_I c43_b2_v7 c43_b2_v7.toInt 128 := by have := c_i2b c43_b2_v6; rw [c43_b2_hv7] at this; exact ⟨rfl, by omega, by omega⟩
    obtain ⟨c50_b3_v5, c50_b3_hv5⟩ : ∃ v, (Int64.toUInt64 p1 >>> ((24 : Int32) &&& 63).toInt64.toUInt64).toInt64 = v := ⟨_, rfl⟩
    obtain ⟨c50_b3_v6, c50_b3_hv6⟩ : ∃ v, Int64.toInt32 c50_b3_v5 = v := ⟨_, rfl⟩
    obtain ⟨c50_b3_v7, c50_b3_hv7⟩ : ∃ v, (Int32.toInt8 c50_b3_v6).toInt32 = v := ⟨_, rfl⟩
    have L_c50_b3_v7 : own_I c50_b3_v7 c50_b3_v7.toInt 128 := by have := c_i2b c50_b3_v6; rw [c50_b3_hv7] at this; exact ⟨rfl, by omega, by omega⟩
    obtain ⟨c57_b4_v5, c57_b4_hv5⟩ : ∃ v, (Int64.toUInt64 p1 >>> ((32 : Int32) &&& 63).toInt64.toUInt64).toInt64 = v := ⟨_, rfl⟩
    obtain ⟨c57_b4_v6, c57_b4_hv6⟩ : ∃ v, Int64.toInt32 c57_b4_v5 = v := ⟨_, rfl⟩
    obtain ⟨c57_b4_v7, c57_b4_hv7⟩ : ∃ v, (Int32.toInt8 c57_b4_v6).toInt32 = v := ⟨_, rfl⟩
    have L_c57_b4_v7 : own_I c57_b4_v7 c57_b4_v7.toInt 128 := by have := c_i2b c57_b4_v6; rw [c57_b4_hv7] at this; exact ⟨rfl, by omega, by omega⟩
    obtain ⟨c64_b5_v5, c64_b5_hv5⟩ : ∃ v, (Int64.toUInt64 p1 >>> ((40 : Int32) &&& 63).toInt64.toUInt64).toInt64 = v := ⟨_, rfl⟩
    obtain ⟨c64_b5_v6, c64_b5_hv6⟩ : ∃ v, Int64.toInt32 c64_b5_v5 = v := ⟨_, rfl⟩
    obtain ⟨c64_b5_v7, c64_b5_hv7⟩ : ∃ v, (Int32.toInt8 c64_b5_v6).toInt32 = v := ⟨_, rfl⟩
    have L_c64_b5_v7 : own_I c64_b5_v7 c64_b5_v7.toInt 128 := by have := c_i2b c64_b5_v6; rw [c64_b5_hv7] at this; exact ⟨rfl, by omega, by omega⟩
    obtain ⟨c72_b6_v5, c72_b6_hv5⟩ : ∃ v, (Int64.toUInt64 p1 >>> ((48 : Int32) &&& 63).toInt64.toUInt64).toInt64 = v := ⟨_, rfl⟩
    obtain ⟨c72_b6_v6, c72_b6_hv6⟩ : ∃ v, Int64.toInt32 c72_b6_v5 = v := ⟨_, rfl⟩
    obtain ⟨c72_b6_v7, c72_b6_hv7⟩ : ∃ v, (Int32.toInt8 c72_b6_v6).toInt32 = v := ⟨_, rfl⟩
    have L_c72_b6_v7 : own_I c72_b6_v7 c72_b6_v7.toInt 128 := by have := c_i2b c72_b6_v6; rw [c72_b6_hv7] at this; exact ⟨rfl, by omega, by omega⟩
    obtain ⟨c80_b7_v5, c80_b7_hv5⟩ : ∃ v, (Int64.toUInt64 p1 >>> ((56 : Int32) &&& 63).toInt64.toUInt64).toInt64 = v := ⟨_, rfl⟩
    obtain ⟨c80_b7_v6, c80_b7_hv6⟩ : ∃ v, Int64.toInt32 c80_b7_v5 = v := ⟨_, rfl⟩
    obtain ⟨c80_b7_v7, c80_b7_hv7⟩ : ∃ v, (Int32.toInt8 c80_b7_v6).toInt32 = v := ⟨_, rfl⟩
    have L_c80_b7_v7 : own_I c80_b7_v7 c80_b7_v7.toInt 128 := by have := c_i2b c80_b7_v6; rw [c80_b7_hv7] at this; exact ⟨rfl, by omega, by omega⟩
    obtain ⟨c87_b3_v5, c87_b3_hv5⟩ : ∃ v, (Int64.toUInt64 p0 >>> ((24 : Int32) &&& 63).toInt64.toUInt64).toInt64 = v := ⟨_, rfl⟩
    obtain ⟨c87_b3_v6, c87_b3_hv6⟩ : ∃ v, Int64.toInt32 c87_b3_v5 = v := ⟨_, rfl⟩
    obtain ⟨c87_b3_v7, c87_b3_hv7⟩ : ∃ v, (Int32.toInt8 c87_b3_v6).toInt32 = v := ⟨_, rfl⟩
    have L_c87_b3_v7 : own_I c87_b3_v7 c87_b3_v7.toInt 128 := by have := c_i2b c87_b3_v6; rw [c87_b3_hv7] at this; exact ⟨rfl, by omega, by omega⟩
    obtain ⟨c150_c1_v43, c150_c1_hv43⟩ : ∃ v, FP.dmul (FP.i2d c8_b0_v7) (FP.i2d c29_b0_v7) = v := ⟨_, rfl⟩
    have Id1 : own_B (FP.i2d c8_b0_v7) (c8_b0_v7.toInt) 0 128 := own_Bi2d L_c8_b0_v7
    have Id2 : own_B (FP.i2d c29_b0_v7) (c29_b0_v7.toInt) 0 128 := own_Bi2d L_c29_b0_v7
    have J3 : own_B (FP.dmul (FP.i2d c8_b0_v7) (FP.i2d c29_b0_v7)) ((c8_b0_v7.toInt) * (c29_b0_v7.toInt)) (0) 16384 := own_Bcast (own_Bmul Id1 Id2 (by decide)) rfl (by decide) (by decide)
    have J3n := J3.nn
    rw [c150_c1_hv43] at J3
    obtain ⟨c150_c1_v44, c150_c1_hv44⟩ : ∃ v, FP.dadd 0 c150_c1_v43 = v := ⟨_, rfl⟩
    have Ic4 : own_B 0 (0) (0) 0 := ⟨⟨(Jvm.FP.Core.fin_bits _).mpr (by decide), by decide, by decide +kernel⟩, by decide, by decide⟩
    have J5 : own_B (FP.dadd 0 c150_c1_v43) ((0) + ((c8_b0_v7.toInt) * (c29_b0_v7.toInt))) (0) 16384 := own_Bcast (own_Badd Ic4 J3 (by decide)) rfl (by decide) (by decide)
    have J5n := J5.nn
    rw [c150_c1_hv44] at J5
    obtain ⟨v170, hv170⟩ : ∃ v, FP.dmul (FP.i2d c29_b0_v7) (FP.i2d c8_b0_v7) = v := ⟨_, rfl⟩
    have J6 : own_B (FP.dmul (FP.i2d c29_b0_v7) (FP.i2d c8_b0_v7)) ((c29_b0_v7.toInt) * (c8_b0_v7.toInt)) (0) 16384 := own_Bcast (own_Bmul Id2 Id1 (by decide)) rfl (by decide) (by decide)
    have J6n := J6.nn
    rw [hv170] at J6
    exact own_rm_w1 l Z a0 hw ws p0 p1 p2 h0 n0 Z0 (w1_hv3 := hn) (w1_c8_b0_hv5 := c8_b0_hv5) (w1_c8_b0_hv6 := c8_b0_hv6) (w1_c8_b0_hv7 := c8_b0_hv7) (w1_c15_b1_hv5 := c15_b1_hv5) (w1_c15_b1_hv6 := c15_b1_hv6) (w1_c15_b1_hv7 := c15_b1_hv7) (w1_c22_b2_hv5 := c22_b2_hv5) (w1_c22_b2_hv6 := c22_b2_hv6) (w1_c22_b2_hv7 := c22_b2_hv7) (w1_c29_b0_hv5 := c29_b0_hv5) (w1_c29_b0_hv6 := c29_b0_hv6) (w1_c29_b0_hv7 := c29_b0_hv7) (w1_c36_b1_hv5 := c36_b1_hv5) (w1_c36_b1_hv6 := c36_b1_hv6) (w1_c36_b1_hv7 := c36_b1_hv7) (w1_c43_b2_hv5 := c43_b2_hv5) (w1_c43_b2_hv6 := c43_b2_hv6) (w1_c43_b2_hv7 := c43_b2_hv7) (w1_c50_b3_hv5 := c50_b3_hv5) (w1_c50_b3_hv6 := c50_b3_hv6) (w1_c50_b3_hv7 := c50_b3_hv7) (w1_c57_b4_hv5 := c57_b4_hv5) (w1_c57_b4_hv6 := c57_b4_hv6) (w1_c57_b4_hv7 := c57_b4_hv7) (w1_c64_b5_hv5 := c64_b5_hv5) (w1_c64_b5_hv6 := c64_b5_hv6) (w1_c64_b5_hv7 := c64_b5_hv7) (w1_c72_b6_hv5 := c72_b6_hv5) (w1_c72_b6_hv6 := c72_b6_hv6) (w1_c72_b6_hv7 := c72_b6_hv7) (w1_c80_b7_hv5 := c80_b7_hv5) (w1_c80_b7_hv6 := c80_b7_hv6) (w1_c80_b7_hv7 := c80_b7_hv7) (w1_c87_b3_hv5 := c87_b3_hv5) (w1_c87_b3_hv6 := c87_b3_hv6) (w1_c87_b3_hv7 := c87_b3_hv7) (w1_c150_c1_hn43 := J3n) (w1_c150_c1_hv43 := c150_c1_hv43) (w1_c150_c1_hn44 := J5n) (w1_c150_c1_hv44 := c150_c1_hv44) (w1_hn170 := J6n) (w1_hv170 := hv170) (w1_hc171 := (own_eq0 J5.is J6.is (by grind) _))
  · obtain ⟨c8_b0_v5, c8_b0_hv5⟩ : ∃ v, (Int64.toUInt64 p0 >>> ((0 : Int32) &&& 63).toInt64.toUInt64).toInt64 = v := ⟨_, rfl⟩
    obtain ⟨c8_b0_v6, c8_b0_hv6⟩ : ∃ v, Int64.toInt32 c8_b0_v5 = v := ⟨_, rfl⟩
    obtain ⟨c8_b0_v7, c8_b0_hv7⟩ : ∃ v, (Int32.toInt8 c8_b0_v6).toInt32 = v := ⟨_, rfl⟩
    have L_c8_b0_v7 : own_I c8_b0_v7 c8_b0_v7.toInt 128 := by have := c_i2b c8_b0_v6; rw [c8_b0_hv7] at this; exact ⟨rfl, by omega, by omega⟩
    obtain ⟨c15_b1_v5, c15_b1_hv5⟩ : ∃ v, (Int64.toUInt64 p0 >>> ((8 : Int32) &&& 63).toInt64.toUInt64).toInt64 = v := ⟨_, rfl⟩
    obtain ⟨c15_b1_v6, c15_b1_hv6⟩ : ∃ v, Int64.toInt32 c15_b1_v5 = v := ⟨_, rfl⟩
    obtain ⟨c15_b1_v7, c15_b1_hv7⟩ : ∃ v, (Int32.toInt8 c15_b1_v6).toInt32 = v := ⟨_, rfl⟩
    have L_c15_b1_v7 : own_I c15_b1_v7 c15_b1_v7.toInt 128 := by have := c_i2b c15_b1_v6; rw [c15_b1_hv7] at this; exact ⟨rfl, by omega, by omega⟩
    obtain ⟨c22_b2_v5, c22_b2_hv5⟩ : ∃ v, (Int64.toUInt64 p0 >>> ((16 : Int32) &&& 63).toInt64.toUInt64).toInt64 = v := ⟨_, rfl⟩
    obtain ⟨c22_b2_v6, c22_b2_hv6⟩ : ∃ v, Int64.toInt32 c22_b2_v5 = v := ⟨_, rfl⟩
    obtain ⟨c22_b2_v7, c22_b2_hv7⟩ : ∃ v, (Int32.toInt8 c22_b2_v6).toInt32 = v := ⟨_, rfl⟩
    have L_c22_b2_v7 : own_I c22_b2_v7 c22_b2_v7.toInt 128 := by have := c_i2b c22_b2_v6; rw [c22_b2_hv7] at this; exact ⟨rfl, by omega, by omega⟩
    obtain ⟨c29_b0_v5, c29_b0_hv5⟩ : ∃ v, (Int64.toUInt64 p1 >>> ((0 : Int32) &&& 63).toInt64.toUInt64).toInt64 = v := ⟨_, rfl⟩
    obtain ⟨c29_b0_v6, c29_b0_hv6⟩ : ∃ v, Int64.toInt32 c29_b0_v5 = v := ⟨_, rfl⟩
    obtain ⟨c29_b0_v7, c29_b0_hv7⟩ : ∃ v, (Int32.toInt8 c29_b0_v6).toInt32 = v := ⟨_, rfl⟩
    have L_c29_b0_v7 : own_I c29_b0_v7 c29_b0_v7.toInt 128 := by have := c_i2b c29_b0_v6; rw [c29_b0_hv7] at this; exact ⟨rfl, by omega, by omega⟩
    obtain ⟨c36_b1_v5, c36_b1_hv5⟩ : ∃ v, (Int64.toUInt64 p1 >>> ((8 : Int32) &&& 63).toInt64.toUInt64).toInt64 = v := ⟨_, rfl⟩
    obtain ⟨c36_b1_v6, c36_b1_hv6⟩ : ∃ v, Int64.toInt32 c36_b1_v5 = v := ⟨_, rfl⟩
    obtain ⟨c36_b1_v7, c36_b1_hv7⟩ : ∃ v, (Int32.toInt8 c36_b1_v6).toInt32 = v := ⟨_, rfl⟩
    have L_c36_b1_v7 : own_I c36_b1_v7 c36_b1_v7.toInt 128 := by have := c_i2b c36_b1_v6; rw [c36_b1_hv7] at this; exact ⟨rfl, by omega, by omega⟩
    obtain ⟨c43_b2_v5, c43_b2_hv5⟩ : ∃ v, (Int64.toUInt64 p1 >>> ((16 : Int32) &&& 63).toInt64.toUInt64).toInt64 = v := ⟨_, rfl⟩
    obtain ⟨c43_b2_v6, c43_b2_hv6⟩ : ∃ v, Int64.toInt32 c43_b2_v5 = v := ⟨_, rfl⟩
    obtain ⟨c43_b2_v7, c43_b2_hv7⟩ : ∃ v, (Int32.toInt8 c43_b2_v6).toInt32 = v := ⟨_, rfl⟩
    have L_c43_b2_v7 : own_I c43_b2_v7 c43_b2_v7.toInt 128 := by have := c_i2b c43_b2_v6; rw [c43_b2_hv7] at this; exact ⟨rfl, by omega, by omega⟩
    obtain ⟨c50_b3_v5, c50_b3_hv5⟩ : ∃ v, (Int64.toUInt64 p1 >>> ((24 : Int32) &&& 63).toInt64.toUInt64).toInt64 = v := ⟨_, rfl⟩
    obtain ⟨c50_b3_v6, c50_b3_hv6⟩ : ∃ v, Int64.toInt32 c50_b3_v5 = v := ⟨_, rfl⟩
    obtain ⟨c50_b3_v7, c50_b3_hv7⟩ : ∃ v, (Int32.toInt8 c50_b3_v6).toInt32 = v := ⟨_, rfl⟩
    have L_c50_b3_v7 : own_I c50_b3_v7 c50_b3_v7.toInt 128 := by have := c_i2b c50_b3_v6; rw [c50_b3_hv7] at this; exact ⟨rfl, by omega, by omega⟩
    obtain ⟨c57_b4_v5, c57_b4_hv5⟩ : ∃ v, (Int64.toUInt64 p1 >>> ((32 : Int32) &&& 63).toInt64.toUInt64).toInt64 = v := ⟨_, rfl⟩
    obtain ⟨c57_b4_v6, c57_b4_hv6⟩ : ∃ v, Int64.toInt32 c57_b4_v5 = v := ⟨_, rfl⟩
    obtain ⟨c57_b4_v7, c57_b4_hv7⟩ : ∃ v, (Int32.toInt8 c57_b4_v6).toInt32 = v := ⟨_, rfl⟩
    have L_c57_b4_v7 : own_I c57_b4_v7 c57_b4_v7.toInt 128 := by have := c_i2b c57_b4_v6; rw [c57_b4_hv7] at this; exact ⟨rfl, by omega, by omega⟩
    obtain ⟨c64_b5_v5, c64_b5_hv5⟩ : ∃ v, (Int64.toUInt64 p1 >>> ((40 : Int32) &&& 63).toInt64.toUInt64).toInt64 = v := ⟨_, rfl⟩
    obtain ⟨c64_b5_v6, c64_b5_hv6⟩ : ∃ v, Int64.toInt32 c64_b5_v5 = v := ⟨_, rfl⟩
    obtain ⟨c64_b5_v7, c64_b5_hv7⟩ : ∃ v, (Int32.toInt8 c64_b5_v6).toInt32 = v := ⟨_, rfl⟩
    have L_c64_b5_v7 : own_I c64_b5_v7 c64_b5_v7.toInt 128 := by have := c_i2b c64_b5_v6; rw [c64_b5_hv7] at this; exact ⟨rfl, by omega, by omega⟩
    obtain ⟨c72_b6_v5, c72_b6_hv5⟩ : ∃ v, (Int64.toUInt64 p1 >>> ((48 : Int32) &&& 63).toInt64.toUInt64).toInt64 = v := ⟨_, rfl⟩
    obtain ⟨c72_b6_v6, c72_b6_hv6⟩ : ∃ v, Int64.toInt32 c72_b6_v5 = v := ⟨_, rfl⟩
    obtain ⟨c72_b6_v7, c72_b6_hv7⟩ : ∃ v, (Int32.toInt8 c72_b6_v6).toInt32 = v := ⟨_, rfl⟩
    have L_c72_b6_v7 : own_I c72_b6_v7 c72_b6_v7.toInt 128 := by have := c_i2b c72_b6_v6; rw [c72_b6_hv7] at this; exact ⟨rfl, by omega, by omega⟩
    obtain ⟨c80_b7_v5, c80_b7_hv5⟩ : ∃ v, (Int64.toUInt64 p1 >>> ((56 : Int32) &&& 63).toInt64.toUInt64).toInt64 = v := ⟨_, rfl⟩
    obtain ⟨c80_b7_v6, c80_b7_hv6⟩ : ∃ v, Int64.toInt32 c80_b7_v5 = v := ⟨_, rfl⟩
    obtain ⟨c80_b7_v7, c80_b7_hv7⟩ : ∃ v, (Int32.toInt8 c80_b7_v6).toInt32 = v := ⟨_, rfl⟩
    have L_c80_b7_v7 : own_I c80_b7_v7 c80_b7_v7.toInt 128 := by have := c_i2b c80_b7_v6; rw [c80_b7_hv7] at this; exact ⟨rfl, by omega, by omega⟩
    obtain ⟨c87_b3_v5, c87_b3_hv5⟩ : ∃ v, (Int64.toUInt64 p0 >>> ((24 : Int32) &&& 63).toInt64.toUInt64).toInt64 = v := ⟨_, rfl⟩
    obtain ⟨c87_b3_v6, c87_b3_hv6⟩ : ∃ v, Int64.toInt32 c87_b3_v5 = v := ⟨_, rfl⟩
    obtain ⟨c87_b3_v7, c87_b3_hv7⟩ : ∃ v, (Int32.toInt8 c87_b3_v6).toInt32 = v := ⟨_, rfl⟩
    have L_c87_b3_v7 : own_I c87_b3_v7 c87_b3_v7.toInt 128 := by have := c_i2b c87_b3_v6; rw [c87_b3_hv7] at this; exact ⟨rfl, by omega, by omega⟩
    obtain ⟨c231_c2_v43, c231_c2_hv43⟩ : ∃ v, FP.dmul (FP.i2d c8_b0_v7) (FP.i2d c29_b0_v7) = v := ⟨_, rfl⟩
    have Id1 : own_B (FP.i2d c8_b0_v7) (c8_b0_v7.toInt) 0 128 := own_Bi2d L_c8_b0_v7
    have Id2 : own_B (FP.i2d c29_b0_v7) (c29_b0_v7.toInt) 0 128 := own_Bi2d L_c29_b0_v7
    have J3 : own_B (FP.dmul (FP.i2d c8_b0_v7) (FP.i2d c29_b0_v7)) ((c8_b0_v7.toInt) * (c29_b0_v7.toInt)) (0) 16384 := own_Bcast (own_Bmul Id1 Id2 (by decide)) rfl (by decide) (by decide)
    have J3n := J3.nn
    rw [c231_c2_hv43] at J3
    obtain ⟨c231_c2_v44, c231_c2_hv44⟩ : ∃ v, FP.dadd 0 c231_c2_v43 = v := ⟨_, rfl⟩
    have Ic4 : own_B 0 (0) (0) 0 := ⟨⟨(Jvm.FP.Core.fin_bits _).mpr (by decide), by decide, by decide +kernel⟩, by decide, by decide⟩
    have J5 : own_B (FP.dadd 0 c231_c2_v43) ((0) + ((c8_b0_v7.toInt) * (c29_b0_v7.toInt))) (0) 16384 := own_Bcast (own_Badd Ic4 J3 (by decide)) rfl (by decide) (by decide)
    have J5n := J5.nn
    rw [c231_c2_hv44] at J5
    obtain ⟨c231_c2_v43_2, c231_c2_hv43_2⟩ : ∃ v, FP.dmul (FP.i2d c15_b1_v7) (FP.i2d c36_b1_v7) = v := ⟨_, rfl⟩
    have Id6 : own_B (FP.i2d c15_b1_v7) (c15_b1_v7.toInt) 0 128 := own_Bi2d L_c15_b1_v7
    have Id7 : own_B (FP.i2d c36_b1_v7) (c36_b1_v7.toInt) 0 128 := own_Bi2d L_c36_b1_v7
    have J8 : own_B (FP.dmul (FP.i2d c15_b1_v7) (FP.i2d c36_b1_v7)) ((c15_b1_v7.toInt) * (c36_b1_v7.toInt)) (0) 16384 := own_Bcast (own_Bmul Id6 Id7 (by decide)) rfl (by decide) (by decide)
    have J8n := J8.nn
    rw [c231_c2_hv43_2] at J8
    obtain ⟨c231_c2_v44_2, c231_c2_hv44_2⟩ : ∃ v, FP.dadd c231_c2_v44 c231_c2_v43_2 = v := ⟨_, rfl⟩
    have J9 : own_B (FP.dadd c231_c2_v44 c231_c2_v43_2) (((0) + ((c8_b0_v7.toInt) * (c29_b0_v7.toInt))) + ((c15_b1_v7.toInt) * (c36_b1_v7.toInt))) (0) 32768 := own_Bcast (own_Badd J5 J8 (by decide)) rfl (by decide) (by decide)
    have J9n := J9.nn
    rw [c231_c2_hv44_2] at J9
    obtain ⟨c231_c2_v43_3, c231_c2_hv43_3⟩ : ∃ v, FP.dmul (FP.i2d c8_b0_v7) (FP.i2d c50_b3_v7) = v := ⟨_, rfl⟩
    have Id10 : own_B (FP.i2d c50_b3_v7) (c50_b3_v7.toInt) 0 128 := own_Bi2d L_c50_b3_v7
    have J11 : own_B (FP.dmul (FP.i2d c8_b0_v7) (FP.i2d c50_b3_v7)) ((c8_b0_v7.toInt) * (c50_b3_v7.toInt)) (0) 16384 := own_Bcast (own_Bmul Id1 Id10 (by decide)) rfl (by decide) (by decide)
    have J11n := J11.nn
    rw [c231_c2_hv43_3] at J11
    obtain ⟨c231_c2_v44_3, c231_c2_hv44_3⟩ : ∃ v, FP.dadd 0 c231_c2_v43_3 = v := ⟨_, rfl⟩
    have J12 : own_B (FP.dadd 0 c231_c2_v43_3) ((0) + ((c8_b0_v7.toInt) * (c50_b3_v7.toInt))) (0) 16384 := own_Bcast (own_Badd Ic4 J11 (by decide)) rfl (by decide) (by decide)
    have J12n := J12.nn
    rw [c231_c2_hv44_3] at J12
    obtain ⟨c231_c2_v43_4, c231_c2_hv43_4⟩ : ∃ v, FP.dmul (FP.i2d c15_b1_v7) (FP.i2d c57_b4_v7) = v := ⟨_, rfl⟩
    have Id13 : own_B (FP.i2d c57_b4_v7) (c57_b4_v7.toInt) 0 128 := own_Bi2d L_c57_b4_v7
    have J14 : own_B (FP.dmul (FP.i2d c15_b1_v7) (FP.i2d c57_b4_v7)) ((c15_b1_v7.toInt) * (c57_b4_v7.toInt)) (0) 16384 := own_Bcast (own_Bmul Id6 Id13 (by decide)) rfl (by decide) (by decide)
    have J14n := J14.nn
    rw [c231_c2_hv43_4] at J14
    obtain ⟨c231_c2_v44_4, c231_c2_hv44_4⟩ : ∃ v, FP.dadd c231_c2_v44_3 c231_c2_v43_4 = v := ⟨_, rfl⟩
    have J15 : own_B (FP.dadd c231_c2_v44_3 c231_c2_v43_4) (((0) + ((c8_b0_v7.toInt) * (c50_b3_v7.toInt))) + ((c15_b1_v7.toInt) * (c57_b4_v7.toInt))) (0) 32768 := own_Bcast (own_Badd J12 J14 (by decide)) rfl (by decide) (by decide)
    have J15n := J15.nn
    rw [c231_c2_hv44_4] at J15
    obtain ⟨v251, hv251⟩ : ∃ v, FP.dmul (FP.i2d c29_b0_v7) (FP.i2d c8_b0_v7) = v := ⟨_, rfl⟩
    have J16 : own_B (FP.dmul (FP.i2d c29_b0_v7) (FP.i2d c8_b0_v7)) ((c29_b0_v7.toInt) * (c8_b0_v7.toInt)) (0) 16384 := own_Bcast (own_Bmul Id2 Id1 (by decide)) rfl (by decide) (by decide)
    have J16n := J16.nn
    rw [hv251] at J16
    obtain ⟨v256, hv256⟩ : ∃ v, FP.dmul (FP.i2d c36_b1_v7) (FP.i2d c15_b1_v7) = v := ⟨_, rfl⟩
    have J17 : own_B (FP.dmul (FP.i2d c36_b1_v7) (FP.i2d c15_b1_v7)) ((c36_b1_v7.toInt) * (c15_b1_v7.toInt)) (0) 16384 := own_Bcast (own_Bmul Id7 Id6 (by decide)) rfl (by decide) (by decide)
    have J17n := J17.nn
    rw [hv256] at J17
    obtain ⟨v257, hv257⟩ : ∃ v, FP.dadd v251 v256 = v := ⟨_, rfl⟩
    have J18 : own_B (FP.dadd v251 v256) (((c29_b0_v7.toInt) * (c8_b0_v7.toInt)) + ((c36_b1_v7.toInt) * (c15_b1_v7.toInt))) (0) 32768 := own_Bcast (own_Badd J16 J17 (by decide)) rfl (by decide) (by decide)
    have J18n := J18.nn
    rw [hv257] at J18
    obtain ⟨v270, hv270⟩ : ∃ v, FP.dmul (FP.i2d c50_b3_v7) (FP.i2d c8_b0_v7) = v := ⟨_, rfl⟩
    have J19 : own_B (FP.dmul (FP.i2d c50_b3_v7) (FP.i2d c8_b0_v7)) ((c50_b3_v7.toInt) * (c8_b0_v7.toInt)) (0) 16384 := own_Bcast (own_Bmul Id10 Id1 (by decide)) rfl (by decide) (by decide)
    have J19n := J19.nn
    rw [hv270] at J19
    obtain ⟨v275, hv275⟩ : ∃ v, FP.dmul (FP.i2d c57_b4_v7) (FP.i2d c15_b1_v7) = v := ⟨_, rfl⟩
    have J20 : own_B (FP.dmul (FP.i2d c57_b4_v7) (FP.i2d c15_b1_v7)) ((c57_b4_v7.toInt) * (c15_b1_v7.toInt)) (0) 16384 := own_Bcast (own_Bmul Id13 Id6 (by decide)) rfl (by decide) (by decide)
    have J20n := J20.nn
    rw [hv275] at J20
    obtain ⟨v276, hv276⟩ : ∃ v, FP.dadd v270 v275 = v := ⟨_, rfl⟩
    have J21 : own_B (FP.dadd v270 v275) (((c50_b3_v7.toInt) * (c8_b0_v7.toInt)) + ((c57_b4_v7.toInt) * (c15_b1_v7.toInt))) (0) 32768 := own_Bcast (own_Badd J19 J20 (by decide)) rfl (by decide) (by decide)
    have J21n := J21.nn
    rw [hv276] at J21
    exact own_rm_w2 l Z a0 hw ws p0 p1 p2 h0 n0 Z0 (w2_hv3 := hn) (w2_c8_b0_hv5 := c8_b0_hv5) (w2_c8_b0_hv6 := c8_b0_hv6) (w2_c8_b0_hv7 := c8_b0_hv7) (w2_c15_b1_hv5 := c15_b1_hv5) (w2_c15_b1_hv6 := c15_b1_hv6) (w2_c15_b1_hv7 := c15_b1_hv7) (w2_c22_b2_hv5 := c22_b2_hv5) (w2_c22_b2_hv6 := c22_b2_hv6) (w2_c22_b2_hv7 := c22_b2_hv7) (w2_c29_b0_hv5 := c29_b0_hv5) (w2_c29_b0_hv6 := c29_b0_hv6) (w2_c29_b0_hv7 := c29_b0_hv7) (w2_c36_b1_hv5 := c36_b1_hv5) (w2_c36_b1_hv6 := c36_b1_hv6) (w2_c36_b1_hv7 := c36_b1_hv7) (w2_c43_b2_hv5 := c43_b2_hv5) (w2_c43_b2_hv6 := c43_b2_hv6) (w2_c43_b2_hv7 := c43_b2_hv7) (w2_c50_b3_hv5 := c50_b3_hv5) (w2_c50_b3_hv6 := c50_b3_hv6) (w2_c50_b3_hv7 := c50_b3_hv7) (w2_c57_b4_hv5 := c57_b4_hv5) (w2_c57_b4_hv6 := c57_b4_hv6) (w2_c57_b4_hv7 := c57_b4_hv7) (w2_c64_b5_hv5 := c64_b5_hv5) (w2_c64_b5_hv6 := c64_b5_hv6) (w2_c64_b5_hv7 := c64_b5_hv7) (w2_c72_b6_hv5 := c72_b6_hv5) (w2_c72_b6_hv6 := c72_b6_hv6) (w2_c72_b6_hv7 := c72_b6_hv7) (w2_c80_b7_hv5 := c80_b7_hv5) (w2_c80_b7_hv6 := c80_b7_hv6) (w2_c80_b7_hv7 := c80_b7_hv7) (w2_c87_b3_hv5 := c87_b3_hv5) (w2_c87_b3_hv6 := c87_b3_hv6) (w2_c87_b3_hv7 := c87_b3_hv7) (w2_c231_c2_hn43 := J3n) (w2_c231_c2_hv43 := c231_c2_hv43) (w2_c231_c2_hn44 := J5n) (w2_c231_c2_hv44 := c231_c2_hv44) (w2_c231_c2_hn43_2 := J8n) (w2_c231_c2_hv43_2 := c231_c2_hv43_2) (w2_c231_c2_hn44_2 := J9n) (w2_c231_c2_hv44_2 := c231_c2_hv44_2) (w2_c231_c2_hn43_3 := J11n) (w2_c231_c2_hv43_3 := c231_c2_hv43_3) (w2_c231_c2_hn44_3 := J12n) (w2_c231_c2_hv44_3 := c231_c2_hv44_3) (w2_c231_c2_hn43_4 := J14n) (w2_c231_c2_hv43_4 := c231_c2_hv43_4) (w2_c231_c2_hn44_4 := J15n) (w2_c231_c2_hv44_4 := c231_c2_hv44_4) (w2_hn251 := J16n) (w2_hv251 := hv251) (w2_hn256 := J17n) (w2_hv256 := hv256) (w2_hn257 := J18n) (w2_hv257 := hv257) (w2_hc258 := (own_eq0 J9.is J18.is (by grind) _)) (w2_hn270 := J19n) (w2_hv270 := hv270) (w2_hn275 := J20n) (w2_hv275 := hv275) (w2_hn276 := J21n) (w2_hv276 := hv276) (w2_hc277 := (own_eq0 J15.is J21.is (by grind) _))
  · obtain ⟨c8_b0_v5, c8_b0_hv5⟩ : ∃ v, (Int64.toUInt64 p0 >>> ((0 : Int32) &&& 63).toInt64.toUInt64).toInt64 = v := ⟨_, rfl⟩
    obtain ⟨c8_b0_v6, c8_b0_hv6⟩ : ∃ v, Int64.toInt32 c8_b0_v5 = v := ⟨_, rfl⟩
    obtain ⟨c8_b0_v7, c8_b0_hv7⟩ : ∃ v, (Int32.toInt8 c8_b0_v6).toInt32 = v := ⟨_, rfl⟩
    have L_c8_b0_v7 : own_I c8_b0_v7 c8_b0_v7.toInt 128 := by have := c_i2b c8_b0_v6; rw [c8_b0_hv7] at this; exact ⟨rfl, by omega, by omega⟩
    obtain ⟨c15_b1_v5, c15_b1_hv5⟩ : ∃ v, (Int64.toUInt64 p0 >>> ((8 : Int32) &&& 63).toInt64.toUInt64).toInt64 = v := ⟨_, rfl⟩
    obtain ⟨c15_b1_v6, c15_b1_hv6⟩ : ∃ v, Int64.toInt32 c15_b1_v5 = v := ⟨_, rfl⟩
    obtain ⟨c15_b1_v7, c15_b1_hv7⟩ : ∃ v, (Int32.toInt8 c15_b1_v6).toInt32 = v := ⟨_, rfl⟩
    have L_c15_b1_v7 : own_I c15_b1_v7 c15_b1_v7.toInt 128 := by have := c_i2b c15_b1_v6; rw [c15_b1_hv7] at this; exact ⟨rfl, by omega, by omega⟩
    obtain ⟨c22_b2_v5, c22_b2_hv5⟩ : ∃ v, (Int64.toUInt64 p0 >>> ((16 : Int32) &&& 63).toInt64.toUInt64).toInt64 = v := ⟨_, rfl⟩
    obtain ⟨c22_b2_v6, c22_b2_hv6⟩ : ∃ v, Int64.toInt32 c22_b2_v5 = v := ⟨_, rfl⟩
    obtain ⟨c22_b2_v7, c22_b2_hv7⟩ : ∃ v, (Int32.toInt8 c22_b2_v6).toInt32 = v := ⟨_, rfl⟩
    have L_c22_b2_v7 : own_I c22_b2_v7 c22_b2_v7.toInt 128 := by have := c_i2b c22_b2_v6; rw [c22_b2_hv7] at this; exact ⟨rfl, by omega, by omega⟩
    obtain ⟨c29_b0_v5, c29_b0_hv5⟩ : ∃ v, (Int64.toUInt64 p1 >>> ((0 : Int32) &&& 63).toInt64.toUInt64).toInt64 = v := ⟨_, rfl⟩
    obtain ⟨c29_b0_v6, c29_b0_hv6⟩ : ∃ v, Int64.toInt32 c29_b0_v5 = v := ⟨_, rfl⟩
    obtain ⟨c29_b0_v7, c29_b0_hv7⟩ : ∃ v, (Int32.toInt8 c29_b0_v6).toInt32 = v := ⟨_, rfl⟩
    have L_c29_b0_v7 : own_I c29_b0_v7 c29_b0_v7.toInt 128 := by have := c_i2b c29_b0_v6; rw [c29_b0_hv7] at this; exact ⟨rfl, by omega, by omega⟩
    obtain ⟨c36_b1_v5, c36_b1_hv5⟩ : ∃ v, (Int64.toUInt64 p1 >>> ((8 : Int32) &&& 63).toInt64.toUInt64).toInt64 = v := ⟨_, rfl⟩
    obtain ⟨c36_b1_v6, c36_b1_hv6⟩ : ∃ v, Int64.toInt32 c36_b1_v5 = v := ⟨_, rfl⟩
    obtain ⟨c36_b1_v7, c36_b1_hv7⟩ : ∃ v, (Int32.toInt8 c36_b1_v6).toInt32 = v := ⟨_, rfl⟩
    have L_c36_b1_v7 : own_I c36_b1_v7 c36_b1_v7.toInt 128 := by have := c_i2b c36_b1_v6; rw [c36_b1_hv7] at this; exact ⟨rfl, by omega, by omega⟩
    obtain ⟨c43_b2_v5, c43_b2_hv5⟩ : ∃ v, (Int64.toUInt64 p1 >>> ((16 : Int32) &&& 63).toInt64.toUInt64).toInt64 = v := ⟨_, rfl⟩
    obtain ⟨c43_b2_v6, c43_b2_hv6⟩ : ∃ v, Int64.toInt32 c43_b2_v5 = v := ⟨_, rfl⟩
    obtain ⟨c43_b2_v7, c43_b2_hv7⟩ : ∃ v, (Int32.toInt8 c43_b2_v6).toInt32 = v := ⟨_, rfl⟩
    have L_c43_b2_v7 : own_I c43_b2_v7 c43_b2_v7.toInt 128 := by have := c_i2b c43_b2_v6; rw [c43_b2_hv7] at this; exact ⟨rfl, by omega, by omega⟩
    obtain ⟨c50_b3_v5, c50_b3_hv5⟩ : ∃ v, (Int64.toUInt64 p1 >>> ((24 : Int32) &&& 63).toInt64.toUInt64).toInt64 = v := ⟨_, rfl⟩
    obtain ⟨c50_b3_v6, c50_b3_hv6⟩ : ∃ v, Int64.toInt32 c50_b3_v5 = v := ⟨_, rfl⟩
    obtain ⟨c50_b3_v7, c50_b3_hv7⟩ : ∃ v, (Int32.toInt8 c50_b3_v6).toInt32 = v := ⟨_, rfl⟩
    have L_c50_b3_v7 : own_I c50_b3_v7 c50_b3_v7.toInt 128 := by have := c_i2b c50_b3_v6; rw [c50_b3_hv7] at this; exact ⟨rfl, by omega, by omega⟩
    obtain ⟨c57_b4_v5, c57_b4_hv5⟩ : ∃ v, (Int64.toUInt64 p1 >>> ((32 : Int32) &&& 63).toInt64.toUInt64).toInt64 = v := ⟨_, rfl⟩
    obtain ⟨c57_b4_v6, c57_b4_hv6⟩ : ∃ v, Int64.toInt32 c57_b4_v5 = v := ⟨_, rfl⟩
    obtain ⟨c57_b4_v7, c57_b4_hv7⟩ : ∃ v, (Int32.toInt8 c57_b4_v6).toInt32 = v := ⟨_, rfl⟩
    have L_c57_b4_v7 : own_I c57_b4_v7 c57_b4_v7.toInt 128 := by have := c_i2b c57_b4_v6; rw [c57_b4_hv7] at this; exact ⟨rfl, by omega, by omega⟩
    obtain ⟨c64_b5_v5, c64_b5_hv5⟩ : ∃ v, (Int64.toUInt64 p1 >>> ((40 : Int32) &&& 63).toInt64.toUInt64).toInt64 = v := ⟨_, rfl⟩
    obtain ⟨c64_b5_v6, c64_b5_hv6⟩ : ∃ v, Int64.toInt32 c64_b5_v5 = v := ⟨_, rfl⟩
    obtain ⟨c64_b5_v7, c64_b5_hv7⟩ : ∃ v, (Int32.toInt8 c64_b5_v6).toInt32 = v := ⟨_, rfl⟩
    have L_c64_b5_v7 : own_I c64_b5_v7 c64_b5_v7.toInt 128 := by have := c_i2b c64_b5_v6; rw [c64_b5_hv7] at this; exact ⟨rfl, by omega, by omega⟩
    obtain ⟨c72_b6_v5, c72_b6_hv5⟩ : ∃ v, (Int64.toUInt64 p1 >>> ((48 : Int32) &&& 63).toInt64.toUInt64).toInt64 = v := ⟨_, rfl⟩
    obtain ⟨c72_b6_v6, c72_b6_hv6⟩ : ∃ v, Int64.toInt32 c72_b6_v5 = v := ⟨_, rfl⟩
    obtain ⟨c72_b6_v7, c72_b6_hv7⟩ : ∃ v, (Int32.toInt8 c72_b6_v6).toInt32 = v := ⟨_, rfl⟩
    have L_c72_b6_v7 : own_I c72_b6_v7 c72_b6_v7.toInt 128 := by have := c_i2b c72_b6_v6; rw [c72_b6_hv7] at this; exact ⟨rfl, by omega, by omega⟩
    obtain ⟨c80_b7_v5, c80_b7_hv5⟩ : ∃ v, (Int64.toUInt64 p1 >>> ((56 : Int32) &&& 63).toInt64.toUInt64).toInt64 = v := ⟨_, rfl⟩
    obtain ⟨c80_b7_v6, c80_b7_hv6⟩ : ∃ v, Int64.toInt32 c80_b7_v5 = v := ⟨_, rfl⟩
    obtain ⟨c80_b7_v7, c80_b7_hv7⟩ : ∃ v, (Int32.toInt8 c80_b7_v6).toInt32 = v := ⟨_, rfl⟩
    have L_c80_b7_v7 : own_I c80_b7_v7 c80_b7_v7.toInt 128 := by have := c_i2b c80_b7_v6; rw [c80_b7_hv7] at this; exact ⟨rfl, by omega, by omega⟩
    obtain ⟨c87_b3_v5, c87_b3_hv5⟩ : ∃ v, (Int64.toUInt64 p0 >>> ((24 : Int32) &&& 63).toInt64.toUInt64).toInt64 = v := ⟨_, rfl⟩
    obtain ⟨c87_b3_v6, c87_b3_hv6⟩ : ∃ v, Int64.toInt32 c87_b3_v5 = v := ⟨_, rfl⟩
    obtain ⟨c87_b3_v7, c87_b3_hv7⟩ : ∃ v, (Int32.toInt8 c87_b3_v6).toInt32 = v := ⟨_, rfl⟩
    have L_c87_b3_v7 : own_I c87_b3_v7 c87_b3_v7.toInt 128 := by have := c_i2b c87_b3_v6; rw [c87_b3_hv7] at this; exact ⟨rfl, by omega, by omega⟩
    obtain ⟨c365_c3_v43, c365_c3_hv43⟩ : ∃ v, FP.dmul (FP.i2d c8_b0_v7) (FP.i2d c29_b0_v7) = v := ⟨_, rfl⟩
    have Id1 : own_B (FP.i2d c8_b0_v7) (c8_b0_v7.toInt) 0 128 := own_Bi2d L_c8_b0_v7
    have Id2 : own_B (FP.i2d c29_b0_v7) (c29_b0_v7.toInt) 0 128 := own_Bi2d L_c29_b0_v7
    have J3 : own_B (FP.dmul (FP.i2d c8_b0_v7) (FP.i2d c29_b0_v7)) ((c8_b0_v7.toInt) * (c29_b0_v7.toInt)) (0) 16384 := own_Bcast (own_Bmul Id1 Id2 (by decide)) rfl (by decide) (by decide)
    have J3n := J3.nn
    rw [c365_c3_hv43] at J3
    obtain ⟨c365_c3_v44, c365_c3_hv44⟩ : ∃ v, FP.dadd 0 c365_c3_v43 = v := ⟨_, rfl⟩
    have Ic4 : own_B 0 (0) (0) 0 := ⟨⟨(Jvm.FP.Core.fin_bits _).mpr (by decide), by decide, by decide +kernel⟩, by decide, by decide⟩
    have J5 : own_B (FP.dadd 0 c365_c3_v43) ((0) + ((c8_b0_v7.toInt) * (c29_b0_v7.toInt))) (0) 16384 := own_Bcast (own_Badd Ic4 J3 (by decide)) rfl (by decide) (by decide)
    have J5n := J5.nn
    rw [c365_c3_hv44] at J5
    obtain ⟨c365_c3_v43_2, c365_c3_hv43_2⟩ : ∃ v, FP.dmul (FP.i2d c15_b1_v7) (FP.i2d c36_b1_v7) = v := ⟨_, rfl⟩
    have Id6 : own_B (FP.i2d c15_b1_v7) (c15_b1_v7.toInt) 0 128 := own_Bi2d L_c15_b1_v7
    have Id7 : own_B (FP.i2d c36_b1_v7) (c36_b1_v7.toInt) 0 128 := own_Bi2d L_c36_b1_v7
    have J8 : own_B (FP.dmul (FP.i2d c15_b1_v7) (FP.i2d c36_b1_v7)) ((c15_b1_v7.toInt) * (c36_b1_v7.toInt)) (0) 16384 := own_Bcast (own_Bmul Id6 Id7 (by decide)) rfl (by decide) (by decide)
    have J8n := J8.nn
    rw [c365_c3_hv43_2] at J8
    obtain ⟨c365_c3_v44_2, c365_c3_hv44_2⟩ : ∃ v, FP.dadd c365_c3_v44 c365_c3_v43_2 = v := ⟨_, rfl⟩
    have J9 : own_B (FP.dadd c365_c3_v44 c365_c3_v43_2) (((0) + ((c8_b0_v7.toInt) * (c29_b0_v7.toInt))) + ((c15_b1_v7.toInt) * (c36_b1_v7.toInt))) (0) 32768 := own_Bcast (own_Badd J5 J8 (by decide)) rfl (by decide) (by decide)
    have J9n := J9.nn
    rw [c365_c3_hv44_2] at J9
    obtain ⟨c365_c3_v43_3, c365_c3_hv43_3⟩ : ∃ v, FP.dmul (FP.i2d c22_b2_v7) (FP.i2d c43_b2_v7) = v := ⟨_, rfl⟩
    have Id10 : own_B (FP.i2d c22_b2_v7) (c22_b2_v7.toInt) 0 128 := own_Bi2d L_c22_b2_v7
    have Id11 : own_B (FP.i2d c43_b2_v7) (c43_b2_v7.toInt) 0 128 := own_Bi2d L_c43_b2_v7
    have J12 : own_B (FP.dmul (FP.i2d c22_b2_v7) (FP.i2d c43_b2_v7)) ((c22_b2_v7.toInt) * (c43_b2_v7.toInt)) (0) 16384 := own_Bcast (own_Bmul Id10 Id11 (by decide)) rfl (by decide) (by decide)
    have J12n := J12.nn
    rw [c365_c3_hv43_3] at J12
    obtain ⟨c365_c3_v44_3, c365_c3_hv44_3⟩ : ∃ v, FP.dadd c365_c3_v44_2 c365_c3_v43_3 = v := ⟨_, rfl⟩
    have J13 : own_B (FP.dadd c365_c3_v44_2 c365_c3_v43_3) ((((0) + ((c8_b0_v7.toInt) * (c29_b0_v7.toInt))) + ((c15_b1_v7.toInt) * (c36_b1_v7.toInt))) + ((c22_b2_v7.toInt) * (c43_b2_v7.toInt))) (0) 49152 := own_Bcast (own_Badd J9 J12 (by decide)) rfl (by decide) (by decide)
    have J13n := J13.nn
    rw [c365_c3_hv44_3] at J13
    obtain ⟨c365_c3_v43_4, c365_c3_hv43_4⟩ : ∃ v, FP.dmul (FP.i2d c8_b0_v7) (FP.i2d c50_b3_v7) = v := ⟨_, rfl⟩
    have Id14 : own_B (FP.i2d c50_b3_v7) (c50_b3_v7.toInt) 0 128 := own_Bi2d L_c50_b3_v7
    have J15 : own_B (FP.dmul (FP.i2d c8_b0_v7) (FP.i2d c50_b3_v7)) ((c8_b0_v7.toInt) * (c50_b3_v7.toInt)) (0) 16384 := own_Bcast (own_Bmul Id1 Id14 (by decide)) rfl (by decide) (by decide)
    have J15n := J15.nn
    rw [c365_c3_hv43_4] at J15
    obtain ⟨c365_c3_v44_4, c365_c3_hv44_4⟩ : ∃ v, FP.dadd 0 c365_c3_v43_4 = v := ⟨_, rfl⟩
    have J16 : own_B (FP.dadd 0 c365_c3_v43_4) ((0) + ((c8_b0_v7.toInt) * (c50_b3_v7.toInt))) (0) 16384 := own_Bcast (own_Badd Ic4 J15 (by decide)) rfl (by decide) (by decide)
    have J16n := J16.nn
    rw [c365_c3_hv44_4] at J16
    obtain ⟨c365_c3_v43_5, c365_c3_hv43_5⟩ : ∃ v, FP.dmul (FP.i2d c15_b1_v7) (FP.i2d c57_b4_v7) = v := ⟨_, rfl⟩
    have Id17 : own_B (FP.i2d c57_b4_v7) (c57_b4_v7.toInt) 0 128 := own_Bi2d L_c57_b4_v7
    have J18 : own_B (FP.dmul (FP.i2d c15_b1_v7) (FP.i2d c57_b4_v7)) ((c15_b1_v7.toInt) * (c57_b4_v7.toInt)) (0) 16384 := own_Bcast (own_Bmul Id6 Id17 (by decide)) rfl (by decide) (by decide)
    have J18n := J18.nn
    rw [c365_c3_hv43_5] at J18
    obtain ⟨c365_c3_v44_5, c365_c3_hv44_5⟩ : ∃ v, FP.dadd c365_c3_v44_4 c365_c3_v43_5 = v := ⟨_, rfl⟩
    have J19 : own_B (FP.dadd c365_c3_v44_4 c365_c3_v43_5) (((0) + ((c8_b0_v7.toInt) * (c50_b3_v7.toInt))) + ((c15_b1_v7.toInt) * (c57_b4_v7.toInt))) (0) 32768 := own_Bcast (own_Badd J16 J18 (by decide)) rfl (by decide) (by decide)
    have J19n := J19.nn
    rw [c365_c3_hv44_5] at J19
    obtain ⟨c365_c3_v43_6, c365_c3_hv43_6⟩ : ∃ v, FP.dmul (FP.i2d c22_b2_v7) (FP.i2d c64_b5_v7) = v := ⟨_, rfl⟩
    have Id20 : own_B (FP.i2d c64_b5_v7) (c64_b5_v7.toInt) 0 128 := own_Bi2d L_c64_b5_v7
    have J21 : own_B (FP.dmul (FP.i2d c22_b2_v7) (FP.i2d c64_b5_v7)) ((c22_b2_v7.toInt) * (c64_b5_v7.toInt)) (0) 16384 := own_Bcast (own_Bmul Id10 Id20 (by decide)) rfl (by decide) (by decide)
    have J21n := J21.nn
    rw [c365_c3_hv43_6] at J21
    obtain ⟨c365_c3_v44_6, c365_c3_hv44_6⟩ : ∃ v, FP.dadd c365_c3_v44_5 c365_c3_v43_6 = v := ⟨_, rfl⟩
    have J22 : own_B (FP.dadd c365_c3_v44_5 c365_c3_v43_6) ((((0) + ((c8_b0_v7.toInt) * (c50_b3_v7.toInt))) + ((c15_b1_v7.toInt) * (c57_b4_v7.toInt))) + ((c22_b2_v7.toInt) * (c64_b5_v7.toInt))) (0) 49152 := own_Bcast (own_Badd J19 J21 (by decide)) rfl (by decide) (by decide)
    have J22n := J22.nn
    rw [c365_c3_hv44_6] at J22
    obtain ⟨c365_c3_v43_7, c365_c3_hv43_7⟩ : ∃ v, FP.dmul (FP.i2d c8_b0_v7) (FP.i2d c72_b6_v7) = v := ⟨_, rfl⟩
    have Id23 : own_B (FP.i2d c72_b6_v7) (c72_b6_v7.toInt) 0 128 := own_Bi2d L_c72_b6_v7
    have J24 : own_B (FP.dmul (FP.i2d c8_b0_v7) (FP.i2d c72_b6_v7)) ((c8_b0_v7.toInt) * (c72_b6_v7.toInt)) (0) 16384 := own_Bcast (own_Bmul Id1 Id23 (by decide)) rfl (by decide) (by decide)
    have J24n := J24.nn
    rw [c365_c3_hv43_7] at J24
    obtain ⟨c365_c3_v44_7, c365_c3_hv44_7⟩ : ∃ v, FP.dadd 0 c365_c3_v43_7 = v := ⟨_, rfl⟩
    have J25 : own_B (FP.dadd 0 c365_c3_v43_7) ((0) + ((c8_b0_v7.toInt) * (c72_b6_v7.toInt))) (0) 16384 := own_Bcast (own_Badd Ic4 J24 (by decide)) rfl (by decide) (by decide)
    have J25n := J25.nn
    rw [c365_c3_hv44_7] at J25
    obtain ⟨c365_c3_v43_8, c365_c3_hv43_8⟩ : ∃ v, FP.dmul (FP.i2d c15_b1_v7) (FP.i2d c80_b7_v7) = v := ⟨_, rfl⟩
    have Id26 : own_B (FP.i2d c80_b7_v7) (c80_b7_v7.toInt) 0 128 := own_Bi2d L_c80_b7_v7
    have J27 : own_B (FP.dmul (FP.i2d c15_b1_v7) (FP.i2d c80_b7_v7)) ((c15_b1_v7.toInt) * (c80_b7_v7.toInt)) (0) 16384 := own_Bcast (own_Bmul Id6 Id26 (by decide)) rfl (by decide) (by decide)
    have J27n := J27.nn
    rw [c365_c3_hv43_8] at J27
    obtain ⟨c365_c3_v44_8, c365_c3_hv44_8⟩ : ∃ v, FP.dadd c365_c3_v44_7 c365_c3_v43_8 = v := ⟨_, rfl⟩
    have J28 : own_B (FP.dadd c365_c3_v44_7 c365_c3_v43_8) (((0) + ((c8_b0_v7.toInt) * (c72_b6_v7.toInt))) + ((c15_b1_v7.toInt) * (c80_b7_v7.toInt))) (0) 32768 := own_Bcast (own_Badd J25 J27 (by decide)) rfl (by decide) (by decide)
    have J28n := J28.nn
    rw [c365_c3_hv44_8] at J28
    obtain ⟨c365_c3_v43_9, c365_c3_hv43_9⟩ : ∃ v, FP.dmul (FP.i2d c22_b2_v7) (FP.i2d c87_b3_v7) = v := ⟨_, rfl⟩
    have Id29 : own_B (FP.i2d c87_b3_v7) (c87_b3_v7.toInt) 0 128 := own_Bi2d L_c87_b3_v7
    have J30 : own_B (FP.dmul (FP.i2d c22_b2_v7) (FP.i2d c87_b3_v7)) ((c22_b2_v7.toInt) * (c87_b3_v7.toInt)) (0) 16384 := own_Bcast (own_Bmul Id10 Id29 (by decide)) rfl (by decide) (by decide)
    have J30n := J30.nn
    rw [c365_c3_hv43_9] at J30
    obtain ⟨c365_c3_v44_9, c365_c3_hv44_9⟩ : ∃ v, FP.dadd c365_c3_v44_8 c365_c3_v43_9 = v := ⟨_, rfl⟩
    have J31 : own_B (FP.dadd c365_c3_v44_8 c365_c3_v43_9) ((((0) + ((c8_b0_v7.toInt) * (c72_b6_v7.toInt))) + ((c15_b1_v7.toInt) * (c80_b7_v7.toInt))) + ((c22_b2_v7.toInt) * (c87_b3_v7.toInt))) (0) 49152 := own_Bcast (own_Badd J28 J30 (by decide)) rfl (by decide) (by decide)
    have J31n := J31.nn
    rw [c365_c3_hv44_9] at J31
    obtain ⟨v385, hv385⟩ : ∃ v, FP.dmul (FP.i2d c29_b0_v7) (FP.i2d c8_b0_v7) = v := ⟨_, rfl⟩
    have J32 : own_B (FP.dmul (FP.i2d c29_b0_v7) (FP.i2d c8_b0_v7)) ((c29_b0_v7.toInt) * (c8_b0_v7.toInt)) (0) 16384 := own_Bcast (own_Bmul Id2 Id1 (by decide)) rfl (by decide) (by decide)
    have J32n := J32.nn
    rw [hv385] at J32
    obtain ⟨v390, hv390⟩ : ∃ v, FP.dmul (FP.i2d c36_b1_v7) (FP.i2d c15_b1_v7) = v := ⟨_, rfl⟩
    have J33 : own_B (FP.dmul (FP.i2d c36_b1_v7) (FP.i2d c15_b1_v7)) ((c36_b1_v7.toInt) * (c15_b1_v7.toInt)) (0) 16384 := own_Bcast (own_Bmul Id7 Id6 (by decide)) rfl (by decide) (by decide)
    have J33n := J33.nn
    rw [hv390] at J33
    obtain ⟨v391, hv391⟩ : ∃ v, FP.dadd v385 v390 = v := ⟨_, rfl⟩
    have J34 : own_B (FP.dadd v385 v390) (((c29_b0_v7.toInt) * (c8_b0_v7.toInt)) + ((c36_b1_v7.toInt) * (c15_b1_v7.toInt))) (0) 32768 := own_Bcast (own_Badd J32 J33 (by decide)) rfl (by decide) (by decide)
    have J34n := J34.nn
    rw [hv391] at J34
    obtain ⟨v396, hv396⟩ : ∃ v, FP.dmul (FP.i2d c43_b2_v7) (FP.i2d c22_b2_v7) = v := ⟨_, rfl⟩
    have J35 : own_B (FP.dmul (FP.i2d c43_b2_v7) (FP.i2d c22_b2_v7)) ((c43_b2_v7.toInt) * (c22_b2_v7.toInt)) (0) 16384 := own_Bcast (own_Bmul Id11 Id10 (by decide)) rfl (by decide) (by decide)
    have J35n := J35.nn
    rw [hv396] at J35
    obtain ⟨v397, hv397⟩ : ∃ v, FP.dadd v391 v396 = v := ⟨_, rfl⟩
    have J36 : own_B (FP.dadd v391 v396) ((((c29_b0_v7.toInt) * (c8_b0_v7.toInt)) + ((c36_b1_v7.toInt) * (c15_b1_v7.toInt))) + ((c43_b2_v7.toInt) * (c22_b2_v7.toInt))) (0) 49152 := own_Bcast (own_Badd J34 J35 (by decide)) rfl (by decide) (by decide)
    have J36n := J36.nn
    rw [hv397] at J36
    obtain ⟨v410, hv410⟩ : ∃ v, FP.dmul (FP.i2d c50_b3_v7) (FP.i2d c8_b0_v7) = v := ⟨_, rfl⟩
    have J37 : own_B (FP.dmul (FP.i2d c50_b3_v7) (FP.i2d c8_b0_v7)) ((c50_b3_v7.toInt) * (c8_b0_v7.toInt)) (0) 16384 := own_Bcast (own_Bmul Id14 Id1 (by decide)) rfl (by decide) (by decide)
    have J37n := J37.nn
    rw [hv410] at J37
    obtain ⟨v415, hv415⟩ : ∃ v, FP.dmul (FP.i2d c57_b4_v7) (FP.i2d c15_b1_v7) = v := ⟨_, rfl⟩
    have J38 : own_B (FP.dmul (FP.i2d c57_b4_v7) (FP.i2d c15_b1_v7)) ((c57_b4_v7.toInt) * (c15_b1_v7.toInt)) (0) 16384 := own_Bcast (own_Bmul Id17 Id6 (by decide)) rfl (by decide) (by decide)
    have J38n := J38.nn
    rw [hv415] at J38
    obtain ⟨v416, hv416⟩ : ∃ v, FP.dadd v410 v415 = v := ⟨_, rfl⟩
    have J39 : own_B (FP.dadd v410 v415) (((c50_b3_v7.toInt) * (c8_b0_v7.toInt)) + ((c57_b4_v7.toInt) * (c15_b1_v7.toInt))) (0) 32768 := own_Bcast (own_Badd J37 J38 (by decide)) rfl (by decide) (by decide)
    have J39n := J39.nn
    rw [hv416] at J39
    obtain ⟨v421, hv421⟩ : ∃ v, FP.dmul (FP.i2d c64_b5_v7) (FP.i2d c22_b2_v7) = v := ⟨_, rfl⟩
    have J40 : own_B (FP.dmul (FP.i2d c64_b5_v7) (FP.i2d c22_b2_v7)) ((c64_b5_v7.toInt) * (c22_b2_v7.toInt)) (0) 16384 := own_Bcast (own_Bmul Id20 Id10 (by decide)) rfl (by decide) (by decide)
    have J40n := J40.nn
    rw [hv421] at J40
    obtain ⟨v422, hv422⟩ : ∃ v, FP.dadd v416 v421 = v := ⟨_, rfl⟩
    have J41 : own_B (FP.dadd v416 v421) ((((c50_b3_v7.toInt) * (c8_b0_v7.toInt)) + ((c57_b4_v7.toInt) * (c15_b1_v7.toInt))) + ((c64_b5_v7.toInt) * (c22_b2_v7.toInt))) (0) 49152 := own_Bcast (own_Badd J39 J40 (by decide)) rfl (by decide) (by decide)
    have J41n := J41.nn
    rw [hv422] at J41
    obtain ⟨v435, hv435⟩ : ∃ v, FP.dmul (FP.i2d c72_b6_v7) (FP.i2d c8_b0_v7) = v := ⟨_, rfl⟩
    have J42 : own_B (FP.dmul (FP.i2d c72_b6_v7) (FP.i2d c8_b0_v7)) ((c72_b6_v7.toInt) * (c8_b0_v7.toInt)) (0) 16384 := own_Bcast (own_Bmul Id23 Id1 (by decide)) rfl (by decide) (by decide)
    have J42n := J42.nn
    rw [hv435] at J42
    obtain ⟨v440, hv440⟩ : ∃ v, FP.dmul (FP.i2d c80_b7_v7) (FP.i2d c15_b1_v7) = v := ⟨_, rfl⟩
    have J43 : own_B (FP.dmul (FP.i2d c80_b7_v7) (FP.i2d c15_b1_v7)) ((c80_b7_v7.toInt) * (c15_b1_v7.toInt)) (0) 16384 := own_Bcast (own_Bmul Id26 Id6 (by decide)) rfl (by decide) (by decide)
    have J43n := J43.nn
    rw [hv440] at J43
    obtain ⟨v441, hv441⟩ : ∃ v, FP.dadd v435 v440 = v := ⟨_, rfl⟩
    have J44 : own_B (FP.dadd v435 v440) (((c72_b6_v7.toInt) * (c8_b0_v7.toInt)) + ((c80_b7_v7.toInt) * (c15_b1_v7.toInt))) (0) 32768 := own_Bcast (own_Badd J42 J43 (by decide)) rfl (by decide) (by decide)
    have J44n := J44.nn
    rw [hv441] at J44
    obtain ⟨v446, hv446⟩ : ∃ v, FP.dmul (FP.i2d c87_b3_v7) (FP.i2d c22_b2_v7) = v := ⟨_, rfl⟩
    have J45 : own_B (FP.dmul (FP.i2d c87_b3_v7) (FP.i2d c22_b2_v7)) ((c87_b3_v7.toInt) * (c22_b2_v7.toInt)) (0) 16384 := own_Bcast (own_Bmul Id29 Id10 (by decide)) rfl (by decide) (by decide)
    have J45n := J45.nn
    rw [hv446] at J45
    obtain ⟨v447, hv447⟩ : ∃ v, FP.dadd v441 v446 = v := ⟨_, rfl⟩
    have J46 : own_B (FP.dadd v441 v446) ((((c72_b6_v7.toInt) * (c8_b0_v7.toInt)) + ((c80_b7_v7.toInt) * (c15_b1_v7.toInt))) + ((c87_b3_v7.toInt) * (c22_b2_v7.toInt))) (0) 49152 := own_Bcast (own_Badd J44 J45 (by decide)) rfl (by decide) (by decide)
    have J46n := J46.nn
    rw [hv447] at J46
    exact own_rm_w3 l Z a0 hw ws p0 p1 p2 h0 n0 Z0 (w3_hv3 := hn) (w3_c8_b0_hv5 := c8_b0_hv5) (w3_c8_b0_hv6 := c8_b0_hv6) (w3_c8_b0_hv7 := c8_b0_hv7) (w3_c15_b1_hv5 := c15_b1_hv5) (w3_c15_b1_hv6 := c15_b1_hv6) (w3_c15_b1_hv7 := c15_b1_hv7) (w3_c22_b2_hv5 := c22_b2_hv5) (w3_c22_b2_hv6 := c22_b2_hv6) (w3_c22_b2_hv7 := c22_b2_hv7) (w3_c29_b0_hv5 := c29_b0_hv5) (w3_c29_b0_hv6 := c29_b0_hv6) (w3_c29_b0_hv7 := c29_b0_hv7) (w3_c36_b1_hv5 := c36_b1_hv5) (w3_c36_b1_hv6 := c36_b1_hv6) (w3_c36_b1_hv7 := c36_b1_hv7) (w3_c43_b2_hv5 := c43_b2_hv5) (w3_c43_b2_hv6 := c43_b2_hv6) (w3_c43_b2_hv7 := c43_b2_hv7) (w3_c50_b3_hv5 := c50_b3_hv5) (w3_c50_b3_hv6 := c50_b3_hv6) (w3_c50_b3_hv7 := c50_b3_hv7) (w3_c57_b4_hv5 := c57_b4_hv5) (w3_c57_b4_hv6 := c57_b4_hv6) (w3_c57_b4_hv7 := c57_b4_hv7) (w3_c64_b5_hv5 := c64_b5_hv5) (w3_c64_b5_hv6 := c64_b5_hv6) (w3_c64_b5_hv7 := c64_b5_hv7) (w3_c72_b6_hv5 := c72_b6_hv5) (w3_c72_b6_hv6 := c72_b6_hv6) (w3_c72_b6_hv7 := c72_b6_hv7) (w3_c80_b7_hv5 := c80_b7_hv5) (w3_c80_b7_hv6 := c80_b7_hv6) (w3_c80_b7_hv7 := c80_b7_hv7) (w3_c87_b3_hv5 := c87_b3_hv5) (w3_c87_b3_hv6 := c87_b3_hv6) (w3_c87_b3_hv7 := c87_b3_hv7) (w3_c365_c3_hn43 := J3n) (w3_c365_c3_hv43 := c365_c3_hv43) (w3_c365_c3_hn44 := J5n) (w3_c365_c3_hv44 := c365_c3_hv44) (w3_c365_c3_hn43_2 := J8n) (w3_c365_c3_hv43_2 := c365_c3_hv43_2) (w3_c365_c3_hn44_2 := J9n) (w3_c365_c3_hv44_2 := c365_c3_hv44_2) (w3_c365_c3_hn43_3 := J12n) (w3_c365_c3_hv43_3 := c365_c3_hv43_3) (w3_c365_c3_hn44_3 := J13n) (w3_c365_c3_hv44_3 := c365_c3_hv44_3) (w3_c365_c3_hn43_4 := J15n) (w3_c365_c3_hv43_4 := c365_c3_hv43_4) (w3_c365_c3_hn44_4 := J16n) (w3_c365_c3_hv44_4 := c365_c3_hv44_4) (w3_c365_c3_hn43_5 := J18n) (w3_c365_c3_hv43_5 := c365_c3_hv43_5) (w3_c365_c3_hn44_5 := J19n) (w3_c365_c3_hv44_5 := c365_c3_hv44_5) (w3_c365_c3_hn43_6 := J21n) (w3_c365_c3_hv43_6 := c365_c3_hv43_6) (w3_c365_c3_hn44_6 := J22n) (w3_c365_c3_hv44_6 := c365_c3_hv44_6) (w3_c365_c3_hn43_7 := J24n) (w3_c365_c3_hv43_7 := c365_c3_hv43_7) (w3_c365_c3_hn44_7 := J25n) (w3_c365_c3_hv44_7 := c365_c3_hv44_7) (w3_c365_c3_hn43_8 := J27n) (w3_c365_c3_hv43_8 := c365_c3_hv43_8) (w3_c365_c3_hn44_8 := J28n) (w3_c365_c3_hv44_8 := c365_c3_hv44_8) (w3_c365_c3_hn43_9 := J30n) (w3_c365_c3_hv43_9 := c365_c3_hv43_9) (w3_c365_c3_hn44_9 := J31n) (w3_c365_c3_hv44_9 := c365_c3_hv44_9) (w3_hn385 := J32n) (w3_hv385 := hv385) (w3_hn390 := J33n) (w3_hv390 := hv390) (w3_hn391 := J34n) (w3_hv391 := hv391) (w3_hn396 := J35n) (w3_hv396 := hv396) (w3_hn397 := J36n) (w3_hv397 := hv397) (w3_hc398 := (own_eq0 J13.is J36.is (by grind) _)) (w3_hn410 := J37n) (w3_hv410 := hv410) (w3_hn415 := J38n) (w3_hv415 := hv415) (w3_hn416 := J39n) (w3_hv416 := hv416) (w3_hn421 := J40n) (w3_hv421 := hv421) (w3_hn422 := J41n) (w3_hv422 := hv422) (w3_hc423 := (own_eq0 J22.is J41.is (by grind) _)) (w3_hn435 := J42n) (w3_hv435 := hv435) (w3_hn440 := J43n) (w3_hv440 := hv440) (w3_hn441 := J44n) (w3_hv441 := hv441) (w3_hn446 := J45n) (w3_hv446 := hv446) (w3_hn447 := J46n) (w3_hv447 := hv447) (w3_hc448 := (own_eq0 J31.is J46.is (by grind) _))
set_option maxRecDepth 65536 in
set_option maxHeartbeats 40000000 in
theorem comes_1 {Post : Tables → Env → Array Value → State → Outcome → State → Prop} (hpost : ∀ tb e args s v u, (limb_1_1.after args s (.returned v) u = true ∧ limb_1_2.after args s (.returned v) u = true ∧ True) → FrameEnd s (.returned v) u (Jvm.fieldLocs frame_1_writes args s ++ Jvm.arrayLocs frame_1_arrays args s ++ Jvm.staticLocs frame_1_statics s) 16 128 → Post tb e args s (.returned v) u) :
    ArmFor flags0 classFile x code maxLocals ret World_1 tables_1 room_1 Calls_1 rest_1 Pre_1 Post := by
  intro l hfl _ _ p e ha hc hk s m args below hf hA hF happ hP
  obtain ⟨hcalls, hrest, hpre⟩ := hP
  obtain ⟨-, -, -, hnamed, -, -, -, hat⟩ := (Spec.applies_iff hf).mp happ
  obtain ⟨hg, hn⟩ := and_e (Cond.before_iff.mp (show (Jvm.Cond.and given_1 narrow_1).before args s = true from hpre))
  obtain ⟨hcount, g0⟩ := and_e hg
  obtain ⟨a0, g1⟩ := and_e g0
  obtain ⟨a1, g2⟩ := and_e g1
  have a2 := g2
  obtain ⟨w0, w1, w2, rfl⟩ : ∃ w0 w1 w2 : Value, args = #[w0, w1, w2] := by
    have hs : args.size = 3 := by simpa [Cond.value, given_1] using hcount
    obtain ⟨L⟩ := args
    match L, hs with
    | [w0, w1, w2], _ => exact ⟨w0, w1, w2, rfl⟩
  have hw := fun d (hd : d ∈ tables_1) => atoms_spec (ws := Jvm.Cond.code x code maxLocals ret :: tables_1) hat d (List.mem_cons_of_mem _ hd)
  obtain ⟨i0, ei0⟩ := isL_v a0
  obtain rfl : w0 = (.long i0) := Option.some.inj ei0
  obtain ⟨i1, ei1⟩ := isL_v a1
  obtain rfl : w1 = (.long i1) := Option.some.inj ei1
  obtain ⟨i2, ei2⟩ := is_v a2
  obtain rfl : w2 = (.int i2) := Option.some.inj ei2
  obtain ⟨n, o, h1, h2, h3, _, L, rfl, ⟨rfl, N⟩, hq⟩ := own_rm0 l s _ hw tables_1 i0 i1 i2 s.heap s.heap.size (Nat.le_refl _)  p e ha hc hk s m _ below hf ((Spec.applies_iff_loose hf).mp happ).1 ⟨rfl, State.Warmed39.refl s, rfl⟩ trivial
  refine ⟨n, _, h1, h2, h3, hpost _ _ _ _ _ _ ⟨Cond.after_iff.mpr rfl, Cond.after_iff.mpr (eq_i res_at (Term.int_eval (1)) rfl), trivial⟩ ⟨hq.1, hq.2.1, (hq.2.2.sift fun y hy => Or.inr (N y hy)).mono (by decide) (by decide)⟩⟩
theorem main_1_1 : Claimed_1_1 := comes_1 fun _ _ _ _ _ _ h hF => ⟨h.1, hF⟩
theorem main_1_2 : Claimed_1_2 := comes_1 fun _ _ _ _ _ _ h hF => ⟨h.2.1, hF⟩
end Jvm.Pilot.@@N@@
namespace Jvm.Pilot.@@N@@
open Jvm Jvm.ClassFile Sem Op Lib Jvm.Free Jvm.Stand Jvm.Pilot.@@N@@.Jvm.D
/-! MADE BY PROGRAM (witnessworld.py) out of the Statement's table words and the real class files: 11 classes; the members and pool entries that the words name. The judged class is class 1, her method 2. -/
namespace start1
open Jvm.ClassFile
def u (s : String) : CpInfo := .utf8 (stringToUtf16 s)
/-- a pool by its gaps: so many unusable entries, then the entry; so many at the end -/
def gap : Nat → List CpInfo → List CpInfo
  | 0, r => r
  | n + 1, r => .unusable :: gap n r
def poolList (es : List (Nat × CpInfo)) (last : Nat) : List CpInfo := es.foldr (fun e r => gap e.1 (e.2 :: r)) (gap last [])
def pool (es : List (Nat × CpInfo)) (last : Nat) : Array CpInfo := ⟨poolList es last⟩
def fileOf (pool : Array CpInfo) (this : Nat) (attrs : Array Attribute := #[]) (ms : Array MethodInfo := #[]) (fl : Nat := 33) (sup : Nat := 0) (ifs : Array Nat := #[]) (fds : Array FieldInfo := #[]) : ClassFile where
  minorVersion := 0
  majorVersion := 65
  constantPool := pool
  accessFlags := fl
  thisClass := this
  superClass := sup
  interfaces := ifs
  fields := fds
  methods := ms
  attributes := attrs
def plain (name : String) (sup : Option ClassId) : Class where
  name := name
  kind := .ordinary
  loader := none
  accessFlags := 33
  super := sup
  interfaces := #[]
  cf := none
  fields := #[]
  methods := #[]
  instanceTypes := #[]
  staticTypes := #[]
  resolved := #[]
  callSites := []
  init := .initialized
  statics := none
  mirror := none

def pool0 : Array CpInfo := pool [(5, u "<init>"), (0, u "()V"), (1, .class_ 10), (1, u "java/lang/Object")] 113

def k0m0 : Method := { name := "<init>", desc := "()V", sig := { parameters := [], returnType := none }, accessFlags := 1, code := none }
/-- java/lang/Object -/
def k0 : Class := { plain "java/lang/Object" none with
  accessFlags := 33
  interfaces := #[]
  cf := some (fileOf pool0 8 #[] #[{ accessFlags := 1, nameIndex := 5, descriptorIndex := 6, attributes := #[] }] 33 0 #[] #[])
  fields := #[]
  methods := #[k0m0]
  instanceTypes := #[]
  staticTypes := #[]
  resolved := Array.replicate 124 none
  statics := none }

def pool1 : Array CpInfo := pool [(2, .class_ 4), (1, u "java/lang/Object"), (0, u "<init>"), (0, u "()V"), (0, .methodref 8 9), (0, .class_ 10), (0, .nameAndType 11 12), (0, u "com/example/differentia/differentia/problems/Cec2013TransformsRotatePinLaw"), (0, u "b"), (0, u "(JI)D"), (0, .methodref 14 15), (0, .class_ 16), (0, .nameAndType 17 18), (0, u "com/example/differentia/differentia/problems/Cec2013Transforms"), (0, u "rotate"), (0, u "([D[D)[D"), (2, u "law"), (0, u "(JJI)Z")] 5

def k1m0 : Method := { name := "<init>", desc := "()V", sig := { parameters := [], returnType := none }, accessFlags := 2, code := none }
def k1c1 : Code := { maxStack := 4, maxLocals := 3, code := method_2_code, exceptionTable := #[], attributes := #[] }
def k1m1 : Method := { name := "b", desc := "(JI)D", sig := { parameters := [.long, .int], returnType := some .double }, accessFlags := 10, code := some k1c1 }
def k1c2 : Code := { maxStack := 8, maxLocals := 33, code := code, exceptionTable := #[], attributes := #[] }
def k1m2 : Method := { name := "law", desc := "(JJI)Z", sig := { parameters := [.long, .long, .int], returnType := some .boolean }, accessFlags := 9, code := some k1c2 }
/-- com/example/differentia/differentia/problems/Cec2013TransformsRotatePinLaw -/
def k1 : Class := { plain "com/example/differentia/differentia/problems/Cec2013TransformsRotatePinLaw" (some 0) with
  accessFlags := 49
  interfaces := #[]
  cf := some (fileOf pool1 8 #[] #[{ accessFlags := 2, nameIndex := 5, descriptorIndex := 6, attributes := #[] }, { accessFlags := 10, nameIndex := 11, descriptorIndex := 12, attributes := #[] }, { accessFlags := 9, nameIndex := 21, descriptorIndex := 22, attributes := #[] }] 49 2 #[] #[])
  fields := #[]
  methods := #[k1m0, k1m1, k1m2]
  instanceTypes := #[]
  staticTypes := #[]
  resolved := Array.replicate 28 none
  statics := none }

def pool2 : Array CpInfo := pool [(2, .class_ 4), (1, u "java/lang/Object"), (0, u "<init>"), (0, u "()V"), (18, .class_ 27), (1, u "com/example/differentia/differentia/problems/Cec2013Transforms"), (35, u "([D[D)[D"), (4, u "rotate")] 5

def k2m0 : Method := { name := "<init>", desc := "()V", sig := { parameters := [], returnType := none }, accessFlags := 2, code := none }
def k2c1 : Code := { maxStack := 7, maxLocals := 8, code := prog_63_method_5_code, exceptionTable := #[], attributes := #[] }
def k2m1 : Method := { name := "rotate", desc := "([D[D)[D", sig := { parameters := [(.array .double), (.array .double)], returnType := some (.array .double) }, accessFlags := 8, code := some k2c1 }
/-- com/example/differentia/differentia/problems/Cec2013Transforms -/
def k2 : Class := { plain "com/example/differentia/differentia/problems/Cec2013Transforms" (some 0) with
  accessFlags := 48
  interfaces := #[]
  cf := some (fileOf pool2 25 #[] #[{ accessFlags := 2, nameIndex := 5, descriptorIndex := 6, attributes := #[] }, { accessFlags := 8, nameIndex := 68, descriptorIndex := 63, attributes := #[] }] 48 2 #[] #[])
  fields := #[]
  methods := #[k2m0, k2m1]
  instanceTypes := #[]
  staticTypes := #[]
  resolved := Array.replicate 74 none
  statics := none }

def pool3 : Array CpInfo := pool [(1, u "java/lang/Cloneable"), (0, .class_ 1), (0, u "java/lang/Object"), (0, .class_ 3)] 3

/-- java/lang/Cloneable -/
def k3 : Class := { plain "java/lang/Cloneable" (some 0) with
  accessFlags := 1537
  interfaces := #[]
  cf := some (fileOf pool3 2 #[] #[] 1537 4 #[] #[])
  fields := #[]
  methods := #[]
  instanceTypes := #[]
  staticTypes := #[]
  resolved := Array.replicate 8 none
  statics := none }

def pool4 : Array CpInfo := pool [(1, u "java/io/Serializable"), (0, .class_ 1), (0, u "java/lang/Object"), (0, .class_ 3)] 3

/-- java/io/Serializable -/
def k4 : Class := { plain "java/io/Serializable" (some 0) with
  accessFlags := 1537
  interfaces := #[]
  cf := some (fileOf pool4 2 #[] #[] 1537 4 #[] #[])
  fields := #[]
  methods := #[]
  instanceTypes := #[]
  staticTypes := #[]
  resolved := Array.replicate 8 none
  statics := none }

/-- the primitive byte -/
def k5 : Class := { plain "byte" none with kind := .primitive 'B', accessFlags := 0x411 }
/-- [B -/
def k6 : Class := { plain "[B" (some 0) with kind := .array 5 .byte, interfaces := #[3, 4], accessFlags := 1041 }

/-- the primitive double -/
def k7 : Class := { plain "double" none with kind := .primitive 'D', accessFlags := 0x411 }
/-- [D -/
def k8 : Class := { plain "[D" (some 0) with kind := .array 7 .double, interfaces := #[3, 4], accessFlags := 1041 }

/-- the primitive int -/
def k9 : Class := { plain "int" none with kind := .primitive 'I', accessFlags := 0x411 }
/-- [I -/
def k10 : Class := { plain "[I" (some 0) with kind := .array 9 .int, interfaces := #[3, 4], accessFlags := 1041 }

def heap : Heap := #[]
def classes : Array Class := #[k0, k1, k2, k3, k4, k5, k6, k7, k8, k9, k10]
def interned : List (Array UInt16 × Addr) := []
def slotsUsed : Nat := 0
def theMethod : MethodId := ⟨1, 2⟩
def args0 : Array Value := #[.long 3, .long 4, .int 5]
def aboutOver (below : List Frame) : State where
  vm := { classes := classes, interned := interned.toArray }
  heap := heap
  slotsUsed := slotsUsed
  threads := #[{ frames := .invoking theMethod args0 :: below }]
def below0 : List Frame := [.native { method := ⟨0, 0⟩, args := #[] }]
def about1 : State := aboutOver below0
def p0 : Program := .bare "" "" ""
def e0 : Env := launch0.env 0 0 0
theorem w_frames : about1.frames = Frame.invoking theMethod args0 :: below0 := rfl
set_option maxRecDepth 65536 in
theorem w_args : argsFit about1.vm theMethod args0 = true := by decide +kernel
set_option maxRecDepth 65536 in
theorem w_heap : heapFits about1 = true := by decide +kernel
set_option maxRecDepth 65536 in
theorem w_runnable : about1.curStatus? = some .runnable := by decide +kernel
set_option maxRecDepth 65536 in
theorem w_alone : about1.alone = true := by decide +kernel
set_option maxRecDepth 65536 in
theorem w_named : about1.methodNamed? x = some theMethod := by decide +kernel
set_option maxRecDepth 65536 in
theorem w_hears : about1.hears theMethod below0 = true := by decide +kernel
set_option maxRecDepth 65536 in
theorem w_ripe : about1.ripe theMethod args0 below0 = true := by decide +kernel
theorem w_running : about1.status = .running := rfl
set_option maxRecDepth 65536 in
theorem w_room : about1.hasRoom e0.platform room_1 = true :=
  launch0.hasRoom_least _ room_1 (by decide +kernel) (by decide +kernel) (by decide +kernel) (by decide +kernel) (by decide +kernel) (by decide +kernel)
theorem allAtoms_all (ts : List Jvm.Cond) (a : Array Jvm.Value) (st : Jvm.State) : (allAtoms ts).before a st = ts.all (fun c => c.before a st) := by
  induction ts with
  | nil => rfl
  | cons c t ih =>
    show (Jvm.Cond.and c (allAtoms t)).before a st = _
    rw [Jvm.Cond.before_and, ih, List.all_cons]
def words1 : List Jvm.Cond := Jvm.Cond.code x code maxLocals ret :: tables_1
/-- a 'code' word, met by the world's own term for the bytes: nothing is compared byte by byte -/
theorem code_word {y : MethodName} {bytes : ByteArray} {mx : Nat} {rt : Option FieldType} {a : Array Value} {s : State} {m : MethodId} {meth : Method} {c : Code} (h1 : s.methodNamed? y = some m) (h2 : s.vm.method? m = some meth) (h3 : meth.code = some c) (h4 : c.code = bytes)
    (h5 : (c.maxLocals == mx && c.exceptionTable.isEmpty && decide (c.maxStack ≤ mostOperands) && decide (meth.sig.returnType = rt) && !meth.locks && decide (parseMethodDescriptor y.desc = some meth.sig)) = true) : (Jvm.Cond.code y bytes mx rt).before a s = true := by
  simp only [Bool.and_eq_true, beq_iff_eq, Bool.not_eq_true', decide_eq_true_eq] at h5
  obtain ⟨⟨⟨⟨⟨g1, g2⟩, g3⟩, g4⟩, g5⟩, g6⟩ := h5
  simp [Cond.before, Cond.holds, Cond.value, h1, h2, h3, h4, g1, g2, g3, g4, g5, g6]
def isCode : Jvm.Cond → Bool
  | .code _ _ _ _ => true
  | _ => false
theorem all_split {L : List Jvm.Cond} {P : Jvm.Cond → Bool} (h1 : L.all (fun c => isCode c || P c) = true) (h2 : ∀ c ∈ L.filter isCode, P c = true) : L.all P = true := by
  refine List.all_eq_true.mpr fun c hc => ?_
  have h := List.all_eq_true.mp h1 c hc
  rcases Bool.eq_false_or_eq_true (isCode c) with hi | hi
  · exact h2 c (List.mem_filter.mpr ⟨hc, hi⟩)
  · simpa [hi] using h
set_option maxRecDepth 65536 in
theorem w_c0 : (Jvm.Cond.code x code maxLocals ret).before args0 about1 = true := code_word (m := ⟨1, 2⟩) (meth := k1m2) (c := k1c2) (by decide +kernel) rfl rfl rfl (by decide +kernel)
set_option maxRecDepth 65536 in
theorem w_c1 : (Jvm.Cond.code ({ cls := "com/example/differentia/differentia/problems/Cec2013TransformsRotatePinLaw", name := "b", desc := "(JI)D" } : Jvm.MethodName) method_2_code (3 : Nat) (Option.some Jvm.ClassFile.FieldType.double)).before args0 about1 = true := code_word (m := ⟨1, 1⟩) (meth := k1m1) (c := k1c1) (by decide +kernel) rfl rfl rfl (by decide +kernel)
set_option maxRecDepth 65536 in
theorem w_c2 : (Jvm.Cond.code ({ cls := "com/example/differentia/differentia/problems/Cec2013Transforms", name := "rotate", desc := "([D[D)[D" } : Jvm.MethodName) prog_63_method_5_code (8 : Nat) (Option.some (Jvm.ClassFile.FieldType.array Jvm.ClassFile.FieldType.double))).before args0 about1 = true := code_word (m := ⟨2, 1⟩) (meth := k2m1) (c := k2c1) (by decide +kernel) rfl rfl rfl (by decide +kernel)
def codes1 : List Jvm.Cond := [Jvm.Cond.code x code maxLocals ret, Jvm.Cond.code ({ cls := "com/example/differentia/differentia/problems/Cec2013TransformsRotatePinLaw", name := "b", desc := "(JI)D" } : Jvm.MethodName) method_2_code (3 : Nat) (Option.some Jvm.ClassFile.FieldType.double), Jvm.Cond.code ({ cls := "com/example/differentia/differentia/problems/Cec2013Transforms", name := "rotate", desc := "([D[D)[D" } : Jvm.MethodName) prog_63_method_5_code (8 : Nat) (Option.some (Jvm.ClassFile.FieldType.array Jvm.ClassFile.FieldType.double))]
set_option maxRecDepth 65536 in
theorem codes_eq : words1.filter isCode = codes1 := rfl
theorem w_codes : ∀ c ∈ words1.filter isCode, c.before args0 about1 = true := by
  rw [codes_eq]
  intro c hc
  simp only [codes1, List.mem_cons, List.not_mem_nil, or_false] at hc
  rcases hc with rfl | rfl | rfl
  · exact w_c0
  · exact w_c1
  · exact w_c2
set_option maxRecDepth 65536 in
theorem w_t1 : words1.all (fun c => isCode c || c.before args0 about1) = true := by decide +kernel
theorem w_tables : (allAtoms (Jvm.Cond.code x code maxLocals ret :: tables_1)).before args0 about1 = true := by
  rw [allAtoms_all]
  show words1.all (fun c => c.before args0 about1) = true
  refine all_split ?_ w_codes
  rw [w_t1]
set_option maxRecDepth 65536 in
theorem w_case : (Jvm.Cond.and given_1 narrow_1).before args0 about1 = true := by decide +kernel
theorem w_applies : (headSpec (Jvm.Cond.code x code maxLocals ret :: tables_1) room_1).applies x e0.platform about1 = true :=
  (Spec.applies_iff w_frames).mpr ⟨w_running, w_runnable, w_alone, w_named, w_hears, w_ripe, w_room, w_tables⟩
theorem atStart : AtStart classFile x code maxLocals ret World_1 tables_1 room_1 Calls_1 rest_1 Pre_1 launch0 p0 e0 about1 theMethod args0 below0 :=
  ⟨lists_1, trivial, launch0.admits_env _ _ _, launch0.least_env, fairChoices_fair.cas, fairChoices_fair.clock, w_frames, w_args, w_heap, w_applies, trivial, trivial, w_case⟩
end start1
theorem witness_1 : WitnessClaimed_1 := ⟨start1.p0, start1.e0, start1.about1, start1.theMethod, start1.args0, start1.below0, start1.atStart⟩
end Jvm.Pilot.@@N@@
