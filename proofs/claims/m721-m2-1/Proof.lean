import JvmDerived
import JvmDerived.Pilot.@@N@@Statement
import JvmDerived.Pilot.@@N@@Code
set_option linter.unusedVariables false
set_option linter.unusedSimpArgs false
namespace Jvm.Pilot.@@N@@
section OwnFP
open Jvm.FP.Core
/-! Exact doubles: own_Is x n e says that the double x is finite and worth n * 2^e. -/
def own_Is (x : UInt64) (n : Int) (e : Int) : Prop := DFin x ∧ -1074 ≤ e ∧ zval b64 (val64 x) = n * ((2 ^ (e + 1074).toNat : Nat) : Int)
theorem own_qmax : b64.qmax = 971 := by decide
theorem own_pp : b64.p = 53 := rfl
theorem own_powc {a b u v : Nat} (h : a * 2 ^ u = b * 2 ^ v) {w : Int} (hw : w = (u : Int) - v) : a * 2 ^ w.toNat = b * 2 ^ (-w).toNat := by
  subst hw
  have hu : u = ((u : Int) - v).toNat + min u v := by omega
  have hv : v = (-((u : Int) - v)).toNat + min u v := by omega
  have h2 : a * 2 ^ (((u : Int) - v).toNat + min u v) = b * 2 ^ ((-((u : Int) - v)).toNat + min u v) := by rw [← hu, ← hv]; exact h
  rw [Nat.pow_add, Nat.pow_add, ← Nat.mul_assoc, ← Nat.mul_assoc] at h2
  exact Nat.eq_of_mul_eq_mul_right (Nat.two_pow_pos _) h2
theorem own_signed_abs (s : Bool) (c : Nat) : (signed s c).natAbs = c := by cases s <;> simp [signed]
theorem own_signed_mul (s t : Bool) (c d : Nat) : signed (s != t) (c * d) = signed s c * signed t d := by
  cases s <;> cases t <;> simp [signed, Int.natCast_mul, Int.neg_mul, Int.mul_neg]
theorem own_signed_scale (s : Bool) (c d : Nat) : signed s (c * d) = signed s c * (d : Int) := by cases s <;> simp [signed, Int.natCast_mul, Int.neg_mul]
theorem own_round {s : Bool} {c : Nat} {q : Int} {M : Nat} {e : Int} (h2 : -2148 ≤ q) (hM : M < 9007199254740992) (he1 : -1074 ≤ e) (he2 : e ≤ 971) (h : inUnits c q (-2148) = M * 2 ^ (e + 2148).toNat) :
    ∃ c' q', round b64 (.fin s c q) = .fin s c' q' ∧ inUnits c' q' b64.qmin = M * 2 ^ (e + 1074).toNat := by
  have hq : b64.qmin = -1074 := qmin_b64
  obtain ⟨c', q', h1, h3⟩ := round_exact good_b64 s (c := M) (q := e) (show M < 2 ^ 53 from hM) (by rw [hq]; omega) (by rw [own_qmax]; omega)
  refine ⟨c', q', ?_, ?_⟩
  · rw [← h1]
    show roundRatio b64 s c 1 q = roundRatio b64 s M 1 e
    refine roundRatio_congr (by decide) (by decide) ?_
    unfold inUnits at h
    have h4 := own_powc (u := (q - -2148).toNat) (v := (e + 2148).toNat) h (w := q - e) (by omega)
    rw [Nat.mul_one, Nat.mul_one, h4, show -(q - e) = e - q by omega]
  · rw [h3]; unfold inUnits; rw [hq, show e - -1074 = e + 1074 by omega]
theorem own_fin_split {x : UInt64} {n e : Int} (h : own_Is x n e) : ∃ s c q, val64 x = .fin s c q ∧ Jvm.FP.Core.fits b64 (.fin s c q) ∧ signed s (inUnits c q b64.qmin) = n * ((2 ^ (e + 1074).toNat : Nat) : Int) ∧ -1074 ≤ q := by
  obtain ⟨⟨s, c, q, hv⟩, he, hz⟩ := h
  have hf := val64_fits x
  rw [hv] at hf hz
  have := hf.2.1
  rw [qmin_b64] at this
  exact ⟨s, c, q, hv, hf, hz, this⟩
theorem own_Is_of {x : UInt64} {s : Bool} {c : Nat} {q n e : Int} (hv : val64 x = .fin s c q) (he : -1074 ≤ e) (h : signed s (inUnits c q b64.qmin) = n * ((2 ^ (e + 1074).toNat : Nat) : Int)) : own_Is x n e :=
  ⟨⟨s, c, q, hv⟩, he, by rw [hv]; exact h⟩
theorem own_sum {s : Bool} {c : Nat} {q n e : Int} (hq : -1074 ≤ q) (hn : n.natAbs < 9007199254740992) (he1 : -1074 ≤ e) (he2 : e ≤ 971) (h : signed s (inUnits c q b64.qmin) = n * ((2 ^ (e + 1074).toNat : Nat) : Int)) :
    ∃ c' q', round b64 (.fin s c q) = .fin s c' q' ∧ signed s (inUnits c' q' b64.qmin) = n * ((2 ^ (e + 1074).toNat : Nat) : Int) := by
  have h1 : inUnits c q b64.qmin = n.natAbs * 2 ^ (e + 1074).toNat := by
    rw [← own_signed_abs s (inUnits c q b64.qmin), h, Int.natAbs_mul, Int.natAbs_natCast]
  have h2 : inUnits c q (-2148) = n.natAbs * 2 ^ (e + 2148).toNat := by
    rw [inUnits_move c (r := b64.qmin) (by rw [qmin_b64]; omega) (by rw [qmin_b64]; omega), h1, qmin_b64, Nat.mul_assoc, ← Nat.pow_add]
    congr 2; omega
  obtain ⟨c', q', h3, h4⟩ := own_round (s := s) (by omega) hn he1 he2 h2
  exact ⟨c', q', h3, by rw [h4, ← h1, h]⟩
theorem own_add {x y : UInt64} {m n e : Int} (hx : own_Is x m e) (hy : own_Is y n e) (he : e ≤ 971) (hb : (m + n).natAbs < 9007199254740992) : own_Is (dadd x y) (m + n) e := by
  have he1 := hx.2.1
  obtain ⟨s, c, q, vx, fx, zx, -⟩ := own_fin_split hx
  obtain ⟨t, d, r, vy, fy, zy, -⟩ := own_fin_split hy
  obtain ⟨sg, N, E, h1, h2, h3⟩ := sum_units fx fy
  have h4 : signed sg (inUnits N E b64.qmin) = (m + n) * ((2 ^ (e + 1074).toNat : Nat) : Int) := by
    rw [h3, Int.add_mul, ← zx, ← zy]; rfl
  obtain ⟨c', q', h5, h6⟩ := own_sum (by rw [qmin_b64] at h2; exact h2) hb he1 he h4
  exact own_Is_of (by rw [val64_dadd, vx, vy, h1, h5]) he1 h6
theorem own_sub {x y : UInt64} {m n e : Int} (hx : own_Is x m e) (hy : own_Is y n e) (he : e ≤ 971) (hb : (m - n).natAbs < 9007199254740992) : own_Is (dsub x y) (m - n) e := by
  have he1 := hx.2.1
  obtain ⟨s, c, q, vx, fx, zx, -⟩ := own_fin_split hx
  obtain ⟨t, d, r, vy, fy, zy, -⟩ := own_fin_split hy
  have fy' : Jvm.FP.Core.fits b64 (.fin (!t) d r) := fy
  obtain ⟨sg, N, E, h1, h2, h3⟩ := sum_units (t := !t) fx fy'
  have h4 : signed sg (inUnits N E b64.qmin) = (m - n) * ((2 ^ (e + 1074).toNat : Nat) : Int) := by
    rw [h3, Int.sub_mul, ← zx, ← zy]
    show signed s (inUnits c q b64.qmin) + signed (!t) (inUnits d r b64.qmin) = _
    rw [signed_not]; omega
  obtain ⟨c', q', h5, h6⟩ := own_sum (by rw [qmin_b64] at h2; exact h2) hb he1 he h4
  refine own_Is_of (s := sg) (c := c') (q := q') ?_ he1 h6
  rw [val64_dsub, vx, vy]
  show round b64 (exactSum (.fin s c q) (.fin (!t) d r)) = _
  rw [h1, h5]
theorem own_mul {x y : UInt64} {m n e1 e2 e : Int} (hx : own_Is x m e1) (hy : own_Is y n e2) (hee : e1 + e2 = e) (he1 : -1074 ≤ e) (he2 : e ≤ 971) (hb : (m * n).natAbs < 9007199254740992) : own_Is (dmul x y) (m * n) e := by
  subst hee
  have hx1 := hx.2.1
  have hy1 := hy.2.1
  obtain ⟨s, c, q, vx, fx, zx, qx⟩ := own_fin_split hx
  obtain ⟨t, d, r, vy, fy, zy, qy⟩ := own_fin_split hy
  obtain ⟨h1, h2, h3⟩ := product_units fx fy
  have hs : signed (s != t) (inUnits (c * d) (q + r) (-2148)) = (m * n) * ((2 ^ (e1 + e2 + 2148).toNat : Nat) : Int) := by
    have h4 : inUnits (c * d) (q + r) (-2148) = inUnits c q b64.qmin * inUnits d r b64.qmin := by
      have := h3
      rw [qmin_b64] at this ⊢
      exact this
    rw [h4, own_signed_mul, zx, zy, show (e1 + e2 + 2148).toNat = (e1 + 1074).toNat + (e2 + 1074).toNat by omega, Nat.pow_add, Int.natCast_mul]
    simp only [Int.mul_assoc, Int.mul_left_comm, Int.mul_comm]
  have h5 : inUnits (c * d) (q + r) (-2148) = (m * n).natAbs * 2 ^ (e1 + e2 + 2148).toNat := by
    rw [← own_signed_abs (s != t) (inUnits (c * d) (q + r) (-2148)), hs, Int.natAbs_mul, Int.natAbs_natCast]
  obtain ⟨c', q', h6, h7⟩ := own_round (s := (s != t)) (by omega) hb he1 he2 h5
  refine own_Is_of (s := (s != t)) (c := c') (q := q') (by rw [val64_dmul, vx, vy, h1, h6]) he1 ?_
  rw [h5, own_signed_scale] at hs
  have h8 : signed (s != t) (m * n).natAbs = m * n := Int.eq_of_mul_eq_mul_right (by have := Nat.two_pow_pos (e1 + e2 + 2148).toNat; omega) hs
  rw [h7, own_signed_scale, h8]
/-- the quotient of two exact doubles is the rounded ratio of their numbers -/
theorem own_divR {x y : UInt64} {m n e1 e2 : Int} (hx : own_Is x m e1) (hy : own_Is y n e2) (hn : n ≠ 0) :
    val64 (ddiv x y) = roundRatio b64 (sgn (val64 x) != sgn (val64 y)) m.natAbs n.natAbs (e1 - e2) ∧ signed (sgn (val64 x)) m.natAbs = m ∧ signed (sgn (val64 y)) n.natAbs = n := by
  have hx1 := hx.2.1
  have hy1 := hy.2.1
  obtain ⟨s, c, q, vx, fx, zx, qx⟩ := own_fin_split hx
  obtain ⟨t, d, r, vy, fy, zy, qy⟩ := own_fin_split hy
  have ax : inUnits c q b64.qmin = m.natAbs * 2 ^ (e1 + 1074).toNat := by
    rw [← own_signed_abs s (inUnits c q b64.qmin), zx, Int.natAbs_mul, Int.natAbs_natCast]
  have ay : inUnits d r b64.qmin = n.natAbs * 2 ^ (e2 + 1074).toNat := by
    rw [← own_signed_abs t (inUnits d r b64.qmin), zy, Int.natAbs_mul, Int.natAbs_natCast]
  have sx : signed s m.natAbs = m := by
    rw [ax, own_signed_scale] at zx
    exact Int.eq_of_mul_eq_mul_right (by have := Nat.two_pow_pos (e1 + 1074).toNat; omega) zx
  have sy : signed t n.natAbs = n := by
    rw [ay, own_signed_scale] at zy
    exact Int.eq_of_mul_eq_mul_right (by have := Nat.two_pow_pos (e2 + 1074).toNat; omega) zy
  have nn : n.natAbs ≠ 0 := by omega
  have hd : d ≠ 0 := by
    rintro rfl
    have : n.natAbs * 2 ^ (e2 + 1074).toNat = 0 := by rw [← ay]; unfold inUnits; simp
    rcases Nat.mul_eq_zero.mp this with h | h
    · exact nn h
    · have := Nat.two_pow_pos (e2 + 1074).toNat; omega
  refine ⟨?_, by rw [vx]; exact sx, by rw [vy]; exact sy⟩
  rw [val64_ddiv, vx, vy]
  show (if d = 0 then _ else roundRatio b64 (s != t) c d (q - r)) = roundRatio b64 (s != t) _ _ _
  rw [if_neg hd]
  refine roundRatio_congr (by omega) (by omega) ?_
  unfold inUnits at ax ay
  rw [qmin_b64] at ax ay
  have key : c * n.natAbs * 2 ^ ((q - -1074).toNat + (e2 + 1074).toNat) = m.natAbs * d * 2 ^ ((e1 + 1074).toNat + (r - -1074).toNat) := by
    have e3 : c * n.natAbs * 2 ^ ((q - -1074).toNat + (e2 + 1074).toNat) = (c * 2 ^ (q - -1074).toNat) * (n.natAbs * 2 ^ (e2 + 1074).toNat) := by
      rw [Nat.pow_add]; simp only [Nat.mul_assoc, Nat.mul_left_comm, Nat.mul_comm]
    rw [e3, ax, ← ay, Nat.pow_add]
    simp only [Nat.mul_assoc, Nat.mul_left_comm, Nat.mul_comm]
  have h4 := own_powc key (w := (q - r) - (e1 - e2)) (by omega)
  rw [h4, show -((q - r) - (e1 - e2)) = (e1 - e2) - (q - r) by omega]
theorem own_div {x y : UInt64} {m n N e1 e2 e : Int} (hx : own_Is x m e1) (hy : own_Is y n e2) (hn : n ≠ 0) (hm : m = N * n) (hee : e1 - e2 = e) (he1 : -1074 ≤ e) (he2 : e ≤ 971) (hb : N.natAbs < 9007199254740992) : own_Is (ddiv x y) N e := by
  subst hee
  obtain ⟨h1, h2, h3⟩ := own_divR hx hy hn
  have hq : b64.qmin = -1074 := qmin_b64
  obtain ⟨c', q', h5, h6⟩ := round_exact good_b64 (sgn (val64 x) != sgn (val64 y)) (c := N.natAbs) (q := e1 - e2) (show _ < 2 ^ 53 from hb) (by rw [hq]; omega) (by rw [own_qmax]; omega)
  refine own_Is_of (s := (sgn (val64 x) != sgn (val64 y))) (c := c') (q := q') ?_ he1 ?_
  · rw [h1, ← h5]
    show roundRatio _ _ _ _ _ = roundRatio b64 (sgn (val64 x) != sgn (val64 y)) N.natAbs 1 (e1 - e2)
    refine roundRatio_congr (by omega) (by decide) ?_
    rw [hm, Int.natAbs_mul]; simp
  · rw [h6]; unfold inUnits
    rw [hq, show e1 - e2 - -1074 = e1 - e2 + 1074 by omega, own_signed_scale]
    congr 1
    have h7 := own_signed_mul (sgn (val64 x)) (sgn (val64 y)) N.natAbs (n.natAbs * n.natAbs)
    have h8 : signed (sgn (val64 x) != sgn (val64 y)) (m.natAbs * n.natAbs) = m * n := by rw [own_signed_mul, h2, h3]
    rw [hm, Int.natAbs_mul, Nat.mul_assoc, own_signed_scale] at h8
    have h9 : ((n.natAbs * n.natAbs : Nat) : Int) = n * n := Int.natAbs_mul_self
    rw [h9, Int.mul_assoc] at h8
    refine Int.eq_of_mul_eq_mul_right ?_ h8
    intro h0
    rcases Int.mul_eq_zero.mp h0 with h | h <;> exact hn h
theorem own_shift {x : UInt64} {n e e' : Int} (j : Nat) (hx : own_Is x n e) (hj : e' = e - j) (he : -1074 ≤ e') : own_Is x (n * (2 ^ j : Nat)) e' := by
  subst hj
  refine ⟨hx.1, he, ?_⟩
  rw [hx.2.2, show (e + 1074).toNat = j + (e - j + 1074).toNat by omega, Nat.pow_add, Int.natCast_mul, ← Int.mul_assoc]
theorem own_nn {x : UInt64} {n e : Int} (h : own_Is x n e) : Jvm.Free.Fl.NoNaN64 x := Jvm.Free.Fl.noNaN64_no.mpr h.1.notNaN
theorem own_cmp {x y : UInt64} {m n e : Int} (hx : own_Is x m e) (hy : own_Is y n e) : dcmp x y = some (compare m n) := by
  rw [dcmp_zval hx.1.ne_nan hy.1.ne_nan, hx.2.2, hy.2.2]
  have hp : (0 : Int) < ((2 ^ (e + 1074).toNat : Nat) : Int) := by have := Nat.two_pow_pos (e + 1074).toNat; omega
  congr 1
  refine compare_congr ⟨fun h => Int.lt_of_mul_lt_mul_right h (Int.le_of_lt hp), fun h => Int.mul_lt_mul_of_pos_right h hp⟩ ⟨fun h => Int.eq_of_mul_eq_mul_right (Int.ne_of_gt hp) h, fun h => by rw [h]⟩
theorem own_i2d (a : Int32) : own_Is (i2d a) a.toInt 0 := by
  have h := i2d_int a
  refine ⟨?_, by decide, ?_⟩
  · rw [i2d_l2d]; exact l2d_fin _
  · rw [DInt_zval h]; rfl
theorem own_l2d {a : Int64} (h : a.toInt.natAbs ≤ 9007199254740992) : own_Is (l2d a) a.toInt 0 := by
  have h := l2d_int (a := a) h
  exact ⟨l2d_fin _, by decide, by rw [DInt_zval h]; rfl⟩
/-- with a bound on the number -/
def own_B (x : UInt64) (n e B : Int) : Prop := own_Is x n e ∧ -B ≤ n ∧ n ≤ B
theorem own_B.is {x : UInt64} {n e B : Int} (h : own_B x n e B) : own_Is x n e := h.1
theorem own_B.nn {x : UInt64} {n e B : Int} (h : own_B x n e B) : Jvm.Free.Fl.NoNaN64 x := own_nn h.1
theorem own_Badd {x y : UInt64} {m n e A B : Int} (hx : own_B x m e A) (hy : own_B y n e B) (h : (decide (e ≤ 971) && decide (A + B < 9007199254740992)) = true) : own_B (dadd x y) (m + n) e (A + B) := by
  simp only [Bool.and_eq_true, decide_eq_true_eq] at h
  have := hx.2; have := hy.2
  exact ⟨own_add hx.1 hy.1 h.1 (by omega), by omega, by omega⟩
theorem own_Bsub {x y : UInt64} {m n e A B : Int} (hx : own_B x m e A) (hy : own_B y n e B) (h : (decide (e ≤ 971) && decide (A + B < 9007199254740992)) = true) : own_B (dsub x y) (m - n) e (A + B) := by
  simp only [Bool.and_eq_true, decide_eq_true_eq] at h
  have := hx.2; have := hy.2
  exact ⟨own_sub hx.1 hy.1 h.1 (by omega), by omega, by omega⟩
theorem own_bmul {m n A B : Int} (hm : -A ≤ m ∧ m ≤ A) (hn : -B ≤ n ∧ n ≤ B) : -(A * B) ≤ m * n ∧ m * n ≤ A * B := by
  have h : (m * n).natAbs ≤ A.toNat * B.toNat := by rw [Int.natAbs_mul]; exact Nat.mul_le_mul (by omega) (by omega)
  have h2 : ((A.toNat * B.toNat : Nat) : Int) = A * B := by rw [Int.natCast_mul, Int.toNat_of_nonneg (by omega), Int.toNat_of_nonneg (by omega)]
  omega
theorem own_Bmul {x y : UInt64} {m n e1 e2 A B : Int} (hx : own_B x m e1 A) (hy : own_B y n e2 B) (h : (decide (-1074 ≤ e1 + e2) && decide (e1 + e2 ≤ 971) && decide (A * B < 9007199254740992)) = true) : own_B (dmul x y) (m * n) (e1 + e2) (A * B) := by
  simp only [Bool.and_eq_true, decide_eq_true_eq] at h
  have hb := own_bmul hx.2 hy.2
  exact ⟨own_mul hx.1 hy.1 rfl h.1.1 h.1.2 (by omega), hb⟩
/-- an exact quotient by a power of two (n = 1 in y = 1 * 2^e2) -/
theorem own_Bdiv {x y : UInt64} {m e1 e2 A : Int} (hx : own_B x m e1 A) (hy : own_Is y 1 e2) (h : (decide (-1074 ≤ e1 - e2) && decide (e1 - e2 ≤ 971) && decide (A < 9007199254740992)) = true) : own_B (ddiv x y) m (e1 - e2) A := by
  simp only [Bool.and_eq_true, decide_eq_true_eq] at h
  have := hx.2
  exact ⟨own_div hx.1 hy (by decide) (Int.mul_one _).symm rfl h.1.1 h.1.2 (by omega), hx.2⟩
theorem own_Bshift {x : UInt64} {n e A : Int} (j : Nat) (P : Int) (hx : own_B x n e A) (h : (decide (-1074 ≤ e - j) && decide (((2 ^ j : Nat) : Int) = P)) = true) : own_B x (n * P) (e - j) (A * P) := by
  simp only [Bool.and_eq_true, decide_eq_true_eq] at h
  obtain ⟨h, rfl⟩ := h
  refine ⟨own_shift j hx.1 rfl h, ?_⟩
  have hp : (0 : Int) ≤ (2 ^ j : Nat) := Int.natCast_nonneg _
  have := hx.2
  constructor
  · rw [← Int.neg_mul]; exact Int.mul_le_mul_of_nonneg_right this.1 hp
  · exact Int.mul_le_mul_of_nonneg_right this.2 hp
theorem own_Bcast {x : UInt64} {n n' e e' A A' : Int} (h : own_B x n e A) (hn : n = n') (he : e = e') (hA : A ≤ A') : own_B x n' e' A' := by
  subst hn he; exact ⟨h.1, by have := h.2; omega, by have := h.2; omega⟩
theorem own_eq0 {x y : UInt64} {m n e : Int} (hx : own_Is x m e) (hy : own_Is y n e) (h : m = n) (o : ClassFile.CmpOp) : Op.cmpValue (Jvm.FP.dcmp x y) o = 0 := by
  show Op.cmpValue (dcmp x y) o = 0
  subst h
  rw [own_cmp hx hy, show compare m m = .eq from (compare_eq_iff m m).mpr rfl]; cases o <;> rfl
theorem own_cmpv {x y : UInt64} {m n e : Int} (hx : own_Is x m e) (hy : own_Is y n e) (o : ClassFile.CmpOp) : (m < n → Op.cmpValue (Jvm.FP.dcmp x y) o = -1) ∧ (m = n → Op.cmpValue (Jvm.FP.dcmp x y) o = 0) ∧ (n < m → Op.cmpValue (Jvm.FP.dcmp x y) o = 1) := by
  refine ⟨fun h => ?_, fun h => own_eq0 hx hy h o, fun h => ?_⟩
  · show Op.cmpValue (dcmp x y) o = -1
    rw [own_cmp hx hy, (compare_lt_iff m n).mpr h]; cases o <;> rfl
  · show Op.cmpValue (dcmp x y) o = 1
    rw [own_cmp hx hy, (compare_gt_iff m n).mpr h]; cases o <;> rfl
theorem own_one : own_Is 4607182418800017408 1 0 := ⟨(fin_bits _).mpr (by decide), by decide, by decide +kernel⟩
theorem own_zero : own_Is 0 0 0 := ⟨(fin_bits _).mpr (by decide), by decide, by decide +kernel⟩
/-! ints and longs with their numbers and bounds -/
def own_I (v : Int32) (n B : Int) : Prop := v.toInt = n ∧ -B ≤ n ∧ n ≤ B
def own_L (v : Int64) (n B : Int) : Prop := v.toInt = n ∧ -B ≤ n ∧ n ≤ B
theorem own_Iadd {a b v : Int32} {m n A B : Int} (hv : a + b = v) (ha : own_I a m A) (hb : own_I b n B) (h : decide (A + B < 2147483648) = true) : own_I v (m + n) (A + B) := by
  subst hv; simp only [decide_eq_true_eq] at h; obtain ⟨rfl, h1, h2⟩ := ha; obtain ⟨rfl, h3, h4⟩ := hb
  exact ⟨by rw [Int32.toInt_add]; exact Int.bmod_eq_of_le (by omega) (by omega), by omega, by omega⟩
theorem own_Isub {a b v : Int32} {m n A B : Int} (hv : a - b = v) (ha : own_I a m A) (hb : own_I b n B) (h : decide (A + B < 2147483648) = true) : own_I v (m - n) (A + B) := by
  subst hv; simp only [decide_eq_true_eq] at h; obtain ⟨rfl, h1, h2⟩ := ha; obtain ⟨rfl, h3, h4⟩ := hb
  exact ⟨by rw [Int32.toInt_sub]; exact Int.bmod_eq_of_le (by omega) (by omega), by omega, by omega⟩
theorem own_Imul {a b v : Int32} {m n A B : Int} (hv : a * b = v) (ha : own_I a m A) (hb : own_I b n B) (h : decide (A * B < 2147483648) = true) : own_I v (m * n) (A * B) := by
  subst hv; simp only [decide_eq_true_eq] at h; obtain ⟨rfl, h1⟩ := ha; obtain ⟨rfl, h3⟩ := hb
  have hb := own_bmul h1 h3
  exact ⟨by rw [Int32.toInt_mul]; exact Int.bmod_eq_of_le (by omega) (by omega), hb⟩
theorem own_Ladd {a b v : Int64} {m n A B : Int} (hv : a + b = v) (ha : own_L a m A) (hb : own_L b n B) (h : decide (A + B < 9223372036854775808) = true) : own_L v (m + n) (A + B) := by
  subst hv; simp only [decide_eq_true_eq] at h; obtain ⟨rfl, h1, h2⟩ := ha; obtain ⟨rfl, h3, h4⟩ := hb
  exact ⟨by rw [Int64.toInt_add]; exact Int.bmod_eq_of_le (by omega) (by omega), by omega, by omega⟩
theorem own_Lsub {a b v : Int64} {m n A B : Int} (hv : a - b = v) (ha : own_L a m A) (hb : own_L b n B) (h : decide (A + B < 9223372036854775808) = true) : own_L v (m - n) (A + B) := by
  subst hv; simp only [decide_eq_true_eq] at h; obtain ⟨rfl, h1, h2⟩ := ha; obtain ⟨rfl, h3, h4⟩ := hb
  exact ⟨by rw [Int64.toInt_sub]; exact Int.bmod_eq_of_le (by omega) (by omega), by omega, by omega⟩
theorem own_Lmul {a b v : Int64} {m n A B : Int} (hv : a * b = v) (ha : own_L a m A) (hb : own_L b n B) (h : decide (A * B < 9223372036854775808) = true) : own_L v (m * n) (A * B) := by
  subst hv; simp only [decide_eq_true_eq] at h; obtain ⟨rfl, h1⟩ := ha; obtain ⟨rfl, h3⟩ := hb
  have hb := own_bmul h1 h3
  exact ⟨by rw [Int64.toInt_mul]; exact Int.bmod_eq_of_le (by omega) (by omega), hb⟩
theorem own_Ii2l {a : Int32} {v : Int64} {m A : Int} (hv : Int32.toInt64 a = v) (ha : own_I a m A) : own_L v m A := by
  subst hv; exact ⟨by rw [Int32.toInt_toInt64]; exact ha.1, ha.2⟩
theorem own_Icast {v : Int32} {n n' A A' : Int} (h : own_I v n A) (hn : n = n') (hA : A ≤ A') : own_I v n' A' := by
  subst hn; exact ⟨h.1, by have := h.2; omega, by have := h.2; omega⟩
theorem own_Lcast {v : Int64} {n n' A A' : Int} (h : own_L v n A) (hn : n = n') (hA : A ≤ A') : own_L v n' A' := by
  subst hn; exact ⟨h.1, by have := h.2; omega, by have := h.2; omega⟩
theorem own_Bi2d {v : Int32} {n A : Int} (h : own_I v n A) : own_B (i2d v) n 0 A := by
  obtain ⟨rfl, h1⟩ := h; exact ⟨own_i2d v, h1⟩
theorem own_Bl2d {v : Int64} {n A : Int} (h : own_L v n A) (hA : decide (A ≤ 9007199254740992) = true) : own_B (l2d v) n 0 A := by
  simp only [decide_eq_true_eq] at hA; obtain ⟨rfl, h1⟩ := h; exact ⟨own_l2d (by omega), h1⟩
theorem own_Irng (v : Int32) : own_I v v.toInt 2147483648 := ⟨rfl, by have := Jvm.RoadKit.rng32 v; omega, by have := Jvm.RoadKit.rng32 v; omega⟩
theorem own_Iand {x m v : Int32} {B : Int} (hv : x &&& m = v) (hB : m.toInt = B) (h0 : 0 ≤ B) : own_I v v.toInt B := by
  have := Jvm.RoadKit.c_and x m (by omega); rw [hv] at this; exact ⟨rfl, by omega, by omega⟩
end OwnFP
section OwnStep
open Jvm Jvm.ClassFile Sem Op Lib Jvm.Free Jvm.Stand Jvm.LawKit Jvm.RoadKit
variable {tb : Tables} [Ours tb] {e : Env} {below : List Frame} {T target : State} {m : MethodId} {c : Code} {pc pc' : Nat} {L : Array Slot} {S : List Value}
theorem own_s_iadd (h : At T m c below) (hx : tb.exec = Jvm.exec) {x y v : Int32} (hd : decode c.code pc = .ok (.iadd, 1)) (hp : pc + 1 = pc') (hv : x + y = v)
    (hr : Steps tb e below (T.setTop (mkF m pc' L (.int v :: S))) target) : Steps tb e below (T.setTop (mkF m pc L (.int y :: .int x :: S))) target := by
  subst hv hp; exact XS.iadd h hx rfl hd rfl hr
theorem own_s_ladd (h : At T m c below) (hx : tb.exec = Jvm.exec) {x y v : Int64} (hd : decode c.code pc = .ok (.ladd, 1)) (hp : pc + 1 = pc') (hv : x + y = v)
    (hr : Steps tb e below (T.setTop (mkF m pc' L (.long v :: S))) target) : Steps tb e below (T.setTop (mkF m pc L (.long y :: .long x :: S))) target := by
  subst hv hp; exact XS.ladd h hx rfl hd rfl hr
theorem own_s_isub (h : At T m c below) (hx : tb.exec = Jvm.exec) {x y v : Int32} (hd : decode c.code pc = .ok (.isub, 1)) (hp : pc + 1 = pc') (hv : x - y = v)
    (hr : Steps tb e below (T.setTop (mkF m pc' L (.int v :: S))) target) : Steps tb e below (T.setTop (mkF m pc L (.int y :: .int x :: S))) target := by
  subst hv hp; exact XS.isub h hx rfl hd rfl hr
theorem own_s_lsub (h : At T m c below) (hx : tb.exec = Jvm.exec) {x y v : Int64} (hd : decode c.code pc = .ok (.lsub, 1)) (hp : pc + 1 = pc') (hv : x - y = v)
    (hr : Steps tb e below (T.setTop (mkF m pc' L (.long v :: S))) target) : Steps tb e below (T.setTop (mkF m pc L (.long y :: .long x :: S))) target := by
  subst hv hp; exact XS.lsub h hx rfl hd rfl hr
theorem own_s_imul (h : At T m c below) (hx : tb.exec = Jvm.exec) {x y v : Int32} (hd : decode c.code pc = .ok (.imul, 1)) (hp : pc + 1 = pc') (hv : x * y = v)
    (hr : Steps tb e below (T.setTop (mkF m pc' L (.int v :: S))) target) : Steps tb e below (T.setTop (mkF m pc L (.int y :: .int x :: S))) target := by
  subst hv hp; exact XS.imul h hx rfl hd rfl hr
theorem own_s_lmul (h : At T m c below) (hx : tb.exec = Jvm.exec) {x y v : Int64} (hd : decode c.code pc = .ok (.lmul, 1)) (hp : pc + 1 = pc') (hv : x * y = v)
    (hr : Steps tb e below (T.setTop (mkF m pc' L (.long v :: S))) target) : Steps tb e below (T.setTop (mkF m pc L (.long y :: .long x :: S))) target := by
  subst hv hp; exact XS.lmul h hx rfl hd rfl hr
theorem own_s_iand (h : At T m c below) (hx : tb.exec = Jvm.exec) {x y v : Int32} (hd : decode c.code pc = .ok (.iand, 1)) (hp : pc + 1 = pc') (hv : x &&& y = v)
    (hr : Steps tb e below (T.setTop (mkF m pc' L (.int v :: S))) target) : Steps tb e below (T.setTop (mkF m pc L (.int y :: .int x :: S))) target := by
  subst hv hp; exact XS.iand h hx rfl hd rfl hr
theorem own_s_land (h : At T m c below) (hx : tb.exec = Jvm.exec) {x y v : Int64} (hd : decode c.code pc = .ok (.land, 1)) (hp : pc + 1 = pc') (hv : x &&& y = v)
    (hr : Steps tb e below (T.setTop (mkF m pc' L (.long v :: S))) target) : Steps tb e below (T.setTop (mkF m pc L (.long y :: .long x :: S))) target := by
  subst hv hp; exact XS.land h hx rfl hd rfl hr
theorem own_s_ior (h : At T m c below) (hx : tb.exec = Jvm.exec) {x y v : Int32} (hd : decode c.code pc = .ok (.ior, 1)) (hp : pc + 1 = pc') (hv : x ||| y = v)
    (hr : Steps tb e below (T.setTop (mkF m pc' L (.int v :: S))) target) : Steps tb e below (T.setTop (mkF m pc L (.int y :: .int x :: S))) target := by
  subst hv hp; exact XS.ior h hx rfl hd rfl hr
theorem own_s_lor (h : At T m c below) (hx : tb.exec = Jvm.exec) {x y v : Int64} (hd : decode c.code pc = .ok (.lor, 1)) (hp : pc + 1 = pc') (hv : x ||| y = v)
    (hr : Steps tb e below (T.setTop (mkF m pc' L (.long v :: S))) target) : Steps tb e below (T.setTop (mkF m pc L (.long y :: .long x :: S))) target := by
  subst hv hp; exact XS.lor h hx rfl hd rfl hr
theorem own_s_ixor (h : At T m c below) (hx : tb.exec = Jvm.exec) {x y v : Int32} (hd : decode c.code pc = .ok (.ixor, 1)) (hp : pc + 1 = pc') (hv : x ^^^ y = v)
    (hr : Steps tb e below (T.setTop (mkF m pc' L (.int v :: S))) target) : Steps tb e below (T.setTop (mkF m pc L (.int y :: .int x :: S))) target := by
  subst hv hp; exact XS.ixor h hx rfl hd rfl hr
theorem own_s_lxor (h : At T m c below) (hx : tb.exec = Jvm.exec) {x y v : Int64} (hd : decode c.code pc = .ok (.lxor, 1)) (hp : pc + 1 = pc') (hv : x ^^^ y = v)
    (hr : Steps tb e below (T.setTop (mkF m pc' L (.long v :: S))) target) : Steps tb e below (T.setTop (mkF m pc L (.long y :: .long x :: S))) target := by
  subst hv hp; exact XS.lxor h hx rfl hd rfl hr
theorem own_s_idiv (h : At T m c below) (hx : tb.exec = Jvm.exec) {x y v : Int32} (hd : decode c.code pc = .ok (.idiv, 1)) (hp : pc + 1 = pc') (hy : y ≠ 0) (hv : x / y = v)
    (hr : Steps tb e below (T.setTop (mkF m pc' L (.int v :: S))) target) : Steps tb e below (T.setTop (mkF m pc L (.int y :: .int x :: S))) target := by
  subst hv hp; exact XS.idiv h hx rfl hd rfl hy hr
theorem own_s_irem (h : At T m c below) (hx : tb.exec = Jvm.exec) {x y v : Int32} (hd : decode c.code pc = .ok (.irem, 1)) (hp : pc + 1 = pc') (hy : y ≠ 0) (hv : x % y = v)
    (hr : Steps tb e below (T.setTop (mkF m pc' L (.int v :: S))) target) : Steps tb e below (T.setTop (mkF m pc L (.int y :: .int x :: S))) target := by
  subst hv hp; rw [← irem_eq_mod] at hr; exact XS.irem h hx rfl hd rfl hy hr
theorem own_s_ldiv (h : At T m c below) (hx : tb.exec = Jvm.exec) {x y v : Int64} (hd : decode c.code pc = .ok (.ldiv, 1)) (hp : pc + 1 = pc') (hy : y ≠ 0) (hv : x / y = v)
    (hr : Steps tb e below (T.setTop (mkF m pc' L (.long v :: S))) target) : Steps tb e below (T.setTop (mkF m pc L (.long y :: .long x :: S))) target := by
  subst hv hp; exact XS.ldiv h hx rfl hd rfl hy hr
theorem own_s_lrem (h : At T m c below) (hx : tb.exec = Jvm.exec) {x y v : Int64} (hd : decode c.code pc = .ok (.lrem, 1)) (hp : pc + 1 = pc') (hy : y ≠ 0) (hv : x % y = v)
    (hr : Steps tb e below (T.setTop (mkF m pc' L (.long v :: S))) target) : Steps tb e below (T.setTop (mkF m pc L (.long y :: .long x :: S))) target := by
  subst hv hp; rw [← lrem_mod] at hr; exact XS.lrem h hx rfl hd rfl hy hr
theorem own_s_ishl (h : At T m c below) (hx : tb.exec = Jvm.exec) {x y v : Int32} (hd : decode c.code pc = .ok (.ishl, 1)) (hp : pc + 1 = pc') (hv : x <<< (y &&& 31) = v)
    (hr : Steps tb e below (T.setTop (mkF m pc' L (.int v :: S))) target) : Steps tb e below (T.setTop (mkF m pc L (.int y :: .int x :: S))) target := by
  subst hv hp; exact XS.ishl h hx rfl hd rfl hr
theorem own_s_ishr (h : At T m c below) (hx : tb.exec = Jvm.exec) {x y v : Int32} (hd : decode c.code pc = .ok (.ishr, 1)) (hp : pc + 1 = pc') (hv : x >>> (y &&& 31) = v)
    (hr : Steps tb e below (T.setTop (mkF m pc' L (.int v :: S))) target) : Steps tb e below (T.setTop (mkF m pc L (.int y :: .int x :: S))) target := by
  subst hv hp; exact XS.ishr h hx rfl hd rfl hr
theorem own_s_iushr (h : At T m c below) (hx : tb.exec = Jvm.exec) {x y v : Int32} (hd : decode c.code pc = .ok (.iushr, 1)) (hp : pc + 1 = pc') (hv : (x.toUInt32 >>> (y &&& 31).toUInt32).toInt32 = v)
    (hr : Steps tb e below (T.setTop (mkF m pc' L (.int v :: S))) target) : Steps tb e below (T.setTop (mkF m pc L (.int y :: .int x :: S))) target := by
  subst hv hp; exact XS.iushr h hx rfl hd rfl hr
theorem own_s_lshl (h : At T m c below) (hx : tb.exec = Jvm.exec) {x v : Int64} {y : Int32} (hd : decode c.code pc = .ok (.lshl, 1)) (hp : pc + 1 = pc') (hv : x <<< (y &&& 63).toInt64 = v)
    (hr : Steps tb e below (T.setTop (mkF m pc' L (.long v :: S))) target) : Steps tb e below (T.setTop (mkF m pc L (.int y :: .long x :: S))) target := by
  subst hv hp; exact XS.lshl h hx rfl hd rfl hr
theorem own_s_lshr (h : At T m c below) (hx : tb.exec = Jvm.exec) {x v : Int64} {y : Int32} (hd : decode c.code pc = .ok (.lshr, 1)) (hp : pc + 1 = pc') (hv : x >>> (y &&& 63).toInt64 = v)
    (hr : Steps tb e below (T.setTop (mkF m pc' L (.long v :: S))) target) : Steps tb e below (T.setTop (mkF m pc L (.int y :: .long x :: S))) target := by
  subst hv hp; exact XS.lshr h hx rfl hd rfl hr
theorem own_s_lushr (h : At T m c below) (hx : tb.exec = Jvm.exec) {x v : Int64} {y : Int32} (hd : decode c.code pc = .ok (.lushr, 1)) (hp : pc + 1 = pc') (hv : (x.toUInt64 >>> (y &&& 63).toInt64.toUInt64).toInt64 = v)
    (hr : Steps tb e below (T.setTop (mkF m pc' L (.long v :: S))) target) : Steps tb e below (T.setTop (mkF m pc L (.int y :: .long x :: S))) target := by
  subst hv hp; exact XS.lushr h hx rfl hd rfl hr
theorem own_s_i2l (h : At T m c below) (hx : tb.exec = Jvm.exec) {x : Int32} {v : Int64} (hd : decode c.code pc = .ok (.i2l, 1)) (hp : pc + 1 = pc') (hv : x.toInt64 = v)
    (hr : Steps tb e below (T.setTop (mkF m pc' L (.long v :: S))) target) : Steps tb e below (T.setTop (mkF m pc L (.int x :: S))) target := by
  subst hv hp; exact XS.i2l h hx rfl hd rfl hr
theorem own_s_l2i (h : At T m c below) (hx : tb.exec = Jvm.exec) {x : Int64} {v : Int32} (hd : decode c.code pc = .ok (.l2i, 1)) (hp : pc + 1 = pc') (hv : x.toInt32 = v)
    (hr : Steps tb e below (T.setTop (mkF m pc' L (.int v :: S))) target) : Steps tb e below (T.setTop (mkF m pc L (.long x :: S))) target := by
  subst hv hp; exact XS.l2i h hx rfl hd rfl hr
theorem own_s_i2b (h : At T m c below) (hx : tb.exec = Jvm.exec) {x : Int32} {v : Int32} (hd : decode c.code pc = .ok (.i2b, 1)) (hp : pc + 1 = pc') (hv : x.toInt8.toInt32 = v)
    (hr : Steps tb e below (T.setTop (mkF m pc' L (.int v :: S))) target) : Steps tb e below (T.setTop (mkF m pc L (.int x :: S))) target := by
  subst hv hp; exact XS.i2b h hx rfl hd rfl hr
theorem own_s_i2s (h : At T m c below) (hx : tb.exec = Jvm.exec) {x : Int32} {v : Int32} (hd : decode c.code pc = .ok (.i2s, 1)) (hp : pc + 1 = pc') (hv : x.toInt16.toInt32 = v)
    (hr : Steps tb e below (T.setTop (mkF m pc' L (.int v :: S))) target) : Steps tb e below (T.setTop (mkF m pc L (.int x :: S))) target := by
  subst hv hp; exact XS.i2s h hx rfl hd rfl hr
theorem own_s_ineg (h : At T m c below) (hx : tb.exec = Jvm.exec) {x : Int32} {v : Int32} (hd : decode c.code pc = .ok (.ineg, 1)) (hp : pc + 1 = pc') (hv : -x = v)
    (hr : Steps tb e below (T.setTop (mkF m pc' L (.int v :: S))) target) : Steps tb e below (T.setTop (mkF m pc L (.int x :: S))) target := by
  subst hv hp; exact XS.ineg h hx rfl hd rfl hr
theorem own_s_lneg (h : At T m c below) (hx : tb.exec = Jvm.exec) {x : Int64} {v : Int64} (hd : decode c.code pc = .ok (.lneg, 1)) (hp : pc + 1 = pc') (hv : -x = v)
    (hr : Steps tb e below (T.setTop (mkF m pc' L (.long v :: S))) target) : Steps tb e below (T.setTop (mkF m pc L (.long x :: S))) target := by
  subst hv hp; exact XS.lneg h hx rfl hd rfl hr
theorem own_s_i2d (h : At T m c below) (hx : tb.exec = Jvm.exec) {x : Int32} {v : UInt64} (hd : decode c.code pc = .ok (.i2d, 1)) (hp : pc + 1 = pc') (hv : FP.i2d x = v)
    (hr : Steps tb e below (T.setTop (mkF m pc' L (.double v :: S))) target) : Steps tb e below (T.setTop (mkF m pc L (.int x :: S))) target := by
  subst hv hp; exact XS.i2dS h hx rfl hd rfl rfl hr
theorem own_s_l2d (h : At T m c below) (hx : tb.exec = Jvm.exec) {x : Int64} {v : UInt64} (hd : decode c.code pc = .ok (.l2d, 1)) (hp : pc + 1 = pc') (hv : FP.l2d x = v)
    (hr : Steps tb e below (T.setTop (mkF m pc' L (.double v :: S))) target) : Steps tb e below (T.setTop (mkF m pc L (.long x :: S))) target := by
  subst hv hp; exact XS.l2dS h hx rfl hd rfl rfl hr
theorem own_s_dneg (h : At T m c below) (hx : tb.exec = Jvm.exec) {x : UInt64} {v : UInt64} (hd : decode c.code pc = .ok (.dneg, 1)) (hp : pc + 1 = pc') (hv : FP.dneg x = v)
    (hr : Steps tb e below (T.setTop (mkF m pc' L (.double v :: S))) target) : Steps tb e below (T.setTop (mkF m pc L (.double x :: S))) target := by
  subst hv hp; exact XS.dnegS h hx rfl hd rfl rfl hr
theorem own_s_dadd (h : At T m c below) (hx : tb.exec = Jvm.exec) {x y v : UInt64} (hd : decode c.code pc = .ok (.dadd, 1)) (hp : pc + 1 = pc') (hn : Jvm.Free.Fl.NoNaN64 (FP.dadd x y)) (hv : FP.dadd x y = v)
    (hr : Steps tb e below (T.setTop (mkF m pc' L (.double v :: S))) target) : Steps tb e below (T.setTop (mkF m pc L (.double y :: .double x :: S))) target := by
  subst hv hp; exact XS.daddS h hx rfl hd rfl hn rfl hr
theorem own_s_dsub (h : At T m c below) (hx : tb.exec = Jvm.exec) {x y v : UInt64} (hd : decode c.code pc = .ok (.dsub, 1)) (hp : pc + 1 = pc') (hn : Jvm.Free.Fl.NoNaN64 (FP.dsub x y)) (hv : FP.dsub x y = v)
    (hr : Steps tb e below (T.setTop (mkF m pc' L (.double v :: S))) target) : Steps tb e below (T.setTop (mkF m pc L (.double y :: .double x :: S))) target := by
  subst hv hp; exact XS.dsubS h hx rfl hd rfl hn rfl hr
theorem own_s_dmul (h : At T m c below) (hx : tb.exec = Jvm.exec) {x y v : UInt64} (hd : decode c.code pc = .ok (.dmul, 1)) (hp : pc + 1 = pc') (hn : Jvm.Free.Fl.NoNaN64 (FP.dmul x y)) (hv : FP.dmul x y = v)
    (hr : Steps tb e below (T.setTop (mkF m pc' L (.double v :: S))) target) : Steps tb e below (T.setTop (mkF m pc L (.double y :: .double x :: S))) target := by
  subst hv hp; exact XS.dmulS h hx rfl hd rfl hn rfl hr
theorem own_s_ddiv (h : At T m c below) (hx : tb.exec = Jvm.exec) {x y v : UInt64} (hd : decode c.code pc = .ok (.ddiv, 1)) (hp : pc + 1 = pc') (hn : Jvm.Free.Fl.NoNaN64 (FP.ddiv x y)) (hv : FP.ddiv x y = v)
    (hr : Steps tb e below (T.setTop (mkF m pc' L (.double v :: S))) target) : Steps tb e below (T.setTop (mkF m pc L (.double y :: .double x :: S))) target := by
  subst hv hp; exact XS.ddivS h hx rfl hd rfl hn rfl hr
theorem own_s_dcmp (h : At T m c below) (hx : tb.exec = Jvm.exec) {o : CmpOp} {x y : UInt64} {v : Int32} (hd : decode c.code pc = .ok (.dcmp o, 1)) (hp : pc + 1 = pc') (hv : Op.cmpValue (FP.dcmp x y) o = v)
    (hr : Steps tb e below (T.setTop (mkF m pc' L (.int v :: S))) target) : Steps tb e below (T.setTop (mkF m pc L (.double y :: .double x :: S))) target := by
  subst hv hp; exact XS.dcmpS h hx rfl hd rfl rfl hr
theorem own_s_lcmp (h : At T m c below) (hx : tb.exec = Jvm.exec) {x y : Int64} {v : Int32} (hd : decode c.code pc = .ok (.lcmp, 1)) (hp : pc + 1 = pc') (hv : lcmpW x y = v)
    (hr : Steps tb e below (T.setTop (mkF m pc' L (.int v :: S))) target) : Steps tb e below (T.setTop (mkF m pc L (.long y :: .long x :: S))) target := by
  subst hv hp; exact XS.lcmp h hx rfl hd rfl hr
theorem own_s_iconst (h : At T m c below) (hx : tb.exec = Jvm.exec) {i : Int} {v : Int32} (hd : decode c.code pc = .ok (.iconst i, 1)) (hp : pc + 1 = pc') (hv : Int32.ofInt i = v)
    (hr : Steps tb e below (T.setTop (mkF m pc' L (.int v :: S))) target) : Steps tb e below (T.setTop (mkF m pc L S)) target := by
  subst hv hp; exact XS.iconst h hx rfl hd hr
theorem own_s_bipush (h : At T m c below) (hx : tb.exec = Jvm.exec) {i : Int} {v : Int32} (hd : decode c.code pc = .ok (.bipush i, 2)) (hp : pc + 2 = pc') (hv : (Int8.ofInt i).toInt32 = v)
    (hr : Steps tb e below (T.setTop (mkF m pc' L (.int v :: S))) target) : Steps tb e below (T.setTop (mkF m pc L S)) target := by
  subst hv hp; exact XS.bipush h hx rfl hd hr
theorem own_s_sipush (h : At T m c below) (hx : tb.exec = Jvm.exec) {i : Int} {v : Int32} (hd : decode c.code pc = .ok (.sipush i, 3)) (hp : pc + 3 = pc') (hv : (Int16.ofInt i).toInt32 = v)
    (hr : Steps tb e below (T.setTop (mkF m pc' L (.int v :: S))) target) : Steps tb e below (T.setTop (mkF m pc L S)) target := by
  subst hv hp; exact XS.sipush h hx rfl hd hr
theorem own_s_lconst (h : At T m c below) (hx : tb.exec = Jvm.exec) {k : Fin 2} {v : Int64} (hd : decode c.code pc = .ok (.lconst k, 1)) (hp : pc + 1 = pc') (hv : Int64.ofNat k = v)
    (hr : Steps tb e below (T.setTop (mkF m pc' L (.long v :: S))) target) : Steps tb e below (T.setTop (mkF m pc L S)) target := by
  subst hv hp; exact XS.lconst h hx rfl hd hr
theorem own_s_dconst0 (h : At T m c below) (hx : tb.exec = Jvm.exec)  (hd : decode c.code pc = .ok (.dconst 0, 1)) (hp : pc + 1 = pc') 
    (hr : Steps tb e below (T.setTop (mkF m pc' L (.double 0 :: S))) target) : Steps tb e below (T.setTop (mkF m pc L S)) target := by
  subst hp; exact XS.dconst0 h hx rfl hd rfl hr
theorem own_s_dconst1 (h : At T m c below) (hx : tb.exec = Jvm.exec)  (hd : decode c.code pc = .ok (.dconst 1, 1)) (hp : pc + 1 = pc') 
    (hr : Steps tb e below (T.setTop (mkF m pc' L (.double 4607182418800017408 :: S))) target) : Steps tb e below (T.setTop (mkF m pc L S)) target := by
  subst hp; exact XS.dconst1 h hx rfl hd rfl hr
theorem own_s_aconst_null (h : At T m c below) (hx : tb.exec = Jvm.exec)  (hd : decode c.code pc = .ok (.aconst_null, 1)) (hp : pc + 1 = pc') 
    (hr : Steps tb e below (T.setTop (mkF m pc' L (.null :: S))) target) : Steps tb e below (T.setTop (mkF m pc L S)) target := by
  subst hp; exact XS.aconstNull h hx rfl hd hr
theorem own_s_dup (h : At T m c below) (hx : tb.exec = Jvm.exec) {x : Value} (hd : decode c.code pc = .ok (.dup, 1)) (hp : pc + 1 = pc') (hc : x.category = 1)
    (hr : Steps tb e below (T.setTop (mkF m pc' L (x :: x :: S))) target) : Steps tb e below (T.setTop (mkF m pc L (x :: S))) target := by
  subst hp; exact XS.dup h hx rfl hd rfl hc hr
theorem own_s_dupX1 (h : At T m c below) (hx : tb.exec = Jvm.exec) {x y : Value} (hd : decode c.code pc = .ok (.dup_x1, 1)) (hp : pc + 1 = pc') (hc : x.category = 1) (hc' : y.category = 1)
    (hr : Steps tb e below (T.setTop (mkF m pc' L (x :: y :: x :: S))) target) : Steps tb e below (T.setTop (mkF m pc L (x :: y :: S))) target := by
  subst hp; exact XS.dupX1 h hx rfl hd rfl hc hc' hr
theorem own_s_pop (h : At T m c below) (hx : tb.exec = Jvm.exec) {x : Value} (hd : decode c.code pc = .ok (.pop, 1)) (hp : pc + 1 = pc') (hc : x.category = 1)
    (hr : Steps tb e below (T.setTop (mkF m pc' L S)) target) : Steps tb e below (T.setTop (mkF m pc L (x :: S))) target := by
  subst hp; exact XS.pop h hx rfl hd rfl hc hr
theorem own_s_iloadN (h : At T m c below) (hx : tb.exec = Jvm.exec) {k : Fin 4} {v : Int32} (hd : decode c.code pc = .ok (.iload_n k, 1)) (hp : pc + 1 = pc') (hl : L[k.val]? = some (.val (.int v)))
    (hr : Steps tb e below (T.setTop (mkF m pc' L (.int v :: S))) target) : Steps tb e below (T.setTop (mkF m pc L S)) target := by
  subst hp; exact XS.iloadN h hx rfl hd hl hr
theorem own_s_iload (h : At T m c below) (hx : tb.exec = Jvm.exec) {k : Nat} {v : Int32} (hd : decode c.code pc = .ok (.iload k, 2)) (hp : pc + 2 = pc') (hl : L[k]? = some (.val (.int v)))
    (hr : Steps tb e below (T.setTop (mkF m pc' L (.int v :: S))) target) : Steps tb e below (T.setTop (mkF m pc L S)) target := by
  subst hp; exact XS.iload h hx rfl hd hl hr
theorem own_s_istoreN (h : At T m c below) (hx : tb.exec = Jvm.exec) {k : Fin 4} {v : Int32} {L' : Array Slot} (hd : decode c.code pc = .ok (.istore_n k, 1)) (hp : pc + 1 = pc') (hl : storeLocals L k.val (.int v) = some L')
    (hr : Steps tb e below (T.setTop (mkF m pc' L' S)) target) : Steps tb e below (T.setTop (mkF m pc L (.int v :: S))) target := by
  subst hp; exact XS.istoreN h hx rfl hd rfl hl hr
theorem own_s_istore (h : At T m c below) (hx : tb.exec = Jvm.exec) {k : Nat} {v : Int32} {L' : Array Slot} (hd : decode c.code pc = .ok (.istore k, 2)) (hp : pc + 2 = pc') (hl : storeLocals L k (.int v) = some L')
    (hr : Steps tb e below (T.setTop (mkF m pc' L' S)) target) : Steps tb e below (T.setTop (mkF m pc L (.int v :: S))) target := by
  subst hp; exact XS.istore h hx rfl hd rfl hl hr
theorem own_s_lloadN (h : At T m c below) (hx : tb.exec = Jvm.exec) {k : Fin 4} {v : Int64} (hd : decode c.code pc = .ok (.lload_n k, 1)) (hp : pc + 1 = pc') (hl : L[k.val]? = some (.val (.long v)))
    (hr : Steps tb e below (T.setTop (mkF m pc' L (.long v :: S))) target) : Steps tb e below (T.setTop (mkF m pc L S)) target := by
  subst hp; exact XS.lloadN h hx rfl hd hl hr
theorem own_s_lload (h : At T m c below) (hx : tb.exec = Jvm.exec) {k : Nat} {v : Int64} (hd : decode c.code pc = .ok (.lload k, 2)) (hp : pc + 2 = pc') (hl : L[k]? = some (.val (.long v)))
    (hr : Steps tb e below (T.setTop (mkF m pc' L (.long v :: S))) target) : Steps tb e below (T.setTop (mkF m pc L S)) target := by
  subst hp; exact XS.lload h hx rfl hd hl hr
theorem own_s_lstoreN (h : At T m c below) (hx : tb.exec = Jvm.exec) {k : Fin 4} {v : Int64} {L' : Array Slot} (hd : decode c.code pc = .ok (.lstore_n k, 1)) (hp : pc + 1 = pc') (hl : storeLocals L k.val (.long v) = some L')
    (hr : Steps tb e below (T.setTop (mkF m pc' L' S)) target) : Steps tb e below (T.setTop (mkF m pc L (.long v :: S))) target := by
  subst hp; exact XS.lstoreN h hx rfl hd rfl hl hr
theorem own_s_lstore (h : At T m c below) (hx : tb.exec = Jvm.exec) {k : Nat} {v : Int64} {L' : Array Slot} (hd : decode c.code pc = .ok (.lstore k, 2)) (hp : pc + 2 = pc') (hl : storeLocals L k (.long v) = some L')
    (hr : Steps tb e below (T.setTop (mkF m pc' L' S)) target) : Steps tb e below (T.setTop (mkF m pc L (.long v :: S))) target := by
  subst hp; exact XS.lstore h hx rfl hd rfl hl hr
theorem own_s_dloadN (h : At T m c below) (hx : tb.exec = Jvm.exec) {k : Fin 4} {v : UInt64} (hd : decode c.code pc = .ok (.dload_n k, 1)) (hp : pc + 1 = pc') (hl : L[k.val]? = some (.val (.double v)))
    (hr : Steps tb e below (T.setTop (mkF m pc' L (.double v :: S))) target) : Steps tb e below (T.setTop (mkF m pc L S)) target := by
  subst hp; exact XS.dloadN h hx rfl hd hl hr
theorem own_s_dload (h : At T m c below) (hx : tb.exec = Jvm.exec) {k : Nat} {v : UInt64} (hd : decode c.code pc = .ok (.dload k, 2)) (hp : pc + 2 = pc') (hl : L[k]? = some (.val (.double v)))
    (hr : Steps tb e below (T.setTop (mkF m pc' L (.double v :: S))) target) : Steps tb e below (T.setTop (mkF m pc L S)) target := by
  subst hp; exact XS.dload h hx rfl hd hl hr
theorem own_s_dstoreN (h : At T m c below) (hx : tb.exec = Jvm.exec) {k : Fin 4} {v : UInt64} {L' : Array Slot} (hd : decode c.code pc = .ok (.dstore_n k, 1)) (hp : pc + 1 = pc') (hl : storeLocals L k.val (.double v) = some L')
    (hr : Steps tb e below (T.setTop (mkF m pc' L' S)) target) : Steps tb e below (T.setTop (mkF m pc L (.double v :: S))) target := by
  subst hp; exact XS.dstoreN h hx rfl hd rfl hl hr
theorem own_s_dstore (h : At T m c below) (hx : tb.exec = Jvm.exec) {k : Nat} {v : UInt64} {L' : Array Slot} (hd : decode c.code pc = .ok (.dstore k, 2)) (hp : pc + 2 = pc') (hl : storeLocals L k (.double v) = some L')
    (hr : Steps tb e below (T.setTop (mkF m pc' L' S)) target) : Steps tb e below (T.setTop (mkF m pc L (.double v :: S))) target := by
  subst hp; exact XS.dstore h hx rfl hd rfl hl hr
theorem own_s_aloadN (h : At T m c below) (hx : tb.exec = Jvm.exec) {k : Fin 4} {v : Value} (hd : decode c.code pc = .ok (.aload_n k, 1)) (hp : pc + 1 = pc') (hl : L[k.val]? = some (.val v)) (hr0 : v.isRef = true)
    (hr : Steps tb e below (T.setTop (mkF m pc' L (v :: S))) target) : Steps tb e below (T.setTop (mkF m pc L S)) target := by
  subst hp; exact XS.aloadN h hx rfl hd hl hr0 hr
theorem own_s_aload (h : At T m c below) (hx : tb.exec = Jvm.exec) {k : Nat} {v : Value} (hd : decode c.code pc = .ok (.aload k, 2)) (hp : pc + 2 = pc') (hl : L[k]? = some (.val v)) (hr0 : v.isRef = true)
    (hr : Steps tb e below (T.setTop (mkF m pc' L (v :: S))) target) : Steps tb e below (T.setTop (mkF m pc L S)) target := by
  subst hp; exact XS.aload h hx rfl hd hl hr0 hr
theorem own_s_astoreN (h : At T m c below) (hx : tb.exec = Jvm.exec) {k : Fin 4} {v : Value} {L' : Array Slot} (hd : decode c.code pc = .ok (.astore_n k, 1)) (hp : pc + 1 = pc') (hr0 : v.isRef = true) (hl : storeLocals L k.val v = some L')
    (hr : Steps tb e below (T.setTop (mkF m pc' L' S)) target) : Steps tb e below (T.setTop (mkF m pc L (v :: S))) target := by
  subst hp; exact XS.astoreN h hx rfl hd rfl hr0 hl hr
theorem own_s_astore (h : At T m c below) (hx : tb.exec = Jvm.exec) {k : Nat} {v : Value} {L' : Array Slot} (hd : decode c.code pc = .ok (.astore k, 2)) (hp : pc + 2 = pc') (hr0 : v.isRef = true) (hl : storeLocals L k v = some L')
    (hr : Steps tb e below (T.setTop (mkF m pc' L' S)) target) : Steps tb e below (T.setTop (mkF m pc L (v :: S))) target := by
  subst hp; exact XS.astore h hx rfl hd rfl hr0 hl hr
theorem own_s_iinc (h : At T m c below) (hx : tb.exec = Jvm.exec) {k : Nat} {cst : Int} {x v : Int32} {L' : Array Slot} (hd : decode c.code pc = .ok (.iinc k cst, 3)) (hp : pc + 3 = pc') (hl : L[k]? = some (.val (.int x))) (hv : x + Int32.ofInt cst = v) (hl' : storeLocals L k (.int v) = some L')
    (hr : Steps tb e below (T.setTop (mkF m pc' L' S)) target) : Steps tb e below (T.setTop (mkF m pc L S)) target := by
  subst hv hp; exact XS.iinc h hx rfl hd hl hl' hr
theorem own_s_goto (h : At T m c below) (hx : tb.exec = Jvm.exec)  {o : Int} (hd : decode c.code pc = .ok (.goto o, 3)) (ho : 0 ≤ (pc : Int) + o) (hp : ((pc : Int) + o).toNat = pc') 
    (hr : Steps tb e below (T.setTop (mkF m pc' L S)) target) : Steps tb e below (T.setTop (mkF m pc L S)) target := by
  exact XS.goto h hx rfl rfl hd ho hp hr
theorem own_s_ifYes (h : At T m c below) (hx : tb.exec = Jvm.exec) {cd : ClassFile.Cond} {x : Int32} {o : Int} (hd : decode c.code pc = .ok (.ifCond cd o, 3)) (ho : 0 ≤ (pc : Int) + o) (hp : ((pc : Int) + o).toNat = pc') (hc : ifCond.holds cd x = true)
    (hr : Steps tb e below (T.setTop (mkF m pc' L S)) target) : Steps tb e below (T.setTop (mkF m pc L (.int x :: S))) target := by
  exact XS.ifYes h hx rfl rfl hd rfl hc ho hp hr
theorem own_s_icmpYes (h : At T m c below) (hx : tb.exec = Jvm.exec) {cd : ClassFile.Cond} {x y : Int32} {o : Int} (hd : decode c.code pc = .ok (.if_icmp cd o, 3)) (ho : 0 ≤ (pc : Int) + o) (hp : ((pc : Int) + o).toNat = pc') (hc : if_icmp.holds cd x y = true)
    (hr : Steps tb e below (T.setTop (mkF m pc' L S)) target) : Steps tb e below (T.setTop (mkF m pc L (.int y :: .int x :: S))) target := by
  exact XS.icmpYes h hx rfl rfl hd rfl hc ho hp hr
theorem own_s_ifNo (h : At T m c below) (hx : tb.exec = Jvm.exec) {cd : ClassFile.Cond} {o : Int} {x : Int32} (hd : decode c.code pc = .ok (.ifCond cd o, 3)) (hp : pc + 3 = pc') (hc : ifCond.holds cd x = false)
    (hr : Steps tb e below (T.setTop (mkF m pc' L S)) target) : Steps tb e below (T.setTop (mkF m pc L (.int x :: S))) target := by
  subst hp; exact XS.ifNo h hx rfl hd rfl hc hr
theorem own_s_icmpNo (h : At T m c below) (hx : tb.exec = Jvm.exec) {cd : ClassFile.Cond} {o : Int} {x y : Int32} (hd : decode c.code pc = .ok (.if_icmp cd o, 3)) (hp : pc + 3 = pc') (hc : if_icmp.holds cd x y = false)
    (hr : Steps tb e below (T.setTop (mkF m pc' L S)) target) : Steps tb e below (T.setTop (mkF m pc L (.int y :: .int x :: S))) target := by
  subst hp; exact XS.icmpNo h hx rfl hd rfl hc hr
theorem own_s_ifnullYes (h : At T m c below) (hx : tb.exec = Jvm.exec)  {o : Int} (hd : decode c.code pc = .ok (.ifnull o, 3)) (ho : 0 ≤ (pc : Int) + o) (hp : ((pc : Int) + o).toNat = pc') 
    (hr : Steps tb e below (T.setTop (mkF m pc' L S)) target) : Steps tb e below (T.setTop (mkF m pc L (.null :: S))) target := by
  exact XS.ifnullYes h hx rfl rfl hd rfl ho hp hr
theorem own_s_ifnullNo (h : At T m c below) (hx : tb.exec = Jvm.exec) {o : Int} {b : Addr} (hd : decode c.code pc = .ok (.ifnull o, 3)) (hp : pc + 3 = pc') 
    (hr : Steps tb e below (T.setTop (mkF m pc' L S)) target) : Steps tb e below (T.setTop (mkF m pc L (.ref b :: S))) target := by
  subst hp; exact XS.ifnullNo h hx rfl hd rfl hr
theorem own_s_ifnonnullYes (h : At T m c below) (hx : tb.exec = Jvm.exec) {b : Addr} {o : Int} (hd : decode c.code pc = .ok (.ifnonnull o, 3)) (ho : 0 ≤ (pc : Int) + o) (hp : ((pc : Int) + o).toNat = pc') 
    (hr : Steps tb e below (T.setTop (mkF m pc' L S)) target) : Steps tb e below (T.setTop (mkF m pc L (.ref b :: S))) target := by
  exact XS.ifnonnullYes h hx rfl rfl hd rfl ho hp hr
theorem own_s_ifnonnullNo (h : At T m c below) (hx : tb.exec = Jvm.exec) {o : Int} (hd : decode c.code pc = .ok (.ifnonnull o, 3)) (hp : pc + 3 = pc') 
    (hr : Steps tb e below (T.setTop (mkF m pc' L S)) target) : Steps tb e below (T.setTop (mkF m pc L (.null :: S))) target := by
  subst hp; exact XS.ifnonnullNo h hx rfl hd rfl hr
end OwnStep
section OwnHeap
open Jvm Jvm.ClassFile Sem Op Lib Jvm.Free Jvm.Stand Jvm.LawKit Jvm.RoadKit
variable {p : Program} {l : Launch} {e : Env} {R : Room} {s : State} {m : MethodId} {args : Array Value} {below : List Frame} {meth : Method} {c : Code} {T : State} {locs : List Loc} {cells slots : Nat} {Z : State} {a0 : Array Value} {h : Heap} {pc pc' : Nat} {L : Array Slot} {S : List Value} {a : Addr} {k : ClassId} {z : Int32} {vs : List Value} {dv : Value}
theorem own_newD (X : Stand p l e R s m args below meth c T locs cells slots) (hx : p.tables.exec = Jvm.exec) (hZ : Z.Warmed39 s.vm) (w : (Jvm.Cond.arrayClass .double).before a0 Z = true) (eT : T.heap = h) (n : Nat) (hz : z.toNatClampNeg = n) (hz0 : ¬ z < 0) (hb : n * 8 ≤ 536870912) (hc : cells + 1 ≤ R.cells) (hl : slots + n ≤ R.slots) (hd : decode c.code pc = .ok (.newarray .double, 2)) (hp : pc + 2 = pc') :
    ∃ T' h' k b, Stand p l e R s m args below meth c T' locs (cells + 1) (slots + n) ∧ T'.heap = h' ∧ Ext h h' ∧ b = h.size ∧ Arv Z h' b k .double z (List.replicate n (.double 0)) (.double 0) ∧ ∀ target, Steps p.tables e below (T'.setTop (mkF m pc' L (.ref b :: S))) target → Steps p.tables e below (T.setTop (mkF m pc L (.int z :: S))) target := by
  subst hp
  obtain ⟨T', h', k, X', e', E, A, st⟩ := newP X hx hZ (aty := .double) w eT (g := mkF m pc L (.int z :: S)) rfl hd rfl hz0 (cap := n) (Nat.le_of_eq hz) hb hc hl
  exact ⟨T', h', k, h.size, X', e', E, rfl, (Arv.new A hz0).pad (pad_rep [] (.double 0) n), st⟩
theorem own_newJ (X : Stand p l e R s m args below meth c T locs cells slots) (hx : p.tables.exec = Jvm.exec) (hZ : Z.Warmed39 s.vm) (w : (Jvm.Cond.arrayClass .long).before a0 Z = true) (eT : T.heap = h) (n : Nat) (hz : z.toNatClampNeg = n) (hz0 : ¬ z < 0) (hb : n * 8 ≤ 536870912) (hc : cells + 1 ≤ R.cells) (hl : slots + n ≤ R.slots) (hd : decode c.code pc = .ok (.newarray .long, 2)) (hp : pc + 2 = pc') :
    ∃ T' h' k b, Stand p l e R s m args below meth c T' locs (cells + 1) (slots + n) ∧ T'.heap = h' ∧ Ext h h' ∧ b = h.size ∧ Arv Z h' b k .long z (List.replicate n (.long 0)) (.long 0) ∧ ∀ target, Steps p.tables e below (T'.setTop (mkF m pc' L (.ref b :: S))) target → Steps p.tables e below (T.setTop (mkF m pc L (.int z :: S))) target := by
  subst hp
  obtain ⟨T', h', k, X', e', E, A, st⟩ := newP X hx hZ (aty := .long) w eT (g := mkF m pc L (.int z :: S)) rfl hd rfl hz0 (cap := n) (Nat.le_of_eq hz) hb hc hl
  exact ⟨T', h', k, h.size, X', e', E, rfl, (Arv.new A hz0).pad (pad_rep [] (.long 0) n), st⟩
theorem own_stD (X : Stand p l e R s m args below meth c T locs cells slots) (hx : p.tables.exec = Jvm.exec) (hZ : Z.Warmed39 s.vm) (eT : T.heap = h) (V : Arv Z h a k .double z vs dv) {j : Int32} {x : UInt64} (hj : ¬ j < 0 ∧ j < z) (i : Nat) (hi : j.toNatClampNeg = i) (hl : i < vs.length) (hd : decode c.code pc = .ok (.dastore, 1)) (hp : pc + 1 = pc') :
    ∃ T' h', Stand p l e R s m args below meth c T' (locs ++ [⟨a, j.toNatClampNeg⟩]) cells slots ∧ T'.heap = h' ∧ Wr h h' a j.toNatClampNeg (.double x) ∧ Arv Z h' a k .double z (vs.set i (.double x)) dv ∧ ∀ target, Steps p.tables e below (T'.setTop (mkF m pc' L S)) target → Steps p.tables e below (T.setTop (mkF m pc L (.double x :: .int j :: .ref a :: S))) target := by
  subst hp
  obtain ⟨cl, A, q1, S1, q3, H, G⟩ := V
  obtain ⟨T', h', X', e', W, st⟩ := stD X hx hZ eT A (j := j) (x := x) (inb_of S1 hj) (g := mkF m pc L (.double x :: .int j :: .ref a :: S)) rfl rfl hd
  exact ⟨T', h', X', e', W, Arv.set A q1 S1 q3 H G rfl W i hi hl, st⟩
theorem own_ldD (X : Stand p l e R s m args below meth c T locs cells slots) (hx : p.tables.exec = Jvm.exec) (hZ : Z.Warmed39 s.vm) (eT : T.heap = h) (V : Arv Z h a k .double z vs dv) {j : Int32} {x : UInt64} (hj : ¬ j < 0 ∧ j < z) (hv : vs.getD j.toNatClampNeg dv = .double x) (hd : decode c.code pc = .ok (.daload, 1)) (hp : pc + 1 = pc') {target : State}
    (hr : Steps p.tables e below (T.setTop (mkF m pc' L (.double x :: S))) target) : Steps p.tables e below (T.setTop (mkF m pc L (.int j :: .ref a :: S))) target := by
  subst hp
  obtain ⟨cl, A, q1, S1, q3, H, G⟩ := V
  exact X.daload hx (j := j) (v := .double x) (by rw [eT]; exact A.1) (State.isArrayOf_alike hZ.alike A.2.1) A.2.2 (inb_of S1 hj) (H.at (inb_of S1 hj) hv) (g := mkF m pc L (.int j :: .ref a :: S)) rfl rfl hd target hr
theorem own_len {ty : FieldType} (X : Stand p l e R s m args below meth c T locs cells slots) (hx : p.tables.exec = Jvm.exec) (hZ : Z.Warmed39 s.vm) (eT : T.heap = h) (V : Arv Z h a k ty z vs dv) (hd : decode c.code pc = .ok (.arraylength, 1)) (hp : pc + 1 = pc') {target : State}
    (hr : Steps p.tables e below (T.setTop (mkF m pc' L (.int z :: S))) target) : Steps p.tables e below (T.setTop (mkF m pc L (.ref a :: S))) target := by
  subst hp
  obtain ⟨cl, A, q1, S1, q3, H, G⟩ := V
  refine X.arraylength hx (by rw [eT]; exact A.1) (State.isArrayOf_alike hZ.alike A.2.1) (g := mkF m pc L (.ref a :: S)) rfl rfl hd target ?_
  rw [len_of S1 q3]
  exact hr
theorem own_retI (X : Stand p l e R s m args below meth c T locs cells slots) (hx : p.tables.exec = Jvm.exec) {x : Int32} (hret : meth.sig.returnType = some .int) (hd : decode c.code pc = .ok (.ireturn, 1)) {fs : List Frame}
    (hl : ∀ (f : JFrame) (acts : List Action), f.method = m → f.locked = none → f.entered = [] → (doReturn e (T.setTop f) acts (some (.int x))).1 = T.setFrames fs) : Steps p.tables e below (T.setTop (mkF m pc L (.int x :: S))) (T.setFrames fs) := by
  have hm' : T.vm.method? m = some meth := X.method'
  have hn : narrow .int (.int x) = .int x := rfl
  show Steps p.tables e below (T.setTop { method := m, pc := pc, locals := L, stack := _ :: S, locked := none }) _
  jvm_step X.here [X.here.top, hx, hd, hm', hret, hn]
  first | (intro acts; rw [hl _ acts rfl rfl rfl]) | rw [hl _ _ rfl rfl rfl]
  exact Steps.refl _
theorem own_retD (X : Stand p l e R s m args below meth c T locs cells slots) (hx : p.tables.exec = Jvm.exec) {x : UInt64} (hret : meth.sig.returnType = some .double) (hd : decode c.code pc = .ok (.dreturn, 1)) {fs : List Frame}
    (hl : ∀ (f : JFrame) (acts : List Action), f.method = m → f.locked = none → f.entered = [] → (doReturn e (T.setTop f) acts (some (.double x))).1 = T.setFrames fs) : Steps p.tables e below (T.setTop (mkF m pc L (.double x :: S))) (T.setFrames fs) := by
  have hm' : T.vm.method? m = some meth := X.method'
  show Steps p.tables e below (T.setTop { method := m, pc := pc, locals := L, stack := _ :: S, locked := none }) _
  jvm_step X.here [X.here.top, hx, hd, hm', hret, narrow]
  first | (intro acts; rw [hl _ acts rfl rfl rfl]) | rw [hl _ _ rfl rfl rfl]
  exact Steps.refl _
theorem own_retJ (X : Stand p l e R s m args below meth c T locs cells slots) (hx : p.tables.exec = Jvm.exec) {x : Int64} (hret : meth.sig.returnType = some .long) (hd : decode c.code pc = .ok (.lreturn, 1)) {fs : List Frame}
    (hl : ∀ (f : JFrame) (acts : List Action), f.method = m → f.locked = none → f.entered = [] → (doReturn e (T.setTop f) acts (some (.long x))).1 = T.setFrames fs) : Steps p.tables e below (T.setTop (mkF m pc L (.long x :: S))) (T.setFrames fs) := by
  have hm' : T.vm.method? m = some meth := X.method'
  show Steps p.tables e below (T.setTop { method := m, pc := pc, locals := L, stack := _ :: S, locked := none }) _
  jvm_step X.here [X.here.top, hx, hd, hm', hret, narrow]
  first | (intro acts; rw [hl _ acts rfl rfl rfl]) | rw [hl _ _ rfl rfl rfl]
  exact Steps.refl _
theorem own_retR (X : Stand p l e R s m args below meth c T locs cells slots) (hx : p.tables.exec = Jvm.exec) {b : Addr} {t : FieldType} (hret : meth.sig.returnType = some t) (ht : t.isReference = true) (hd : decode c.code pc = .ok (.areturn, 1)) {fs : List Frame}
    (hl : ∀ (f : JFrame) (acts : List Action), f.method = m → f.locked = none → f.entered = [] → (doReturn e (T.setTop f) acts (some (.ref b))).1 = T.setFrames fs) : Steps p.tables e below (T.setTop (mkF m pc L (.ref b :: S))) (T.setFrames fs) := by
  have hm' : T.vm.method? m = some meth := X.method'
  show Steps p.tables e below (T.setTop { method := m, pc := pc, locals := L, stack := _ :: S, locked := none }) _
  jvm_step X.here [X.here.top, hx, hd, hm', hret, Value.isRef, ht]
  first | (intro acts; rw [hl _ acts rfl rfl rfl]) | rw [hl _ _ rfl rfl rfl]
  exact Steps.refl _
end OwnHeap
open Jvm Jvm.ClassFile Sem Op Lib Jvm.Free Jvm.Stand Jvm.LawKit Jvm.RoadKit Bundle Jvm.Pilot.@@N@@.Jvm.D
def own_Q0 (n0 : Nat) (v : Option Value) (h : Heap) (L : List Loc) : Prop := v = some (.int 1) ∧ Fr n0 L
def own_QP (r : Option Value) (h0 : Heap) (n0 : Nat) (v : Option Value) (h : Heap) (L : List Loc) : Prop := v = r ∧ Fr n0 L ∧ h = h0
theorem own_modN (x : Int32) : ∀ v, x &&& 2147483647 = v → v % 5 = 0 ∨ v % 5 = 1 ∨ v % 5 = 2 ∨ v % 5 = 3 ∨ v % 5 = 4 := by
  intro v hv
  have h1 := c_mask x 2147483647 31 (by decide) (by decide)
  rw [hv] at h1
  have h2 := (c_irem v 5 5 (by decide)).1 (by omega)
  have e : ∀ k : Int32, v % 5 = k ↔ (v % 5).toInt = k.toInt := fun k => Int32.toInt_inj.symm
  simp only [e, show (0 : Int32).toInt = 0 from rfl, show (1 : Int32).toInt = 1 from rfl, show (2 : Int32).toInt = 2 from rfl, show (3 : Int32).toInt = 3 from rfl, show (4 : Int32).toInt = 4 from rfl]
  omega
theorem own_small {x a v : Int32} (h1 : x <<< ((7 : Int32) &&& 31) = a) (h2 : a >>> ((7 : Int32) &&& 31) = v) : own_I v v.toInt 16777216 := by
  have h := c_ishr a 7 7 (by decide)
  rw [h2] at h
  have := rng32 a
  refine ⟨rfl, ?_, ?_⟩ <;> omega
theorem own_d1_0 : decode method_2_code 0 = .ok (.iload_n 0, 1) := by decide +kernel
theorem own_d1_1 : decode method_2_code 1 = .ok (.bipush 7, 2) := by decide +kernel
theorem own_d1_3 : decode method_2_code 3 = .ok (.ishl, 1) := by decide +kernel
theorem own_d1_4 : decode method_2_code 4 = .ok (.bipush 7, 2) := by decide +kernel
theorem own_d1_6 : decode method_2_code 6 = .ok (.ishr, 1) := by decide +kernel
theorem own_d1_7 : decode method_2_code 7 = .ok (.ireturn, 1) := by decide +kernel
theorem own_pn_com_example_differentia_differentia_problems_ProblemsSpherePinLaw : plainName "com/example/differentia/differentia/problems/ProblemsSpherePinLaw" = true := by first | (simp [plainName, overriddenIn]; done) | decide +kernel
theorem own_ef_s (m : MethodId) (x : Int32) : entryFrame m #[(.int x)] 1 = mkF m 0 #[.val (.int x)] [] := by first | (simp [entryFrame, mkF, argsToLocals, Value.category]; done) | rfl
set_option maxRecDepth 65536 in
set_option maxHeartbeats 40000000 in
theorem own_rm_s (l : Launch) (Z : State) (a0 : Array Value) (hw : ∀ d ∈ tables_1, d.before a0 Z = true) (ws : List Jvm.Cond) (x : Int32) {s_v3 : Int32} {s_v6 : Int32} (h0 : Heap) (n0 : Nat) (Z0 : n0 ≤ h0.size)  (s_hv3 : x <<< ((7 : Int32) &&& 31) = s_v3) (s_hv6 : s_v3 >>> ((7 : Int32) &&& 31) = s_v6) :
    MetFree l (⟨"com/example/differentia/differentia/problems/ProblemsSpherePinLaw", "small", "(I)I"⟩ : MethodName) (head1 (Jvm.Cond.code (⟨"com/example/differentia/differentia/problems/ProblemsSpherePinLaw", "small", "(I)I"⟩ : MethodName) method_2_code 1 (some .int) :: ws) ({ frames := 0, cells := 0, slots := 0, locals := 0 } : Room)) (fun a U => a = #[(.int x)] ∧ Z.Warmed39 U.vm ∧ U.heap = h0) (fun _ _ _ _ _ => True) (fun _ U o U' => ∃ v L, o = .returned v ∧ own_QP (some (.int s_v6)) h0 n0 v U'.heap L ∧ FrameEnd U o U' L ({ frames := 0, cells := 0, slots := 0, locals := 0 } : Room).cells ({ frames := 0, cells := 0, slots := 0, locals := 0 } : Room).slots) := by
  refine MetFree.of_bodySF (plainFor_of_name own_pn_com_example_differentia_differentia_problems_ProblemsSpherePinLaw) hisR ?_
  intro p e s m args below meth c s₁ Bd hml0 hP hK
  obtain ⟨rfl, hZ, hh⟩ := hP
  have hx := Bd.exec
  have hby := Bd.bytes
  have hml : c.maxLocals = 1 := hml0
  have hown : s.vm.findClass "com/example/differentia/differentia/problems/ProblemsSpherePinLaw" = some m.cls := findClass_of_methodNamed Bd.named
  have hnm := (name_of_methodNamed Bd.named Bd.method).1
  have X0 : Stand p l e ({ frames := 0, cells := 0, slots := 0, locals := 0 } : Room) s m #[(.int x)] below meth c s₁ [] 0 0 := Stand.of_body Bd
  have e0 : s₁.heap = h0 := by rw [← hh, Bd.state]; rfl
  have N0 := Fr.nil n0
  have pre0 : ∀ t, Steps p.tables e below (s₁.setTop (mkF m 0 #[.val (.int x)] [])) t → Steps p.tables e below (s₁.setTop (entryFrame m #[(.int x)] 1)) t := fun t k => castTop (own_ef_s m x) k
  obtain ⟨fs, hr, hrun, hended, hW, hsame⟩ := X0.leave (v := some (.int s_v6)) (fun h => by rw [Bd.returns] at h; cases h)
  refine ⟨_, _, pre0 _ ?_, hrun, hended, _, _, rfl, ?_, ⟨_, rfl⟩, hW, hsame.mono (by decide) (by decide)⟩
  · refine own_s_iloadN X0.here hx (hb hby own_d1_0) (pc' := 1) rfl rfl ?_
    refine own_s_bipush X0.here hx (hb hby own_d1_1) (pc' := 3) rfl (v := (7 : Int32)) (by decide) ?_
    refine own_s_ishl X0.here hx (hb hby own_d1_3) (pc' := 4) rfl (v := s_v3) s_hv3 ?_
    refine own_s_bipush X0.here hx (hb hby own_d1_4) (pc' := 6) rfl (v := (7 : Int32)) (by decide) ?_
    refine own_s_ishr X0.here hx (hb hby own_d1_6) (pc' := 7) rfl (v := s_v6) s_hv6 ?_
    exact own_retI X0 hx Bd.returns (hb hby own_d1_7) hr
  · show own_QP (some (.int s_v6)) h0 n0 _ s₁.heap _
    rw [e0]
    exact ⟨rfl, N0, rfl⟩
theorem own_d2_0 : decode prog_68_method_5_code 0 = .ok (.dconst 0, 1) := by decide +kernel
theorem own_d2_1 : decode prog_68_method_5_code 1 = .ok (.dstore_n 1, 1) := by decide +kernel
theorem own_d2_2 : decode prog_68_method_5_code 2 = .ok (.aload_n 0, 1) := by decide +kernel
theorem own_d2_3 : decode prog_68_method_5_code 3 = .ok (.astore_n 3, 1) := by decide +kernel
theorem own_d2_4 : decode prog_68_method_5_code 4 = .ok (.aload_n 3, 1) := by decide +kernel
theorem own_d2_5 : decode prog_68_method_5_code 5 = .ok (.arraylength, 1) := by decide +kernel
theorem own_d2_6 : decode prog_68_method_5_code 6 = .ok (.istore 4, 2) := by decide +kernel
theorem own_d2_8 : decode prog_68_method_5_code 8 = .ok (.iconst 0, 1) := by decide +kernel
theorem own_d2_9 : decode prog_68_method_5_code 9 = .ok (.istore 5, 2) := by decide +kernel
theorem own_d2_11 : decode prog_68_method_5_code 11 = .ok (.iload 5, 2) := by decide +kernel
theorem own_d2_13 : decode prog_68_method_5_code 13 = .ok (.iload 4, 2) := by decide +kernel
theorem own_d2_15 : decode prog_68_method_5_code 15 = .ok (.if_icmp .ge 23, 3) := by decide +kernel
theorem own_d2_38 : decode prog_68_method_5_code 38 = .ok (.dload_n 1, 1) := by decide +kernel
theorem own_d2_39 : decode prog_68_method_5_code 39 = .ok (.dreturn, 1) := by decide +kernel
theorem own_pn_com_example_differentia_differentia_problems_Problems : plainName "com/example/differentia/differentia/problems/Problems" = true := by first | (simp [plainName, overriddenIn]; done) | decide +kernel
theorem own_ef_c0 (m : MethodId) (q : Addr) : entryFrame m #[(.ref q)] 8 = mkF m 0 #[.val (.ref q), .unset, .unset, .unset, .unset, .unset, .unset, .unset] [] := by first | (simp [entryFrame, mkF, argsToLocals, Value.category]; done) | rfl
set_option maxRecDepth 65536 in
set_option maxHeartbeats 40000000 in
theorem own_rm_c0 (l : Launch) (Z : State) (a0 : Array Value) (hw : ∀ d ∈ tables_1, d.before a0 Z = true) (ws : List Jvm.Cond) (q : Addr) {qk : ClassId} (h0 : Heap) (n0 : Nat) (Z0 : n0 ≤ h0.size) (V_q : Arv Z h0 q qk .double (0 : Int32) [] (.double 0))  :
    MetFree l (⟨"com/example/differentia/differentia/problems/Problems", "sphere", "([D)D"⟩ : MethodName) (head1 (Jvm.Cond.code (⟨"com/example/differentia/differentia/problems/Problems", "sphere", "([D)D"⟩ : MethodName) prog_68_method_5_code 8 (some .double) :: ws) ({ frames := 0, cells := 0, slots := 0, locals := 0 } : Room)) (fun a U => a = #[(.ref q)] ∧ Z.Warmed39 U.vm ∧ U.heap = h0) (fun _ _ _ _ _ => True) (fun _ U o U' => ∃ v L, o = .returned v ∧ own_QP (some (.double 0)) h0 n0 v U'.heap L ∧ FrameEnd U o U' L ({ frames := 0, cells := 0, slots := 0, locals := 0 } : Room).cells ({ frames := 0, cells := 0, slots := 0, locals := 0 } : Room).slots) := by
  refine MetFree.of_bodySF (plainFor_of_name own_pn_com_example_differentia_differentia_problems_Problems) hisR ?_
  intro p e s m args below meth c s₁ Bd hml0 hP hK
  obtain ⟨rfl, hZ, hh⟩ := hP
  have hx := Bd.exec
  have hby := Bd.bytes
  have hml : c.maxLocals = 8 := hml0
  have hown : s.vm.findClass "com/example/differentia/differentia/problems/Problems" = some m.cls := findClass_of_methodNamed Bd.named
  have hnm := (name_of_methodNamed Bd.named Bd.method).1
  have X0 : Stand p l e ({ frames := 0, cells := 0, slots := 0, locals := 0 } : Room) s m #[(.ref q)] below meth c s₁ [] 0 0 := Stand.of_body Bd
  have e0 : s₁.heap = h0 := by rw [← hh, Bd.state]; rfl
  have N0 := Fr.nil n0
  have pre0 : ∀ t, Steps p.tables e below (s₁.setTop (mkF m 0 #[.val (.ref q), .unset, .unset, .unset, .unset, .unset, .unset, .unset] [])) t → Steps p.tables e below (s₁.setTop (entryFrame m #[(.ref q)] 8)) t := fun t k => castTop (own_ef_c0 m q) k
  obtain ⟨fs, hr, hrun, hended, hW, hsame⟩ := X0.leave (v := some (.double 0)) (fun h => by rw [Bd.returns] at h; cases h)
  refine ⟨_, _, pre0 _ ?_, hrun, hended, _, _, rfl, ?_, ⟨_, rfl⟩, hW, hsame.mono (by decide) (by decide)⟩
  · refine own_s_dconst0 X0.here hx (hb hby own_d2_0) (pc' := 1) rfl  ?_
    refine own_s_dstoreN X0.here hx (hb hby own_d2_1) (pc' := 2) rfl (L' := #[.val (.ref q), .val (.double 0), .second, .unset, .unset, .unset, .unset, .unset]) rfl ?_
    refine own_s_aloadN X0.here hx (hb hby own_d2_2) (pc' := 3) rfl rfl rfl ?_
    refine own_s_astoreN X0.here hx (hb hby own_d2_3) (pc' := 4) rfl rfl (L' := #[.val (.ref q), .val (.double 0), .second, .val (.ref q), .unset, .unset, .unset, .unset]) rfl ?_
    refine own_s_aloadN X0.here hx (hb hby own_d2_4) (pc' := 5) rfl rfl rfl ?_
    refine own_len X0 hx hZ e0 V_q (hb hby own_d2_5) (pc' := 6) rfl ?_
    refine own_s_istore X0.here hx (hb hby own_d2_6) (pc' := 8) rfl (L' := #[.val (.ref q), .val (.double 0), .second, .val (.ref q), .val (.int (0 : Int32)), .unset, .unset, .unset]) rfl ?_
    refine own_s_iconst X0.here hx (hb hby own_d2_8) (pc' := 9) rfl (v := (0 : Int32)) (by decide) ?_
    refine own_s_istore X0.here hx (hb hby own_d2_9) (pc' := 11) rfl (L' := #[.val (.ref q), .val (.double 0), .second, .val (.ref q), .val (.int (0 : Int32)), .val (.int (0 : Int32)), .unset, .unset]) rfl ?_
    refine own_s_iload X0.here hx (hb hby own_d2_11) (pc' := 13) rfl rfl ?_
    refine own_s_iload X0.here hx (hb hby own_d2_13) (pc' := 15) rfl rfl ?_
    refine own_s_icmpYes X0.here hx (hb hby own_d2_15) (by decide) (pc' := 38) (by decide) (by decide) ?_
    refine own_s_dloadN X0.here hx (hb hby own_d2_38) (pc' := 39) rfl rfl ?_
    exact own_retD X0 hx Bd.returns (hb hby own_d2_39) hr
  · show own_QP (some (.double 0)) h0 n0 _ s₁.heap _
    rw [e0]
    exact ⟨rfl, N0, rfl⟩
theorem own_pd_28I29I : parseMethodDescriptor "(I)I" = some ⟨[.int], some .int⟩ := by decide +kernel
theorem own_pd_285bD29D : parseMethodDescriptor "([D)D" = some ⟨[(.array .double)], some .double⟩ := by decide +kernel
theorem own_ef_w0 (m : MethodId) (p0 : Int32) (p1 : Int32) (p2 : Int32) (p3 : Int32) (p4 : Int32) : entryFrame m #[(.int p0), (.int p1), (.int p2), (.int p3), (.int p4)] maxLocals = mkF m 0 #[.val (.int p0), .val (.int p1), .val (.int p2), .val (.int p3), .val (.int p4), .unset, .unset, .unset, .unset, .unset, .unset, .unset, .unset, .unset, .unset] [] := by first | (simp [entryFrame, mkF, argsToLocals, Value.category, maxLocals]; done) | rfl
set_option maxRecDepth 65536 in
set_option maxHeartbeats 40000000 in
theorem own_rm_w0 (l : Launch) (Z : State) (a0 : Array Value) (hw : ∀ d ∈ tables_1, d.before a0 Z = true) (ws : List Jvm.Cond) (p0 : Int32) (p1 : Int32) (p2 : Int32) (p3 : Int32) (p4 : Int32) {w0_v3 : Int32} {w0_c9_s_v3 : Int32} {w0_c9_s_v6 : Int32} {w0_c15_s_v3 : Int32} {w0_c15_s_v6 : Int32} {w0_c21_s_v3 : Int32} {w0_c21_s_v6 : Int32} {w0_c28_s_v3 : Int32} {w0_c28_s_v6 : Int32} (h0 : Heap) (n0 : Nat) (Z0 : n0 ≤ h0.size)  (w0_hv3 : p0 &&& (2147483647 : Int32) = w0_v3) (w0_hv5 : w0_v3 % (5 : Int32) = (0 : Int32)) (w0_c9_s_hv3 : p1 <<< ((7 : Int32) &&& 31) = w0_c9_s_v3) (w0_c9_s_hv6 : w0_c9_s_v3 >>> ((7 : Int32) &&& 31) = w0_c9_s_v6) (w0_c15_s_hv3 : p2 <<< ((7 : Int32) &&& 31) = w0_c15_s_v3) (w0_c15_s_hv6 : w0_c15_s_v3 >>> ((7 : Int32) &&& 31) = w0_c15_s_v6) (w0_c21_s_hv3 : p3 <<< ((7 : Int32) &&& 31) = w0_c21_s_v3) (w0_c21_s_hv6 : w0_c21_s_v3 >>> ((7 : Int32) &&& 31) = w0_c21_s_v6) (w0_c28_s_hv3 : p4 <<< ((7 : Int32) &&& 31) = w0_c28_s_v3) (w0_c28_s_hv6 : w0_c28_s_v3 >>> ((7 : Int32) &&& 31) = w0_c28_s_v6) (w0_hc153 : Op.cmpValue (FP.dcmp 0 (FP.l2d (0 : Int64))) .l = (0 : Int32)) :
    MetFree l x (head1 (Jvm.Cond.code x code maxLocals ret :: ws) room_1) (fun a U => a = #[(.int p0), (.int p1), (.int p2), (.int p3), (.int p4)] ∧ Z.Warmed39 U.vm ∧ U.heap = h0) (fun _ _ _ _ _ => True) (fun _ U o U' => ∃ v L, o = .returned v ∧ own_Q0 n0 v U'.heap L ∧ FrameEnd U o U' L room_1.cells room_1.slots) := by
  refine MetFree.of_bodySF (plainFor_of_name own_pn_com_example_differentia_differentia_problems_ProblemsSpherePinLaw) hisR ?_
  intro p e s m args below meth c s₁ Bd hml0 hP hK
  obtain ⟨rfl, hZ, hh⟩ := hP
  have hx := Bd.exec
  have hby := Bd.bytes
  have hml : c.maxLocals = 15 := hml0
  have hown : s.vm.findClass "com/example/differentia/differentia/problems/ProblemsSpherePinLaw" = some m.cls := findClass_of_methodNamed Bd.named
  have hnm := (name_of_methodNamed Bd.named Bd.method).1
  have X0 : Stand p l e room_1 s m #[(.int p0), (.int p1), (.int p2), (.int p3), (.int p4)] below meth c s₁ [] 0 0 := Stand.of_body Bd
  have e0 : s₁.heap = h0 := by rw [← hh, Bd.state]; rfl
  have N0 := Fr.nil n0
  have pre0 : ∀ t, Steps p.tables e below (s₁.setTop (mkF m 0 #[.val (.int p0), .val (.int p1), .val (.int p2), .val (.int p3), .val (.int p4), .unset, .unset, .unset, .unset, .unset, .unset, .unset, .unset, .unset, .unset] [])) t → Steps p.tables e below (s₁.setTop (entryFrame m #[(.int p0), (.int p1), (.int p2), (.int p3), (.int p4)] maxLocals)) t := fun t k => castTop (own_ef_w0 m p0 p1 p2 p3 p4) k
  obtain ⟨_, _, ⟨Tw01, Lw01, kw01, nw01⟩, -, Xw01, ⟨Lcw01, hQw01, lw01, yw01, zw01⟩, stw01⟩ := Jvm.LawKit.callS X0 hx (y := (⟨"com/example/differentia/differentia/problems/ProblemsSpherePinLaw", "small", "(I)I"⟩ : MethodName)) hown (mvT hZ (hw _ (List.mem_of_getElem? (i := 1) rfl))) (mvT hZ (hw _ (List.mem_of_getElem? (i := 2) rfl))) (mvT hZ (hw _ (List.mem_of_getElem? (i := 3) rfl))) (mvT hZ (hw _ (List.mem_of_getElem? (i := 4) rfl))) (by decide) (backOf (W := 0) (own_rm_s l Z a0 hw [] p1 h0 n0 Z0 w0_c9_s_hv3 w0_c9_s_hv6) hZ (hw _ (List.mem_of_getElem? (i := 4) rfl)) (hw _ (List.mem_of_getElem? (i := 3) rfl)) (by decide) (by decide)) (g := (mkF m 9 #[.val (.int p0), .val (.int p1), .val (.int p2), .val (.int p3), .val (.int p4), .val (.int (0 : Int32)), .unset, .unset, .unset, .unset, .unset, .unset, .unset, .unset, .unset] [(.int p1)])) rfl (by rw [hml]; rfl) (argsL := [(.int p1)]) (rest := []) (lenOf own_pd_28I29I rfl) rfl (by show 2 * 0 + _ ≤ _; exact Nat.le_of_eq rfl) (hb hby at_9) (fun _ _ => ⟨rfl, e0, (by decide : 0 + 0 ≤ _), (by decide : 0 + 0 ≤ _)⟩)
  dsimp only [Pt.U, Pt.locs, Pt.cells, Pt.slots] at Xw01 lw01 yw01 zw01 stw01 hQw01
  subst lw01 yw01 zw01
  obtain ⟨rfl, Nw01q, ew01⟩ := hQw01
  have Nw01 := Fr.app N0 Nw01q
  obtain ⟨_, _, ⟨Tw02, Lw02, kw02, nw02⟩, -, Xw02, ⟨Lcw02, hQw02, lw02, yw02, zw02⟩, stw02⟩ := Jvm.LawKit.callS Xw01 hx (y := (⟨"com/example/differentia/differentia/problems/ProblemsSpherePinLaw", "small", "(I)I"⟩ : MethodName)) hown (mvT hZ (hw _ (List.mem_of_getElem? (i := 1) rfl))) (mvT hZ (hw _ (List.mem_of_getElem? (i := 2) rfl))) (mvT hZ (hw _ (List.mem_of_getElem? (i := 3) rfl))) (mvT hZ (hw _ (List.mem_of_getElem? (i := 4) rfl))) (by decide) (backOf (W := 0) (own_rm_s l Z a0 hw [] p2 h0 n0 Z0 w0_c15_s_hv3 w0_c15_s_hv6) hZ (hw _ (List.mem_of_getElem? (i := 4) rfl)) (hw _ (List.mem_of_getElem? (i := 3) rfl)) (by decide) (by decide)) (g := (mkF m 15 #[.val (.int p0), .val (.int p1), .val (.int p2), .val (.int p3), .val (.int p4), .val (.int (0 : Int32)), .val (.int w0_c9_s_v6), .unset, .unset, .unset, .unset, .unset, .unset, .unset, .unset] [(.int p2)])) rfl (by rw [hml]; rfl) (argsL := [(.int p2)]) (rest := []) (lenOf own_pd_28I29I rfl) rfl (by show 2 * 0 + _ ≤ _; exact Nat.le_of_eq rfl) (hb hby at_15) (fun _ _ => ⟨rfl, ew01, (by decide : 0 + 0 ≤ _), (by decide : 0 + 0 ≤ _)⟩)
  dsimp only [Pt.U, Pt.locs, Pt.cells, Pt.slots] at Xw02 lw02 yw02 zw02 stw02 hQw02
  subst lw02 yw02 zw02
  obtain ⟨rfl, Nw02q, ew02⟩ := hQw02
  have Nw02 := Fr.app Nw01 Nw02q
  obtain ⟨_, _, ⟨Tw03, Lw03, kw03, nw03⟩, -, Xw03, ⟨Lcw03, hQw03, lw03, yw03, zw03⟩, stw03⟩ := Jvm.LawKit.callS Xw02 hx (y := (⟨"com/example/differentia/differentia/problems/ProblemsSpherePinLaw", "small", "(I)I"⟩ : MethodName)) hown (mvT hZ (hw _ (List.mem_of_getElem? (i := 1) rfl))) (mvT hZ (hw _ (List.mem_of_getElem? (i := 2) rfl))) (mvT hZ (hw _ (List.mem_of_getElem? (i := 3) rfl))) (mvT hZ (hw _ (List.mem_of_getElem? (i := 4) rfl))) (by decide) (backOf (W := 0) (own_rm_s l Z a0 hw [] p3 h0 n0 Z0 w0_c21_s_hv3 w0_c21_s_hv6) hZ (hw _ (List.mem_of_getElem? (i := 4) rfl)) (hw _ (List.mem_of_getElem? (i := 3) rfl)) (by decide) (by decide)) (g := (mkF m 21 #[.val (.int p0), .val (.int p1), .val (.int p2), .val (.int p3), .val (.int p4), .val (.int (0 : Int32)), .val (.int w0_c9_s_v6), .val (.int w0_c15_s_v6), .unset, .unset, .unset, .unset, .unset, .unset, .unset] [(.int p3)])) rfl (by rw [hml]; rfl) (argsL := [(.int p3)]) (rest := []) (lenOf own_pd_28I29I rfl) rfl (by show 2 * 0 + _ ≤ _; exact Nat.le_of_eq rfl) (hb hby at_21) (fun _ _ => ⟨rfl, ew02, (by decide : 0 + 0 ≤ _), (by decide : 0 + 0 ≤ _)⟩)
  dsimp only [Pt.U, Pt.locs, Pt.cells, Pt.slots] at Xw03 lw03 yw03 zw03 stw03 hQw03
  subst lw03 yw03 zw03
  obtain ⟨rfl, Nw03q, ew03⟩ := hQw03
  have Nw03 := Fr.app Nw02 Nw03q
  obtain ⟨_, _, ⟨Tw04, Lw04, kw04, nw04⟩, -, Xw04, ⟨Lcw04, hQw04, lw04, yw04, zw04⟩, stw04⟩ := Jvm.LawKit.callS Xw03 hx (y := (⟨"com/example/differentia/differentia/problems/ProblemsSpherePinLaw", "small", "(I)I"⟩ : MethodName)) hown (mvT hZ (hw _ (List.mem_of_getElem? (i := 1) rfl))) (mvT hZ (hw _ (List.mem_of_getElem? (i := 2) rfl))) (mvT hZ (hw _ (List.mem_of_getElem? (i := 3) rfl))) (mvT hZ (hw _ (List.mem_of_getElem? (i := 4) rfl))) (by decide) (backOf (W := 0) (own_rm_s l Z a0 hw [] p4 h0 n0 Z0 w0_c28_s_hv3 w0_c28_s_hv6) hZ (hw _ (List.mem_of_getElem? (i := 4) rfl)) (hw _ (List.mem_of_getElem? (i := 3) rfl)) (by decide) (by decide)) (g := (mkF m 28 #[.val (.int p0), .val (.int p1), .val (.int p2), .val (.int p3), .val (.int p4), .val (.int (0 : Int32)), .val (.int w0_c9_s_v6), .val (.int w0_c15_s_v6), .val (.int w0_c21_s_v6), .unset, .unset, .unset, .unset, .unset, .unset] [(.int p4)])) rfl (by rw [hml]; rfl) (argsL := [(.int p4)]) (rest := []) (lenOf own_pd_28I29I rfl) rfl (by show 2 * 0 + _ ≤ _; exact Nat.le_of_eq rfl) (hb hby at_28) (fun _ _ => ⟨rfl, ew03, (by decide : 0 + 0 ≤ _), (by decide : 0 + 0 ≤ _)⟩)
  dsimp only [Pt.U, Pt.locs, Pt.cells, Pt.slots] at Xw04 lw04 yw04 zw04 stw04 hQw04
  subst lw04 yw04 zw04
  obtain ⟨rfl, Nw04q, ew04⟩ := hQw04
  have Nw04 := Fr.app Nw03 Nw04q
  obtain ⟨Tw05, hw05, kw05, bw05, Xw05, ew05, Ew05, Gw05, Vw05, stw05⟩ := own_newD (L := #[.val (.int p0), .val (.int p1), .val (.int p2), .val (.int p3), .val (.int p4), .val (.int (0 : Int32)), .val (.int w0_c9_s_v6), .val (.int w0_c15_s_v6), .val (.int w0_c21_s_v6), .val (.int w0_c28_s_v6), .unset, .unset, .unset, .unset, .unset]) (S := []) Xw04 hx hZ (hw _ (List.mem_of_getElem? (i := 5) rfl)) ew04 (z := (0 : Int32)) 0 (by decide) (by decide) (by decide) (by decide) (by decide) (hb hby at_35) (pc' := 37) rfl
  have g_bw05 : n0 ≤ bw05 := Nat.le_trans Z0 (Nat.le_of_eq Gw05.symm)
  have sz_bw05 : h0.size ≤ bw05 := Nat.le_trans (Keep.refl h0 []).1 (Nat.le_of_eq Gw05.symm)
  have Zw05 : n0 ≤ hw05.size := Nat.le_trans Z0 Ew05.1
  have KKw05 := (Keep.refl h0 []).ext Ew05
  have V_bw05 : Arv Z hw05 bw05 kw05 .double (0 : Int32) [] (.double 0) := Vw05
  obtain ⟨_, _, ⟨Tw06, Lw06, kw06, nw06⟩, -, Xw06, ⟨Lcw06, hQw06, lw06, yw06, zw06⟩, stw06⟩ := Jvm.LawKit.callS Xw05 hx (y := (⟨"com/example/differentia/differentia/problems/Problems", "sphere", "([D)D"⟩ : MethodName)) hown (mvT hZ (hw _ (List.mem_of_getElem? (i := 6) rfl))) (mvT hZ (hw _ (List.mem_of_getElem? (i := 7) rfl))) (mvT hZ (hw _ (List.mem_of_getElem? (i := 8) rfl))) (mvT hZ (hw _ (List.mem_of_getElem? (i := 9) rfl))) (by decide) (backOf (W := 0) (own_rm_c0 l Z a0 hw [] bw05 hw05 n0 Zw05 V_bw05) hZ (hw _ (List.mem_of_getElem? (i := 9) rfl)) (hw _ (List.mem_of_getElem? (i := 8) rfl)) (by decide) (by decide)) (g := (mkF m 143 #[.val (.int p0), .val (.int p1), .val (.int p2), .val (.int p3), .val (.int p4), .val (.int (0 : Int32)), .val (.int w0_c9_s_v6), .val (.int w0_c15_s_v6), .val (.int w0_c21_s_v6), .val (.int w0_c28_s_v6), .val (.ref bw05), .val (.long (0 : Int64)), .second, .unset, .unset] [(.ref bw05)])) rfl (by rw [hml]; rfl) (argsL := [(.ref bw05)]) (rest := []) (lenOf own_pd_285bD29D rfl) rfl (by show 2 * 0 + _ ≤ _; exact Nat.le_of_eq rfl) (hb hby at_143) (fun _ _ => ⟨rfl, ew05, (by decide : 1 + 0 ≤ _), (by decide : 0 + 0 ≤ _)⟩)
  dsimp only [Pt.U, Pt.locs, Pt.cells, Pt.slots] at Xw06 lw06 yw06 zw06 stw06 hQw06
  subst lw06 yw06 zw06
  obtain ⟨rfl, Nw06q, ew06⟩ := hQw06
  have Nw06 := Fr.app Nw04 Nw06q
  obtain ⟨fs, hr, hrun, hended, hW, hsame⟩ := Xw06.leave (v := some (.int (1 : Int32))) (fun h => by rw [Bd.returns] at h; cases h)
  refine ⟨_, _, pre0 _ ?_, hrun, hended, _, _, rfl, ?_, ⟨_, rfl⟩, hW, hsame.mono (by decide) (by decide)⟩
  · refine own_s_iloadN X0.here hx (hb hby at_0) (pc' := 1) rfl rfl ?_
    refine X0.ldcInt hx hown (mvT hZ (hw _ (List.mem_of_getElem? (i := 0) rfl))) (g := (mkF m 1 #[.val (.int p0), .val (.int p1), .val (.int p2), .val (.int p3), .val (.int p4), .unset, .unset, .unset, .unset, .unset, .unset, .unset, .unset, .unset, .unset] [(.int p0)])) rfl (hb hby at_1) _ ?_
    show Steps p.tables e below (s₁.setTop (mkF m 3 #[.val (.int p0), .val (.int p1), .val (.int p2), .val (.int p3), .val (.int p4), .unset, .unset, .unset, .unset, .unset, .unset, .unset, .unset, .unset, .unset] [(.int (2147483647 : Int32)), (.int p0)])) _
    refine own_s_iand X0.here hx (hb hby at_3) (pc' := 4) rfl (v := w0_v3) w0_hv3 ?_
    refine own_s_iconst X0.here hx (hb hby at_4) (pc' := 5) rfl (v := (5 : Int32)) (by decide) ?_
    refine own_s_irem X0.here hx (hb hby at_5) (pc' := 6) rfl (by decide) (v := (0 : Int32)) w0_hv5 ?_
    refine own_s_istore X0.here hx (hb hby at_6) (pc' := 8) rfl (L' := #[.val (.int p0), .val (.int p1), .val (.int p2), .val (.int p3), .val (.int p4), .val (.int (0 : Int32)), .unset, .unset, .unset, .unset, .unset, .unset, .unset, .unset, .unset]) rfl ?_
    refine own_s_iloadN X0.here hx (hb hby at_8) (pc' := 9) rfl rfl ?_
    refine stw01 _ ?_
    show Steps p.tables e below (Tw01.setTop (mkF m 12 #[.val (.int p0), .val (.int p1), .val (.int p2), .val (.int p3), .val (.int p4), .val (.int (0 : Int32)), .unset, .unset, .unset, .unset, .unset, .unset, .unset, .unset, .unset] [(.int w0_c9_s_v6)])) _
    refine own_s_istore Xw01.here hx (hb hby at_12) (pc' := 14) rfl (L' := #[.val (.int p0), .val (.int p1), .val (.int p2), .val (.int p3), .val (.int p4), .val (.int (0 : Int32)), .val (.int w0_c9_s_v6), .unset, .unset, .unset, .unset, .unset, .unset, .unset, .unset]) rfl ?_
    refine own_s_iloadN Xw01.here hx (hb hby at_14) (pc' := 15) rfl rfl ?_
    refine stw02 _ ?_
    show Steps p.tables e below (Tw02.setTop (mkF m 18 #[.val (.int p0), .val (.int p1), .val (.int p2), .val (.int p3), .val (.int p4), .val (.int (0 : Int32)), .val (.int w0_c9_s_v6), .unset, .unset, .unset, .unset, .unset, .unset, .unset, .unset] [(.int w0_c15_s_v6)])) _
    refine own_s_istore Xw02.here hx (hb hby at_18) (pc' := 20) rfl (L' := #[.val (.int p0), .val (.int p1), .val (.int p2), .val (.int p3), .val (.int p4), .val (.int (0 : Int32)), .val (.int w0_c9_s_v6), .val (.int w0_c15_s_v6), .unset, .unset, .unset, .unset, .unset, .unset, .unset]) rfl ?_
    refine own_s_iloadN Xw02.here hx (hb hby at_20) (pc' := 21) rfl rfl ?_
    refine stw03 _ ?_
    show Steps p.tables e below (Tw03.setTop (mkF m 24 #[.val (.int p0), .val (.int p1), .val (.int p2), .val (.int p3), .val (.int p4), .val (.int (0 : Int32)), .val (.int w0_c9_s_v6), .val (.int w0_c15_s_v6), .unset, .unset, .unset, .unset, .unset, .unset, .unset] [(.int w0_c21_s_v6)])) _
    refine own_s_istore Xw03.here hx (hb hby at_24) (pc' := 26) rfl (L' := #[.val (.int p0), .val (.int p1), .val (.int p2), .val (.int p3), .val (.int p4), .val (.int (0 : Int32)), .val (.int w0_c9_s_v6), .val (.int w0_c15_s_v6), .val (.int w0_c21_s_v6), .unset, .unset, .unset, .unset, .unset, .unset]) rfl ?_
    refine own_s_iload Xw03.here hx (hb hby at_26) (pc' := 28) rfl rfl ?_
    refine stw04 _ ?_
    show Steps p.tables e below (Tw04.setTop (mkF m 31 #[.val (.int p0), .val (.int p1), .val (.int p2), .val (.int p3), .val (.int p4), .val (.int (0 : Int32)), .val (.int w0_c9_s_v6), .val (.int w0_c15_s_v6), .val (.int w0_c21_s_v6), .unset, .unset, .unset, .unset, .unset, .unset] [(.int w0_c28_s_v6)])) _
    refine own_s_istore Xw04.here hx (hb hby at_31) (pc' := 33) rfl (L' := #[.val (.int p0), .val (.int p1), .val (.int p2), .val (.int p3), .val (.int p4), .val (.int (0 : Int32)), .val (.int w0_c9_s_v6), .val (.int w0_c15_s_v6), .val (.int w0_c21_s_v6), .val (.int w0_c28_s_v6), .unset, .unset, .unset, .unset, .unset]) rfl ?_
    refine own_s_iload Xw04.here hx (hb hby at_33) (pc' := 35) rfl rfl ?_
    refine stw05 _ ?_
    refine own_s_astore Xw05.here hx (hb hby at_37) (pc' := 39) rfl rfl (L' := #[.val (.int p0), .val (.int p1), .val (.int p2), .val (.int p3), .val (.int p4), .val (.int (0 : Int32)), .val (.int w0_c9_s_v6), .val (.int w0_c15_s_v6), .val (.int w0_c21_s_v6), .val (.int w0_c28_s_v6), .val (.ref bw05), .unset, .unset, .unset, .unset]) rfl ?_
    refine own_s_lconst Xw05.here hx (hb hby at_39) (pc' := 40) rfl (v := (0 : Int64)) (by decide) ?_
    refine own_s_lstore Xw05.here hx (hb hby at_40) (pc' := 42) rfl (L' := #[.val (.int p0), .val (.int p1), .val (.int p2), .val (.int p3), .val (.int p4), .val (.int (0 : Int32)), .val (.int w0_c9_s_v6), .val (.int w0_c15_s_v6), .val (.int w0_c21_s_v6), .val (.int w0_c28_s_v6), .val (.ref bw05), .val (.long (0 : Int64)), .second, .unset, .unset]) rfl ?_
    refine own_s_iload Xw05.here hx (hb hby at_42) (pc' := 44) rfl rfl ?_
    refine own_s_ifYes Xw05.here hx (hb hby at_44) (by decide) (pc' := 66) (by decide) (by decide) ?_
    refine own_s_iload Xw05.here hx (hb hby at_66) (pc' := 68) rfl rfl ?_
    refine own_s_iconst Xw05.here hx (hb hby at_68) (pc' := 69) rfl (v := (1 : Int32)) (by decide) ?_
    refine own_s_icmpYes Xw05.here hx (hb hby at_69) (by decide) (pc' := 91) (by decide) (by decide) ?_
    refine own_s_iload Xw05.here hx (hb hby at_91) (pc' := 93) rfl rfl ?_
    refine own_s_iconst Xw05.here hx (hb hby at_93) (pc' := 94) rfl (v := (2 : Int32)) (by decide) ?_
    refine own_s_icmpYes Xw05.here hx (hb hby at_94) (by decide) (pc' := 116) (by decide) (by decide) ?_
    refine own_s_iload Xw05.here hx (hb hby at_116) (pc' := 118) rfl rfl ?_
    refine own_s_iconst Xw05.here hx (hb hby at_118) (pc' := 119) rfl (v := (3 : Int32)) (by decide) ?_
    refine own_s_icmpYes Xw05.here hx (hb hby at_119) (by decide) (pc' := 141) (by decide) (by decide) ?_
    refine own_s_aload Xw05.here hx (hb hby at_141) (pc' := 143) rfl rfl rfl ?_
    refine stw06 _ ?_
    show Steps p.tables e below (Tw06.setTop (mkF m 146 #[.val (.int p0), .val (.int p1), .val (.int p2), .val (.int p3), .val (.int p4), .val (.int (0 : Int32)), .val (.int w0_c9_s_v6), .val (.int w0_c15_s_v6), .val (.int w0_c21_s_v6), .val (.int w0_c28_s_v6), .val (.ref bw05), .val (.long (0 : Int64)), .second, .unset, .unset] [(.double 0)])) _
    refine own_s_dstore Xw06.here hx (hb hby at_146) (pc' := 148) rfl (L' := #[.val (.int p0), .val (.int p1), .val (.int p2), .val (.int p3), .val (.int p4), .val (.int (0 : Int32)), .val (.int w0_c9_s_v6), .val (.int w0_c15_s_v6), .val (.int w0_c21_s_v6), .val (.int w0_c28_s_v6), .val (.ref bw05), .val (.long (0 : Int64)), .second, .val (.double 0), .second]) rfl ?_
    refine own_s_dload Xw06.here hx (hb hby at_148) (pc' := 150) rfl rfl ?_
    refine own_s_lload Xw06.here hx (hb hby at_150) (pc' := 152) rfl rfl ?_
    refine own_s_l2d Xw06.here hx (hb hby at_152) (pc' := 153) rfl (v := (FP.l2d (0 : Int64))) rfl ?_
    refine own_s_dcmp Xw06.here hx (hb hby at_153) (pc' := 154) rfl (v := (0 : Int32)) w0_hc153 ?_
    refine own_s_ifNo Xw06.here hx (hb hby at_154) (pc' := 157) rfl (by decide) ?_
    refine own_s_iconst Xw06.here hx (hb hby at_157) (pc' := 158) rfl (v := (1 : Int32)) (by decide) ?_
    refine own_s_goto Xw06.here hx (hb hby at_158) (by decide) (pc' := 162) (by decide) ?_
    exact retN Xw06 hx (t := .boolean) Bd.returns (by simp) (hb hby at_162) hr
  · show own_Q0 n0 _ Tw06.heap _
    rw [ew06]
    exact ⟨rfl, Nw06⟩
theorem own_d2_18 : decode prog_68_method_5_code 18 = .ok (.aload_n 3, 1) := by decide +kernel
theorem own_d2_19 : decode prog_68_method_5_code 19 = .ok (.iload 5, 2) := by decide +kernel
theorem own_d2_21 : decode prog_68_method_5_code 21 = .ok (.daload, 1) := by decide +kernel
theorem own_d2_22 : decode prog_68_method_5_code 22 = .ok (.dstore 6, 2) := by decide +kernel
theorem own_d2_24 : decode prog_68_method_5_code 24 = .ok (.dload_n 1, 1) := by decide +kernel
theorem own_d2_25 : decode prog_68_method_5_code 25 = .ok (.dload 6, 2) := by decide +kernel
theorem own_d2_27 : decode prog_68_method_5_code 27 = .ok (.dload 6, 2) := by decide +kernel
theorem own_d2_29 : decode prog_68_method_5_code 29 = .ok (.dmul, 1) := by decide +kernel
theorem own_d2_30 : decode prog_68_method_5_code 30 = .ok (.dadd, 1) := by decide +kernel
theorem own_d2_31 : decode prog_68_method_5_code 31 = .ok (.dstore_n 1, 1) := by decide +kernel
theorem own_d2_32 : decode prog_68_method_5_code 32 = .ok (.iinc 5 1, 3) := by decide +kernel
theorem own_d2_35 : decode prog_68_method_5_code 35 = .ok (.goto (-24), 3) := by decide +kernel
theorem own_ef_c1 (m : MethodId) (q : Addr) : entryFrame m #[(.ref q)] 8 = mkF m 0 #[.val (.ref q), .unset, .unset, .unset, .unset, .unset, .unset, .unset] [] := by first | (simp [entryFrame, mkF, argsToLocals, Value.category]; done) | rfl
set_option maxRecDepth 65536 in
set_option maxHeartbeats 40000000 in
theorem own_rm_c1 (l : Launch) (Z : State) (a0 : Array Value) (hw : ∀ d ∈ tables_1, d.before a0 Z = true) (ws : List Jvm.Cond) (q : Addr) (d0 : UInt64) {qk : ClassId} {c1_v29 : UInt64} {c1_v30 : UInt64} (h0 : Heap) (n0 : Nat) (Z0 : n0 ≤ h0.size) (V_q : Arv Z h0 q qk .double (1 : Int32) [(.double d0)] (.double 0)) (c1_hn29 : Jvm.Free.Fl.NoNaN64 (FP.dmul d0 d0)) (c1_hv29 : FP.dmul d0 d0 = c1_v29) (c1_hn30 : Jvm.Free.Fl.NoNaN64 (FP.dadd 0 c1_v29)) (c1_hv30 : FP.dadd 0 c1_v29 = c1_v30) :
    MetFree l (⟨"com/example/differentia/differentia/problems/Problems", "sphere", "([D)D"⟩ : MethodName) (head1 (Jvm.Cond.code (⟨"com/example/differentia/differentia/problems/Problems", "sphere", "([D)D"⟩ : MethodName) prog_68_method_5_code 8 (some .double) :: ws) ({ frames := 0, cells := 0, slots := 0, locals := 0 } : Room)) (fun a U => a = #[(.ref q)] ∧ Z.Warmed39 U.vm ∧ U.heap = h0) (fun _ _ _ _ _ => True) (fun _ U o U' => ∃ v L, o = .returned v ∧ own_QP (some (.double c1_v30)) h0 n0 v U'.heap L ∧ FrameEnd U o U' L ({ frames := 0, cells := 0, slots := 0, locals := 0 } : Room).cells ({ frames := 0, cells := 0, slots := 0, locals := 0 } : Room).slots) := by
  refine MetFree.of_bodySF (plainFor_of_name own_pn_com_example_differentia_differentia_problems_Problems) hisR ?_
  intro p e s m args below meth c s₁ Bd hml0 hP hK
  obtain ⟨rfl, hZ, hh⟩ := hP
  have hx := Bd.exec
  have hby := Bd.bytes
  have hml : c.maxLocals = 8 := hml0
  have hown : s.vm.findClass "com/example/differentia/differentia/problems/Problems" = some m.cls := findClass_of_methodNamed Bd.named
  have hnm := (name_of_methodNamed Bd.named Bd.method).1
  have X0 : Stand p l e ({ frames := 0, cells := 0, slots := 0, locals := 0 } : Room) s m #[(.ref q)] below meth c s₁ [] 0 0 := Stand.of_body Bd
  have e0 : s₁.heap = h0 := by rw [← hh, Bd.state]; rfl
  have N0 := Fr.nil n0
  have pre0 : ∀ t, Steps p.tables e below (s₁.setTop (mkF m 0 #[.val (.ref q), .unset, .unset, .unset, .unset, .unset, .unset, .unset] [])) t → Steps p.tables e below (s₁.setTop (entryFrame m #[(.ref q)] 8)) t := fun t k => castTop (own_ef_c1 m q) k
  obtain ⟨fs, hr, hrun, hended, hW, hsame⟩ := X0.leave (v := some (.double c1_v30)) (fun h => by rw [Bd.returns] at h; cases h)
  refine ⟨_, _, pre0 _ ?_, hrun, hended, _, _, rfl, ?_, ⟨_, rfl⟩, hW, hsame.mono (by decide) (by decide)⟩
  · refine own_s_dconst0 X0.here hx (hb hby own_d2_0) (pc' := 1) rfl  ?_
    refine own_s_dstoreN X0.here hx (hb hby own_d2_1) (pc' := 2) rfl (L' := #[.val (.ref q), .val (.double 0), .second, .unset, .unset, .unset, .unset, .unset]) rfl ?_
    refine own_s_aloadN X0.here hx (hb hby own_d2_2) (pc' := 3) rfl rfl rfl ?_
    refine own_s_astoreN X0.here hx (hb hby own_d2_3) (pc' := 4) rfl rfl (L' := #[.val (.ref q), .val (.double 0), .second, .val (.ref q), .unset, .unset, .unset, .unset]) rfl ?_
    refine own_s_aloadN X0.here hx (hb hby own_d2_4) (pc' := 5) rfl rfl rfl ?_
    refine own_len X0 hx hZ e0 V_q (hb hby own_d2_5) (pc' := 6) rfl ?_
    refine own_s_istore X0.here hx (hb hby own_d2_6) (pc' := 8) rfl (L' := #[.val (.ref q), .val (.double 0), .second, .val (.ref q), .val (.int (1 : Int32)), .unset, .unset, .unset]) rfl ?_
    refine own_s_iconst X0.here hx (hb hby own_d2_8) (pc' := 9) rfl (v := (0 : Int32)) (by decide) ?_
    refine own_s_istore X0.here hx (hb hby own_d2_9) (pc' := 11) rfl (L' := #[.val (.ref q), .val (.double 0), .second, .val (.ref q), .val (.int (1 : Int32)), .val (.int (0 : Int32)), .unset, .unset]) rfl ?_
    refine own_s_iload X0.here hx (hb hby own_d2_11) (pc' := 13) rfl rfl ?_
    refine own_s_iload X0.here hx (hb hby own_d2_13) (pc' := 15) rfl rfl ?_
    refine own_s_icmpNo X0.here hx (hb hby own_d2_15) (pc' := 18) rfl (by decide) ?_
    refine own_s_aloadN X0.here hx (hb hby own_d2_18) (pc' := 19) rfl rfl rfl ?_
    refine own_s_iload X0.here hx (hb hby own_d2_19) (pc' := 21) rfl rfl ?_
    refine own_ldD X0 hx hZ e0 V_q (j := (0 : Int32)) (x := d0) (by decide) rfl (hb hby own_d2_21) (pc' := 22) rfl ?_
    refine own_s_dstore X0.here hx (hb hby own_d2_22) (pc' := 24) rfl (L' := #[.val (.ref q), .val (.double 0), .second, .val (.ref q), .val (.int (1 : Int32)), .val (.int (0 : Int32)), .val (.double d0), .second]) rfl ?_
    refine own_s_dloadN X0.here hx (hb hby own_d2_24) (pc' := 25) rfl rfl ?_
    refine own_s_dload X0.here hx (hb hby own_d2_25) (pc' := 27) rfl rfl ?_
    refine own_s_dload X0.here hx (hb hby own_d2_27) (pc' := 29) rfl rfl ?_
    refine own_s_dmul X0.here hx (hb hby own_d2_29) (pc' := 30) rfl c1_hn29 (v := c1_v29) c1_hv29 ?_
    refine own_s_dadd X0.here hx (hb hby own_d2_30) (pc' := 31) rfl c1_hn30 (v := c1_v30) c1_hv30 ?_
    refine own_s_dstoreN X0.here hx (hb hby own_d2_31) (pc' := 32) rfl (L' := #[.val (.ref q), .val (.double c1_v30), .second, .val (.ref q), .val (.int (1 : Int32)), .val (.int (0 : Int32)), .val (.double d0), .second]) rfl ?_
    refine own_s_iinc X0.here hx (hb hby own_d2_32) (pc' := 35) rfl rfl (v := (1 : Int32)) (by decide) (L' := #[.val (.ref q), .val (.double c1_v30), .second, .val (.ref q), .val (.int (1 : Int32)), .val (.int (1 : Int32)), .val (.double d0), .second]) rfl ?_
    refine own_s_goto X0.here hx (hb hby own_d2_35) (by decide) (pc' := 11) (by decide) ?_
    refine own_s_iload X0.here hx (hb hby own_d2_11) (pc' := 13) rfl rfl ?_
    refine own_s_iload X0.here hx (hb hby own_d2_13) (pc' := 15) rfl rfl ?_
    refine own_s_icmpYes X0.here hx (hb hby own_d2_15) (by decide) (pc' := 38) (by decide) (by decide) ?_
    refine own_s_dloadN X0.here hx (hb hby own_d2_38) (pc' := 39) rfl rfl ?_
    exact own_retD X0 hx Bd.returns (hb hby own_d2_39) hr
  · show own_QP (some (.double c1_v30)) h0 n0 _ s₁.heap _
    rw [e0]
    exact ⟨rfl, N0, rfl⟩
theorem own_ef_w1 (m : MethodId) (p0 : Int32) (p1 : Int32) (p2 : Int32) (p3 : Int32) (p4 : Int32) : entryFrame m #[(.int p0), (.int p1), (.int p2), (.int p3), (.int p4)] maxLocals = mkF m 0 #[.val (.int p0), .val (.int p1), .val (.int p2), .val (.int p3), .val (.int p4), .unset, .unset, .unset, .unset, .unset, .unset, .unset, .unset, .unset, .unset] [] := by first | (simp [entryFrame, mkF, argsToLocals, Value.category, maxLocals]; done) | rfl
set_option maxRecDepth 65536 in
set_option maxHeartbeats 40000000 in
theorem own_rm_w1 (l : Launch) (Z : State) (a0 : Array Value) (hw : ∀ d ∈ tables_1, d.before a0 Z = true) (ws : List Jvm.Cond) (p0 : Int32) (p1 : Int32) (p2 : Int32) (p3 : Int32) (p4 : Int32) {w1_v3 : Int32} {w1_c9_s_v3 : Int32} {w1_c9_s_v6 : Int32} {w1_c15_s_v3 : Int32} {w1_c15_s_v6 : Int32} {w1_c21_s_v3 : Int32} {w1_c21_s_v6 : Int32} {w1_c28_s_v3 : Int32} {w1_c28_s_v6 : Int32} {w1_v58 : Int64} {w1_v61 : Int64} {w1_v62 : Int64} {w1_v63 : Int64} {w1_c143_c1_v29 : UInt64} {w1_c143_c1_v30 : UInt64} (h0 : Heap) (n0 : Nat) (Z0 : n0 ≤ h0.size)  (w1_hv3 : p0 &&& (2147483647 : Int32) = w1_v3) (w1_hv5 : w1_v3 % (5 : Int32) = (1 : Int32)) (w1_c9_s_hv3 : p1 <<< ((7 : Int32) &&& 31) = w1_c9_s_v3) (w1_c9_s_hv6 : w1_c9_s_v3 >>> ((7 : Int32) &&& 31) = w1_c9_s_v6) (w1_c15_s_hv3 : p2 <<< ((7 : Int32) &&& 31) = w1_c15_s_v3) (w1_c15_s_hv6 : w1_c15_s_v3 >>> ((7 : Int32) &&& 31) = w1_c15_s_v6) (w1_c21_s_hv3 : p3 <<< ((7 : Int32) &&& 31) = w1_c21_s_v3) (w1_c21_s_hv6 : w1_c21_s_v3 >>> ((7 : Int32) &&& 31) = w1_c21_s_v6) (w1_c28_s_hv3 : p4 <<< ((7 : Int32) &&& 31) = w1_c28_s_v3) (w1_c28_s_hv6 : w1_c28_s_v3 >>> ((7 : Int32) &&& 31) = w1_c28_s_v6) (w1_hv58 : Int32.toInt64 w1_c9_s_v6 = w1_v58) (w1_hv61 : Int32.toInt64 w1_c9_s_v6 = w1_v61) (w1_hv62 : w1_v58 * w1_v61 = w1_v62) (w1_hv63 : (0 : Int64) + w1_v62 = w1_v63) (w1_c143_c1_hn29 : Jvm.Free.Fl.NoNaN64 (FP.dmul (FP.i2d w1_c9_s_v6) (FP.i2d w1_c9_s_v6))) (w1_c143_c1_hv29 : FP.dmul (FP.i2d w1_c9_s_v6) (FP.i2d w1_c9_s_v6) = w1_c143_c1_v29) (w1_c143_c1_hn30 : Jvm.Free.Fl.NoNaN64 (FP.dadd 0 w1_c143_c1_v29)) (w1_c143_c1_hv30 : FP.dadd 0 w1_c143_c1_v29 = w1_c143_c1_v30) (w1_hc153 : Op.cmpValue (FP.dcmp w1_c143_c1_v30 (FP.l2d w1_v63)) .l = (0 : Int32)) :
    MetFree l x (head1 (Jvm.Cond.code x code maxLocals ret :: ws) room_1) (fun a U => a = #[(.int p0), (.int p1), (.int p2), (.int p3), (.int p4)] ∧ Z.Warmed39 U.vm ∧ U.heap = h0) (fun _ _ _ _ _ => True) (fun _ U o U' => ∃ v L, o = .returned v ∧ own_Q0 n0 v U'.heap L ∧ FrameEnd U o U' L room_1.cells room_1.slots) := by
  refine MetFree.of_bodySF (plainFor_of_name own_pn_com_example_differentia_differentia_problems_ProblemsSpherePinLaw) hisR ?_
  intro p e s m args below meth c s₁ Bd hml0 hP hK
  obtain ⟨rfl, hZ, hh⟩ := hP
  have hx := Bd.exec
  have hby := Bd.bytes
  have hml : c.maxLocals = 15 := hml0
  have hown : s.vm.findClass "com/example/differentia/differentia/problems/ProblemsSpherePinLaw" = some m.cls := findClass_of_methodNamed Bd.named
  have hnm := (name_of_methodNamed Bd.named Bd.method).1
  have X0 : Stand p l e room_1 s m #[(.int p0), (.int p1), (.int p2), (.int p3), (.int p4)] below meth c s₁ [] 0 0 := Stand.of_body Bd
  have e0 : s₁.heap = h0 := by rw [← hh, Bd.state]; rfl
  have N0 := Fr.nil n0
  have pre0 : ∀ t, Steps p.tables e below (s₁.setTop (mkF m 0 #[.val (.int p0), .val (.int p1), .val (.int p2), .val (.int p3), .val (.int p4), .unset, .unset, .unset, .unset, .unset, .unset, .unset, .unset, .unset, .unset] [])) t → Steps p.tables e below (s₁.setTop (entryFrame m #[(.int p0), (.int p1), (.int p2), (.int p3), (.int p4)] maxLocals)) t := fun t k => castTop (own_ef_w1 m p0 p1 p2 p3 p4) k
  obtain ⟨_, _, ⟨Tw11, Lw11, kw11, nw11⟩, -, Xw11, ⟨Lcw11, hQw11, lw11, yw11, zw11⟩, stw11⟩ := Jvm.LawKit.callS X0 hx (y := (⟨"com/example/differentia/differentia/problems/ProblemsSpherePinLaw", "small", "(I)I"⟩ : MethodName)) hown (mvT hZ (hw _ (List.mem_of_getElem? (i := 1) rfl))) (mvT hZ (hw _ (List.mem_of_getElem? (i := 2) rfl))) (mvT hZ (hw _ (List.mem_of_getElem? (i := 3) rfl))) (mvT hZ (hw _ (List.mem_of_getElem? (i := 4) rfl))) (by decide) (backOf (W := 0) (own_rm_s l Z a0 hw [] p1 h0 n0 Z0 w1_c9_s_hv3 w1_c9_s_hv6) hZ (hw _ (List.mem_of_getElem? (i := 4) rfl)) (hw _ (List.mem_of_getElem? (i := 3) rfl)) (by decide) (by decide)) (g := (mkF m 9 #[.val (.int p0), .val (.int p1), .val (.int p2), .val (.int p3), .val (.int p4), .val (.int (1 : Int32)), .unset, .unset, .unset, .unset, .unset, .unset, .unset, .unset, .unset] [(.int p1)])) rfl (by rw [hml]; rfl) (argsL := [(.int p1)]) (rest := []) (lenOf own_pd_28I29I rfl) rfl (by show 2 * 0 + _ ≤ _; exact Nat.le_of_eq rfl) (hb hby at_9) (fun _ _ => ⟨rfl, e0, (by decide : 0 + 0 ≤ _), (by decide : 0 + 0 ≤ _)⟩)
  dsimp only [Pt.U, Pt.locs, Pt.cells, Pt.slots] at Xw11 lw11 yw11 zw11 stw11 hQw11
  subst lw11 yw11 zw11
  obtain ⟨rfl, Nw11q, ew11⟩ := hQw11
  have Nw11 := Fr.app N0 Nw11q
  obtain ⟨_, _, ⟨Tw12, Lw12, kw12, nw12⟩, -, Xw12, ⟨Lcw12, hQw12, lw12, yw12, zw12⟩, stw12⟩ := Jvm.LawKit.callS Xw11 hx (y := (⟨"com/example/differentia/differentia/problems/ProblemsSpherePinLaw", "small", "(I)I"⟩ : MethodName)) hown (mvT hZ (hw _ (List.mem_of_getElem? (i := 1) rfl))) (mvT hZ (hw _ (List.mem_of_getElem? (i := 2) rfl))) (mvT hZ (hw _ (List.mem_of_getElem? (i := 3) rfl))) (mvT hZ (hw _ (List.mem_of_getElem? (i := 4) rfl))) (by decide) (backOf (W := 0) (own_rm_s l Z a0 hw [] p2 h0 n0 Z0 w1_c15_s_hv3 w1_c15_s_hv6) hZ (hw _ (List.mem_of_getElem? (i := 4) rfl)) (hw _ (List.mem_of_getElem? (i := 3) rfl)) (by decide) (by decide)) (g := (mkF m 15 #[.val (.int p0), .val (.int p1), .val (.int p2), .val (.int p3), .val (.int p4), .val (.int (1 : Int32)), .val (.int w1_c9_s_v6), .unset, .unset, .unset, .unset, .unset, .unset, .unset, .unset] [(.int p2)])) rfl (by rw [hml]; rfl) (argsL := [(.int p2)]) (rest := []) (lenOf own_pd_28I29I rfl) rfl (by show 2 * 0 + _ ≤ _; exact Nat.le_of_eq rfl) (hb hby at_15) (fun _ _ => ⟨rfl, ew11, (by decide : 0 + 0 ≤ _), (by decide : 0 + 0 ≤ _)⟩)
  dsimp only [Pt.U, Pt.locs, Pt.cells, Pt.slots] at Xw12 lw12 yw12 zw12 stw12 hQw12
  subst lw12 yw12 zw12
  obtain ⟨rfl, Nw12q, ew12⟩ := hQw12
  have Nw12 := Fr.app Nw11 Nw12q
  obtain ⟨_, _, ⟨Tw13, Lw13, kw13, nw13⟩, -, Xw13, ⟨Lcw13, hQw13, lw13, yw13, zw13⟩, stw13⟩ := Jvm.LawKit.callS Xw12 hx (y := (⟨"com/example/differentia/differentia/problems/ProblemsSpherePinLaw", "small", "(I)I"⟩ : MethodName)) hown (mvT hZ (hw _ (List.mem_of_getElem? (i := 1) rfl))) (mvT hZ (hw _ (List.mem_of_getElem? (i := 2) rfl))) (mvT hZ (hw _ (List.mem_of_getElem? (i := 3) rfl))) (mvT hZ (hw _ (List.mem_of_getElem? (i := 4) rfl))) (by decide) (backOf (W := 0) (own_rm_s l Z a0 hw [] p3 h0 n0 Z0 w1_c21_s_hv3 w1_c21_s_hv6) hZ (hw _ (List.mem_of_getElem? (i := 4) rfl)) (hw _ (List.mem_of_getElem? (i := 3) rfl)) (by decide) (by decide)) (g := (mkF m 21 #[.val (.int p0), .val (.int p1), .val (.int p2), .val (.int p3), .val (.int p4), .val (.int (1 : Int32)), .val (.int w1_c9_s_v6), .val (.int w1_c15_s_v6), .unset, .unset, .unset, .unset, .unset, .unset, .unset] [(.int p3)])) rfl (by rw [hml]; rfl) (argsL := [(.int p3)]) (rest := []) (lenOf own_pd_28I29I rfl) rfl (by show 2 * 0 + _ ≤ _; exact Nat.le_of_eq rfl) (hb hby at_21) (fun _ _ => ⟨rfl, ew12, (by decide : 0 + 0 ≤ _), (by decide : 0 + 0 ≤ _)⟩)
  dsimp only [Pt.U, Pt.locs, Pt.cells, Pt.slots] at Xw13 lw13 yw13 zw13 stw13 hQw13
  subst lw13 yw13 zw13
  obtain ⟨rfl, Nw13q, ew13⟩ := hQw13
  have Nw13 := Fr.app Nw12 Nw13q
  obtain ⟨_, _, ⟨Tw14, Lw14, kw14, nw14⟩, -, Xw14, ⟨Lcw14, hQw14, lw14, yw14, zw14⟩, stw14⟩ := Jvm.LawKit.callS Xw13 hx (y := (⟨"com/example/differentia/differentia/problems/ProblemsSpherePinLaw", "small", "(I)I"⟩ : MethodName)) hown (mvT hZ (hw _ (List.mem_of_getElem? (i := 1) rfl))) (mvT hZ (hw _ (List.mem_of_getElem? (i := 2) rfl))) (mvT hZ (hw _ (List.mem_of_getElem? (i := 3) rfl))) (mvT hZ (hw _ (List.mem_of_getElem? (i := 4) rfl))) (by decide) (backOf (W := 0) (own_rm_s l Z a0 hw [] p4 h0 n0 Z0 w1_c28_s_hv3 w1_c28_s_hv6) hZ (hw _ (List.mem_of_getElem? (i := 4) rfl)) (hw _ (List.mem_of_getElem? (i := 3) rfl)) (by decide) (by decide)) (g := (mkF m 28 #[.val (.int p0), .val (.int p1), .val (.int p2), .val (.int p3), .val (.int p4), .val (.int (1 : Int32)), .val (.int w1_c9_s_v6), .val (.int w1_c15_s_v6), .val (.int w1_c21_s_v6), .unset, .unset, .unset, .unset, .unset, .unset] [(.int p4)])) rfl (by rw [hml]; rfl) (argsL := [(.int p4)]) (rest := []) (lenOf own_pd_28I29I rfl) rfl (by show 2 * 0 + _ ≤ _; exact Nat.le_of_eq rfl) (hb hby at_28) (fun _ _ => ⟨rfl, ew13, (by decide : 0 + 0 ≤ _), (by decide : 0 + 0 ≤ _)⟩)
  dsimp only [Pt.U, Pt.locs, Pt.cells, Pt.slots] at Xw14 lw14 yw14 zw14 stw14 hQw14
  subst lw14 yw14 zw14
  obtain ⟨rfl, Nw14q, ew14⟩ := hQw14
  have Nw14 := Fr.app Nw13 Nw14q
  obtain ⟨Tw15, hw15, kw15, bw15, Xw15, ew15, Ew15, Gw15, Vw15, stw15⟩ := own_newD (L := #[.val (.int p0), .val (.int p1), .val (.int p2), .val (.int p3), .val (.int p4), .val (.int (1 : Int32)), .val (.int w1_c9_s_v6), .val (.int w1_c15_s_v6), .val (.int w1_c21_s_v6), .val (.int w1_c28_s_v6), .unset, .unset, .unset, .unset, .unset]) (S := []) Xw14 hx hZ (hw _ (List.mem_of_getElem? (i := 5) rfl)) ew14 (z := (1 : Int32)) 1 (by decide) (by decide) (by decide) (by decide) (by decide) (hb hby at_35) (pc' := 37) rfl
  have g_bw15 : n0 ≤ bw15 := Nat.le_trans Z0 (Nat.le_of_eq Gw15.symm)
  have sz_bw15 : h0.size ≤ bw15 := Nat.le_trans (Keep.refl h0 []).1 (Nat.le_of_eq Gw15.symm)
  have Zw15 : n0 ≤ hw15.size := Nat.le_trans Z0 Ew15.1
  have KKw15 := (Keep.refl h0 []).ext Ew15
  have V_bw15 : Arv Z hw15 bw15 kw15 .double (1 : Int32) [(.double 0)] (.double 0) := Vw15
  obtain ⟨Tw16, hw16, Xw16, ew16, Ww16, Vw16, stw16⟩ := own_stD (L := #[.val (.int p0), .val (.int p1), .val (.int p2), .val (.int p3), .val (.int p4), .val (.int (1 : Int32)), .val (.int w1_c9_s_v6), .val (.int w1_c15_s_v6), .val (.int w1_c21_s_v6), .val (.int w1_c28_s_v6), .val (.ref bw15), .val (.long (0 : Int64)), .second, .unset, .unset]) (S := []) Xw15 hx hZ ew15 V_bw15 (j := (0 : Int32)) (x := (FP.i2d w1_c9_s_v6)) (by decide) 0 (by decide) (Nat.le_of_ble_eq_true rfl) (hb hby at_53) (pc' := 54) rfl
  have Zw16 : n0 ≤ hw16.size := Nat.le_trans Zw15 (Nat.le_of_eq Ww16.size.symm)
  have KKw16 := KKw15.wr Ww16 (Or.inr sz_bw15)
  have V_bw15_w16 : Arv Z hw16 bw15 kw15 .double (1 : Int32) [(.double (FP.i2d w1_c9_s_v6))] (.double 0) := Vw16
  have Nw16 := Fr.snoc Xw16 Nw14 g_bw15
  obtain ⟨_, _, ⟨Tw17, Lw17, kw17, nw17⟩, -, Xw17, ⟨Lcw17, hQw17, lw17, yw17, zw17⟩, stw17⟩ := Jvm.LawKit.callS Xw16 hx (y := (⟨"com/example/differentia/differentia/problems/Problems", "sphere", "([D)D"⟩ : MethodName)) hown (mvT hZ (hw _ (List.mem_of_getElem? (i := 6) rfl))) (mvT hZ (hw _ (List.mem_of_getElem? (i := 7) rfl))) (mvT hZ (hw _ (List.mem_of_getElem? (i := 8) rfl))) (mvT hZ (hw _ (List.mem_of_getElem? (i := 9) rfl))) (by decide) (backOf (W := 0) (own_rm_c1 l Z a0 hw [] bw15 (FP.i2d w1_c9_s_v6) hw16 n0 Zw16 V_bw15_w16 w1_c143_c1_hn29 w1_c143_c1_hv29 w1_c143_c1_hn30 w1_c143_c1_hv30) hZ (hw _ (List.mem_of_getElem? (i := 9) rfl)) (hw _ (List.mem_of_getElem? (i := 8) rfl)) (by decide) (by decide)) (g := (mkF m 143 #[.val (.int p0), .val (.int p1), .val (.int p2), .val (.int p3), .val (.int p4), .val (.int (1 : Int32)), .val (.int w1_c9_s_v6), .val (.int w1_c15_s_v6), .val (.int w1_c21_s_v6), .val (.int w1_c28_s_v6), .val (.ref bw15), .val (.long w1_v63), .second, .unset, .unset] [(.ref bw15)])) rfl (by rw [hml]; rfl) (argsL := [(.ref bw15)]) (rest := []) (lenOf own_pd_285bD29D rfl) rfl (by show 2 * 0 + _ ≤ _; exact Nat.le_of_eq rfl) (hb hby at_143) (fun _ _ => ⟨rfl, ew16, (by decide : 1 + 0 ≤ _), (by decide : 1 + 0 ≤ _)⟩)
  dsimp only [Pt.U, Pt.locs, Pt.cells, Pt.slots] at Xw17 lw17 yw17 zw17 stw17 hQw17
  subst lw17 yw17 zw17
  obtain ⟨rfl, Nw17q, ew17⟩ := hQw17
  have Nw17 := Fr.app Nw16 Nw17q
  obtain ⟨fs, hr, hrun, hended, hW, hsame⟩ := Xw17.leave (v := some (.int (1 : Int32))) (fun h => by rw [Bd.returns] at h; cases h)
  refine ⟨_, _, pre0 _ ?_, hrun, hended, _, _, rfl, ?_, ⟨_, rfl⟩, hW, hsame.mono (by decide) (by decide)⟩
  · refine own_s_iloadN X0.here hx (hb hby at_0) (pc' := 1) rfl rfl ?_
    refine X0.ldcInt hx hown (mvT hZ (hw _ (List.mem_of_getElem? (i := 0) rfl))) (g := (mkF m 1 #[.val (.int p0), .val (.int p1), .val (.int p2), .val (.int p3), .val (.int p4), .unset, .unset, .unset, .unset, .unset, .unset, .unset, .unset, .unset, .unset] [(.int p0)])) rfl (hb hby at_1) _ ?_
    show Steps p.tables e below (s₁.setTop (mkF m 3 #[.val (.int p0), .val (.int p1), .val (.int p2), .val (.int p3), .val (.int p4), .unset, .unset, .unset, .unset, .unset, .unset, .unset, .unset, .unset, .unset] [(.int (2147483647 : Int32)), (.int p0)])) _
    refine own_s_iand X0.here hx (hb hby at_3) (pc' := 4) rfl (v := w1_v3) w1_hv3 ?_
    refine own_s_iconst X0.here hx (hb hby at_4) (pc' := 5) rfl (v := (5 : Int32)) (by decide) ?_
    refine own_s_irem X0.here hx (hb hby at_5) (pc' := 6) rfl (by decide) (v := (1 : Int32)) w1_hv5 ?_
    refine own_s_istore X0.here hx (hb hby at_6) (pc' := 8) rfl (L' := #[.val (.int p0), .val (.int p1), .val (.int p2), .val (.int p3), .val (.int p4), .val (.int (1 : Int32)), .unset, .unset, .unset, .unset, .unset, .unset, .unset, .unset, .unset]) rfl ?_
    refine own_s_iloadN X0.here hx (hb hby at_8) (pc' := 9) rfl rfl ?_
    refine stw11 _ ?_
    show Steps p.tables e below (Tw11.setTop (mkF m 12 #[.val (.int p0), .val (.int p1), .val (.int p2), .val (.int p3), .val (.int p4), .val (.int (1 : Int32)), .unset, .unset, .unset, .unset, .unset, .unset, .unset, .unset, .unset] [(.int w1_c9_s_v6)])) _
    refine own_s_istore Xw11.here hx (hb hby at_12) (pc' := 14) rfl (L' := #[.val (.int p0), .val (.int p1), .val (.int p2), .val (.int p3), .val (.int p4), .val (.int (1 : Int32)), .val (.int w1_c9_s_v6), .unset, .unset, .unset, .unset, .unset, .unset, .unset, .unset]) rfl ?_
    refine own_s_iloadN Xw11.here hx (hb hby at_14) (pc' := 15) rfl rfl ?_
    refine stw12 _ ?_
    show Steps p.tables e below (Tw12.setTop (mkF m 18 #[.val (.int p0), .val (.int p1), .val (.int p2), .val (.int p3), .val (.int p4), .val (.int (1 : Int32)), .val (.int w1_c9_s_v6), .unset, .unset, .unset, .unset, .unset, .unset, .unset, .unset] [(.int w1_c15_s_v6)])) _
    refine own_s_istore Xw12.here hx (hb hby at_18) (pc' := 20) rfl (L' := #[.val (.int p0), .val (.int p1), .val (.int p2), .val (.int p3), .val (.int p4), .val (.int (1 : Int32)), .val (.int w1_c9_s_v6), .val (.int w1_c15_s_v6), .unset, .unset, .unset, .unset, .unset, .unset, .unset]) rfl ?_
    refine own_s_iloadN Xw12.here hx (hb hby at_20) (pc' := 21) rfl rfl ?_
    refine stw13 _ ?_
    show Steps p.tables e below (Tw13.setTop (mkF m 24 #[.val (.int p0), .val (.int p1), .val (.int p2), .val (.int p3), .val (.int p4), .val (.int (1 : Int32)), .val (.int w1_c9_s_v6), .val (.int w1_c15_s_v6), .unset, .unset, .unset, .unset, .unset, .unset, .unset] [(.int w1_c21_s_v6)])) _
    refine own_s_istore Xw13.here hx (hb hby at_24) (pc' := 26) rfl (L' := #[.val (.int p0), .val (.int p1), .val (.int p2), .val (.int p3), .val (.int p4), .val (.int (1 : Int32)), .val (.int w1_c9_s_v6), .val (.int w1_c15_s_v6), .val (.int w1_c21_s_v6), .unset, .unset, .unset, .unset, .unset, .unset]) rfl ?_
    refine own_s_iload Xw13.here hx (hb hby at_26) (pc' := 28) rfl rfl ?_
    refine stw14 _ ?_
    show Steps p.tables e below (Tw14.setTop (mkF m 31 #[.val (.int p0), .val (.int p1), .val (.int p2), .val (.int p3), .val (.int p4), .val (.int (1 : Int32)), .val (.int w1_c9_s_v6), .val (.int w1_c15_s_v6), .val (.int w1_c21_s_v6), .unset, .unset, .unset, .unset, .unset, .unset] [(.int w1_c28_s_v6)])) _
    refine own_s_istore Xw14.here hx (hb hby at_31) (pc' := 33) rfl (L' := #[.val (.int p0), .val (.int p1), .val (.int p2), .val (.int p3), .val (.int p4), .val (.int (1 : Int32)), .val (.int w1_c9_s_v6), .val (.int w1_c15_s_v6), .val (.int w1_c21_s_v6), .val (.int w1_c28_s_v6), .unset, .unset, .unset, .unset, .unset]) rfl ?_
    refine own_s_iload Xw14.here hx (hb hby at_33) (pc' := 35) rfl rfl ?_
    refine stw15 _ ?_
    refine own_s_astore Xw15.here hx (hb hby at_37) (pc' := 39) rfl rfl (L' := #[.val (.int p0), .val (.int p1), .val (.int p2), .val (.int p3), .val (.int p4), .val (.int (1 : Int32)), .val (.int w1_c9_s_v6), .val (.int w1_c15_s_v6), .val (.int w1_c21_s_v6), .val (.int w1_c28_s_v6), .val (.ref bw15), .unset, .unset, .unset, .unset]) rfl ?_
    refine own_s_lconst Xw15.here hx (hb hby at_39) (pc' := 40) rfl (v := (0 : Int64)) (by decide) ?_
    refine own_s_lstore Xw15.here hx (hb hby at_40) (pc' := 42) rfl (L' := #[.val (.int p0), .val (.int p1), .val (.int p2), .val (.int p3), .val (.int p4), .val (.int (1 : Int32)), .val (.int w1_c9_s_v6), .val (.int w1_c15_s_v6), .val (.int w1_c21_s_v6), .val (.int w1_c28_s_v6), .val (.ref bw15), .val (.long (0 : Int64)), .second, .unset, .unset]) rfl ?_
    refine own_s_iload Xw15.here hx (hb hby at_42) (pc' := 44) rfl rfl ?_
    refine own_s_ifNo Xw15.here hx (hb hby at_44) (pc' := 47) rfl (by decide) ?_
    refine own_s_aload Xw15.here hx (hb hby at_47) (pc' := 49) rfl rfl rfl ?_
    refine own_s_iconst Xw15.here hx (hb hby at_49) (pc' := 50) rfl (v := (0 : Int32)) (by decide) ?_
    refine own_s_iload Xw15.here hx (hb hby at_50) (pc' := 52) rfl rfl ?_
    refine own_s_i2d Xw15.here hx (hb hby at_52) (pc' := 53) rfl (v := (FP.i2d w1_c9_s_v6)) rfl ?_
    refine stw16 _ ?_
    refine own_s_lload Xw16.here hx (hb hby at_54) (pc' := 56) rfl rfl ?_
    refine own_s_iload Xw16.here hx (hb hby at_56) (pc' := 58) rfl rfl ?_
    refine own_s_i2l Xw16.here hx (hb hby at_58) (pc' := 59) rfl (v := w1_v58) w1_hv58 ?_
    refine own_s_iload Xw16.here hx (hb hby at_59) (pc' := 61) rfl rfl ?_
    refine own_s_i2l Xw16.here hx (hb hby at_61) (pc' := 62) rfl (v := w1_v61) w1_hv61 ?_
    refine own_s_lmul Xw16.here hx (hb hby at_62) (pc' := 63) rfl (v := w1_v62) w1_hv62 ?_
    refine own_s_ladd Xw16.here hx (hb hby at_63) (pc' := 64) rfl (v := w1_v63) w1_hv63 ?_
    refine own_s_lstore Xw16.here hx (hb hby at_64) (pc' := 66) rfl (L' := #[.val (.int p0), .val (.int p1), .val (.int p2), .val (.int p3), .val (.int p4), .val (.int (1 : Int32)), .val (.int w1_c9_s_v6), .val (.int w1_c15_s_v6), .val (.int w1_c21_s_v6), .val (.int w1_c28_s_v6), .val (.ref bw15), .val (.long w1_v63), .second, .unset, .unset]) rfl ?_
    refine own_s_iload Xw16.here hx (hb hby at_66) (pc' := 68) rfl rfl ?_
    refine own_s_iconst Xw16.here hx (hb hby at_68) (pc' := 69) rfl (v := (1 : Int32)) (by decide) ?_
    refine own_s_icmpYes Xw16.here hx (hb hby at_69) (by decide) (pc' := 91) (by decide) (by decide) ?_
    refine own_s_iload Xw16.here hx (hb hby at_91) (pc' := 93) rfl rfl ?_
    refine own_s_iconst Xw16.here hx (hb hby at_93) (pc' := 94) rfl (v := (2 : Int32)) (by decide) ?_
    refine own_s_icmpYes Xw16.here hx (hb hby at_94) (by decide) (pc' := 116) (by decide) (by decide) ?_
    refine own_s_iload Xw16.here hx (hb hby at_116) (pc' := 118) rfl rfl ?_
    refine own_s_iconst Xw16.here hx (hb hby at_118) (pc' := 119) rfl (v := (3 : Int32)) (by decide) ?_
    refine own_s_icmpYes Xw16.here hx (hb hby at_119) (by decide) (pc' := 141) (by decide) (by decide) ?_
    refine own_s_aload Xw16.here hx (hb hby at_141) (pc' := 143) rfl rfl rfl ?_
    refine stw17 _ ?_
    show Steps p.tables e below (Tw17.setTop (mkF m 146 #[.val (.int p0), .val (.int p1), .val (.int p2), .val (.int p3), .val (.int p4), .val (.int (1 : Int32)), .val (.int w1_c9_s_v6), .val (.int w1_c15_s_v6), .val (.int w1_c21_s_v6), .val (.int w1_c28_s_v6), .val (.ref bw15), .val (.long w1_v63), .second, .unset, .unset] [(.double w1_c143_c1_v30)])) _
    refine own_s_dstore Xw17.here hx (hb hby at_146) (pc' := 148) rfl (L' := #[.val (.int p0), .val (.int p1), .val (.int p2), .val (.int p3), .val (.int p4), .val (.int (1 : Int32)), .val (.int w1_c9_s_v6), .val (.int w1_c15_s_v6), .val (.int w1_c21_s_v6), .val (.int w1_c28_s_v6), .val (.ref bw15), .val (.long w1_v63), .second, .val (.double w1_c143_c1_v30), .second]) rfl ?_
    refine own_s_dload Xw17.here hx (hb hby at_148) (pc' := 150) rfl rfl ?_
    refine own_s_lload Xw17.here hx (hb hby at_150) (pc' := 152) rfl rfl ?_
    refine own_s_l2d Xw17.here hx (hb hby at_152) (pc' := 153) rfl (v := (FP.l2d w1_v63)) rfl ?_
    refine own_s_dcmp Xw17.here hx (hb hby at_153) (pc' := 154) rfl (v := (0 : Int32)) w1_hc153 ?_
    refine own_s_ifNo Xw17.here hx (hb hby at_154) (pc' := 157) rfl (by decide) ?_
    refine own_s_iconst Xw17.here hx (hb hby at_157) (pc' := 158) rfl (v := (1 : Int32)) (by decide) ?_
    refine own_s_goto Xw17.here hx (hb hby at_158) (by decide) (pc' := 162) (by decide) ?_
    exact retN Xw17 hx (t := .boolean) Bd.returns (by simp) (hb hby at_162) hr
  · show own_Q0 n0 _ Tw17.heap _
    rw [ew17]
    exact ⟨rfl, Nw17⟩
theorem own_ef_c2 (m : MethodId) (q : Addr) : entryFrame m #[(.ref q)] 8 = mkF m 0 #[.val (.ref q), .unset, .unset, .unset, .unset, .unset, .unset, .unset] [] := by first | (simp [entryFrame, mkF, argsToLocals, Value.category]; done) | rfl
set_option maxRecDepth 65536 in
set_option maxHeartbeats 40000000 in
theorem own_rm_c2 (l : Launch) (Z : State) (a0 : Array Value) (hw : ∀ d ∈ tables_1, d.before a0 Z = true) (ws : List Jvm.Cond) (q : Addr) (d0 : UInt64) (d1 : UInt64) {qk : ClassId} {c2_v29 : UInt64} {c2_v30 : UInt64} {c2_v29_2 : UInt64} {c2_v30_2 : UInt64} (h0 : Heap) (n0 : Nat) (Z0 : n0 ≤ h0.size) (V_q : Arv Z h0 q qk .double (2 : Int32) [(.double d0), (.double d1)] (.double 0)) (c2_hn29 : Jvm.Free.Fl.NoNaN64 (FP.dmul d0 d0)) (c2_hv29 : FP.dmul d0 d0 = c2_v29) (c2_hn30 : Jvm.Free.Fl.NoNaN64 (FP.dadd 0 c2_v29)) (c2_hv30 : FP.dadd 0 c2_v29 = c2_v30) (c2_hn29_2 : Jvm.Free.Fl.NoNaN64 (FP.dmul d1 d1)) (c2_hv29_2 : FP.dmul d1 d1 = c2_v29_2) (c2_hn30_2 : Jvm.Free.Fl.NoNaN64 (FP.dadd c2_v30 c2_v29_2)) (c2_hv30_2 : FP.dadd c2_v30 c2_v29_2 = c2_v30_2) :
    MetFree l (⟨"com/example/differentia/differentia/problems/Problems", "sphere", "([D)D"⟩ : MethodName) (head1 (Jvm.Cond.code (⟨"com/example/differentia/differentia/problems/Problems", "sphere", "([D)D"⟩ : MethodName) prog_68_method_5_code 8 (some .double) :: ws) ({ frames := 0, cells := 0, slots := 0, locals := 0 } : Room)) (fun a U => a = #[(.ref q)] ∧ Z.Warmed39 U.vm ∧ U.heap = h0) (fun _ _ _ _ _ => True) (fun _ U o U' => ∃ v L, o = .returned v ∧ own_QP (some (.double c2_v30_2)) h0 n0 v U'.heap L ∧ FrameEnd U o U' L ({ frames := 0, cells := 0, slots := 0, locals := 0 } : Room).cells ({ frames := 0, cells := 0, slots := 0, locals := 0 } : Room).slots) := by
  refine MetFree.of_bodySF (plainFor_of_name own_pn_com_example_differentia_differentia_problems_Problems) hisR ?_
  intro p e s m args below meth c s₁ Bd hml0 hP hK
  obtain ⟨rfl, hZ, hh⟩ := hP
  have hx := Bd.exec
  have hby := Bd.bytes
  have hml : c.maxLocals = 8 := hml0
  have hown : s.vm.findClass "com/example/differentia/differentia/problems/Problems" = some m.cls := findClass_of_methodNamed Bd.named
  have hnm := (name_of_methodNamed Bd.named Bd.method).1
  have X0 : Stand p l e ({ frames := 0, cells := 0, slots := 0, locals := 0 } : Room) s m #[(.ref q)] below meth c s₁ [] 0 0 := Stand.of_body Bd
  have e0 : s₁.heap = h0 := by rw [← hh, Bd.state]; rfl
  have N0 := Fr.nil n0
  have pre0 : ∀ t, Steps p.tables e below (s₁.setTop (mkF m 0 #[.val (.ref q), .unset, .unset, .unset, .unset, .unset, .unset, .unset] [])) t → Steps p.tables e below (s₁.setTop (entryFrame m #[(.ref q)] 8)) t := fun t k => castTop (own_ef_c2 m q) k
  obtain ⟨fs, hr, hrun, hended, hW, hsame⟩ := X0.leave (v := some (.double c2_v30_2)) (fun h => by rw [Bd.returns] at h; cases h)
  refine ⟨_, _, pre0 _ ?_, hrun, hended, _, _, rfl, ?_, ⟨_, rfl⟩, hW, hsame.mono (by decide) (by decide)⟩
  · refine own_s_dconst0 X0.here hx (hb hby own_d2_0) (pc' := 1) rfl  ?_
    refine own_s_dstoreN X0.here hx (hb hby own_d2_1) (pc' := 2) rfl (L' := #[.val (.ref q), .val (.double 0), .second, .unset, .unset, .unset, .unset, .unset]) rfl ?_
    refine own_s_aloadN X0.here hx (hb hby own_d2_2) (pc' := 3) rfl rfl rfl ?_
    refine own_s_astoreN X0.here hx (hb hby own_d2_3) (pc' := 4) rfl rfl (L' := #[.val (.ref q), .val (.double 0), .second, .val (.ref q), .unset, .unset, .unset, .unset]) rfl ?_
    refine own_s_aloadN X0.here hx (hb hby own_d2_4) (pc' := 5) rfl rfl rfl ?_
    refine own_len X0 hx hZ e0 V_q (hb hby own_d2_5) (pc' := 6) rfl ?_
    refine own_s_istore X0.here hx (hb hby own_d2_6) (pc' := 8) rfl (L' := #[.val (.ref q), .val (.double 0), .second, .val (.ref q), .val (.int (2 : Int32)), .unset, .unset, .unset]) rfl ?_
    refine own_s_iconst X0.here hx (hb hby own_d2_8) (pc' := 9) rfl (v := (0 : Int32)) (by decide) ?_
    refine own_s_istore X0.here hx (hb hby own_d2_9) (pc' := 11) rfl (L' := #[.val (.ref q), .val (.double 0), .second, .val (.ref q), .val (.int (2 : Int32)), .val (.int (0 : Int32)), .unset, .unset]) rfl ?_
    refine own_s_iload X0.here hx (hb hby own_d2_11) (pc' := 13) rfl rfl ?_
    refine own_s_iload X0.here hx (hb hby own_d2_13) (pc' := 15) rfl rfl ?_
    refine own_s_icmpNo X0.here hx (hb hby own_d2_15) (pc' := 18) rfl (by decide) ?_
    refine own_s_aloadN X0.here hx (hb hby own_d2_18) (pc' := 19) rfl rfl rfl ?_
    refine own_s_iload X0.here hx (hb hby own_d2_19) (pc' := 21) rfl rfl ?_
    refine own_ldD X0 hx hZ e0 V_q (j := (0 : Int32)) (x := d0) (by decide) rfl (hb hby own_d2_21) (pc' := 22) rfl ?_
    refine own_s_dstore X0.here hx (hb hby own_d2_22) (pc' := 24) rfl (L' := #[.val (.ref q), .val (.double 0), .second, .val (.ref q), .val (.int (2 : Int32)), .val (.int (0 : Int32)), .val (.double d0), .second]) rfl ?_
    refine own_s_dloadN X0.here hx (hb hby own_d2_24) (pc' := 25) rfl rfl ?_
    refine own_s_dload X0.here hx (hb hby own_d2_25) (pc' := 27) rfl rfl ?_
    refine own_s_dload X0.here hx (hb hby own_d2_27) (pc' := 29) rfl rfl ?_
    refine own_s_dmul X0.here hx (hb hby own_d2_29) (pc' := 30) rfl c2_hn29 (v := c2_v29) c2_hv29 ?_
    refine own_s_dadd X0.here hx (hb hby own_d2_30) (pc' := 31) rfl c2_hn30 (v := c2_v30) c2_hv30 ?_
    refine own_s_dstoreN X0.here hx (hb hby own_d2_31) (pc' := 32) rfl (L' := #[.val (.ref q), .val (.double c2_v30), .second, .val (.ref q), .val (.int (2 : Int32)), .val (.int (0 : Int32)), .val (.double d0), .second]) rfl ?_
    refine own_s_iinc X0.here hx (hb hby own_d2_32) (pc' := 35) rfl rfl (v := (1 : Int32)) (by decide) (L' := #[.val (.ref q), .val (.double c2_v30), .second, .val (.ref q), .val (.int (2 : Int32)), .val (.int (1 : Int32)), .val (.double d0), .second]) rfl ?_
    refine own_s_goto X0.here hx (hb hby own_d2_35) (by decide) (pc' := 11) (by decide) ?_
    refine own_s_iload X0.here hx (hb hby own_d2_11) (pc' := 13) rfl rfl ?_
    refine own_s_iload X0.here hx (hb hby own_d2_13) (pc' := 15) rfl rfl ?_
    refine own_s_icmpNo X0.here hx (hb hby own_d2_15) (pc' := 18) rfl (by decide) ?_
    refine own_s_aloadN X0.here hx (hb hby own_d2_18) (pc' := 19) rfl rfl rfl ?_
    refine own_s_iload X0.here hx (hb hby own_d2_19) (pc' := 21) rfl rfl ?_
    refine own_ldD X0 hx hZ e0 V_q (j := (1 : Int32)) (x := d1) (by decide) rfl (hb hby own_d2_21) (pc' := 22) rfl ?_
    refine own_s_dstore X0.here hx (hb hby own_d2_22) (pc' := 24) rfl (L' := #[.val (.ref q), .val (.double c2_v30), .second, .val (.ref q), .val (.int (2 : Int32)), .val (.int (1 : Int32)), .val (.double d1), .second]) rfl ?_
    refine own_s_dloadN X0.here hx (hb hby own_d2_24) (pc' := 25) rfl rfl ?_
    refine own_s_dload X0.here hx (hb hby own_d2_25) (pc' := 27) rfl rfl ?_
    refine own_s_dload X0.here hx (hb hby own_d2_27) (pc' := 29) rfl rfl ?_
    refine own_s_dmul X0.here hx (hb hby own_d2_29) (pc' := 30) rfl c2_hn29_2 (v := c2_v29_2) c2_hv29_2 ?_
    refine own_s_dadd X0.here hx (hb hby own_d2_30) (pc' := 31) rfl c2_hn30_2 (v := c2_v30_2) c2_hv30_2 ?_
    refine own_s_dstoreN X0.here hx (hb hby own_d2_31) (pc' := 32) rfl (L' := #[.val (.ref q), .val (.double c2_v30_2), .second, .val (.ref q), .val (.int (2 : Int32)), .val (.int (1 : Int32)), .val (.double d1), .second]) rfl ?_
    refine own_s_iinc X0.here hx (hb hby own_d2_32) (pc' := 35) rfl rfl (v := (2 : Int32)) (by decide) (L' := #[.val (.ref q), .val (.double c2_v30_2), .second, .val (.ref q), .val (.int (2 : Int32)), .val (.int (2 : Int32)), .val (.double d1), .second]) rfl ?_
    refine own_s_goto X0.here hx (hb hby own_d2_35) (by decide) (pc' := 11) (by decide) ?_
    refine own_s_iload X0.here hx (hb hby own_d2_11) (pc' := 13) rfl rfl ?_
    refine own_s_iload X0.here hx (hb hby own_d2_13) (pc' := 15) rfl rfl ?_
    refine own_s_icmpYes X0.here hx (hb hby own_d2_15) (by decide) (pc' := 38) (by decide) (by decide) ?_
    refine own_s_dloadN X0.here hx (hb hby own_d2_38) (pc' := 39) rfl rfl ?_
    exact own_retD X0 hx Bd.returns (hb hby own_d2_39) hr
  · show own_QP (some (.double c2_v30_2)) h0 n0 _ s₁.heap _
    rw [e0]
    exact ⟨rfl, N0, rfl⟩
theorem own_ef_w2 (m : MethodId) (p0 : Int32) (p1 : Int32) (p2 : Int32) (p3 : Int32) (p4 : Int32) : entryFrame m #[(.int p0), (.int p1), (.int p2), (.int p3), (.int p4)] maxLocals = mkF m 0 #[.val (.int p0), .val (.int p1), .val (.int p2), .val (.int p3), .val (.int p4), .unset, .unset, .unset, .unset, .unset, .unset, .unset, .unset, .unset, .unset] [] := by first | (simp [entryFrame, mkF, argsToLocals, Value.category, maxLocals]; done) | rfl
set_option maxRecDepth 65536 in
set_option maxHeartbeats 40000000 in
theorem own_rm_w2 (l : Launch) (Z : State) (a0 : Array Value) (hw : ∀ d ∈ tables_1, d.before a0 Z = true) (ws : List Jvm.Cond) (p0 : Int32) (p1 : Int32) (p2 : Int32) (p3 : Int32) (p4 : Int32) {w2_v3 : Int32} {w2_c9_s_v3 : Int32} {w2_c9_s_v6 : Int32} {w2_c15_s_v3 : Int32} {w2_c15_s_v6 : Int32} {w2_c21_s_v3 : Int32} {w2_c21_s_v6 : Int32} {w2_c28_s_v3 : Int32} {w2_c28_s_v6 : Int32} {w2_v58 : Int64} {w2_v61 : Int64} {w2_v62 : Int64} {w2_v63 : Int64} {w2_v83 : Int64} {w2_v86 : Int64} {w2_v87 : Int64} {w2_v88 : Int64} {w2_c143_c2_v29 : UInt64} {w2_c143_c2_v30 : UInt64} {w2_c143_c2_v29_2 : UInt64} {w2_c143_c2_v30_2 : UInt64} (h0 : Heap) (n0 : Nat) (Z0 : n0 ≤ h0.size)  (w2_hv3 : p0 &&& (2147483647 : Int32) = w2_v3) (w2_hv5 : w2_v3 % (5 : Int32) = (2 : Int32)) (w2_c9_s_hv3 : p1 <<< ((7 : Int32) &&& 31) = w2_c9_s_v3) (w2_c9_s_hv6 : w2_c9_s_v3 >>> ((7 : Int32) &&& 31) = w2_c9_s_v6) (w2_c15_s_hv3 : p2 <<< ((7 : Int32) &&& 31) = w2_c15_s_v3) (w2_c15_s_hv6 : w2_c15_s_v3 >>> ((7 : Int32) &&& 31) = w2_c15_s_v6) (w2_c21_s_hv3 : p3 <<< ((7 : Int32) &&& 31) = w2_c21_s_v3) (w2_c21_s_hv6 : w2_c21_s_v3 >>> ((7 : Int32) &&& 31) = w2_c21_s_v6) (w2_c28_s_hv3 : p4 <<< ((7 : Int32) &&& 31) = w2_c28_s_v3) (w2_c28_s_hv6 : w2_c28_s_v3 >>> ((7 : Int32) &&& 31) = w2_c28_s_v6) (w2_hv58 : Int32.toInt64 w2_c9_s_v6 = w2_v58) (w2_hv61 : Int32.toInt64 w2_c9_s_v6 = w2_v61) (w2_hv62 : w2_v58 * w2_v61 = w2_v62) (w2_hv63 : (0 : Int64) + w2_v62 = w2_v63) (w2_hv83 : Int32.toInt64 w2_c15_s_v6 = w2_v83) (w2_hv86 : Int32.toInt64 w2_c15_s_v6 = w2_v86) (w2_hv87 : w2_v83 * w2_v86 = w2_v87) (w2_hv88 : w2_v63 + w2_v87 = w2_v88) (w2_c143_c2_hn29 : Jvm.Free.Fl.NoNaN64 (FP.dmul (FP.i2d w2_c9_s_v6) (FP.i2d w2_c9_s_v6))) (w2_c143_c2_hv29 : FP.dmul (FP.i2d w2_c9_s_v6) (FP.i2d w2_c9_s_v6) = w2_c143_c2_v29) (w2_c143_c2_hn30 : Jvm.Free.Fl.NoNaN64 (FP.dadd 0 w2_c143_c2_v29)) (w2_c143_c2_hv30 : FP.dadd 0 w2_c143_c2_v29 = w2_c143_c2_v30) (w2_c143_c2_hn29_2 : Jvm.Free.Fl.NoNaN64 (FP.dmul (FP.i2d w2_c15_s_v6) (FP.i2d w2_c15_s_v6))) (w2_c143_c2_hv29_2 : FP.dmul (FP.i2d w2_c15_s_v6) (FP.i2d w2_c15_s_v6) = w2_c143_c2_v29_2) (w2_c143_c2_hn30_2 : Jvm.Free.Fl.NoNaN64 (FP.dadd w2_c143_c2_v30 w2_c143_c2_v29_2)) (w2_c143_c2_hv30_2 : FP.dadd w2_c143_c2_v30 w2_c143_c2_v29_2 = w2_c143_c2_v30_2) (w2_hc153 : Op.cmpValue (FP.dcmp w2_c143_c2_v30_2 (FP.l2d w2_v88)) .l = (0 : Int32)) :
    MetFree l x (head1 (Jvm.Cond.code x code maxLocals ret :: ws) room_1) (fun a U => a = #[(.int p0), (.int p1), (.int p2), (.int p3), (.int p4)] ∧ Z.Warmed39 U.vm ∧ U.heap = h0) (fun _ _ _ _ _ => True) (fun _ U o U' => ∃ v L, o = .returned v ∧ own_Q0 n0 v U'.heap L ∧ FrameEnd U o U' L room_1.cells room_1.slots) := by
  refine MetFree.of_bodySF (plainFor_of_name own_pn_com_example_differentia_differentia_problems_ProblemsSpherePinLaw) hisR ?_
  intro p e s m args below meth c s₁ Bd hml0 hP hK
  obtain ⟨rfl, hZ, hh⟩ := hP
  have hx := Bd.exec
  have hby := Bd.bytes
  have hml : c.maxLocals = 15 := hml0
  have hown : s.vm.findClass "com/example/differentia/differentia/problems/ProblemsSpherePinLaw" = some m.cls := findClass_of_methodNamed Bd.named
  have hnm := (name_of_methodNamed Bd.named Bd.method).1
  have X0 : Stand p l e room_1 s m #[(.int p0), (.int p1), (.int p2), (.int p3), (.int p4)] below meth c s₁ [] 0 0 := Stand.of_body Bd
  have e0 : s₁.heap = h0 := by rw [← hh, Bd.state]; rfl
  have N0 := Fr.nil n0
  have pre0 : ∀ t, Steps p.tables e below (s₁.setTop (mkF m 0 #[.val (.int p0), .val (.int p1), .val (.int p2), .val (.int p3), .val (.int p4), .unset, .unset, .unset, .unset, .unset, .unset, .unset, .unset, .unset, .unset] [])) t → Steps p.tables e below (s₁.setTop (entryFrame m #[(.int p0), (.int p1), (.int p2), (.int p3), (.int p4)] maxLocals)) t := fun t k => castTop (own_ef_w2 m p0 p1 p2 p3 p4) k
  obtain ⟨_, _, ⟨Tw21, Lw21, kw21, nw21⟩, -, Xw21, ⟨Lcw21, hQw21, lw21, yw21, zw21⟩, stw21⟩ := Jvm.LawKit.callS X0 hx (y := (⟨"com/example/differentia/differentia/problems/ProblemsSpherePinLaw", "small", "(I)I"⟩ : MethodName)) hown (mvT hZ (hw _ (List.mem_of_getElem? (i := 1) rfl))) (mvT hZ (hw _ (List.mem_of_getElem? (i := 2) rfl))) (mvT hZ (hw _ (List.mem_of_getElem? (i := 3) rfl))) (mvT hZ (hw _ (List.mem_of_getElem? (i := 4) rfl))) (by decide) (backOf (W := 0) (own_rm_s l Z a0 hw [] p1 h0 n0 Z0 w2_c9_s_hv3 w2_c9_s_hv6) hZ (hw _ (List.mem_of_getElem? (i := 4) rfl)) (hw _ (List.mem_of_getElem? (i := 3) rfl)) (by decide) (by decide)) (g := (mkF m 9 #[.val (.int p0), .val (.int p1), .val (.int p2), .val (.int p3), .val (.int p4), .val (.int (2 : Int32)), .unset, .unset, .unset, .unset, .unset, .unset, .unset, .unset, .unset] [(.int p1)])) rfl (by rw [hml]; rfl) (argsL := [(.int p1)]) (rest := []) (lenOf own_pd_28I29I rfl) rfl (by show 2 * 0 + _ ≤ _; exact Nat.le_of_eq rfl) (hb hby at_9) (fun _ _ => ⟨rfl, e0, (by decide : 0 + 0 ≤ _), (by decide : 0 + 0 ≤ _)⟩)
  dsimp only [Pt.U, Pt.locs, Pt.cells, Pt.slots] at Xw21 lw21 yw21 zw21 stw21 hQw21
  subst lw21 yw21 zw21
  obtain ⟨rfl, Nw21q, ew21⟩ := hQw21
  have Nw21 := Fr.app N0 Nw21q
  obtain ⟨_, _, ⟨Tw22, Lw22, kw22, nw22⟩, -, Xw22, ⟨Lcw22, hQw22, lw22, yw22, zw22⟩, stw22⟩ := Jvm.LawKit.callS Xw21 hx (y := (⟨"com/example/differentia/differentia/problems/ProblemsSpherePinLaw", "small", "(I)I"⟩ : MethodName)) hown (mvT hZ (hw _ (List.mem_of_getElem? (i := 1) rfl))) (mvT hZ (hw _ (List.mem_of_getElem? (i := 2) rfl))) (mvT hZ (hw _ (List.mem_of_getElem? (i := 3) rfl))) (mvT hZ (hw _ (List.mem_of_getElem? (i := 4) rfl))) (by decide) (backOf (W := 0) (own_rm_s l Z a0 hw [] p2 h0 n0 Z0 w2_c15_s_hv3 w2_c15_s_hv6) hZ (hw _ (List.mem_of_getElem? (i := 4) rfl)) (hw _ (List.mem_of_getElem? (i := 3) rfl)) (by decide) (by decide)) (g := (mkF m 15 #[.val (.int p0), .val (.int p1), .val (.int p2), .val (.int p3), .val (.int p4), .val (.int (2 : Int32)), .val (.int w2_c9_s_v6), .unset, .unset, .unset, .unset, .unset, .unset, .unset, .unset] [(.int p2)])) rfl (by rw [hml]; rfl) (argsL := [(.int p2)]) (rest := []) (lenOf own_pd_28I29I rfl) rfl (by show 2 * 0 + _ ≤ _; exact Nat.le_of_eq rfl) (hb hby at_15) (fun _ _ => ⟨rfl, ew21, (by decide : 0 + 0 ≤ _), (by decide : 0 + 0 ≤ _)⟩)
  dsimp only [Pt.U, Pt.locs, Pt.cells, Pt.slots] at Xw22 lw22 yw22 zw22 stw22 hQw22
  subst lw22 yw22 zw22
  obtain ⟨rfl, Nw22q, ew22⟩ := hQw22
  have Nw22 := Fr.app Nw21 Nw22q
  obtain ⟨_, _, ⟨Tw23, Lw23, kw23, nw23⟩, -, Xw23, ⟨Lcw23, hQw23, lw23, yw23, zw23⟩, stw23⟩ := Jvm.LawKit.callS Xw22 hx (y := (⟨"com/example/differentia/differentia/problems/ProblemsSpherePinLaw", "small", "(I)I"⟩ : MethodName)) hown (mvT hZ (hw _ (List.mem_of_getElem? (i := 1) rfl))) (mvT hZ (hw _ (List.mem_of_getElem? (i := 2) rfl))) (mvT hZ (hw _ (List.mem_of_getElem? (i := 3) rfl))) (mvT hZ (hw _ (List.mem_of_getElem? (i := 4) rfl))) (by decide) (backOf (W := 0) (own_rm_s l Z a0 hw [] p3 h0 n0 Z0 w2_c21_s_hv3 w2_c21_s_hv6) hZ (hw _ (List.mem_of_getElem? (i := 4) rfl)) (hw _ (List.mem_of_getElem? (i := 3) rfl)) (by decide) (by decide)) (g := (mkF m 21 #[.val (.int p0), .val (.int p1), .val (.int p2), .val (.int p3), .val (.int p4), .val (.int (2 : Int32)), .val (.int w2_c9_s_v6), .val (.int w2_c15_s_v6), .unset, .unset, .unset, .unset, .unset, .unset, .unset] [(.int p3)])) rfl (by rw [hml]; rfl) (argsL := [(.int p3)]) (rest := []) (lenOf own_pd_28I29I rfl) rfl (by show 2 * 0 + _ ≤ _; exact Nat.le_of_eq rfl) (hb hby at_21) (fun _ _ => ⟨rfl, ew22, (by decide : 0 + 0 ≤ _), (by decide : 0 + 0 ≤ _)⟩)
  dsimp only [Pt.U, Pt.locs, Pt.cells, Pt.slots] at Xw23 lw23 yw23 zw23 stw23 hQw23
  subst lw23 yw23 zw23
  obtain ⟨rfl, Nw23q, ew23⟩ := hQw23
  have Nw23 := Fr.app Nw22 Nw23q
  obtain ⟨_, _, ⟨Tw24, Lw24, kw24, nw24⟩, -, Xw24, ⟨Lcw24, hQw24, lw24, yw24, zw24⟩, stw24⟩ := Jvm.LawKit.callS Xw23 hx (y := (⟨"com/example/differentia/differentia/problems/ProblemsSpherePinLaw", "small", "(I)I"⟩ : MethodName)) hown (mvT hZ (hw _ (List.mem_of_getElem? (i := 1) rfl))) (mvT hZ (hw _ (List.mem_of_getElem? (i := 2) rfl))) (mvT hZ (hw _ (List.mem_of_getElem? (i := 3) rfl))) (mvT hZ (hw _ (List.mem_of_getElem? (i := 4) rfl))) (by decide) (backOf (W := 0) (own_rm_s l Z a0 hw [] p4 h0 n0 Z0 w2_c28_s_hv3 w2_c28_s_hv6) hZ (hw _ (List.mem_of_getElem? (i := 4) rfl)) (hw _ (List.mem_of_getElem? (i := 3) rfl)) (by decide) (by decide)) (g := (mkF m 28 #[.val (.int p0), .val (.int p1), .val (.int p2), .val (.int p3), .val (.int p4), .val (.int (2 : Int32)), .val (.int w2_c9_s_v6), .val (.int w2_c15_s_v6), .val (.int w2_c21_s_v6), .unset, .unset, .unset, .unset, .unset, .unset] [(.int p4)])) rfl (by rw [hml]; rfl) (argsL := [(.int p4)]) (rest := []) (lenOf own_pd_28I29I rfl) rfl (by show 2 * 0 + _ ≤ _; exact Nat.le_of_eq rfl) (hb hby at_28) (fun _ _ => ⟨rfl, ew23, (by decide : 0 + 0 ≤ _), (by decide : 0 + 0 ≤ _)⟩)
  dsimp only [Pt.U, Pt.locs, Pt.cells, Pt.slots] at Xw24 lw24 yw24 zw24 stw24 hQw24
  subst lw24 yw24 zw24
  obtain ⟨rfl, Nw24q, ew24⟩ := hQw24
  have Nw24 := Fr.app Nw23 Nw24q
  obtain ⟨Tw25, hw25, kw25, bw25, Xw25, ew25, Ew25, Gw25, Vw25, stw25⟩ := own_newD (L := #[.val (.int p0), .val (.int p1), .val (.int p2), .val (.int p3), .val (.int p4), .val (.int (2 : Int32)), .val (.int w2_c9_s_v6), .val (.int w2_c15_s_v6), .val (.int w2_c21_s_v6), .val (.int w2_c28_s_v6), .unset, .unset, .unset, .unset, .unset]) (S := []) Xw24 hx hZ (hw _ (List.mem_of_getElem? (i := 5) rfl)) ew24 (z := (2 : Int32)) 2 (by decide) (by decide) (by decide) (by decide) (by decide) (hb hby at_35) (pc' := 37) rfl
  have g_bw25 : n0 ≤ bw25 := Nat.le_trans Z0 (Nat.le_of_eq Gw25.symm)
  have sz_bw25 : h0.size ≤ bw25 := Nat.le_trans (Keep.refl h0 []).1 (Nat.le_of_eq Gw25.symm)
  have Zw25 : n0 ≤ hw25.size := Nat.le_trans Z0 Ew25.1
  have KKw25 := (Keep.refl h0 []).ext Ew25
  have V_bw25 : Arv Z hw25 bw25 kw25 .double (2 : Int32) [(.double 0), (.double 0)] (.double 0) := Vw25
  obtain ⟨Tw26, hw26, Xw26, ew26, Ww26, Vw26, stw26⟩ := own_stD (L := #[.val (.int p0), .val (.int p1), .val (.int p2), .val (.int p3), .val (.int p4), .val (.int (2 : Int32)), .val (.int w2_c9_s_v6), .val (.int w2_c15_s_v6), .val (.int w2_c21_s_v6), .val (.int w2_c28_s_v6), .val (.ref bw25), .val (.long (0 : Int64)), .second, .unset, .unset]) (S := []) Xw25 hx hZ ew25 V_bw25 (j := (0 : Int32)) (x := (FP.i2d w2_c9_s_v6)) (by decide) 0 (by decide) (Nat.le_of_ble_eq_true rfl) (hb hby at_53) (pc' := 54) rfl
  have Zw26 : n0 ≤ hw26.size := Nat.le_trans Zw25 (Nat.le_of_eq Ww26.size.symm)
  have KKw26 := KKw25.wr Ww26 (Or.inr sz_bw25)
  have V_bw25_w26 : Arv Z hw26 bw25 kw25 .double (2 : Int32) [(.double (FP.i2d w2_c9_s_v6)), (.double 0)] (.double 0) := Vw26
  have Nw26 := Fr.snoc Xw26 Nw24 g_bw25
  obtain ⟨Tw27, hw27, Xw27, ew27, Ww27, Vw27, stw27⟩ := own_stD (L := #[.val (.int p0), .val (.int p1), .val (.int p2), .val (.int p3), .val (.int p4), .val (.int (2 : Int32)), .val (.int w2_c9_s_v6), .val (.int w2_c15_s_v6), .val (.int w2_c21_s_v6), .val (.int w2_c28_s_v6), .val (.ref bw25), .val (.long w2_v63), .second, .unset, .unset]) (S := []) Xw26 hx hZ ew26 V_bw25_w26 (j := (1 : Int32)) (x := (FP.i2d w2_c15_s_v6)) (by decide) 1 (by decide) (Nat.le_of_ble_eq_true rfl) (hb hby at_78) (pc' := 79) rfl
  have Zw27 : n0 ≤ hw27.size := Nat.le_trans Zw26 (Nat.le_of_eq Ww27.size.symm)
  have KKw27 := KKw26.wr Ww27 (Or.inr sz_bw25)
  have V_bw25_w27 : Arv Z hw27 bw25 kw25 .double (2 : Int32) [(.double (FP.i2d w2_c9_s_v6)), (.double (FP.i2d w2_c15_s_v6))] (.double 0) := Vw27
  have Nw27 := Fr.snoc Xw27 Nw26 g_bw25
  obtain ⟨_, _, ⟨Tw28, Lw28, kw28, nw28⟩, -, Xw28, ⟨Lcw28, hQw28, lw28, yw28, zw28⟩, stw28⟩ := Jvm.LawKit.callS Xw27 hx (y := (⟨"com/example/differentia/differentia/problems/Problems", "sphere", "([D)D"⟩ : MethodName)) hown (mvT hZ (hw _ (List.mem_of_getElem? (i := 6) rfl))) (mvT hZ (hw _ (List.mem_of_getElem? (i := 7) rfl))) (mvT hZ (hw _ (List.mem_of_getElem? (i := 8) rfl))) (mvT hZ (hw _ (List.mem_of_getElem? (i := 9) rfl))) (by decide) (backOf (W := 0) (own_rm_c2 l Z a0 hw [] bw25 (FP.i2d w2_c9_s_v6) (FP.i2d w2_c15_s_v6) hw27 n0 Zw27 V_bw25_w27 w2_c143_c2_hn29 w2_c143_c2_hv29 w2_c143_c2_hn30 w2_c143_c2_hv30 w2_c143_c2_hn29_2 w2_c143_c2_hv29_2 w2_c143_c2_hn30_2 w2_c143_c2_hv30_2) hZ (hw _ (List.mem_of_getElem? (i := 9) rfl)) (hw _ (List.mem_of_getElem? (i := 8) rfl)) (by decide) (by decide)) (g := (mkF m 143 #[.val (.int p0), .val (.int p1), .val (.int p2), .val (.int p3), .val (.int p4), .val (.int (2 : Int32)), .val (.int w2_c9_s_v6), .val (.int w2_c15_s_v6), .val (.int w2_c21_s_v6), .val (.int w2_c28_s_v6), .val (.ref bw25), .val (.long w2_v88), .second, .unset, .unset] [(.ref bw25)])) rfl (by rw [hml]; rfl) (argsL := [(.ref bw25)]) (rest := []) (lenOf own_pd_285bD29D rfl) rfl (by show 2 * 0 + _ ≤ _; exact Nat.le_of_eq rfl) (hb hby at_143) (fun _ _ => ⟨rfl, ew27, (by decide : 1 + 0 ≤ _), (by decide : 2 + 0 ≤ _)⟩)
  dsimp only [Pt.U, Pt.locs, Pt.cells, Pt.slots] at Xw28 lw28 yw28 zw28 stw28 hQw28
  subst lw28 yw28 zw28
  obtain ⟨rfl, Nw28q, ew28⟩ := hQw28
  have Nw28 := Fr.app Nw27 Nw28q
  obtain ⟨fs, hr, hrun, hended, hW, hsame⟩ := Xw28.leave (v := some (.int (1 : Int32))) (fun h => by rw [Bd.returns] at h; cases h)
  refine ⟨_, _, pre0 _ ?_, hrun, hended, _, _, rfl, ?_, ⟨_, rfl⟩, hW, hsame.mono (by decide) (by decide)⟩
  · refine own_s_iloadN X0.here hx (hb hby at_0) (pc' := 1) rfl rfl ?_
    refine X0.ldcInt hx hown (mvT hZ (hw _ (List.mem_of_getElem? (i := 0) rfl))) (g := (mkF m 1 #[.val (.int p0), .val (.int p1), .val (.int p2), .val (.int p3), .val (.int p4), .unset, .unset, .unset, .unset, .unset, .unset, .unset, .unset, .unset, .unset] [(.int p0)])) rfl (hb hby at_1) _ ?_
    show Steps p.tables e below (s₁.setTop (mkF m 3 #[.val (.int p0), .val (.int p1), .val (.int p2), .val (.int p3), .val (.int p4), .unset, .unset, .unset, .unset, .unset, .unset, .unset, .unset, .unset, .unset] [(.int (2147483647 : Int32)), (.int p0)])) _
    refine own_s_iand X0.here hx (hb hby at_3) (pc' := 4) rfl (v := w2_v3) w2_hv3 ?_
    refine own_s_iconst X0.here hx (hb hby at_4) (pc' := 5) rfl (v := (5 : Int32)) (by decide) ?_
    refine own_s_irem X0.here hx (hb hby at_5) (pc' := 6) rfl (by decide) (v := (2 : Int32)) w2_hv5 ?_
    refine own_s_istore X0.here hx (hb hby at_6) (pc' := 8) rfl (L' := #[.val (.int p0), .val (.int p1), .val (.int p2), .val (.int p3), .val (.int p4), .val (.int (2 : Int32)), .unset, .unset, .unset, .unset, .unset, .unset, .unset, .unset, .unset]) rfl ?_
    refine own_s_iloadN X0.here hx (hb hby at_8) (pc' := 9) rfl rfl ?_
    refine stw21 _ ?_
    show Steps p.tables e below (Tw21.setTop (mkF m 12 #[.val (.int p0), .val (.int p1), .val (.int p2), .val (.int p3), .val (.int p4), .val (.int (2 : Int32)), .unset, .unset, .unset, .unset, .unset, .unset, .unset, .unset, .unset] [(.int w2_c9_s_v6)])) _
    refine own_s_istore Xw21.here hx (hb hby at_12) (pc' := 14) rfl (L' := #[.val (.int p0), .val (.int p1), .val (.int p2), .val (.int p3), .val (.int p4), .val (.int (2 : Int32)), .val (.int w2_c9_s_v6), .unset, .unset, .unset, .unset, .unset, .unset, .unset, .unset]) rfl ?_
    refine own_s_iloadN Xw21.here hx (hb hby at_14) (pc' := 15) rfl rfl ?_
    refine stw22 _ ?_
    show Steps p.tables e below (Tw22.setTop (mkF m 18 #[.val (.int p0), .val (.int p1), .val (.int p2), .val (.int p3), .val (.int p4), .val (.int (2 : Int32)), .val (.int w2_c9_s_v6), .unset, .unset, .unset, .unset, .unset, .unset, .unset, .unset] [(.int w2_c15_s_v6)])) _
    refine own_s_istore Xw22.here hx (hb hby at_18) (pc' := 20) rfl (L' := #[.val (.int p0), .val (.int p1), .val (.int p2), .val (.int p3), .val (.int p4), .val (.int (2 : Int32)), .val (.int w2_c9_s_v6), .val (.int w2_c15_s_v6), .unset, .unset, .unset, .unset, .unset, .unset, .unset]) rfl ?_
    refine own_s_iloadN Xw22.here hx (hb hby at_20) (pc' := 21) rfl rfl ?_
    refine stw23 _ ?_
    show Steps p.tables e below (Tw23.setTop (mkF m 24 #[.val (.int p0), .val (.int p1), .val (.int p2), .val (.int p3), .val (.int p4), .val (.int (2 : Int32)), .val (.int w2_c9_s_v6), .val (.int w2_c15_s_v6), .unset, .unset, .unset, .unset, .unset, .unset, .unset] [(.int w2_c21_s_v6)])) _
    refine own_s_istore Xw23.here hx (hb hby at_24) (pc' := 26) rfl (L' := #[.val (.int p0), .val (.int p1), .val (.int p2), .val (.int p3), .val (.int p4), .val (.int (2 : Int32)), .val (.int w2_c9_s_v6), .val (.int w2_c15_s_v6), .val (.int w2_c21_s_v6), .unset, .unset, .unset, .unset, .unset, .unset]) rfl ?_
    refine own_s_iload Xw23.here hx (hb hby at_26) (pc' := 28) rfl rfl ?_
    refine stw24 _ ?_
    show Steps p.tables e below (Tw24.setTop (mkF m 31 #[.val (.int p0), .val (.int p1), .val (.int p2), .val (.int p3), .val (.int p4), .val (.int (2 : Int32)), .val (.int w2_c9_s_v6), .val (.int w2_c15_s_v6), .val (.int w2_c21_s_v6), .unset, .unset, .unset, .unset, .unset, .unset] [(.int w2_c28_s_v6)])) _
    refine own_s_istore Xw24.here hx (hb hby at_31) (pc' := 33) rfl (L' := #[.val (.int p0), .val (.int p1), .val (.int p2), .val (.int p3), .val (.int p4), .val (.int (2 : Int32)), .val (.int w2_c9_s_v6), .val (.int w2_c15_s_v6), .val (.int w2_c21_s_v6), .val (.int w2_c28_s_v6), .unset, .unset, .unset, .unset, .unset]) rfl ?_
    refine own_s_iload Xw24.here hx (hb hby at_33) (pc' := 35) rfl rfl ?_
    refine stw25 _ ?_
    refine own_s_astore Xw25.here hx (hb hby at_37) (pc' := 39) rfl rfl (L' := #[.val (.int p0), .val (.int p1), .val (.int p2), .val (.int p3), .val (.int p4), .val (.int (2 : Int32)), .val (.int w2_c9_s_v6), .val (.int w2_c15_s_v6), .val (.int w2_c21_s_v6), .val (.int w2_c28_s_v6), .val (.ref bw25), .unset, .unset, .unset, .unset]) rfl ?_
    refine own_s_lconst Xw25.here hx (hb hby at_39) (pc' := 40) rfl (v := (0 : Int64)) (by decide) ?_
    refine own_s_lstore Xw25.here hx (hb hby at_40) (pc' := 42) rfl (L' := #[.val (.int p0), .val (.int p1), .val (.int p2), .val (.int p3), .val (.int p4), .val (.int (2 : Int32)), .val (.int w2_c9_s_v6), .val (.int w2_c15_s_v6), .val (.int w2_c21_s_v6), .val (.int w2_c28_s_v6), .val (.ref bw25), .val (.long (0 : Int64)), .second, .unset, .unset]) rfl ?_
    refine own_s_iload Xw25.here hx (hb hby at_42) (pc' := 44) rfl rfl ?_
    refine own_s_ifNo Xw25.here hx (hb hby at_44) (pc' := 47) rfl (by decide) ?_
    refine own_s_aload Xw25.here hx (hb hby at_47) (pc' := 49) rfl rfl rfl ?_
    refine own_s_iconst Xw25.here hx (hb hby at_49) (pc' := 50) rfl (v := (0 : Int32)) (by decide) ?_
    refine own_s_iload Xw25.here hx (hb hby at_50) (pc' := 52) rfl rfl ?_
    refine own_s_i2d Xw25.here hx (hb hby at_52) (pc' := 53) rfl (v := (FP.i2d w2_c9_s_v6)) rfl ?_
    refine stw26 _ ?_
    refine own_s_lload Xw26.here hx (hb hby at_54) (pc' := 56) rfl rfl ?_
    refine own_s_iload Xw26.here hx (hb hby at_56) (pc' := 58) rfl rfl ?_
    refine own_s_i2l Xw26.here hx (hb hby at_58) (pc' := 59) rfl (v := w2_v58) w2_hv58 ?_
    refine own_s_iload Xw26.here hx (hb hby at_59) (pc' := 61) rfl rfl ?_
    refine own_s_i2l Xw26.here hx (hb hby at_61) (pc' := 62) rfl (v := w2_v61) w2_hv61 ?_
    refine own_s_lmul Xw26.here hx (hb hby at_62) (pc' := 63) rfl (v := w2_v62) w2_hv62 ?_
    refine own_s_ladd Xw26.here hx (hb hby at_63) (pc' := 64) rfl (v := w2_v63) w2_hv63 ?_
    refine own_s_lstore Xw26.here hx (hb hby at_64) (pc' := 66) rfl (L' := #[.val (.int p0), .val (.int p1), .val (.int p2), .val (.int p3), .val (.int p4), .val (.int (2 : Int32)), .val (.int w2_c9_s_v6), .val (.int w2_c15_s_v6), .val (.int w2_c21_s_v6), .val (.int w2_c28_s_v6), .val (.ref bw25), .val (.long w2_v63), .second, .unset, .unset]) rfl ?_
    refine own_s_iload Xw26.here hx (hb hby at_66) (pc' := 68) rfl rfl ?_
    refine own_s_iconst Xw26.here hx (hb hby at_68) (pc' := 69) rfl (v := (1 : Int32)) (by decide) ?_
    refine own_s_icmpNo Xw26.here hx (hb hby at_69) (pc' := 72) rfl (by decide) ?_
    refine own_s_aload Xw26.here hx (hb hby at_72) (pc' := 74) rfl rfl rfl ?_
    refine own_s_iconst Xw26.here hx (hb hby at_74) (pc' := 75) rfl (v := (1 : Int32)) (by decide) ?_
    refine own_s_iload Xw26.here hx (hb hby at_75) (pc' := 77) rfl rfl ?_
    refine own_s_i2d Xw26.here hx (hb hby at_77) (pc' := 78) rfl (v := (FP.i2d w2_c15_s_v6)) rfl ?_
    refine stw27 _ ?_
    refine own_s_lload Xw27.here hx (hb hby at_79) (pc' := 81) rfl rfl ?_
    refine own_s_iload Xw27.here hx (hb hby at_81) (pc' := 83) rfl rfl ?_
    refine own_s_i2l Xw27.here hx (hb hby at_83) (pc' := 84) rfl (v := w2_v83) w2_hv83 ?_
    refine own_s_iload Xw27.here hx (hb hby at_84) (pc' := 86) rfl rfl ?_
    refine own_s_i2l Xw27.here hx (hb hby at_86) (pc' := 87) rfl (v := w2_v86) w2_hv86 ?_
    refine own_s_lmul Xw27.here hx (hb hby at_87) (pc' := 88) rfl (v := w2_v87) w2_hv87 ?_
    refine own_s_ladd Xw27.here hx (hb hby at_88) (pc' := 89) rfl (v := w2_v88) w2_hv88 ?_
    refine own_s_lstore Xw27.here hx (hb hby at_89) (pc' := 91) rfl (L' := #[.val (.int p0), .val (.int p1), .val (.int p2), .val (.int p3), .val (.int p4), .val (.int (2 : Int32)), .val (.int w2_c9_s_v6), .val (.int w2_c15_s_v6), .val (.int w2_c21_s_v6), .val (.int w2_c28_s_v6), .val (.ref bw25), .val (.long w2_v88), .second, .unset, .unset]) rfl ?_
    refine own_s_iload Xw27.here hx (hb hby at_91) (pc' := 93) rfl rfl ?_
    refine own_s_iconst Xw27.here hx (hb hby at_93) (pc' := 94) rfl (v := (2 : Int32)) (by decide) ?_
    refine own_s_icmpYes Xw27.here hx (hb hby at_94) (by decide) (pc' := 116) (by decide) (by decide) ?_
    refine own_s_iload Xw27.here hx (hb hby at_116) (pc' := 118) rfl rfl ?_
    refine own_s_iconst Xw27.here hx (hb hby at_118) (pc' := 119) rfl (v := (3 : Int32)) (by decide) ?_
    refine own_s_icmpYes Xw27.here hx (hb hby at_119) (by decide) (pc' := 141) (by decide) (by decide) ?_
    refine own_s_aload Xw27.here hx (hb hby at_141) (pc' := 143) rfl rfl rfl ?_
    refine stw28 _ ?_
    show Steps p.tables e below (Tw28.setTop (mkF m 146 #[.val (.int p0), .val (.int p1), .val (.int p2), .val (.int p3), .val (.int p4), .val (.int (2 : Int32)), .val (.int w2_c9_s_v6), .val (.int w2_c15_s_v6), .val (.int w2_c21_s_v6), .val (.int w2_c28_s_v6), .val (.ref bw25), .val (.long w2_v88), .second, .unset, .unset] [(.double w2_c143_c2_v30_2)])) _
    refine own_s_dstore Xw28.here hx (hb hby at_146) (pc' := 148) rfl (L' := #[.val (.int p0), .val (.int p1), .val (.int p2), .val (.int p3), .val (.int p4), .val (.int (2 : Int32)), .val (.int w2_c9_s_v6), .val (.int w2_c15_s_v6), .val (.int w2_c21_s_v6), .val (.int w2_c28_s_v6), .val (.ref bw25), .val (.long w2_v88), .second, .val (.double w2_c143_c2_v30_2), .second]) rfl ?_
    refine own_s_dload Xw28.here hx (hb hby at_148) (pc' := 150) rfl rfl ?_
    refine own_s_lload Xw28.here hx (hb hby at_150) (pc' := 152) rfl rfl ?_
    refine own_s_l2d Xw28.here hx (hb hby at_152) (pc' := 153) rfl (v := (FP.l2d w2_v88)) rfl ?_
    refine own_s_dcmp Xw28.here hx (hb hby at_153) (pc' := 154) rfl (v := (0 : Int32)) w2_hc153 ?_
    refine own_s_ifNo Xw28.here hx (hb hby at_154) (pc' := 157) rfl (by decide) ?_
    refine own_s_iconst Xw28.here hx (hb hby at_157) (pc' := 158) rfl (v := (1 : Int32)) (by decide) ?_
    refine own_s_goto Xw28.here hx (hb hby at_158) (by decide) (pc' := 162) (by decide) ?_
    exact retN Xw28 hx (t := .boolean) Bd.returns (by simp) (hb hby at_162) hr
  · show own_Q0 n0 _ Tw28.heap _
    rw [ew28]
    exact ⟨rfl, Nw28⟩
theorem own_ef_c3 (m : MethodId) (q : Addr) : entryFrame m #[(.ref q)] 8 = mkF m 0 #[.val (.ref q), .unset, .unset, .unset, .unset, .unset, .unset, .unset] [] := by first | (simp [entryFrame, mkF, argsToLocals, Value.category]; done) | rfl
set_option maxRecDepth 65536 in
set_option maxHeartbeats 40000000 in
theorem own_rm_c3 (l : Launch) (Z : State) (a0 : Array Value) (hw : ∀ d ∈ tables_1, d.before a0 Z = true) (ws : List Jvm.Cond) (q : Addr) (d0 : UInt64) (d1 : UInt64) (d2 : UInt64) {qk : ClassId} {c3_v29 : UInt64} {c3_v30 : UInt64} {c3_v29_2 : UInt64} {c3_v30_2 : UInt64} {c3_v29_3 : UInt64} {c3_v30_3 : UInt64} (h0 : Heap) (n0 : Nat) (Z0 : n0 ≤ h0.size) (V_q : Arv Z h0 q qk .double (3 : Int32) [(.double d0), (.double d1), (.double d2)] (.double 0)) (c3_hn29 : Jvm.Free.Fl.NoNaN64 (FP.dmul d0 d0)) (c3_hv29 : FP.dmul d0 d0 = c3_v29) (c3_hn30 : Jvm.Free.Fl.NoNaN64 (FP.dadd 0 c3_v29)) (c3_hv30 : FP.dadd 0 c3_v29 = c3_v30) (c3_hn29_2 : Jvm.Free.Fl.NoNaN64 (FP.dmul d1 d1)) (c3_hv29_2 : FP.dmul d1 d1 = c3_v29_2) (c3_hn30_2 : Jvm.Free.Fl.NoNaN64 (FP.dadd c3_v30 c3_v29_2)) (c3_hv30_2 : FP.dadd c3_v30 c3_v29_2 = c3_v30_2) (c3_hn29_3 : Jvm.Free.Fl.NoNaN64 (FP.dmul d2 d2)) (c3_hv29_3 : FP.dmul d2 d2 = c3_v29_3) (c3_hn30_3 : Jvm.Free.Fl.NoNaN64 (FP.dadd c3_v30_2 c3_v29_3)) (c3_hv30_3 : FP.dadd c3_v30_2 c3_v29_3 = c3_v30_3) :
    MetFree l (⟨"com/example/differentia/differentia/problems/Problems", "sphere", "([D)D"⟩ : MethodName) (head1 (Jvm.Cond.code (⟨"com/example/differentia/differentia/problems/Problems", "sphere", "([D)D"⟩ : MethodName) prog_68_method_5_code 8 (some .double) :: ws) ({ frames := 0, cells := 0, slots := 0, locals := 0 } : Room)) (fun a U => a = #[(.ref q)] ∧ Z.Warmed39 U.vm ∧ U.heap = h0) (fun _ _ _ _ _ => True) (fun _ U o U' => ∃ v L, o = .returned v ∧ own_QP (some (.double c3_v30_3)) h0 n0 v U'.heap L ∧ FrameEnd U o U' L ({ frames := 0, cells := 0, slots := 0, locals := 0 } : Room).cells ({ frames := 0, cells := 0, slots := 0, locals := 0 } : Room).slots) := by
  refine MetFree.of_bodySF (plainFor_of_name own_pn_com_example_differentia_differentia_problems_Problems) hisR ?_
  intro p e s m args below meth c s₁ Bd hml0 hP hK
  obtain ⟨rfl, hZ, hh⟩ := hP
  have hx := Bd.exec
  have hby := Bd.bytes
  have hml : c.maxLocals = 8 := hml0
  have hown : s.vm.findClass "com/example/differentia/differentia/problems/Problems" = some m.cls := findClass_of_methodNamed Bd.named
  have hnm := (name_of_methodNamed Bd.named Bd.method).1
  have X0 : Stand p l e ({ frames := 0, cells := 0, slots := 0, locals := 0 } : Room) s m #[(.ref q)] below meth c s₁ [] 0 0 := Stand.of_body Bd
  have e0 : s₁.heap = h0 := by rw [← hh, Bd.state]; rfl
  have N0 := Fr.nil n0
  have pre0 : ∀ t, Steps p.tables e below (s₁.setTop (mkF m 0 #[.val (.ref q), .unset, .unset, .unset, .unset, .unset, .unset, .unset] [])) t → Steps p.tables e below (s₁.setTop (entryFrame m #[(.ref q)] 8)) t := fun t k => castTop (own_ef_c3 m q) k
  obtain ⟨fs, hr, hrun, hended, hW, hsame⟩ := X0.leave (v := some (.double c3_v30_3)) (fun h => by rw [Bd.returns] at h; cases h)
  refine ⟨_, _, pre0 _ ?_, hrun, hended, _, _, rfl, ?_, ⟨_, rfl⟩, hW, hsame.mono (by decide) (by decide)⟩
  · refine own_s_dconst0 X0.here hx (hb hby own_d2_0) (pc' := 1) rfl  ?_
    refine own_s_dstoreN X0.here hx (hb hby own_d2_1) (pc' := 2) rfl (L' := #[.val (.ref q), .val (.double 0), .second, .unset, .unset, .unset, .unset, .unset]) rfl ?_
    refine own_s_aloadN X0.here hx (hb hby own_d2_2) (pc' := 3) rfl rfl rfl ?_
    refine own_s_astoreN X0.here hx (hb hby own_d2_3) (pc' := 4) rfl rfl (L' := #[.val (.ref q), .val (.double 0), .second, .val (.ref q), .unset, .unset, .unset, .unset]) rfl ?_
    refine own_s_aloadN X0.here hx (hb hby own_d2_4) (pc' := 5) rfl rfl rfl ?_
    refine own_len X0 hx hZ e0 V_q (hb hby own_d2_5) (pc' := 6) rfl ?_
    refine own_s_istore X0.here hx (hb hby own_d2_6) (pc' := 8) rfl (L' := #[.val (.ref q), .val (.double 0), .second, .val (.ref q), .val (.int (3 : Int32)), .unset, .unset, .unset]) rfl ?_
    refine own_s_iconst X0.here hx (hb hby own_d2_8) (pc' := 9) rfl (v := (0 : Int32)) (by decide) ?_
    refine own_s_istore X0.here hx (hb hby own_d2_9) (pc' := 11) rfl (L' := #[.val (.ref q), .val (.double 0), .second, .val (.ref q), .val (.int (3 : Int32)), .val (.int (0 : Int32)), .unset, .unset]) rfl ?_
    refine own_s_iload X0.here hx (hb hby own_d2_11) (pc' := 13) rfl rfl ?_
    refine own_s_iload X0.here hx (hb hby own_d2_13) (pc' := 15) rfl rfl ?_
    refine own_s_icmpNo X0.here hx (hb hby own_d2_15) (pc' := 18) rfl (by decide) ?_
    refine own_s_aloadN X0.here hx (hb hby own_d2_18) (pc' := 19) rfl rfl rfl ?_
    refine own_s_iload X0.here hx (hb hby own_d2_19) (pc' := 21) rfl rfl ?_
    refine own_ldD X0 hx hZ e0 V_q (j := (0 : Int32)) (x := d0) (by decide) rfl (hb hby own_d2_21) (pc' := 22) rfl ?_
    refine own_s_dstore X0.here hx (hb hby own_d2_22) (pc' := 24) rfl (L' := #[.val (.ref q), .val (.double 0), .second, .val (.ref q), .val (.int (3 : Int32)), .val (.int (0 : Int32)), .val (.double d0), .second]) rfl ?_
    refine own_s_dloadN X0.here hx (hb hby own_d2_24) (pc' := 25) rfl rfl ?_
    refine own_s_dload X0.here hx (hb hby own_d2_25) (pc' := 27) rfl rfl ?_
    refine own_s_dload X0.here hx (hb hby own_d2_27) (pc' := 29) rfl rfl ?_
    refine own_s_dmul X0.here hx (hb hby own_d2_29) (pc' := 30) rfl c3_hn29 (v := c3_v29) c3_hv29 ?_
    refine own_s_dadd X0.here hx (hb hby own_d2_30) (pc' := 31) rfl c3_hn30 (v := c3_v30) c3_hv30 ?_
    refine own_s_dstoreN X0.here hx (hb hby own_d2_31) (pc' := 32) rfl (L' := #[.val (.ref q), .val (.double c3_v30), .second, .val (.ref q), .val (.int (3 : Int32)), .val (.int (0 : Int32)), .val (.double d0), .second]) rfl ?_
    refine own_s_iinc X0.here hx (hb hby own_d2_32) (pc' := 35) rfl rfl (v := (1 : Int32)) (by decide) (L' := #[.val (.ref q), .val (.double c3_v30), .second, .val (.ref q), .val (.int (3 : Int32)), .val (.int (1 : Int32)), .val (.double d0), .second]) rfl ?_
    refine own_s_goto X0.here hx (hb hby own_d2_35) (by decide) (pc' := 11) (by decide) ?_
    refine own_s_iload X0.here hx (hb hby own_d2_11) (pc' := 13) rfl rfl ?_
    refine own_s_iload X0.here hx (hb hby own_d2_13) (pc' := 15) rfl rfl ?_
    refine own_s_icmpNo X0.here hx (hb hby own_d2_15) (pc' := 18) rfl (by decide) ?_
    refine own_s_aloadN X0.here hx (hb hby own_d2_18) (pc' := 19) rfl rfl rfl ?_
    refine own_s_iload X0.here hx (hb hby own_d2_19) (pc' := 21) rfl rfl ?_
    refine own_ldD X0 hx hZ e0 V_q (j := (1 : Int32)) (x := d1) (by decide) rfl (hb hby own_d2_21) (pc' := 22) rfl ?_
    refine own_s_dstore X0.here hx (hb hby own_d2_22) (pc' := 24) rfl (L' := #[.val (.ref q), .val (.double c3_v30), .second, .val (.ref q), .val (.int (3 : Int32)), .val (.int (1 : Int32)), .val (.double d1), .second]) rfl ?_
    refine own_s_dloadN X0.here hx (hb hby own_d2_24) (pc' := 25) rfl rfl ?_
    refine own_s_dload X0.here hx (hb hby own_d2_25) (pc' := 27) rfl rfl ?_
    refine own_s_dload X0.here hx (hb hby own_d2_27) (pc' := 29) rfl rfl ?_
    refine own_s_dmul X0.here hx (hb hby own_d2_29) (pc' := 30) rfl c3_hn29_2 (v := c3_v29_2) c3_hv29_2 ?_
    refine own_s_dadd X0.here hx (hb hby own_d2_30) (pc' := 31) rfl c3_hn30_2 (v := c3_v30_2) c3_hv30_2 ?_
    refine own_s_dstoreN X0.here hx (hb hby own_d2_31) (pc' := 32) rfl (L' := #[.val (.ref q), .val (.double c3_v30_2), .second, .val (.ref q), .val (.int (3 : Int32)), .val (.int (1 : Int32)), .val (.double d1), .second]) rfl ?_
    refine own_s_iinc X0.here hx (hb hby own_d2_32) (pc' := 35) rfl rfl (v := (2 : Int32)) (by decide) (L' := #[.val (.ref q), .val (.double c3_v30_2), .second, .val (.ref q), .val (.int (3 : Int32)), .val (.int (2 : Int32)), .val (.double d1), .second]) rfl ?_
    refine own_s_goto X0.here hx (hb hby own_d2_35) (by decide) (pc' := 11) (by decide) ?_
    refine own_s_iload X0.here hx (hb hby own_d2_11) (pc' := 13) rfl rfl ?_
    refine own_s_iload X0.here hx (hb hby own_d2_13) (pc' := 15) rfl rfl ?_
    refine own_s_icmpNo X0.here hx (hb hby own_d2_15) (pc' := 18) rfl (by decide) ?_
    refine own_s_aloadN X0.here hx (hb hby own_d2_18) (pc' := 19) rfl rfl rfl ?_
    refine own_s_iload X0.here hx (hb hby own_d2_19) (pc' := 21) rfl rfl ?_
    refine own_ldD X0 hx hZ e0 V_q (j := (2 : Int32)) (x := d2) (by decide) rfl (hb hby own_d2_21) (pc' := 22) rfl ?_
    refine own_s_dstore X0.here hx (hb hby own_d2_22) (pc' := 24) rfl (L' := #[.val (.ref q), .val (.double c3_v30_2), .second, .val (.ref q), .val (.int (3 : Int32)), .val (.int (2 : Int32)), .val (.double d2), .second]) rfl ?_
    refine own_s_dloadN X0.here hx (hb hby own_d2_24) (pc' := 25) rfl rfl ?_
    refine own_s_dload X0.here hx (hb hby own_d2_25) (pc' := 27) rfl rfl ?_
    refine own_s_dload X0.here hx (hb hby own_d2_27) (pc' := 29) rfl rfl ?_
    refine own_s_dmul X0.here hx (hb hby own_d2_29) (pc' := 30) rfl c3_hn29_3 (v := c3_v29_3) c3_hv29_3 ?_
    refine own_s_dadd X0.here hx (hb hby own_d2_30) (pc' := 31) rfl c3_hn30_3 (v := c3_v30_3) c3_hv30_3 ?_
    refine own_s_dstoreN X0.here hx (hb hby own_d2_31) (pc' := 32) rfl (L' := #[.val (.ref q), .val (.double c3_v30_3), .second, .val (.ref q), .val (.int (3 : Int32)), .val (.int (2 : Int32)), .val (.double d2), .second]) rfl ?_
    refine own_s_iinc X0.here hx (hb hby own_d2_32) (pc' := 35) rfl rfl (v := (3 : Int32)) (by decide) (L' := #[.val (.ref q), .val (.double c3_v30_3), .second, .val (.ref q), .val (.int (3 : Int32)), .val (.int (3 : Int32)), .val (.double d2), .second]) rfl ?_
    refine own_s_goto X0.here hx (hb hby own_d2_35) (by decide) (pc' := 11) (by decide) ?_
    refine own_s_iload X0.here hx (hb hby own_d2_11) (pc' := 13) rfl rfl ?_
    refine own_s_iload X0.here hx (hb hby own_d2_13) (pc' := 15) rfl rfl ?_
    refine own_s_icmpYes X0.here hx (hb hby own_d2_15) (by decide) (pc' := 38) (by decide) (by decide) ?_
    refine own_s_dloadN X0.here hx (hb hby own_d2_38) (pc' := 39) rfl rfl ?_
    exact own_retD X0 hx Bd.returns (hb hby own_d2_39) hr
  · show own_QP (some (.double c3_v30_3)) h0 n0 _ s₁.heap _
    rw [e0]
    exact ⟨rfl, N0, rfl⟩
theorem own_ef_w3 (m : MethodId) (p0 : Int32) (p1 : Int32) (p2 : Int32) (p3 : Int32) (p4 : Int32) : entryFrame m #[(.int p0), (.int p1), (.int p2), (.int p3), (.int p4)] maxLocals = mkF m 0 #[.val (.int p0), .val (.int p1), .val (.int p2), .val (.int p3), .val (.int p4), .unset, .unset, .unset, .unset, .unset, .unset, .unset, .unset, .unset, .unset] [] := by first | (simp [entryFrame, mkF, argsToLocals, Value.category, maxLocals]; done) | rfl
set_option maxRecDepth 65536 in
set_option maxHeartbeats 40000000 in
theorem own_rm_w3 (l : Launch) (Z : State) (a0 : Array Value) (hw : ∀ d ∈ tables_1, d.before a0 Z = true) (ws : List Jvm.Cond) (p0 : Int32) (p1 : Int32) (p2 : Int32) (p3 : Int32) (p4 : Int32) {w3_v3 : Int32} {w3_c9_s_v3 : Int32} {w3_c9_s_v6 : Int32} {w3_c15_s_v3 : Int32} {w3_c15_s_v6 : Int32} {w3_c21_s_v3 : Int32} {w3_c21_s_v6 : Int32} {w3_c28_s_v3 : Int32} {w3_c28_s_v6 : Int32} {w3_v58 : Int64} {w3_v61 : Int64} {w3_v62 : Int64} {w3_v63 : Int64} {w3_v83 : Int64} {w3_v86 : Int64} {w3_v87 : Int64} {w3_v88 : Int64} {w3_v108 : Int64} {w3_v111 : Int64} {w3_v112 : Int64} {w3_v113 : Int64} {w3_c143_c3_v29 : UInt64} {w3_c143_c3_v30 : UInt64} {w3_c143_c3_v29_2 : UInt64} {w3_c143_c3_v30_2 : UInt64} {w3_c143_c3_v29_3 : UInt64} {w3_c143_c3_v30_3 : UInt64} (h0 : Heap) (n0 : Nat) (Z0 : n0 ≤ h0.size)  (w3_hv3 : p0 &&& (2147483647 : Int32) = w3_v3) (w3_hv5 : w3_v3 % (5 : Int32) = (3 : Int32)) (w3_c9_s_hv3 : p1 <<< ((7 : Int32) &&& 31) = w3_c9_s_v3) (w3_c9_s_hv6 : w3_c9_s_v3 >>> ((7 : Int32) &&& 31) = w3_c9_s_v6) (w3_c15_s_hv3 : p2 <<< ((7 : Int32) &&& 31) = w3_c15_s_v3) (w3_c15_s_hv6 : w3_c15_s_v3 >>> ((7 : Int32) &&& 31) = w3_c15_s_v6) (w3_c21_s_hv3 : p3 <<< ((7 : Int32) &&& 31) = w3_c21_s_v3) (w3_c21_s_hv6 : w3_c21_s_v3 >>> ((7 : Int32) &&& 31) = w3_c21_s_v6) (w3_c28_s_hv3 : p4 <<< ((7 : Int32) &&& 31) = w3_c28_s_v3) (w3_c28_s_hv6 : w3_c28_s_v3 >>> ((7 : Int32) &&& 31) = w3_c28_s_v6) (w3_hv58 : Int32.toInt64 w3_c9_s_v6 = w3_v58) (w3_hv61 : Int32.toInt64 w3_c9_s_v6 = w3_v61) (w3_hv62 : w3_v58 * w3_v61 = w3_v62) (w3_hv63 : (0 : Int64) + w3_v62 = w3_v63) (w3_hv83 : Int32.toInt64 w3_c15_s_v6 = w3_v83) (w3_hv86 : Int32.toInt64 w3_c15_s_v6 = w3_v86) (w3_hv87 : w3_v83 * w3_v86 = w3_v87) (w3_hv88 : w3_v63 + w3_v87 = w3_v88) (w3_hv108 : Int32.toInt64 w3_c21_s_v6 = w3_v108) (w3_hv111 : Int32.toInt64 w3_c21_s_v6 = w3_v111) (w3_hv112 : w3_v108 * w3_v111 = w3_v112) (w3_hv113 : w3_v88 + w3_v112 = w3_v113) (w3_c143_c3_hn29 : Jvm.Free.Fl.NoNaN64 (FP.dmul (FP.i2d w3_c9_s_v6) (FP.i2d w3_c9_s_v6))) (w3_c143_c3_hv29 : FP.dmul (FP.i2d w3_c9_s_v6) (FP.i2d w3_c9_s_v6) = w3_c143_c3_v29) (w3_c143_c3_hn30 : Jvm.Free.Fl.NoNaN64 (FP.dadd 0 w3_c143_c3_v29)) (w3_c143_c3_hv30 : FP.dadd 0 w3_c143_c3_v29 = w3_c143_c3_v30) (w3_c143_c3_hn29_2 : Jvm.Free.Fl.NoNaN64 (FP.dmul (FP.i2d w3_c15_s_v6) (FP.i2d w3_c15_s_v6))) (w3_c143_c3_hv29_2 : FP.dmul (FP.i2d w3_c15_s_v6) (FP.i2d w3_c15_s_v6) = w3_c143_c3_v29_2) (w3_c143_c3_hn30_2 : Jvm.Free.Fl.NoNaN64 (FP.dadd w3_c143_c3_v30 w3_c143_c3_v29_2)) (w3_c143_c3_hv30_2 : FP.dadd w3_c143_c3_v30 w3_c143_c3_v29_2 = w3_c143_c3_v30_2) (w3_c143_c3_hn29_3 : Jvm.Free.Fl.NoNaN64 (FP.dmul (FP.i2d w3_c21_s_v6) (FP.i2d w3_c21_s_v6))) (w3_c143_c3_hv29_3 : FP.dmul (FP.i2d w3_c21_s_v6) (FP.i2d w3_c21_s_v6) = w3_c143_c3_v29_3) (w3_c143_c3_hn30_3 : Jvm.Free.Fl.NoNaN64 (FP.dadd w3_c143_c3_v30_2 w3_c143_c3_v29_3)) (w3_c143_c3_hv30_3 : FP.dadd w3_c143_c3_v30_2 w3_c143_c3_v29_3 = w3_c143_c3_v30_3) (w3_hc153 : Op.cmpValue (FP.dcmp w3_c143_c3_v30_3 (FP.l2d w3_v113)) .l = (0 : Int32)) :
    MetFree l x (head1 (Jvm.Cond.code x code maxLocals ret :: ws) room_1) (fun a U => a = #[(.int p0), (.int p1), (.int p2), (.int p3), (.int p4)] ∧ Z.Warmed39 U.vm ∧ U.heap = h0) (fun _ _ _ _ _ => True) (fun _ U o U' => ∃ v L, o = .returned v ∧ own_Q0 n0 v U'.heap L ∧ FrameEnd U o U' L room_1.cells room_1.slots) := by
  refine MetFree.of_bodySF (plainFor_of_name own_pn_com_example_differentia_differentia_problems_ProblemsSpherePinLaw) hisR ?_
  intro p e s m args below meth c s₁ Bd hml0 hP hK
  obtain ⟨rfl, hZ, hh⟩ := hP
  have hx := Bd.exec
  have hby := Bd.bytes
  have hml : c.maxLocals = 15 := hml0
  have hown : s.vm.findClass "com/example/differentia/differentia/problems/ProblemsSpherePinLaw" = some m.cls := findClass_of_methodNamed Bd.named
  have hnm := (name_of_methodNamed Bd.named Bd.method).1
  have X0 : Stand p l e room_1 s m #[(.int p0), (.int p1), (.int p2), (.int p3), (.int p4)] below meth c s₁ [] 0 0 := Stand.of_body Bd
  have e0 : s₁.heap = h0 := by rw [← hh, Bd.state]; rfl
  have N0 := Fr.nil n0
  have pre0 : ∀ t, Steps p.tables e below (s₁.setTop (mkF m 0 #[.val (.int p0), .val (.int p1), .val (.int p2), .val (.int p3), .val (.int p4), .unset, .unset, .unset, .unset, .unset, .unset, .unset, .unset, .unset, .unset] [])) t → Steps p.tables e below (s₁.setTop (entryFrame m #[(.int p0), (.int p1), (.int p2), (.int p3), (.int p4)] maxLocals)) t := fun t k => castTop (own_ef_w3 m p0 p1 p2 p3 p4) k
  obtain ⟨_, _, ⟨Tw31, Lw31, kw31, nw31⟩, -, Xw31, ⟨Lcw31, hQw31, lw31, yw31, zw31⟩, stw31⟩ := Jvm.LawKit.callS X0 hx (y := (⟨"com/example/differentia/differentia/problems/ProblemsSpherePinLaw", "small", "(I)I"⟩ : MethodName)) hown (mvT hZ (hw _ (List.mem_of_getElem? (i := 1) rfl))) (mvT hZ (hw _ (List.mem_of_getElem? (i := 2) rfl))) (mvT hZ (hw _ (List.mem_of_getElem? (i := 3) rfl))) (mvT hZ (hw _ (List.mem_of_getElem? (i := 4) rfl))) (by decide) (backOf (W := 0) (own_rm_s l Z a0 hw [] p1 h0 n0 Z0 w3_c9_s_hv3 w3_c9_s_hv6) hZ (hw _ (List.mem_of_getElem? (i := 4) rfl)) (hw _ (List.mem_of_getElem? (i := 3) rfl)) (by decide) (by decide)) (g := (mkF m 9 #[.val (.int p0), .val (.int p1), .val (.int p2), .val (.int p3), .val (.int p4), .val (.int (3 : Int32)), .unset, .unset, .unset, .unset, .unset, .unset, .unset, .unset, .unset] [(.int p1)])) rfl (by rw [hml]; rfl) (argsL := [(.int p1)]) (rest := []) (lenOf own_pd_28I29I rfl) rfl (by show 2 * 0 + _ ≤ _; exact Nat.le_of_eq rfl) (hb hby at_9) (fun _ _ => ⟨rfl, e0, (by decide : 0 + 0 ≤ _), (by decide : 0 + 0 ≤ _)⟩)
  dsimp only [Pt.U, Pt.locs, Pt.cells, Pt.slots] at Xw31 lw31 yw31 zw31 stw31 hQw31
  subst lw31 yw31 zw31
  obtain ⟨rfl, Nw31q, ew31⟩ := hQw31
  have Nw31 := Fr.app N0 Nw31q
  obtain ⟨_, _, ⟨Tw32, Lw32, kw32, nw32⟩, -, Xw32, ⟨Lcw32, hQw32, lw32, yw32, zw32⟩, stw32⟩ := Jvm.LawKit.callS Xw31 hx (y := (⟨"com/example/differentia/differentia/problems/ProblemsSpherePinLaw", "small", "(I)I"⟩ : MethodName)) hown (mvT hZ (hw _ (List.mem_of_getElem? (i := 1) rfl))) (mvT hZ (hw _ (List.mem_of_getElem? (i := 2) rfl))) (mvT hZ (hw _ (List.mem_of_getElem? (i := 3) rfl))) (mvT hZ (hw _ (List.mem_of_getElem? (i := 4) rfl))) (by decide) (backOf (W := 0) (own_rm_s l Z a0 hw [] p2 h0 n0 Z0 w3_c15_s_hv3 w3_c15_s_hv6) hZ (hw _ (List.mem_of_getElem? (i := 4) rfl)) (hw _ (List.mem_of_getElem? (i := 3) rfl)) (by decide) (by decide)) (g := (mkF m 15 #[.val (.int p0), .val (.int p1), .val (.int p2), .val (.int p3), .val (.int p4), .val (.int (3 : Int32)), .val (.int w3_c9_s_v6), .unset, .unset, .unset, .unset, .unset, .unset, .unset, .unset] [(.int p2)])) rfl (by rw [hml]; rfl) (argsL := [(.int p2)]) (rest := []) (lenOf own_pd_28I29I rfl) rfl (by show 2 * 0 + _ ≤ _; exact Nat.le_of_eq rfl) (hb hby at_15) (fun _ _ => ⟨rfl, ew31, (by decide : 0 + 0 ≤ _), (by decide : 0 + 0 ≤ _)⟩)
  dsimp only [Pt.U, Pt.locs, Pt.cells, Pt.slots] at Xw32 lw32 yw32 zw32 stw32 hQw32
  subst lw32 yw32 zw32
  obtain ⟨rfl, Nw32q, ew32⟩ := hQw32
  have Nw32 := Fr.app Nw31 Nw32q
  obtain ⟨_, _, ⟨Tw33, Lw33, kw33, nw33⟩, -, Xw33, ⟨Lcw33, hQw33, lw33, yw33, zw33⟩, stw33⟩ := Jvm.LawKit.callS Xw32 hx (y := (⟨"com/example/differentia/differentia/problems/ProblemsSpherePinLaw", "small", "(I)I"⟩ : MethodName)) hown (mvT hZ (hw _ (List.mem_of_getElem? (i := 1) rfl))) (mvT hZ (hw _ (List.mem_of_getElem? (i := 2) rfl))) (mvT hZ (hw _ (List.mem_of_getElem? (i := 3) rfl))) (mvT hZ (hw _ (List.mem_of_getElem? (i := 4) rfl))) (by decide) (backOf (W := 0) (own_rm_s l Z a0 hw [] p3 h0 n0 Z0 w3_c21_s_hv3 w3_c21_s_hv6) hZ (hw _ (List.mem_of_getElem? (i := 4) rfl)) (hw _ (List.mem_of_getElem? (i := 3) rfl)) (by decide) (by decide)) (g := (mkF m 21 #[.val (.int p0), .val (.int p1), .val (.int p2), .val (.int p3), .val (.int p4), .val (.int (3 : Int32)), .val (.int w3_c9_s_v6), .val (.int w3_c15_s_v6), .unset, .unset, .unset, .unset, .unset, .unset, .unset] [(.int p3)])) rfl (by rw [hml]; rfl) (argsL := [(.int p3)]) (rest := []) (lenOf own_pd_28I29I rfl) rfl (by show 2 * 0 + _ ≤ _; exact Nat.le_of_eq rfl) (hb hby at_21) (fun _ _ => ⟨rfl, ew32, (by decide : 0 + 0 ≤ _), (by decide : 0 + 0 ≤ _)⟩)
  dsimp only [Pt.U, Pt.locs, Pt.cells, Pt.slots] at Xw33 lw33 yw33 zw33 stw33 hQw33
  subst lw33 yw33 zw33
  obtain ⟨rfl, Nw33q, ew33⟩ := hQw33
  have Nw33 := Fr.app Nw32 Nw33q
  obtain ⟨_, _, ⟨Tw34, Lw34, kw34, nw34⟩, -, Xw34, ⟨Lcw34, hQw34, lw34, yw34, zw34⟩, stw34⟩ := Jvm.LawKit.callS Xw33 hx (y := (⟨"com/example/differentia/differentia/problems/ProblemsSpherePinLaw", "small", "(I)I"⟩ : MethodName)) hown (mvT hZ (hw _ (List.mem_of_getElem? (i := 1) rfl))) (mvT hZ (hw _ (List.mem_of_getElem? (i := 2) rfl))) (mvT hZ (hw _ (List.mem_of_getElem? (i := 3) rfl))) (mvT hZ (hw _ (List.mem_of_getElem? (i := 4) rfl))) (by decide) (backOf (W := 0) (own_rm_s l Z a0 hw [] p4 h0 n0 Z0 w3_c28_s_hv3 w3_c28_s_hv6) hZ (hw _ (List.mem_of_getElem? (i := 4) rfl)) (hw _ (List.mem_of_getElem? (i := 3) rfl)) (by decide) (by decide)) (g := (mkF m 28 #[.val (.int p0), .val (.int p1), .val (.int p2), .val (.int p3), .val (.int p4), .val (.int (3 : Int32)), .val (.int w3_c9_s_v6), .val (.int w3_c15_s_v6), .val (.int w3_c21_s_v6), .unset, .unset, .unset, .unset, .unset, .unset] [(.int p4)])) rfl (by rw [hml]; rfl) (argsL := [(.int p4)]) (rest := []) (lenOf own_pd_28I29I rfl) rfl (by show 2 * 0 + _ ≤ _; exact Nat.le_of_eq rfl) (hb hby at_28) (fun _ _ => ⟨rfl, ew33, (by decide : 0 + 0 ≤ _), (by decide : 0 + 0 ≤ _)⟩)
  dsimp only [Pt.U, Pt.locs, Pt.cells, Pt.slots] at Xw34 lw34 yw34 zw34 stw34 hQw34
  subst lw34 yw34 zw34
  obtain ⟨rfl, Nw34q, ew34⟩ := hQw34
  have Nw34 := Fr.app Nw33 Nw34q
  obtain ⟨Tw35, hw35, kw35, bw35, Xw35, ew35, Ew35, Gw35, Vw35, stw35⟩ := own_newD (L := #[.val (.int p0), .val (.int p1), .val (.int p2), .val (.int p3), .val (.int p4), .val (.int (3 : Int32)), .val (.int w3_c9_s_v6), .val (.int w3_c15_s_v6), .val (.int w3_c21_s_v6), .val (.int w3_c28_s_v6), .unset, .unset, .unset, .unset, .unset]) (S := []) Xw34 hx hZ (hw _ (List.mem_of_getElem? (i := 5) rfl)) ew34 (z := (3 : Int32)) 3 (by decide) (by decide) (by decide) (by decide) (by decide) (hb hby at_35) (pc' := 37) rfl
  have g_bw35 : n0 ≤ bw35 := Nat.le_trans Z0 (Nat.le_of_eq Gw35.symm)
  have sz_bw35 : h0.size ≤ bw35 := Nat.le_trans (Keep.refl h0 []).1 (Nat.le_of_eq Gw35.symm)
  have Zw35 : n0 ≤ hw35.size := Nat.le_trans Z0 Ew35.1
  have KKw35 := (Keep.refl h0 []).ext Ew35
  have V_bw35 : Arv Z hw35 bw35 kw35 .double (3 : Int32) [(.double 0), (.double 0), (.double 0)] (.double 0) := Vw35
  obtain ⟨Tw36, hw36, Xw36, ew36, Ww36, Vw36, stw36⟩ := own_stD (L := #[.val (.int p0), .val (.int p1), .val (.int p2), .val (.int p3), .val (.int p4), .val (.int (3 : Int32)), .val (.int w3_c9_s_v6), .val (.int w3_c15_s_v6), .val (.int w3_c21_s_v6), .val (.int w3_c28_s_v6), .val (.ref bw35), .val (.long (0 : Int64)), .second, .unset, .unset]) (S := []) Xw35 hx hZ ew35 V_bw35 (j := (0 : Int32)) (x := (FP.i2d w3_c9_s_v6)) (by decide) 0 (by decide) (Nat.le_of_ble_eq_true rfl) (hb hby at_53) (pc' := 54) rfl
  have Zw36 : n0 ≤ hw36.size := Nat.le_trans Zw35 (Nat.le_of_eq Ww36.size.symm)
  have KKw36 := KKw35.wr Ww36 (Or.inr sz_bw35)
  have V_bw35_w36 : Arv Z hw36 bw35 kw35 .double (3 : Int32) [(.double (FP.i2d w3_c9_s_v6)), (.double 0), (.double 0)] (.double 0) := Vw36
  have Nw36 := Fr.snoc Xw36 Nw34 g_bw35
  obtain ⟨Tw37, hw37, Xw37, ew37, Ww37, Vw37, stw37⟩ := own_stD (L := #[.val (.int p0), .val (.int p1), .val (.int p2), .val (.int p3), .val (.int p4), .val (.int (3 : Int32)), .val (.int w3_c9_s_v6), .val (.int w3_c15_s_v6), .val (.int w3_c21_s_v6), .val (.int w3_c28_s_v6), .val (.ref bw35), .val (.long w3_v63), .second, .unset, .unset]) (S := []) Xw36 hx hZ ew36 V_bw35_w36 (j := (1 : Int32)) (x := (FP.i2d w3_c15_s_v6)) (by decide) 1 (by decide) (Nat.le_of_ble_eq_true rfl) (hb hby at_78) (pc' := 79) rfl
  have Zw37 : n0 ≤ hw37.size := Nat.le_trans Zw36 (Nat.le_of_eq Ww37.size.symm)
  have KKw37 := KKw36.wr Ww37 (Or.inr sz_bw35)
  have V_bw35_w37 : Arv Z hw37 bw35 kw35 .double (3 : Int32) [(.double (FP.i2d w3_c9_s_v6)), (.double (FP.i2d w3_c15_s_v6)), (.double 0)] (.double 0) := Vw37
  have Nw37 := Fr.snoc Xw37 Nw36 g_bw35
  obtain ⟨Tw38, hw38, Xw38, ew38, Ww38, Vw38, stw38⟩ := own_stD (L := #[.val (.int p0), .val (.int p1), .val (.int p2), .val (.int p3), .val (.int p4), .val (.int (3 : Int32)), .val (.int w3_c9_s_v6), .val (.int w3_c15_s_v6), .val (.int w3_c21_s_v6), .val (.int w3_c28_s_v6), .val (.ref bw35), .val (.long w3_v88), .second, .unset, .unset]) (S := []) Xw37 hx hZ ew37 V_bw35_w37 (j := (2 : Int32)) (x := (FP.i2d w3_c21_s_v6)) (by decide) 2 (by decide) (Nat.le_of_ble_eq_true rfl) (hb hby at_103) (pc' := 104) rfl
  have Zw38 : n0 ≤ hw38.size := Nat.le_trans Zw37 (Nat.le_of_eq Ww38.size.symm)
  have KKw38 := KKw37.wr Ww38 (Or.inr sz_bw35)
  have V_bw35_w38 : Arv Z hw38 bw35 kw35 .double (3 : Int32) [(.double (FP.i2d w3_c9_s_v6)), (.double (FP.i2d w3_c15_s_v6)), (.double (FP.i2d w3_c21_s_v6))] (.double 0) := Vw38
  have Nw38 := Fr.snoc Xw38 Nw37 g_bw35
  obtain ⟨_, _, ⟨Tw39, Lw39, kw39, nw39⟩, -, Xw39, ⟨Lcw39, hQw39, lw39, yw39, zw39⟩, stw39⟩ := Jvm.LawKit.callS Xw38 hx (y := (⟨"com/example/differentia/differentia/problems/Problems", "sphere", "([D)D"⟩ : MethodName)) hown (mvT hZ (hw _ (List.mem_of_getElem? (i := 6) rfl))) (mvT hZ (hw _ (List.mem_of_getElem? (i := 7) rfl))) (mvT hZ (hw _ (List.mem_of_getElem? (i := 8) rfl))) (mvT hZ (hw _ (List.mem_of_getElem? (i := 9) rfl))) (by decide) (backOf (W := 0) (own_rm_c3 l Z a0 hw [] bw35 (FP.i2d w3_c9_s_v6) (FP.i2d w3_c15_s_v6) (FP.i2d w3_c21_s_v6) hw38 n0 Zw38 V_bw35_w38 w3_c143_c3_hn29 w3_c143_c3_hv29 w3_c143_c3_hn30 w3_c143_c3_hv30 w3_c143_c3_hn29_2 w3_c143_c3_hv29_2 w3_c143_c3_hn30_2 w3_c143_c3_hv30_2 w3_c143_c3_hn29_3 w3_c143_c3_hv29_3 w3_c143_c3_hn30_3 w3_c143_c3_hv30_3) hZ (hw _ (List.mem_of_getElem? (i := 9) rfl)) (hw _ (List.mem_of_getElem? (i := 8) rfl)) (by decide) (by decide)) (g := (mkF m 143 #[.val (.int p0), .val (.int p1), .val (.int p2), .val (.int p3), .val (.int p4), .val (.int (3 : Int32)), .val (.int w3_c9_s_v6), .val (.int w3_c15_s_v6), .val (.int w3_c21_s_v6), .val (.int w3_c28_s_v6), .val (.ref bw35), .val (.long w3_v113), .second, .unset, .unset] [(.ref bw35)])) rfl (by rw [hml]; rfl) (argsL := [(.ref bw35)]) (rest := []) (lenOf own_pd_285bD29D rfl) rfl (by show 2 * 0 + _ ≤ _; exact Nat.le_of_eq rfl) (hb hby at_143) (fun _ _ => ⟨rfl, ew38, (by decide : 1 + 0 ≤ _), (by decide : 3 + 0 ≤ _)⟩)
  dsimp only [Pt.U, Pt.locs, Pt.cells, Pt.slots] at Xw39 lw39 yw39 zw39 stw39 hQw39
  subst lw39 yw39 zw39
  obtain ⟨rfl, Nw39q, ew39⟩ := hQw39
  have Nw39 := Fr.app Nw38 Nw39q
  obtain ⟨fs, hr, hrun, hended, hW, hsame⟩ := Xw39.leave (v := some (.int (1 : Int32))) (fun h => by rw [Bd.returns] at h; cases h)
  refine ⟨_, _, pre0 _ ?_, hrun, hended, _, _, rfl, ?_, ⟨_, rfl⟩, hW, hsame.mono (by decide) (by decide)⟩
  · refine own_s_iloadN X0.here hx (hb hby at_0) (pc' := 1) rfl rfl ?_
    refine X0.ldcInt hx hown (mvT hZ (hw _ (List.mem_of_getElem? (i := 0) rfl))) (g := (mkF m 1 #[.val (.int p0), .val (.int p1), .val (.int p2), .val (.int p3), .val (.int p4), .unset, .unset, .unset, .unset, .unset, .unset, .unset, .unset, .unset, .unset] [(.int p0)])) rfl (hb hby at_1) _ ?_
    show Steps p.tables e below (s₁.setTop (mkF m 3 #[.val (.int p0), .val (.int p1), .val (.int p2), .val (.int p3), .val (.int p4), .unset, .unset, .unset, .unset, .unset, .unset, .unset, .unset, .unset, .unset] [(.int (2147483647 : Int32)), (.int p0)])) _
    refine own_s_iand X0.here hx (hb hby at_3) (pc' := 4) rfl (v := w3_v3) w3_hv3 ?_
    refine own_s_iconst X0.here hx (hb hby at_4) (pc' := 5) rfl (v := (5 : Int32)) (by decide) ?_
    refine own_s_irem X0.here hx (hb hby at_5) (pc' := 6) rfl (by decide) (v := (3 : Int32)) w3_hv5 ?_
    refine own_s_istore X0.here hx (hb hby at_6) (pc' := 8) rfl (L' := #[.val (.int p0), .val (.int p1), .val (.int p2), .val (.int p3), .val (.int p4), .val (.int (3 : Int32)), .unset, .unset, .unset, .unset, .unset, .unset, .unset, .unset, .unset]) rfl ?_
    refine own_s_iloadN X0.here hx (hb hby at_8) (pc' := 9) rfl rfl ?_
    refine stw31 _ ?_
    show Steps p.tables e below (Tw31.setTop (mkF m 12 #[.val (.int p0), .val (.int p1), .val (.int p2), .val (.int p3), .val (.int p4), .val (.int (3 : Int32)), .unset, .unset, .unset, .unset, .unset, .unset, .unset, .unset, .unset] [(.int w3_c9_s_v6)])) _
    refine own_s_istore Xw31.here hx (hb hby at_12) (pc' := 14) rfl (L' := #[.val (.int p0), .val (.int p1), .val (.int p2), .val (.int p3), .val (.int p4), .val (.int (3 : Int32)), .val (.int w3_c9_s_v6), .unset, .unset, .unset, .unset, .unset, .unset, .unset, .unset]) rfl ?_
    refine own_s_iloadN Xw31.here hx (hb hby at_14) (pc' := 15) rfl rfl ?_
    refine stw32 _ ?_
    show Steps p.tables e below (Tw32.setTop (mkF m 18 #[.val (.int p0), .val (.int p1), .val (.int p2), .val (.int p3), .val (.int p4), .val (.int (3 : Int32)), .val (.int w3_c9_s_v6), .unset, .unset, .unset, .unset, .unset, .unset, .unset, .unset] [(.int w3_c15_s_v6)])) _
    refine own_s_istore Xw32.here hx (hb hby at_18) (pc' := 20) rfl (L' := #[.val (.int p0), .val (.int p1), .val (.int p2), .val (.int p3), .val (.int p4), .val (.int (3 : Int32)), .val (.int w3_c9_s_v6), .val (.int w3_c15_s_v6), .unset, .unset, .unset, .unset, .unset, .unset, .unset]) rfl ?_
    refine own_s_iloadN Xw32.here hx (hb hby at_20) (pc' := 21) rfl rfl ?_
    refine stw33 _ ?_
    show Steps p.tables e below (Tw33.setTop (mkF m 24 #[.val (.int p0), .val (.int p1), .val (.int p2), .val (.int p3), .val (.int p4), .val (.int (3 : Int32)), .val (.int w3_c9_s_v6), .val (.int w3_c15_s_v6), .unset, .unset, .unset, .unset, .unset, .unset, .unset] [(.int w3_c21_s_v6)])) _
    refine own_s_istore Xw33.here hx (hb hby at_24) (pc' := 26) rfl (L' := #[.val (.int p0), .val (.int p1), .val (.int p2), .val (.int p3), .val (.int p4), .val (.int (3 : Int32)), .val (.int w3_c9_s_v6), .val (.int w3_c15_s_v6), .val (.int w3_c21_s_v6), .unset, .unset, .unset, .unset, .unset, .unset]) rfl ?_
    refine own_s_iload Xw33.here hx (hb hby at_26) (pc' := 28) rfl rfl ?_
    refine stw34 _ ?_
    show Steps p.tables e below (Tw34.setTop (mkF m 31 #[.val (.int p0), .val (.int p1), .val (.int p2), .val (.int p3), .val (.int p4), .val (.int (3 : Int32)), .val (.int w3_c9_s_v6), .val (.int w3_c15_s_v6), .val (.int w3_c21_s_v6), .unset, .unset, .unset, .unset, .unset, .unset] [(.int w3_c28_s_v6)])) _
    refine own_s_istore Xw34.here hx (hb hby at_31) (pc' := 33) rfl (L' := #[.val (.int p0), .val (.int p1), .val (.int p2), .val (.int p3), .val (.int p4), .val (.int (3 : Int32)), .val (.int w3_c9_s_v6), .val (.int w3_c15_s_v6), .val (.int w3_c21_s_v6), .val (.int w3_c28_s_v6), .unset, .unset, .unset, .unset, .unset]) rfl ?_
    refine own_s_iload Xw34.here hx (hb hby at_33) (pc' := 35) rfl rfl ?_
    refine stw35 _ ?_
    refine own_s_astore Xw35.here hx (hb hby at_37) (pc' := 39) rfl rfl (L' := #[.val (.int p0), .val (.int p1), .val (.int p2), .val (.int p3), .val (.int p4), .val (.int (3 : Int32)), .val (.int w3_c9_s_v6), .val (.int w3_c15_s_v6), .val (.int w3_c21_s_v6), .val (.int w3_c28_s_v6), .val (.ref bw35), .unset, .unset, .unset, .unset]) rfl ?_
    refine own_s_lconst Xw35.here hx (hb hby at_39) (pc' := 40) rfl (v := (0 : Int64)) (by decide) ?_
    refine own_s_lstore Xw35.here hx (hb hby at_40) (pc' := 42) rfl (L' := #[.val (.int p0), .val (.int p1), .val (.int p2), .val (.int p3), .val (.int p4), .val (.int (3 : Int32)), .val (.int w3_c9_s_v6), .val (.int w3_c15_s_v6), .val (.int w3_c21_s_v6), .val (.int w3_c28_s_v6), .val (.ref bw35), .val (.long (0 : Int64)), .second, .unset, .unset]) rfl ?_
    refine own_s_iload Xw35.here hx (hb hby at_42) (pc' := 44) rfl rfl ?_
    refine own_s_ifNo Xw35.here hx (hb hby at_44) (pc' := 47) rfl (by decide) ?_
    refine own_s_aload Xw35.here hx (hb hby at_47) (pc' := 49) rfl rfl rfl ?_
    refine own_s_iconst Xw35.here hx (hb hby at_49) (pc' := 50) rfl (v := (0 : Int32)) (by decide) ?_
    refine own_s_iload Xw35.here hx (hb hby at_50) (pc' := 52) rfl rfl ?_
    refine own_s_i2d Xw35.here hx (hb hby at_52) (pc' := 53) rfl (v := (FP.i2d w3_c9_s_v6)) rfl ?_
    refine stw36 _ ?_
    refine own_s_lload Xw36.here hx (hb hby at_54) (pc' := 56) rfl rfl ?_
    refine own_s_iload Xw36.here hx (hb hby at_56) (pc' := 58) rfl rfl ?_
    refine own_s_i2l Xw36.here hx (hb hby at_58) (pc' := 59) rfl (v := w3_v58) w3_hv58 ?_
    refine own_s_iload Xw36.here hx (hb hby at_59) (pc' := 61) rfl rfl ?_
    refine own_s_i2l Xw36.here hx (hb hby at_61) (pc' := 62) rfl (v := w3_v61) w3_hv61 ?_
    refine own_s_lmul Xw36.here hx (hb hby at_62) (pc' := 63) rfl (v := w3_v62) w3_hv62 ?_
    refine own_s_ladd Xw36.here hx (hb hby at_63) (pc' := 64) rfl (v := w3_v63) w3_hv63 ?_
    refine own_s_lstore Xw36.here hx (hb hby at_64) (pc' := 66) rfl (L' := #[.val (.int p0), .val (.int p1), .val (.int p2), .val (.int p3), .val (.int p4), .val (.int (3 : Int32)), .val (.int w3_c9_s_v6), .val (.int w3_c15_s_v6), .val (.int w3_c21_s_v6), .val (.int w3_c28_s_v6), .val (.ref bw35), .val (.long w3_v63), .second, .unset, .unset]) rfl ?_
    refine own_s_iload Xw36.here hx (hb hby at_66) (pc' := 68) rfl rfl ?_
    refine own_s_iconst Xw36.here hx (hb hby at_68) (pc' := 69) rfl (v := (1 : Int32)) (by decide) ?_
    refine own_s_icmpNo Xw36.here hx (hb hby at_69) (pc' := 72) rfl (by decide) ?_
    refine own_s_aload Xw36.here hx (hb hby at_72) (pc' := 74) rfl rfl rfl ?_
    refine own_s_iconst Xw36.here hx (hb hby at_74) (pc' := 75) rfl (v := (1 : Int32)) (by decide) ?_
    refine own_s_iload Xw36.here hx (hb hby at_75) (pc' := 77) rfl rfl ?_
    refine own_s_i2d Xw36.here hx (hb hby at_77) (pc' := 78) rfl (v := (FP.i2d w3_c15_s_v6)) rfl ?_
    refine stw37 _ ?_
    refine own_s_lload Xw37.here hx (hb hby at_79) (pc' := 81) rfl rfl ?_
    refine own_s_iload Xw37.here hx (hb hby at_81) (pc' := 83) rfl rfl ?_
    refine own_s_i2l Xw37.here hx (hb hby at_83) (pc' := 84) rfl (v := w3_v83) w3_hv83 ?_
    refine own_s_iload Xw37.here hx (hb hby at_84) (pc' := 86) rfl rfl ?_
    refine own_s_i2l Xw37.here hx (hb hby at_86) (pc' := 87) rfl (v := w3_v86) w3_hv86 ?_
    refine own_s_lmul Xw37.here hx (hb hby at_87) (pc' := 88) rfl (v := w3_v87) w3_hv87 ?_
    refine own_s_ladd Xw37.here hx (hb hby at_88) (pc' := 89) rfl (v := w3_v88) w3_hv88 ?_
    refine own_s_lstore Xw37.here hx (hb hby at_89) (pc' := 91) rfl (L' := #[.val (.int p0), .val (.int p1), .val (.int p2), .val (.int p3), .val (.int p4), .val (.int (3 : Int32)), .val (.int w3_c9_s_v6), .val (.int w3_c15_s_v6), .val (.int w3_c21_s_v6), .val (.int w3_c28_s_v6), .val (.ref bw35), .val (.long w3_v88), .second, .unset, .unset]) rfl ?_
    refine own_s_iload Xw37.here hx (hb hby at_91) (pc' := 93) rfl rfl ?_
    refine own_s_iconst Xw37.here hx (hb hby at_93) (pc' := 94) rfl (v := (2 : Int32)) (by decide) ?_
    refine own_s_icmpNo Xw37.here hx (hb hby at_94) (pc' := 97) rfl (by decide) ?_
    refine own_s_aload Xw37.here hx (hb hby at_97) (pc' := 99) rfl rfl rfl ?_
    refine own_s_iconst Xw37.here hx (hb hby at_99) (pc' := 100) rfl (v := (2 : Int32)) (by decide) ?_
    refine own_s_iload Xw37.here hx (hb hby at_100) (pc' := 102) rfl rfl ?_
    refine own_s_i2d Xw37.here hx (hb hby at_102) (pc' := 103) rfl (v := (FP.i2d w3_c21_s_v6)) rfl ?_
    refine stw38 _ ?_
    refine own_s_lload Xw38.here hx (hb hby at_104) (pc' := 106) rfl rfl ?_
    refine own_s_iload Xw38.here hx (hb hby at_106) (pc' := 108) rfl rfl ?_
    refine own_s_i2l Xw38.here hx (hb hby at_108) (pc' := 109) rfl (v := w3_v108) w3_hv108 ?_
    refine own_s_iload Xw38.here hx (hb hby at_109) (pc' := 111) rfl rfl ?_
    refine own_s_i2l Xw38.here hx (hb hby at_111) (pc' := 112) rfl (v := w3_v111) w3_hv111 ?_
    refine own_s_lmul Xw38.here hx (hb hby at_112) (pc' := 113) rfl (v := w3_v112) w3_hv112 ?_
    refine own_s_ladd Xw38.here hx (hb hby at_113) (pc' := 114) rfl (v := w3_v113) w3_hv113 ?_
    refine own_s_lstore Xw38.here hx (hb hby at_114) (pc' := 116) rfl (L' := #[.val (.int p0), .val (.int p1), .val (.int p2), .val (.int p3), .val (.int p4), .val (.int (3 : Int32)), .val (.int w3_c9_s_v6), .val (.int w3_c15_s_v6), .val (.int w3_c21_s_v6), .val (.int w3_c28_s_v6), .val (.ref bw35), .val (.long w3_v113), .second, .unset, .unset]) rfl ?_
    refine own_s_iload Xw38.here hx (hb hby at_116) (pc' := 118) rfl rfl ?_
    refine own_s_iconst Xw38.here hx (hb hby at_118) (pc' := 119) rfl (v := (3 : Int32)) (by decide) ?_
    refine own_s_icmpYes Xw38.here hx (hb hby at_119) (by decide) (pc' := 141) (by decide) (by decide) ?_
    refine own_s_aload Xw38.here hx (hb hby at_141) (pc' := 143) rfl rfl rfl ?_
    refine stw39 _ ?_
    show Steps p.tables e below (Tw39.setTop (mkF m 146 #[.val (.int p0), .val (.int p1), .val (.int p2), .val (.int p3), .val (.int p4), .val (.int (3 : Int32)), .val (.int w3_c9_s_v6), .val (.int w3_c15_s_v6), .val (.int w3_c21_s_v6), .val (.int w3_c28_s_v6), .val (.ref bw35), .val (.long w3_v113), .second, .unset, .unset] [(.double w3_c143_c3_v30_3)])) _
    refine own_s_dstore Xw39.here hx (hb hby at_146) (pc' := 148) rfl (L' := #[.val (.int p0), .val (.int p1), .val (.int p2), .val (.int p3), .val (.int p4), .val (.int (3 : Int32)), .val (.int w3_c9_s_v6), .val (.int w3_c15_s_v6), .val (.int w3_c21_s_v6), .val (.int w3_c28_s_v6), .val (.ref bw35), .val (.long w3_v113), .second, .val (.double w3_c143_c3_v30_3), .second]) rfl ?_
    refine own_s_dload Xw39.here hx (hb hby at_148) (pc' := 150) rfl rfl ?_
    refine own_s_lload Xw39.here hx (hb hby at_150) (pc' := 152) rfl rfl ?_
    refine own_s_l2d Xw39.here hx (hb hby at_152) (pc' := 153) rfl (v := (FP.l2d w3_v113)) rfl ?_
    refine own_s_dcmp Xw39.here hx (hb hby at_153) (pc' := 154) rfl (v := (0 : Int32)) w3_hc153 ?_
    refine own_s_ifNo Xw39.here hx (hb hby at_154) (pc' := 157) rfl (by decide) ?_
    refine own_s_iconst Xw39.here hx (hb hby at_157) (pc' := 158) rfl (v := (1 : Int32)) (by decide) ?_
    refine own_s_goto Xw39.here hx (hb hby at_158) (by decide) (pc' := 162) (by decide) ?_
    exact retN Xw39 hx (t := .boolean) Bd.returns (by simp) (hb hby at_162) hr
  · show own_Q0 n0 _ Tw39.heap _
    rw [ew39]
    exact ⟨rfl, Nw39⟩
theorem own_ef_c4 (m : MethodId) (q : Addr) : entryFrame m #[(.ref q)] 8 = mkF m 0 #[.val (.ref q), .unset, .unset, .unset, .unset, .unset, .unset, .unset] [] := by first | (simp [entryFrame, mkF, argsToLocals, Value.category]; done) | rfl
set_option maxRecDepth 65536 in
set_option maxHeartbeats 40000000 in
theorem own_rm_c4 (l : Launch) (Z : State) (a0 : Array Value) (hw : ∀ d ∈ tables_1, d.before a0 Z = true) (ws : List Jvm.Cond) (q : Addr) (d0 : UInt64) (d1 : UInt64) (d2 : UInt64) (d3 : UInt64) {qk : ClassId} {c4_v29 : UInt64} {c4_v30 : UInt64} {c4_v29_2 : UInt64} {c4_v30_2 : UInt64} {c4_v29_3 : UInt64} {c4_v30_3 : UInt64} {c4_v29_4 : UInt64} {c4_v30_4 : UInt64} (h0 : Heap) (n0 : Nat) (Z0 : n0 ≤ h0.size) (V_q : Arv Z h0 q qk .double (4 : Int32) [(.double d0), (.double d1), (.double d2), (.double d3)] (.double 0)) (c4_hn29 : Jvm.Free.Fl.NoNaN64 (FP.dmul d0 d0)) (c4_hv29 : FP.dmul d0 d0 = c4_v29) (c4_hn30 : Jvm.Free.Fl.NoNaN64 (FP.dadd 0 c4_v29)) (c4_hv30 : FP.dadd 0 c4_v29 = c4_v30) (c4_hn29_2 : Jvm.Free.Fl.NoNaN64 (FP.dmul d1 d1)) (c4_hv29_2 : FP.dmul d1 d1 = c4_v29_2) (c4_hn30_2 : Jvm.Free.Fl.NoNaN64 (FP.dadd c4_v30 c4_v29_2)) (c4_hv30_2 : FP.dadd c4_v30 c4_v29_2 = c4_v30_2) (c4_hn29_3 : Jvm.Free.Fl.NoNaN64 (FP.dmul d2 d2)) (c4_hv29_3 : FP.dmul d2 d2 = c4_v29_3) (c4_hn30_3 : Jvm.Free.Fl.NoNaN64 (FP.dadd c4_v30_2 c4_v29_3)) (c4_hv30_3 : FP.dadd c4_v30_2 c4_v29_3 = c4_v30_3) (c4_hn29_4 : Jvm.Free.Fl.NoNaN64 (FP.dmul d3 d3)) (c4_hv29_4 : FP.dmul d3 d3 = c4_v29_4) (c4_hn30_4 : Jvm.Free.Fl.NoNaN64 (FP.dadd c4_v30_3 c4_v29_4)) (c4_hv30_4 : FP.dadd c4_v30_3 c4_v29_4 = c4_v30_4) :
    MetFree l (⟨"com/example/differentia/differentia/problems/Problems", "sphere", "([D)D"⟩ : MethodName) (head1 (Jvm.Cond.code (⟨"com/example/differentia/differentia/problems/Problems", "sphere", "([D)D"⟩ : MethodName) prog_68_method_5_code 8 (some .double) :: ws) ({ frames := 0, cells := 0, slots := 0, locals := 0 } : Room)) (fun a U => a = #[(.ref q)] ∧ Z.Warmed39 U.vm ∧ U.heap = h0) (fun _ _ _ _ _ => True) (fun _ U o U' => ∃ v L, o = .returned v ∧ own_QP (some (.double c4_v30_4)) h0 n0 v U'.heap L ∧ FrameEnd U o U' L ({ frames := 0, cells := 0, slots := 0, locals := 0 } : Room).cells ({ frames := 0, cells := 0, slots := 0, locals := 0 } : Room).slots) := by
  refine MetFree.of_bodySF (plainFor_of_name own_pn_com_example_differentia_differentia_problems_Problems) hisR ?_
  intro p e s m args below meth c s₁ Bd hml0 hP hK
  obtain ⟨rfl, hZ, hh⟩ := hP
  have hx := Bd.exec
  have hby := Bd.bytes
  have hml : c.maxLocals = 8 := hml0
  have hown : s.vm.findClass "com/example/differentia/differentia/problems/Problems" = some m.cls := findClass_of_methodNamed Bd.named
  have hnm := (name_of_methodNamed Bd.named Bd.method).1
  have X0 : Stand p l e ({ frames := 0, cells := 0, slots := 0, locals := 0 } : Room) s m #[(.ref q)] below meth c s₁ [] 0 0 := Stand.of_body Bd
  have e0 : s₁.heap = h0 := by rw [← hh, Bd.state]; rfl
  have N0 := Fr.nil n0
  have pre0 : ∀ t, Steps p.tables e below (s₁.setTop (mkF m 0 #[.val (.ref q), .unset, .unset, .unset, .unset, .unset, .unset, .unset] [])) t → Steps p.tables e below (s₁.setTop (entryFrame m #[(.ref q)] 8)) t := fun t k => castTop (own_ef_c4 m q) k
  obtain ⟨fs, hr, hrun, hended, hW, hsame⟩ := X0.leave (v := some (.double c4_v30_4)) (fun h => by rw [Bd.returns] at h; cases h)
  refine ⟨_, _, pre0 _ ?_, hrun, hended, _, _, rfl, ?_, ⟨_, rfl⟩, hW, hsame.mono (by decide) (by decide)⟩
  · refine own_s_dconst0 X0.here hx (hb hby own_d2_0) (pc' := 1) rfl  ?_
    refine own_s_dstoreN X0.here hx (hb hby own_d2_1) (pc' := 2) rfl (L' := #[.val (.ref q), .val (.double 0), .second, .unset, .unset, .unset, .unset, .unset]) rfl ?_
    refine own_s_aloadN X0.here hx (hb hby own_d2_2) (pc' := 3) rfl rfl rfl ?_
    refine own_s_astoreN X0.here hx (hb hby own_d2_3) (pc' := 4) rfl rfl (L' := #[.val (.ref q), .val (.double 0), .second, .val (.ref q), .unset, .unset, .unset, .unset]) rfl ?_
    refine own_s_aloadN X0.here hx (hb hby own_d2_4) (pc' := 5) rfl rfl rfl ?_
    refine own_len X0 hx hZ e0 V_q (hb hby own_d2_5) (pc' := 6) rfl ?_
    refine own_s_istore X0.here hx (hb hby own_d2_6) (pc' := 8) rfl (L' := #[.val (.ref q), .val (.double 0), .second, .val (.ref q), .val (.int (4 : Int32)), .unset, .unset, .unset]) rfl ?_
    refine own_s_iconst X0.here hx (hb hby own_d2_8) (pc' := 9) rfl (v := (0 : Int32)) (by decide) ?_
    refine own_s_istore X0.here hx (hb hby own_d2_9) (pc' := 11) rfl (L' := #[.val (.ref q), .val (.double 0), .second, .val (.ref q), .val (.int (4 : Int32)), .val (.int (0 : Int32)), .unset, .unset]) rfl ?_
    refine own_s_iload X0.here hx (hb hby own_d2_11) (pc' := 13) rfl rfl ?_
    refine own_s_iload X0.here hx (hb hby own_d2_13) (pc' := 15) rfl rfl ?_
    refine own_s_icmpNo X0.here hx (hb hby own_d2_15) (pc' := 18) rfl (by decide) ?_
    refine own_s_aloadN X0.here hx (hb hby own_d2_18) (pc' := 19) rfl rfl rfl ?_
    refine own_s_iload X0.here hx (hb hby own_d2_19) (pc' := 21) rfl rfl ?_
    refine own_ldD X0 hx hZ e0 V_q (j := (0 : Int32)) (x := d0) (by decide) rfl (hb hby own_d2_21) (pc' := 22) rfl ?_
    refine own_s_dstore X0.here hx (hb hby own_d2_22) (pc' := 24) rfl (L' := #[.val (.ref q), .val (.double 0), .second, .val (.ref q), .val (.int (4 : Int32)), .val (.int (0 : Int32)), .val (.double d0), .second]) rfl ?_
    refine own_s_dloadN X0.here hx (hb hby own_d2_24) (pc' := 25) rfl rfl ?_
    refine own_s_dload X0.here hx (hb hby own_d2_25) (pc' := 27) rfl rfl ?_
    refine own_s_dload X0.here hx (hb hby own_d2_27) (pc' := 29) rfl rfl ?_
    refine own_s_dmul X0.here hx (hb hby own_d2_29) (pc' := 30) rfl c4_hn29 (v := c4_v29) c4_hv29 ?_
    refine own_s_dadd X0.here hx (hb hby own_d2_30) (pc' := 31) rfl c4_hn30 (v := c4_v30) c4_hv30 ?_
    refine own_s_dstoreN X0.here hx (hb hby own_d2_31) (pc' := 32) rfl (L' := #[.val (.ref q), .val (.double c4_v30), .second, .val (.ref q), .val (.int (4 : Int32)), .val (.int (0 : Int32)), .val (.double d0), .second]) rfl ?_
    refine own_s_iinc X0.here hx (hb hby own_d2_32) (pc' := 35) rfl rfl (v := (1 : Int32)) (by decide) (L' := #[.val (.ref q), .val (.double c4_v30), .second, .val (.ref q), .val (.int (4 : Int32)), .val (.int (1 : Int32)), .val (.double d0), .second]) rfl ?_
    refine own_s_goto X0.here hx (hb hby own_d2_35) (by decide) (pc' := 11) (by decide) ?_
    refine own_s_iload X0.here hx (hb hby own_d2_11) (pc' := 13) rfl rfl ?_
    refine own_s_iload X0.here hx (hb hby own_d2_13) (pc' := 15) rfl rfl ?_
    refine own_s_icmpNo X0.here hx (hb hby own_d2_15) (pc' := 18) rfl (by decide) ?_
    refine own_s_aloadN X0.here hx (hb hby own_d2_18) (pc' := 19) rfl rfl rfl ?_
    refine own_s_iload X0.here hx (hb hby own_d2_19) (pc' := 21) rfl rfl ?_
    refine own_ldD X0 hx hZ e0 V_q (j := (1 : Int32)) (x := d1) (by decide) rfl (hb hby own_d2_21) (pc' := 22) rfl ?_
    refine own_s_dstore X0.here hx (hb hby own_d2_22) (pc' := 24) rfl (L' := #[.val (.ref q), .val (.double c4_v30), .second, .val (.ref q), .val (.int (4 : Int32)), .val (.int (1 : Int32)), .val (.double d1), .second]) rfl ?_
    refine own_s_dloadN X0.here hx (hb hby own_d2_24) (pc' := 25) rfl rfl ?_
    refine own_s_dload X0.here hx (hb hby own_d2_25) (pc' := 27) rfl rfl ?_
    refine own_s_dload X0.here hx (hb hby own_d2_27) (pc' := 29) rfl rfl ?_
    refine own_s_dmul X0.here hx (hb hby own_d2_29) (pc' := 30) rfl c4_hn29_2 (v := c4_v29_2) c4_hv29_2 ?_
    refine own_s_dadd X0.here hx (hb hby own_d2_30) (pc' := 31) rfl c4_hn30_2 (v := c4_v30_2) c4_hv30_2 ?_
    refine own_s_dstoreN X0.here hx (hb hby own_d2_31) (pc' := 32) rfl (L' := #[.val (.ref q), .val (.double c4_v30_2), .second, .val (.ref q), .val (.int (4 : Int32)), .val (.int (1 : Int32)), .val (.double d1), .second]) rfl ?_
    refine own_s_iinc X0.here hx (hb hby own_d2_32) (pc' := 35) rfl rfl (v := (2 : Int32)) (by decide) (L' := #[.val (.ref q), .val (.double c4_v30_2), .second, .val (.ref q), .val (.int (4 : Int32)), .val (.int (2 : Int32)), .val (.double d1), .second]) rfl ?_
    refine own_s_goto X0.here hx (hb hby own_d2_35) (by decide) (pc' := 11) (by decide) ?_
    refine own_s_iload X0.here hx (hb hby own_d2_11) (pc' := 13) rfl rfl ?_
    refine own_s_iload X0.here hx (hb hby own_d2_13) (pc' := 15) rfl rfl ?_
    refine own_s_icmpNo X0.here hx (hb hby own_d2_15) (pc' := 18) rfl (by decide) ?_
    refine own_s_aloadN X0.here hx (hb hby own_d2_18) (pc' := 19) rfl rfl rfl ?_
    refine own_s_iload X0.here hx (hb hby own_d2_19) (pc' := 21) rfl rfl ?_
    refine own_ldD X0 hx hZ e0 V_q (j := (2 : Int32)) (x := d2) (by decide) rfl (hb hby own_d2_21) (pc' := 22) rfl ?_
    refine own_s_dstore X0.here hx (hb hby own_d2_22) (pc' := 24) rfl (L' := #[.val (.ref q), .val (.double c4_v30_2), .second, .val (.ref q), .val (.int (4 : Int32)), .val (.int (2 : Int32)), .val (.double d2), .second]) rfl ?_
    refine own_s_dloadN X0.here hx (hb hby own_d2_24) (pc' := 25) rfl rfl ?_
    refine own_s_dload X0.here hx (hb hby own_d2_25) (pc' := 27) rfl rfl ?_
    refine own_s_dload X0.here hx (hb hby own_d2_27) (pc' := 29) rfl rfl ?_
    refine own_s_dmul X0.here hx (hb hby own_d2_29) (pc' := 30) rfl c4_hn29_3 (v := c4_v29_3) c4_hv29_3 ?_
    refine own_s_dadd X0.here hx (hb hby own_d2_30) (pc' := 31) rfl c4_hn30_3 (v := c4_v30_3) c4_hv30_3 ?_
    refine own_s_dstoreN X0.here hx (hb hby own_d2_31) (pc' := 32) rfl (L' := #[.val (.ref q), .val (.double c4_v30_3), .second, .val (.ref q), .val (.int (4 : Int32)), .val (.int (2 : Int32)), .val (.double d2), .second]) rfl ?_
    refine own_s_iinc X0.here hx (hb hby own_d2_32) (pc' := 35) rfl rfl (v := (3 : Int32)) (by decide) (L' := #[.val (.ref q), .val (.double c4_v30_3), .second, .val (.ref q), .val (.int (4 : Int32)), .val (.int (3 : Int32)), .val (.double d2), .second]) rfl ?_
    refine own_s_goto X0.here hx (hb hby own_d2_35) (by decide) (pc' := 11) (by decide) ?_
    refine own_s_iload X0.here hx (hb hby own_d2_11) (pc' := 13) rfl rfl ?_
    refine own_s_iload X0.here hx (hb hby own_d2_13) (pc' := 15) rfl rfl ?_
    refine own_s_icmpNo X0.here hx (hb hby own_d2_15) (pc' := 18) rfl (by decide) ?_
    refine own_s_aloadN X0.here hx (hb hby own_d2_18) (pc' := 19) rfl rfl rfl ?_
    refine own_s_iload X0.here hx (hb hby own_d2_19) (pc' := 21) rfl rfl ?_
    refine own_ldD X0 hx hZ e0 V_q (j := (3 : Int32)) (x := d3) (by decide) rfl (hb hby own_d2_21) (pc' := 22) rfl ?_
    refine own_s_dstore X0.here hx (hb hby own_d2_22) (pc' := 24) rfl (L' := #[.val (.ref q), .val (.double c4_v30_3), .second, .val (.ref q), .val (.int (4 : Int32)), .val (.int (3 : Int32)), .val (.double d3), .second]) rfl ?_
    refine own_s_dloadN X0.here hx (hb hby own_d2_24) (pc' := 25) rfl rfl ?_
    refine own_s_dload X0.here hx (hb hby own_d2_25) (pc' := 27) rfl rfl ?_
    refine own_s_dload X0.here hx (hb hby own_d2_27) (pc' := 29) rfl rfl ?_
    refine own_s_dmul X0.here hx (hb hby own_d2_29) (pc' := 30) rfl c4_hn29_4 (v := c4_v29_4) c4_hv29_4 ?_
    refine own_s_dadd X0.here hx (hb hby own_d2_30) (pc' := 31) rfl c4_hn30_4 (v := c4_v30_4) c4_hv30_4 ?_
    refine own_s_dstoreN X0.here hx (hb hby own_d2_31) (pc' := 32) rfl (L' := #[.val (.ref q), .val (.double c4_v30_4), .second, .val (.ref q), .val (.int (4 : Int32)), .val (.int (3 : Int32)), .val (.double d3), .second]) rfl ?_
    refine own_s_iinc X0.here hx (hb hby own_d2_32) (pc' := 35) rfl rfl (v := (4 : Int32)) (by decide) (L' := #[.val (.ref q), .val (.double c4_v30_4), .second, .val (.ref q), .val (.int (4 : Int32)), .val (.int (4 : Int32)), .val (.double d3), .second]) rfl ?_
    refine own_s_goto X0.here hx (hb hby own_d2_35) (by decide) (pc' := 11) (by decide) ?_
    refine own_s_iload X0.here hx (hb hby own_d2_11) (pc' := 13) rfl rfl ?_
    refine own_s_iload X0.here hx (hb hby own_d2_13) (pc' := 15) rfl rfl ?_
    refine own_s_icmpYes X0.here hx (hb hby own_d2_15) (by decide) (pc' := 38) (by decide) (by decide) ?_
    refine own_s_dloadN X0.here hx (hb hby own_d2_38) (pc' := 39) rfl rfl ?_
    exact own_retD X0 hx Bd.returns (hb hby own_d2_39) hr
  · show own_QP (some (.double c4_v30_4)) h0 n0 _ s₁.heap _
    rw [e0]
    exact ⟨rfl, N0, rfl⟩
theorem own_ef_w4 (m : MethodId) (p0 : Int32) (p1 : Int32) (p2 : Int32) (p3 : Int32) (p4 : Int32) : entryFrame m #[(.int p0), (.int p1), (.int p2), (.int p3), (.int p4)] maxLocals = mkF m 0 #[.val (.int p0), .val (.int p1), .val (.int p2), .val (.int p3), .val (.int p4), .unset, .unset, .unset, .unset, .unset, .unset, .unset, .unset, .unset, .unset] [] := by first | (simp [entryFrame, mkF, argsToLocals, Value.category, maxLocals]; done) | rfl
set_option maxRecDepth 65536 in
set_option maxHeartbeats 40000000 in
theorem own_rm_w4 (l : Launch) (Z : State) (a0 : Array Value) (hw : ∀ d ∈ tables_1, d.before a0 Z = true) (ws : List Jvm.Cond) (p0 : Int32) (p1 : Int32) (p2 : Int32) (p3 : Int32) (p4 : Int32) {w4_v3 : Int32} {w4_c9_s_v3 : Int32} {w4_c9_s_v6 : Int32} {w4_c15_s_v3 : Int32} {w4_c15_s_v6 : Int32} {w4_c21_s_v3 : Int32} {w4_c21_s_v6 : Int32} {w4_c28_s_v3 : Int32} {w4_c28_s_v6 : Int32} {w4_v58 : Int64} {w4_v61 : Int64} {w4_v62 : Int64} {w4_v63 : Int64} {w4_v83 : Int64} {w4_v86 : Int64} {w4_v87 : Int64} {w4_v88 : Int64} {w4_v108 : Int64} {w4_v111 : Int64} {w4_v112 : Int64} {w4_v113 : Int64} {w4_v133 : Int64} {w4_v136 : Int64} {w4_v137 : Int64} {w4_v138 : Int64} {w4_c143_c4_v29 : UInt64} {w4_c143_c4_v30 : UInt64} {w4_c143_c4_v29_2 : UInt64} {w4_c143_c4_v30_2 : UInt64} {w4_c143_c4_v29_3 : UInt64} {w4_c143_c4_v30_3 : UInt64} {w4_c143_c4_v29_4 : UInt64} {w4_c143_c4_v30_4 : UInt64} (h0 : Heap) (n0 : Nat) (Z0 : n0 ≤ h0.size)  (w4_hv3 : p0 &&& (2147483647 : Int32) = w4_v3) (w4_hv5 : w4_v3 % (5 : Int32) = (4 : Int32)) (w4_c9_s_hv3 : p1 <<< ((7 : Int32) &&& 31) = w4_c9_s_v3) (w4_c9_s_hv6 : w4_c9_s_v3 >>> ((7 : Int32) &&& 31) = w4_c9_s_v6) (w4_c15_s_hv3 : p2 <<< ((7 : Int32) &&& 31) = w4_c15_s_v3) (w4_c15_s_hv6 : w4_c15_s_v3 >>> ((7 : Int32) &&& 31) = w4_c15_s_v6) (w4_c21_s_hv3 : p3 <<< ((7 : Int32) &&& 31) = w4_c21_s_v3) (w4_c21_s_hv6 : w4_c21_s_v3 >>> ((7 : Int32) &&& 31) = w4_c21_s_v6) (w4_c28_s_hv3 : p4 <<< ((7 : Int32) &&& 31) = w4_c28_s_v3) (w4_c28_s_hv6 : w4_c28_s_v3 >>> ((7 : Int32) &&& 31) = w4_c28_s_v6) (w4_hv58 : Int32.toInt64 w4_c9_s_v6 = w4_v58) (w4_hv61 : Int32.toInt64 w4_c9_s_v6 = w4_v61) (w4_hv62 : w4_v58 * w4_v61 = w4_v62) (w4_hv63 : (0 : Int64) + w4_v62 = w4_v63) (w4_hv83 : Int32.toInt64 w4_c15_s_v6 = w4_v83) (w4_hv86 : Int32.toInt64 w4_c15_s_v6 = w4_v86) (w4_hv87 : w4_v83 * w4_v86 = w4_v87) (w4_hv88 : w4_v63 + w4_v87 = w4_v88) (w4_hv108 : Int32.toInt64 w4_c21_s_v6 = w4_v108) (w4_hv111 : Int32.toInt64 w4_c21_s_v6 = w4_v111) (w4_hv112 : w4_v108 * w4_v111 = w4_v112) (w4_hv113 : w4_v88 + w4_v112 = w4_v113) (w4_hv133 : Int32.toInt64 w4_c28_s_v6 = w4_v133) (w4_hv136 : Int32.toInt64 w4_c28_s_v6 = w4_v136) (w4_hv137 : w4_v133 * w4_v136 = w4_v137) (w4_hv138 : w4_v113 + w4_v137 = w4_v138) (w4_c143_c4_hn29 : Jvm.Free.Fl.NoNaN64 (FP.dmul (FP.i2d w4_c9_s_v6) (FP.i2d w4_c9_s_v6))) (w4_c143_c4_hv29 : FP.dmul (FP.i2d w4_c9_s_v6) (FP.i2d w4_c9_s_v6) = w4_c143_c4_v29) (w4_c143_c4_hn30 : Jvm.Free.Fl.NoNaN64 (FP.dadd 0 w4_c143_c4_v29)) (w4_c143_c4_hv30 : FP.dadd 0 w4_c143_c4_v29 = w4_c143_c4_v30) (w4_c143_c4_hn29_2 : Jvm.Free.Fl.NoNaN64 (FP.dmul (FP.i2d w4_c15_s_v6) (FP.i2d w4_c15_s_v6))) (w4_c143_c4_hv29_2 : FP.dmul (FP.i2d w4_c15_s_v6) (FP.i2d w4_c15_s_v6) = w4_c143_c4_v29_2) (w4_c143_c4_hn30_2 : Jvm.Free.Fl.NoNaN64 (FP.dadd w4_c143_c4_v30 w4_c143_c4_v29_2)) (w4_c143_c4_hv30_2 : FP.dadd w4_c143_c4_v30 w4_c143_c4_v29_2 = w4_c143_c4_v30_2) (w4_c143_c4_hn29_3 : Jvm.Free.Fl.NoNaN64 (FP.dmul (FP.i2d w4_c21_s_v6) (FP.i2d w4_c21_s_v6))) (w4_c143_c4_hv29_3 : FP.dmul (FP.i2d w4_c21_s_v6) (FP.i2d w4_c21_s_v6) = w4_c143_c4_v29_3) (w4_c143_c4_hn30_3 : Jvm.Free.Fl.NoNaN64 (FP.dadd w4_c143_c4_v30_2 w4_c143_c4_v29_3)) (w4_c143_c4_hv30_3 : FP.dadd w4_c143_c4_v30_2 w4_c143_c4_v29_3 = w4_c143_c4_v30_3) (w4_c143_c4_hn29_4 : Jvm.Free.Fl.NoNaN64 (FP.dmul (FP.i2d w4_c28_s_v6) (FP.i2d w4_c28_s_v6))) (w4_c143_c4_hv29_4 : FP.dmul (FP.i2d w4_c28_s_v6) (FP.i2d w4_c28_s_v6) = w4_c143_c4_v29_4) (w4_c143_c4_hn30_4 : Jvm.Free.Fl.NoNaN64 (FP.dadd w4_c143_c4_v30_3 w4_c143_c4_v29_4)) (w4_c143_c4_hv30_4 : FP.dadd w4_c143_c4_v30_3 w4_c143_c4_v29_4 = w4_c143_c4_v30_4) (w4_hc153 : Op.cmpValue (FP.dcmp w4_c143_c4_v30_4 (FP.l2d w4_v138)) .l = (0 : Int32)) :
    MetFree l x (head1 (Jvm.Cond.code x code maxLocals ret :: ws) room_1) (fun a U => a = #[(.int p0), (.int p1), (.int p2), (.int p3), (.int p4)] ∧ Z.Warmed39 U.vm ∧ U.heap = h0) (fun _ _ _ _ _ => True) (fun _ U o U' => ∃ v L, o = .returned v ∧ own_Q0 n0 v U'.heap L ∧ FrameEnd U o U' L room_1.cells room_1.slots) := by
  refine MetFree.of_bodySF (plainFor_of_name own_pn_com_example_differentia_differentia_problems_ProblemsSpherePinLaw) hisR ?_
  intro p e s m args below meth c s₁ Bd hml0 hP hK
  obtain ⟨rfl, hZ, hh⟩ := hP
  have hx := Bd.exec
  have hby := Bd.bytes
  have hml : c.maxLocals = 15 := hml0
  have hown : s.vm.findClass "com/example/differentia/differentia/problems/ProblemsSpherePinLaw" = some m.cls := findClass_of_methodNamed Bd.named
  have hnm := (name_of_methodNamed Bd.named Bd.method).1
  have X0 : Stand p l e room_1 s m #[(.int p0), (.int p1), (.int p2), (.int p3), (.int p4)] below meth c s₁ [] 0 0 := Stand.of_body Bd
  have e0 : s₁.heap = h0 := by rw [← hh, Bd.state]; rfl
  have N0 := Fr.nil n0
  have pre0 : ∀ t, Steps p.tables e below (s₁.setTop (mkF m 0 #[.val (.int p0), .val (.int p1), .val (.int p2), .val (.int p3), .val (.int p4), .unset, .unset, .unset, .unset, .unset, .unset, .unset, .unset, .unset, .unset] [])) t → Steps p.tables e below (s₁.setTop (entryFrame m #[(.int p0), (.int p1), (.int p2), (.int p3), (.int p4)] maxLocals)) t := fun t k => castTop (own_ef_w4 m p0 p1 p2 p3 p4) k
  obtain ⟨_, _, ⟨Tw41, Lw41, kw41, nw41⟩, -, Xw41, ⟨Lcw41, hQw41, lw41, yw41, zw41⟩, stw41⟩ := Jvm.LawKit.callS X0 hx (y := (⟨"com/example/differentia/differentia/problems/ProblemsSpherePinLaw", "small", "(I)I"⟩ : MethodName)) hown (mvT hZ (hw _ (List.mem_of_getElem? (i := 1) rfl))) (mvT hZ (hw _ (List.mem_of_getElem? (i := 2) rfl))) (mvT hZ (hw _ (List.mem_of_getElem? (i := 3) rfl))) (mvT hZ (hw _ (List.mem_of_getElem? (i := 4) rfl))) (by decide) (backOf (W := 0) (own_rm_s l Z a0 hw [] p1 h0 n0 Z0 w4_c9_s_hv3 w4_c9_s_hv6) hZ (hw _ (List.mem_of_getElem? (i := 4) rfl)) (hw _ (List.mem_of_getElem? (i := 3) rfl)) (by decide) (by decide)) (g := (mkF m 9 #[.val (.int p0), .val (.int p1), .val (.int p2), .val (.int p3), .val (.int p4), .val (.int (4 : Int32)), .unset, .unset, .unset, .unset, .unset, .unset, .unset, .unset, .unset] [(.int p1)])) rfl (by rw [hml]; rfl) (argsL := [(.int p1)]) (rest := []) (lenOf own_pd_28I29I rfl) rfl (by show 2 * 0 + _ ≤ _; exact Nat.le_of_eq rfl) (hb hby at_9) (fun _ _ => ⟨rfl, e0, (by decide : 0 + 0 ≤ _), (by decide : 0 + 0 ≤ _)⟩)
  dsimp only [Pt.U, Pt.locs, Pt.cells, Pt.slots] at Xw41 lw41 yw41 zw41 stw41 hQw41
  subst lw41 yw41 zw41
  obtain ⟨rfl, Nw41q, ew41⟩ := hQw41
  have Nw41 := Fr.app N0 Nw41q
  obtain ⟨_, _, ⟨Tw42, Lw42, kw42, nw42⟩, -, Xw42, ⟨Lcw42, hQw42, lw42, yw42, zw42⟩, stw42⟩ := Jvm.LawKit.callS Xw41 hx (y := (⟨"com/example/differentia/differentia/problems/ProblemsSpherePinLaw", "small", "(I)I"⟩ : MethodName)) hown (mvT hZ (hw _ (List.mem_of_getElem? (i := 1) rfl))) (mvT hZ (hw _ (List.mem_of_getElem? (i := 2) rfl))) (mvT hZ (hw _ (List.mem_of_getElem? (i := 3) rfl))) (mvT hZ (hw _ (List.mem_of_getElem? (i := 4) rfl))) (by decide) (backOf (W := 0) (own_rm_s l Z a0 hw [] p2 h0 n0 Z0 w4_c15_s_hv3 w4_c15_s_hv6) hZ (hw _ (List.mem_of_getElem? (i := 4) rfl)) (hw _ (List.mem_of_getElem? (i := 3) rfl)) (by decide) (by decide)) (g := (mkF m 15 #[.val (.int p0), .val (.int p1), .val (.int p2), .val (.int p3), .val (.int p4), .val (.int (4 : Int32)), .val (.int w4_c9_s_v6), .unset, .unset, .unset, .unset, .unset, .unset, .unset, .unset] [(.int p2)])) rfl (by rw [hml]; rfl) (argsL := [(.int p2)]) (rest := []) (lenOf own_pd_28I29I rfl) rfl (by show 2 * 0 + _ ≤ _; exact Nat.le_of_eq rfl) (hb hby at_15) (fun _ _ => ⟨rfl, ew41, (by decide : 0 + 0 ≤ _), (by decide : 0 + 0 ≤ _)⟩)
  dsimp only [Pt.U, Pt.locs, Pt.cells, Pt.slots] at Xw42 lw42 yw42 zw42 stw42 hQw42
  subst lw42 yw42 zw42
  obtain ⟨rfl, Nw42q, ew42⟩ := hQw42
  have Nw42 := Fr.app Nw41 Nw42q
  obtain ⟨_, _, ⟨Tw43, Lw43, kw43, nw43⟩, -, Xw43, ⟨Lcw43, hQw43, lw43, yw43, zw43⟩, stw43⟩ := Jvm.LawKit.callS Xw42 hx (y := (⟨"com/example/differentia/differentia/problems/ProblemsSpherePinLaw", "small", "(I)I"⟩ : MethodName)) hown (mvT hZ (hw _ (List.mem_of_getElem? (i := 1) rfl))) (mvT hZ (hw _ (List.mem_of_getElem? (i := 2) rfl))) (mvT hZ (hw _ (List.mem_of_getElem? (i := 3) rfl))) (mvT hZ (hw _ (List.mem_of_getElem? (i := 4) rfl))) (by decide) (backOf (W := 0) (own_rm_s l Z a0 hw [] p3 h0 n0 Z0 w4_c21_s_hv3 w4_c21_s_hv6) hZ (hw _ (List.mem_of_getElem? (i := 4) rfl)) (hw _ (List.mem_of_getElem? (i := 3) rfl)) (by decide) (by decide)) (g := (mkF m 21 #[.val (.int p0), .val (.int p1), .val (.int p2), .val (.int p3), .val (.int p4), .val (.int (4 : Int32)), .val (.int w4_c9_s_v6), .val (.int w4_c15_s_v6), .unset, .unset, .unset, .unset, .unset, .unset, .unset] [(.int p3)])) rfl (by rw [hml]; rfl) (argsL := [(.int p3)]) (rest := []) (lenOf own_pd_28I29I rfl) rfl (by show 2 * 0 + _ ≤ _; exact Nat.le_of_eq rfl) (hb hby at_21) (fun _ _ => ⟨rfl, ew42, (by decide : 0 + 0 ≤ _), (by decide : 0 + 0 ≤ _)⟩)
  dsimp only [Pt.U, Pt.locs, Pt.cells, Pt.slots] at Xw43 lw43 yw43 zw43 stw43 hQw43
  subst lw43 yw43 zw43
  obtain ⟨rfl, Nw43q, ew43⟩ := hQw43
  have Nw43 := Fr.app Nw42 Nw43q
  obtain ⟨_, _, ⟨Tw44, Lw44, kw44, nw44⟩, -, Xw44, ⟨Lcw44, hQw44, lw44, yw44, zw44⟩, stw44⟩ := Jvm.LawKit.callS Xw43 hx (y := (⟨"com/example/differentia/differentia/problems/ProblemsSpherePinLaw", "small", "(I)I"⟩ : MethodName)) hown (mvT hZ (hw _ (List.mem_of_getElem? (i := 1) rfl))) (mvT hZ (hw _ (List.mem_of_getElem? (i := 2) rfl))) (mvT hZ (hw _ (List.mem_of_getElem? (i := 3) rfl))) (mvT hZ (hw _ (List.mem_of_getElem? (i := 4) rfl))) (by decide) (backOf (W := 0) (own_rm_s l Z a0 hw [] p4 h0 n0 Z0 w4_c28_s_hv3 w4_c28_s_hv6) hZ (hw _ (List.mem_of_getElem? (i := 4) rfl)) (hw _ (List.mem_of_getElem? (i := 3) rfl)) (by decide) (by decide)) (g := (mkF m 28 #[.val (.int p0), .val (.int p1), .val (.int p2), .val (.int p3), .val (.int p4), .val (.int (4 : Int32)), .val (.int w4_c9_s_v6), .val (.int w4_c15_s_v6), .val (.int w4_c21_s_v6), .unset, .unset, .unset, .unset, .unset, .unset] [(.int p4)])) rfl (by rw [hml]; rfl) (argsL := [(.int p4)]) (rest := []) (lenOf own_pd_28I29I rfl) rfl (by show 2 * 0 + _ ≤ _; exact Nat.le_of_eq rfl) (hb hby at_28) (fun _ _ => ⟨rfl, ew43, (by decide : 0 + 0 ≤ _), (by decide : 0 + 0 ≤ _)⟩)
  dsimp only [Pt.U, Pt.locs, Pt.cells, Pt.slots] at Xw44 lw44 yw44 zw44 stw44 hQw44
  subst lw44 yw44 zw44
  obtain ⟨rfl, Nw44q, ew44⟩ := hQw44
  have Nw44 := Fr.app Nw43 Nw44q
  obtain ⟨Tw45, hw45, kw45, bw45, Xw45, ew45, Ew45, Gw45, Vw45, stw45⟩ := own_newD (L := #[.val (.int p0), .val (.int p1), .val (.int p2), .val (.int p3), .val (.int p4), .val (.int (4 : Int32)), .val (.int w4_c9_s_v6), .val (.int w4_c15_s_v6), .val (.int w4_c21_s_v6), .val (.int w4_c28_s_v6), .unset, .unset, .unset, .unset, .unset]) (S := []) Xw44 hx hZ (hw _ (List.mem_of_getElem? (i := 5) rfl)) ew44 (z := (4 : Int32)) 4 (by decide) (by decide) (by decide) (by decide) (by decide) (hb hby at_35) (pc' := 37) rfl
  have g_bw45 : n0 ≤ bw45 := Nat.le_trans Z0 (Nat.le_of_eq Gw45.symm)
  have sz_bw45 : h0.size ≤ bw45 := Nat.le_trans (Keep.refl h0 []).1 (Nat.le_of_eq Gw45.symm)
  have Zw45 : n0 ≤ hw45.size := Nat.le_trans Z0 Ew45.1
  have KKw45 := (Keep.refl h0 []).ext Ew45
  have V_bw45 : Arv Z hw45 bw45 kw45 .double (4 : Int32) [(.double 0), (.double 0), (.double 0), (.double 0)] (.double 0) := Vw45
  obtain ⟨Tw46, hw46, Xw46, ew46, Ww46, Vw46, stw46⟩ := own_stD (L := #[.val (.int p0), .val (.int p1), .val (.int p2), .val (.int p3), .val (.int p4), .val (.int (4 : Int32)), .val (.int w4_c9_s_v6), .val (.int w4_c15_s_v6), .val (.int w4_c21_s_v6), .val (.int w4_c28_s_v6), .val (.ref bw45), .val (.long (0 : Int64)), .second, .unset, .unset]) (S := []) Xw45 hx hZ ew45 V_bw45 (j := (0 : Int32)) (x := (FP.i2d w4_c9_s_v6)) (by decide) 0 (by decide) (Nat.le_of_ble_eq_true rfl) (hb hby at_53) (pc' := 54) rfl
  have Zw46 : n0 ≤ hw46.size := Nat.le_trans Zw45 (Nat.le_of_eq Ww46.size.symm)
  have KKw46 := KKw45.wr Ww46 (Or.inr sz_bw45)
  have V_bw45_w46 : Arv Z hw46 bw45 kw45 .double (4 : Int32) [(.double (FP.i2d w4_c9_s_v6)), (.double 0), (.double 0), (.double 0)] (.double 0) := Vw46
  have Nw46 := Fr.snoc Xw46 Nw44 g_bw45
  obtain ⟨Tw47, hw47, Xw47, ew47, Ww47, Vw47, stw47⟩ := own_stD (L := #[.val (.int p0), .val (.int p1), .val (.int p2), .val (.int p3), .val (.int p4), .val (.int (4 : Int32)), .val (.int w4_c9_s_v6), .val (.int w4_c15_s_v6), .val (.int w4_c21_s_v6), .val (.int w4_c28_s_v6), .val (.ref bw45), .val (.long w4_v63), .second, .unset, .unset]) (S := []) Xw46 hx hZ ew46 V_bw45_w46 (j := (1 : Int32)) (x := (FP.i2d w4_c15_s_v6)) (by decide) 1 (by decide) (Nat.le_of_ble_eq_true rfl) (hb hby at_78) (pc' := 79) rfl
  have Zw47 : n0 ≤ hw47.size := Nat.le_trans Zw46 (Nat.le_of_eq Ww47.size.symm)
  have KKw47 := KKw46.wr Ww47 (Or.inr sz_bw45)
  have V_bw45_w47 : Arv Z hw47 bw45 kw45 .double (4 : Int32) [(.double (FP.i2d w4_c9_s_v6)), (.double (FP.i2d w4_c15_s_v6)), (.double 0), (.double 0)] (.double 0) := Vw47
  have Nw47 := Fr.snoc Xw47 Nw46 g_bw45
  obtain ⟨Tw48, hw48, Xw48, ew48, Ww48, Vw48, stw48⟩ := own_stD (L := #[.val (.int p0), .val (.int p1), .val (.int p2), .val (.int p3), .val (.int p4), .val (.int (4 : Int32)), .val (.int w4_c9_s_v6), .val (.int w4_c15_s_v6), .val (.int w4_c21_s_v6), .val (.int w4_c28_s_v6), .val (.ref bw45), .val (.long w4_v88), .second, .unset, .unset]) (S := []) Xw47 hx hZ ew47 V_bw45_w47 (j := (2 : Int32)) (x := (FP.i2d w4_c21_s_v6)) (by decide) 2 (by decide) (Nat.le_of_ble_eq_true rfl) (hb hby at_103) (pc' := 104) rfl
  have Zw48 : n0 ≤ hw48.size := Nat.le_trans Zw47 (Nat.le_of_eq Ww48.size.symm)
  have KKw48 := KKw47.wr Ww48 (Or.inr sz_bw45)
  have V_bw45_w48 : Arv Z hw48 bw45 kw45 .double (4 : Int32) [(.double (FP.i2d w4_c9_s_v6)), (.double (FP.i2d w4_c15_s_v6)), (.double (FP.i2d w4_c21_s_v6)), (.double 0)] (.double 0) := Vw48
  have Nw48 := Fr.snoc Xw48 Nw47 g_bw45
  obtain ⟨Tw49, hw49, Xw49, ew49, Ww49, Vw49, stw49⟩ := own_stD (L := #[.val (.int p0), .val (.int p1), .val (.int p2), .val (.int p3), .val (.int p4), .val (.int (4 : Int32)), .val (.int w4_c9_s_v6), .val (.int w4_c15_s_v6), .val (.int w4_c21_s_v6), .val (.int w4_c28_s_v6), .val (.ref bw45), .val (.long w4_v113), .second, .unset, .unset]) (S := []) Xw48 hx hZ ew48 V_bw45_w48 (j := (3 : Int32)) (x := (FP.i2d w4_c28_s_v6)) (by decide) 3 (by decide) (Nat.le_of_ble_eq_true rfl) (hb hby at_128) (pc' := 129) rfl
  have Zw49 : n0 ≤ hw49.size := Nat.le_trans Zw48 (Nat.le_of_eq Ww49.size.symm)
  have KKw49 := KKw48.wr Ww49 (Or.inr sz_bw45)
  have V_bw45_w49 : Arv Z hw49 bw45 kw45 .double (4 : Int32) [(.double (FP.i2d w4_c9_s_v6)), (.double (FP.i2d w4_c15_s_v6)), (.double (FP.i2d w4_c21_s_v6)), (.double (FP.i2d w4_c28_s_v6))] (.double 0) := Vw49
  have Nw49 := Fr.snoc Xw49 Nw48 g_bw45
  obtain ⟨_, _, ⟨Tw410, Lw410, kw410, nw410⟩, -, Xw410, ⟨Lcw410, hQw410, lw410, yw410, zw410⟩, stw410⟩ := Jvm.LawKit.callS Xw49 hx (y := (⟨"com/example/differentia/differentia/problems/Problems", "sphere", "([D)D"⟩ : MethodName)) hown (mvT hZ (hw _ (List.mem_of_getElem? (i := 6) rfl))) (mvT hZ (hw _ (List.mem_of_getElem? (i := 7) rfl))) (mvT hZ (hw _ (List.mem_of_getElem? (i := 8) rfl))) (mvT hZ (hw _ (List.mem_of_getElem? (i := 9) rfl))) (by decide) (backOf (W := 0) (own_rm_c4 l Z a0 hw [] bw45 (FP.i2d w4_c9_s_v6) (FP.i2d w4_c15_s_v6) (FP.i2d w4_c21_s_v6) (FP.i2d w4_c28_s_v6) hw49 n0 Zw49 V_bw45_w49 w4_c143_c4_hn29 w4_c143_c4_hv29 w4_c143_c4_hn30 w4_c143_c4_hv30 w4_c143_c4_hn29_2 w4_c143_c4_hv29_2 w4_c143_c4_hn30_2 w4_c143_c4_hv30_2 w4_c143_c4_hn29_3 w4_c143_c4_hv29_3 w4_c143_c4_hn30_3 w4_c143_c4_hv30_3 w4_c143_c4_hn29_4 w4_c143_c4_hv29_4 w4_c143_c4_hn30_4 w4_c143_c4_hv30_4) hZ (hw _ (List.mem_of_getElem? (i := 9) rfl)) (hw _ (List.mem_of_getElem? (i := 8) rfl)) (by decide) (by decide)) (g := (mkF m 143 #[.val (.int p0), .val (.int p1), .val (.int p2), .val (.int p3), .val (.int p4), .val (.int (4 : Int32)), .val (.int w4_c9_s_v6), .val (.int w4_c15_s_v6), .val (.int w4_c21_s_v6), .val (.int w4_c28_s_v6), .val (.ref bw45), .val (.long w4_v138), .second, .unset, .unset] [(.ref bw45)])) rfl (by rw [hml]; rfl) (argsL := [(.ref bw45)]) (rest := []) (lenOf own_pd_285bD29D rfl) rfl (by show 2 * 0 + _ ≤ _; exact Nat.le_of_eq rfl) (hb hby at_143) (fun _ _ => ⟨rfl, ew49, (by decide : 1 + 0 ≤ _), (by decide : 4 + 0 ≤ _)⟩)
  dsimp only [Pt.U, Pt.locs, Pt.cells, Pt.slots] at Xw410 lw410 yw410 zw410 stw410 hQw410
  subst lw410 yw410 zw410
  obtain ⟨rfl, Nw410q, ew410⟩ := hQw410
  have Nw410 := Fr.app Nw49 Nw410q
  obtain ⟨fs, hr, hrun, hended, hW, hsame⟩ := Xw410.leave (v := some (.int (1 : Int32))) (fun h => by rw [Bd.returns] at h; cases h)
  refine ⟨_, _, pre0 _ ?_, hrun, hended, _, _, rfl, ?_, ⟨_, rfl⟩, hW, hsame.mono (by decide) (by decide)⟩
  · refine own_s_iloadN X0.here hx (hb hby at_0) (pc' := 1) rfl rfl ?_
    refine X0.ldcInt hx hown (mvT hZ (hw _ (List.mem_of_getElem? (i := 0) rfl))) (g := (mkF m 1 #[.val (.int p0), .val (.int p1), .val (.int p2), .val (.int p3), .val (.int p4), .unset, .unset, .unset, .unset, .unset, .unset, .unset, .unset, .unset, .unset] [(.int p0)])) rfl (hb hby at_1) _ ?_
    show Steps p.tables e below (s₁.setTop (mkF m 3 #[.val (.int p0), .val (.int p1), .val (.int p2), .val (.int p3), .val (.int p4), .unset, .unset, .unset, .unset, .unset, .unset, .unset, .unset, .unset, .unset] [(.int (2147483647 : Int32)), (.int p0)])) _
    refine own_s_iand X0.here hx (hb hby at_3) (pc' := 4) rfl (v := w4_v3) w4_hv3 ?_
    refine own_s_iconst X0.here hx (hb hby at_4) (pc' := 5) rfl (v := (5 : Int32)) (by decide) ?_
    refine own_s_irem X0.here hx (hb hby at_5) (pc' := 6) rfl (by decide) (v := (4 : Int32)) w4_hv5 ?_
    refine own_s_istore X0.here hx (hb hby at_6) (pc' := 8) rfl (L' := #[.val (.int p0), .val (.int p1), .val (.int p2), .val (.int p3), .val (.int p4), .val (.int (4 : Int32)), .unset, .unset, .unset, .unset, .unset, .unset, .unset, .unset, .unset]) rfl ?_
    refine own_s_iloadN X0.here hx (hb hby at_8) (pc' := 9) rfl rfl ?_
    refine stw41 _ ?_
    show Steps p.tables e below (Tw41.setTop (mkF m 12 #[.val (.int p0), .val (.int p1), .val (.int p2), .val (.int p3), .val (.int p4), .val (.int (4 : Int32)), .unset, .unset, .unset, .unset, .unset, .unset, .unset, .unset, .unset] [(.int w4_c9_s_v6)])) _
    refine own_s_istore Xw41.here hx (hb hby at_12) (pc' := 14) rfl (L' := #[.val (.int p0), .val (.int p1), .val (.int p2), .val (.int p3), .val (.int p4), .val (.int (4 : Int32)), .val (.int w4_c9_s_v6), .unset, .unset, .unset, .unset, .unset, .unset, .unset, .unset]) rfl ?_
    refine own_s_iloadN Xw41.here hx (hb hby at_14) (pc' := 15) rfl rfl ?_
    refine stw42 _ ?_
    show Steps p.tables e below (Tw42.setTop (mkF m 18 #[.val (.int p0), .val (.int p1), .val (.int p2), .val (.int p3), .val (.int p4), .val (.int (4 : Int32)), .val (.int w4_c9_s_v6), .unset, .unset, .unset, .unset, .unset, .unset, .unset, .unset] [(.int w4_c15_s_v6)])) _
    refine own_s_istore Xw42.here hx (hb hby at_18) (pc' := 20) rfl (L' := #[.val (.int p0), .val (.int p1), .val (.int p2), .val (.int p3), .val (.int p4), .val (.int (4 : Int32)), .val (.int w4_c9_s_v6), .val (.int w4_c15_s_v6), .unset, .unset, .unset, .unset, .unset, .unset, .unset]) rfl ?_
    refine own_s_iloadN Xw42.here hx (hb hby at_20) (pc' := 21) rfl rfl ?_
    refine stw43 _ ?_
    show Steps p.tables e below (Tw43.setTop (mkF m 24 #[.val (.int p0), .val (.int p1), .val (.int p2), .val (.int p3), .val (.int p4), .val (.int (4 : Int32)), .val (.int w4_c9_s_v6), .val (.int w4_c15_s_v6), .unset, .unset, .unset, .unset, .unset, .unset, .unset] [(.int w4_c21_s_v6)])) _
    refine own_s_istore Xw43.here hx (hb hby at_24) (pc' := 26) rfl (L' := #[.val (.int p0), .val (.int p1), .val (.int p2), .val (.int p3), .val (.int p4), .val (.int (4 : Int32)), .val (.int w4_c9_s_v6), .val (.int w4_c15_s_v6), .val (.int w4_c21_s_v6), .unset, .unset, .unset, .unset, .unset, .unset]) rfl ?_
    refine own_s_iload Xw43.here hx (hb hby at_26) (pc' := 28) rfl rfl ?_
    refine stw44 _ ?_
    show Steps p.tables e below (Tw44.setTop (mkF m 31 #[.val (.int p0), .val (.int p1), .val (.int p2), .val (.int p3), .val (.int p4), .val (.int (4 : Int32)), .val (.int w4_c9_s_v6), .val (.int w4_c15_s_v6), .val (.int w4_c21_s_v6), .unset, .unset, .unset, .unset, .unset, .unset] [(.int w4_c28_s_v6)])) _
    refine own_s_istore Xw44.here hx (hb hby at_31) (pc' := 33) rfl (L' := #[.val (.int p0), .val (.int p1), .val (.int p2), .val (.int p3), .val (.int p4), .val (.int (4 : Int32)), .val (.int w4_c9_s_v6), .val (.int w4_c15_s_v6), .val (.int w4_c21_s_v6), .val (.int w4_c28_s_v6), .unset, .unset, .unset, .unset, .unset]) rfl ?_
    refine own_s_iload Xw44.here hx (hb hby at_33) (pc' := 35) rfl rfl ?_
    refine stw45 _ ?_
    refine own_s_astore Xw45.here hx (hb hby at_37) (pc' := 39) rfl rfl (L' := #[.val (.int p0), .val (.int p1), .val (.int p2), .val (.int p3), .val (.int p4), .val (.int (4 : Int32)), .val (.int w4_c9_s_v6), .val (.int w4_c15_s_v6), .val (.int w4_c21_s_v6), .val (.int w4_c28_s_v6), .val (.ref bw45), .unset, .unset, .unset, .unset]) rfl ?_
    refine own_s_lconst Xw45.here hx (hb hby at_39) (pc' := 40) rfl (v := (0 : Int64)) (by decide) ?_
    refine own_s_lstore Xw45.here hx (hb hby at_40) (pc' := 42) rfl (L' := #[.val (.int p0), .val (.int p1), .val (.int p2), .val (.int p3), .val (.int p4), .val (.int (4 : Int32)), .val (.int w4_c9_s_v6), .val (.int w4_c15_s_v6), .val (.int w4_c21_s_v6), .val (.int w4_c28_s_v6), .val (.ref bw45), .val (.long (0 : Int64)), .second, .unset, .unset]) rfl ?_
    refine own_s_iload Xw45.here hx (hb hby at_42) (pc' := 44) rfl rfl ?_
    refine own_s_ifNo Xw45.here hx (hb hby at_44) (pc' := 47) rfl (by decide) ?_
    refine own_s_aload Xw45.here hx (hb hby at_47) (pc' := 49) rfl rfl rfl ?_
    refine own_s_iconst Xw45.here hx (hb hby at_49) (pc' := 50) rfl (v := (0 : Int32)) (by decide) ?_
    refine own_s_iload Xw45.here hx (hb hby at_50) (pc' := 52) rfl rfl ?_
    refine own_s_i2d Xw45.here hx (hb hby at_52) (pc' := 53) rfl (v := (FP.i2d w4_c9_s_v6)) rfl ?_
    refine stw46 _ ?_
    refine own_s_lload Xw46.here hx (hb hby at_54) (pc' := 56) rfl rfl ?_
    refine own_s_iload Xw46.here hx (hb hby at_56) (pc' := 58) rfl rfl ?_
    refine own_s_i2l Xw46.here hx (hb hby at_58) (pc' := 59) rfl (v := w4_v58) w4_hv58 ?_
    refine own_s_iload Xw46.here hx (hb hby at_59) (pc' := 61) rfl rfl ?_
    refine own_s_i2l Xw46.here hx (hb hby at_61) (pc' := 62) rfl (v := w4_v61) w4_hv61 ?_
    refine own_s_lmul Xw46.here hx (hb hby at_62) (pc' := 63) rfl (v := w4_v62) w4_hv62 ?_
    refine own_s_ladd Xw46.here hx (hb hby at_63) (pc' := 64) rfl (v := w4_v63) w4_hv63 ?_
    refine own_s_lstore Xw46.here hx (hb hby at_64) (pc' := 66) rfl (L' := #[.val (.int p0), .val (.int p1), .val (.int p2), .val (.int p3), .val (.int p4), .val (.int (4 : Int32)), .val (.int w4_c9_s_v6), .val (.int w4_c15_s_v6), .val (.int w4_c21_s_v6), .val (.int w4_c28_s_v6), .val (.ref bw45), .val (.long w4_v63), .second, .unset, .unset]) rfl ?_
    refine own_s_iload Xw46.here hx (hb hby at_66) (pc' := 68) rfl rfl ?_
    refine own_s_iconst Xw46.here hx (hb hby at_68) (pc' := 69) rfl (v := (1 : Int32)) (by decide) ?_
    refine own_s_icmpNo Xw46.here hx (hb hby at_69) (pc' := 72) rfl (by decide) ?_
    refine own_s_aload Xw46.here hx (hb hby at_72) (pc' := 74) rfl rfl rfl ?_
    refine own_s_iconst Xw46.here hx (hb hby at_74) (pc' := 75) rfl (v := (1 : Int32)) (by decide) ?_
    refine own_s_iload Xw46.here hx (hb hby at_75) (pc' := 77) rfl rfl ?_
    refine own_s_i2d Xw46.here hx (hb hby at_77) (pc' := 78) rfl (v := (FP.i2d w4_c15_s_v6)) rfl ?_
    refine stw47 _ ?_
    refine own_s_lload Xw47.here hx (hb hby at_79) (pc' := 81) rfl rfl ?_
    refine own_s_iload Xw47.here hx (hb hby at_81) (pc' := 83) rfl rfl ?_
    refine own_s_i2l Xw47.here hx (hb hby at_83) (pc' := 84) rfl (v := w4_v83) w4_hv83 ?_
    refine own_s_iload Xw47.here hx (hb hby at_84) (pc' := 86) rfl rfl ?_
    refine own_s_i2l Xw47.here hx (hb hby at_86) (pc' := 87) rfl (v := w4_v86) w4_hv86 ?_
    refine own_s_lmul Xw47.here hx (hb hby at_87) (pc' := 88) rfl (v := w4_v87) w4_hv87 ?_
    refine own_s_ladd Xw47.here hx (hb hby at_88) (pc' := 89) rfl (v := w4_v88) w4_hv88 ?_
    refine own_s_lstore Xw47.here hx (hb hby at_89) (pc' := 91) rfl (L' := #[.val (.int p0), .val (.int p1), .val (.int p2), .val (.int p3), .val (.int p4), .val (.int (4 : Int32)), .val (.int w4_c9_s_v6), .val (.int w4_c15_s_v6), .val (.int w4_c21_s_v6), .val (.int w4_c28_s_v6), .val (.ref bw45), .val (.long w4_v88), .second, .unset, .unset]) rfl ?_
    refine own_s_iload Xw47.here hx (hb hby at_91) (pc' := 93) rfl rfl ?_
    refine own_s_iconst Xw47.here hx (hb hby at_93) (pc' := 94) rfl (v := (2 : Int32)) (by decide) ?_
    refine own_s_icmpNo Xw47.here hx (hb hby at_94) (pc' := 97) rfl (by decide) ?_
    refine own_s_aload Xw47.here hx (hb hby at_97) (pc' := 99) rfl rfl rfl ?_
    refine own_s_iconst Xw47.here hx (hb hby at_99) (pc' := 100) rfl (v := (2 : Int32)) (by decide) ?_
    refine own_s_iload Xw47.here hx (hb hby at_100) (pc' := 102) rfl rfl ?_
    refine own_s_i2d Xw47.here hx (hb hby at_102) (pc' := 103) rfl (v := (FP.i2d w4_c21_s_v6)) rfl ?_
    refine stw48 _ ?_
    refine own_s_lload Xw48.here hx (hb hby at_104) (pc' := 106) rfl rfl ?_
    refine own_s_iload Xw48.here hx (hb hby at_106) (pc' := 108) rfl rfl ?_
    refine own_s_i2l Xw48.here hx (hb hby at_108) (pc' := 109) rfl (v := w4_v108) w4_hv108 ?_
    refine own_s_iload Xw48.here hx (hb hby at_109) (pc' := 111) rfl rfl ?_
    refine own_s_i2l Xw48.here hx (hb hby at_111) (pc' := 112) rfl (v := w4_v111) w4_hv111 ?_
    refine own_s_lmul Xw48.here hx (hb hby at_112) (pc' := 113) rfl (v := w4_v112) w4_hv112 ?_
    refine own_s_ladd Xw48.here hx (hb hby at_113) (pc' := 114) rfl (v := w4_v113) w4_hv113 ?_
    refine own_s_lstore Xw48.here hx (hb hby at_114) (pc' := 116) rfl (L' := #[.val (.int p0), .val (.int p1), .val (.int p2), .val (.int p3), .val (.int p4), .val (.int (4 : Int32)), .val (.int w4_c9_s_v6), .val (.int w4_c15_s_v6), .val (.int w4_c21_s_v6), .val (.int w4_c28_s_v6), .val (.ref bw45), .val (.long w4_v113), .second, .unset, .unset]) rfl ?_
    refine own_s_iload Xw48.here hx (hb hby at_116) (pc' := 118) rfl rfl ?_
    refine own_s_iconst Xw48.here hx (hb hby at_118) (pc' := 119) rfl (v := (3 : Int32)) (by decide) ?_
    refine own_s_icmpNo Xw48.here hx (hb hby at_119) (pc' := 122) rfl (by decide) ?_
    refine own_s_aload Xw48.here hx (hb hby at_122) (pc' := 124) rfl rfl rfl ?_
    refine own_s_iconst Xw48.here hx (hb hby at_124) (pc' := 125) rfl (v := (3 : Int32)) (by decide) ?_
    refine own_s_iload Xw48.here hx (hb hby at_125) (pc' := 127) rfl rfl ?_
    refine own_s_i2d Xw48.here hx (hb hby at_127) (pc' := 128) rfl (v := (FP.i2d w4_c28_s_v6)) rfl ?_
    refine stw49 _ ?_
    refine own_s_lload Xw49.here hx (hb hby at_129) (pc' := 131) rfl rfl ?_
    refine own_s_iload Xw49.here hx (hb hby at_131) (pc' := 133) rfl rfl ?_
    refine own_s_i2l Xw49.here hx (hb hby at_133) (pc' := 134) rfl (v := w4_v133) w4_hv133 ?_
    refine own_s_iload Xw49.here hx (hb hby at_134) (pc' := 136) rfl rfl ?_
    refine own_s_i2l Xw49.here hx (hb hby at_136) (pc' := 137) rfl (v := w4_v136) w4_hv136 ?_
    refine own_s_lmul Xw49.here hx (hb hby at_137) (pc' := 138) rfl (v := w4_v137) w4_hv137 ?_
    refine own_s_ladd Xw49.here hx (hb hby at_138) (pc' := 139) rfl (v := w4_v138) w4_hv138 ?_
    refine own_s_lstore Xw49.here hx (hb hby at_139) (pc' := 141) rfl (L' := #[.val (.int p0), .val (.int p1), .val (.int p2), .val (.int p3), .val (.int p4), .val (.int (4 : Int32)), .val (.int w4_c9_s_v6), .val (.int w4_c15_s_v6), .val (.int w4_c21_s_v6), .val (.int w4_c28_s_v6), .val (.ref bw45), .val (.long w4_v138), .second, .unset, .unset]) rfl ?_
    refine own_s_aload Xw49.here hx (hb hby at_141) (pc' := 143) rfl rfl rfl ?_
    refine stw410 _ ?_
    show Steps p.tables e below (Tw410.setTop (mkF m 146 #[.val (.int p0), .val (.int p1), .val (.int p2), .val (.int p3), .val (.int p4), .val (.int (4 : Int32)), .val (.int w4_c9_s_v6), .val (.int w4_c15_s_v6), .val (.int w4_c21_s_v6), .val (.int w4_c28_s_v6), .val (.ref bw45), .val (.long w4_v138), .second, .unset, .unset] [(.double w4_c143_c4_v30_4)])) _
    refine own_s_dstore Xw410.here hx (hb hby at_146) (pc' := 148) rfl (L' := #[.val (.int p0), .val (.int p1), .val (.int p2), .val (.int p3), .val (.int p4), .val (.int (4 : Int32)), .val (.int w4_c9_s_v6), .val (.int w4_c15_s_v6), .val (.int w4_c21_s_v6), .val (.int w4_c28_s_v6), .val (.ref bw45), .val (.long w4_v138), .second, .val (.double w4_c143_c4_v30_4), .second]) rfl ?_
    refine own_s_dload Xw410.here hx (hb hby at_148) (pc' := 150) rfl rfl ?_
    refine own_s_lload Xw410.here hx (hb hby at_150) (pc' := 152) rfl rfl ?_
    refine own_s_l2d Xw410.here hx (hb hby at_152) (pc' := 153) rfl (v := (FP.l2d w4_v138)) rfl ?_
    refine own_s_dcmp Xw410.here hx (hb hby at_153) (pc' := 154) rfl (v := (0 : Int32)) w4_hc153 ?_
    refine own_s_ifNo Xw410.here hx (hb hby at_154) (pc' := 157) rfl (by decide) ?_
    refine own_s_iconst Xw410.here hx (hb hby at_157) (pc' := 158) rfl (v := (1 : Int32)) (by decide) ?_
    refine own_s_goto Xw410.here hx (hb hby at_158) (by decide) (pc' := 162) (by decide) ?_
    exact retN Xw410 hx (t := .boolean) Bd.returns (by simp) (hb hby at_162) hr
  · show own_Q0 n0 _ Tw410.heap _
    rw [ew410]
    exact ⟨rfl, Nw410⟩
set_option maxRecDepth 65536 in
set_option maxHeartbeats 40000000 in
theorem own_rm0 (l : Launch) (Z : State) (a0 : Array Value) (hw : ∀ d ∈ tables_1, d.before a0 Z = true) (ws : List Jvm.Cond) (p0 : Int32) (p1 : Int32) (p2 : Int32) (p3 : Int32) (p4 : Int32) (h0 : Heap) (n0 : Nat) (Z0 : n0 ≤ h0.size)  :
    MetFree l x (head1 (Jvm.Cond.code x code maxLocals ret :: ws) room_1) (fun a U => a = #[(.int p0), (.int p1), (.int p2), (.int p3), (.int p4)] ∧ Z.Warmed39 U.vm ∧ U.heap = h0) (fun _ _ _ _ _ => True) (fun _ U o U' => ∃ v L, o = .returned v ∧ own_Q0 n0 v U'.heap L ∧ FrameEnd U o U' L room_1.cells room_1.slots) := by
  obtain ⟨v3, hv3⟩ : ∃ v, p0 &&& 2147483647 = v := ⟨_, rfl⟩
  rcases own_modN p0 v3 hv3 with hn | hn | hn | hn | hn
  · obtain ⟨c9_s_v3, c9_s_hv3⟩ : ∃ v, p1 <<< ((7 : Int32) &&& 31) = v := ⟨_, rfl⟩
    obtain ⟨c9_s_v6, c9_s_hv6⟩ : ∃ v, c9_s_v3 >>> ((7 : Int32) &&& 31) = v := ⟨_, rfl⟩
    have L_c9_s_v6 := own_small c9_s_hv3 c9_s_hv6
    obtain ⟨c15_s_v3, c15_s_hv3⟩ : ∃ v, p2 <<< ((7 : Int32) &&& 31) = v := ⟨_, rfl⟩
    obtain ⟨c15_s_v6, c15_s_hv6⟩ : ∃ v, c15_s_v3 >>> ((7 : Int32) &&& 31) = v := ⟨_, rfl⟩
    have L_c15_s_v6 := own_small c15_s_hv3 c15_s_hv6
    obtain ⟨c21_s_v3, c21_s_hv3⟩ : ∃ v, p3 <<< ((7 : Int32) &&& 31) = v := ⟨_, rfl⟩
    obtain ⟨c21_s_v6, c21_s_hv6⟩ : ∃ v, c21_s_v3 >>> ((7 : Int32) &&& 31) = v := ⟨_, rfl⟩
    have L_c21_s_v6 := own_small c21_s_hv3 c21_s_hv6
    obtain ⟨c28_s_v3, c28_s_hv3⟩ : ∃ v, p4 <<< ((7 : Int32) &&& 31) = v := ⟨_, rfl⟩
    obtain ⟨c28_s_v6, c28_s_hv6⟩ : ∃ v, c28_s_v3 >>> ((7 : Int32) &&& 31) = v := ⟨_, rfl⟩
    have L_c28_s_v6 := own_small c28_s_hv3 c28_s_hv6
    have Ic1 : own_B 0 (0) 0 0 := ⟨⟨(Jvm.FP.Core.fin_bits _).mpr (by decide), by decide, by decide +kernel⟩, by decide, by decide⟩
    have Il2 : own_L (0 : Int64) (0) 0 := ⟨by decide, by decide, by decide⟩
    have Id3 : own_B (FP.l2d (0 : Int64)) ((0)) 0 0 := own_Bl2d Il2 (by decide)
    exact own_rm_w0 l Z a0 hw ws p0 p1 p2 p3 p4 h0 n0 Z0 (w0_hv3 := hv3) (w0_hv5 := hn) (w0_c9_s_hv3 := c9_s_hv3) (w0_c9_s_hv6 := c9_s_hv6) (w0_c15_s_hv3 := c15_s_hv3) (w0_c15_s_hv6 := c15_s_hv6) (w0_c21_s_hv3 := c21_s_hv3) (w0_c21_s_hv6 := c21_s_hv6) (w0_c28_s_hv3 := c28_s_hv3) (w0_c28_s_hv6 := c28_s_hv6) (w0_hc153 := (own_eq0 Ic1.is Id3.is (by first | rfl | omega | grind) _))
  · obtain ⟨c9_s_v3, c9_s_hv3⟩ : ∃ v, p1 <<< ((7 : Int32) &&& 31) = v := ⟨_, rfl⟩
    obtain ⟨c9_s_v6, c9_s_hv6⟩ : ∃ v, c9_s_v3 >>> ((7 : Int32) &&& 31) = v := ⟨_, rfl⟩
    have L_c9_s_v6 := own_small c9_s_hv3 c9_s_hv6
    obtain ⟨c15_s_v3, c15_s_hv3⟩ : ∃ v, p2 <<< ((7 : Int32) &&& 31) = v := ⟨_, rfl⟩
    obtain ⟨c15_s_v6, c15_s_hv6⟩ : ∃ v, c15_s_v3 >>> ((7 : Int32) &&& 31) = v := ⟨_, rfl⟩
    have L_c15_s_v6 := own_small c15_s_hv3 c15_s_hv6
    obtain ⟨c21_s_v3, c21_s_hv3⟩ : ∃ v, p3 <<< ((7 : Int32) &&& 31) = v := ⟨_, rfl⟩
    obtain ⟨c21_s_v6, c21_s_hv6⟩ : ∃ v, c21_s_v3 >>> ((7 : Int32) &&& 31) = v := ⟨_, rfl⟩
    have L_c21_s_v6 := own_small c21_s_hv3 c21_s_hv6
    obtain ⟨c28_s_v3, c28_s_hv3⟩ : ∃ v, p4 <<< ((7 : Int32) &&& 31) = v := ⟨_, rfl⟩
    obtain ⟨c28_s_v6, c28_s_hv6⟩ : ∃ v, c28_s_v3 >>> ((7 : Int32) &&& 31) = v := ⟨_, rfl⟩
    have L_c28_s_v6 := own_small c28_s_hv3 c28_s_hv6
    obtain ⟨v58, hv58⟩ : ∃ v, Int32.toInt64 c9_s_v6 = v := ⟨_, rfl⟩
    have L_v58 := own_Ii2l hv58 L_c9_s_v6
    obtain ⟨v61, hv61⟩ : ∃ v, Int32.toInt64 c9_s_v6 = v := ⟨_, rfl⟩
    have L_v61 := own_Ii2l hv61 L_c9_s_v6
    obtain ⟨v62, hv62⟩ : ∃ v, v58 * v61 = v := ⟨_, rfl⟩
    have L_v62 : own_L v62 ((c9_s_v6.toInt) * (c9_s_v6.toInt)) 281474976710656 := own_Lcast (own_Lmul hv62 L_v58 L_v61 (by decide)) rfl (by decide)
    obtain ⟨v63, hv63⟩ : ∃ v, (0 : Int64) + v62 = v := ⟨_, rfl⟩
    have Il1 : own_L (0 : Int64) (0) 0 := ⟨by decide, by decide, by decide⟩
    have L_v63 : own_L v63 (((0)) + (((c9_s_v6.toInt) * (c9_s_v6.toInt)))) 281474976710656 := own_Lcast (own_Ladd hv63 Il1 L_v62 (by decide)) rfl (by decide)
    obtain ⟨c143_c1_v29, c143_c1_hv29⟩ : ∃ v, FP.dmul (FP.i2d c9_s_v6) (FP.i2d c9_s_v6) = v := ⟨_, rfl⟩
    have Id2 : own_B (FP.i2d c9_s_v6) (c9_s_v6.toInt) 0 16777216 := own_Bi2d L_c9_s_v6
    have J3 : own_B (FP.dmul (FP.i2d c9_s_v6) (FP.i2d c9_s_v6)) ((c9_s_v6.toInt) * (c9_s_v6.toInt)) (0) 281474976710656 := own_Bcast (own_Bmul Id2 Id2 (by decide)) rfl (by decide) (by decide)
    have J3n := J3.nn
    rw [c143_c1_hv29] at J3
    obtain ⟨c143_c1_v30, c143_c1_hv30⟩ : ∃ v, FP.dadd 0 c143_c1_v29 = v := ⟨_, rfl⟩
    have Ic4 : own_B 0 (0) 0 0 := ⟨⟨(Jvm.FP.Core.fin_bits _).mpr (by decide), by decide, by decide +kernel⟩, by decide, by decide⟩
    have J5 : own_B (FP.dadd 0 c143_c1_v29) ((0) + ((c9_s_v6.toInt) * (c9_s_v6.toInt))) (0) 281474976710656 := own_Bcast (own_Badd Ic4 J3 (by decide)) rfl (by decide) (by decide)
    have J5n := J5.nn
    rw [c143_c1_hv30] at J5
    have Id6 : own_B (FP.l2d v63) ((((0)) + (((c9_s_v6.toInt) * (c9_s_v6.toInt))))) 0 281474976710656 := own_Bl2d L_v63 (by decide)
    exact own_rm_w1 l Z a0 hw ws p0 p1 p2 p3 p4 h0 n0 Z0 (w1_hv3 := hv3) (w1_hv5 := hn) (w1_c9_s_hv3 := c9_s_hv3) (w1_c9_s_hv6 := c9_s_hv6) (w1_c15_s_hv3 := c15_s_hv3) (w1_c15_s_hv6 := c15_s_hv6) (w1_c21_s_hv3 := c21_s_hv3) (w1_c21_s_hv6 := c21_s_hv6) (w1_c28_s_hv3 := c28_s_hv3) (w1_c28_s_hv6 := c28_s_hv6) (w1_hv58 := hv58) (w1_hv61 := hv61) (w1_hv62 := hv62) (w1_hv63 := hv63) (w1_c143_c1_hn29 := J3n) (w1_c143_c1_hv29 := c143_c1_hv29) (w1_c143_c1_hn30 := J5n) (w1_c143_c1_hv30 := c143_c1_hv30) (w1_hc153 := (own_eq0 J5.is Id6.is (by first | rfl | omega | grind) _))
  · obtain ⟨c9_s_v3, c9_s_hv3⟩ : ∃ v, p1 <<< ((7 : Int32) &&& 31) = v := ⟨_, rfl⟩
    obtain ⟨c9_s_v6, c9_s_hv6⟩ : ∃ v, c9_s_v3 >>> ((7 : Int32) &&& 31) = v := ⟨_, rfl⟩
    have L_c9_s_v6 := own_small c9_s_hv3 c9_s_hv6
    obtain ⟨c15_s_v3, c15_s_hv3⟩ : ∃ v, p2 <<< ((7 : Int32) &&& 31) = v := ⟨_, rfl⟩
    obtain ⟨c15_s_v6, c15_s_hv6⟩ : ∃ v, c15_s_v3 >>> ((7 : Int32) &&& 31) = v := ⟨_, rfl⟩
    have L_c15_s_v6 := own_small c15_s_hv3 c15_s_hv6
    obtain ⟨c21_s_v3, c21_s_hv3⟩ : ∃ v, p3 <<< ((7 : Int32) &&& 31) = v := ⟨_, rfl⟩
    obtain ⟨c21_s_v6, c21_s_hv6⟩ : ∃ v, c21_s_v3 >>> ((7 : Int32) &&& 31) = v := ⟨_, rfl⟩
    have L_c21_s_v6 := own_small c21_s_hv3 c21_s_hv6
    obtain ⟨c28_s_v3, c28_s_hv3⟩ : ∃ v, p4 <<< ((7 : Int32) &&& 31) = v := ⟨_, rfl⟩
    obtain ⟨c28_s_v6, c28_s_hv6⟩ : ∃ v, c28_s_v3 >>> ((7 : Int32) &&& 31) = v := ⟨_, rfl⟩
    have L_c28_s_v6 := own_small c28_s_hv3 c28_s_hv6
    obtain ⟨v58, hv58⟩ : ∃ v, Int32.toInt64 c9_s_v6 = v := ⟨_, rfl⟩
    have L_v58 := own_Ii2l hv58 L_c9_s_v6
    obtain ⟨v61, hv61⟩ : ∃ v, Int32.toInt64 c9_s_v6 = v := ⟨_, rfl⟩
    have L_v61 := own_Ii2l hv61 L_c9_s_v6
    obtain ⟨v62, hv62⟩ : ∃ v, v58 * v61 = v := ⟨_, rfl⟩
    have L_v62 : own_L v62 ((c9_s_v6.toInt) * (c9_s_v6.toInt)) 281474976710656 := own_Lcast (own_Lmul hv62 L_v58 L_v61 (by decide)) rfl (by decide)
    obtain ⟨v63, hv63⟩ : ∃ v, (0 : Int64) + v62 = v := ⟨_, rfl⟩
    have Il1 : own_L (0 : Int64) (0) 0 := ⟨by decide, by decide, by decide⟩
    have L_v63 : own_L v63 (((0)) + (((c9_s_v6.toInt) * (c9_s_v6.toInt)))) 281474976710656 := own_Lcast (own_Ladd hv63 Il1 L_v62 (by decide)) rfl (by decide)
    obtain ⟨v83, hv83⟩ : ∃ v, Int32.toInt64 c15_s_v6 = v := ⟨_, rfl⟩
    have L_v83 := own_Ii2l hv83 L_c15_s_v6
    obtain ⟨v86, hv86⟩ : ∃ v, Int32.toInt64 c15_s_v6 = v := ⟨_, rfl⟩
    have L_v86 := own_Ii2l hv86 L_c15_s_v6
    obtain ⟨v87, hv87⟩ : ∃ v, v83 * v86 = v := ⟨_, rfl⟩
    have L_v87 : own_L v87 ((c15_s_v6.toInt) * (c15_s_v6.toInt)) 281474976710656 := own_Lcast (own_Lmul hv87 L_v83 L_v86 (by decide)) rfl (by decide)
    obtain ⟨v88, hv88⟩ : ∃ v, v63 + v87 = v := ⟨_, rfl⟩
    have L_v88 : own_L v88 (((((0)) + (((c9_s_v6.toInt) * (c9_s_v6.toInt))))) + (((c15_s_v6.toInt) * (c15_s_v6.toInt)))) 562949953421312 := own_Lcast (own_Ladd hv88 L_v63 L_v87 (by decide)) rfl (by decide)
    obtain ⟨c143_c2_v29, c143_c2_hv29⟩ : ∃ v, FP.dmul (FP.i2d c9_s_v6) (FP.i2d c9_s_v6) = v := ⟨_, rfl⟩
    have Id2 : own_B (FP.i2d c9_s_v6) (c9_s_v6.toInt) 0 16777216 := own_Bi2d L_c9_s_v6
    have J3 : own_B (FP.dmul (FP.i2d c9_s_v6) (FP.i2d c9_s_v6)) ((c9_s_v6.toInt) * (c9_s_v6.toInt)) (0) 281474976710656 := own_Bcast (own_Bmul Id2 Id2 (by decide)) rfl (by decide) (by decide)
    have J3n := J3.nn
    rw [c143_c2_hv29] at J3
    obtain ⟨c143_c2_v30, c143_c2_hv30⟩ : ∃ v, FP.dadd 0 c143_c2_v29 = v := ⟨_, rfl⟩
    have Ic4 : own_B 0 (0) 0 0 := ⟨⟨(Jvm.FP.Core.fin_bits _).mpr (by decide), by decide, by decide +kernel⟩, by decide, by decide⟩
    have J5 : own_B (FP.dadd 0 c143_c2_v29) ((0) + ((c9_s_v6.toInt) * (c9_s_v6.toInt))) (0) 281474976710656 := own_Bcast (own_Badd Ic4 J3 (by decide)) rfl (by decide) (by decide)
    have J5n := J5.nn
    rw [c143_c2_hv30] at J5
    obtain ⟨c143_c2_v29_2, c143_c2_hv29_2⟩ : ∃ v, FP.dmul (FP.i2d c15_s_v6) (FP.i2d c15_s_v6) = v := ⟨_, rfl⟩
    have Id6 : own_B (FP.i2d c15_s_v6) (c15_s_v6.toInt) 0 16777216 := own_Bi2d L_c15_s_v6
    have J7 : own_B (FP.dmul (FP.i2d c15_s_v6) (FP.i2d c15_s_v6)) ((c15_s_v6.toInt) * (c15_s_v6.toInt)) (0) 281474976710656 := own_Bcast (own_Bmul Id6 Id6 (by decide)) rfl (by decide) (by decide)
    have J7n := J7.nn
    rw [c143_c2_hv29_2] at J7
    obtain ⟨c143_c2_v30_2, c143_c2_hv30_2⟩ : ∃ v, FP.dadd c143_c2_v30 c143_c2_v29_2 = v := ⟨_, rfl⟩
    have J8 : own_B (FP.dadd c143_c2_v30 c143_c2_v29_2) (((0) + ((c9_s_v6.toInt) * (c9_s_v6.toInt))) + ((c15_s_v6.toInt) * (c15_s_v6.toInt))) (0) 562949953421312 := own_Bcast (own_Badd J5 J7 (by decide)) rfl (by decide) (by decide)
    have J8n := J8.nn
    rw [c143_c2_hv30_2] at J8
    have Id9 : own_B (FP.l2d v88) ((((((0)) + (((c9_s_v6.toInt) * (c9_s_v6.toInt))))) + (((c15_s_v6.toInt) * (c15_s_v6.toInt))))) 0 562949953421312 := own_Bl2d L_v88 (by decide)
    exact own_rm_w2 l Z a0 hw ws p0 p1 p2 p3 p4 h0 n0 Z0 (w2_hv3 := hv3) (w2_hv5 := hn) (w2_c9_s_hv3 := c9_s_hv3) (w2_c9_s_hv6 := c9_s_hv6) (w2_c15_s_hv3 := c15_s_hv3) (w2_c15_s_hv6 := c15_s_hv6) (w2_c21_s_hv3 := c21_s_hv3) (w2_c21_s_hv6 := c21_s_hv6) (w2_c28_s_hv3 := c28_s_hv3) (w2_c28_s_hv6 := c28_s_hv6) (w2_hv58 := hv58) (w2_hv61 := hv61) (w2_hv62 := hv62) (w2_hv63 := hv63) (w2_hv83 := hv83) (w2_hv86 := hv86) (w2_hv87 := hv87) (w2_hv88 := hv88) (w2_c143_c2_hn29 := J3n) (w2_c143_c2_hv29 := c143_c2_hv29) (w2_c143_c2_hn30 := J5n) (w2_c143_c2_hv30 := c143_c2_hv30) (w2_c143_c2_hn29_2 := J7n) (w2_c143_c2_hv29_2 := c143_c2_hv29_2) (w2_c143_c2_hn30_2 := J8n) (w2_c143_c2_hv30_2 := c143_c2_hv30_2) (w2_hc153 := (own_eq0 J8.is Id9.is (by first | rfl | omega | grind) _))
  · obtain ⟨c9_s_v3, c9_s_hv3⟩ : ∃ v, p1 <<< ((7 : Int32) &&& 31) = v := ⟨_, rfl⟩
    obtain ⟨c9_s_v6, c9_s_hv6⟩ : ∃ v, c9_s_v3 >>> ((7 : Int32) &&& 31) = v := ⟨_, rfl⟩
    have L_c9_s_v6 := own_small c9_s_hv3 c9_s_hv6
    obtain ⟨c15_s_v3, c15_s_hv3⟩ : ∃ v, p2 <<< ((7 : Int32) &&& 31) = v := ⟨_, rfl⟩
    obtain ⟨c15_s_v6, c15_s_hv6⟩ : ∃ v, c15_s_v3 >>> ((7 : Int32) &&& 31) = v := ⟨_, rfl⟩
    have L_c15_s_v6 := own_small c15_s_hv3 c15_s_hv6
    obtain ⟨c21_s_v3, c21_s_hv3⟩ : ∃ v, p3 <<< ((7 : Int32) &&& 31) = v := ⟨_, rfl⟩
    obtain ⟨c21_s_v6, c21_s_hv6⟩ : ∃ v, c21_s_v3 >>> ((7 : Int32) &&& 31) = v := ⟨_, rfl⟩
    have L_c21_s_v6 := own_small c21_s_hv3 c21_s_hv6
    obtain ⟨c28_s_v3, c28_s_hv3⟩ : ∃ v, p4 <<< ((7 : Int32) &&& 31) = v := ⟨_, rfl⟩
    obtain ⟨c28_s_v6, c28_s_hv6⟩ : ∃ v, c28_s_v3 >>> ((7 : Int32) &&& 31) = v := ⟨_, rfl⟩
    have L_c28_s_v6 := own_small c28_s_hv3 c28_s_hv6
    obtain ⟨v58, hv58⟩ : ∃ v, Int32.toInt64 c9_s_v6 = v := ⟨_, rfl⟩
    have L_v58 := own_Ii2l hv58 L_c9_s_v6
    obtain ⟨v61, hv61⟩ : ∃ v, Int32.toInt64 c9_s_v6 = v := ⟨_, rfl⟩
    have L_v61 := own_Ii2l hv61 L_c9_s_v6
    obtain ⟨v62, hv62⟩ : ∃ v, v58 * v61 = v := ⟨_, rfl⟩
    have L_v62 : own_L v62 ((c9_s_v6.toInt) * (c9_s_v6.toInt)) 281474976710656 := own_Lcast (own_Lmul hv62 L_v58 L_v61 (by decide)) rfl (by decide)
    obtain ⟨v63, hv63⟩ : ∃ v, (0 : Int64) + v62 = v := ⟨_, rfl⟩
    have Il1 : own_L (0 : Int64) (0) 0 := ⟨by decide, by decide, by decide⟩
    have L_v63 : own_L v63 (((0)) + (((c9_s_v6.toInt) * (c9_s_v6.toInt)))) 281474976710656 := own_Lcast (own_Ladd hv63 Il1 L_v62 (by decide)) rfl (by decide)
    obtain ⟨v83, hv83⟩ : ∃ v, Int32.toInt64 c15_s_v6 = v := ⟨_, rfl⟩
    have L_v83 := own_Ii2l hv83 L_c15_s_v6
    obtain ⟨v86, hv86⟩ : ∃ v, Int32.toInt64 c15_s_v6 = v := ⟨_, rfl⟩
    have L_v86 := own_Ii2l hv86 L_c15_s_v6
    obtain ⟨v87, hv87⟩ : ∃ v, v83 * v86 = v := ⟨_, rfl⟩
    have L_v87 : own_L v87 ((c15_s_v6.toInt) * (c15_s_v6.toInt)) 281474976710656 := own_Lcast (own_Lmul hv87 L_v83 L_v86 (by decide)) rfl (by decide)
    obtain ⟨v88, hv88⟩ : ∃ v, v63 + v87 = v := ⟨_, rfl⟩
    have L_v88 : own_L v88 (((((0)) + (((c9_s_v6.toInt) * (c9_s_v6.toInt))))) + (((c15_s_v6.toInt) * (c15_s_v6.toInt)))) 562949953421312 := own_Lcast (own_Ladd hv88 L_v63 L_v87 (by decide)) rfl (by decide)
    obtain ⟨v108, hv108⟩ : ∃ v, Int32.toInt64 c21_s_v6 = v := ⟨_, rfl⟩
    have L_v108 := own_Ii2l hv108 L_c21_s_v6
    obtain ⟨v111, hv111⟩ : ∃ v, Int32.toInt64 c21_s_v6 = v := ⟨_, rfl⟩
    have L_v111 := own_Ii2l hv111 L_c21_s_v6
    obtain ⟨v112, hv112⟩ : ∃ v, v108 * v111 = v := ⟨_, rfl⟩
    have L_v112 : own_L v112 ((c21_s_v6.toInt) * (c21_s_v6.toInt)) 281474976710656 := own_Lcast (own_Lmul hv112 L_v108 L_v111 (by decide)) rfl (by decide)
    obtain ⟨v113, hv113⟩ : ∃ v, v88 + v112 = v := ⟨_, rfl⟩
    have L_v113 : own_L v113 (((((((0)) + (((c9_s_v6.toInt) * (c9_s_v6.toInt))))) + (((c15_s_v6.toInt) * (c15_s_v6.toInt))))) + (((c21_s_v6.toInt) * (c21_s_v6.toInt)))) 844424930131968 := own_Lcast (own_Ladd hv113 L_v88 L_v112 (by decide)) rfl (by decide)
    obtain ⟨c143_c3_v29, c143_c3_hv29⟩ : ∃ v, FP.dmul (FP.i2d c9_s_v6) (FP.i2d c9_s_v6) = v := ⟨_, rfl⟩
    have Id2 : own_B (FP.i2d c9_s_v6) (c9_s_v6.toInt) 0 16777216 := own_Bi2d L_c9_s_v6
    have J3 : own_B (FP.dmul (FP.i2d c9_s_v6) (FP.i2d c9_s_v6)) ((c9_s_v6.toInt) * (c9_s_v6.toInt)) (0) 281474976710656 := own_Bcast (own_Bmul Id2 Id2 (by decide)) rfl (by decide) (by decide)
    have J3n := J3.nn
    rw [c143_c3_hv29] at J3
    obtain ⟨c143_c3_v30, c143_c3_hv30⟩ : ∃ v, FP.dadd 0 c143_c3_v29 = v := ⟨_, rfl⟩
    have Ic4 : own_B 0 (0) 0 0 := ⟨⟨(Jvm.FP.Core.fin_bits _).mpr (by decide), by decide, by decide +kernel⟩, by decide, by decide⟩
    have J5 : own_B (FP.dadd 0 c143_c3_v29) ((0) + ((c9_s_v6.toInt) * (c9_s_v6.toInt))) (0) 281474976710656 := own_Bcast (own_Badd Ic4 J3 (by decide)) rfl (by decide) (by decide)
    have J5n := J5.nn
    rw [c143_c3_hv30] at J5
    obtain ⟨c143_c3_v29_2, c143_c3_hv29_2⟩ : ∃ v, FP.dmul (FP.i2d c15_s_v6) (FP.i2d c15_s_v6) = v := ⟨_, rfl⟩
    have Id6 : own_B (FP.i2d c15_s_v6) (c15_s_v6.toInt) 0 16777216 := own_Bi2d L_c15_s_v6
    have J7 : own_B (FP.dmul (FP.i2d c15_s_v6) (FP.i2d c15_s_v6)) ((c15_s_v6.toInt) * (c15_s_v6.toInt)) (0) 281474976710656 := own_Bcast (own_Bmul Id6 Id6 (by decide)) rfl (by decide) (by decide)
    have J7n := J7.nn
    rw [c143_c3_hv29_2] at J7
    obtain ⟨c143_c3_v30_2, c143_c3_hv30_2⟩ : ∃ v, FP.dadd c143_c3_v30 c143_c3_v29_2 = v := ⟨_, rfl⟩
    have J8 : own_B (FP.dadd c143_c3_v30 c143_c3_v29_2) (((0) + ((c9_s_v6.toInt) * (c9_s_v6.toInt))) + ((c15_s_v6.toInt) * (c15_s_v6.toInt))) (0) 562949953421312 := own_Bcast (own_Badd J5 J7 (by decide)) rfl (by decide) (by decide)
    have J8n := J8.nn
    rw [c143_c3_hv30_2] at J8
    obtain ⟨c143_c3_v29_3, c143_c3_hv29_3⟩ : ∃ v, FP.dmul (FP.i2d c21_s_v6) (FP.i2d c21_s_v6) = v := ⟨_, rfl⟩
    have Id9 : own_B (FP.i2d c21_s_v6) (c21_s_v6.toInt) 0 16777216 := own_Bi2d L_c21_s_v6
    have J10 : own_B (FP.dmul (FP.i2d c21_s_v6) (FP.i2d c21_s_v6)) ((c21_s_v6.toInt) * (c21_s_v6.toInt)) (0) 281474976710656 := own_Bcast (own_Bmul Id9 Id9 (by decide)) rfl (by decide) (by decide)
    have J10n := J10.nn
    rw [c143_c3_hv29_3] at J10
    obtain ⟨c143_c3_v30_3, c143_c3_hv30_3⟩ : ∃ v, FP.dadd c143_c3_v30_2 c143_c3_v29_3 = v := ⟨_, rfl⟩
    have J11 : own_B (FP.dadd c143_c3_v30_2 c143_c3_v29_3) ((((0) + ((c9_s_v6.toInt) * (c9_s_v6.toInt))) + ((c15_s_v6.toInt) * (c15_s_v6.toInt))) + ((c21_s_v6.toInt) * (c21_s_v6.toInt))) (0) 844424930131968 := own_Bcast (own_Badd J8 J10 (by decide)) rfl (by decide) (by decide)
    have J11n := J11.nn
    rw [c143_c3_hv30_3] at J11
    have Id12 : own_B (FP.l2d v113) ((((((((0)) + (((c9_s_v6.toInt) * (c9_s_v6.toInt))))) + (((c15_s_v6.toInt) * (c15_s_v6.toInt))))) + (((c21_s_v6.toInt) * (c21_s_v6.toInt))))) 0 844424930131968 := own_Bl2d L_v113 (by decide)
    exact own_rm_w3 l Z a0 hw ws p0 p1 p2 p3 p4 h0 n0 Z0 (w3_hv3 := hv3) (w3_hv5 := hn) (w3_c9_s_hv3 := c9_s_hv3) (w3_c9_s_hv6 := c9_s_hv6) (w3_c15_s_hv3 := c15_s_hv3) (w3_c15_s_hv6 := c15_s_hv6) (w3_c21_s_hv3 := c21_s_hv3) (w3_c21_s_hv6 := c21_s_hv6) (w3_c28_s_hv3 := c28_s_hv3) (w3_c28_s_hv6 := c28_s_hv6) (w3_hv58 := hv58) (w3_hv61 := hv61) (w3_hv62 := hv62) (w3_hv63 := hv63) (w3_hv83 := hv83) (w3_hv86 := hv86) (w3_hv87 := hv87) (w3_hv88 := hv88) (w3_hv108 := hv108) (w3_hv111 := hv111) (w3_hv112 := hv112) (w3_hv113 := hv113) (w3_c143_c3_hn29 := J3n) (w3_c143_c3_hv29 := c143_c3_hv29) (w3_c143_c3_hn30 := J5n) (w3_c143_c3_hv30 := c143_c3_hv30) (w3_c143_c3_hn29_2 := J7n) (w3_c143_c3_hv29_2 := c143_c3_hv29_2) (w3_c143_c3_hn30_2 := J8n) (w3_c143_c3_hv30_2 := c143_c3_hv30_2) (w3_c143_c3_hn29_3 := J10n) (w3_c143_c3_hv29_3 := c143_c3_hv29_3) (w3_c143_c3_hn30_3 := J11n) (w3_c143_c3_hv30_3 := c143_c3_hv30_3) (w3_hc153 := (own_eq0 J11.is Id12.is (by first | rfl | omega | grind) _))
  · obtain ⟨c9_s_v3, c9_s_hv3⟩ : ∃ v, p1 <<< ((7 : Int32) &&& 31) = v := ⟨_, rfl⟩
    obtain ⟨c9_s_v6, c9_s_hv6⟩ : ∃ v, c9_s_v3 >>> ((7 : Int32) &&& 31) = v := ⟨_, rfl⟩
    have L_c9_s_v6 := own_small c9_s_hv3 c9_s_hv6
    obtain ⟨c15_s_v3, c15_s_hv3⟩ : ∃ v, p2 <<< ((7 : Int32) &&& 31) = v := ⟨_, rfl⟩
    obtain ⟨c15_s_v6, c15_s_hv6⟩ : ∃ v, c15_s_v3 >>> ((7 : Int32) &&& 31) = v := ⟨_, rfl⟩
    have L_c15_s_v6 := own_small c15_s_hv3 c15_s_hv6
    obtain ⟨c21_s_v3, c21_s_hv3⟩ : ∃ v, p3 <<< ((7 : Int32) &&& 31) = v := ⟨_, rfl⟩
    obtain ⟨c21_s_v6, c21_s_hv6⟩ : ∃ v, c21_s_v3 >>> ((7 : Int32) &&& 31) = v := ⟨_, rfl⟩
    have L_c21_s_v6 := own_small c21_s_hv3 c21_s_hv6
    obtain ⟨c28_s_v3, c28_s_hv3⟩ : ∃ v, p4 <<< ((7 : Int32) &&& 31) = v := ⟨_, rfl⟩
    obtain ⟨c28_s_v6, c28_s_hv6⟩ : ∃ v, c28_s_v3 >>> ((7 : Int32) &&& 31) = v := ⟨_, rfl⟩
    have L_c28_s_v6 := own_small c28_s_hv3 c28_s_hv6
    obtain ⟨v58, hv58⟩ : ∃ v, Int32.toInt64 c9_s_v6 = v := ⟨_, rfl⟩
    have L_v58 := own_Ii2l hv58 L_c9_s_v6
    obtain ⟨v61, hv61⟩ : ∃ v, Int32.toInt64 c9_s_v6 = v := ⟨_, rfl⟩
    have L_v61 := own_Ii2l hv61 L_c9_s_v6
    obtain ⟨v62, hv62⟩ : ∃ v, v58 * v61 = v := ⟨_, rfl⟩
    have L_v62 : own_L v62 ((c9_s_v6.toInt) * (c9_s_v6.toInt)) 281474976710656 := own_Lcast (own_Lmul hv62 L_v58 L_v61 (by decide)) rfl (by decide)
    obtain ⟨v63, hv63⟩ : ∃ v, (0 : Int64) + v62 = v := ⟨_, rfl⟩
    have Il1 : own_L (0 : Int64) (0) 0 := ⟨by decide, by decide, by decide⟩
    have L_v63 : own_L v63 (((0)) + (((c9_s_v6.toInt) * (c9_s_v6.toInt)))) 281474976710656 := own_Lcast (own_Ladd hv63 Il1 L_v62 (by decide)) rfl (by decide)
    obtain ⟨v83, hv83⟩ : ∃ v, Int32.toInt64 c15_s_v6 = v := ⟨_, rfl⟩
    have L_v83 := own_Ii2l hv83 L_c15_s_v6
    obtain ⟨v86, hv86⟩ : ∃ v, Int32.toInt64 c15_s_v6 = v := ⟨_, rfl⟩
    have L_v86 := own_Ii2l hv86 L_c15_s_v6
    obtain ⟨v87, hv87⟩ : ∃ v, v83 * v86 = v := ⟨_, rfl⟩
    have L_v87 : own_L v87 ((c15_s_v6.toInt) * (c15_s_v6.toInt)) 281474976710656 := own_Lcast (own_Lmul hv87 L_v83 L_v86 (by decide)) rfl (by decide)
    obtain ⟨v88, hv88⟩ : ∃ v, v63 + v87 = v := ⟨_, rfl⟩
    have L_v88 : own_L v88 (((((0)) + (((c9_s_v6.toInt) * (c9_s_v6.toInt))))) + (((c15_s_v6.toInt) * (c15_s_v6.toInt)))) 562949953421312 := own_Lcast (own_Ladd hv88 L_v63 L_v87 (by decide)) rfl (by decide)
    obtain ⟨v108, hv108⟩ : ∃ v, Int32.toInt64 c21_s_v6 = v := ⟨_, rfl⟩
    have L_v108 := own_Ii2l hv108 L_c21_s_v6
    obtain ⟨v111, hv111⟩ : ∃ v, Int32.toInt64 c21_s_v6 = v := ⟨_, rfl⟩
    have L_v111 := own_Ii2l hv111 L_c21_s_v6
    obtain ⟨v112, hv112⟩ : ∃ v, v108 * v111 = v := ⟨_, rfl⟩
    have L_v112 : own_L v112 ((c21_s_v6.toInt) * (c21_s_v6.toInt)) 281474976710656 := own_Lcast (own_Lmul hv112 L_v108 L_v111 (by decide)) rfl (by decide)
    obtain ⟨v113, hv113⟩ : ∃ v, v88 + v112 = v := ⟨_, rfl⟩
    have L_v113 : own_L v113 (((((((0)) + (((c9_s_v6.toInt) * (c9_s_v6.toInt))))) + (((c15_s_v6.toInt) * (c15_s_v6.toInt))))) + (((c21_s_v6.toInt) * (c21_s_v6.toInt)))) 844424930131968 := own_Lcast (own_Ladd hv113 L_v88 L_v112 (by decide)) rfl (by decide)
    obtain ⟨v133, hv133⟩ : ∃ v, Int32.toInt64 c28_s_v6 = v := ⟨_, rfl⟩
    have L_v133 := own_Ii2l hv133 L_c28_s_v6
    obtain ⟨v136, hv136⟩ : ∃ v, Int32.toInt64 c28_s_v6 = v := ⟨_, rfl⟩
    have L_v136 := own_Ii2l hv136 L_c28_s_v6
    obtain ⟨v137, hv137⟩ : ∃ v, v133 * v136 = v := ⟨_, rfl⟩
    have L_v137 : own_L v137 ((c28_s_v6.toInt) * (c28_s_v6.toInt)) 281474976710656 := own_Lcast (own_Lmul hv137 L_v133 L_v136 (by decide)) rfl (by decide)
    obtain ⟨v138, hv138⟩ : ∃ v, v113 + v137 = v := ⟨_, rfl⟩
    have L_v138 : own_L v138 (((((((((0)) + (((c9_s_v6.toInt) * (c9_s_v6.toInt))))) + (((c15_s_v6.toInt) * (c15_s_v6.toInt))))) + (((c21_s_v6.toInt) * (c21_s_v6.toInt))))) + (((c28_s_v6.toInt) * (c28_s_v6.toInt)))) 1125899906842624 := own_Lcast (own_Ladd hv138 L_v113 L_v137 (by decide)) rfl (by decide)
    obtain ⟨c143_c4_v29, c143_c4_hv29⟩ : ∃ v, FP.dmul (FP.i2d c9_s_v6) (FP.i2d c9_s_v6) = v := ⟨_, rfl⟩
    have Id2 : own_B (FP.i2d c9_s_v6) (c9_s_v6.toInt) 0 16777216 := own_Bi2d L_c9_s_v6
    have J3 : own_B (FP.dmul (FP.i2d c9_s_v6) (FP.i2d c9_s_v6)) ((c9_s_v6.toInt) * (c9_s_v6.toInt)) (0) 281474976710656 := own_Bcast (own_Bmul Id2 Id2 (by decide)) rfl (by decide) (by decide)
    have J3n := J3.nn
    rw [c143_c4_hv29] at J3
    obtain ⟨c143_c4_v30, c143_c4_hv30⟩ : ∃ v, FP.dadd 0 c143_c4_v29 = v := ⟨_, rfl⟩
    have Ic4 : own_B 0 (0) 0 0 := ⟨⟨(Jvm.FP.Core.fin_bits _).mpr (by decide), by decide, by decide +kernel⟩, by decide, by decide⟩
    have J5 : own_B (FP.dadd 0 c143_c4_v29) ((0) + ((c9_s_v6.toInt) * (c9_s_v6.toInt))) (0) 281474976710656 := own_Bcast (own_Badd Ic4 J3 (by decide)) rfl (by decide) (by decide)
    have J5n := J5.nn
    rw [c143_c4_hv30] at J5
    obtain ⟨c143_c4_v29_2, c143_c4_hv29_2⟩ : ∃ v, FP.dmul (FP.i2d c15_s_v6) (FP.i2d c15_s_v6) = v := ⟨_, rfl⟩
    have Id6 : own_B (FP.i2d c15_s_v6) (c15_s_v6.toInt) 0 16777216 := own_Bi2d L_c15_s_v6
    have J7 : own_B (FP.dmul (FP.i2d c15_s_v6) (FP.i2d c15_s_v6)) ((c15_s_v6.toInt) * (c15_s_v6.toInt)) (0) 281474976710656 := own_Bcast (own_Bmul Id6 Id6 (by decide)) rfl (by decide) (by decide)
    have J7n := J7.nn
    rw [c143_c4_hv29_2] at J7
    obtain ⟨c143_c4_v30_2, c143_c4_hv30_2⟩ : ∃ v, FP.dadd c143_c4_v30 c143_c4_v29_2 = v := ⟨_, rfl⟩
    have J8 : own_B (FP.dadd c143_c4_v30 c143_c4_v29_2) (((0) + ((c9_s_v6.toInt) * (c9_s_v6.toInt))) + ((c15_s_v6.toInt) * (c15_s_v6.toInt))) (0) 562949953421312 := own_Bcast (own_Badd J5 J7 (by decide)) rfl (by decide) (by decide)
    have J8n := J8.nn
    rw [c143_c4_hv30_2] at J8
    obtain ⟨c143_c4_v29_3, c143_c4_hv29_3⟩ : ∃ v, FP.dmul (FP.i2d c21_s_v6) (FP.i2d c21_s_v6) = v := ⟨_, rfl⟩
    have Id9 : own_B (FP.i2d c21_s_v6) (c21_s_v6.toInt) 0 16777216 := own_Bi2d L_c21_s_v6
    have J10 : own_B (FP.dmul (FP.i2d c21_s_v6) (FP.i2d c21_s_v6)) ((c21_s_v6.toInt) * (c21_s_v6.toInt)) (0) 281474976710656 := own_Bcast (own_Bmul Id9 Id9 (by decide)) rfl (by decide) (by decide)
    have J10n := J10.nn
    rw [c143_c4_hv29_3] at J10
    obtain ⟨c143_c4_v30_3, c143_c4_hv30_3⟩ : ∃ v, FP.dadd c143_c4_v30_2 c143_c4_v29_3 = v := ⟨_, rfl⟩
    have J11 : own_B (FP.dadd c143_c4_v30_2 c143_c4_v29_3) ((((0) + ((c9_s_v6.toInt) * (c9_s_v6.toInt))) + ((c15_s_v6.toInt) * (c15_s_v6.toInt))) + ((c21_s_v6.toInt) * (c21_s_v6.toInt))) (0) 844424930131968 := own_Bcast (own_Badd J8 J10 (by decide)) rfl (by decide) (by decide)
    have J11n := J11.nn
    rw [c143_c4_hv30_3] at J11
    obtain ⟨c143_c4_v29_4, c143_c4_hv29_4⟩ : ∃ v, FP.dmul (FP.i2d c28_s_v6) (FP.i2d c28_s_v6) = v := ⟨_, rfl⟩
    have Id12 : own_B (FP.i2d c28_s_v6) (c28_s_v6.toInt) 0 16777216 := own_Bi2d L_c28_s_v6
    have J13 : own_B (FP.dmul (FP.i2d c28_s_v6) (FP.i2d c28_s_v6)) ((c28_s_v6.toInt) * (c28_s_v6.toInt)) (0) 281474976710656 := own_Bcast (own_Bmul Id12 Id12 (by decide)) rfl (by decide) (by decide)
    have J13n := J13.nn
    rw [c143_c4_hv29_4] at J13
    obtain ⟨c143_c4_v30_4, c143_c4_hv30_4⟩ : ∃ v, FP.dadd c143_c4_v30_3 c143_c4_v29_4 = v := ⟨_, rfl⟩
    have J14 : own_B (FP.dadd c143_c4_v30_3 c143_c4_v29_4) (((((0) + ((c9_s_v6.toInt) * (c9_s_v6.toInt))) + ((c15_s_v6.toInt) * (c15_s_v6.toInt))) + ((c21_s_v6.toInt) * (c21_s_v6.toInt))) + ((c28_s_v6.toInt) * (c28_s_v6.toInt))) (0) 1125899906842624 := own_Bcast (own_Badd J11 J13 (by decide)) rfl (by decide) (by decide)
    have J14n := J14.nn
    rw [c143_c4_hv30_4] at J14
    have Id15 : own_B (FP.l2d v138) ((((((((((0)) + (((c9_s_v6.toInt) * (c9_s_v6.toInt))))) + (((c15_s_v6.toInt) * (c15_s_v6.toInt))))) + (((c21_s_v6.toInt) * (c21_s_v6.toInt))))) + (((c28_s_v6.toInt) * (c28_s_v6.toInt))))) 0 1125899906842624 := own_Bl2d L_v138 (by decide)
    exact own_rm_w4 l Z a0 hw ws p0 p1 p2 p3 p4 h0 n0 Z0 (w4_hv3 := hv3) (w4_hv5 := hn) (w4_c9_s_hv3 := c9_s_hv3) (w4_c9_s_hv6 := c9_s_hv6) (w4_c15_s_hv3 := c15_s_hv3) (w4_c15_s_hv6 := c15_s_hv6) (w4_c21_s_hv3 := c21_s_hv3) (w4_c21_s_hv6 := c21_s_hv6) (w4_c28_s_hv3 := c28_s_hv3) (w4_c28_s_hv6 := c28_s_hv6) (w4_hv58 := hv58) (w4_hv61 := hv61) (w4_hv62 := hv62) (w4_hv63 := hv63) (w4_hv83 := hv83) (w4_hv86 := hv86) (w4_hv87 := hv87) (w4_hv88 := hv88) (w4_hv108 := hv108) (w4_hv111 := hv111) (w4_hv112 := hv112) (w4_hv113 := hv113) (w4_hv133 := hv133) (w4_hv136 := hv136) (w4_hv137 := hv137) (w4_hv138 := hv138) (w4_c143_c4_hn29 := J3n) (w4_c143_c4_hv29 := c143_c4_hv29) (w4_c143_c4_hn30 := J5n) (w4_c143_c4_hv30 := c143_c4_hv30) (w4_c143_c4_hn29_2 := J7n) (w4_c143_c4_hv29_2 := c143_c4_hv29_2) (w4_c143_c4_hn30_2 := J8n) (w4_c143_c4_hv30_2 := c143_c4_hv30_2) (w4_c143_c4_hn29_3 := J10n) (w4_c143_c4_hv29_3 := c143_c4_hv29_3) (w4_c143_c4_hn30_3 := J11n) (w4_c143_c4_hv30_3 := c143_c4_hv30_3) (w4_c143_c4_hn29_4 := J13n) (w4_c143_c4_hv29_4 := c143_c4_hv29_4) (w4_c143_c4_hn30_4 := J14n) (w4_c143_c4_hv30_4 := c143_c4_hv30_4) (w4_hc153 := (own_eq0 J14.is Id15.is (by first | rfl | omega | grind) _))
set_option maxRecDepth 65536 in
set_option maxHeartbeats 40000000 in
theorem comes_1 {Post : Tables → Env → Array Value → State → Outcome → State → Prop} (hpost : ∀ tb e args s v u, (limb_1_1.after args s (.returned v) u = true ∧ limb_1_2.after args s (.returned v) u = true ∧ True) → FrameEnd s (.returned v) u (Jvm.fieldLocs frame_1_writes args s ++ Jvm.arrayLocs frame_1_arrays args s ++ Jvm.staticLocs frame_1_statics s) 16 128 → Post tb e args s (.returned v) u) :
    ArmFor flags0 classFile x code maxLocals ret World_1 tables_1 room_1 Calls_1 rest_1 Pre_1 Post := by
  intro l hfl _ _ p e ha hc hk s m args below hf hA hF happ hP
  obtain ⟨hcalls, hrest, hpre⟩ := hP
  obtain ⟨-, -, -, hnamed, -, -, -, hat⟩ := (Spec.applies_iff hf).mp happ
  obtain ⟨hg, hn⟩ := and_e (Cond.before_iff.mp (show (Jvm.Cond.and given_1 narrow_1).before args s = true from hpre))
  obtain ⟨hcount, g0⟩ := and_e hg
  obtain ⟨a0, g1⟩ := and_e g0
  obtain ⟨a1, g2⟩ := and_e g1
  obtain ⟨a2, g3⟩ := and_e g2
  obtain ⟨a3, g4⟩ := and_e g3
  have a4 := g4
  obtain ⟨w0, w1, w2, w3, w4, rfl⟩ : ∃ w0 w1 w2 w3 w4 : Value, args = #[w0, w1, w2, w3, w4] := by
    have hs : args.size = 5 := by simpa [Cond.value, given_1] using hcount
    obtain ⟨L⟩ := args
    match L, hs with
    | [w0, w1, w2, w3, w4], _ => exact ⟨w0, w1, w2, w3, w4, rfl⟩
  have hw := fun d (hd : d ∈ tables_1) => atoms_spec (ws := Jvm.Cond.code x code maxLocals ret :: tables_1) hat d (List.mem_cons_of_mem _ hd)
  obtain ⟨i0, ei0⟩ := is_v a0
  obtain rfl : w0 = (.int i0) := Option.some.inj ei0
  obtain ⟨i1, ei1⟩ := is_v a1
  obtain rfl : w1 = (.int i1) := Option.some.inj ei1
  obtain ⟨i2, ei2⟩ := is_v a2
  obtain rfl : w2 = (.int i2) := Option.some.inj ei2
  obtain ⟨i3, ei3⟩ := is_v a3
  obtain rfl : w3 = (.int i3) := Option.some.inj ei3
  obtain ⟨i4, ei4⟩ := is_v a4
  obtain rfl : w4 = (.int i4) := Option.some.inj ei4
  obtain ⟨n, o, h1, h2, h3, _, L, rfl, ⟨rfl, N⟩, hq⟩ := own_rm0 l s _ hw tables_1 i0 i1 i2 i3 i4 s.heap s.heap.size (Nat.le_refl _)  p e ha hc hk s m _ below hf ((Spec.applies_iff_loose hf).mp happ).1 ⟨rfl, State.Warmed39.refl s, rfl⟩ trivial
  refine ⟨n, _, h1, h2, h3, hpost _ _ _ _ _ _ ⟨Cond.after_iff.mpr rfl, Cond.after_iff.mpr (eq_i res_at (Term.int_eval (1)) rfl), trivial⟩ ⟨hq.1, hq.2.1, (hq.2.2.sift fun y hy => Or.inr (N y hy)).mono (by decide) (by decide)⟩⟩
theorem main_1_1 : Claimed_1_1 := comes_1 fun _ _ _ _ _ _ h hF => ⟨h.1, hF⟩
theorem main_1_2 : Claimed_1_2 := comes_1 fun _ _ _ _ _ _ h hF => ⟨h.2.1, hF⟩
end Jvm.Pilot.@@N@@
namespace Jvm.Pilot.@@N@@
open Jvm Jvm.ClassFile Sem Op Lib Jvm.Free Jvm.Stand Jvm.Pilot.@@N@@.Jvm.D
/-! MADE BY PROGRAM (witnessworld.py) out of the Statement's table words and the real class files: 9 classes; the members and pool entries that the words name. The judged class is class 1, her method 2. -/
namespace start1
open Jvm.ClassFile
def u (s : String) : CpInfo := .utf8 (stringToUtf16 s)
/-- a pool by its gaps: so many unusable entries, then the entry; so many at the end -/
def gap : Nat → List CpInfo → List CpInfo
  | 0, r => r
  | n + 1, r => .unusable :: gap n r
def poolList (es : List (Nat × CpInfo)) (last : Nat) : List CpInfo := es.foldr (fun e r => gap e.1 (e.2 :: r)) (gap last [])
def pool (es : List (Nat × CpInfo)) (last : Nat) : Array CpInfo := ⟨poolList es last⟩
def fileOf (pool : Array CpInfo) (this : Nat) (attrs : Array Attribute := #[]) (ms : Array MethodInfo := #[]) (fl : Nat := 33) (sup : Nat := 0) (ifs : Array Nat := #[]) (fds : Array FieldInfo := #[]) : ClassFile where
  minorVersion := 0
  majorVersion := 65
  constantPool := pool
  accessFlags := fl
  thisClass := this
  superClass := sup
  interfaces := ifs
  fields := fds
  methods := ms
  attributes := attrs
def plain (name : String) (sup : Option ClassId) : Class where
  name := name
  kind := .ordinary
  loader := none
  accessFlags := 33
  super := sup
  interfaces := #[]
  cf := none
  fields := #[]
  methods := #[]
  instanceTypes := #[]
  staticTypes := #[]
  resolved := #[]
  callSites := []
  init := .initialized
  statics := none
  mirror := none

def pool0 : Array CpInfo := pool [(5, u "<init>"), (0, u "()V"), (1, .class_ 10), (1, u "java/lang/Object")] 113

def k0m0 : Method := { name := "<init>", desc := "()V", sig := { parameters := [], returnType := none }, accessFlags := 1, code := none }
/-- java/lang/Object -/
def k0 : Class := { plain "java/lang/Object" none with
  accessFlags := 33
  interfaces := #[]
  cf := some (fileOf pool0 8 #[] #[{ accessFlags := 1, nameIndex := 5, descriptorIndex := 6, attributes := #[] }] 33 0 #[] #[])
  fields := #[]
  methods := #[k0m0]
  instanceTypes := #[]
  staticTypes := #[]
  resolved := Array.replicate 124 none
  statics := none }

def pool1 : Array CpInfo := pool [(2, .class_ 4), (1, u "java/lang/Object"), (0, u "<init>"), (0, u "()V"), (0, .integer 2147483647), (0, .methodref 9 10), (0, .class_ 11), (0, .nameAndType 12 13), (0, u "com/example/differentia/differentia/problems/ProblemsSpherePinLaw"), (0, u "small"), (0, u "(I)I"), (0, .methodref 15 16), (0, .class_ 17), (0, .nameAndType 18 19), (0, u "com/example/differentia/differentia/problems/Problems"), (0, u "sphere"), (0, u "([D)D"), (2, u "law"), (0, u "(IIIII)Z")] 5

def k1m0 : Method := { name := "<init>", desc := "()V", sig := { parameters := [], returnType := none }, accessFlags := 2, code := none }
def k1c1 : Code := { maxStack := 2, maxLocals := 1, code := method_2_code, exceptionTable := #[], attributes := #[] }
def k1m1 : Method := { name := "small", desc := "(I)I", sig := { parameters := [.int], returnType := some .int }, accessFlags := 10, code := some k1c1 }
def k1c2 : Code := { maxStack := 6, maxLocals := 15, code := code, exceptionTable := #[], attributes := #[] }
def k1m2 : Method := { name := "law", desc := "(IIIII)Z", sig := { parameters := [.int, .int, .int, .int, .int], returnType := some .boolean }, accessFlags := 9, code := some k1c2 }
/-- com/example/differentia/differentia/problems/ProblemsSpherePinLaw -/
def k1 : Class := { plain "com/example/differentia/differentia/problems/ProblemsSpherePinLaw" (some 0) with
  accessFlags := 49
  interfaces := #[]
  cf := some (fileOf pool1 9 #[] #[{ accessFlags := 2, nameIndex := 5, descriptorIndex := 6, attributes := #[] }, { accessFlags := 10, nameIndex := 12, descriptorIndex := 13, attributes := #[] }, { accessFlags := 9, nameIndex := 22, descriptorIndex := 23, attributes := #[] }] 49 2 #[] #[])
  fields := #[]
  methods := #[k1m0, k1m1, k1m2]
  instanceTypes := #[]
  staticTypes := #[]
  resolved := Array.replicate 29 none
  statics := none }

def pool2 : Array CpInfo := pool [(2, .class_ 4), (1, u "java/lang/Object"), (0, u "<init>"), (0, u "()V"), (7, u "sphere"), (33, .class_ 50), (1, u "com/example/differentia/differentia/problems/Problems"), (0, u "BY_NAME"), (0, u "Ljava/util/Map;"), (11, .class_ 65), (0, u "com/example/differentia/differentia/problems/Problems$Factory"), (72, u "([D)D")] 49

def k2m0 : Method := { name := "<init>", desc := "()V", sig := { parameters := [], returnType := none }, accessFlags := 2, code := none }
def k2c1 : Code := { maxStack := 6, maxLocals := 8, code := prog_68_method_5_code, exceptionTable := #[], attributes := #[] }
def k2m1 : Method := { name := "sphere", desc := "([D)D", sig := { parameters := [(.array .double)], returnType := some .double }, accessFlags := 9, code := some k2c1 }
/-- com/example/differentia/differentia/problems/Problems -/
def k2 : Class := { plain "com/example/differentia/differentia/problems/Problems" (some 0) with
  accessFlags := 49
  interfaces := #[]
  cf := some (fileOf pool2 48 #[.nestMembers #[64]] #[{ accessFlags := 2, nameIndex := 5, descriptorIndex := 6, attributes := #[] }, { accessFlags := 9, nameIndex := 14, descriptorIndex := 138, attributes := #[] }] 49 2 #[] #[{ accessFlags := 26, nameIndex := 51, descriptorIndex := 52, attributes := #[] }])
  fields := #[{ name := "BY_NAME", type := (.object "java/util/Map"), accessFlags := 26, slot := 0, constantValue := 0 }]
  methods := #[k2m0, k2m1]
  instanceTypes := #[]
  staticTypes := #[(.object "java/util/Map")]
  resolved := Array.replicate 188 none
  statics := none }

def pool3 : Array CpInfo := pool [(1, u "java/lang/Cloneable"), (0, .class_ 1), (0, u "java/lang/Object"), (0, .class_ 3)] 3

/-- java/lang/Cloneable -/
def k3 : Class := { plain "java/lang/Cloneable" (some 0) with
  accessFlags := 1537
  interfaces := #[]
  cf := some (fileOf pool3 2 #[] #[] 1537 4 #[] #[])
  fields := #[]
  methods := #[]
  instanceTypes := #[]
  staticTypes := #[]
  resolved := Array.replicate 8 none
  statics := none }

def pool4 : Array CpInfo := pool [(1, u "java/io/Serializable"), (0, .class_ 1), (0, u "java/lang/Object"), (0, .class_ 3)] 3

/-- java/io/Serializable -/
def k4 : Class := { plain "java/io/Serializable" (some 0) with
  accessFlags := 1537
  interfaces := #[]
  cf := some (fileOf pool4 2 #[] #[] 1537 4 #[] #[])
  fields := #[]
  methods := #[]
  instanceTypes := #[]
  staticTypes := #[]
  resolved := Array.replicate 8 none
  statics := none }

/-- the primitive byte -/
def k5 : Class := { plain "byte" none with kind := .primitive 'B', accessFlags := 0x411 }
/-- [B -/
def k6 : Class := { plain "[B" (some 0) with kind := .array 5 .byte, interfaces := #[3, 4], accessFlags := 1041 }

/-- the primitive int -/
def k7 : Class := { plain "int" none with kind := .primitive 'I', accessFlags := 0x411 }
/-- [I -/
def k8 : Class := { plain "[I" (some 0) with kind := .array 7 .int, interfaces := #[3, 4], accessFlags := 1041 }

/-- the primitive double -/
def k9 : Class := { plain "double" none with kind := .primitive 'D', accessFlags := 0x411 }
/-- [D -/
def k10 : Class := { plain "[D" (some 0) with kind := .array 9 .double, interfaces := #[3, 4], accessFlags := 1041 }

def heap : Heap := #[]
def classes : Array Class := #[k0, k1, k2, k3, k4, k5, k6, k7, k8, k9, k10]
def interned : List (Array UInt16 × Addr) := []
def slotsUsed : Nat := 0
def theMethod : MethodId := ⟨1, 2⟩
def args0 : Array Value := #[.int 3, .int 4, .int 5, .int 6, .int 7]
def aboutOver (below : List Frame) : State where
  vm := { classes := classes, interned := interned.toArray }
  heap := heap
  slotsUsed := slotsUsed
  threads := #[{ frames := .invoking theMethod args0 :: below }]
def below0 : List Frame := [.native { method := ⟨0, 0⟩, args := #[] }]
def about1 : State := aboutOver below0
def p0 : Program := .bare "" "" ""
def e0 : Env := launch0.env 0 0 0
theorem w_frames : about1.frames = Frame.invoking theMethod args0 :: below0 := rfl
set_option maxRecDepth 65536 in
theorem w_args : argsFit about1.vm theMethod args0 = true := by decide +kernel
set_option maxRecDepth 65536 in
theorem w_heap : heapFits about1 = true := by decide +kernel
set_option maxRecDepth 65536 in
theorem w_runnable : about1.curStatus? = some .runnable := by decide +kernel
set_option maxRecDepth 65536 in
theorem w_alone : about1.alone = true := by decide +kernel
set_option maxRecDepth 65536 in
theorem w_named : about1.methodNamed? x = some theMethod := by decide +kernel
set_option maxRecDepth 65536 in
theorem w_hears : about1.hears theMethod below0 = true := by decide +kernel
set_option maxRecDepth 65536 in
theorem w_ripe : about1.ripe theMethod args0 below0 = true := by decide +kernel
theorem w_running : about1.status = .running := rfl
set_option maxRecDepth 65536 in
theorem w_room : about1.hasRoom e0.platform room_1 = true :=
  launch0.hasRoom_least _ room_1 (by decide +kernel) (by decide +kernel) (by decide +kernel) (by decide +kernel) (by decide +kernel) (by decide +kernel)
theorem allAtoms_all (ts : List Jvm.Cond) (a : Array Jvm.Value) (st : Jvm.State) : (allAtoms ts).before a st = ts.all (fun c => c.before a st) := by
  induction ts with
  | nil => rfl
  | cons c t ih =>
    show (Jvm.Cond.and c (allAtoms t)).before a st = _
    rw [Jvm.Cond.before_and, ih, List.all_cons]
def words1 : List Jvm.Cond := Jvm.Cond.code x code maxLocals ret :: tables_1
/-- a 'code' word, met by the world's own term for the bytes: nothing is compared byte by byte -/
theorem code_word {y : MethodName} {bytes : ByteArray} {mx : Nat} {rt : Option FieldType} {a : Array Value} {s : State} {m : MethodId} {meth : Method} {c : Code} (h1 : s.methodNamed? y = some m) (h2 : s.vm.method? m = some meth) (h3 : meth.code = some c) (h4 : c.code = bytes)
    (h5 : (c.maxLocals == mx && c.exceptionTable.isEmpty && decide (c.maxStack ≤ mostOperands) && decide (meth.sig.returnType = rt) && !meth.locks && decide (parseMethodDescriptor y.desc = some meth.sig)) = true) : (Jvm.Cond.code y bytes mx rt).before a s = true := by
  simp only [Bool.and_eq_true, beq_iff_eq, Bool.not_eq_true', decide_eq_true_eq] at h5
  obtain ⟨⟨⟨⟨⟨g1, g2⟩, g3⟩, g4⟩, g5⟩, g6⟩ := h5
  simp [Cond.before, Cond.holds, Cond.value, h1, h2, h3, h4, g1, g2, g3, g4, g5, g6]
def isCode : Jvm.Cond → Bool
  | .code _ _ _ _ => true
  | _ => false
theorem all_split {L : List Jvm.Cond} {P : Jvm.Cond → Bool} (h1 : L.all (fun c => isCode c || P c) = true) (h2 : ∀ c ∈ L.filter isCode, P c = true) : L.all P = true := by
  refine List.all_eq_true.mpr fun c hc => ?_
  have h := List.all_eq_true.mp h1 c hc
  rcases Bool.eq_false_or_eq_true (isCode c) with hi | hi
  · exact h2 c (List.mem_filter.mpr ⟨hc, hi⟩)
  · simpa [hi] using h
set_option maxRecDepth 65536 in
theorem w_c0 : (Jvm.Cond.code x code maxLocals ret).before args0 about1 = true := code_word (m := ⟨1, 2⟩) (meth := k1m2) (c := k1c2) (by decide +kernel) rfl rfl rfl (by decide +kernel)
set_option maxRecDepth 65536 in
theorem w_c1 : (Jvm.Cond.code ({ cls := "com/example/differentia/differentia/problems/ProblemsSpherePinLaw", name := "small", desc := "(I)I" } : Jvm.MethodName) method_2_code (1 : Nat) (Option.some Jvm.ClassFile.FieldType.int)).before args0 about1 = true := code_word (m := ⟨1, 1⟩) (meth := k1m1) (c := k1c1) (by decide +kernel) rfl rfl rfl (by decide +kernel)
set_option maxRecDepth 65536 in
theorem w_c2 : (Jvm.Cond.code ({ cls := "com/example/differentia/differentia/problems/Problems", name := "sphere", desc := "([D)D" } : Jvm.MethodName) prog_68_method_5_code (8 : Nat) (Option.some Jvm.ClassFile.FieldType.double)).before args0 about1 = true := code_word (m := ⟨2, 1⟩) (meth := k2m1) (c := k2c1) (by decide +kernel) rfl rfl rfl (by decide +kernel)
def codes1 : List Jvm.Cond := [Jvm.Cond.code x code maxLocals ret, Jvm.Cond.code ({ cls := "com/example/differentia/differentia/problems/ProblemsSpherePinLaw", name := "small", desc := "(I)I" } : Jvm.MethodName) method_2_code (1 : Nat) (Option.some Jvm.ClassFile.FieldType.int), Jvm.Cond.code ({ cls := "com/example/differentia/differentia/problems/Problems", name := "sphere", desc := "([D)D" } : Jvm.MethodName) prog_68_method_5_code (8 : Nat) (Option.some Jvm.ClassFile.FieldType.double)]
set_option maxRecDepth 65536 in
theorem codes_eq : words1.filter isCode = codes1 := rfl
theorem w_codes : ∀ c ∈ words1.filter isCode, c.before args0 about1 = true := by
  rw [codes_eq]
  intro c hc
  simp only [codes1, List.mem_cons, List.not_mem_nil, or_false] at hc
  rcases hc with rfl | rfl | rfl
  · exact w_c0
  · exact w_c1
  · exact w_c2
set_option maxRecDepth 65536 in
theorem w_t1 : words1.all (fun c => isCode c || c.before args0 about1) = true := by decide +kernel
theorem w_tables : (allAtoms (Jvm.Cond.code x code maxLocals ret :: tables_1)).before args0 about1 = true := by
  rw [allAtoms_all]
  show words1.all (fun c => c.before args0 about1) = true
  refine all_split ?_ w_codes
  rw [w_t1]
set_option maxRecDepth 65536 in
theorem w_case : (Jvm.Cond.and given_1 narrow_1).before args0 about1 = true := by decide +kernel
theorem w_applies : (headSpec (Jvm.Cond.code x code maxLocals ret :: tables_1) room_1).applies x e0.platform about1 = true :=
  (Spec.applies_iff w_frames).mpr ⟨w_running, w_runnable, w_alone, w_named, w_hears, w_ripe, w_room, w_tables⟩
theorem atStart : AtStart classFile x code maxLocals ret World_1 tables_1 room_1 Calls_1 rest_1 Pre_1 launch0 p0 e0 about1 theMethod args0 below0 :=
  ⟨lists_1, trivial, launch0.admits_env _ _ _, launch0.least_env, fairChoices_fair.cas, fairChoices_fair.clock, w_frames, w_args, w_heap, w_applies, trivial, trivial, w_case⟩
end start1
theorem witness_1 : WitnessClaimed_1 := ⟨start1.p0, start1.e0, start1.about1, start1.theMethod, start1.args0, start1.below0, start1.atStart⟩
end Jvm.Pilot.@@N@@
