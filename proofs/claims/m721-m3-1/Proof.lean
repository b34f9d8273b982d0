import JvmDerived
import JvmDerived.Pilot.@@N@@Statement
import JvmDerived.Pilot.@@N@@Code
set_option linter.unusedVariables false
set_option linter.unusedSimpArgs false
namespace Jvm.Pilot.@@N@@
section OwnFP
open Jvm.FP.Core
/-! Exact doubles: own_Is x n e says that the double x is finite and worth n * 2^e. -/
def own_Is (x : UInt64) (n : Int) (e : Int) : Prop := DFin x ∧ -1074 ≤ e ∧ zval b64 (val64 x) = n * ((2 ^ (e + 1074).toNat : Nat) : Int)
theorem own_qmax : b64.qmax = 971 := by decide
theorem own_pp : b64.p = 53 := rfl
theorem own_powc {a b u v : Nat} (h : a * 2 ^ u = b * 2 ^ v) {w : Int} (hw : w = (u : Int) - v) : a * 2 ^ w.toNat = b * 2 ^ (-w).toNat := by
  subst hw
  have hu : u = ((u : Int) - v).toNat + min u v := by omega
  have hv : v = (-((u : Int) - v)).toNat + min u v := by omega
  have h2 : a * 2 ^ (((u : Int) - v).toNat + min u v) = b * 2 ^ ((-((u : Int) - v)).toNat + min u v) := by rw [← hu, ← hv]; exact h
  rw [Nat.pow_add, Nat.pow_add, ← Nat.mul_assoc, ← Nat.mul_assoc] at h2
  exact Nat.eq_of_mul_eq_mul_right (Nat.two_pow_pos _) h2
theorem own_signed_abs (s : Bool) (c : Nat) : (signed s c).natAbs = c := by cases s <;> simp [signed]
theorem own_signed_mul (s t : Bool) (c d : Nat) : signed (s != t) (c * d) = signed s c * signed t d := by
  cases s <;> cases t <;> simp [signed, Int.natCast_mul, Int.neg_mul, Int.mul_neg]
theorem own_signed_scale (s : Bool) (c d : Nat) : signed s (c * d) = signed s c * (d : Int) := by cases s <;> simp [signed, Int.natCast_mul, Int.neg_mul]
theorem own_round {s : Bool} {c : Nat} {q : Int} {M : Nat} {e : Int} (h2 : -2148 ≤ q) (hM : M < 9007199254740992) (he1 : -1074 ≤ e) (he2 : e ≤ 971) (h : inUnits c q (-2148) = M * 2 ^ (e + 2148).toNat) :
    ∃ c' q', round b64 (.fin s c q) = .fin s c' q' ∧ inUnits c' q' b64.qmin = M * 2 ^ (e + 1074).toNat := by
  have hq : b64.qmin = -1074 := qmin_b64
  obtain ⟨c', q', h1, h3⟩ := round_exact good_b64 s (c := M) (q := e) (show M < 2 ^ 53 from hM) (by rw [hq]; omega) (by rw [own_qmax]; omega)
  refine ⟨c', q', ?_, ?_⟩
  · rw [← h1]
    show roundRatio b64 s c 1 q = roundRatio b64 s M 1 e
    refine roundRatio_congr (by decide) (by decide) ?_
    unfold inUnits at h
    have h4 := own_powc (u := (q - -2148).toNat) (v := (e + 2148).toNat) h (w := q - e) (by omega)
    rw [Nat.mul_one, Nat.mul_one, h4, show -(q - e) = e - q by omega]
  · rw [h3]; unfold inUnits; rw [hq, show e - -1074 = e + 1074 by omega]
theorem own_fin_split {x : UInt64} {n e : Int} (h : own_Is x n e) : ∃ s c q, val64 x = .fin s c q ∧ Jvm.FP.Core.fits b64 (.fin s c q) ∧ signed s (inUnits c q b64.qmin) = n * ((2 ^ (e + 1074).toNat : Nat) : Int) ∧ -1074 ≤ q := by
  obtain ⟨⟨s, c, q, hv⟩, he, hz⟩ := h
  have hf := val64_fits x
  rw [hv] at hf hz
  have := hf.2.1
  rw [qmin_b64] at this
  exact ⟨s, c, q, hv, hf, hz, this⟩
theorem own_Is_of {x : UInt64} {s : Bool} {c : Nat} {q n e : Int} (hv : val64 x = .fin s c q) (he : -1074 ≤ e) (h : signed s (inUnits c q b64.qmin) = n * ((2 ^ (e + 1074).toNat : Nat) : Int)) : own_Is x n e :=
  ⟨⟨s, c, q, hv⟩, he, by rw [hv]; exact h⟩
theorem own_sum {s : Bool} {c : Nat} {q n e : Int} (hq : -1074 ≤ q) (hn : n.natAbs < 9007199254740992) (he1 : -1074 ≤ e) (he2 : e ≤ 971) (h : signed s (inUnits c q b64.qmin) = n * ((2 ^ (e + 1074).toNat : Nat) : Int)) :
    ∃ c' q', round b64 (.fin s c q) = .fin s c' q' ∧ signed s (inUnits c' q' b64.qmin) = n * ((2 ^ (e + 1074).toNat : Nat) : Int) := by
  have h1 : inUnits c q b64.qmin = n.natAbs * 2 ^ (e + 1074).toNat := by
    rw [← own_signed_abs s (inUnits c q b64.qmin), h, Int.natAbs_mul, Int.natAbs_natCast]
  have h2 : inUnits c q (-2148) = n.natAbs * 2 ^ (e + 2148).toNat := by
    rw [inUnits_move c (r := b64.qmin) (by rw [qmin_b64]; omega) (by rw [qmin_b64]; omega), h1, qmin_b64, Nat.mul_assoc, ← Nat.pow_add]
    congr 2; omega
  obtain ⟨c', q', h3, h4⟩ := own_round (s := s) (by omega) hn he1 he2 h2
  exact ⟨c', q', h3, by rw [h4, ← h1, h]⟩
theorem own_add {x y : UInt64} {m n e : Int} (hx : own_Is x m e) (hy : own_Is y n e) (he : e ≤ 971) (hb : (m + n).natAbs < 9007199254740992) : own_Is (dadd x y) (m + n) e := by
  have he1 := hx.2.1
  obtain ⟨s, c, q, vx, fx, zx, -⟩ := own_fin_split hx
  obtain ⟨t, d, r, vy, fy, zy, -⟩ := own_fin_split hy
  obtain ⟨sg, N, E, h1, h2, h3⟩ := sum_units fx fy
  have h4 : signed sg (inUnits N E b64.qmin) = (m + n) * ((2 ^ (e + 1074).toNat : Nat) : Int) := by
    rw [h3, Int.add_mul, ← zx, ← zy]; rfl
  obtain ⟨c', q', h5, h6⟩ := own_sum (by rw [qmin_b64] at h2; exact h2) hb he1 he h4
  exact own_Is_of (by rw [val64_dadd, vx, vy, h1, h5]) he1 h6
theorem own_sub {x y : UInt64} {m n e : Int} (hx : own_Is x m e) (hy : own_Is y n e) (he : e ≤ 971) (hb : (m - n).natAbs < 9007199254740992) : own_Is (dsub x y) (m - n) e := by
  have he1 := hx.2.1
  obtain ⟨s, c, q, vx, fx, zx, -⟩ := own_fin_split hx
  obtain ⟨t, d, r, vy, fy, zy, -⟩ := own_fin_split hy
  have fy' : Jvm.FP.Core.fits b64 (.fin (!t) d r) := fy
  obtain ⟨sg, N, E, h1, h2, h3⟩ := sum_units (t := !t) fx fy'
  have h4 : signed sg (inUnits N E b64.qmin) = (m - n) * ((2 ^ (e + 1074).toNat : Nat) : Int) := by
    rw [h3, Int.sub_mul, ← zx, ← zy]
    show signed s (inUnits c q b64.qmin) + signed (!t) (inUnits d r b64.qmin) = _
    rw [signed_not]; omega
  obtain ⟨c', q', h5, h6⟩ := own_sum (by rw [qmin_b64] at h2; exact h2) hb he1 he h4
  refine own_Is_of (s := sg) (c := c') (q := q') ?_ he1 h6
  rw [val64_dsub, vx, vy]
  show round b64 (exactSum (.fin s c q) (.fin (!t) d r)) = _
  rw [h1, h5]
theorem own_mul {x y : UInt64} {m n e1 e2 e : Int} (hx : own_Is x m e1) (hy : own_Is y n e2) (hee : e1 + e2 = e) (he1 : -1074 ≤ e) (he2 : e ≤ 971) (hb : (m * n).natAbs < 9007199254740992) : own_Is (dmul x y) (m * n) e := by
  subst hee
  have hx1 := hx.2.1
  have hy1 := hy.2.1
  obtain ⟨s, c, q, vx, fx, zx, qx⟩ := own_fin_split hx
  obtain ⟨t, d, r, vy, fy, zy, qy⟩ := own_fin_split hy
  obtain ⟨h1, h2, h3⟩ := product_units fx fy
  have hs : signed (s != t) (inUnits (c * d) (q + r) (-2148)) = (m * n) * ((2 ^ (e1 + e2 + 2148).toNat : Nat) : Int) := by
    have h4 : inUnits (c * d) (q + r) (-2148) = inUnits c q b64.qmin * inUnits d r b64.qmin := by
      have := h3
      rw [qmin_b64] at this ⊢
      exact this
    rw [h4, own_signed_mul, zx, zy, show (e1 + e2 + 2148).toNat = (e1 + 1074).toNat + (e2 + 1074).toNat by omega, Nat.pow_add, Int.natCast_mul]
    simp only [Int.mul_assoc, Int.mul_left_comm, Int.mul_comm]
  have h5 : inUnits (c * d) (q + r) (-2148) = (m * n).natAbs * 2 ^ (e1 + e2 + 2148).toNat := by
    rw [← own_signed_abs (s != t) (inUnits (c * d) (q + r) (-2148)), hs, Int.natAbs_mul, Int.natAbs_natCast]
  obtain ⟨c', q', h6, h7⟩ := own_round (s := (s != t)) (by omega) hb he1 he2 h5
  refine own_Is_of (s := (s != t)) (c := c') (q := q') (by rw [val64_dmul, vx, vy, h1, h6]) he1 ?_
  rw [h5, own_signed_scale] at hs
  have h8 : signed (s != t) (m * n).natAbs = m * n := Int.eq_of_mul_eq_mul_right (by have := Nat.two_pow_pos (e1 + e2 + 2148).toNat; omega) hs
  rw [h7, own_signed_scale, h8]
/-- the quotient of two exact doubles is the rounded ratio of their numbers -/
theorem own_divR {x y : UInt64} {m n e1 e2 : Int} (hx : own_Is x m e1) (hy : own_Is y n e2) (hn : n ≠ 0) :
    val64 (ddiv x y) = roundRatio b64 (sgn (val64 x) != sgn (val64 y)) m.natAbs n.natAbs (e1 - e2) ∧ signed (sgn (val64 x)) m.natAbs = m ∧ signed (sgn (val64 y)) n.natAbs = n := by
  have hx1 := hx.2.1
  have hy1 := hy.2.1
  obtain ⟨s, c, q, vx, fx, zx, qx⟩ := own_fin_split hx
  obtain ⟨t, d, r, vy, fy, zy, qy⟩ := own_fin_split hy
  have ax : inUnits c q b64.qmin = m.natAbs * 2 ^ (e1 + 1074).toNat := by
    rw [← own_signed_abs s (inUnits c q b64.qmin), zx, Int.natAbs_mul, Int.natAbs_natCast]
  have ay : inUnits d r b64.qmin = n.natAbs * 2 ^ (e2 + 1074).toNat := by
    rw [← own_signed_abs t (inUnits d r b64.qmin), zy, Int.natAbs_mul, Int.natAbs_natCast]
  have sx : signed s m.natAbs = m := by
    rw [ax, own_signed_scale] at zx
    exact Int.eq_of_mul_eq_mul_right (by have := Nat.two_pow_pos (e1 + 1074).toNat; omega) zx
  have sy : signed t n.natAbs = n := by
    rw [ay, own_signed_scale] at zy
    exact Int.eq_of_mul_eq_mul_right (by have := Nat.two_pow_pos (e2 + 1074).toNat; omega) zy
  have nn : n.natAbs ≠ 0 := by omega
  have hd : d ≠ 0 := by
    rintro rfl
    have : n.natAbs * 2 ^ (e2 + 1074).toNat = 0 := by rw [← ay]; unfold inUnits; simp
    rcases Nat.mul_eq_zero.mp this with h | h
    · exact nn h
    · have := Nat.two_pow_pos (e2 + 1074).toNat; omega
  refine ⟨?_, by rw [vx]; exact sx, by rw [vy]; exact sy⟩
  rw [val64_ddiv, vx, vy]
  show (if d = 0 then _ else roundRatio b64 (s != t) c d (q - r)) = roundRatio b64 (s != t) _ _ _
  rw [if_neg hd]
  refine roundRatio_congr (by omega) (by omega) ?_
  unfold inUnits at ax ay
  rw [qmin_b64] at ax ay
  have key : c * n.natAbs * 2 ^ ((q - -1074).toNat + (e2 + 1074).toNat) = m.natAbs * d * 2 ^ ((e1 + 1074).toNat + (r - -1074).toNat) := by
    have e3 : c * n.natAbs * 2 ^ ((q - -1074).toNat + (e2 + 1074).toNat) = (c * 2 ^ (q - -1074).toNat) * (n.natAbs * 2 ^ (e2 + 1074).toNat) := by
      rw [Nat.pow_add]; simp only [Nat.mul_assoc, Nat.mul_left_comm, Nat.mul_comm]
    rw [e3, ax, ← ay, Nat.pow_add]
    simp only [Nat.mul_assoc, Nat.mul_left_comm, Nat.mul_comm]
  have h4 := own_powc key (w := (q - r) - (e1 - e2)) (by omega)
  rw [h4, show -((q - r) - (e1 - e2)) = (e1 - e2) - (q - r) by omega]
theorem own_div {x y : UInt64} {m n N e1 e2 e : Int} (hx : own_Is x m e1) (hy : own_Is y n e2) (hn : n ≠ 0) (hm : m = N * n) (hee : e1 - e2 = e) (he1 : -1074 ≤ e) (he2 : e ≤ 971) (hb : N.natAbs < 9007199254740992) : own_Is (ddiv x y) N e := by
  subst hee
  obtain ⟨h1, h2, h3⟩ := own_divR hx hy hn
  have hq : b64.qmin = -1074 := qmin_b64
  obtain ⟨c', q', h5, h6⟩ := round_exact good_b64 (sgn (val64 x) != sgn (val64 y)) (c := N.natAbs) (q := e1 - e2) (show _ < 2 ^ 53 from hb) (by rw [hq]; omega) (by rw [own_qmax]; omega)
  refine own_Is_of (s := (sgn (val64 x) != sgn (val64 y))) (c := c') (q := q') ?_ he1 ?_
  · rw [h1, ← h5]
    show roundRatio _ _ _ _ _ = roundRatio b64 (sgn (val64 x) != sgn (val64 y)) N.natAbs 1 (e1 - e2)
    refine roundRatio_congr (by omega) (by decide) ?_
    rw [hm, Int.natAbs_mul]; simp
  · rw [h6]; unfold inUnits
    rw [hq, show e1 - e2 - -1074 = e1 - e2 + 1074 by omega, own_signed_scale]
    congr 1
    have h7 := own_signed_mul (sgn (val64 x)) (sgn (val64 y)) N.natAbs (n.natAbs * n.natAbs)
    have h8 : signed (sgn (val64 x) != sgn (val64 y)) (m.natAbs * n.natAbs) = m * n := by rw [own_signed_mul, h2, h3]
    rw [hm, Int.natAbs_mul, Nat.mul_assoc, own_signed_scale] at h8
    have h9 : ((n.natAbs * n.natAbs : Nat) : Int) = n * n := Int.natAbs_mul_self
    rw [h9, Int.mul_assoc] at h8
    refine Int.eq_of_mul_eq_mul_right ?_ h8
    intro h0
    rcases Int.mul_eq_zero.mp h0 with h | h <;> exact hn h
theorem own_shift {x : UInt64} {n e e' : Int} (j : Nat) (hx : own_Is x n e) (hj : e' = e - j) (he : -1074 ≤ e') : own_Is x (n * (2 ^ j : Nat)) e' := by
  subst hj
  refine ⟨hx.1, he, ?_⟩
  rw [hx.2.2, show (e + 1074).toNat = j + (e - j + 1074).toNat by omega, Nat.pow_add, Int.natCast_mul, ← Int.mul_assoc]
theorem own_nn {x : UInt64} {n e : Int} (h : own_Is x n e) : Jvm.Free.Fl.NoNaN64 x := Jvm.Free.Fl.noNaN64_no.mpr h.1.notNaN
theorem own_cmp {x y : UInt64} {m n e : Int} (hx : own_Is x m e) (hy : own_Is y n e) : dcmp x y = some (compare m n) := by
  rw [dcmp_zval hx.1.ne_nan hy.1.ne_nan, hx.2.2, hy.2.2]
  have hp : (0 : Int) < ((2 ^ (e + 1074).toNat : Nat) : Int) := by have := Nat.two_pow_pos (e + 1074).toNat; omega
  congr 1
  refine compare_congr ⟨fun h => Int.lt_of_mul_lt_mul_right h (Int.le_of_lt hp), fun h => Int.mul_lt_mul_of_pos_right h hp⟩ ⟨fun h => Int.eq_of_mul_eq_mul_right (Int.ne_of_gt hp) h, fun h => by rw [h]⟩
theorem own_i2d (a : Int32) : own_Is (i2d a) a.toInt 0 := by
  have h := i2d_int a
  refine ⟨?_, by decide, ?_⟩
  · rw [i2d_l2d]; exact l2d_fin _
  · rw [DInt_zval h]; rfl
theorem own_l2d {a : Int64} (h : a.toInt.natAbs ≤ 9007199254740992) : own_Is (l2d a) a.toInt 0 := by
  have h := l2d_int (a := a) h
  exact ⟨l2d_fin _, by decide, by rw [DInt_zval h]; rfl⟩
/-- with a bound on the number -/
def own_B (x : UInt64) (n e B : Int) : Prop := own_Is x n e ∧ -B ≤ n ∧ n ≤ B
theorem own_B.is {x : UInt64} {n e B : Int} (h : own_B x n e B) : own_Is x n e := h.1
theorem own_B.nn {x : UInt64} {n e B : Int} (h : own_B x n e B) : Jvm.Free.Fl.NoNaN64 x := own_nn h.1
theorem own_Badd {x y : UInt64} {m n e A B : Int} (hx : own_B x m e A) (hy : own_B y n e B) (h : (decide (e ≤ 971) && decide (A + B < 9007199254740992)) = true) : own_B (dadd x y) (m + n) e (A + B) := by
  simp only [Bool.and_eq_true, decide_eq_true_eq] at h
  have := hx.2; have := hy.2
  exact ⟨own_add hx.1 hy.1 h.1 (by omega), by omega, by omega⟩
theorem own_Bsub {x y : UInt64} {m n e A B : Int} (hx : own_B x m e A) (hy : own_B y n e B) (h : (decide (e ≤ 971) && decide (A + B < 9007199254740992)) = true) : own_B (dsub x y) (m - n) e (A + B) := by
  simp only [Bool.and_eq_true, decide_eq_true_eq] at h
  have := hx.2; have := hy.2
  exact ⟨own_sub hx.1 hy.1 h.1 (by omega), by omega, by omega⟩
theorem own_bmul {m n A B : Int} (hm : -A ≤ m ∧ m ≤ A) (hn : -B ≤ n ∧ n ≤ B) : -(A * B) ≤ m * n ∧ m * n ≤ A * B := by
  have h : (m * n).natAbs ≤ A.toNat * B.toNat := by rw [Int.natAbs_mul]; exact Nat.mul_le_mul (by omega) (by omega)
  have h2 : ((A.toNat * B.toNat : Nat) : Int) = A * B := by rw [Int.natCast_mul, Int.toNat_of_nonneg (by omega), Int.toNat_of_nonneg (by omega)]
  omega
theorem own_Bmul {x y : UInt64} {m n e1 e2 A B : Int} (hx : own_B x m e1 A) (hy : own_B y n e2 B) (h : (decide (-1074 ≤ e1 + e2) && decide (e1 + e2 ≤ 971) && decide (A * B < 9007199254740992)) = true) : own_B (dmul x y) (m * n) (e1 + e2) (A * B) := by
  simp only [Bool.and_eq_true, decide_eq_true_eq] at h
  have hb := own_bmul hx.2 hy.2
  exact ⟨own_mul hx.1 hy.1 rfl h.1.1 h.1.2 (by omega), hb⟩
/-- an exact quotient by a power of two (n = 1 in y = 1 * 2^e2) -/
theorem own_Bdiv {x y : UInt64} {m e1 e2 A : Int} (hx : own_B x m e1 A) (hy : own_Is y 1 e2) (h : (decide (-1074 ≤ e1 - e2) && decide (e1 - e2 ≤ 971) && decide (A < 9007199254740992)) = true) : own_B (ddiv x y) m (e1 - e2) A := by
  simp only [Bool.and_eq_true, decide_eq_true_eq] at h
  have := hx.2
  exact ⟨own_div hx.1 hy (by decide) (Int.mul_one _).symm rfl h.1.1 h.1.2 (by omega), hx.2⟩
theorem own_Bshift {x : UInt64} {n e A : Int} (j : Nat) (P : Int) (hx : own_B x n e A) (h : (decide (-1074 ≤ e - j) && decide (((2 ^ j : Nat) : Int) = P)) = true) : own_B x (n * P) (e - j) (A * P) := by
  simp only [Bool.and_eq_true, decide_eq_true_eq] at h
  obtain ⟨h, rfl⟩ := h
  refine ⟨own_shift j hx.1 rfl h, ?_⟩
  have hp : (0 : Int) ≤ (2 ^ j : Nat) := Int.natCast_nonneg _
  have := hx.2
  constructor
  · rw [← Int.neg_mul]; exact Int.mul_le_mul_of_nonneg_right this.1 hp
  · exact Int.mul_le_mul_of_nonneg_right this.2 hp
theorem own_Bcast {x : UInt64} {n n' e e' A A' : Int} (h : own_B x n e A) (hn : n = n') (he : e = e') (hA : A ≤ A') : own_B x n' e' A' := by
  subst hn he; exact ⟨h.1, by have := h.2; omega, by have := h.2; omega⟩
theorem own_eq0 {x y : UInt64} {m n e : Int} (hx : own_Is x m e) (hy : own_Is y n e) (h : m = n) (o : ClassFile.CmpOp) : Op.cmpValue (Jvm.FP.dcmp x y) o = 0 := by
  show Op.cmpValue (dcmp x y) o = 0
  subst h
  rw [own_cmp hx hy, show compare m m = .eq from (compare_eq_iff m m).mpr rfl]; cases o <;> rfl
theorem own_cmpv {x y : UInt64} {m n e : Int} (hx : own_Is x m e) (hy : own_Is y n e) (o : ClassFile.CmpOp) : (m < n → Op.cmpValue (Jvm.FP.dcmp x y) o = -1) ∧ (m = n → Op.cmpValue (Jvm.FP.dcmp x y) o = 0) ∧ (n < m → Op.cmpValue (Jvm.FP.dcmp x y) o = 1) := by
  refine ⟨fun h => ?_, fun h => own_eq0 hx hy h o, fun h => ?_⟩
  · show Op.cmpValue (dcmp x y) o = -1
    rw [own_cmp hx hy, (compare_lt_iff m n).mpr h]; cases o <;> rfl
  · show Op.cmpValue (dcmp x y) o = 1
    rw [own_cmp hx hy, (compare_gt_iff m n).mpr h]; cases o <;> rfl
theorem own_one : own_Is 4607182418800017408 1 0 := ⟨(fin_bits _).mpr (by decide), by decide, by decide +kernel⟩
theorem own_zero : own_Is 0 0 0 := ⟨(fin_bits _).mpr (by decide), by decide, by decide +kernel⟩
/-! ints and longs with their numbers and bounds -/
def own_I (v : Int32) (n B : Int) : Prop := v.toInt = n ∧ -B ≤ n ∧ n ≤ B
def own_L (v : Int64) (n B : Int) : Prop := v.toInt = n ∧ -B ≤ n ∧ n ≤ B
theorem own_Iadd {a b v : Int32} {m n A B : Int} (hv : a + b = v) (ha : own_I a m A) (hb : own_I b n B) (h : decide (A + B < 2147483648) = true) : own_I v (m + n) (A + B) := by
  subst hv; simp only [decide_eq_true_eq] at h; obtain ⟨rfl, h1, h2⟩ := ha; obtain ⟨rfl, h3, h4⟩ := hb
  exact ⟨by rw [Int32.toInt_add]; exact Int.bmod_eq_of_le (by omega) (by omega), by omega, by omega⟩
theorem own_Isub {a b v : Int32} {m n A B : Int} (hv : a - b = v) (ha : own_I a m A) (hb : own_I b n B) (h : decide (A + B < 2147483648) = true) : own_I v (m - n) (A + B) := by
  subst hv; simp only [decide_eq_true_eq] at h; obtain ⟨rfl, h1, h2⟩ := ha; obtain ⟨rfl, h3, h4⟩ := hb
  exact ⟨by rw [Int32.toInt_sub]; exact Int.bmod_eq_of_le (by omega) (by omega), by omega, by omega⟩
theorem own_Imul {a b v : Int32} {m n A B : Int} (hv : a * b = v) (ha : own_I a m A) (hb : own_I b n B) (h : decide (A * B < 2147483648) = true) : own_I v (m * n) (A * B) := by
  subst hv; simp only [decide_eq_true_eq] at h; obtain ⟨rfl, h1⟩ := ha; obtain ⟨rfl, h3⟩ := hb
  have hb := own_bmul h1 h3
  exact ⟨by rw [Int32.toInt_mul]; exact Int.bmod_eq_of_le (by omega) (by omega), hb⟩
theorem own_Ladd {a b v : Int64} {m n A B : Int} (hv : a + b = v) (ha : own_L a m A) (hb : own_L b n B) (h : decide (A + B < 9223372036854775808) = true) : own_L v (m + n) (A + B) := by
  subst hv; simp only [decide_eq_true_eq] at h; obtain ⟨rfl, h1, h2⟩ := ha; obtain ⟨rfl, h3, h4⟩ := hb
  exact ⟨by rw [Int64.toInt_add]; exact Int.bmod_eq_of_le (by omega) (by omega), by omega, by omega⟩
theorem own_Lsub {a b v : Int64} {m n A B : Int} (hv : a - b = v) (ha : own_L a m A) (hb : own_L b n B) (h : decide (A + B < 9223372036854775808) = true) : own_L v (m - n) (A + B) := by
  subst hv; simp only [decide_eq_true_eq] at h; obtain ⟨rfl, h1, h2⟩ := ha; obtain ⟨rfl, h3, h4⟩ := hb
  exact ⟨by rw [Int64.toInt_sub]; exact Int.bmod_eq_of_le (by omega) (by omega), by omega, by omega⟩
theorem own_Lmul {a b v : Int64} {m n A B : Int} (hv : a * b = v) (ha : own_L a m A) (hb : own_L b n B) (h : decide (A * B < 9223372036854775808) = true) : own_L v (m * n) (A * B) := by
  subst hv; simp only [decide_eq_true_eq] at h; obtain ⟨rfl, h1⟩ := ha; obtain ⟨rfl, h3⟩ := hb
  have hb := own_bmul h1 h3
  exact ⟨by rw [Int64.toInt_mul]; exact Int.bmod_eq_of_le (by omega) (by omega), hb⟩
theorem own_Ii2l {a : Int32} {v : Int64} {m A : Int} (hv : Int32.toInt64 a = v) (ha : own_I a m A) : own_L v m A := by
  subst hv; exact ⟨by rw [Int32.toInt_toInt64]; exact ha.1, ha.2⟩
theorem own_Icast {v : Int32} {n n' A A' : Int} (h : own_I v n A) (hn : n = n') (hA : A ≤ A') : own_I v n' A' := by
  subst hn; exact ⟨h.1, by have := h.2; omega, by have := h.2; omega⟩
theorem own_Lcast {v : Int64} {n n' A A' : Int} (h : own_L v n A) (hn : n = n') (hA : A ≤ A') : own_L v n' A' := by
  subst hn; exact ⟨h.1, by have := h.2; omega, by have := h.2; omega⟩
theorem own_Bi2d {v : Int32} {n A : Int} (h : own_I v n A) : own_B (i2d v) n 0 A := by
  obtain ⟨rfl, h1⟩ := h; exact ⟨own_i2d v, h1⟩
theorem own_Bl2d {v : Int64} {n A : Int} (h : own_L v n A) (hA : decide (A ≤ 9007199254740992) = true) : own_B (l2d v) n 0 A := by
  simp only [decide_eq_true_eq] at hA; obtain ⟨rfl, h1⟩ := h; exact ⟨own_l2d (by omega), h1⟩
theorem own_Irng (v : Int32) : own_I v v.toInt 2147483648 := ⟨rfl, by have := Jvm.RoadKit.rng32 v; omega, by have := Jvm.RoadKit.rng32 v; omega⟩
theorem own_Iand {x m v : Int32} {B : Int} (hv : x &&& m = v) (hB : m.toInt = B) (h0 : 0 ≤ B) : own_I v v.toInt B := by
  have := Jvm.RoadKit.c_and x m (by omega); rw [hv] at this; exact ⟨rfl, by omega, by omega⟩
end OwnFP
section OwnStep
open Jvm Jvm.ClassFile Sem Op Lib Jvm.Free Jvm.Stand Jvm.LawKit Jvm.RoadKit
variable {tb : Tables} [Ours tb] {e : Env} {below : List Frame} {T target : State} {m : MethodId} {c : Code} {pc pc' : Nat} {L : Array Slot} {S : List Value}
theorem own_s_iadd (h : At T m c below) (hx : tb.exec = Jvm.exec) {x y v : Int32} (hd : decode c.code pc = .ok (.iadd, 1)) (hp : pc + 1 = pc') (hv : x + y = v)
    (hr : Steps tb e below (T.setTop (mkF m pc' L (.int v :: S))) target) : Steps tb e below (T.setTop (mkF m pc L (.int y :: .int x :: S))) target := by
  subst hv hp; exact XS.iadd h hx rfl hd rfl hr
theorem own_s_ladd (h : At T m c below) (hx : tb.exec = Jvm.exec) {x y v : Int64} (hd : decode c.code pc = .ok (.ladd, 1)) (hp : pc + 1 = pc') (hv : x + y = v)
    (hr : Steps tb e below (T.setTop (mkF m pc' L (.long v :: S))) target) : Steps tb e below (T.setTop (mkF m pc L (.long y :: .long x :: S))) target := by
  subst hv hp; exact XS.ladd h hx rfl hd rfl hr
theorem own_s_isub (h : At T m c below) (hx : tb.exec = Jvm.exec) {x y v : Int32} (hd : decode c.code pc = .ok (.isub, 1)) (hp : pc + 1 = pc') (hv : x - y = v)
    (hr : Steps tb e below (T.setTop (mkF m pc' L (.int v :: S))) target) : Steps tb e below (T.setTop (mkF m pc L (.int y :: .int x :: S))) target := by
  subst hv hp; exact XS.isub h hx rfl hd rfl hr
theorem own_s_lsub (h : At T m c below) (hx : tb.exec = Jvm.exec) {x y v : Int64} (hd : decode c.code pc = .ok (.lsub, 1)) (hp : pc + 1 = pc') (hv : x - y = v)
    (hr : Steps tb e below (T.setTop (mkF m pc' L (.long v :: S))) target) : Steps tb e below (T.setTop (mkF m pc L (.long y :: .long x :: S))) target := by
  subst hv hp; exact XS.lsub h hx rfl hd rfl hr
theorem own_s_imul (h : At T m c below) (hx : tb.exec = Jvm.exec) {x y v : Int32} (hd : decode c.code pc = .ok (.imul, 1)) (hp : pc + 1 = pc') (hv : x * y = v)
    (hr : Steps tb e below (T.setTop (mkF m pc' L (.int v :: S))) target) : Steps tb e below (T.setTop (mkF m pc L (.int y :: .int x :: S))) target := by
  subst hv hp; exact XS.imul h hx rfl hd rfl hr
theorem own_s_lmul (h : At T m c below) (hx : tb.exec = Jvm.exec) {x y v : Int64} (hd : decode c.code pc = .ok (.lmul, 1)) (hp : pc + 1 = pc') (hv : x * y = v)
    (hr : Steps tb e below (T.setTop (mkF m pc' L (.long v :: S))) target) : Steps tb e below (T.setTop (mkF m pc L (.long y :: .long x :: S))) target := by
  subst hv hp; exact XS.lmul h hx rfl hd rfl hr
theorem own_s_iand (h : At T m c below) (hx : tb.exec = Jvm.exec) {x y v : Int32} (hd : decode c.code pc = .ok (.iand, 1)) (hp : pc + 1 = pc') (hv : x &&& y = v)
    (hr : Steps tb e below (T.setTop (mkF m pc' L (.int v :: S))) target) : Steps tb e below (T.setTop (mkF m pc L (.int y :: .int x :: S))) target := by
  subst hv hp; exact XS.iand h hx rfl hd rfl hr
theorem own_s_land (h : At T m c below) (hx : tb.exec = Jvm.exec) {x y v : Int64} (hd : decode c.code pc = .ok (.land, 1)) (hp : pc + 1 = pc') (hv : x &&& y = v)
    (hr : Steps tb e below (T.setTop (mkF m pc' L (.long v :: S))) target) : Steps tb e below (T.setTop (mkF m pc L (.long y :: .long x :: S))) target := by
  subst hv hp; exact XS.land h hx rfl hd rfl hr
theorem own_s_ior (h : At T m c below) (hx : tb.exec = Jvm.exec) {x y v : Int32} (hd : decode c.code pc = .ok (.ior, 1)) (hp : pc + 1 = pc') (hv : x ||| y = v)
    (hr : Steps tb e below (T.setTop (mkF m pc' L (.int v :: S))) target) : Steps tb e below (T.setTop (mkF m pc L (.int y :: .int x :: S))) target := by
  subst hv hp; exact XS.ior h hx rfl hd rfl hr
theorem own_s_lor (h : At T m c below) (hx : tb.exec = Jvm.exec) {x y v : Int64} (hd : decode c.code pc = .ok (.lor, 1)) (hp : pc + 1 = pc') (hv : x ||| y = v)
    (hr : Steps tb e below (T.setTop (mkF m pc' L (.long v :: S))) target) : Steps tb e below (T.setTop (mkF m pc L (.long y :: .long x :: S))) target := by
  subst hv hp; exact XS.lor h hx rfl hd rfl hr
theorem own_s_ixor (h : At T m c below) (hx : tb.exec = Jvm.exec) {x y v : Int32} (hd : decode c.code pc = .ok (.ixor, 1)) (hp : pc + 1 = pc') (hv : x ^^^ y = v)
    (hr : Steps tb e below (T.setTop (mkF m pc' L (.int v :: S))) target) : Steps tb e below (T.setTop (mkF m pc L (.int y :: .int x :: S))) target := by
  subst hv hp; exact XS.ixor h hx rfl hd rfl hr
theorem own_s_lxor (h : At T m c below) (hx : tb.exec = Jvm.exec) {x y v : Int64} (hd : decode c.code pc = .ok (.lxor, 1)) (hp : pc + 1 = pc') (hv : x ^^^ y = v)
    (hr : Steps tb e below (T.setTop (mkF m pc' L (.long v :: S))) target) : Steps tb e below (T.setTop (mkF m pc L (.long y :: .long x :: S))) target := by
  subst hv hp; exact XS.lxor h hx rfl hd rfl hr
theorem own_s_idiv (h : At T m c below) (hx : tb.exec = Jvm.exec) {x y v : Int32} (hd : decode c.code pc = .ok (.idiv, 1)) (hp : pc + 1 = pc') (hy : y ≠ 0) (hv : x / y = v)
    (hr : Steps tb e below (T.setTop (mkF m pc' L (.int v :: S))) target) : Steps tb e below (T.setTop (mkF m pc L (.int y :: .int x :: S))) target := by
  subst hv hp; exact XS.idiv h hx rfl hd rfl hy hr
theorem own_s_irem (h : At T m c below) (hx : tb.exec = Jvm.exec) {x y v : Int32} (hd : decode c.code pc = .ok (.irem, 1)) (hp : pc + 1 = pc') (hy : y ≠ 0) (hv : x % y = v)
    (hr : Steps tb e below (T.setTop (mkF m pc' L (.int v :: S))) target) : Steps tb e below (T.setTop (mkF m pc L (.int y :: .int x :: S))) target := by
  subst hv hp; rw [← irem_eq_mod] at hr; exact XS.irem h hx rfl hd rfl hy hr
theorem own_s_ldiv (h : At T m c below) (hx : tb.exec = Jvm.exec) {x y v : Int64} (hd : decode c.code pc = .ok (.ldiv, 1)) (hp : pc + 1 = pc') (hy : y ≠ 0) (hv : x / y = v)
    (hr : Steps tb e below (T.setTop (mkF m pc' L (.long v :: S))) target) : Steps tb e below (T.setTop (mkF m pc L (.long y :: .long x :: S))) target := by
  subst hv hp; exact XS.ldiv h hx rfl hd rfl hy hr
theorem own_s_lrem (h : At T m c below) (hx : tb.exec = Jvm.exec) {x y v : Int64} (hd : decode c.code pc = .ok (.lrem, 1)) (hp : pc + 1 = pc') (hy : y ≠ 0) (hv : x % y = v)
    (hr : Steps tb e below (T.setTop (mkF m pc' L (.long v :: S))) target) : Steps tb e below (T.setTop (mkF m pc L (.long y :: .long x :: S))) target := by
  subst hv hp; rw [← lrem_mod] at hr; exact XS.lrem h hx rfl hd rfl hy hr
theorem own_s_ishl (h : At T m c below) (hx : tb.exec = Jvm.exec) {x y v : Int32} (hd : decode c.code pc = .ok (.ishl, 1)) (hp : pc + 1 = pc') (hv : x <<< (y &&& 31) = v)
    (hr : Steps tb e below (T.setTop (mkF m pc' L (.int v :: S))) target) : Steps tb e below (T.setTop (mkF m pc L (.int y :: .int x :: S))) target := by
  subst hv hp; exact XS.ishl h hx rfl hd rfl hr
theorem own_s_ishr (h : At T m c below) (hx : tb.exec = Jvm.exec) {x y v : Int32} (hd : decode c.code pc = .ok (.ishr, 1)) (hp : pc + 1 = pc') (hv : x >>> (y &&& 31) = v)
    (hr : Steps tb e below (T.setTop (mkF m pc' L (.int v :: S))) target) : Steps tb e below (T.setTop (mkF m pc L (.int y :: .int x :: S))) target := by
  subst hv hp; exact XS.ishr h hx rfl hd rfl hr
theorem own_s_iushr (h : At T m c below) (hx : tb.exec = Jvm.exec) {x y v : Int32} (hd : decode c.code pc = .ok (.iushr, 1)) (hp : pc + 1 = pc') (hv : (x.toUInt32 >>> (y &&& 31).toUInt32).toInt32 = v)
    (hr : Steps tb e below (T.setTop (mkF m pc' L (.int v :: S))) target) : Steps tb e below (T.setTop (mkF m pc L (.int y :: .int x :: S))) target := by
  subst hv hp; exact XS.iushr h hx rfl hd rfl hr
theorem own_s_lshl (h : At T m c below) (hx : tb.exec = Jvm.exec) {x v : Int64} {y : Int32} (hd : decode c.code pc = .ok (.lshl, 1)) (hp : pc + 1 = pc') (hv : x <<< (y &&& 63).toInt64 = v)
    (hr : Steps tb e below (T.setTop (mkF m pc' L (.long v :: S))) target) : Steps tb e below (T.setTop (mkF m pc L (.int y :: .long x :: S))) target := by
  subst hv hp; exact XS.lshl h hx rfl hd rfl hr
theorem own_s_lshr (h : At T m c below) (hx : tb.exec = Jvm.exec) {x v : Int64} {y : Int32} (hd : decode c.code pc = .ok (.lshr, 1)) (hp : pc + 1 = pc') (hv : x >>> (y &&& 63).toInt64 = v)
    (hr : Steps tb e below (T.setTop (mkF m pc' L (.long v :: S))) target) : Steps tb e below (T.setTop (mkF m pc L (.int y :: .long x :: S))) target := by
  subst hv hp; exact XS.lshr h hx rfl hd rfl hr
theorem own_s_lushr (h : At T m c below) (hx : tb.exec = Jvm.exec) {x v : Int64} {y : Int32} (hd : decode c.code pc = .ok (.lushr, 1)) (hp : pc + 1 = pc') (hv : (x.toUInt64 >>> (y &&& 63).toInt64.toUInt64).toInt64 = v)
    (hr : Steps tb e below (T.setTop (mkF m pc' L (.long v :: S))) target) : Steps tb e below (T.setTop (mkF m pc L (.int y :: .long x :: S))) target := by
  subst hv hp; exact XS.lushr h hx rfl hd rfl hr
theorem own_s_i2l (h : At T m c below) (hx : tb.exec = Jvm.exec) {x : Int32} {v : Int64} (hd : decode c.code pc = .ok (.i2l, 1)) (hp : pc + 1 = pc') (hv : x.toInt64 = v)
    (hr : Steps tb e below (T.setTop (mkF m pc' L (.long v :: S))) target) : Steps tb e below (T.setTop (mkF m pc L (.int x :: S))) target := by
  subst hv hp; exact XS.i2l h hx rfl hd rfl hr
theorem own_s_l2i (h : At T m c below) (hx : tb.exec = Jvm.exec) {x : Int64} {v : Int32} (hd : decode c.code pc = .ok (.l2i, 1)) (hp : pc + 1 = pc') (hv : x.toInt32 = v)
    (hr : Steps tb e below (T.setTop (mkF m pc' L (.int v :: S))) target) : Steps tb e below (T.setTop (mkF m pc L (.long x :: S))) target := by
  subst hv hp; exact XS.l2i h hx rfl hd rfl hr
theorem own_s_i2b (h : At T m c below) (hx : tb.exec = Jvm.exec) {x : Int32} {v : Int32} (hd : decode c.code pc = .ok (.i2b, 1)) (hp : pc + 1 = pc') (hv : x.toInt8.toInt32 = v)
    (hr : Steps tb e below (T.setTop (mkF m pc' L (.int v :: S))) target) : Steps tb e below (T.setTop (mkF m pc L (.int x :: S))) target := by
  subst hv hp; exact XS.i2b h hx rfl hd rfl hr
theorem own_s_i2s (h : At T m c below) (hx : tb.exec = Jvm.exec) {x : Int32} {v : Int32} (hd : decode c.code pc = .ok (.i2s, 1)) (hp : pc + 1 = pc') (hv : x.toInt16.toInt32 = v)
    (hr : Steps tb e below (T.setTop (mkF m pc' L (.int v :: S))) target) : Steps tb e below (T.setTop (mkF m pc L (.int x :: S))) target := by
  subst hv hp; exact XS.i2s h hx rfl hd rfl hr
theorem own_s_ineg (h : At T m c below) (hx : tb.exec = Jvm.exec) {x : Int32} {v : Int32} (hd : decode c.code pc = .ok (.ineg, 1)) (hp : pc + 1 = pc') (hv : -x = v)
    (hr : Steps tb e below (T.setTop (mkF m pc' L (.int v :: S))) target) : Steps tb e below (T.setTop (mkF m pc L (.int x :: S))) target := by
  subst hv hp; exact XS.ineg h hx rfl hd rfl hr
theorem own_s_lneg (h : At T m c below) (hx : tb.exec = Jvm.exec) {x : Int64} {v : Int64} (hd : decode c.code pc = .ok (.lneg, 1)) (hp : pc + 1 = pc') (hv : -x = v)
    (hr : Steps tb e below (T.setTop (mkF m pc' L (.long v :: S))) target) : Steps tb e below (T.setTop (mkF m pc L (.long x :: S))) target := by
  subst hv hp; exact XS.lneg h hx rfl hd rfl hr
theorem own_s_i2d (h : At T m c below) (hx : tb.exec = Jvm.exec) {x : Int32} {v : UInt64} (hd : decode c.code pc = .ok (.i2d, 1)) (hp : pc + 1 = pc') (hv : FP.i2d x = v)
    (hr : Steps tb e below (T.setTop (mkF m pc' L (.double v :: S))) target) : Steps tb e below (T.setTop (mkF m pc L (.int x :: S))) target := by
  subst hv hp; exact XS.i2dS h hx rfl hd rfl rfl hr
theorem own_s_l2d (h : At T m c below) (hx : tb.exec = Jvm.exec) {x : Int64} {v : UInt64} (hd : decode c.code pc = .ok (.l2d, 1)) (hp : pc + 1 = pc') (hv : FP.l2d x = v)
    (hr : Steps tb e below (T.setTop (mkF m pc' L (.double v :: S))) target) : Steps tb e below (T.setTop (mkF m pc L (.long x :: S))) target := by
  subst hv hp; exact XS.l2dS h hx rfl hd rfl rfl hr
theorem own_s_dneg (h : At T m c below) (hx : tb.exec = Jvm.exec) {x : UInt64} {v : UInt64} (hd : decode c.code pc = .ok (.dneg, 1)) (hp : pc + 1 = pc') (hv : FP.dneg x = v)
    (hr : Steps tb e below (T.setTop (mkF m pc' L (.double v :: S))) target) : Steps tb e below (T.setTop (mkF m pc L (.double x :: S))) target := by
  subst hv hp; exact XS.dnegS h hx rfl hd rfl rfl hr
theorem own_s_dadd (h : At T m c below) (hx : tb.exec = Jvm.exec) {x y v : UInt64} (hd : decode c.code pc = .ok (.dadd, 1)) (hp : pc + 1 = pc') (hn : Jvm.Free.Fl.NoNaN64 (FP.dadd x y)) (hv : FP.dadd x y = v)
    (hr : Steps tb e below (T.setTop (mkF m pc' L (.double v :: S))) target) : Steps tb e below (T.setTop (mkF m pc L (.double y :: .double x :: S))) target := by
  subst hv hp; exact XS.daddS h hx rfl hd rfl hn rfl hr
theorem own_s_dsub (h : At T m c below) (hx : tb.exec = Jvm.exec) {x y v : UInt64} (hd : decode c.code pc = .ok (.dsub, 1)) (hp : pc + 1 = pc') (hn : Jvm.Free.Fl.NoNaN64 (FP.dsub x y)) (hv : FP.dsub x y = v)
    (hr : Steps tb e below (T.setTop (mkF m pc' L (.double v :: S))) target) : Steps tb e below (T.setTop (mkF m pc L (.double y :: .double x :: S))) target := by
  subst hv hp; exact XS.dsubS h hx rfl hd rfl hn rfl hr
theorem own_s_dmul (h : At T m c below) (hx : tb.exec = Jvm.exec) {x y v : UInt64} (hd : decode c.code pc = .ok (.dmul, 1)) (hp : pc + 1 = pc') (hn : Jvm.Free.Fl.NoNaN64 (FP.dmul x y)) (hv : FP.dmul x y = v)
    (hr : Steps tb e below (T.setTop (mkF m pc' L (.double v :: S))) target) : Steps tb e below (T.setTop (mkF m pc L (.double y :: .double x :: S))) target := by
  subst hv hp; exact XS.dmulS h hx rfl hd rfl hn rfl hr
theorem own_s_ddiv (h : At T m c below) (hx : tb.exec = Jvm.exec) {x y v : UInt64} (hd : decode c.code pc = .ok (.ddiv, 1)) (hp : pc + 1 = pc') (hn : Jvm.Free.Fl.NoNaN64 (FP.ddiv x y)) (hv : FP.ddiv x y = v)
    (hr : Steps tb e below (T.setTop (mkF m pc' L (.double v :: S))) target) : Steps tb e below (T.setTop (mkF m pc L (.double y :: .double x :: S))) target := by
  subst hv hp; exact XS.ddivS h hx rfl hd rfl hn rfl hr
theorem own_s_dcmp (h : At T m c below) (hx : tb.exec = Jvm.exec) {o : CmpOp} {x y : UInt64} {v : Int32} (hd : decode c.code pc = .ok (.dcmp o, 1)) (hp : pc + 1 = pc') (hv : Op.cmpValue (FP.dcmp x y) o = v)
    (hr : Steps tb e below (T.setTop (mkF m pc' L (.int v :: S))) target) : Steps tb e below (T.setTop (mkF m pc L (.double y :: .double x :: S))) target := by
  subst hv hp; exact XS.dcmpS h hx rfl hd rfl rfl hr
theorem own_s_lcmp (h : At T m c below) (hx : tb.exec = Jvm.exec) {x y : Int64} {v : Int32} (hd : decode c.code pc = .ok (.lcmp, 1)) (hp : pc + 1 = pc') (hv : lcmpW x y = v)
    (hr : Steps tb e below (T.setTop (mkF m pc' L (.int v :: S))) target) : Steps tb e below (T.setTop (mkF m pc L (.long y :: .long x :: S))) target := by
  subst hv hp; exact XS.lcmp h hx rfl hd rfl hr
theorem own_s_iconst (h : At T m c below) (hx : tb.exec = Jvm.exec) {i : Int} {v : Int32} (hd : decode c.code pc = .ok (.iconst i, 1)) (hp : pc + 1 = pc') (hv : Int32.ofInt i = v)
    (hr : Steps tb e below (T.setTop (mkF m pc' L (.int v :: S))) target) : Steps tb e below (T.setTop (mkF m pc L S)) target := by
  subst hv hp; exact XS.iconst h hx rfl hd hr
theorem own_s_bipush (h : At T m c below) (hx : tb.exec = Jvm.exec) {i : Int} {v : Int32} (hd : decode c.code pc = .ok (.bipush i, 2)) (hp : pc + 2 = pc') (hv : (Int8.ofInt i).toInt32 = v)
    (hr : Steps tb e below (T.setTop (mkF m pc' L (.int v :: S))) target) : Steps tb e below (T.setTop (mkF m pc L S)) target := by
  subst hv hp; exact XS.bipush h hx rfl hd hr
theorem own_s_sipush (h : At T m c below) (hx : tb.exec = Jvm.exec) {i : Int} {v : Int32} (hd : decode c.code pc = .ok (.sipush i, 3)) (hp : pc + 3 = pc') (hv : (Int16.ofInt i).toInt32 = v)
    (hr : Steps tb e below (T.setTop (mkF m pc' L (.int v :: S))) target) : Steps tb e below (T.setTop (mkF m pc L S)) target := by
  subst hv hp; exact XS.sipush h hx rfl hd hr
theorem own_s_lconst (h : At T m c below) (hx : tb.exec = Jvm.exec) {k : Fin 2} {v : Int64} (hd : decode c.code pc = .ok (.lconst k, 1)) (hp : pc + 1 = pc') (hv : Int64.ofNat k = v)
    (hr : Steps tb e below (T.setTop (mkF m pc' L (.long v :: S))) target) : Steps tb e below (T.setTop (mkF m pc L S)) target := by
  subst hv hp; exact XS.lconst h hx rfl hd hr
theorem own_s_dconst0 (h : At T m c below) (hx : tb.exec = Jvm.exec)  (hd : decode c.code pc = .ok (.dconst 0, 1)) (hp : pc + 1 = pc') 
    (hr : Steps tb e below (T.setTop (mkF m pc' L (.double 0 :: S))) target) : Steps tb e below (T.setTop (mkF m pc L S)) target := by
  subst hp; exact XS.dconst0 h hx rfl hd rfl hr
theorem own_s_dconst1 (h : At T m c below) (hx : tb.exec = Jvm.exec)  (hd : decode c.code pc = .ok (.dconst 1, 1)) (hp : pc + 1 = pc') 
    (hr : Steps tb e below (T.setTop (mkF m pc' L (.double 4607182418800017408 :: S))) target) : Steps tb e below (T.setTop (mkF m pc L S)) target := by
  subst hp; exact XS.dconst1 h hx rfl hd rfl hr
theorem own_s_aconst_null (h : At T m c below) (hx : tb.exec = Jvm.exec)  (hd : decode c.code pc = .ok (.aconst_null, 1)) (hp : pc + 1 = pc') 
    (hr : Steps tb e below (T.setTop (mkF m pc' L (.null :: S))) target) : Steps tb e below (T.setTop (mkF m pc L S)) target := by
  subst hp; exact XS.aconstNull h hx rfl hd hr
theorem own_s_dup (h : At T m c below) (hx : tb.exec = Jvm.exec) {x : Value} (hd : decode c.code pc = .ok (.dup, 1)) (hp : pc + 1 = pc') (hc : x.category = 1)
    (hr : Steps tb e below (T.setTop (mkF m pc' L (x :: x :: S))) target) : Steps tb e below (T.setTop (mkF m pc L (x :: S))) target := by
  subst hp; exact XS.dup h hx rfl hd rfl hc hr
theorem own_s_dupX1 (h : At T m c below) (hx : tb.exec = Jvm.exec) {x y : Value} (hd : decode c.code pc = .ok (.dup_x1, 1)) (hp : pc + 1 = pc') (hc : x.category = 1) (hc' : y.category = 1)
    (hr : Steps tb e below (T.setTop (mkF m pc' L (x :: y :: x :: S))) target) : Steps tb e below (T.setTop (mkF m pc L (x :: y :: S))) target := by
  subst hp; exact XS.dupX1 h hx rfl hd rfl hc hc' hr
theorem own_s_pop (h : At T m c below) (hx : tb.exec = Jvm.exec) {x : Value} (hd : decode c.code pc = .ok (.pop, 1)) (hp : pc + 1 = pc') (hc : x.category = 1)
    (hr : Steps tb e below (T.setTop (mkF m pc' L S)) target) : Steps tb e below (T.setTop (mkF m pc L (x :: S))) target := by
  subst hp; exact XS.pop h hx rfl hd rfl hc hr
theorem own_s_iloadN (h : At T m c below) (hx : tb.exec = Jvm.exec) {k : Fin 4} {v : Int32} (hd : decode c.code pc = .ok (.iload_n k, 1)) (hp : pc + 1 = pc') (hl : L[k.val]? = some (.val (.int v)))
    (hr : Steps tb e below (T.setTop (mkF m pc' L (.int v :: S))) target) : Steps tb e below (T.setTop (mkF m pc L S)) target := by
  subst hp; exact XS.iloadN h hx rfl hd hl hr
theorem own_s_iload (h : At T m c below) (hx : tb.exec = Jvm.exec) {k : Nat} {v : Int32} (hd : decode c.code pc = .ok (.iload k, 2)) (hp : pc + 2 = pc') (hl : L[k]? = some (.val (.int v)))
    (hr : Steps tb e below (T.setTop (mkF m pc' L (.int v :: S))) target) : Steps tb e below (T.setTop (mkF m pc L S)) target := by
  subst hp; exact XS.iload h hx rfl hd hl hr
theorem own_s_istoreN (h : At T m c below) (hx : tb.exec = Jvm.exec) {k : Fin 4} {v : Int32} {L' : Array Slot} (hd : decode c.code pc = .ok (.istore_n k, 1)) (hp : pc + 1 = pc') (hl : storeLocals L k.val (.int v) = some L')
    (hr : Steps tb e below (T.setTop (mkF m pc' L' S)) target) : Steps tb e below (T.setTop (mkF m pc L (.int v :: S))) target := by
  subst hp; exact XS.istoreN h hx rfl hd rfl hl hr
theorem own_s_istore (h : At T m c below) (hx : tb.exec = Jvm.exec) {k : Nat} {v : Int32} {L' : Array Slot} (hd : decode c.code pc = .ok (.istore k, 2)) (hp : pc + 2 = pc') (hl : storeLocals L k (.int v) = some L')
    (hr : Steps tb e below (T.setTop (mkF m pc' L' S)) target) : Steps tb e below (T.setTop (mkF m pc L (.int v :: S))) target := by
  subst hp; exact XS.istore h hx rfl hd rfl hl hr
theorem own_s_lloadN (h : At T m c below) (hx : tb.exec = Jvm.exec) {k : Fin 4} {v : Int64} (hd : decode c.code pc = .ok (.lload_n k, 1)) (hp : pc + 1 = pc') (hl : L[k.val]? = some (.val (.long v)))
    (hr : Steps tb e below (T.setTop (mkF m pc' L (.long v :: S))) target) : Steps tb e below (T.setTop (mkF m pc L S)) target := by
  subst hp; exact XS.lloadN h hx rfl hd hl hr
theorem own_s_lload (h : At T m c below) (hx : tb.exec = Jvm.exec) {k : Nat} {v : Int64} (hd : decode c.code pc = .ok (.lload k, 2)) (hp : pc + 2 = pc') (hl : L[k]? = some (.val (.long v)))
    (hr : Steps tb e below (T.setTop (mkF m pc' L (.long v :: S))) target) : Steps tb e below (T.setTop (mkF m pc L S)) target := by
  subst hp; exact XS.lload h hx rfl hd hl hr
theorem own_s_lstoreN (h : At T m c below) (hx : tb.exec = Jvm.exec) {k : Fin 4} {v : Int64} {L' : Array Slot} (hd : decode c.code pc = .ok (.lstore_n k, 1)) (hp : pc + 1 = pc') (hl : storeLocals L k.val (.long v) = some L')
    (hr : Steps tb e below (T.setTop (mkF m pc' L' S)) target) : Steps tb e below (T.setTop (mkF m pc L (.long v :: S))) target := by
  subst hp; exact XS.lstoreN h hx rfl hd rfl hl hr
theorem own_s_lstore (h : At T m c below) (hx : tb.exec = Jvm.exec) {k : Nat} {v : Int64} {L' : Array Slot} (hd : decode c.code pc = .ok (.lstore k, 2)) (hp : pc + 2 = pc') (hl : storeLocals L k (.long v) = some L')
    (hr : Steps tb e below (T.setTop (mkF m pc' L' S)) target) : Steps tb e below (T.setTop (mkF m pc L (.long v :: S))) target := by
  subst hp; exact XS.lstore h hx rfl hd rfl hl hr
theorem own_s_dloadN (h : At T m c below) (hx : tb.exec = Jvm.exec) {k : Fin 4} {v : UInt64} (hd : decode c.code pc = .ok (.dload_n k, 1)) (hp : pc + 1 = pc') (hl : L[k.val]? = some (.val (.double v)))
    (hr : Steps tb e below (T.setTop (mkF m pc' L (.double v :: S))) target) : Steps tb e below (T.setTop (mkF m pc L S)) target := by
  subst hp; exact XS.dloadN h hx rfl hd hl hr
theorem own_s_dload (h : At T m c below) (hx : tb.exec = Jvm.exec) {k : Nat} {v : UInt64} (hd : decode c.code pc = .ok (.dload k, 2)) (hp : pc + 2 = pc') (hl : L[k]? = some (.val (.double v)))
    (hr : Steps tb e below (T.setTop (mkF m pc' L (.double v :: S))) target) : Steps tb e below (T.setTop (mkF m pc L S)) target := by
  subst hp; exact XS.dload h hx rfl hd hl hr
theorem own_s_dstoreN (h : At T m c below) (hx : tb.exec = Jvm.exec) {k : Fin 4} {v : UInt64} {L' : Array Slot} (hd : decode c.code pc = .ok (.dstore_n k, 1)) (hp : pc + 1 = pc') (hl : storeLocals L k.val (.double v) = some L')
    (hr : Steps tb e below (T.setTop (mkF m pc' L' S)) target) : Steps tb e below (T.setTop (mkF m pc L (.double v :: S))) target := by
  subst hp; exact XS.dstoreN h hx rfl hd rfl hl hr
theorem own_s_dstore (h : At T m c below) (hx : tb.exec = Jvm.exec) {k : Nat} {v : UInt64} {L' : Array Slot} (hd : decode c.code pc = .ok (.dstore k, 2)) (hp : pc + 2 = pc') (hl : storeLocals L k (.double v) = some L')
    (hr : Steps tb e below (T.setTop (mkF m pc' L' S)) target) : Steps tb e below (T.setTop (mkF m pc L (.double v :: S))) target := by
  subst hp; exact XS.dstore h hx rfl hd rfl hl hr
theorem own_s_aloadN (h : At T m c below) (hx : tb.exec = Jvm.exec) {k : Fin 4} {v : Value} (hd : decode c.code pc = .ok (.aload_n k, 1)) (hp : pc + 1 = pc') (hl : L[k.val]? = some (.val v)) (hr0 : v.isRef = true)
    (hr : Steps tb e below (T.setTop (mkF m pc' L (v :: S))) target) : Steps tb e below (T.setTop (mkF m pc L S)) target := by
  subst hp; exact XS.aloadN h hx rfl hd hl hr0 hr
theorem own_s_aload (h : At T m c below) (hx : tb.exec = Jvm.exec) {k : Nat} {v : Value} (hd : decode c.code pc = .ok (.aload k, 2)) (hp : pc + 2 = pc') (hl : L[k]? = some (.val v)) (hr0 : v.isRef = true)
    (hr : Steps tb e below (T.setTop (mkF m pc' L (v :: S))) target) : Steps tb e below (T.setTop (mkF m pc L S)) target := by
  subst hp; exact XS.aload h hx rfl hd hl hr0 hr
theorem own_s_astoreN (h : At T m c below) (hx : tb.exec = Jvm.exec) {k : Fin 4} {v : Value} {L' : Array Slot} (hd : decode c.code pc = .ok (.astore_n k, 1)) (hp : pc + 1 = pc') (hr0 : v.isRef = true) (hl : storeLocals L k.val v = some L')
    (hr : Steps tb e below (T.setTop (mkF m pc' L' S)) target) : Steps tb e below (T.setTop (mkF m pc L (v :: S))) target := by
  subst hp; exact XS.astoreN h hx rfl hd rfl hr0 hl hr
theorem own_s_astore (h : At T m c below) (hx : tb.exec = Jvm.exec) {k : Nat} {v : Value} {L' : Array Slot} (hd : decode c.code pc = .ok (.astore k, 2)) (hp : pc + 2 = pc') (hr0 : v.isRef = true) (hl : storeLocals L k v = some L')
    (hr : Steps tb e below (T.setTop (mkF m pc' L' S)) target) : Steps tb e below (T.setTop (mkF m pc L (v :: S))) target := by
  subst hp; exact XS.astore h hx rfl hd rfl hr0 hl hr
theorem own_s_iinc (h : At T m c below) (hx : tb.exec = Jvm.exec) {k : Nat} {cst : Int} {x v : Int32} {L' : Array Slot} (hd : decode c.code pc = .ok (.iinc k cst, 3)) (hp : pc + 3 = pc') (hl : L[k]? = some (.val (.int x))) (hv : x + Int32.ofInt cst = v) (hl' : storeLocals L k (.int v) = some L')
    (hr : Steps tb e below (T.setTop (mkF m pc' L' S)) target) : Steps tb e below (T.setTop (mkF m pc L S)) target := by
  subst hv hp; exact XS.iinc h hx rfl hd hl hl' hr
theorem own_s_goto (h : At T m c below) (hx : tb.exec = Jvm.exec)  {o : Int} (hd : decode c.code pc = .ok (.goto o, 3)) (ho : 0 ≤ (pc : Int) + o) (hp : ((pc : Int) + o).toNat = pc') 
    (hr : Steps tb e below (T.setTop (mkF m pc' L S)) target) : Steps tb e below (T.setTop (mkF m pc L S)) target := by
  exact XS.goto h hx rfl rfl hd ho hp hr
theorem own_s_ifYes (h : At T m c below) (hx : tb.exec = Jvm.exec) {cd : ClassFile.Cond} {x : Int32} {o : Int} (hd : decode c.code pc = .ok (.ifCond cd o, 3)) (ho : 0 ≤ (pc : Int) + o) (hp : ((pc : Int) + o).toNat = pc') (hc : ifCond.holds cd x = true)
    (hr : Steps tb e below (T.setTop (mkF m pc' L S)) target) : Steps tb e below (T.setTop (mkF m pc L (.int x :: S))) target := by
  exact XS.ifYes h hx rfl rfl hd rfl hc ho hp hr
theorem own_s_icmpYes (h : At T m c below) (hx : tb.exec = Jvm.exec) {cd : ClassFile.Cond} {x y : Int32} {o : Int} (hd : decode c.code pc = .ok (.if_icmp cd o, 3)) (ho : 0 ≤ (pc : Int) + o) (hp : ((pc : Int) + o).toNat = pc') (hc : if_icmp.holds cd x y = true)
    (hr : Steps tb e below (T.setTop (mkF m pc' L S)) target) : Steps tb e below (T.setTop (mkF m pc L (.int y :: .int x :: S))) target := by
  exact XS.icmpYes h hx rfl rfl hd rfl hc ho hp hr
theorem own_s_ifNo (h : At T m c below) (hx : tb.exec = Jvm.exec) {cd : ClassFile.Cond} {o : Int} {x : Int32} (hd : decode c.code pc = .ok (.ifCond cd o, 3)) (hp : pc + 3 = pc') (hc : ifCond.holds cd x = false)
    (hr : Steps tb e below (T.setTop (mkF m pc' L S)) target) : Steps tb e below (T.setTop (mkF m pc L (.int x :: S))) target := by
  subst hp; exact XS.ifNo h hx rfl hd rfl hc hr
theorem own_s_icmpNo (h : At T m c below) (hx : tb.exec = Jvm.exec) {cd : ClassFile.Cond} {o : Int} {x y : Int32} (hd : decode c.code pc = .ok (.if_icmp cd o, 3)) (hp : pc + 3 = pc') (hc : if_icmp.holds cd x y = false)
    (hr : Steps tb e below (T.setTop (mkF m pc' L S)) target) : Steps tb e below (T.setTop (mkF m pc L (.int y :: .int x :: S))) target := by
  subst hp; exact XS.icmpNo h hx rfl hd rfl hc hr
theorem own_s_ifnullYes (h : At T m c below) (hx : tb.exec = Jvm.exec)  {o : Int} (hd : decode c.code pc = .ok (.ifnull o, 3)) (ho : 0 ≤ (pc : Int) + o) (hp : ((pc : Int) + o).toNat = pc') 
    (hr : Steps tb e below (T.setTop (mkF m pc' L S)) target) : Steps tb e below (T.setTop (mkF m pc L (.null :: S))) target := by
  exact XS.ifnullYes h hx rfl rfl hd rfl ho hp hr
theorem own_s_ifnullNo (h : At T m c below) (hx : tb.exec = Jvm.exec) {o : Int} {b : Addr} (hd : decode c.code pc = .ok (.ifnull o, 3)) (hp : pc + 3 = pc') 
    (hr : Steps tb e below (T.setTop (mkF m pc' L S)) target) : Steps tb e below (T.setTop (mkF m pc L (.ref b :: S))) target := by
  subst hp; exact XS.ifnullNo h hx rfl hd rfl hr
theorem own_s_ifnonnullYes (h : At T m c below) (hx : tb.exec = Jvm.exec) {b : Addr} {o : Int} (hd : decode c.code pc = .ok (.ifnonnull o, 3)) (ho : 0 ≤ (pc : Int) + o) (hp : ((pc : Int) + o).toNat = pc') 
    (hr : Steps tb e below (T.setTop (mkF m pc' L S)) target) : Steps tb e below (T.setTop (mkF m pc L (.ref b :: S))) target := by
  exact XS.ifnonnullYes h hx rfl rfl hd rfl ho hp hr
theorem own_s_ifnonnullNo (h : At T m c below) (hx : tb.exec = Jvm.exec) {o : Int} (hd : decode c.code pc = .ok (.ifnonnull o, 3)) (hp : pc + 3 = pc') 
    (hr : Steps tb e below (T.setTop (mkF m pc' L S)) target) : Steps tb e below (T.setTop (mkF m pc L (.null :: S))) target := by
  subst hp; exact XS.ifnonnullNo h hx rfl hd rfl hr
end OwnStep
section OwnHeap
open Jvm Jvm.ClassFile Sem Op Lib Jvm.Free Jvm.Stand Jvm.LawKit Jvm.RoadKit
variable {p : Program} {l : Launch} {e : Env} {R : Room} {s : State} {m : MethodId} {args : Array Value} {below : List Frame} {meth : Method} {c : Code} {T : State} {locs : List Loc} {cells slots : Nat} {Z : State} {a0 : Array Value} {h : Heap} {pc pc' : Nat} {L : Array Slot} {S : List Value} {a : Addr} {k : ClassId} {z : Int32} {vs : List Value} {dv : Value}
theorem own_newD (X : Stand p l e R s m args below meth c T locs cells slots) (hx : p.tables.exec = Jvm.exec) (hZ : Z.Warmed39 s.vm) (w : (Jvm.Cond.arrayClass .double).before a0 Z = true) (eT : T.heap = h) (n : Nat) (hz : z.toNatClampNeg = n) (hz0 : ¬ z < 0) (hb : n * 8 ≤ 536870912) (hc : cells + 1 ≤ R.cells) (hl : slots + n ≤ R.slots) (hd : decode c.code pc = .ok (.newarray .double, 2)) (hp : pc + 2 = pc') :
    ∃ T' h' k b, Stand p l e R s m args below meth c T' locs (cells + 1) (slots + n) ∧ T'.heap = h' ∧ Ext h h' ∧ b = h.size ∧ Arv Z h' b k .double z (List.replicate n (.double 0)) (.double 0) ∧ ∀ target, Steps p.tables e below (T'.setTop (mkF m pc' L (.ref b :: S))) target → Steps p.tables e below (T.setTop (mkF m pc L (.int z :: S))) target := by
  subst hp
  obtain ⟨T', h', k, X', e', E, A, st⟩ := newP X hx hZ (aty := .double) w eT (g := mkF m pc L (.int z :: S)) rfl hd rfl hz0 (cap := n) (Nat.le_of_eq hz) hb hc hl
  exact ⟨T', h', k, h.size, X', e', E, rfl, (Arv.new A hz0).pad (pad_rep [] (.double 0) n), st⟩
theorem own_newJ (X : Stand p l e R s m args below meth c T locs cells slots) (hx : p.tables.exec = Jvm.exec) (hZ : Z.Warmed39 s.vm) (w : (Jvm.Cond.arrayClass .long).before a0 Z = true) (eT : T.heap = h) (n : Nat) (hz : z.toNatClampNeg = n) (hz0 : ¬ z < 0) (hb : n * 8 ≤ 536870912) (hc : cells + 1 ≤ R.cells) (hl : slots + n ≤ R.slots) (hd : decode c.code pc = .ok (.newarray .long, 2)) (hp : pc + 2 = pc') :
    ∃ T' h' k b, Stand p l e R s m args below meth c T' locs (cells + 1) (slots + n) ∧ T'.heap = h' ∧ Ext h h' ∧ b = h.size ∧ Arv Z h' b k .long z (List.replicate n (.long 0)) (.long 0) ∧ ∀ target, Steps p.tables e below (T'.setTop (mkF m pc' L (.ref b :: S))) target → Steps p.tables e below (T.setTop (mkF m pc L (.int z :: S))) target := by
  subst hp
  obtain ⟨T', h', k, X', e', E, A, st⟩ := newP X hx hZ (aty := .long) w eT (g := mkF m pc L (.int z :: S)) rfl hd rfl hz0 (cap := n) (Nat.le_of_eq hz) hb hc hl
  exact ⟨T', h', k, h.size, X', e', E, rfl, (Arv.new A hz0).pad (pad_rep [] (.long 0) n), st⟩
theorem own_stD (X : Stand p l e R s m args below meth c T locs cells slots) (hx : p.tables.exec = Jvm.exec) (hZ : Z.Warmed39 s.vm) (eT : T.heap = h) (V : Arv Z h a k .double z vs dv) {j : Int32} {x : UInt64} (hj : ¬ j < 0 ∧ j < z) (i : Nat) (hi : j.toNatClampNeg = i) (hl : i < vs.length) (hd : decode c.code pc = .ok (.dastore, 1)) (hp : pc + 1 = pc') :
    ∃ T' h', Stand p l e R s m args below meth c T' (locs ++ [⟨a, j.toNatClampNeg⟩]) cells slots ∧ T'.heap = h' ∧ Wr h h' a j.toNatClampNeg (.double x) ∧ Arv Z h' a k .double z (vs.set i (.double x)) dv ∧ ∀ target, Steps p.tables e below (T'.setTop (mkF m pc' L S)) target → Steps p.tables e below (T.setTop (mkF m pc L (.double x :: .int j :: .ref a :: S))) target := by
  subst hp
  obtain ⟨cl, A, q1, S1, q3, H, G⟩ := V
  obtain ⟨T', h', X', e', W, st⟩ := stD X hx hZ eT A (j := j) (x := x) (inb_of S1 hj) (g := mkF m pc L (.double x :: .int j :: .ref a :: S)) rfl rfl hd
  exact ⟨T', h', X', e', W, Arv.set A q1 S1 q3 H G rfl W i hi hl, st⟩
theorem own_ldD (X : Stand p l e R s m args below meth c T locs cells slots) (hx : p.tables.exec = Jvm.exec) (hZ : Z.Warmed39 s.vm) (eT : T.heap = h) (V : Arv Z h a k .double z vs dv) {j : Int32} {x : UInt64} (hj : ¬ j < 0 ∧ j < z) (hv : vs.getD j.toNatClampNeg dv = .double x) (hd : decode c.code pc = .ok (.daload, 1)) (hp : pc + 1 = pc') {target : State}
    (hr : Steps p.tables e below (T.setTop (mkF m pc' L (.double x :: S))) target) : Steps p.tables e below (T.setTop (mkF m pc L (.int j :: .ref a :: S))) target := by
  subst hp
  obtain ⟨cl, A, q1, S1, q3, H, G⟩ := V
  exact X.daload hx (j := j) (v := .double x) (by rw [eT]; exact A.1) (State.isArrayOf_alike hZ.alike A.2.1) A.2.2 (inb_of S1 hj) (H.at (inb_of S1 hj) hv) (g := mkF m pc L (.int j :: .ref a :: S)) rfl rfl hd target hr
theorem own_len {ty : FieldType} (X : Stand p l e R s m args below meth c T locs cells slots) (hx : p.tables.exec = Jvm.exec) (hZ : Z.Warmed39 s.vm) (eT : T.heap = h) (V : Arv Z h a k ty z vs dv) (hd : decode c.code pc = .ok (.arraylength, 1)) (hp : pc + 1 = pc') {target : State}
    (hr : Steps p.tables e below (T.setTop (mkF m pc' L (.int z :: S))) target) : Steps p.tables e below (T.setTop (mkF m pc L (.ref a :: S))) target := by
  subst hp
  obtain ⟨cl, A, q1, S1, q3, H, G⟩ := V
  refine X.arraylength hx (by rw [eT]; exact A.1) (State.isArrayOf_alike hZ.alike A.2.1) (g := mkF m pc L (.ref a :: S)) rfl rfl hd target ?_
  rw [len_of S1 q3]
  exact hr
theorem own_retI (X : Stand p l e R s m args below meth c T locs cells slots) (hx : p.tables.exec = Jvm.exec) {x : Int32} (hret : meth.sig.returnType = some .int) (hd : decode c.code pc = .ok (.ireturn, 1)) {fs : List Frame}
    (hl : ∀ (f : JFrame) (acts : List Action), f.method = m → f.locked = none → f.entered = [] → (doReturn e (T.setTop f) acts (some (.int x))).1 = T.setFrames fs) : Steps p.tables e below (T.setTop (mkF m pc L (.int x :: S))) (T.setFrames fs) := by
  have hm' : T.vm.method? m = some meth := X.method'
  have hn : narrow .int (.int x) = .int x := rfl
  show Steps p.tables e below (T.setTop { method := m, pc := pc, locals := L, stack := _ :: S, locked := none }) _
  jvm_step X.here [X.here.top, hx, hd, hm', hret, hn]
  first | (intro acts; rw [hl _ acts rfl rfl rfl]) | rw [hl _ _ rfl rfl rfl]
  exact Steps.refl _
theorem own_retD (X : Stand p l e R s m args below meth c T locs cells slots) (hx : p.tables.exec = Jvm.exec) {x : UInt64} (hret : meth.sig.returnType = some .double) (hd : decode c.code pc = .ok (.dreturn, 1)) {fs : List Frame}
    (hl : ∀ (f : JFrame) (acts : List Action), f.method = m → f.locked = none → f.entered = [] → (doReturn e (T.setTop f) acts (some (.double x))).1 = T.setFrames fs) : Steps p.tables e below (T.setTop (mkF m pc L (.double x :: S))) (T.setFrames fs) := by
  have hm' : T.vm.method? m = some meth := X.method'
  show Steps p.tables e below (T.setTop { method := m, pc := pc, locals := L, stack := _ :: S, locked := none }) _
  jvm_step X.here [X.here.top, hx, hd, hm', hret, narrow]
  first | (intro acts; rw [hl _ acts rfl rfl rfl]) | rw [hl _ _ rfl rfl rfl]
  exact Steps.refl _
theorem own_retJ (X : Stand p l e R s m args below meth c T locs cells slots) (hx : p.tables.exec = Jvm.exec) {x : Int64} (hret : meth.sig.returnType = some .long) (hd : decode c.code pc = .ok (.lreturn, 1)) {fs : List Frame}
    (hl : ∀ (f : JFrame) (acts : List Action), f.method = m → f.locked = none → f.entered = [] → (doReturn e (T.setTop f) acts (some (.long x))).1 = T.setFrames fs) : Steps p.tables e below (T.setTop (mkF m pc L (.long x :: S))) (T.setFrames fs) := by
  have hm' : T.vm.method? m = some meth := X.method'
  show Steps p.tables e below (T.setTop { method := m, pc := pc, locals := L, stack := _ :: S, locked := none }) _
  jvm_step X.here [X.here.top, hx, hd, hm', hret, narrow]
  first | (intro acts; rw [hl _ acts rfl rfl rfl]) | rw [hl _ _ rfl rfl rfl]
  exact Steps.refl _
theorem own_retR (X : Stand p l e R s m args below meth c T locs cells slots) (hx : p.tables.exec = Jvm.exec) {b : Addr} {t : FieldType} (hret : meth.sig.returnType = some t) (ht : t.isReference = true) (hd : decode c.code pc = .ok (.areturn, 1)) {fs : List Frame}
    (hl : ∀ (f : JFrame) (acts : List Action), f.method = m → f.locked = none → f.entered = [] → (doReturn e (T.setTop f) acts (some (.ref b))).1 = T.setFrames fs) : Steps p.tables e below (T.setTop (mkF m pc L (.ref b :: S))) (T.setFrames fs) := by
  have hm' : T.vm.method? m = some meth := X.method'
  show Steps p.tables e below (T.setTop { method := m, pc := pc, locals := L, stack := _ :: S, locked := none }) _
  jvm_step X.here [X.here.top, hx, hd, hm', hret, Value.isRef, ht]
  first | (intro acts; rw [hl _ acts rfl rfl rfl]) | rw [hl _ _ rfl rfl rfl]
  exact Steps.refl _
end OwnHeap
open Jvm Jvm.ClassFile Sem Op Lib Jvm.Free Jvm.Stand Jvm.LawKit Jvm.RoadKit Bundle Jvm.Pilot.@@N@@.Jvm.D
def own_Q0 (n0 : Nat) (v : Option Value) (h : Heap) (L : List Loc) : Prop := v = some (.int 1) ∧ Fr n0 L
def own_QP (r : Option Value) (h0 : Heap) (n0 : Nat) (v : Option Value) (h : Heap) (L : List Loc) : Prop := v = r ∧ Fr n0 L ∧ h = h0
theorem own_mask3 (x : Int32) : x &&& 3 = 0 ∨ x &&& 3 = 1 ∨ x &&& 3 = 2 ∨ x &&& 3 = 3 := by
  have h1 := c_mask x 3 2 (by decide) (by decide)
  have e : ∀ k : Int32, x &&& 3 = k ↔ (x &&& 3).toInt = k.toInt := fun k => Int32.toInt_inj.symm
  simp only [e, show (0 : Int32).toInt = 0 from rfl, show (1 : Int32).toInt = 1 from rfl, show (2 : Int32).toInt = 2 from rfl, show (3 : Int32).toInt = 3 from rfl]
  omega
theorem own_small {x a v : Int32} (h1 : x <<< ((12 : Int32) &&& 31) = a) (h2 : a >>> ((12 : Int32) &&& 31) = v) : own_I v v.toInt 524288 := by
  have h := c_ishr a 12 12 (by decide)
  rw [h2] at h
  have := rng32 a
  refine ⟨rfl, ?_, ?_⟩ <;> omega
theorem own_d1_0 : decode method_2_code 0 = .ok (.iload_n 0, 1) := by decide +kernel
theorem own_d1_1 : decode method_2_code 1 = .ok (.bipush 12, 2) := by decide +kernel
theorem own_d1_3 : decode method_2_code 3 = .ok (.ishl, 1) := by decide +kernel
theorem own_d1_4 : decode method_2_code 4 = .ok (.bipush 12, 2) := by decide +kernel
theorem own_d1_6 : decode method_2_code 6 = .ok (.ishr, 1) := by decide +kernel
theorem own_d1_7 : decode method_2_code 7 = .ok (.ireturn, 1) := by decide +kernel
theorem own_pn_com_example_differentia_differentia_problems_Cec2013TransformsScalePinLaw : plainName "com/example/differentia/differentia/problems/Cec2013TransformsScalePinLaw" = true := by first | (simp [plainName, overriddenIn]; done) | decide +kernel
theorem own_ef_s (m : MethodId) (x : Int32) : entryFrame m #[(.int x)] 1 = mkF m 0 #[.val (.int x)] [] := by first | (simp [entryFrame, mkF, argsToLocals, Value.category]; done) | rfl
set_option maxRecDepth 65536 in
set_option maxHeartbeats 40000000 in
theorem own_rm_s (l : Launch) (Z : State) (a0 : Array Value) (hw : ∀ d ∈ tables_1, d.before a0 Z = true) (ws : List Jvm.Cond) (x : Int32) {s_v3 : Int32} {s_v6 : Int32} (h0 : Heap) (n0 : Nat) (Z0 : n0 ≤ h0.size)  (s_hv3 : x <<< ((12 : Int32) &&& 31) = s_v3) (s_hv6 : s_v3 >>> ((12 : Int32) &&& 31) = s_v6) :
    MetFree l (⟨"com/example/differentia/differentia/problems/Cec2013TransformsScalePinLaw", "small", "(I)I"⟩ : MethodName) (head1 (Jvm.Cond.code (⟨"com/example/differentia/differentia/problems/Cec2013TransformsScalePinLaw", "small", "(I)I"⟩ : MethodName) method_2_code 1 (some .int) :: ws) ({ frames := 0, cells := 0, slots := 0, locals := 0 } : Room)) (fun a U => a = #[(.int x)] ∧ Z.Warmed39 U.vm ∧ U.heap = h0) (fun _ _ _ _ _ => True) (fun _ U o U' => ∃ v L, o = .returned v ∧ own_QP (some (.int s_v6)) h0 n0 v U'.heap L ∧ FrameEnd U o U' L ({ frames := 0, cells := 0, slots := 0, locals := 0 } : Room).cells ({ frames := 0, cells := 0, slots := 0, locals := 0 } : Room).slots) := by
  refine MetFree.of_bodySF (plainFor_of_name own_pn_com_example_differentia_differentia_problems_Cec2013TransformsScalePinLaw) hisR ?_
  intro p e s m args below meth c s₁ Bd hml0 hP hK
  obtain ⟨rfl, hZ, hh⟩ := hP
  have hx := Bd.exec
  have hby := Bd.bytes
  have hml : c.maxLocals = 1 := hml0
  have hown : s.vm.findClass "com/example/differentia/differentia/problems/Cec2013TransformsScalePinLaw" = some m.cls := findClass_of_methodNamed Bd.named
  have hnm := (name_of_methodNamed Bd.named Bd.method).1
  have X0 : Stand p l e ({ frames := 0, cells := 0, slots := 0, locals := 0 } : Room) s m #[(.int x)] below meth c s₁ [] 0 0 := Stand.of_body Bd
  have e0 : s₁.heap = h0 := by rw [← hh, Bd.state]; rfl
  have N0 := Fr.nil n0
  have pre0 : ∀ t, Steps p.tables e below (s₁.setTop (mkF m 0 #[.val (.int x)] [])) t → Steps p.tables e below (s₁.setTop (entryFrame m #[(.int x)] 1)) t := fun t k => castTop (own_ef_s m x) k
  obtain ⟨fs, hr, hrun, hended, hW, hsame⟩ := X0.leave (v := some (.int s_v6)) (fun h => by rw [Bd.returns] at h; cases h)
  refine ⟨_, _, pre0 _ ?_, hrun, hended, _, _, rfl, ?_, ⟨_, rfl⟩, hW, hsame.mono (by decide) (by decide)⟩
  · refine own_s_iloadN X0.here hx (hb hby own_d1_0) (pc' := 1) rfl rfl ?_
    refine own_s_bipush X0.here hx (hb hby own_d1_1) (pc' := 3) rfl (v := (12 : Int32)) (by decide) ?_
    refine own_s_ishl X0.here hx (hb hby own_d1_3) (pc' := 4) rfl (v := s_v3) s_hv3 ?_
    refine own_s_bipush X0.here hx (hb hby own_d1_4) (pc' := 6) rfl (v := (12 : Int32)) (by decide) ?_
    refine own_s_ishr X0.here hx (hb hby own_d1_6) (pc' := 7) rfl (v := s_v6) s_hv6 ?_
    exact own_retI X0 hx Bd.returns (hb hby own_d1_7) hr
  · show own_QP (some (.int s_v6)) h0 n0 _ s₁.heap _
    rw [e0]
    exact ⟨rfl, N0, rfl⟩
theorem own_d2_0 : decode prog_63_method_3_code 0 = .ok (.aload_n 0, 1) := by decide +kernel
theorem own_d2_1 : decode prog_63_method_3_code 1 = .ok (.arraylength, 1) := by decide +kernel
theorem own_d2_2 : decode prog_63_method_3_code 2 = .ok (.newarray .double, 2) := by decide +kernel
theorem own_d2_4 : decode prog_63_method_3_code 4 = .ok (.astore_n 3, 1) := by decide +kernel
theorem own_d2_5 : decode prog_63_method_3_code 5 = .ok (.iconst 0, 1) := by decide +kernel
theorem own_d2_6 : decode prog_63_method_3_code 6 = .ok (.istore 4, 2) := by decide +kernel
theorem own_d2_8 : decode prog_63_method_3_code 8 = .ok (.iload 4, 2) := by decide +kernel
theorem own_d2_10 : decode prog_63_method_3_code 10 = .ok (.aload_n 0, 1) := by decide +kernel
theorem own_d2_11 : decode prog_63_method_3_code 11 = .ok (.arraylength, 1) := by decide +kernel
theorem own_d2_12 : decode prog_63_method_3_code 12 = .ok (.if_icmp .ge 19, 3) := by decide +kernel
theorem own_d2_31 : decode prog_63_method_3_code 31 = .ok (.aload_n 3, 1) := by decide +kernel
theorem own_d2_32 : decode prog_63_method_3_code 32 = .ok (.areturn, 1) := by decide +kernel
theorem own_pn_com_example_differentia_differentia_problems_Cec2013Transforms : plainName "com/example/differentia/differentia/problems/Cec2013Transforms" = true := by first | (simp [plainName, overriddenIn]; done) | decide +kernel
theorem own_ef_c0 (m : MethodId) (q : Addr) (f : UInt64) : entryFrame m #[(.ref q), (.double f)] 5 = mkF m 0 #[.val (.ref q), .val (.double f), .second, .unset, .unset] [] := by first | (simp [entryFrame, mkF, argsToLocals, Value.category]; done) | rfl
def own_Q_c0 (Z : State) (q : Addr) (f : UInt64) (qk : ClassId) (h0 : Heap) (n0 : Nat) (v : Option Value) (h : Heap) (L : List Loc) : Prop := ∃ (bc01 : Addr) (kc01 : ClassId), v = some (.ref bc01) ∧ Fr n0 L ∧ Keep h0 h [] ∧ h0.size ≤ bc01 ∧ Arv Z h bc01 kc01 .double (0 : Int32) [] (.double 0)
set_option maxRecDepth 65536 in
set_option maxHeartbeats 40000000 in
theorem own_rm_c0 (l : Launch) (Z : State) (a0 : Array Value) (hw : ∀ d ∈ tables_1, d.before a0 Z = true) (ws : List Jvm.Cond) (q : Addr) (f : UInt64) {qk : ClassId} (h0 : Heap) (n0 : Nat) (Z0 : n0 ≤ h0.size) (V_q : Arv Z h0 q qk .double (0 : Int32) [] (.double 0))  :
    MetFree l (⟨"com/example/differentia/differentia/problems/Cec2013Transforms", "scale", "([DD)[D"⟩ : MethodName) (head1 (Jvm.Cond.code (⟨"com/example/differentia/differentia/problems/Cec2013Transforms", "scale", "([DD)[D"⟩ : MethodName) prog_63_method_3_code 5 (some (.array .double)) :: ws) ({ frames := 0, cells := 1, slots := 0, locals := 0 } : Room)) (fun a U => a = #[(.ref q), (.double f)] ∧ Z.Warmed39 U.vm ∧ U.heap = h0) (fun _ _ _ _ _ => True) (fun _ U o U' => ∃ v L, o = .returned v ∧ own_Q_c0 Z q f qk h0 n0 v U'.heap L ∧ FrameEnd U o U' L ({ frames := 0, cells := 1, slots := 0, locals := 0 } : Room).cells ({ frames := 0, cells := 1, slots := 0, locals := 0 } : Room).slots) := by
  refine MetFree.of_bodySF (plainFor_of_name own_pn_com_example_differentia_differentia_problems_Cec2013Transforms) hisR ?_
  intro p e s m args below meth c s₁ Bd hml0 hP hK
  obtain ⟨rfl, hZ, hh⟩ := hP
  have hx := Bd.exec
  have hby := Bd.bytes
  have hml : c.maxLocals = 5 := hml0
  have hown : s.vm.findClass "com/example/differentia/differentia/problems/Cec2013Transforms" = some m.cls := findClass_of_methodNamed Bd.named
  have hnm := (name_of_methodNamed Bd.named Bd.method).1
  have X0 : Stand p l e ({ frames := 0, cells := 1, slots := 0, locals := 0 } : Room) s m #[(.ref q), (.double f)] below meth c s₁ [] 0 0 := Stand.of_body Bd
  have e0 : s₁.heap = h0 := by rw [← hh, Bd.state]; rfl
  have N0 := Fr.nil n0
  have pre0 : ∀ t, Steps p.tables e below (s₁.setTop (mkF m 0 #[.val (.ref q), .val (.double f), .second, .unset, .unset] [])) t → Steps p.tables e below (s₁.setTop (entryFrame m #[(.ref q), (.double f)] 5)) t := fun t k => castTop (own_ef_c0 m q f) k
  obtain ⟨Tc01, hc01, kc01, bc01, Xc01, ec01, Ec01, Gc01, Vc01, stc01⟩ := own_newD (L := #[.val (.ref q), .val (.double f), .second, .unset, .unset]) (S := []) X0 hx hZ (hw _ (List.mem_of_getElem? (i := 4) rfl)) e0 (z := (0 : Int32)) 0 (by decide) (by decide) (by decide) (by decide) (by decide) (hb hby own_d2_2) (pc' := 4) rfl
  have ne_q_bc01 : q ≠ bc01 := Nat.ne_of_lt (Nat.lt_of_lt_of_le V_q.lt (Nat.le_of_eq Gc01.symm))
  have ne_bc01_q : bc01 ≠ q := Ne.symm ne_q_bc01
  have g_bc01 : n0 ≤ bc01 := Nat.le_trans Z0 (Nat.le_of_eq Gc01.symm)
  have sz_bc01 : h0.size ≤ bc01 := Nat.le_trans (Keep.refl h0 []).1 (Nat.le_of_eq Gc01.symm)
  have V_q_c01 := V_q.ext Ec01
  have Zc01 : n0 ≤ hc01.size := Nat.le_trans Z0 Ec01.1
  have KKc01 := (Keep.refl h0 []).ext Ec01
  have V_bc01 : Arv Z hc01 bc01 kc01 .double (0 : Int32) [] (.double 0) := Vc01
  obtain ⟨fs, hr, hrun, hended, hW, hsame⟩ := Xc01.leave (v := some (.ref bc01)) (fun h => by rw [Bd.returns] at h; cases h)
  refine ⟨_, _, pre0 _ ?_, hrun, hended, _, _, rfl, ?_, ⟨_, rfl⟩, hW, hsame.mono (by decide) (by decide)⟩
  · refine own_s_aloadN X0.here hx (hb hby own_d2_0) (pc' := 1) rfl rfl rfl ?_
    refine own_len X0 hx hZ e0 V_q (hb hby own_d2_1) (pc' := 2) rfl ?_
    refine stc01 _ ?_
    refine own_s_astoreN Xc01.here hx (hb hby own_d2_4) (pc' := 5) rfl rfl (L' := #[.val (.ref q), .val (.double f), .second, .val (.ref bc01), .unset]) rfl ?_
    refine own_s_iconst Xc01.here hx (hb hby own_d2_5) (pc' := 6) rfl (v := (0 : Int32)) (by decide) ?_
    refine own_s_istore Xc01.here hx (hb hby own_d2_6) (pc' := 8) rfl (L' := #[.val (.ref q), .val (.double f), .second, .val (.ref bc01), .val (.int (0 : Int32))]) rfl ?_
    refine own_s_iload Xc01.here hx (hb hby own_d2_8) (pc' := 10) rfl rfl ?_
    refine own_s_aloadN Xc01.here hx (hb hby own_d2_10) (pc' := 11) rfl rfl rfl ?_
    refine own_len Xc01 hx hZ ec01 V_q_c01 (hb hby own_d2_11) (pc' := 12) rfl ?_
    refine own_s_icmpYes Xc01.here hx (hb hby own_d2_12) (by decide) (pc' := 31) (by decide) (by decide) ?_
    refine own_s_aloadN Xc01.here hx (hb hby own_d2_31) (pc' := 32) rfl rfl rfl ?_
    exact own_retR Xc01 hx Bd.returns rfl (hb hby own_d2_32) hr
  · show own_Q_c0 Z q f qk h0 n0 _ Tc01.heap _
    rw [ec01]
    exact ⟨bc01, kc01, rfl, N0, KKc01, sz_bc01, V_bc01⟩
theorem own_d3_0 : decode method_3_code 0 = .ok (.iload_n 2, 1) := by decide +kernel
theorem own_d3_1 : decode method_3_code 1 = .ok (.iload_n 3, 1) := by decide +kernel
theorem own_d3_2 : decode method_3_code 2 = .ok (.if_icmp .lt 5, 3) := by decide +kernel
theorem own_d3_5 : decode method_3_code 5 = .ok (.iconst 1, 1) := by decide +kernel
theorem own_d3_6 : decode method_3_code 6 = .ok (.ireturn, 1) := by decide +kernel
theorem own_ef_e00 (m : MethodId) (ya : Addr) (za : Addr) (v : Int32) (f : Int32) : entryFrame m #[(.ref ya), (.ref za), (.int (0 : Int32)), (.int (0 : Int32)), (.int v), (.int f)] 6 = mkF m 0 #[.val (.ref ya), .val (.ref za), .val (.int (0 : Int32)), .val (.int (0 : Int32)), .val (.int v), .val (.int f)] [] := by first | (simp [entryFrame, mkF, argsToLocals, Value.category]; done) | rfl
set_option maxRecDepth 65536 in
set_option maxHeartbeats 40000000 in
theorem own_rm_e00 (l : Launch) (Z : State) (a0 : Array Value) (hw : ∀ d ∈ tables_1, d.before a0 Z = true) (ws : List Jvm.Cond) (ya : Addr) (za : Addr) (v : Int32) (f : Int32) {yak : ClassId} {zak : ClassId} (h0 : Heap) (n0 : Nat) (Z0 : n0 ≤ h0.size) (V_ya : Arv Z h0 ya yak .double (0 : Int32) [] (.double 0)) (V_za : Arv Z h0 za zak .double (0 : Int32) [] (.double 0))  :
    MetFree l (⟨"com/example/differentia/differentia/problems/Cec2013TransformsScalePinLaw", "entry", "([D[DIIII)Z"⟩ : MethodName) (head1 (Jvm.Cond.code (⟨"com/example/differentia/differentia/problems/Cec2013TransformsScalePinLaw", "entry", "([D[DIIII)Z"⟩ : MethodName) method_3_code 6 (some .boolean) :: ws) ({ frames := 0, cells := 0, slots := 0, locals := 0 } : Room)) (fun a U => a = #[(.ref ya), (.ref za), (.int (0 : Int32)), (.int (0 : Int32)), (.int v), (.int f)] ∧ Z.Warmed39 U.vm ∧ U.heap = h0) (fun _ _ _ _ _ => True) (fun _ U o U' => ∃ v L, o = .returned v ∧ own_QP (some (.int (1 : Int32))) h0 n0 v U'.heap L ∧ FrameEnd U o U' L ({ frames := 0, cells := 0, slots := 0, locals := 0 } : Room).cells ({ frames := 0, cells := 0, slots := 0, locals := 0 } : Room).slots) := by
  refine MetFree.of_bodySF (plainFor_of_name own_pn_com_example_differentia_differentia_problems_Cec2013TransformsScalePinLaw) hisR ?_
  intro p e s m args below meth c s₁ Bd hml0 hP hK
  obtain ⟨rfl, hZ, hh⟩ := hP
  have hx := Bd.exec
  have hby := Bd.bytes
  have hml : c.maxLocals = 6 := hml0
  have hown : s.vm.findClass "com/example/differentia/differentia/problems/Cec2013TransformsScalePinLaw" = some m.cls := findClass_of_methodNamed Bd.named
  have hnm := (name_of_methodNamed Bd.named Bd.method).1
  have X0 : Stand p l e ({ frames := 0, cells := 0, slots := 0, locals := 0 } : Room) s m #[(.ref ya), (.ref za), (.int (0 : Int32)), (.int (0 : Int32)), (.int v), (.int f)] below meth c s₁ [] 0 0 := Stand.of_body Bd
  have e0 : s₁.heap = h0 := by rw [← hh, Bd.state]; rfl
  have N0 := Fr.nil n0
  have pre0 : ∀ t, Steps p.tables e below (s₁.setTop (mkF m 0 #[.val (.ref ya), .val (.ref za), .val (.int (0 : Int32)), .val (.int (0 : Int32)), .val (.int v), .val (.int f)] [])) t → Steps p.tables e below (s₁.setTop (entryFrame m #[(.ref ya), (.ref za), (.int (0 : Int32)), (.int (0 : Int32)), (.int v), (.int f)] 6)) t := fun t k => castTop (own_ef_e00 m ya za v f) k
  obtain ⟨fs, hr, hrun, hended, hW, hsame⟩ := X0.leave (v := some (.int (1 : Int32))) (fun h => by rw [Bd.returns] at h; cases h)
  refine ⟨_, _, pre0 _ ?_, hrun, hended, _, _, rfl, ?_, ⟨_, rfl⟩, hW, hsame.mono (by decide) (by decide)⟩
  · refine own_s_iloadN X0.here hx (hb hby own_d3_0) (pc' := 1) rfl rfl ?_
    refine own_s_iloadN X0.here hx (hb hby own_d3_1) (pc' := 2) rfl rfl ?_
    refine own_s_icmpNo X0.here hx (hb hby own_d3_2) (pc' := 5) rfl (by decide) ?_
    refine own_s_iconst X0.here hx (hb hby own_d3_5) (pc' := 6) rfl (v := (1 : Int32)) (by decide) ?_
    exact retN X0 hx (t := .boolean) Bd.returns (by simp) (hb hby own_d3_6) hr
  · show own_QP (some (.int (1 : Int32))) h0 n0 _ s₁.heap _
    rw [e0]
    exact ⟨rfl, N0, rfl⟩
theorem own_ef_e01 (m : MethodId) (ya : Addr) (za : Addr) (v : Int32) (f : Int32) : entryFrame m #[(.ref ya), (.ref za), (.int (1 : Int32)), (.int (0 : Int32)), (.int v), (.int f)] 6 = mkF m 0 #[.val (.ref ya), .val (.ref za), .val (.int (1 : Int32)), .val (.int (0 : Int32)), .val (.int v), .val (.int f)] [] := by first | (simp [entryFrame, mkF, argsToLocals, Value.category]; done) | rfl
set_option maxRecDepth 65536 in
set_option maxHeartbeats 40000000 in
theorem own_rm_e01 (l : Launch) (Z : State) (a0 : Array Value) (hw : ∀ d ∈ tables_1, d.before a0 Z = true) (ws : List Jvm.Cond) (ya : Addr) (za : Addr) (v : Int32) (f : Int32) {yak : ClassId} {zak : ClassId} (h0 : Heap) (n0 : Nat) (Z0 : n0 ≤ h0.size) (V_ya : Arv Z h0 ya yak .double (0 : Int32) [] (.double 0)) (V_za : Arv Z h0 za zak .double (0 : Int32) [] (.double 0))  :
    MetFree l (⟨"com/example/differentia/differentia/problems/Cec2013TransformsScalePinLaw", "entry", "([D[DIIII)Z"⟩ : MethodName) (head1 (Jvm.Cond.code (⟨"com/example/differentia/differentia/problems/Cec2013TransformsScalePinLaw", "entry", "([D[DIIII)Z"⟩ : MethodName) method_3_code 6 (some .boolean) :: ws) ({ frames := 0, cells := 0, slots := 0, locals := 0 } : Room)) (fun a U => a = #[(.ref ya), (.ref za), (.int (1 : Int32)), (.int (0 : Int32)), (.int v), (.int f)] ∧ Z.Warmed39 U.vm ∧ U.heap = h0) (fun _ _ _ _ _ => True) (fun _ U o U' => ∃ v L, o = .returned v ∧ own_QP (some (.int (1 : Int32))) h0 n0 v U'.heap L ∧ FrameEnd U o U' L ({ frames := 0, cells := 0, slots := 0, locals := 0 } : Room).cells ({ frames := 0, cells := 0, slots := 0, locals := 0 } : Room).slots) := by
  refine MetFree.of_bodySF (plainFor_of_name own_pn_com_example_differentia_differentia_problems_Cec2013TransformsScalePinLaw) hisR ?_
  intro p e s m args below meth c s₁ Bd hml0 hP hK
  obtain ⟨rfl, hZ, hh⟩ := hP
  have hx := Bd.exec
  have hby := Bd.bytes
  have hml : c.maxLocals = 6 := hml0
  have hown : s.vm.findClass "com/example/differentia/differentia/problems/Cec2013TransformsScalePinLaw" = some m.cls := findClass_of_methodNamed Bd.named
  have hnm := (name_of_methodNamed Bd.named Bd.method).1
  have X0 : Stand p l e ({ frames := 0, cells := 0, slots := 0, locals := 0 } : Room) s m #[(.ref ya), (.ref za), (.int (1 : Int32)), (.int (0 : Int32)), (.int v), (.int f)] below meth c s₁ [] 0 0 := Stand.of_body Bd
  have e0 : s₁.heap = h0 := by rw [← hh, Bd.state]; rfl
  have N0 := Fr.nil n0
  have pre0 : ∀ t, Steps p.tables e below (s₁.setTop (mkF m 0 #[.val (.ref ya), .val (.ref za), .val (.int (1 : Int32)), .val (.int (0 : Int32)), .val (.int v), .val (.int f)] [])) t → Steps p.tables e below (s₁.setTop (entryFrame m #[(.ref ya), (.ref za), (.int (1 : Int32)), (.int (0 : Int32)), (.int v), (.int f)] 6)) t := fun t k => castTop (own_ef_e01 m ya za v f) k
  obtain ⟨fs, hr, hrun, hended, hW, hsame⟩ := X0.leave (v := some (.int (1 : Int32))) (fun h => by rw [Bd.returns] at h; cases h)
  refine ⟨_, _, pre0 _ ?_, hrun, hended, _, _, rfl, ?_, ⟨_, rfl⟩, hW, hsame.mono (by decide) (by decide)⟩
  · refine own_s_iloadN X0.here hx (hb hby own_d3_0) (pc' := 1) rfl rfl ?_
    refine own_s_iloadN X0.here hx (hb hby own_d3_1) (pc' := 2) rfl rfl ?_
    refine own_s_icmpNo X0.here hx (hb hby own_d3_2) (pc' := 5) rfl (by decide) ?_
    refine own_s_iconst X0.here hx (hb hby own_d3_5) (pc' := 6) rfl (v := (1 : Int32)) (by decide) ?_
    exact retN X0 hx (t := .boolean) Bd.returns (by simp) (hb hby own_d3_6) hr
  · show own_QP (some (.int (1 : Int32))) h0 n0 _ s₁.heap _
    rw [e0]
    exact ⟨rfl, N0, rfl⟩
theorem own_ef_e02 (m : MethodId) (ya : Addr) (za : Addr) (v : Int32) (f : Int32) : entryFrame m #[(.ref ya), (.ref za), (.int (2 : Int32)), (.int (0 : Int32)), (.int v), (.int f)] 6 = mkF m 0 #[.val (.ref ya), .val (.ref za), .val (.int (2 : Int32)), .val (.int (0 : Int32)), .val (.int v), .val (.int f)] [] := by first | (simp [entryFrame, mkF, argsToLocals, Value.category]; done) | rfl
set_option maxRecDepth 65536 in
set_option maxHeartbeats 40000000 in
theorem own_rm_e02 (l : Launch) (Z : State) (a0 : Array Value) (hw : ∀ d ∈ tables_1, d.before a0 Z = true) (ws : List Jvm.Cond) (ya : Addr) (za : Addr) (v : Int32) (f : Int32) {yak : ClassId} {zak : ClassId} (h0 : Heap) (n0 : Nat) (Z0 : n0 ≤ h0.size) (V_ya : Arv Z h0 ya yak .double (0 : Int32) [] (.double 0)) (V_za : Arv Z h0 za zak .double (0 : Int32) [] (.double 0))  :
    MetFree l (⟨"com/example/differentia/differentia/problems/Cec2013TransformsScalePinLaw", "entry", "([D[DIIII)Z"⟩ : MethodName) (head1 (Jvm.Cond.code (⟨"com/example/differentia/differentia/problems/Cec2013TransformsScalePinLaw", "entry", "([D[DIIII)Z"⟩ : MethodName) method_3_code 6 (some .boolean) :: ws) ({ frames := 0, cells := 0, slots := 0, locals := 0 } : Room)) (fun a U => a = #[(.ref ya), (.ref za), (.int (2 : Int32)), (.int (0 : Int32)), (.int v), (.int f)] ∧ Z.Warmed39 U.vm ∧ U.heap = h0) (fun _ _ _ _ _ => True) (fun _ U o U' => ∃ v L, o = .returned v ∧ own_QP (some (.int (1 : Int32))) h0 n0 v U'.heap L ∧ FrameEnd U o U' L ({ frames := 0, cells := 0, slots := 0, locals := 0 } : Room).cells ({ frames := 0, cells := 0, slots := 0, locals := 0 } : Room).slots) := by
  refine MetFree.of_bodySF (plainFor_of_name own_pn_com_example_differentia_differentia_problems_Cec2013TransformsScalePinLaw) hisR ?_
  intro p e s m args below meth c s₁ Bd hml0 hP hK
  obtain ⟨rfl, hZ, hh⟩ := hP
  have hx := Bd.exec
  have hby := Bd.bytes
  have hml : c.maxLocals = 6 := hml0
  have hown : s.vm.findClass "com/example/differentia/differentia/problems/Cec2013TransformsScalePinLaw" = some m.cls := findClass_of_methodNamed Bd.named
  have hnm := (name_of_methodNamed Bd.named Bd.method).1
  have X0 : Stand p l e ({ frames := 0, cells := 0, slots := 0, locals := 0 } : Room) s m #[(.ref ya), (.ref za), (.int (2 : Int32)), (.int (0 : Int32)), (.int v), (.int f)] below meth c s₁ [] 0 0 := Stand.of_body Bd
  have e0 : s₁.heap = h0 := by rw [← hh, Bd.state]; rfl
  have N0 := Fr.nil n0
  have pre0 : ∀ t, Steps p.tables e below (s₁.setTop (mkF m 0 #[.val (.ref ya), .val (.ref za), .val (.int (2 : Int32)), .val (.int (0 : Int32)), .val (.int v), .val (.int f)] [])) t → Steps p.tables e below (s₁.setTop (entryFrame m #[(.ref ya), (.ref za), (.int (2 : Int32)), (.int (0 : Int32)), (.int v), (.int f)] 6)) t := fun t k => castTop (own_ef_e02 m ya za v f) k
  obtain ⟨fs, hr, hrun, hended, hW, hsame⟩ := X0.leave (v := some (.int (1 : Int32))) (fun h => by rw [Bd.returns] at h; cases h)
  refine ⟨_, _, pre0 _ ?_, hrun, hended, _, _, rfl, ?_, ⟨_, rfl⟩, hW, hsame.mono (by decide) (by decide)⟩
  · refine own_s_iloadN X0.here hx (hb hby own_d3_0) (pc' := 1) rfl rfl ?_
    refine own_s_iloadN X0.here hx (hb hby own_d3_1) (pc' := 2) rfl rfl ?_
    refine own_s_icmpNo X0.here hx (hb hby own_d3_2) (pc' := 5) rfl (by decide) ?_
    refine own_s_iconst X0.here hx (hb hby own_d3_5) (pc' := 6) rfl (v := (1 : Int32)) (by decide) ?_
    exact retN X0 hx (t := .boolean) Bd.returns (by simp) (hb hby own_d3_6) hr
  · show own_QP (some (.int (1 : Int32))) h0 n0 _ s₁.heap _
    rw [e0]
    exact ⟨rfl, N0, rfl⟩
theorem own_pd_28I29I : parseMethodDescriptor "(I)I" = some ⟨[.int], some .int⟩ := by decide +kernel
theorem own_pd_285bDD295bD : parseMethodDescriptor "([DD)[D" = some ⟨[(.array .double), .double], some (.array .double)⟩ := by decide +kernel
theorem own_pd_285bD5bDIIII29Z : parseMethodDescriptor "([D[DIIII)Z" = some ⟨[(.array .double), (.array .double), .int, .int, .int, .int], some .boolean⟩ := by decide +kernel
theorem own_ef_w0 (m : MethodId) (p0 : Int32) (p1 : Int32) (p2 : Int32) (p3 : Int32) (p4 : Int32) : entryFrame m #[(.int p0), (.int p1), (.int p2), (.int p3), (.int p4)] maxLocals = mkF m 0 #[.val (.int p0), .val (.int p1), .val (.int p2), .val (.int p3), .val (.int p4), .unset, .unset, .unset, .unset, .unset, .unset, .unset] [] := by first | (simp [entryFrame, mkF, argsToLocals, Value.category, maxLocals]; done) | rfl
set_option maxRecDepth 65536 in
set_option maxHeartbeats 40000000 in
theorem own_rm_w0 (l : Launch) (Z : State) (a0 : Array Value) (hw : ∀ d ∈ tables_1, d.before a0 Z = true) (ws : List Jvm.Cond) (p0 : Int32) (p1 : Int32) (p2 : Int32) (p3 : Int32) (p4 : Int32) {w0_c7_s_v3 : Int32} {w0_c7_s_v6 : Int32} {w0_c13_s_v3 : Int32} {w0_c13_s_v6 : Int32} {w0_c19_s_v3 : Int32} {w0_c19_s_v6 : Int32} {w0_c25_s_v3 : Int32} {w0_c25_s_v6 : Int32} (h0 : Heap) (n0 : Nat) (Z0 : n0 ≤ h0.size)  (w0_hv3 : p4 &&& (3 : Int32) = (0 : Int32)) (w0_c7_s_hv3 : p0 <<< ((12 : Int32) &&& 31) = w0_c7_s_v3) (w0_c7_s_hv6 : w0_c7_s_v3 >>> ((12 : Int32) &&& 31) = w0_c7_s_v6) (w0_c13_s_hv3 : p1 <<< ((12 : Int32) &&& 31) = w0_c13_s_v3) (w0_c13_s_hv6 : w0_c13_s_v3 >>> ((12 : Int32) &&& 31) = w0_c13_s_v6) (w0_c19_s_hv3 : p2 <<< ((12 : Int32) &&& 31) = w0_c19_s_v3) (w0_c19_s_hv6 : w0_c19_s_v3 >>> ((12 : Int32) &&& 31) = w0_c19_s_v6) (w0_c25_s_hv3 : p3 <<< ((12 : Int32) &&& 31) = w0_c25_s_v3) (w0_c25_s_hv6 : w0_c25_s_v3 >>> ((12 : Int32) &&& 31) = w0_c25_s_v6) :
    MetFree l x (head1 (Jvm.Cond.code x code maxLocals ret :: ws) room_1) (fun a U => a = #[(.int p0), (.int p1), (.int p2), (.int p3), (.int p4)] ∧ Z.Warmed39 U.vm ∧ U.heap = h0) (fun _ _ _ _ _ => True) (fun _ U o U' => ∃ v L, o = .returned v ∧ own_Q0 n0 v U'.heap L ∧ FrameEnd U o U' L room_1.cells room_1.slots) := by
  refine MetFree.of_bodySF (plainFor_of_name own_pn_com_example_differentia_differentia_problems_Cec2013TransformsScalePinLaw) hisR ?_
  intro p e s m args below meth c s₁ Bd hml0 hP hK
  obtain ⟨rfl, hZ, hh⟩ := hP
  have hx := Bd.exec
  have hby := Bd.bytes
  have hml : c.maxLocals = 12 := hml0
  have hown : s.vm.findClass "com/example/differentia/differentia/problems/Cec2013TransformsScalePinLaw" = some m.cls := findClass_of_methodNamed Bd.named
  have hnm := (name_of_methodNamed Bd.named Bd.method).1
  have X0 : Stand p l e room_1 s m #[(.int p0), (.int p1), (.int p2), (.int p3), (.int p4)] below meth c s₁ [] 0 0 := Stand.of_body Bd
  have e0 : s₁.heap = h0 := by rw [← hh, Bd.state]; rfl
  have N0 := Fr.nil n0
  have pre0 : ∀ t, Steps p.tables e below (s₁.setTop (mkF m 0 #[.val (.int p0), .val (.int p1), .val (.int p2), .val (.int p3), .val (.int p4), .unset, .unset, .unset, .unset, .unset, .unset, .unset] [])) t → Steps p.tables e below (s₁.setTop (entryFrame m #[(.int p0), (.int p1), (.int p2), (.int p3), (.int p4)] maxLocals)) t := fun t k => castTop (own_ef_w0 m p0 p1 p2 p3 p4) k
  obtain ⟨_, _, ⟨Tw01, Lw01, kw01, nw01⟩, -, Xw01, ⟨Lcw01, hQw01, lw01, yw01, zw01⟩, stw01⟩ := Jvm.LawKit.callS X0 hx (y := (⟨"com/example/differentia/differentia/problems/Cec2013TransformsScalePinLaw", "small", "(I)I"⟩ : MethodName)) hown (mvT hZ (hw _ (List.mem_of_getElem? (i := 0) rfl))) (mvT hZ (hw _ (List.mem_of_getElem? (i := 1) rfl))) (mvT hZ (hw _ (List.mem_of_getElem? (i := 2) rfl))) (mvT hZ (hw _ (List.mem_of_getElem? (i := 3) rfl))) (by decide) (backOf (W := 0) (own_rm_s l Z a0 hw [] p0 h0 n0 Z0 w0_c7_s_hv3 w0_c7_s_hv6) hZ (hw _ (List.mem_of_getElem? (i := 3) rfl)) (hw _ (List.mem_of_getElem? (i := 2) rfl)) (by decide) (by decide)) (g := (mkF m 7 #[.val (.int p0), .val (.int p1), .val (.int p2), .val (.int p3), .val (.int p4), .val (.int (0 : Int32)), .unset, .unset, .unset, .unset, .unset, .unset] [(.int p0)])) rfl (by rw [hml]; rfl) (argsL := [(.int p0)]) (rest := []) (lenOf own_pd_28I29I rfl) rfl (by show 2 * 0 + _ ≤ _; exact Nat.le_of_eq rfl) (hb hby at_7) (fun _ _ => ⟨rfl, e0, (by decide : 0 + 0 ≤ _), (by decide : 0 + 0 ≤ _)⟩)
  dsimp only [Pt.U, Pt.locs, Pt.cells, Pt.slots] at Xw01 lw01 yw01 zw01 stw01 hQw01
  subst lw01 yw01 zw01
  obtain ⟨rfl, Nw01q, ew01⟩ := hQw01
  have Nw01 := Fr.app N0 Nw01q
  obtain ⟨_, _, ⟨Tw02, Lw02, kw02, nw02⟩, -, Xw02, ⟨Lcw02, hQw02, lw02, yw02, zw02⟩, stw02⟩ := Jvm.LawKit.callS Xw01 hx (y := (⟨"com/example/differentia/differentia/problems/Cec2013TransformsScalePinLaw", "small", "(I)I"⟩ : MethodName)) hown (mvT hZ (hw _ (List.mem_of_getElem? (i := 0) rfl))) (mvT hZ (hw _ (List.mem_of_getElem? (i := 1) rfl))) (mvT hZ (hw _ (List.mem_of_getElem? (i := 2) rfl))) (mvT hZ (hw _ (List.mem_of_getElem? (i := 3) rfl))) (by decide) (backOf (W := 0) (own_rm_s l Z a0 hw [] p1 h0 n0 Z0 w0_c13_s_hv3 w0_c13_s_hv6) hZ (hw _ (List.mem_of_getElem? (i := 3) rfl)) (hw _ (List.mem_of_getElem? (i := 2) rfl)) (by decide) (by decide)) (g := (mkF m 13 #[.val (.int p0), .val (.int p1), .val (.int p2), .val (.int p3), .val (.int p4), .val (.int (0 : Int32)), .val (.int w0_c7_s_v6), .unset, .unset, .unset, .unset, .unset] [(.int p1)])) rfl (by rw [hml]; rfl) (argsL := [(.int p1)]) (rest := []) (lenOf own_pd_28I29I rfl) rfl (by show 2 * 0 + _ ≤ _; exact Nat.le_of_eq rfl) (hb hby at_13) (fun _ _ => ⟨rfl, ew01, (by decide : 0 + 0 ≤ _), (by decide : 0 + 0 ≤ _)⟩)
  dsimp only [Pt.U, Pt.locs, Pt.cells, Pt.slots] at Xw02 lw02 yw02 zw02 stw02 hQw02
  subst lw02 yw02 zw02
  obtain ⟨rfl, Nw02q, ew02⟩ := hQw02
  have Nw02 := Fr.app Nw01 Nw02q
  obtain ⟨_, _, ⟨Tw03, Lw03, kw03, nw03⟩, -, Xw03, ⟨Lcw03, hQw03, lw03, yw03, zw03⟩, stw03⟩ := Jvm.LawKit.callS Xw02 hx (y := (⟨"com/example/differentia/differentia/problems/Cec2013TransformsScalePinLaw", "small", "(I)I"⟩ : MethodName)) hown (mvT hZ (hw _ (List.mem_of_getElem? (i := 0) rfl))) (mvT hZ (hw _ (List.mem_of_getElem? (i := 1) rfl))) (mvT hZ (hw _ (List.mem_of_getElem? (i := 2) rfl))) (mvT hZ (hw _ (List.mem_of_getElem? (i := 3) rfl))) (by decide) (backOf (W := 0) (own_rm_s l Z a0 hw [] p2 h0 n0 Z0 w0_c19_s_hv3 w0_c19_s_hv6) hZ (hw _ (List.mem_of_getElem? (i := 3) rfl)) (hw _ (List.mem_of_getElem? (i := 2) rfl)) (by decide) (by decide)) (g := (mkF m 19 #[.val (.int p0), .val (.int p1), .val (.int p2), .val (.int p3), .val (.int p4), .val (.int (0 : Int32)), .val (.int w0_c7_s_v6), .val (.int w0_c13_s_v6), .unset, .unset, .unset, .unset] [(.int p2)])) rfl (by rw [hml]; rfl) (argsL := [(.int p2)]) (rest := []) (lenOf own_pd_28I29I rfl) rfl (by show 2 * 0 + _ ≤ _; exact Nat.le_of_eq rfl) (hb hby at_19) (fun _ _ => ⟨rfl, ew02, (by decide : 0 + 0 ≤ _), (by decide : 0 + 0 ≤ _)⟩)
  dsimp only [Pt.U, Pt.locs, Pt.cells, Pt.slots] at Xw03 lw03 yw03 zw03 stw03 hQw03
  subst lw03 yw03 zw03
  obtain ⟨rfl, Nw03q, ew03⟩ := hQw03
  have Nw03 := Fr.app Nw02 Nw03q
  obtain ⟨_, _, ⟨Tw04, Lw04, kw04, nw04⟩, -, Xw04, ⟨Lcw04, hQw04, lw04, yw04, zw04⟩, stw04⟩ := Jvm.LawKit.callS Xw03 hx (y := (⟨"com/example/differentia/differentia/problems/Cec2013TransformsScalePinLaw", "small", "(I)I"⟩ : MethodName)) hown (mvT hZ (hw _ (List.mem_of_getElem? (i := 0) rfl))) (mvT hZ (hw _ (List.mem_of_getElem? (i := 1) rfl))) (mvT hZ (hw _ (List.mem_of_getElem? (i := 2) rfl))) (mvT hZ (hw _ (List.mem_of_getElem? (i := 3) rfl))) (by decide) (backOf (W := 0) (own_rm_s l Z a0 hw [] p3 h0 n0 Z0 w0_c25_s_hv3 w0_c25_s_hv6) hZ (hw _ (List.mem_of_getElem? (i := 3) rfl)) (hw _ (List.mem_of_getElem? (i := 2) rfl)) (by decide) (by decide)) (g := (mkF m 25 #[.val (.int p0), .val (.int p1), .val (.int p2), .val (.int p3), .val (.int p4), .val (.int (0 : Int32)), .val (.int w0_c7_s_v6), .val (.int w0_c13_s_v6), .val (.int w0_c19_s_v6), .unset, .unset, .unset] [(.int p3)])) rfl (by rw [hml]; rfl) (argsL := [(.int p3)]) (rest := []) (lenOf own_pd_28I29I rfl) rfl (by show 2 * 0 + _ ≤ _; exact Nat.le_of_eq rfl) (hb hby at_25) (fun _ _ => ⟨rfl, ew03, (by decide : 0 + 0 ≤ _), (by decide : 0 + 0 ≤ _)⟩)
  dsimp only [Pt.U, Pt.locs, Pt.cells, Pt.slots] at Xw04 lw04 yw04 zw04 stw04 hQw04
  subst lw04 yw04 zw04
  obtain ⟨rfl, Nw04q, ew04⟩ := hQw04
  have Nw04 := Fr.app Nw03 Nw04q
  obtain ⟨Tw05, hw05, kw05, bw05, Xw05, ew05, Ew05, Gw05, Vw05, stw05⟩ := own_newD (L := #[.val (.int p0), .val (.int p1), .val (.int p2), .val (.int p3), .val (.int p4), .val (.int (0 : Int32)), .val (.int w0_c7_s_v6), .val (.int w0_c13_s_v6), .val (.int w0_c19_s_v6), .val (.int w0_c25_s_v6), .unset, .unset]) (S := []) Xw04 hx hZ (hw _ (List.mem_of_getElem? (i := 4) rfl)) ew04 (z := (0 : Int32)) 0 (by decide) (by decide) (by decide) (by decide) (by decide) (hb hby at_32) (pc' := 34) rfl
  have g_bw05 : n0 ≤ bw05 := Nat.le_trans Z0 (Nat.le_of_eq Gw05.symm)
  have sz_bw05 : h0.size ≤ bw05 := Nat.le_trans (Keep.refl h0 []).1 (Nat.le_of_eq Gw05.symm)
  have Zw05 : n0 ≤ hw05.size := Nat.le_trans Z0 Ew05.1
  have KKw05 := (Keep.refl h0 []).ext Ew05
  have V_bw05 : Arv Z hw05 bw05 kw05 .double (0 : Int32) [] (.double 0) := Vw05
  obtain ⟨_, _, ⟨Tw06, Lw06, kw06, nw06⟩, -, Xw06, ⟨Lcw06, hQw06, lw06, yw06, zw06⟩, stw06⟩ := Jvm.LawKit.callS Xw05 hx (y := (⟨"com/example/differentia/differentia/problems/Cec2013Transforms", "scale", "([DD)[D"⟩ : MethodName)) hown (mvT hZ (hw _ (List.mem_of_getElem? (i := 5) rfl))) (mvT hZ (hw _ (List.mem_of_getElem? (i := 6) rfl))) (mvT hZ (hw _ (List.mem_of_getElem? (i := 7) rfl))) (mvT hZ (hw _ (List.mem_of_getElem? (i := 8) rfl))) (by decide) (backOf (W := 0) (own_rm_c0 l Z a0 hw [] bw05 (FP.i2d w0_c25_s_v6) hw05 n0 Zw05 V_bw05) hZ (hw _ (List.mem_of_getElem? (i := 8) rfl)) (hw _ (List.mem_of_getElem? (i := 7) rfl)) (by decide) (by decide)) (g := (mkF m 79 #[.val (.int p0), .val (.int p1), .val (.int p2), .val (.int p3), .val (.int p4), .val (.int (0 : Int32)), .val (.int w0_c7_s_v6), .val (.int w0_c13_s_v6), .val (.int w0_c19_s_v6), .val (.int w0_c25_s_v6), .val (.ref bw05), .unset] [(.double (FP.i2d w0_c25_s_v6)), (.ref bw05)])) rfl (by rw [hml]; rfl) (argsL := [(.ref bw05), (.double (FP.i2d w0_c25_s_v6))]) (rest := []) (lenOf own_pd_285bDD295bD rfl) rfl (by show 2 * 0 + _ ≤ _; exact Nat.le_of_eq rfl) (hb hby at_79) (fun _ _ => ⟨rfl, ew05, (by decide : 1 + 1 ≤ _), (by decide : 0 + 0 ≤ _)⟩)
  dsimp only [Pt.U, Pt.locs, Pt.cells, Pt.slots] at Xw06 lw06 yw06 zw06 stw06 hQw06
  subst lw06 yw06 zw06
  obtain ⟨bw06, kw06a, rfl, Nw06q, Kw06, Gw06, qw06_0⟩ := hQw06
  have ne_bw05_bw06 : bw05 ≠ bw06 := Nat.ne_of_lt (Nat.lt_of_lt_of_le V_bw05.lt Gw06)
  have ne_bw06_bw05 : bw06 ≠ bw05 := Ne.symm ne_bw05_bw06
  have g_bw06 : n0 ≤ bw06 := Nat.le_trans Zw05 Gw06
  have sz_bw06 : h0.size ≤ bw06 := Nat.le_trans KKw05.1 Gw06
  have V_bw05_w06 := V_bw05.keep Kw06 (List.not_mem_nil)
  have Zw06 : n0 ≤ Tw06.heap.size := Nat.le_trans Zw05 Kw06.1
  have KKw06 := KKw05.trans Kw06 (fun _ q => nomatch q)
  have Nw06 := Fr.app Nw04 Nw06q
  obtain ⟨_, _, ⟨Tw07, Lw07, kw07, nw07⟩, -, Xw07, ⟨Lcw07, hQw07, lw07, yw07, zw07⟩, stw07⟩ := Jvm.LawKit.callS Xw06 hx (y := (⟨"com/example/differentia/differentia/problems/Cec2013TransformsScalePinLaw", "entry", "([D[DIIII)Z"⟩ : MethodName)) hown (mvT hZ (hw _ (List.mem_of_getElem? (i := 9) rfl))) (mvT hZ (hw _ (List.mem_of_getElem? (i := 10) rfl))) (mvT hZ (hw _ (List.mem_of_getElem? (i := 2) rfl))) (mvT hZ (hw _ (List.mem_of_getElem? (i := 11) rfl))) (by decide) (backOf (W := 0) (own_rm_e00 l Z a0 hw [] bw05 bw06 w0_c7_s_v6 w0_c25_s_v6 Tw06.heap n0 Zw06 V_bw05_w06 qw06_0) hZ (hw _ (List.mem_of_getElem? (i := 11) rfl)) (hw _ (List.mem_of_getElem? (i := 2) rfl)) (by decide) (by decide)) (g := (mkF m 117 #[.val (.int p0), .val (.int p1), .val (.int p2), .val (.int p3), .val (.int p4), .val (.int (0 : Int32)), .val (.int w0_c7_s_v6), .val (.int w0_c13_s_v6), .val (.int w0_c19_s_v6), .val (.int w0_c25_s_v6), .val (.ref bw05), .val (.ref bw06)] [(.int w0_c25_s_v6), (.int w0_c7_s_v6), (.int (0 : Int32)), (.int (0 : Int32)), (.ref bw06), (.ref bw05)])) rfl (by rw [hml]; rfl) (argsL := [(.ref bw05), (.ref bw06), (.int (0 : Int32)), (.int (0 : Int32)), (.int w0_c7_s_v6), (.int w0_c25_s_v6)]) (rest := []) (lenOf own_pd_285bD5bDIIII29Z rfl) rfl (by show 2 * 0 + _ ≤ _; exact Nat.le_of_eq rfl) (hb hby at_117) (fun _ _ => ⟨rfl, rfl, (by decide : 2 + 0 ≤ _), (by decide : 0 + 0 ≤ _)⟩)
  dsimp only [Pt.U, Pt.locs, Pt.cells, Pt.slots] at Xw07 lw07 yw07 zw07 stw07 hQw07
  subst lw07 yw07 zw07
  obtain ⟨rfl, Nw07q, ew07⟩ := hQw07
  have Nw07 := Fr.app Nw06 Nw07q
  obtain ⟨_, _, ⟨Tw08, Lw08, kw08, nw08⟩, -, Xw08, ⟨Lcw08, hQw08, lw08, yw08, zw08⟩, stw08⟩ := Jvm.LawKit.callS Xw07 hx (y := (⟨"com/example/differentia/differentia/problems/Cec2013TransformsScalePinLaw", "entry", "([D[DIIII)Z"⟩ : MethodName)) hown (mvT hZ (hw _ (List.mem_of_getElem? (i := 9) rfl))) (mvT hZ (hw _ (List.mem_of_getElem? (i := 10) rfl))) (mvT hZ (hw _ (List.mem_of_getElem? (i := 2) rfl))) (mvT hZ (hw _ (List.mem_of_getElem? (i := 11) rfl))) (by decide) (backOf (W := 0) (own_rm_e01 l Z a0 hw [] bw05 bw06 w0_c13_s_v6 w0_c25_s_v6 Tw06.heap n0 Zw06 V_bw05_w06 qw06_0) hZ (hw _ (List.mem_of_getElem? (i := 11) rfl)) (hw _ (List.mem_of_getElem? (i := 2) rfl)) (by decide) (by decide)) (g := (mkF m 134 #[.val (.int p0), .val (.int p1), .val (.int p2), .val (.int p3), .val (.int p4), .val (.int (0 : Int32)), .val (.int w0_c7_s_v6), .val (.int w0_c13_s_v6), .val (.int w0_c19_s_v6), .val (.int w0_c25_s_v6), .val (.ref bw05), .val (.ref bw06)] [(.int w0_c25_s_v6), (.int w0_c13_s_v6), (.int (0 : Int32)), (.int (1 : Int32)), (.ref bw06), (.ref bw05)])) rfl (by rw [hml]; rfl) (argsL := [(.ref bw05), (.ref bw06), (.int (1 : Int32)), (.int (0 : Int32)), (.int w0_c13_s_v6), (.int w0_c25_s_v6)]) (rest := []) (lenOf own_pd_285bD5bDIIII29Z rfl) rfl (by show 2 * 0 + _ ≤ _; exact Nat.le_of_eq rfl) (hb hby at_134) (fun _ _ => ⟨rfl, ew07, (by decide : 2 + 0 ≤ _), (by decide : 0 + 0 ≤ _)⟩)
  dsimp only [Pt.U, Pt.locs, Pt.cells, Pt.slots] at Xw08 lw08 yw08 zw08 stw08 hQw08
  subst lw08 yw08 zw08
  obtain ⟨rfl, Nw08q, ew08⟩ := hQw08
  have Nw08 := Fr.app Nw07 Nw08q
  obtain ⟨_, _, ⟨Tw09, Lw09, kw09, nw09⟩, -, Xw09, ⟨Lcw09, hQw09, lw09, yw09, zw09⟩, stw09⟩ := Jvm.LawKit.callS Xw08 hx (y := (⟨"com/example/differentia/differentia/problems/Cec2013TransformsScalePinLaw", "entry", "([D[DIIII)Z"⟩ : MethodName)) hown (mvT hZ (hw _ (List.mem_of_getElem? (i := 9) rfl))) (mvT hZ (hw _ (List.mem_of_getElem? (i := 10) rfl))) (mvT hZ (hw _ (List.mem_of_getElem? (i := 2) rfl))) (mvT hZ (hw _ (List.mem_of_getElem? (i := 11) rfl))) (by decide) (backOf (W := 0) (own_rm_e02 l Z a0 hw [] bw05 bw06 w0_c19_s_v6 w0_c25_s_v6 Tw06.heap n0 Zw06 V_bw05_w06 qw06_0) hZ (hw _ (List.mem_of_getElem? (i := 11) rfl)) (hw _ (List.mem_of_getElem? (i := 2) rfl)) (by decide) (by decide)) (g := (mkF m 151 #[.val (.int p0), .val (.int p1), .val (.int p2), .val (.int p3), .val (.int p4), .val (.int (0 : Int32)), .val (.int w0_c7_s_v6), .val (.int w0_c13_s_v6), .val (.int w0_c19_s_v6), .val (.int w0_c25_s_v6), .val (.ref bw05), .val (.ref bw06)] [(.int w0_c25_s_v6), (.int w0_c19_s_v6), (.int (0 : Int32)), (.int (2 : Int32)), (.ref bw06), (.ref bw05)])) rfl (by rw [hml]; rfl) (argsL := [(.ref bw05), (.ref bw06), (.int (2 : Int32)), (.int (0 : Int32)), (.int w0_c19_s_v6), (.int w0_c25_s_v6)]) (rest := []) (lenOf own_pd_285bD5bDIIII29Z rfl) rfl (by show 2 * 0 + _ ≤ _; exact Nat.le_of_eq rfl) (hb hby at_151) (fun _ _ => ⟨rfl, ew08, (by decide : 2 + 0 ≤ _), (by decide : 0 + 0 ≤ _)⟩)
  dsimp only [Pt.U, Pt.locs, Pt.cells, Pt.slots] at Xw09 lw09 yw09 zw09 stw09 hQw09
  subst lw09 yw09 zw09
  obtain ⟨rfl, Nw09q, ew09⟩ := hQw09
  have Nw09 := Fr.app Nw08 Nw09q
  obtain ⟨fs, hr, hrun, hended, hW, hsame⟩ := Xw09.leave (v := some (.int (1 : Int32))) (fun h => by rw [Bd.returns] at h; cases h)
  refine ⟨_, _, pre0 _ ?_, hrun, hended, _, _, rfl, ?_, ⟨_, rfl⟩, hW, hsame.mono (by decide) (by decide)⟩
  · refine own_s_iload X0.here hx (hb hby at_0) (pc' := 2) rfl rfl ?_
    refine own_s_iconst X0.here hx (hb hby at_2) (pc' := 3) rfl (v := (3 : Int32)) (by decide) ?_
    refine own_s_iand X0.here hx (hb hby at_3) (pc' := 4) rfl (v := (0 : Int32)) w0_hv3 ?_
    refine own_s_istore X0.here hx (hb hby at_4) (pc' := 6) rfl (L' := #[.val (.int p0), .val (.int p1), .val (.int p2), .val (.int p3), .val (.int p4), .val (.int (0 : Int32)), .unset, .unset, .unset, .unset, .unset, .unset]) rfl ?_
    refine own_s_iloadN X0.here hx (hb hby at_6) (pc' := 7) rfl rfl ?_
    refine stw01 _ ?_
    show Steps p.tables e below (Tw01.setTop (mkF m 10 #[.val (.int p0), .val (.int p1), .val (.int p2), .val (.int p3), .val (.int p4), .val (.int (0 : Int32)), .unset, .unset, .unset, .unset, .unset, .unset] [(.int w0_c7_s_v6)])) _
    refine own_s_istore Xw01.here hx (hb hby at_10) (pc' := 12) rfl (L' := #[.val (.int p0), .val (.int p1), .val (.int p2), .val (.int p3), .val (.int p4), .val (.int (0 : Int32)), .val (.int w0_c7_s_v6), .unset, .unset, .unset, .unset, .unset]) rfl ?_
    refine own_s_iloadN Xw01.here hx (hb hby at_12) (pc' := 13) rfl rfl ?_
    refine stw02 _ ?_
    show Steps p.tables e below (Tw02.setTop (mkF m 16 #[.val (.int p0), .val (.int p1), .val (.int p2), .val (.int p3), .val (.int p4), .val (.int (0 : Int32)), .val (.int w0_c7_s_v6), .unset, .unset, .unset, .unset, .unset] [(.int w0_c13_s_v6)])) _
    refine own_s_istore Xw02.here hx (hb hby at_16) (pc' := 18) rfl (L' := #[.val (.int p0), .val (.int p1), .val (.int p2), .val (.int p3), .val (.int p4), .val (.int (0 : Int32)), .val (.int w0_c7_s_v6), .val (.int w0_c13_s_v6), .unset, .unset, .unset, .unset]) rfl ?_
    refine own_s_iloadN Xw02.here hx (hb hby at_18) (pc' := 19) rfl rfl ?_
    refine stw03 _ ?_
    show Steps p.tables e below (Tw03.setTop (mkF m 22 #[.val (.int p0), .val (.int p1), .val (.int p2), .val (.int p3), .val (.int p4), .val (.int (0 : Int32)), .val (.int w0_c7_s_v6), .val (.int w0_c13_s_v6), .unset, .unset, .unset, .unset] [(.int w0_c19_s_v6)])) _
    refine own_s_istore Xw03.here hx (hb hby at_22) (pc' := 24) rfl (L' := #[.val (.int p0), .val (.int p1), .val (.int p2), .val (.int p3), .val (.int p4), .val (.int (0 : Int32)), .val (.int w0_c7_s_v6), .val (.int w0_c13_s_v6), .val (.int w0_c19_s_v6), .unset, .unset, .unset]) rfl ?_
    refine own_s_iloadN Xw03.here hx (hb hby at_24) (pc' := 25) rfl rfl ?_
    refine stw04 _ ?_
    show Steps p.tables e below (Tw04.setTop (mkF m 28 #[.val (.int p0), .val (.int p1), .val (.int p2), .val (.int p3), .val (.int p4), .val (.int (0 : Int32)), .val (.int w0_c7_s_v6), .val (.int w0_c13_s_v6), .val (.int w0_c19_s_v6), .unset, .unset, .unset] [(.int w0_c25_s_v6)])) _
    refine own_s_istore Xw04.here hx (hb hby at_28) (pc' := 30) rfl (L' := #[.val (.int p0), .val (.int p1), .val (.int p2), .val (.int p3), .val (.int p4), .val (.int (0 : Int32)), .val (.int w0_c7_s_v6), .val (.int w0_c13_s_v6), .val (.int w0_c19_s_v6), .val (.int w0_c25_s_v6), .unset, .unset]) rfl ?_
    refine own_s_iload Xw04.here hx (hb hby at_30) (pc' := 32) rfl rfl ?_
    refine stw05 _ ?_
    refine own_s_astore Xw05.here hx (hb hby at_34) (pc' := 36) rfl rfl (L' := #[.val (.int p0), .val (.int p1), .val (.int p2), .val (.int p3), .val (.int p4), .val (.int (0 : Int32)), .val (.int w0_c7_s_v6), .val (.int w0_c13_s_v6), .val (.int w0_c19_s_v6), .val (.int w0_c25_s_v6), .val (.ref bw05), .unset]) rfl ?_
    refine own_s_iload Xw05.here hx (hb hby at_36) (pc' := 38) rfl rfl ?_
    refine own_s_ifYes Xw05.here hx (hb hby at_38) (by decide) (pc' := 48) (by decide) (by decide) ?_
    refine own_s_iload Xw05.here hx (hb hby at_48) (pc' := 50) rfl rfl ?_
    refine own_s_iconst Xw05.here hx (hb hby at_50) (pc' := 51) rfl (v := (1 : Int32)) (by decide) ?_
    refine own_s_icmpYes Xw05.here hx (hb hby at_51) (by decide) (pc' := 61) (by decide) (by decide) ?_
    refine own_s_iload Xw05.here hx (hb hby at_61) (pc' := 63) rfl rfl ?_
    refine own_s_iconst Xw05.here hx (hb hby at_63) (pc' := 64) rfl (v := (2 : Int32)) (by decide) ?_
    refine own_s_icmpYes Xw05.here hx (hb hby at_64) (by decide) (pc' := 74) (by decide) (by decide) ?_
    refine own_s_aload Xw05.here hx (hb hby at_74) (pc' := 76) rfl rfl rfl ?_
    refine own_s_iload Xw05.here hx (hb hby at_76) (pc' := 78) rfl rfl ?_
    refine own_s_i2d Xw05.here hx (hb hby at_78) (pc' := 79) rfl (v := (FP.i2d w0_c25_s_v6)) rfl ?_
    refine stw06 _ ?_
    show Steps p.tables e below (Tw06.setTop (mkF m 82 #[.val (.int p0), .val (.int p1), .val (.int p2), .val (.int p3), .val (.int p4), .val (.int (0 : Int32)), .val (.int w0_c7_s_v6), .val (.int w0_c13_s_v6), .val (.int w0_c19_s_v6), .val (.int w0_c25_s_v6), .val (.ref bw05), .unset] [(.ref bw06)])) _
    refine own_s_astore Xw06.here hx (hb hby at_82) (pc' := 84) rfl rfl (L' := #[.val (.int p0), .val (.int p1), .val (.int p2), .val (.int p3), .val (.int p4), .val (.int (0 : Int32)), .val (.int w0_c7_s_v6), .val (.int w0_c13_s_v6), .val (.int w0_c19_s_v6), .val (.int w0_c25_s_v6), .val (.ref bw05), .val (.ref bw06)]) rfl ?_
    refine own_s_aload Xw06.here hx (hb hby at_84) (pc' := 86) rfl rfl rfl ?_
    refine own_s_ifnullNo Xw06.here hx (hb hby at_86) (pc' := 89) rfl  ?_
    refine own_s_aload Xw06.here hx (hb hby at_89) (pc' := 91) rfl rfl rfl ?_
    refine own_s_aload Xw06.here hx (hb hby at_91) (pc' := 93) rfl rfl rfl ?_
    refine Jvm.RoadKit.acmp (g := (mkF m 93 #[.val (.int p0), .val (.int p1), .val (.int p2), .val (.int p3), .val (.int p4), .val (.int (0 : Int32)), .val (.int w0_c7_s_v6), .val (.int w0_c13_s_v6), .val (.int w0_c19_s_v6), .val (.int w0_c25_s_v6), .val (.ref bw05), .val (.ref bw06)] [(.ref bw05), (.ref bw06)])) Xw06 hx rfl rfl rfl (pc0 := 93) (pc' := 96) (same := false) rfl (hb hby at_93) rfl (decide_eq_false fun q => ne_bw06_bw05 (Value.ref.inj q)) (by decide) (by decide) ?_
    show Steps p.tables e below (Tw06.setTop (mkF m 96 #[.val (.int p0), .val (.int p1), .val (.int p2), .val (.int p3), .val (.int p4), .val (.int (0 : Int32)), .val (.int w0_c7_s_v6), .val (.int w0_c13_s_v6), .val (.int w0_c19_s_v6), .val (.int w0_c25_s_v6), .val (.ref bw05), .val (.ref bw06)] [])) _
    refine own_s_aload Xw06.here hx (hb hby at_96) (pc' := 98) rfl rfl rfl ?_
    refine own_len Xw06 hx hZ rfl qw06_0 (hb hby at_98) (pc' := 99) rfl ?_
    refine own_s_iload Xw06.here hx (hb hby at_99) (pc' := 101) rfl rfl ?_
    refine own_s_icmpYes Xw06.here hx (hb hby at_101) (by decide) (pc' := 106) (by decide) (by decide) ?_
    refine own_s_aload Xw06.here hx (hb hby at_106) (pc' := 108) rfl rfl rfl ?_
    refine own_s_aload Xw06.here hx (hb hby at_108) (pc' := 110) rfl rfl rfl ?_
    refine own_s_iconst Xw06.here hx (hb hby at_110) (pc' := 111) rfl (v := (0 : Int32)) (by decide) ?_
    refine own_s_iload Xw06.here hx (hb hby at_111) (pc' := 113) rfl rfl ?_
    refine own_s_iload Xw06.here hx (hb hby at_113) (pc' := 115) rfl rfl ?_
    refine own_s_iload Xw06.here hx (hb hby at_115) (pc' := 117) rfl rfl ?_
    refine stw07 _ ?_
    show Steps p.tables e below (Tw07.setTop (mkF m 120 #[.val (.int p0), .val (.int p1), .val (.int p2), .val (.int p3), .val (.int p4), .val (.int (0 : Int32)), .val (.int w0_c7_s_v6), .val (.int w0_c13_s_v6), .val (.int w0_c19_s_v6), .val (.int w0_c25_s_v6), .val (.ref bw05), .val (.ref bw06)] [(.int (1 : Int32))])) _
    refine own_s_ifNo Xw07.here hx (hb hby at_120) (pc' := 123) rfl (by decide) ?_
    refine own_s_aload Xw07.here hx (hb hby at_123) (pc' := 125) rfl rfl rfl ?_
    refine own_s_aload Xw07.here hx (hb hby at_125) (pc' := 127) rfl rfl rfl ?_
    refine own_s_iconst Xw07.here hx (hb hby at_127) (pc' := 128) rfl (v := (1 : Int32)) (by decide) ?_
    refine own_s_iload Xw07.here hx (hb hby at_128) (pc' := 130) rfl rfl ?_
    refine own_s_iload Xw07.here hx (hb hby at_130) (pc' := 132) rfl rfl ?_
    refine own_s_iload Xw07.here hx (hb hby at_132) (pc' := 134) rfl rfl ?_
    refine stw08 _ ?_
    show Steps p.tables e below (Tw08.setTop (mkF m 137 #[.val (.int p0), .val (.int p1), .val (.int p2), .val (.int p3), .val (.int p4), .val (.int (0 : Int32)), .val (.int w0_c7_s_v6), .val (.int w0_c13_s_v6), .val (.int w0_c19_s_v6), .val (.int w0_c25_s_v6), .val (.ref bw05), .val (.ref bw06)] [(.int (1 : Int32))])) _
    refine own_s_ifNo Xw08.here hx (hb hby at_137) (pc' := 140) rfl (by decide) ?_
    refine own_s_aload Xw08.here hx (hb hby at_140) (pc' := 142) rfl rfl rfl ?_
    refine own_s_aload Xw08.here hx (hb hby at_142) (pc' := 144) rfl rfl rfl ?_
    refine own_s_iconst Xw08.here hx (hb hby at_144) (pc' := 145) rfl (v := (2 : Int32)) (by decide) ?_
    refine own_s_iload Xw08.here hx (hb hby at_145) (pc' := 147) rfl rfl ?_
    refine own_s_iload Xw08.here hx (hb hby at_147) (pc' := 149) rfl rfl ?_
    refine own_s_iload Xw08.here hx (hb hby at_149) (pc' := 151) rfl rfl ?_
    refine stw09 _ ?_
    show Steps p.tables e below (Tw09.setTop (mkF m 154 #[.val (.int p0), .val (.int p1), .val (.int p2), .val (.int p3), .val (.int p4), .val (.int (0 : Int32)), .val (.int w0_c7_s_v6), .val (.int w0_c13_s_v6), .val (.int w0_c19_s_v6), .val (.int w0_c25_s_v6), .val (.ref bw05), .val (.ref bw06)] [(.int (1 : Int32))])) _
    refine own_s_ifNo Xw09.here hx (hb hby at_154) (pc' := 157) rfl (by decide) ?_
    refine own_s_iconst Xw09.here hx (hb hby at_157) (pc' := 158) rfl (v := (1 : Int32)) (by decide) ?_
    refine own_s_goto Xw09.here hx (hb hby at_158) (by decide) (pc' := 162) (by decide) ?_
    exact retN Xw09 hx (t := .boolean) Bd.returns (by simp) (hb hby at_162) hr
  · show own_Q0 n0 _ Tw09.heap _
    rw [ew09]
    exact ⟨rfl, Nw09⟩
theorem own_d2_15 : decode prog_63_method_3_code 15 = .ok (.aload_n 3, 1) := by decide +kernel
theorem own_d2_16 : decode prog_63_method_3_code 16 = .ok (.iload 4, 2) := by decide +kernel
theorem own_d2_18 : decode prog_63_method_3_code 18 = .ok (.aload_n 0, 1) := by decide +kernel
theorem own_d2_19 : decode prog_63_method_3_code 19 = .ok (.iload 4, 2) := by decide +kernel
theorem own_d2_21 : decode prog_63_method_3_code 21 = .ok (.daload, 1) := by decide +kernel
theorem own_d2_22 : decode prog_63_method_3_code 22 = .ok (.dload_n 1, 1) := by decide +kernel
theorem own_d2_23 : decode prog_63_method_3_code 23 = .ok (.dmul, 1) := by decide +kernel
theorem own_d2_24 : decode prog_63_method_3_code 24 = .ok (.dastore, 1) := by decide +kernel
theorem own_d2_25 : decode prog_63_method_3_code 25 = .ok (.iinc 4 1, 3) := by decide +kernel
theorem own_d2_28 : decode prog_63_method_3_code 28 = .ok (.goto (-20), 3) := by decide +kernel
theorem own_ef_c1 (m : MethodId) (q : Addr) (f : UInt64) : entryFrame m #[(.ref q), (.double f)] 5 = mkF m 0 #[.val (.ref q), .val (.double f), .second, .unset, .unset] [] := by first | (simp [entryFrame, mkF, argsToLocals, Value.category]; done) | rfl
def own_Q_c1 (Z : State) (q : Addr) (d0 : UInt64) (f : UInt64) (qk : ClassId) (c1_v23 : UInt64) (h0 : Heap) (n0 : Nat) (v : Option Value) (h : Heap) (L : List Loc) : Prop := ∃ (bc11 : Addr) (kc11 : ClassId), v = some (.ref bc11) ∧ Fr n0 L ∧ Keep h0 h [] ∧ h0.size ≤ bc11 ∧ Arv Z h bc11 kc11 .double (1 : Int32) [(.double c1_v23)] (.double 0)
set_option maxRecDepth 65536 in
set_option maxHeartbeats 40000000 in
theorem own_rm_c1 (l : Launch) (Z : State) (a0 : Array Value) (hw : ∀ d ∈ tables_1, d.before a0 Z = true) (ws : List Jvm.Cond) (q : Addr) (d0 : UInt64) (f : UInt64) {qk : ClassId} {c1_v23 : UInt64} (h0 : Heap) (n0 : Nat) (Z0 : n0 ≤ h0.size) (V_q : Arv Z h0 q qk .double (1 : Int32) [(.double d0)] (.double 0)) (c1_hn23 : Jvm.Free.Fl.NoNaN64 (FP.dmul d0 f)) (c1_hv23 : FP.dmul d0 f = c1_v23) :
    MetFree l (⟨"com/example/differentia/differentia/problems/Cec2013Transforms", "scale", "([DD)[D"⟩ : MethodName) (head1 (Jvm.Cond.code (⟨"com/example/differentia/differentia/problems/Cec2013Transforms", "scale", "([DD)[D"⟩ : MethodName) prog_63_method_3_code 5 (some (.array .double)) :: ws) ({ frames := 0, cells := 1, slots := 1, locals := 0 } : Room)) (fun a U => a = #[(.ref q), (.double f)] ∧ Z.Warmed39 U.vm ∧ U.heap = h0) (fun _ _ _ _ _ => True) (fun _ U o U' => ∃ v L, o = .returned v ∧ own_Q_c1 Z q d0 f qk c1_v23 h0 n0 v U'.heap L ∧ FrameEnd U o U' L ({ frames := 0, cells := 1, slots := 1, locals := 0 } : Room).cells ({ frames := 0, cells := 1, slots := 1, locals := 0 } : Room).slots) := by
  refine MetFree.of_bodySF (plainFor_of_name own_pn_com_example_differentia_differentia_problems_Cec2013Transforms) hisR ?_
  intro p e s m args below meth c s₁ Bd hml0 hP hK
  obtain ⟨rfl, hZ, hh⟩ := hP
  have hx := Bd.exec
  have hby := Bd.bytes
  have hml : c.maxLocals = 5 := hml0
  have hown : s.vm.findClass "com/example/differentia/differentia/problems/Cec2013Transforms" = some m.cls := findClass_of_methodNamed Bd.named
  have hnm := (name_of_methodNamed Bd.named Bd.method).1
  have X0 : Stand p l e ({ frames := 0, cells := 1, slots := 1, locals := 0 } : Room) s m #[(.ref q), (.double f)] below meth c s₁ [] 0 0 := Stand.of_body Bd
  have e0 : s₁.heap = h0 := by rw [← hh, Bd.state]; rfl
  have N0 := Fr.nil n0
  have pre0 : ∀ t, Steps p.tables e below (s₁.setTop (mkF m 0 #[.val (.ref q), .val (.double f), .second, .unset, .unset] [])) t → Steps p.tables e below (s₁.setTop (entryFrame m #[(.ref q), (.double f)] 5)) t := fun t k => castTop (own_ef_c1 m q f) k
  obtain ⟨Tc11, hc11, kc11, bc11, Xc11, ec11, Ec11, Gc11, Vc11, stc11⟩ := own_newD (L := #[.val (.ref q), .val (.double f), .second, .unset, .unset]) (S := []) X0 hx hZ (hw _ (List.mem_of_getElem? (i := 4) rfl)) e0 (z := (1 : Int32)) 1 (by decide) (by decide) (by decide) (by decide) (by decide) (hb hby own_d2_2) (pc' := 4) rfl
  have ne_q_bc11 : q ≠ bc11 := Nat.ne_of_lt (Nat.lt_of_lt_of_le V_q.lt (Nat.le_of_eq Gc11.symm))
  have ne_bc11_q : bc11 ≠ q := Ne.symm ne_q_bc11
  have g_bc11 : n0 ≤ bc11 := Nat.le_trans Z0 (Nat.le_of_eq Gc11.symm)
  have sz_bc11 : h0.size ≤ bc11 := Nat.le_trans (Keep.refl h0 []).1 (Nat.le_of_eq Gc11.symm)
  have V_q_c11 := V_q.ext Ec11
  have Zc11 : n0 ≤ hc11.size := Nat.le_trans Z0 Ec11.1
  have KKc11 := (Keep.refl h0 []).ext Ec11
  have V_bc11 : Arv Z hc11 bc11 kc11 .double (1 : Int32) [(.double 0)] (.double 0) := Vc11
  obtain ⟨Tc12, hc12, Xc12, ec12, Wc12, Vc12, stc12⟩ := own_stD (L := #[.val (.ref q), .val (.double f), .second, .val (.ref bc11), .val (.int (0 : Int32))]) (S := []) Xc11 hx hZ ec11 V_bc11 (j := (0 : Int32)) (x := c1_v23) (by decide) 0 (by decide) (Nat.le_of_ble_eq_true rfl) (hb hby own_d2_24) (pc' := 25) rfl
  have V_q_c12 := V_q_c11.other Wc12 ne_q_bc11
  have Zc12 : n0 ≤ hc12.size := Nat.le_trans Zc11 (Nat.le_of_eq Wc12.size.symm)
  have KKc12 := KKc11.wr Wc12 (Or.inr sz_bc11)
  have V_bc11_c12 : Arv Z hc12 bc11 kc11 .double (1 : Int32) [(.double c1_v23)] (.double 0) := Vc12
  have Nc12 := Fr.snoc Xc12 N0 g_bc11
  obtain ⟨fs, hr, hrun, hended, hW, hsame⟩ := Xc12.leave (v := some (.ref bc11)) (fun h => by rw [Bd.returns] at h; cases h)
  refine ⟨_, _, pre0 _ ?_, hrun, hended, _, _, rfl, ?_, ⟨_, rfl⟩, hW, hsame.mono (by decide) (by decide)⟩
  · refine own_s_aloadN X0.here hx (hb hby own_d2_0) (pc' := 1) rfl rfl rfl ?_
    refine own_len X0 hx hZ e0 V_q (hb hby own_d2_1) (pc' := 2) rfl ?_
    refine stc11 _ ?_
    refine own_s_astoreN Xc11.here hx (hb hby own_d2_4) (pc' := 5) rfl rfl (L' := #[.val (.ref q), .val (.double f), .second, .val (.ref bc11), .unset]) rfl ?_
    refine own_s_iconst Xc11.here hx (hb hby own_d2_5) (pc' := 6) rfl (v := (0 : Int32)) (by decide) ?_
    refine own_s_istore Xc11.here hx (hb hby own_d2_6) (pc' := 8) rfl (L' := #[.val (.ref q), .val (.double f), .second, .val (.ref bc11), .val (.int (0 : Int32))]) rfl ?_
    refine own_s_iload Xc11.here hx (hb hby own_d2_8) (pc' := 10) rfl rfl ?_
    refine own_s_aloadN Xc11.here hx (hb hby own_d2_10) (pc' := 11) rfl rfl rfl ?_
    refine own_len Xc11 hx hZ ec11 V_q_c11 (hb hby own_d2_11) (pc' := 12) rfl ?_
    refine own_s_icmpNo Xc11.here hx (hb hby own_d2_12) (pc' := 15) rfl (by decide) ?_
    refine own_s_aloadN Xc11.here hx (hb hby own_d2_15) (pc' := 16) rfl rfl rfl ?_
    refine own_s_iload Xc11.here hx (hb hby own_d2_16) (pc' := 18) rfl rfl ?_
    refine own_s_aloadN Xc11.here hx (hb hby own_d2_18) (pc' := 19) rfl rfl rfl ?_
    refine own_s_iload Xc11.here hx (hb hby own_d2_19) (pc' := 21) rfl rfl ?_
    refine own_ldD Xc11 hx hZ ec11 V_q_c11 (j := (0 : Int32)) (x := d0) (by decide) rfl (hb hby own_d2_21) (pc' := 22) rfl ?_
    refine own_s_dloadN Xc11.here hx (hb hby own_d2_22) (pc' := 23) rfl rfl ?_
    refine own_s_dmul Xc11.here hx (hb hby own_d2_23) (pc' := 24) rfl c1_hn23 (v := c1_v23) c1_hv23 ?_
    refine stc12 _ ?_
    refine own_s_iinc Xc12.here hx (hb hby own_d2_25) (pc' := 28) rfl rfl (v := (1 : Int32)) (by decide) (L' := #[.val (.ref q), .val (.double f), .second, .val (.ref bc11), .val (.int (1 : Int32))]) rfl ?_
    refine own_s_goto Xc12.here hx (hb hby own_d2_28) (by decide) (pc' := 8) (by decide) ?_
    refine own_s_iload Xc12.here hx (hb hby own_d2_8) (pc' := 10) rfl rfl ?_
    refine own_s_aloadN Xc12.here hx (hb hby own_d2_10) (pc' := 11) rfl rfl rfl ?_
    refine own_len Xc12 hx hZ ec12 V_q_c12 (hb hby own_d2_11) (pc' := 12) rfl ?_
    refine own_s_icmpYes Xc12.here hx (hb hby own_d2_12) (by decide) (pc' := 31) (by decide) (by decide) ?_
    refine own_s_aloadN Xc12.here hx (hb hby own_d2_31) (pc' := 32) rfl rfl rfl ?_
    exact own_retR Xc12 hx Bd.returns rfl (hb hby own_d2_32) hr
  · show own_Q_c1 Z q d0 f qk c1_v23 h0 n0 _ Tc12.heap _
    rw [ec12]
    exact ⟨bc11, kc11, rfl, Nc12, KKc12, sz_bc11, V_bc11_c12⟩
theorem own_d3_7 : decode method_3_code 7 = .ok (.aload_n 0, 1) := by decide +kernel
theorem own_d3_8 : decode method_3_code 8 = .ok (.iload_n 2, 1) := by decide +kernel
theorem own_d3_9 : decode method_3_code 9 = .ok (.daload, 1) := by decide +kernel
theorem own_d3_10 : decode method_3_code 10 = .ok (.iload 4, 2) := by decide +kernel
theorem own_d3_12 : decode method_3_code 12 = .ok (.i2d, 1) := by decide +kernel
theorem own_d3_13 : decode method_3_code 13 = .ok (.dcmp .l, 1) := by decide +kernel
theorem own_d3_14 : decode method_3_code 14 = .ok (.ifCond .ne 22, 3) := by decide +kernel
theorem own_d3_17 : decode method_3_code 17 = .ok (.aload_n 1, 1) := by decide +kernel
theorem own_d3_18 : decode method_3_code 18 = .ok (.iload_n 2, 1) := by decide +kernel
theorem own_d3_19 : decode method_3_code 19 = .ok (.daload, 1) := by decide +kernel
theorem own_d3_20 : decode method_3_code 20 = .ok (.iload 4, 2) := by decide +kernel
theorem own_d3_22 : decode method_3_code 22 = .ok (.i2l, 1) := by decide +kernel
theorem own_d3_23 : decode method_3_code 23 = .ok (.iload 5, 2) := by decide +kernel
theorem own_d3_25 : decode method_3_code 25 = .ok (.i2l, 1) := by decide +kernel
theorem own_d3_26 : decode method_3_code 26 = .ok (.lmul, 1) := by decide +kernel
theorem own_d3_27 : decode method_3_code 27 = .ok (.l2d, 1) := by decide +kernel
theorem own_d3_28 : decode method_3_code 28 = .ok (.dcmp .l, 1) := by decide +kernel
theorem own_d3_29 : decode method_3_code 29 = .ok (.ifCond .ne 7, 3) := by decide +kernel
theorem own_d3_32 : decode method_3_code 32 = .ok (.iconst 1, 1) := by decide +kernel
theorem own_d3_33 : decode method_3_code 33 = .ok (.goto 4, 3) := by decide +kernel
theorem own_d3_37 : decode method_3_code 37 = .ok (.ireturn, 1) := by decide +kernel
theorem own_ef_e10 (m : MethodId) (ya : Addr) (za : Addr) (v : Int32) (f : Int32) : entryFrame m #[(.ref ya), (.ref za), (.int (0 : Int32)), (.int (1 : Int32)), (.int v), (.int f)] 6 = mkF m 0 #[.val (.ref ya), .val (.ref za), .val (.int (0 : Int32)), .val (.int (1 : Int32)), .val (.int v), .val (.int f)] [] := by first | (simp [entryFrame, mkF, argsToLocals, Value.category]; done) | rfl
set_option maxRecDepth 65536 in
set_option maxHeartbeats 40000000 in
theorem own_rm_e10 (l : Launch) (Z : State) (a0 : Array Value) (hw : ∀ d ∈ tables_1, d.before a0 Z = true) (ws : List Jvm.Cond) (ya : Addr) (d0 : UInt64) (za : Addr) (ee0 : UInt64) (v : Int32) (f : Int32) {yak : ClassId} {zak : ClassId} {e10_v22 : Int64} {e10_v25 : Int64} {e10_v26 : Int64} (h0 : Heap) (n0 : Nat) (Z0 : n0 ≤ h0.size) (V_ya : Arv Z h0 ya yak .double (1 : Int32) [(.double d0)] (.double 0)) (V_za : Arv Z h0 za zak .double (1 : Int32) [(.double ee0)] (.double 0)) (e10_hc13 : Op.cmpValue (FP.dcmp d0 (FP.i2d v)) .l = (0 : Int32)) (e10_hv22 : Int32.toInt64 v = e10_v22) (e10_hv25 : Int32.toInt64 f = e10_v25) (e10_hv26 : e10_v22 * e10_v25 = e10_v26) (e10_hc28 : Op.cmpValue (FP.dcmp ee0 (FP.l2d e10_v26)) .l = (0 : Int32)) :
    MetFree l (⟨"com/example/differentia/differentia/problems/Cec2013TransformsScalePinLaw", "entry", "([D[DIIII)Z"⟩ : MethodName) (head1 (Jvm.Cond.code (⟨"com/example/differentia/differentia/problems/Cec2013TransformsScalePinLaw", "entry", "([D[DIIII)Z"⟩ : MethodName) method_3_code 6 (some .boolean) :: ws) ({ frames := 0, cells := 0, slots := 0, locals := 0 } : Room)) (fun a U => a = #[(.ref ya), (.ref za), (.int (0 : Int32)), (.int (1 : Int32)), (.int v), (.int f)] ∧ Z.Warmed39 U.vm ∧ U.heap = h0) (fun _ _ _ _ _ => True) (fun _ U o U' => ∃ v L, o = .returned v ∧ own_QP (some (.int (1 : Int32))) h0 n0 v U'.heap L ∧ FrameEnd U o U' L ({ frames := 0, cells := 0, slots := 0, locals := 0 } : Room).cells ({ frames := 0, cells := 0, slots := 0, locals := 0 } : Room).slots) := by
  refine MetFree.of_bodySF (plainFor_of_name own_pn_com_example_differentia_differentia_problems_Cec2013TransformsScalePinLaw) hisR ?_
  intro p e s m args below meth c s₁ Bd hml0 hP hK
  obtain ⟨rfl, hZ, hh⟩ := hP
  have hx := Bd.exec
  have hby := Bd.bytes
  have hml : c.maxLocals = 6 := hml0
  have hown : s.vm.findClass "com/example/differentia/differentia/problems/Cec2013TransformsScalePinLaw" = some m.cls := findClass_of_methodNamed Bd.named
  have hnm := (name_of_methodNamed Bd.named Bd.method).1
  have X0 : Stand p l e ({ frames := 0, cells := 0, slots := 0, locals := 0 } : Room) s m #[(.ref ya), (.ref za), (.int (0 : Int32)), (.int (1 : Int32)), (.int v), (.int f)] below meth c s₁ [] 0 0 := Stand.of_body Bd
  have e0 : s₁.heap = h0 := by rw [← hh, Bd.state]; rfl
  have N0 := Fr.nil n0
  have pre0 : ∀ t, Steps p.tables e below (s₁.setTop (mkF m 0 #[.val (.ref ya), .val (.ref za), .val (.int (0 : Int32)), .val (.int (1 : Int32)), .val (.int v), .val (.int f)] [])) t → Steps p.tables e below (s₁.setTop (entryFrame m #[(.ref ya), (.ref za), (.int (0 : Int32)), (.int (1 : Int32)), (.int v), (.int f)] 6)) t := fun t k => castTop (own_ef_e10 m ya za v f) k
  obtain ⟨fs, hr, hrun, hended, hW, hsame⟩ := X0.leave (v := some (.int (1 : Int32))) (fun h => by rw [Bd.returns] at h; cases h)
  refine ⟨_, _, pre0 _ ?_, hrun, hended, _, _, rfl, ?_, ⟨_, rfl⟩, hW, hsame.mono (by decide) (by decide)⟩
  · refine own_s_iloadN X0.here hx (hb hby own_d3_0) (pc' := 1) rfl rfl ?_
    refine own_s_iloadN X0.here hx (hb hby own_d3_1) (pc' := 2) rfl rfl ?_
    refine own_s_icmpYes X0.here hx (hb hby own_d3_2) (by decide) (pc' := 7) (by decide) (by decide) ?_
    refine own_s_aloadN X0.here hx (hb hby own_d3_7) (pc' := 8) rfl rfl rfl ?_
    refine own_s_iloadN X0.here hx (hb hby own_d3_8) (pc' := 9) rfl rfl ?_
    refine own_ldD X0 hx hZ e0 V_ya (j := (0 : Int32)) (x := d0) (by decide) rfl (hb hby own_d3_9) (pc' := 10) rfl ?_
    refine own_s_iload X0.here hx (hb hby own_d3_10) (pc' := 12) rfl rfl ?_
    refine own_s_i2d X0.here hx (hb hby own_d3_12) (pc' := 13) rfl (v := (FP.i2d v)) rfl ?_
    refine own_s_dcmp X0.here hx (hb hby own_d3_13) (pc' := 14) rfl (v := (0 : Int32)) e10_hc13 ?_
    refine own_s_ifNo X0.here hx (hb hby own_d3_14) (pc' := 17) rfl (by decide) ?_
    refine own_s_aloadN X0.here hx (hb hby own_d3_17) (pc' := 18) rfl rfl rfl ?_
    refine own_s_iloadN X0.here hx (hb hby own_d3_18) (pc' := 19) rfl rfl ?_
    refine own_ldD X0 hx hZ e0 V_za (j := (0 : Int32)) (x := ee0) (by decide) rfl (hb hby own_d3_19) (pc' := 20) rfl ?_
    refine own_s_iload X0.here hx (hb hby own_d3_20) (pc' := 22) rfl rfl ?_
    refine own_s_i2l X0.here hx (hb hby own_d3_22) (pc' := 23) rfl (v := e10_v22) e10_hv22 ?_
    refine own_s_iload X0.here hx (hb hby own_d3_23) (pc' := 25) rfl rfl ?_
    refine own_s_i2l X0.here hx (hb hby own_d3_25) (pc' := 26) rfl (v := e10_v25) e10_hv25 ?_
    refine own_s_lmul X0.here hx (hb hby own_d3_26) (pc' := 27) rfl (v := e10_v26) e10_hv26 ?_
    refine own_s_l2d X0.here hx (hb hby own_d3_27) (pc' := 28) rfl (v := (FP.l2d e10_v26)) rfl ?_
    refine own_s_dcmp X0.here hx (hb hby own_d3_28) (pc' := 29) rfl (v := (0 : Int32)) e10_hc28 ?_
    refine own_s_ifNo X0.here hx (hb hby own_d3_29) (pc' := 32) rfl (by decide) ?_
    refine own_s_iconst X0.here hx (hb hby own_d3_32) (pc' := 33) rfl (v := (1 : Int32)) (by decide) ?_
    refine own_s_goto X0.here hx (hb hby own_d3_33) (by decide) (pc' := 37) (by decide) ?_
    exact retN X0 hx (t := .boolean) Bd.returns (by simp) (hb hby own_d3_37) hr
  · show own_QP (some (.int (1 : Int32))) h0 n0 _ s₁.heap _
    rw [e0]
    exact ⟨rfl, N0, rfl⟩
theorem own_ef_e11 (m : MethodId) (ya : Addr) (za : Addr) (v : Int32) (f : Int32) : entryFrame m #[(.ref ya), (.ref za), (.int (1 : Int32)), (.int (1 : Int32)), (.int v), (.int f)] 6 = mkF m 0 #[.val (.ref ya), .val (.ref za), .val (.int (1 : Int32)), .val (.int (1 : Int32)), .val (.int v), .val (.int f)] [] := by first | (simp [entryFrame, mkF, argsToLocals, Value.category]; done) | rfl
set_option maxRecDepth 65536 in
set_option maxHeartbeats 40000000 in
theorem own_rm_e11 (l : Launch) (Z : State) (a0 : Array Value) (hw : ∀ d ∈ tables_1, d.before a0 Z = true) (ws : List Jvm.Cond) (ya : Addr) (d0 : UInt64) (za : Addr) (ee0 : UInt64) (v : Int32) (f : Int32) {yak : ClassId} {zak : ClassId} (h0 : Heap) (n0 : Nat) (Z0 : n0 ≤ h0.size) (V_ya : Arv Z h0 ya yak .double (1 : Int32) [(.double d0)] (.double 0)) (V_za : Arv Z h0 za zak .double (1 : Int32) [(.double ee0)] (.double 0))  :
    MetFree l (⟨"com/example/differentia/differentia/problems/Cec2013TransformsScalePinLaw", "entry", "([D[DIIII)Z"⟩ : MethodName) (head1 (Jvm.Cond.code (⟨"com/example/differentia/differentia/problems/Cec2013TransformsScalePinLaw", "entry", "([D[DIIII)Z"⟩ : MethodName) method_3_code 6 (some .boolean) :: ws) ({ frames := 0, cells := 0, slots := 0, locals := 0 } : Room)) (fun a U => a = #[(.ref ya), (.ref za), (.int (1 : Int32)), (.int (1 : Int32)), (.int v), (.int f)] ∧ Z.Warmed39 U.vm ∧ U.heap = h0) (fun _ _ _ _ _ => True) (fun _ U o U' => ∃ v L, o = .returned v ∧ own_QP (some (.int (1 : Int32))) h0 n0 v U'.heap L ∧ FrameEnd U o U' L ({ frames := 0, cells := 0, slots := 0, locals := 0 } : Room).cells ({ frames := 0, cells := 0, slots := 0, locals := 0 } : Room).slots) := by
  refine MetFree.of_bodySF (plainFor_of_name own_pn_com_example_differentia_differentia_problems_Cec2013TransformsScalePinLaw) hisR ?_
  intro p e s m args below meth c s₁ Bd hml0 hP hK
  obtain ⟨rfl, hZ, hh⟩ := hP
  have hx := Bd.exec
  have hby := Bd.bytes
  have hml : c.maxLocals = 6 := hml0
  have hown : s.vm.findClass "com/example/differentia/differentia/problems/Cec2013TransformsScalePinLaw" = some m.cls := findClass_of_methodNamed Bd.named
  have hnm := (name_of_methodNamed Bd.named Bd.method).1
  have X0 : Stand p l e ({ frames := 0, cells := 0, slots := 0, locals := 0 } : Room) s m #[(.ref ya), (.ref za), (.int (1 : Int32)), (.int (1 : Int32)), (.int v), (.int f)] below meth c s₁ [] 0 0 := Stand.of_body Bd
  have e0 : s₁.heap = h0 := by rw [← hh, Bd.state]; rfl
  have N0 := Fr.nil n0
  have pre0 : ∀ t, Steps p.tables e below (s₁.setTop (mkF m 0 #[.val (.ref ya), .val (.ref za), .val (.int (1 : Int32)), .val (.int (1 : Int32)), .val (.int v), .val (.int f)] [])) t → Steps p.tables e below (s₁.setTop (entryFrame m #[(.ref ya), (.ref za), (.int (1 : Int32)), (.int (1 : Int32)), (.int v), (.int f)] 6)) t := fun t k => castTop (own_ef_e11 m ya za v f) k
  obtain ⟨fs, hr, hrun, hended, hW, hsame⟩ := X0.leave (v := some (.int (1 : Int32))) (fun h => by rw [Bd.returns] at h; cases h)
  refine ⟨_, _, pre0 _ ?_, hrun, hended, _, _, rfl, ?_, ⟨_, rfl⟩, hW, hsame.mono (by decide) (by decide)⟩
  · refine own_s_iloadN X0.here hx (hb hby own_d3_0) (pc' := 1) rfl rfl ?_
    refine own_s_iloadN X0.here hx (hb hby own_d3_1) (pc' := 2) rfl rfl ?_
    refine own_s_icmpNo X0.here hx (hb hby own_d3_2) (pc' := 5) rfl (by decide) ?_
    refine own_s_iconst X0.here hx (hb hby own_d3_5) (pc' := 6) rfl (v := (1 : Int32)) (by decide) ?_
    exact retN X0 hx (t := .boolean) Bd.returns (by simp) (hb hby own_d3_6) hr
  · show own_QP (some (.int (1 : Int32))) h0 n0 _ s₁.heap _
    rw [e0]
    exact ⟨rfl, N0, rfl⟩
theorem own_ef_e12 (m : MethodId) (ya : Addr) (za : Addr) (v : Int32) (f : Int32) : entryFrame m #[(.ref ya), (.ref za), (.int (2 : Int32)), (.int (1 : Int32)), (.int v), (.int f)] 6 = mkF m 0 #[.val (.ref ya), .val (.ref za), .val (.int (2 : Int32)), .val (.int (1 : Int32)), .val (.int v), .val (.int f)] [] := by first | (simp [entryFrame, mkF, argsToLocals, Value.category]; done) | rfl
set_option maxRecDepth 65536 in
set_option maxHeartbeats 40000000 in
theorem own_rm_e12 (l : Launch) (Z : State) (a0 : Array Value) (hw : ∀ d ∈ tables_1, d.before a0 Z = true) (ws : List Jvm.Cond) (ya : Addr) (d0 : UInt64) (za : Addr) (ee0 : UInt64) (v : Int32) (f : Int32) {yak : ClassId} {zak : ClassId} (h0 : Heap) (n0 : Nat) (Z0 : n0 ≤ h0.size) (V_ya : Arv Z h0 ya yak .double (1 : Int32) [(.double d0)] (.double 0)) (V_za : Arv Z h0 za zak .double (1 : Int32) [(.double ee0)] (.double 0))  :
    MetFree l (⟨"com/example/differentia/differentia/problems/Cec2013TransformsScalePinLaw", "entry", "([D[DIIII)Z"⟩ : MethodName) (head1 (Jvm.Cond.code (⟨"com/example/differentia/differentia/problems/Cec2013TransformsScalePinLaw", "entry", "([D[DIIII)Z"⟩ : MethodName) method_3_code 6 (some .boolean) :: ws) ({ frames := 0, cells := 0, slots := 0, locals := 0 } : Room)) (fun a U => a = #[(.ref ya), (.ref za), (.int (2 : Int32)), (.int (1 : Int32)), (.int v), (.int f)] ∧ Z.Warmed39 U.vm ∧ U.heap = h0) (fun _ _ _ _ _ => True) (fun _ U o U' => ∃ v L, o = .returned v ∧ own_QP (some (.int (1 : Int32))) h0 n0 v U'.heap L ∧ FrameEnd U o U' L ({ frames := 0, cells := 0, slots := 0, locals := 0 } : Room).cells ({ frames := 0, cells := 0, slots := 0, locals := 0 } : Room).slots) := by
  refine MetFree.of_bodySF (plainFor_of_name own_pn_com_example_differentia_differentia_problems_Cec2013TransformsScalePinLaw) hisR ?_
  intro p e s m args below meth c s₁ Bd hml0 hP hK
  obtain ⟨rfl, hZ, hh⟩ := hP
  have hx := Bd.exec
  have hby := Bd.bytes
  have hml : c.maxLocals = 6 := hml0
  have hown : s.vm.findClass "com/example/differentia/differentia/problems/Cec2013TransformsScalePinLaw" = some m.cls := findClass_of_methodNamed Bd.named
  have hnm := (name_of_methodNamed Bd.named Bd.method).1
  have X0 : Stand p l e ({ frames := 0, cells := 0, slots := 0, locals := 0 } : Room) s m #[(.ref ya), (.ref za), (.int (2 : Int32)), (.int (1 : Int32)), (.int v), (.int f)] below meth c s₁ [] 0 0 := Stand.of_body Bd
  have e0 : s₁.heap = h0 := by rw [← hh, Bd.state]; rfl
  have N0 := Fr.nil n0
  have pre0 : ∀ t, Steps p.tables e below (s₁.setTop (mkF m 0 #[.val (.ref ya), .val (.ref za), .val (.int (2 : Int32)), .val (.int (1 : Int32)), .val (.int v), .val (.int f)] [])) t → Steps p.tables e below (s₁.setTop (entryFrame m #[(.ref ya), (.ref za), (.int (2 : Int32)), (.int (1 : Int32)), (.int v), (.int f)] 6)) t := fun t k => castTop (own_ef_e12 m ya za v f) k
  obtain ⟨fs, hr, hrun, hended, hW, hsame⟩ := X0.leave (v := some (.int (1 : Int32))) (fun h => by rw [Bd.returns] at h; cases h)
  refine ⟨_, _, pre0 _ ?_, hrun, hended, _, _, rfl, ?_, ⟨_, rfl⟩, hW, hsame.mono (by decide) (by decide)⟩
  · refine own_s_iloadN X0.here hx (hb hby own_d3_0) (pc' := 1) rfl rfl ?_
    refine own_s_iloadN X0.here hx (hb hby own_d3_1) (pc' := 2) rfl rfl ?_
    refine own_s_icmpNo X0.here hx (hb hby own_d3_2) (pc' := 5) rfl (by decide) ?_
    refine own_s_iconst X0.here hx (hb hby own_d3_5) (pc' := 6) rfl (v := (1 : Int32)) (by decide) ?_
    exact retN X0 hx (t := .boolean) Bd.returns (by simp) (hb hby own_d3_6) hr
  · show own_QP (some (.int (1 : Int32))) h0 n0 _ s₁.heap _
    rw [e0]
    exact ⟨rfl, N0, rfl⟩
theorem own_ef_w1 (m : MethodId) (p0 : Int32) (p1 : Int32) (p2 : Int32) (p3 : Int32) (p4 : Int32) : entryFrame m #[(.int p0), (.int p1), (.int p2), (.int p3), (.int p4)] maxLocals = mkF m 0 #[.val (.int p0), .val (.int p1), .val (.int p2), .val (.int p3), .val (.int p4), .unset, .unset, .unset, .unset, .unset, .unset, .unset] [] := by first | (simp [entryFrame, mkF, argsToLocals, Value.category, maxLocals]; done) | rfl
set_option maxRecDepth 65536 in
set_option maxHeartbeats 40000000 in
theorem own_rm_w1 (l : Launch) (Z : State) (a0 : Array Value) (hw : ∀ d ∈ tables_1, d.before a0 Z = true) (ws : List Jvm.Cond) (p0 : Int32) (p1 : Int32) (p2 : Int32) (p3 : Int32) (p4 : Int32) {w1_c7_s_v3 : Int32} {w1_c7_s_v6 : Int32} {w1_c13_s_v3 : Int32} {w1_c13_s_v6 : Int32} {w1_c19_s_v3 : Int32} {w1_c19_s_v6 : Int32} {w1_c25_s_v3 : Int32} {w1_c25_s_v6 : Int32} {w1_c79_c1_v23 : UInt64} {w1_c117_e10_v22 : Int64} {w1_c117_e10_v25 : Int64} {w1_c117_e10_v26 : Int64} (h0 : Heap) (n0 : Nat) (Z0 : n0 ≤ h0.size)  (w1_hv3 : p4 &&& (3 : Int32) = (1 : Int32)) (w1_c7_s_hv3 : p0 <<< ((12 : Int32) &&& 31) = w1_c7_s_v3) (w1_c7_s_hv6 : w1_c7_s_v3 >>> ((12 : Int32) &&& 31) = w1_c7_s_v6) (w1_c13_s_hv3 : p1 <<< ((12 : Int32) &&& 31) = w1_c13_s_v3) (w1_c13_s_hv6 : w1_c13_s_v3 >>> ((12 : Int32) &&& 31) = w1_c13_s_v6) (w1_c19_s_hv3 : p2 <<< ((12 : Int32) &&& 31) = w1_c19_s_v3) (w1_c19_s_hv6 : w1_c19_s_v3 >>> ((12 : Int32) &&& 31) = w1_c19_s_v6) (w1_c25_s_hv3 : p3 <<< ((12 : Int32) &&& 31) = w1_c25_s_v3) (w1_c25_s_hv6 : w1_c25_s_v3 >>> ((12 : Int32) &&& 31) = w1_c25_s_v6) (w1_c79_c1_hn23 : Jvm.Free.Fl.NoNaN64 (FP.dmul (FP.i2d w1_c7_s_v6) (FP.i2d w1_c25_s_v6))) (w1_c79_c1_hv23 : FP.dmul (FP.i2d w1_c7_s_v6) (FP.i2d w1_c25_s_v6) = w1_c79_c1_v23) (w1_c117_e10_hc13 : Op.cmpValue (FP.dcmp (FP.i2d w1_c7_s_v6) (FP.i2d w1_c7_s_v6)) .l = (0 : Int32)) (w1_c117_e10_hv22 : Int32.toInt64 w1_c7_s_v6 = w1_c117_e10_v22) (w1_c117_e10_hv25 : Int32.toInt64 w1_c25_s_v6 = w1_c117_e10_v25) (w1_c117_e10_hv26 : w1_c117_e10_v22 * w1_c117_e10_v25 = w1_c117_e10_v26) (w1_c117_e10_hc28 : Op.cmpValue (FP.dcmp w1_c79_c1_v23 (FP.l2d w1_c117_e10_v26)) .l = (0 : Int32)) :
    MetFree l x (head1 (Jvm.Cond.code x code maxLocals ret :: ws) room_1) (fun a U => a = #[(.int p0), (.int p1), (.int p2), (.int p3), (.int p4)] ∧ Z.Warmed39 U.vm ∧ U.heap = h0) (fun _ _ _ _ _ => True) (fun _ U o U' => ∃ v L, o = .returned v ∧ own_Q0 n0 v U'.heap L ∧ FrameEnd U o U' L room_1.cells room_1.slots) := by
  refine MetFree.of_bodySF (plainFor_of_name own_pn_com_example_differentia_differentia_problems_Cec2013TransformsScalePinLaw) hisR ?_
  intro p e s m args below meth c s₁ Bd hml0 hP hK
  obtain ⟨rfl, hZ, hh⟩ := hP
  have hx := Bd.exec
  have hby := Bd.bytes
  have hml : c.maxLocals = 12 := hml0
  have hown : s.vm.findClass "com/example/differentia/differentia/problems/Cec2013TransformsScalePinLaw" = some m.cls := findClass_of_methodNamed Bd.named
  have hnm := (name_of_methodNamed Bd.named Bd.method).1
  have X0 : Stand p l e room_1 s m #[(.int p0), (.int p1), (.int p2), (.int p3), (.int p4)] below meth c s₁ [] 0 0 := Stand.of_body Bd
  have e0 : s₁.heap = h0 := by rw [← hh, Bd.state]; rfl
  have N0 := Fr.nil n0
  have pre0 : ∀ t, Steps p.tables e below (s₁.setTop (mkF m 0 #[.val (.int p0), .val (.int p1), .val (.int p2), .val (.int p3), .val (.int p4), .unset, .unset, .unset, .unset, .unset, .unset, .unset] [])) t → Steps p.tables e below (s₁.setTop (entryFrame m #[(.int p0), (.int p1), (.int p2), (.int p3), (.int p4)] maxLocals)) t := fun t k => castTop (own_ef_w1 m p0 p1 p2 p3 p4) k
  obtain ⟨_, _, ⟨Tw11, Lw11, kw11, nw11⟩, -, Xw11, ⟨Lcw11, hQw11, lw11, yw11, zw11⟩, stw11⟩ := Jvm.LawKit.callS X0 hx (y := (⟨"com/example/differentia/differentia/problems/Cec2013TransformsScalePinLaw", "small", "(I)I"⟩ : MethodName)) hown (mvT hZ (hw _ (List.mem_of_getElem? (i := 0) rfl))) (mvT hZ (hw _ (List.mem_of_getElem? (i := 1) rfl))) (mvT hZ (hw _ (List.mem_of_getElem? (i := 2) rfl))) (mvT hZ (hw _ (List.mem_of_getElem? (i := 3) rfl))) (by decide) (backOf (W := 0) (own_rm_s l Z a0 hw [] p0 h0 n0 Z0 w1_c7_s_hv3 w1_c7_s_hv6) hZ (hw _ (List.mem_of_getElem? (i := 3) rfl)) (hw _ (List.mem_of_getElem? (i := 2) rfl)) (by decide) (by decide)) (g := (mkF m 7 #[.val (.int p0), .val (.int p1), .val (.int p2), .val (.int p3), .val (.int p4), .val (.int (1 : Int32)), .unset, .unset, .unset, .unset, .unset, .unset] [(.int p0)])) rfl (by rw [hml]; rfl) (argsL := [(.int p0)]) (rest := []) (lenOf own_pd_28I29I rfl) rfl (by show 2 * 0 + _ ≤ _; exact Nat.le_of_eq rfl) (hb hby at_7) (fun _ _ => ⟨rfl, e0, (by decide : 0 + 0 ≤ _), (by decide : 0 + 0 ≤ _)⟩)
  dsimp only [Pt.U, Pt.locs, Pt.cells, Pt.slots] at Xw11 lw11 yw11 zw11 stw11 hQw11
  subst lw11 yw11 zw11
  obtain ⟨rfl, Nw11q, ew11⟩ := hQw11
  have Nw11 := Fr.app N0 Nw11q
  obtain ⟨_, _, ⟨Tw12, Lw12, kw12, nw12⟩, -, Xw12, ⟨Lcw12, hQw12, lw12, yw12, zw12⟩, stw12⟩ := Jvm.LawKit.callS Xw11 hx (y := (⟨"com/example/differentia/differentia/problems/Cec2013TransformsScalePinLaw", "small", "(I)I"⟩ : MethodName)) hown (mvT hZ (hw _ (List.mem_of_getElem? (i := 0) rfl))) (mvT hZ (hw _ (List.mem_of_getElem? (i := 1) rfl))) (mvT hZ (hw _ (List.mem_of_getElem? (i := 2) rfl))) (mvT hZ (hw _ (List.mem_of_getElem? (i := 3) rfl))) (by decide) (backOf (W := 0) (own_rm_s l Z a0 hw [] p1 h0 n0 Z0 w1_c13_s_hv3 w1_c13_s_hv6) hZ (hw _ (List.mem_of_getElem? (i := 3) rfl)) (hw _ (List.mem_of_getElem? (i := 2) rfl)) (by decide) (by decide)) (g := (mkF m 13 #[.val (.int p0), .val (.int p1), .val (.int p2), .val (.int p3), .val (.int p4), .val (.int (1 : Int32)), .val (.int w1_c7_s_v6), .unset, .unset, .unset, .unset, .unset] [(.int p1)])) rfl (by rw [hml]; rfl) (argsL := [(.int p1)]) (rest := []) (lenOf own_pd_28I29I rfl) rfl (by show 2 * 0 + _ ≤ _; exact Nat.le_of_eq rfl) (hb hby at_13) (fun _ _ => ⟨rfl, ew11, (by decide : 0 + 0 ≤ _), (by decide : 0 + 0 ≤ _)⟩)
  dsimp only [Pt.U, Pt.locs, Pt.cells, Pt.slots] at Xw12 lw12 yw12 zw12 stw12 hQw12
  subst lw12 yw12 zw12
  obtain ⟨rfl, Nw12q, ew12⟩ := hQw12
  have Nw12 := Fr.app Nw11 Nw12q
  obtain ⟨_, _, ⟨Tw13, Lw13, kw13, nw13⟩, -, Xw13, ⟨Lcw13, hQw13, lw13, yw13, zw13⟩, stw13⟩ := Jvm.LawKit.callS Xw12 hx (y := (⟨"com/example/differentia/differentia/problems/Cec2013TransformsScalePinLaw", "small", "(I)I"⟩ : MethodName)) hown (mvT hZ (hw _ (List.mem_of_getElem? (i := 0) rfl))) (mvT hZ (hw _ (List.mem_of_getElem? (i := 1) rfl))) (mvT hZ (hw _ (List.mem_of_getElem? (i := 2) rfl))) (mvT hZ (hw _ (List.mem_of_getElem? (i := 3) rfl))) (by decide) (backOf (W := 0) (own_rm_s l Z a0 hw [] p2 h0 n0 Z0 w1_c19_s_hv3 w1_c19_s_hv6) hZ (hw _ (List.mem_of_getElem? (i := 3) rfl)) (hw _ (List.mem_of_getElem? (i := 2) rfl)) (by decide) (by decide)) (g := (mkF m 19 #[.val (.int p0), .val (.int p1), .val (.int p2), .val (.int p3), .val (.int p4), .val (.int (1 : Int32)), .val (.int w1_c7_s_v6), .val (.int w1_c13_s_v6), .unset, .unset, .unset, .unset] [(.int p2)])) rfl (by rw [hml]; rfl) (argsL := [(.int p2)]) (rest := []) (lenOf own_pd_28I29I rfl) rfl (by show 2 * 0 + _ ≤ _; exact Nat.le_of_eq rfl) (hb hby at_19) (fun _ _ => ⟨rfl, ew12, (by decide : 0 + 0 ≤ _), (by decide : 0 + 0 ≤ _)⟩)
  dsimp only [Pt.U, Pt.locs, Pt.cells, Pt.slots] at Xw13 lw13 yw13 zw13 stw13 hQw13
  subst lw13 yw13 zw13
  obtain ⟨rfl, Nw13q, ew13⟩ := hQw13
  have Nw13 := Fr.app Nw12 Nw13q
  obtain ⟨_, _, ⟨Tw14, Lw14, kw14, nw14⟩, -, Xw14, ⟨Lcw14, hQw14, lw14, yw14, zw14⟩, stw14⟩ := Jvm.LawKit.callS Xw13 hx (y := (⟨"com/example/differentia/differentia/problems/Cec2013TransformsScalePinLaw", "small", "(I)I"⟩ : MethodName)) hown (mvT hZ (hw _ (List.mem_of_getElem? (i := 0) rfl))) (mvT hZ (hw _ (List.mem_of_getElem? (i := 1) rfl))) (mvT hZ (hw _ (List.mem_of_getElem? (i := 2) rfl))) (mvT hZ (hw _ (List.mem_of_getElem? (i := 3) rfl))) (by decide) (backOf (W := 0) (own_rm_s l Z a0 hw [] p3 h0 n0 Z0 w1_c25_s_hv3 w1_c25_s_hv6) hZ (hw _ (List.mem_of_getElem? (i := 3) rfl)) (hw _ (List.mem_of_getElem? (i := 2) rfl)) (by decide) (by decide)) (g := (mkF m 25 #[.val (.int p0), .val (.int p1), .val (.int p2), .val (.int p3), .val (.int p4), .val (.int (1 : Int32)), .val (.int w1_c7_s_v6), .val (.int w1_c13_s_v6), .val (.int w1_c19_s_v6), .unset, .unset, .unset] [(.int p3)])) rfl (by rw [hml]; rfl) (argsL := [(.int p3)]) (rest := []) (lenOf own_pd_28I29I rfl) rfl (by show 2 * 0 + _ ≤ _; exact Nat.le_of_eq rfl) (hb hby at_25) (fun _ _ => ⟨rfl, ew13, (by decide : 0 + 0 ≤ _), (by decide : 0 + 0 ≤ _)⟩)
  dsimp only [Pt.U, Pt.locs, Pt.cells, Pt.slots] at Xw14 lw14 yw14 zw14 stw14 hQw14
  subst lw14 yw14 zw14
  obtain ⟨rfl, Nw14q, ew14⟩ := hQw14
  have Nw14 := Fr.app Nw13 Nw14q
  obtain ⟨Tw15, hw15, kw15, bw15, Xw15, ew15, Ew15, Gw15, Vw15, stw15⟩ := own_newD (L := #[.val (.int p0), .val (.int p1), .val (.int p2), .val (.int p3), .val (.int p4), .val (.int (1 : Int32)), .val (.int w1_c7_s_v6), .val (.int w1_c13_s_v6), .val (.int w1_c19_s_v6), .val (.int w1_c25_s_v6), .unset, .unset]) (S := []) Xw14 hx hZ (hw _ (List.mem_of_getElem? (i := 4) rfl)) ew14 (z := (1 : Int32)) 1 (by decide) (by decide) (by decide) (by decide) (by decide) (hb hby at_32) (pc' := 34) rfl
  have g_bw15 : n0 ≤ bw15 := Nat.le_trans Z0 (Nat.le_of_eq Gw15.symm)
  have sz_bw15 : h0.size ≤ bw15 := Nat.le_trans (Keep.refl h0 []).1 (Nat.le_of_eq Gw15.symm)
  have Zw15 : n0 ≤ hw15.size := Nat.le_trans Z0 Ew15.1
  have KKw15 := (Keep.refl h0 []).ext Ew15
  have V_bw15 : Arv Z hw15 bw15 kw15 .double (1 : Int32) [(.double 0)] (.double 0) := Vw15
  obtain ⟨Tw16, hw16, Xw16, ew16, Ww16, Vw16, stw16⟩ := own_stD (L := #[.val (.int p0), .val (.int p1), .val (.int p2), .val (.int p3), .val (.int p4), .val (.int (1 : Int32)), .val (.int w1_c7_s_v6), .val (.int w1_c13_s_v6), .val (.int w1_c19_s_v6), .val (.int w1_c25_s_v6), .val (.ref bw15), .unset]) (S := []) Xw15 hx hZ ew15 V_bw15 (j := (0 : Int32)) (x := (FP.i2d w1_c7_s_v6)) (by decide) 0 (by decide) (Nat.le_of_ble_eq_true rfl) (hb hby at_47) (pc' := 48) rfl
  have Zw16 : n0 ≤ hw16.size := Nat.le_trans Zw15 (Nat.le_of_eq Ww16.size.symm)
  have KKw16 := KKw15.wr Ww16 (Or.inr sz_bw15)
  have V_bw15_w16 : Arv Z hw16 bw15 kw15 .double (1 : Int32) [(.double (FP.i2d w1_c7_s_v6))] (.double 0) := Vw16
  have Nw16 := Fr.snoc Xw16 Nw14 g_bw15
  obtain ⟨_, _, ⟨Tw17, Lw17, kw17, nw17⟩, -, Xw17, ⟨Lcw17, hQw17, lw17, yw17, zw17⟩, stw17⟩ := Jvm.LawKit.callS Xw16 hx (y := (⟨"com/example/differentia/differentia/problems/Cec2013Transforms", "scale", "([DD)[D"⟩ : MethodName)) hown (mvT hZ (hw _ (List.mem_of_getElem? (i := 5) rfl))) (mvT hZ (hw _ (List.mem_of_getElem? (i := 6) rfl))) (mvT hZ (hw _ (List.mem_of_getElem? (i := 7) rfl))) (mvT hZ (hw _ (List.mem_of_getElem? (i := 8) rfl))) (by decide) (backOf (W := 0) (own_rm_c1 l Z a0 hw [] bw15 (FP.i2d w1_c7_s_v6) (FP.i2d w1_c25_s_v6) hw16 n0 Zw16 V_bw15_w16 w1_c79_c1_hn23 w1_c79_c1_hv23) hZ (hw _ (List.mem_of_getElem? (i := 8) rfl)) (hw _ (List.mem_of_getElem? (i := 7) rfl)) (by decide) (by decide)) (g := (mkF m 79 #[.val (.int p0), .val (.int p1), .val (.int p2), .val (.int p3), .val (.int p4), .val (.int (1 : Int32)), .val (.int w1_c7_s_v6), .val (.int w1_c13_s_v6), .val (.int w1_c19_s_v6), .val (.int w1_c25_s_v6), .val (.ref bw15), .unset] [(.double (FP.i2d w1_c25_s_v6)), (.ref bw15)])) rfl (by rw [hml]; rfl) (argsL := [(.ref bw15), (.double (FP.i2d w1_c25_s_v6))]) (rest := []) (lenOf own_pd_285bDD295bD rfl) rfl (by show 2 * 0 + _ ≤ _; exact Nat.le_of_eq rfl) (hb hby at_79) (fun _ _ => ⟨rfl, ew16, (by decide : 1 + 1 ≤ _), (by decide : 1 + 1 ≤ _)⟩)
  dsimp only [Pt.U, Pt.locs, Pt.cells, Pt.slots] at Xw17 lw17 yw17 zw17 stw17 hQw17
  subst lw17 yw17 zw17
  obtain ⟨bw17, kw17a, rfl, Nw17q, Kw17, Gw17, qw17_0⟩ := hQw17
  have ne_bw15_bw17 : bw15 ≠ bw17 := Nat.ne_of_lt (Nat.lt_of_lt_of_le V_bw15_w16.lt Gw17)
  have ne_bw17_bw15 : bw17 ≠ bw15 := Ne.symm ne_bw15_bw17
  have g_bw17 : n0 ≤ bw17 := Nat.le_trans Zw16 Gw17
  have sz_bw17 : h0.size ≤ bw17 := Nat.le_trans KKw16.1 Gw17
  have V_bw15_w17 := V_bw15_w16.keep Kw17 (List.not_mem_nil)
  have Zw17 : n0 ≤ Tw17.heap.size := Nat.le_trans Zw16 Kw17.1
  have KKw17 := KKw16.trans Kw17 (fun _ q => nomatch q)
  have Nw17 := Fr.app Nw16 Nw17q
  obtain ⟨_, _, ⟨Tw18, Lw18, kw18, nw18⟩, -, Xw18, ⟨Lcw18, hQw18, lw18, yw18, zw18⟩, stw18⟩ := Jvm.LawKit.callS Xw17 hx (y := (⟨"com/example/differentia/differentia/problems/Cec2013TransformsScalePinLaw", "entry", "([D[DIIII)Z"⟩ : MethodName)) hown (mvT hZ (hw _ (List.mem_of_getElem? (i := 9) rfl))) (mvT hZ (hw _ (List.mem_of_getElem? (i := 10) rfl))) (mvT hZ (hw _ (List.mem_of_getElem? (i := 2) rfl))) (mvT hZ (hw _ (List.mem_of_getElem? (i := 11) rfl))) (by decide) (backOf (W := 0) (own_rm_e10 l Z a0 hw [] bw15 (FP.i2d w1_c7_s_v6) bw17 w1_c79_c1_v23 w1_c7_s_v6 w1_c25_s_v6 Tw17.heap n0 Zw17 V_bw15_w17 qw17_0 w1_c117_e10_hc13 w1_c117_e10_hv22 w1_c117_e10_hv25 w1_c117_e10_hv26 w1_c117_e10_hc28) hZ (hw _ (List.mem_of_getElem? (i := 11) rfl)) (hw _ (List.mem_of_getElem? (i := 2) rfl)) (by decide) (by decide)) (g := (mkF m 117 #[.val (.int p0), .val (.int p1), .val (.int p2), .val (.int p3), .val (.int p4), .val (.int (1 : Int32)), .val (.int w1_c7_s_v6), .val (.int w1_c13_s_v6), .val (.int w1_c19_s_v6), .val (.int w1_c25_s_v6), .val (.ref bw15), .val (.ref bw17)] [(.int w1_c25_s_v6), (.int w1_c7_s_v6), (.int (1 : Int32)), (.int (0 : Int32)), (.ref bw17), (.ref bw15)])) rfl (by rw [hml]; rfl) (argsL := [(.ref bw15), (.ref bw17), (.int (0 : Int32)), (.int (1 : Int32)), (.int w1_c7_s_v6), (.int w1_c25_s_v6)]) (rest := []) (lenOf own_pd_285bD5bDIIII29Z rfl) rfl (by show 2 * 0 + _ ≤ _; exact Nat.le_of_eq rfl) (hb hby at_117) (fun _ _ => ⟨rfl, rfl, (by decide : 2 + 0 ≤ _), (by decide : 2 + 0 ≤ _)⟩)
  dsimp only [Pt.U, Pt.locs, Pt.cells, Pt.slots] at Xw18 lw18 yw18 zw18 stw18 hQw18
  subst lw18 yw18 zw18
  obtain ⟨rfl, Nw18q, ew18⟩ := hQw18
  have Nw18 := Fr.app Nw17 Nw18q
  obtain ⟨_, _, ⟨Tw19, Lw19, kw19, nw19⟩, -, Xw19, ⟨Lcw19, hQw19, lw19, yw19, zw19⟩, stw19⟩ := Jvm.LawKit.callS Xw18 hx (y := (⟨"com/example/differentia/differentia/problems/Cec2013TransformsScalePinLaw", "entry", "([D[DIIII)Z"⟩ : MethodName)) hown (mvT hZ (hw _ (List.mem_of_getElem? (i := 9) rfl))) (mvT hZ (hw _ (List.mem_of_getElem? (i := 10) rfl))) (mvT hZ (hw _ (List.mem_of_getElem? (i := 2) rfl))) (mvT hZ (hw _ (List.mem_of_getElem? (i := 11) rfl))) (by decide) (backOf (W := 0) (own_rm_e11 l Z a0 hw [] bw15 (FP.i2d w1_c7_s_v6) bw17 w1_c79_c1_v23 w1_c13_s_v6 w1_c25_s_v6 Tw17.heap n0 Zw17 V_bw15_w17 qw17_0) hZ (hw _ (List.mem_of_getElem? (i := 11) rfl)) (hw _ (List.mem_of_getElem? (i := 2) rfl)) (by decide) (by decide)) (g := (mkF m 134 #[.val (.int p0), .val (.int p1), .val (.int p2), .val (.int p3), .val (.int p4), .val (.int (1 : Int32)), .val (.int w1_c7_s_v6), .val (.int w1_c13_s_v6), .val (.int w1_c19_s_v6), .val (.int w1_c25_s_v6), .val (.ref bw15), .val (.ref bw17)] [(.int w1_c25_s_v6), (.int w1_c13_s_v6), (.int (1 : Int32)), (.int (1 : Int32)), (.ref bw17), (.ref bw15)])) rfl (by rw [hml]; rfl) (argsL := [(.ref bw15), (.ref bw17), (.int (1 : Int32)), (.int (1 : Int32)), (.int w1_c13_s_v6), (.int w1_c25_s_v6)]) (rest := []) (lenOf own_pd_285bD5bDIIII29Z rfl) rfl (by show 2 * 0 + _ ≤ _; exact Nat.le_of_eq rfl) (hb hby at_134) (fun _ _ => ⟨rfl, ew18, (by decide : 2 + 0 ≤ _), (by decide : 2 + 0 ≤ _)⟩)
  dsimp only [Pt.U, Pt.locs, Pt.cells, Pt.slots] at Xw19 lw19 yw19 zw19 stw19 hQw19
  subst lw19 yw19 zw19
  obtain ⟨rfl, Nw19q, ew19⟩ := hQw19
  have Nw19 := Fr.app Nw18 Nw19q
  obtain ⟨_, _, ⟨Tw110, Lw110, kw110, nw110⟩, -, Xw110, ⟨Lcw110, hQw110, lw110, yw110, zw110⟩, stw110⟩ := Jvm.LawKit.callS Xw19 hx (y := (⟨"com/example/differentia/differentia/problems/Cec2013TransformsScalePinLaw", "entry", "([D[DIIII)Z"⟩ : MethodName)) hown (mvT hZ (hw _ (List.mem_of_getElem? (i := 9) rfl))) (mvT hZ (hw _ (List.mem_of_getElem? (i := 10) rfl))) (mvT hZ (hw _ (List.mem_of_getElem? (i := 2) rfl))) (mvT hZ (hw _ (List.mem_of_getElem? (i := 11) rfl))) (by decide) (backOf (W := 0) (own_rm_e12 l Z a0 hw [] bw15 (FP.i2d w1_c7_s_v6) bw17 w1_c79_c1_v23 w1_c19_s_v6 w1_c25_s_v6 Tw17.heap n0 Zw17 V_bw15_w17 qw17_0) hZ (hw _ (List.mem_of_getElem? (i := 11) rfl)) (hw _ (List.mem_of_getElem? (i := 2) rfl)) (by decide) (by decide)) (g := (mkF m 151 #[.val (.int p0), .val (.int p1), .val (.int p2), .val (.int p3), .val (.int p4), .val (.int (1 : Int32)), .val (.int w1_c7_s_v6), .val (.int w1_c13_s_v6), .val (.int w1_c19_s_v6), .val (.int w1_c25_s_v6), .val (.ref bw15), .val (.ref bw17)] [(.int w1_c25_s_v6), (.int w1_c19_s_v6), (.int (1 : Int32)), (.int (2 : Int32)), (.ref bw17), (.ref bw15)])) rfl (by rw [hml]; rfl) (argsL := [(.ref bw15), (.ref bw17), (.int (2 : Int32)), (.int (1 : Int32)), (.int w1_c19_s_v6), (.int w1_c25_s_v6)]) (rest := []) (lenOf own_pd_285bD5bDIIII29Z rfl) rfl (by show 2 * 0 + _ ≤ _; exact Nat.le_of_eq rfl) (hb hby at_151) (fun _ _ => ⟨rfl, ew19, (by decide : 2 + 0 ≤ _), (by decide : 2 + 0 ≤ _)⟩)
  dsimp only [Pt.U, Pt.locs, Pt.cells, Pt.slots] at Xw110 lw110 yw110 zw110 stw110 hQw110
  subst lw110 yw110 zw110
  obtain ⟨rfl, Nw110q, ew110⟩ := hQw110
  have Nw110 := Fr.app Nw19 Nw110q
  obtain ⟨fs, hr, hrun, hended, hW, hsame⟩ := Xw110.leave (v := some (.int (1 : Int32))) (fun h => by rw [Bd.returns] at h; cases h)
  refine ⟨_, _, pre0 _ ?_, hrun, hended, _, _, rfl, ?_, ⟨_, rfl⟩, hW, hsame.mono (by decide) (by decide)⟩
  · refine own_s_iload X0.here hx (hb hby at_0) (pc' := 2) rfl rfl ?_
    refine own_s_iconst X0.here hx (hb hby at_2) (pc' := 3) rfl (v := (3 : Int32)) (by decide) ?_
    refine own_s_iand X0.here hx (hb hby at_3) (pc' := 4) rfl (v := (1 : Int32)) w1_hv3 ?_
    refine own_s_istore X0.here hx (hb hby at_4) (pc' := 6) rfl (L' := #[.val (.int p0), .val (.int p1), .val (.int p2), .val (.int p3), .val (.int p4), .val (.int (1 : Int32)), .unset, .unset, .unset, .unset, .unset, .unset]) rfl ?_
    refine own_s_iloadN X0.here hx (hb hby at_6) (pc' := 7) rfl rfl ?_
    refine stw11 _ ?_
    show Steps p.tables e below (Tw11.setTop (mkF m 10 #[.val (.int p0), .val (.int p1), .val (.int p2), .val (.int p3), .val (.int p4), .val (.int (1 : Int32)), .unset, .unset, .unset, .unset, .unset, .unset] [(.int w1_c7_s_v6)])) _
    refine own_s_istore Xw11.here hx (hb hby at_10) (pc' := 12) rfl (L' := #[.val (.int p0), .val (.int p1), .val (.int p2), .val (.int p3), .val (.int p4), .val (.int (1 : Int32)), .val (.int w1_c7_s_v6), .unset, .unset, .unset, .unset, .unset]) rfl ?_
    refine own_s_iloadN Xw11.here hx (hb hby at_12) (pc' := 13) rfl rfl ?_
    refine stw12 _ ?_
    show Steps p.tables e below (Tw12.setTop (mkF m 16 #[.val (.int p0), .val (.int p1), .val (.int p2), .val (.int p3), .val (.int p4), .val (.int (1 : Int32)), .val (.int w1_c7_s_v6), .unset, .unset, .unset, .unset, .unset] [(.int w1_c13_s_v6)])) _
    refine own_s_istore Xw12.here hx (hb hby at_16) (pc' := 18) rfl (L' := #[.val (.int p0), .val (.int p1), .val (.int p2), .val (.int p3), .val (.int p4), .val (.int (1 : Int32)), .val (.int w1_c7_s_v6), .val (.int w1_c13_s_v6), .unset, .unset, .unset, .unset]) rfl ?_
    refine own_s_iloadN Xw12.here hx (hb hby at_18) (pc' := 19) rfl rfl ?_
    refine stw13 _ ?_
    show Steps p.tables e below (Tw13.setTop (mkF m 22 #[.val (.int p0), .val (.int p1), .val (.int p2), .val (.int p3), .val (.int p4), .val (.int (1 : Int32)), .val (.int w1_c7_s_v6), .val (.int w1_c13_s_v6), .unset, .unset, .unset, .unset] [(.int w1_c19_s_v6)])) _
    refine own_s_istore Xw13.here hx (hb hby at_22) (pc' := 24) rfl (L' := #[.val (.int p0), .val (.int p1), .val (.int p2), .val (.int p3), .val (.int p4), .val (.int (1 : Int32)), .val (.int w1_c7_s_v6), .val (.int w1_c13_s_v6), .val (.int w1_c19_s_v6), .unset, .unset, .unset]) rfl ?_
    refine own_s_iloadN Xw13.here hx (hb hby at_24) (pc' := 25) rfl rfl ?_
    refine stw14 _ ?_
    show Steps p.tables e below (Tw14.setTop (mkF m 28 #[.val (.int p0), .val (.int p1), .val (.int p2), .val (.int p3), .val (.int p4), .val (.int (1 : Int32)), .val (.int w1_c7_s_v6), .val (.int w1_c13_s_v6), .val (.int w1_c19_s_v6), .unset, .unset, .unset] [(.int w1_c25_s_v6)])) _
    refine own_s_istore Xw14.here hx (hb hby at_28) (pc' := 30) rfl (L' := #[.val (.int p0), .val (.int p1), .val (.int p2), .val (.int p3), .val (.int p4), .val (.int (1 : Int32)), .val (.int w1_c7_s_v6), .val (.int w1_c13_s_v6), .val (.int w1_c19_s_v6), .val (.int w1_c25_s_v6), .unset, .unset]) rfl ?_
    refine own_s_iload Xw14.here hx (hb hby at_30) (pc' := 32) rfl rfl ?_
    refine stw15 _ ?_
    refine own_s_astore Xw15.here hx (hb hby at_34) (pc' := 36) rfl rfl (L' := #[.val (.int p0), .val (.int p1), .val (.int p2), .val (.int p3), .val (.int p4), .val (.int (1 : Int32)), .val (.int w1_c7_s_v6), .val (.int w1_c13_s_v6), .val (.int w1_c19_s_v6), .val (.int w1_c25_s_v6), .val (.ref bw15), .unset]) rfl ?_
    refine own_s_iload Xw15.here hx (hb hby at_36) (pc' := 38) rfl rfl ?_
    refine own_s_ifNo Xw15.here hx (hb hby at_38) (pc' := 41) rfl (by decide) ?_
    refine own_s_aload Xw15.here hx (hb hby at_41) (pc' := 43) rfl rfl rfl ?_
    refine own_s_iconst Xw15.here hx (hb hby at_43) (pc' := 44) rfl (v := (0 : Int32)) (by decide) ?_
    refine own_s_iload Xw15.here hx (hb hby at_44) (pc' := 46) rfl rfl ?_
    refine own_s_i2d Xw15.here hx (hb hby at_46) (pc' := 47) rfl (v := (FP.i2d w1_c7_s_v6)) rfl ?_
    refine stw16 _ ?_
    refine own_s_iload Xw16.here hx (hb hby at_48) (pc' := 50) rfl rfl ?_
    refine own_s_iconst Xw16.here hx (hb hby at_50) (pc' := 51) rfl (v := (1 : Int32)) (by decide) ?_
    refine own_s_icmpYes Xw16.here hx (hb hby at_51) (by decide) (pc' := 61) (by decide) (by decide) ?_
    refine own_s_iload Xw16.here hx (hb hby at_61) (pc' := 63) rfl rfl ?_
    refine own_s_iconst Xw16.here hx (hb hby at_63) (pc' := 64) rfl (v := (2 : Int32)) (by decide) ?_
    refine own_s_icmpYes Xw16.here hx (hb hby at_64) (by decide) (pc' := 74) (by decide) (by decide) ?_
    refine own_s_aload Xw16.here hx (hb hby at_74) (pc' := 76) rfl rfl rfl ?_
    refine own_s_iload Xw16.here hx (hb hby at_76) (pc' := 78) rfl rfl ?_
    refine own_s_i2d Xw16.here hx (hb hby at_78) (pc' := 79) rfl (v := (FP.i2d w1_c25_s_v6)) rfl ?_
    refine stw17 _ ?_
    show Steps p.tables e below (Tw17.setTop (mkF m 82 #[.val (.int p0), .val (.int p1), .val (.int p2), .val (.int p3), .val (.int p4), .val (.int (1 : Int32)), .val (.int w1_c7_s_v6), .val (.int w1_c13_s_v6), .val (.int w1_c19_s_v6), .val (.int w1_c25_s_v6), .val (.ref bw15), .unset] [(.ref bw17)])) _
    refine own_s_astore Xw17.here hx (hb hby at_82) (pc' := 84) rfl rfl (L' := #[.val (.int p0), .val (.int p1), .val (.int p2), .val (.int p3), .val (.int p4), .val (.int (1 : Int32)), .val (.int w1_c7_s_v6), .val (.int w1_c13_s_v6), .val (.int w1_c19_s_v6), .val (.int w1_c25_s_v6), .val (.ref bw15), .val (.ref bw17)]) rfl ?_
    refine own_s_aload Xw17.here hx (hb hby at_84) (pc' := 86) rfl rfl rfl ?_
    refine own_s_ifnullNo Xw17.here hx (hb hby at_86) (pc' := 89) rfl  ?_
    refine own_s_aload Xw17.here hx (hb hby at_89) (pc' := 91) rfl rfl rfl ?_
    refine own_s_aload Xw17.here hx (hb hby at_91) (pc' := 93) rfl rfl rfl ?_
    refine Jvm.RoadKit.acmp (g := (mkF m 93 #[.val (.int p0), .val (.int p1), .val (.int p2), .val (.int p3), .val (.int p4), .val (.int (1 : Int32)), .val (.int w1_c7_s_v6), .val (.int w1_c13_s_v6), .val (.int w1_c19_s_v6), .val (.int w1_c25_s_v6), .val (.ref bw15), .val (.ref bw17)] [(.ref bw15), (.ref bw17)])) Xw17 hx rfl rfl rfl (pc0 := 93) (pc' := 96) (same := false) rfl (hb hby at_93) rfl (decide_eq_false fun q => ne_bw17_bw15 (Value.ref.inj q)) (by decide) (by decide) ?_
    show Steps p.tables e below (Tw17.setTop (mkF m 96 #[.val (.int p0), .val (.int p1), .val (.int p2), .val (.int p3), .val (.int p4), .val (.int (1 : Int32)), .val (.int w1_c7_s_v6), .val (.int w1_c13_s_v6), .val (.int w1_c19_s_v6), .val (.int w1_c25_s_v6), .val (.ref bw15), .val (.ref bw17)] [])) _
    refine own_s_aload Xw17.here hx (hb hby at_96) (pc' := 98) rfl rfl rfl ?_
    refine own_len Xw17 hx hZ rfl qw17_0 (hb hby at_98) (pc' := 99) rfl ?_
    refine own_s_iload Xw17.here hx (hb hby at_99) (pc' := 101) rfl rfl ?_
    refine own_s_icmpYes Xw17.here hx (hb hby at_101) (by decide) (pc' := 106) (by decide) (by decide) ?_
    refine own_s_aload Xw17.here hx (hb hby at_106) (pc' := 108) rfl rfl rfl ?_
    refine own_s_aload Xw17.here hx (hb hby at_108) (pc' := 110) rfl rfl rfl ?_
    refine own_s_iconst Xw17.here hx (hb hby at_110) (pc' := 111) rfl (v := (0 : Int32)) (by decide) ?_
    refine own_s_iload Xw17.here hx (hb hby at_111) (pc' := 113) rfl rfl ?_
    refine own_s_iload Xw17.here hx (hb hby at_113) (pc' := 115) rfl rfl ?_
    refine own_s_iload Xw17.here hx (hb hby at_115) (pc' := 117) rfl rfl ?_
    refine stw18 _ ?_
    show Steps p.tables e below (Tw18.setTop (mkF m 120 #[.val (.int p0), .val (.int p1), .val (.int p2), .val (.int p3), .val (.int p4), .val (.int (1 : Int32)), .val (.int w1_c7_s_v6), .val (.int w1_c13_s_v6), .val (.int w1_c19_s_v6), .val (.int w1_c25_s_v6), .val (.ref bw15), .val (.ref bw17)] [(.int (1 : Int32))])) _
    refine own_s_ifNo Xw18.here hx (hb hby at_120) (pc' := 123) rfl (by decide) ?_
    refine own_s_aload Xw18.here hx (hb hby at_123) (pc' := 125) rfl rfl rfl ?_
    refine own_s_aload Xw18.here hx (hb hby at_125) (pc' := 127) rfl rfl rfl ?_
    refine own_s_iconst Xw18.here hx (hb hby at_127) (pc' := 128) rfl (v := (1 : Int32)) (by decide) ?_
    refine own_s_iload Xw18.here hx (hb hby at_128) (pc' := 130) rfl rfl ?_
    refine own_s_iload Xw18.here hx (hb hby at_130) (pc' := 132) rfl rfl ?_
    refine own_s_iload Xw18.here hx (hb hby at_132) (pc' := 134) rfl rfl ?_
    refine stw19 _ ?_
    show Steps p.tables e below (Tw19.setTop (mkF m 137 #[.val (.int p0), .val (.int p1), .val (.int p2), .val (.int p3), .val (.int p4), .val (.int (1 : Int32)), .val (.int w1_c7_s_v6), .val (.int w1_c13_s_v6), .val (.int w1_c19_s_v6), .val (.int w1_c25_s_v6), .val (.ref bw15), .val (.ref bw17)] [(.int (1 : Int32))])) _
    refine own_s_ifNo Xw19.here hx (hb hby at_137) (pc' := 140) rfl (by decide) ?_
    refine own_s_aload Xw19.here hx (hb hby at_140) (pc' := 142) rfl rfl rfl ?_
    refine own_s_aload Xw19.here hx (hb hby at_142) (pc' := 144) rfl rfl rfl ?_
    refine own_s_iconst Xw19.here hx (hb hby at_144) (pc' := 145) rfl (v := (2 : Int32)) (by decide) ?_
    refine own_s_iload Xw19.here hx (hb hby at_145) (pc' := 147) rfl rfl ?_
    refine own_s_iload Xw19.here hx (hb hby at_147) (pc' := 149) rfl rfl ?_
    refine own_s_iload Xw19.here hx (hb hby at_149) (pc' := 151) rfl rfl ?_
    refine stw110 _ ?_
    show Steps p.tables e below (Tw110.setTop (mkF m 154 #[.val (.int p0), .val (.int p1), .val (.int p2), .val (.int p3), .val (.int p4), .val (.int (1 : Int32)), .val (.int w1_c7_s_v6), .val (.int w1_c13_s_v6), .val (.int w1_c19_s_v6), .val (.int w1_c25_s_v6), .val (.ref bw15), .val (.ref bw17)] [(.int (1 : Int32))])) _
    refine own_s_ifNo Xw110.here hx (hb hby at_154) (pc' := 157) rfl (by decide) ?_
    refine own_s_iconst Xw110.here hx (hb hby at_157) (pc' := 158) rfl (v := (1 : Int32)) (by decide) ?_
    refine own_s_goto Xw110.here hx (hb hby at_158) (by decide) (pc' := 162) (by decide) ?_
    exact retN Xw110 hx (t := .boolean) Bd.returns (by simp) (hb hby at_162) hr
  · show own_Q0 n0 _ Tw110.heap _
    rw [ew110]
    exact ⟨rfl, Nw110⟩
theorem own_ef_c2 (m : MethodId) (q : Addr) (f : UInt64) : entryFrame m #[(.ref q), (.double f)] 5 = mkF m 0 #[.val (.ref q), .val (.double f), .second, .unset, .unset] [] := by first | (simp [entryFrame, mkF, argsToLocals, Value.category]; done) | rfl
def own_Q_c2 (Z : State) (q : Addr) (d0 : UInt64) (d1 : UInt64) (f : UInt64) (qk : ClassId) (c2_v23 : UInt64) (c2_v23_2 : UInt64) (h0 : Heap) (n0 : Nat) (v : Option Value) (h : Heap) (L : List Loc) : Prop := ∃ (bc21 : Addr) (kc21 : ClassId), v = some (.ref bc21) ∧ Fr n0 L ∧ Keep h0 h [] ∧ h0.size ≤ bc21 ∧ Arv Z h bc21 kc21 .double (2 : Int32) [(.double c2_v23), (.double c2_v23_2)] (.double 0)
set_option maxRecDepth 65536 in
set_option maxHeartbeats 40000000 in
theorem own_rm_c2 (l : Launch) (Z : State) (a0 : Array Value) (hw : ∀ d ∈ tables_1, d.before a0 Z = true) (ws : List Jvm.Cond) (q : Addr) (d0 : UInt64) (d1 : UInt64) (f : UInt64) {qk : ClassId} {c2_v23 : UInt64} {c2_v23_2 : UInt64} (h0 : Heap) (n0 : Nat) (Z0 : n0 ≤ h0.size) (V_q : Arv Z h0 q qk .double (2 : Int32) [(.double d0), (.double d1)] (.double 0)) (c2_hn23 : Jvm.Free.Fl.NoNaN64 (FP.dmul d0 f)) (c2_hv23 : FP.dmul d0 f = c2_v23) (c2_hn23_2 : Jvm.Free.Fl.NoNaN64 (FP.dmul d1 f)) (c2_hv23_2 : FP.dmul d1 f = c2_v23_2) :
    MetFree l (⟨"com/example/differentia/differentia/problems/Cec2013Transforms", "scale", "([DD)[D"⟩ : MethodName) (head1 (Jvm.Cond.code (⟨"com/example/differentia/differentia/problems/Cec2013Transforms", "scale", "([DD)[D"⟩ : MethodName) prog_63_method_3_code 5 (some (.array .double)) :: ws) ({ frames := 0, cells := 1, slots := 2, locals := 0 } : Room)) (fun a U => a = #[(.ref q), (.double f)] ∧ Z.Warmed39 U.vm ∧ U.heap = h0) (fun _ _ _ _ _ => True) (fun _ U o U' => ∃ v L, o = .returned v ∧ own_Q_c2 Z q d0 d1 f qk c2_v23 c2_v23_2 h0 n0 v U'.heap L ∧ FrameEnd U o U' L ({ frames := 0, cells := 1, slots := 2, locals := 0 } : Room).cells ({ frames := 0, cells := 1, slots := 2, locals := 0 } : Room).slots) := by
  refine MetFree.of_bodySF (plainFor_of_name own_pn_com_example_differentia_differentia_problems_Cec2013Transforms) hisR ?_
  intro p e s m args below meth c s₁ Bd hml0 hP hK
  obtain ⟨rfl, hZ, hh⟩ := hP
  have hx := Bd.exec
  have hby := Bd.bytes
  have hml : c.maxLocals = 5 := hml0
  have hown : s.vm.findClass "com/example/differentia/differentia/problems/Cec2013Transforms" = some m.cls := findClass_of_methodNamed Bd.named
  have hnm := (name_of_methodNamed Bd.named Bd.method).1
  have X0 : Stand p l e ({ frames := 0, cells := 1, slots := 2, locals := 0 } : Room) s m #[(.ref q), (.double f)] below meth c s₁ [] 0 0 := Stand.of_body Bd
  have e0 : s₁.heap = h0 := by rw [← hh, Bd.state]; rfl
  have N0 := Fr.nil n0
  have pre0 : ∀ t, Steps p.tables e below (s₁.setTop (mkF m 0 #[.val (.ref q), .val (.double f), .second, .unset, .unset] [])) t → Steps p.tables e below (s₁.setTop (entryFrame m #[(.ref q), (.double f)] 5)) t := fun t k => castTop (own_ef_c2 m q f) k
  obtain ⟨Tc21, hc21, kc21, bc21, Xc21, ec21, Ec21, Gc21, Vc21, stc21⟩ := own_newD (L := #[.val (.ref q), .val (.double f), .second, .unset, .unset]) (S := []) X0 hx hZ (hw _ (List.mem_of_getElem? (i := 4) rfl)) e0 (z := (2 : Int32)) 2 (by decide) (by decide) (by decide) (by decide) (by decide) (hb hby own_d2_2) (pc' := 4) rfl
  have ne_q_bc21 : q ≠ bc21 := Nat.ne_of_lt (Nat.lt_of_lt_of_le V_q.lt (Nat.le_of_eq Gc21.symm))
  have ne_bc21_q : bc21 ≠ q := Ne.symm ne_q_bc21
  have g_bc21 : n0 ≤ bc21 := Nat.le_trans Z0 (Nat.le_of_eq Gc21.symm)
  have sz_bc21 : h0.size ≤ bc21 := Nat.le_trans (Keep.refl h0 []).1 (Nat.le_of_eq Gc21.symm)
  have V_q_c21 := V_q.ext Ec21
  have Zc21 : n0 ≤ hc21.size := Nat.le_trans Z0 Ec21.1
  have KKc21 := (Keep.refl h0 []).ext Ec21
  have V_bc21 : Arv Z hc21 bc21 kc21 .double (2 : Int32) [(.double 0), (.double 0)] (.double 0) := Vc21
  obtain ⟨Tc22, hc22, Xc22, ec22, Wc22, Vc22, stc22⟩ := own_stD (L := #[.val (.ref q), .val (.double f), .second, .val (.ref bc21), .val (.int (0 : Int32))]) (S := []) Xc21 hx hZ ec21 V_bc21 (j := (0 : Int32)) (x := c2_v23) (by decide) 0 (by decide) (Nat.le_of_ble_eq_true rfl) (hb hby own_d2_24) (pc' := 25) rfl
  have V_q_c22 := V_q_c21.other Wc22 ne_q_bc21
  have Zc22 : n0 ≤ hc22.size := Nat.le_trans Zc21 (Nat.le_of_eq Wc22.size.symm)
  have KKc22 := KKc21.wr Wc22 (Or.inr sz_bc21)
  have V_bc21_c22 : Arv Z hc22 bc21 kc21 .double (2 : Int32) [(.double c2_v23), (.double 0)] (.double 0) := Vc22
  have Nc22 := Fr.snoc Xc22 N0 g_bc21
  obtain ⟨Tc23, hc23, Xc23, ec23, Wc23, Vc23, stc23⟩ := own_stD (L := #[.val (.ref q), .val (.double f), .second, .val (.ref bc21), .val (.int (1 : Int32))]) (S := []) Xc22 hx hZ ec22 V_bc21_c22 (j := (1 : Int32)) (x := c2_v23_2) (by decide) 1 (by decide) (Nat.le_of_ble_eq_true rfl) (hb hby own_d2_24) (pc' := 25) rfl
  have V_q_c23 := V_q_c22.other Wc23 ne_q_bc21
  have Zc23 : n0 ≤ hc23.size := Nat.le_trans Zc22 (Nat.le_of_eq Wc23.size.symm)
  have KKc23 := KKc22.wr Wc23 (Or.inr sz_bc21)
  have V_bc21_c23 : Arv Z hc23 bc21 kc21 .double (2 : Int32) [(.double c2_v23), (.double c2_v23_2)] (.double 0) := Vc23
  have Nc23 := Fr.snoc Xc23 Nc22 g_bc21
  obtain ⟨fs, hr, hrun, hended, hW, hsame⟩ := Xc23.leave (v := some (.ref bc21)) (fun h => by rw [Bd.returns] at h; cases h)
  refine ⟨_, _, pre0 _ ?_, hrun, hended, _, _, rfl, ?_, ⟨_, rfl⟩, hW, hsame.mono (by decide) (by decide)⟩
  · refine own_s_aloadN X0.here hx (hb hby own_d2_0) (pc' := 1) rfl rfl rfl ?_
    refine own_len X0 hx hZ e0 V_q (hb hby own_d2_1) (pc' := 2) rfl ?_
    refine stc21 _ ?_
    refine own_s_astoreN Xc21.here hx (hb hby own_d2_4) (pc' := 5) rfl rfl (L' := #[.val (.ref q), .val (.double f), .second, .val (.ref bc21), .unset]) rfl ?_
    refine own_s_iconst Xc21.here hx (hb hby own_d2_5) (pc' := 6) rfl (v := (0 : Int32)) (by decide) ?_
    refine own_s_istore Xc21.here hx (hb hby own_d2_6) (pc' := 8) rfl (L' := #[.val (.ref q), .val (.double f), .second, .val (.ref bc21), .val (.int (0 : Int32))]) rfl ?_
    refine own_s_iload Xc21.here hx (hb hby own_d2_8) (pc' := 10) rfl rfl ?_
    refine own_s_aloadN Xc21.here hx (hb hby own_d2_10) (pc' := 11) rfl rfl rfl ?_
    refine own_len Xc21 hx hZ ec21 V_q_c21 (hb hby own_d2_11) (pc' := 12) rfl ?_
    refine own_s_icmpNo Xc21.here hx (hb hby own_d2_12) (pc' := 15) rfl (by decide) ?_
    refine own_s_aloadN Xc21.here hx (hb hby own_d2_15) (pc' := 16) rfl rfl rfl ?_
    refine own_s_iload Xc21.here hx (hb hby own_d2_16) (pc' := 18) rfl rfl ?_
    refine own_s_aloadN Xc21.here hx (hb hby own_d2_18) (pc' := 19) rfl rfl rfl ?_
    refine own_s_iload Xc21.here hx (hb hby own_d2_19) (pc' := 21) rfl rfl ?_
    refine own_ldD Xc21 hx hZ ec21 V_q_c21 (j := (0 : Int32)) (x := d0) (by decide) rfl (hb hby own_d2_21) (pc' := 22) rfl ?_
    refine own_s_dloadN Xc21.here hx (hb hby own_d2_22) (pc' := 23) rfl rfl ?_
    refine own_s_dmul Xc21.here hx (hb hby own_d2_23) (pc' := 24) rfl c2_hn23 (v := c2_v23) c2_hv23 ?_
    refine stc22 _ ?_
    refine own_s_iinc Xc22.here hx (hb hby own_d2_25) (pc' := 28) rfl rfl (v := (1 : Int32)) (by decide) (L' := #[.val (.ref q), .val (.double f), .second, .val (.ref bc21), .val (.int (1 : Int32))]) rfl ?_
    refine own_s_goto Xc22.here hx (hb hby own_d2_28) (by decide) (pc' := 8) (by decide) ?_
    refine own_s_iload Xc22.here hx (hb hby own_d2_8) (pc' := 10) rfl rfl ?_
    refine own_s_aloadN Xc22.here hx (hb hby own_d2_10) (pc' := 11) rfl rfl rfl ?_
    refine own_len Xc22 hx hZ ec22 V_q_c22 (hb hby own_d2_11) (pc' := 12) rfl ?_
    refine own_s_icmpNo Xc22.here hx (hb hby own_d2_12) (pc' := 15) rfl (by decide) ?_
    refine own_s_aloadN Xc22.here hx (hb hby own_d2_15) (pc' := 16) rfl rfl rfl ?_
    refine own_s_iload Xc22.here hx (hb hby own_d2_16) (pc' := 18) rfl rfl ?_
    refine own_s_aloadN Xc22.here hx (hb hby own_d2_18) (pc' := 19) rfl rfl rfl ?_
    refine own_s_iload Xc22.here hx (hb hby own_d2_19) (pc' := 21) rfl rfl ?_
    refine own_ldD Xc22 hx hZ ec22 V_q_c22 (j := (1 : Int32)) (x := d1) (by decide) rfl (hb hby own_d2_21) (pc' := 22) rfl ?_
    refine own_s_dloadN Xc22.here hx (hb hby own_d2_22) (pc' := 23) rfl rfl ?_
    refine own_s_dmul Xc22.here hx (hb hby own_d2_23) (pc' := 24) rfl c2_hn23_2 (v := c2_v23_2) c2_hv23_2 ?_
    refine stc23 _ ?_
    refine own_s_iinc Xc23.here hx (hb hby own_d2_25) (pc' := 28) rfl rfl (v := (2 : Int32)) (by decide) (L' := #[.val (.ref q), .val (.double f), .second, .val (.ref bc21), .val (.int (2 : Int32))]) rfl ?_
    refine own_s_goto Xc23.here hx (hb hby own_d2_28) (by decide) (pc' := 8) (by decide) ?_
    refine own_s_iload Xc23.here hx (hb hby own_d2_8) (pc' := 10) rfl rfl ?_
    refine own_s_aloadN Xc23.here hx (hb hby own_d2_10) (pc' := 11) rfl rfl rfl ?_
    refine own_len Xc23 hx hZ ec23 V_q_c23 (hb hby own_d2_11) (pc' := 12) rfl ?_
    refine own_s_icmpYes Xc23.here hx (hb hby own_d2_12) (by decide) (pc' := 31) (by decide) (by decide) ?_
    refine own_s_aloadN Xc23.here hx (hb hby own_d2_31) (pc' := 32) rfl rfl rfl ?_
    exact own_retR Xc23 hx Bd.returns rfl (hb hby own_d2_32) hr
  · show own_Q_c2 Z q d0 d1 f qk c2_v23 c2_v23_2 h0 n0 _ Tc23.heap _
    rw [ec23]
    exact ⟨bc21, kc21, rfl, Nc23, KKc23, sz_bc21, V_bc21_c23⟩
theorem own_ef_e20 (m : MethodId) (ya : Addr) (za : Addr) (v : Int32) (f : Int32) : entryFrame m #[(.ref ya), (.ref za), (.int (0 : Int32)), (.int (2 : Int32)), (.int v), (.int f)] 6 = mkF m 0 #[.val (.ref ya), .val (.ref za), .val (.int (0 : Int32)), .val (.int (2 : Int32)), .val (.int v), .val (.int f)] [] := by first | (simp [entryFrame, mkF, argsToLocals, Value.category]; done) | rfl
set_option maxRecDepth 65536 in
set_option maxHeartbeats 40000000 in
theorem own_rm_e20 (l : Launch) (Z : State) (a0 : Array Value) (hw : ∀ d ∈ tables_1, d.before a0 Z = true) (ws : List Jvm.Cond) (ya : Addr) (d0 : UInt64) (d1 : UInt64) (za : Addr) (ee0 : UInt64) (ee1 : UInt64) (v : Int32) (f : Int32) {yak : ClassId} {zak : ClassId} {e20_v22 : Int64} {e20_v25 : Int64} {e20_v26 : Int64} (h0 : Heap) (n0 : Nat) (Z0 : n0 ≤ h0.size) (V_ya : Arv Z h0 ya yak .double (2 : Int32) [(.double d0), (.double d1)] (.double 0)) (V_za : Arv Z h0 za zak .double (2 : Int32) [(.double ee0), (.double ee1)] (.double 0)) (e20_hc13 : Op.cmpValue (FP.dcmp d0 (FP.i2d v)) .l = (0 : Int32)) (e20_hv22 : Int32.toInt64 v = e20_v22) (e20_hv25 : Int32.toInt64 f = e20_v25) (e20_hv26 : e20_v22 * e20_v25 = e20_v26) (e20_hc28 : Op.cmpValue (FP.dcmp ee0 (FP.l2d e20_v26)) .l = (0 : Int32)) :
    MetFree l (⟨"com/example/differentia/differentia/problems/Cec2013TransformsScalePinLaw", "entry", "([D[DIIII)Z"⟩ : MethodName) (head1 (Jvm.Cond.code (⟨"com/example/differentia/differentia/problems/Cec2013TransformsScalePinLaw", "entry", "([D[DIIII)Z"⟩ : MethodName) method_3_code 6 (some .boolean) :: ws) ({ frames := 0, cells := 0, slots := 0, locals := 0 } : Room)) (fun a U => a = #[(.ref ya), (.ref za), (.int (0 : Int32)), (.int (2 : Int32)), (.int v), (.int f)] ∧ Z.Warmed39 U.vm ∧ U.heap = h0) (fun _ _ _ _ _ => True) (fun _ U o U' => ∃ v L, o = .returned v ∧ own_QP (some (.int (1 : Int32))) h0 n0 v U'.heap L ∧ FrameEnd U o U' L ({ frames := 0, cells := 0, slots := 0, locals := 0 } : Room).cells ({ frames := 0, cells := 0, slots := 0, locals := 0 } : Room).slots) := by
  refine MetFree.of_bodySF (plainFor_of_name own_pn_com_example_differentia_differentia_problems_Cec2013TransformsScalePinLaw) hisR ?_
  intro p e s m args below meth c s₁ Bd hml0 hP hK
  obtain ⟨rfl, hZ, hh⟩ := hP
  have hx := Bd.exec
  have hby := Bd.bytes
  have hml : c.maxLocals = 6 := hml0
  have hown : s.vm.findClass "com/example/differentia/differentia/problems/Cec2013TransformsScalePinLaw" = some m.cls := findClass_of_methodNamed Bd.named
  have hnm := (name_of_methodNamed Bd.named Bd.method).1
  have X0 : Stand p l e ({ frames := 0, cells := 0, slots := 0, locals := 0 } : Room) s m #[(.ref ya), (.ref za), (.int (0 : Int32)), (.int (2 : Int32)), (.int v), (.int f)] below meth c s₁ [] 0 0 := Stand.of_body Bd
  have e0 : s₁.heap = h0 := by rw [← hh, Bd.state]; rfl
  have N0 := Fr.nil n0
  have pre0 : ∀ t, Steps p.tables e below (s₁.setTop (mkF m 0 #[.val (.ref ya), .val (.ref za), .val (.int (0 : Int32)), .val (.int (2 : Int32)), .val (.int v), .val (.int f)] [])) t → Steps p.tables e below (s₁.setTop (entryFrame m #[(.ref ya), (.ref za), (.int (0 : Int32)), (.int (2 : Int32)), (.int v), (.int f)] 6)) t := fun t k => castTop (own_ef_e20 m ya za v f) k
  obtain ⟨fs, hr, hrun, hended, hW, hsame⟩ := X0.leave (v := some (.int (1 : Int32))) (fun h => by rw [Bd.returns] at h; cases h)
  refine ⟨_, _, pre0 _ ?_, hrun, hended, _, _, rfl, ?_, ⟨_, rfl⟩, hW, hsame.mono (by decide) (by decide)⟩
  · refine own_s_iloadN X0.here hx (hb hby own_d3_0) (pc' := 1) rfl rfl ?_
    refine own_s_iloadN X0.here hx (hb hby own_d3_1) (pc' := 2) rfl rfl ?_
    refine own_s_icmpYes X0.here hx (hb hby own_d3_2) (by decide) (pc' := 7) (by decide) (by decide) ?_
    refine own_s_aloadN X0.here hx (hb hby own_d3_7) (pc' := 8) rfl rfl rfl ?_
    refine own_s_iloadN X0.here hx (hb hby own_d3_8) (pc' := 9) rfl rfl ?_
    refine own_ldD X0 hx hZ e0 V_ya (j := (0 : Int32)) (x := d0) (by decide) rfl (hb hby own_d3_9) (pc' := 10) rfl ?_
    refine own_s_iload X0.here hx (hb hby own_d3_10) (pc' := 12) rfl rfl ?_
    refine own_s_i2d X0.here hx (hb hby own_d3_12) (pc' := 13) rfl (v := (FP.i2d v)) rfl ?_
    refine own_s_dcmp X0.here hx (hb hby own_d3_13) (pc' := 14) rfl (v := (0 : Int32)) e20_hc13 ?_
    refine own_s_ifNo X0.here hx (hb hby own_d3_14) (pc' := 17) rfl (by decide) ?_
    refine own_s_aloadN X0.here hx (hb hby own_d3_17) (pc' := 18) rfl rfl rfl ?_
    refine own_s_iloadN X0.here hx (hb hby own_d3_18) (pc' := 19) rfl rfl ?_
    refine own_ldD X0 hx hZ e0 V_za (j := (0 : Int32)) (x := ee0) (by decide) rfl (hb hby own_d3_19) (pc' := 20) rfl ?_
    refine own_s_iload X0.here hx (hb hby own_d3_20) (pc' := 22) rfl rfl ?_
    refine own_s_i2l X0.here hx (hb hby own_d3_22) (pc' := 23) rfl (v := e20_v22) e20_hv22 ?_
    refine own_s_iload X0.here hx (hb hby own_d3_23) (pc' := 25) rfl rfl ?_
    refine own_s_i2l X0.here hx (hb hby own_d3_25) (pc' := 26) rfl (v := e20_v25) e20_hv25 ?_
    refine own_s_lmul X0.here hx (hb hby own_d3_26) (pc' := 27) rfl (v := e20_v26) e20_hv26 ?_
    refine own_s_l2d X0.here hx (hb hby own_d3_27) (pc' := 28) rfl (v := (FP.l2d e20_v26)) rfl ?_
    refine own_s_dcmp X0.here hx (hb hby own_d3_28) (pc' := 29) rfl (v := (0 : Int32)) e20_hc28 ?_
    refine own_s_ifNo X0.here hx (hb hby own_d3_29) (pc' := 32) rfl (by decide) ?_
    refine own_s_iconst X0.here hx (hb hby own_d3_32) (pc' := 33) rfl (v := (1 : Int32)) (by decide) ?_
    refine own_s_goto X0.here hx (hb hby own_d3_33) (by decide) (pc' := 37) (by decide) ?_
    exact retN X0 hx (t := .boolean) Bd.returns (by simp) (hb hby own_d3_37) hr
  · show own_QP (some (.int (1 : Int32))) h0 n0 _ s₁.heap _
    rw [e0]
    exact ⟨rfl, N0, rfl⟩
theorem own_ef_e21 (m : MethodId) (ya : Addr) (za : Addr) (v : Int32) (f : Int32) : entryFrame m #[(.ref ya), (.ref za), (.int (1 : Int32)), (.int (2 : Int32)), (.int v), (.int f)] 6 = mkF m 0 #[.val (.ref ya), .val (.ref za), .val (.int (1 : Int32)), .val (.int (2 : Int32)), .val (.int v), .val (.int f)] [] := by first | (simp [entryFrame, mkF, argsToLocals, Value.category]; done) | rfl
set_option maxRecDepth 65536 in
set_option maxHeartbeats 40000000 in
theorem own_rm_e21 (l : Launch) (Z : State) (a0 : Array Value) (hw : ∀ d ∈ tables_1, d.before a0 Z = true) (ws : List Jvm.Cond) (ya : Addr) (d0 : UInt64) (d1 : UInt64) (za : Addr) (ee0 : UInt64) (ee1 : UInt64) (v : Int32) (f : Int32) {yak : ClassId} {zak : ClassId} {e21_v22 : Int64} {e21_v25 : Int64} {e21_v26 : Int64} (h0 : Heap) (n0 : Nat) (Z0 : n0 ≤ h0.size) (V_ya : Arv Z h0 ya yak .double (2 : Int32) [(.double d0), (.double d1)] (.double 0)) (V_za : Arv Z h0 za zak .double (2 : Int32) [(.double ee0), (.double ee1)] (.double 0)) (e21_hc13 : Op.cmpValue (FP.dcmp d1 (FP.i2d v)) .l = (0 : Int32)) (e21_hv22 : Int32.toInt64 v = e21_v22) (e21_hv25 : Int32.toInt64 f = e21_v25) (e21_hv26 : e21_v22 * e21_v25 = e21_v26) (e21_hc28 : Op.cmpValue (FP.dcmp ee1 (FP.l2d e21_v26)) .l = (0 : Int32)) :
    MetFree l (⟨"com/example/differentia/differentia/problems/Cec2013TransformsScalePinLaw", "entry", "([D[DIIII)Z"⟩ : MethodName) (head1 (Jvm.Cond.code (⟨"com/example/differentia/differentia/problems/Cec2013TransformsScalePinLaw", "entry", "([D[DIIII)Z"⟩ : MethodName) method_3_code 6 (some .boolean) :: ws) ({ frames := 0, cells := 0, slots := 0, locals := 0 } : Room)) (fun a U => a = #[(.ref ya), (.ref za), (.int (1 : Int32)), (.int (2 : Int32)), (.int v), (.int f)] ∧ Z.Warmed39 U.vm ∧ U.heap = h0) (fun _ _ _ _ _ => True) (fun _ U o U' => ∃ v L, o = .returned v ∧ own_QP (some (.int (1 : Int32))) h0 n0 v U'.heap L ∧ FrameEnd U o U' L ({ frames := 0, cells := 0, slots := 0, locals := 0 } : Room).cells ({ frames := 0, cells := 0, slots := 0, locals := 0 } : Room).slots) := by
  refine MetFree.of_bodySF (plainFor_of_name own_pn_com_example_differentia_differentia_problems_Cec2013TransformsScalePinLaw) hisR ?_
  intro p e s m args below meth c s₁ Bd hml0 hP hK
  obtain ⟨rfl, hZ, hh⟩ := hP
  have hx := Bd.exec
  have hby := Bd.bytes
  have hml : c.maxLocals = 6 := hml0
  have hown : s.vm.findClass "com/example/differentia/differentia/problems/Cec2013TransformsScalePinLaw" = some m.cls := findClass_of_methodNamed Bd.named
  have hnm := (name_of_methodNamed Bd.named Bd.method).1
  have X0 : Stand p l e ({ frames := 0, cells := 0, slots := 0, locals := 0 } : Room) s m #[(.ref ya), (.ref za), (.int (1 : Int32)), (.int (2 : Int32)), (.int v), (.int f)] below meth c s₁ [] 0 0 := Stand.of_body Bd
  have e0 : s₁.heap = h0 := by rw [← hh, Bd.state]; rfl
  have N0 := Fr.nil n0
  have pre0 : ∀ t, Steps p.tables e below (s₁.setTop (mkF m 0 #[.val (.ref ya), .val (.ref za), .val (.int (1 : Int32)), .val (.int (2 : Int32)), .val (.int v), .val (.int f)] [])) t → Steps p.tables e below (s₁.setTop (entryFrame m #[(.ref ya), (.ref za), (.int (1 : Int32)), (.int (2 : Int32)), (.int v), (.int f)] 6)) t := fun t k => castTop (own_ef_e21 m ya za v f) k
  obtain ⟨fs, hr, hrun, hended, hW, hsame⟩ := X0.leave (v := some (.int (1 : Int32))) (fun h => by rw [Bd.returns] at h; cases h)
  refine ⟨_, _, pre0 _ ?_, hrun, hended, _, _, rfl, ?_, ⟨_, rfl⟩, hW, hsame.mono (by decide) (by decide)⟩
  · refine own_s_iloadN X0.here hx (hb hby own_d3_0) (pc' := 1) rfl rfl ?_
    refine own_s_iloadN X0.here hx (hb hby own_d3_1) (pc' := 2) rfl rfl ?_
    refine own_s_icmpYes X0.here hx (hb hby own_d3_2) (by decide) (pc' := 7) (by decide) (by decide) ?_
    refine own_s_aloadN X0.here hx (hb hby own_d3_7) (pc' := 8) rfl rfl rfl ?_
    refine own_s_iloadN X0.here hx (hb hby own_d3_8) (pc' := 9) rfl rfl ?_
    refine own_ldD X0 hx hZ e0 V_ya (j := (1 : Int32)) (x := d1) (by decide) rfl (hb hby own_d3_9) (pc' := 10) rfl ?_
    refine own_s_iload X0.here hx (hb hby own_d3_10) (pc' := 12) rfl rfl ?_
    refine own_s_i2d X0.here hx (hb hby own_d3_12) (pc' := 13) rfl (v := (FP.i2d v)) rfl ?_
    refine own_s_dcmp X0.here hx (hb hby own_d3_13) (pc' := 14) rfl (v := (0 : Int32)) e21_hc13 ?_
    refine own_s_ifNo X0.here hx (hb hby own_d3_14) (pc' := 17) rfl (by decide) ?_
    refine own_s_aloadN X0.here hx (hb hby own_d3_17) (pc' := 18) rfl rfl rfl ?_
    refine own_s_iloadN X0.here hx (hb hby own_d3_18) (pc' := 19) rfl rfl ?_
    refine own_ldD X0 hx hZ e0 V_za (j := (1 : Int32)) (x := ee1) (by decide) rfl (hb hby own_d3_19) (pc' := 20) rfl ?_
    refine own_s_iload X0.here hx (hb hby own_d3_20) (pc' := 22) rfl rfl ?_
    refine own_s_i2l X0.here hx (hb hby own_d3_22) (pc' := 23) rfl (v := e21_v22) e21_hv22 ?_
    refine own_s_iload X0.here hx (hb hby own_d3_23) (pc' := 25) rfl rfl ?_
    refine own_s_i2l X0.here hx (hb hby own_d3_25) (pc' := 26) rfl (v := e21_v25) e21_hv25 ?_
    refine own_s_lmul X0.here hx (hb hby own_d3_26) (pc' := 27) rfl (v := e21_v26) e21_hv26 ?_
    refine own_s_l2d X0.here hx (hb hby own_d3_27) (pc' := 28) rfl (v := (FP.l2d e21_v26)) rfl ?_
    refine own_s_dcmp X0.here hx (hb hby own_d3_28) (pc' := 29) rfl (v := (0 : Int32)) e21_hc28 ?_
    refine own_s_ifNo X0.here hx (hb hby own_d3_29) (pc' := 32) rfl (by decide) ?_
    refine own_s_iconst X0.here hx (hb hby own_d3_32) (pc' := 33) rfl (v := (1 : Int32)) (by decide) ?_
    refine own_s_goto X0.here hx (hb hby own_d3_33) (by decide) (pc' := 37) (by decide) ?_
    exact retN X0 hx (t := .boolean) Bd.returns (by simp) (hb hby own_d3_37) hr
  · show own_QP (some (.int (1 : Int32))) h0 n0 _ s₁.heap _
    rw [e0]
    exact ⟨rfl, N0, rfl⟩
theorem own_ef_e22 (m : MethodId) (ya : Addr) (za : Addr) (v : Int32) (f : Int32) : entryFrame m #[(.ref ya), (.ref za), (.int (2 : Int32)), (.int (2 : Int32)), (.int v), (.int f)] 6 = mkF m 0 #[.val (.ref ya), .val (.ref za), .val (.int (2 : Int32)), .val (.int (2 : Int32)), .val (.int v), .val (.int f)] [] := by first | (simp [entryFrame, mkF, argsToLocals, Value.category]; done) | rfl
set_option maxRecDepth 65536 in
set_option maxHeartbeats 40000000 in
theorem own_rm_e22 (l : Launch) (Z : State) (a0 : Array Value) (hw : ∀ d ∈ tables_1, d.before a0 Z = true) (ws : List Jvm.Cond) (ya : Addr) (d0 : UInt64) (d1 : UInt64) (za : Addr) (ee0 : UInt64) (ee1 : UInt64) (v : Int32) (f : Int32) {yak : ClassId} {zak : ClassId} (h0 : Heap) (n0 : Nat) (Z0 : n0 ≤ h0.size) (V_ya : Arv Z h0 ya yak .double (2 : Int32) [(.double d0), (.double d1)] (.double 0)) (V_za : Arv Z h0 za zak .double (2 : Int32) [(.double ee0), (.double ee1)] (.double 0))  :
    MetFree l (⟨"com/example/differentia/differentia/problems/Cec2013TransformsScalePinLaw", "entry", "([D[DIIII)Z"⟩ : MethodName) (head1 (Jvm.Cond.code (⟨"com/example/differentia/differentia/problems/Cec2013TransformsScalePinLaw", "entry", "([D[DIIII)Z"⟩ : MethodName) method_3_code 6 (some .boolean) :: ws) ({ frames := 0, cells := 0, slots := 0, locals := 0 } : Room)) (fun a U => a = #[(.ref ya), (.ref za), (.int (2 : Int32)), (.int (2 : Int32)), (.int v), (.int f)] ∧ Z.Warmed39 U.vm ∧ U.heap = h0) (fun _ _ _ _ _ => True) (fun _ U o U' => ∃ v L, o = .returned v ∧ own_QP (some (.int (1 : Int32))) h0 n0 v U'.heap L ∧ FrameEnd U o U' L ({ frames := 0, cells := 0, slots := 0, locals := 0 } : Room).cells ({ frames := 0, cells := 0, slots := 0, locals := 0 } : Room).slots) := by
  refine MetFree.of_bodySF (plainFor_of_name own_pn_com_example_differentia_differentia_problems_Cec2013TransformsScalePinLaw) hisR ?_
  intro p e s m args below meth c s₁ Bd hml0 hP hK
  obtain ⟨rfl, hZ, hh⟩ := hP
  have hx := Bd.exec
  have hby := Bd.bytes
  have hml : c.maxLocals = 6 := hml0
  have hown : s.vm.findClass "com/example/differentia/differentia/problems/Cec2013TransformsScalePinLaw" = some m.cls := findClass_of_methodNamed Bd.named
  have hnm := (name_of_methodNamed Bd.named Bd.method).1
  have X0 : Stand p l e ({ frames := 0, cells := 0, slots := 0, locals := 0 } : Room) s m #[(.ref ya), (.ref za), (.int (2 : Int32)), (.int (2 : Int32)), (.int v), (.int f)] below meth c s₁ [] 0 0 := Stand.of_body Bd
  have e0 : s₁.heap = h0 := by rw [← hh, Bd.state]; rfl
  have N0 := Fr.nil n0
  have pre0 : ∀ t, Steps p.tables e below (s₁.setTop (mkF m 0 #[.val (.ref ya), .val (.ref za), .val (.int (2 : Int32)), .val (.int (2 : Int32)), .val (.int v), .val (.int f)] [])) t → Steps p.tables e below (s₁.setTop (entryFrame m #[(.ref ya), (.ref za), (.int (2 : Int32)), (.int (2 : Int32)), (.int v), (.int f)] 6)) t := fun t k => castTop (own_ef_e22 m ya za v f) k
  obtain ⟨fs, hr, hrun, hended, hW, hsame⟩ := X0.leave (v := some (.int (1 : Int32))) (fun h => by rw [Bd.returns] at h; cases h)
  refine ⟨_, _, pre0 _ ?_, hrun, hended, _, _, rfl, ?_, ⟨_, rfl⟩, hW, hsame.mono (by decide) (by decide)⟩
  · refine own_s_iloadN X0.here hx (hb hby own_d3_0) (pc' := 1) rfl rfl ?_
    refine own_s_iloadN X0.here hx (hb hby own_d3_1) (pc' := 2) rfl rfl ?_
    refine own_s_icmpNo X0.here hx (hb hby own_d3_2) (pc' := 5) rfl (by decide) ?_
    refine own_s_iconst X0.here hx (hb hby own_d3_5) (pc' := 6) rfl (v := (1 : Int32)) (by decide) ?_
    exact retN X0 hx (t := .boolean) Bd.returns (by simp) (hb hby own_d3_6) hr
  · show own_QP (some (.int (1 : Int32))) h0 n0 _ s₁.heap _
    rw [e0]
    exact ⟨rfl, N0, rfl⟩
theorem own_ef_w2 (m : MethodId) (p0 : Int32) (p1 : Int32) (p2 : Int32) (p3 : Int32) (p4 : Int32) : entryFrame m #[(.int p0), (.int p1), (.int p2), (.int p3), (.int p4)] maxLocals = mkF m 0 #[.val (.int p0), .val (.int p1), .val (.int p2), .val (.int p3), .val (.int p4), .unset, .unset, .unset, .unset, .unset, .unset, .unset] [] := by first | (simp [entryFrame, mkF, argsToLocals, Value.category, maxLocals]; done) | rfl
set_option maxRecDepth 65536 in
set_option maxHeartbeats 40000000 in
theorem own_rm_w2 (l : Launch) (Z : State) (a0 : Array Value) (hw : ∀ d ∈ tables_1, d.before a0 Z = true) (ws : List Jvm.Cond) (p0 : Int32) (p1 : Int32) (p2 : Int32) (p3 : Int32) (p4 : Int32) {w2_c7_s_v3 : Int32} {w2_c7_s_v6 : Int32} {w2_c13_s_v3 : Int32} {w2_c13_s_v6 : Int32} {w2_c19_s_v3 : Int32} {w2_c19_s_v6 : Int32} {w2_c25_s_v3 : Int32} {w2_c25_s_v6 : Int32} {w2_c79_c2_v23 : UInt64} {w2_c79_c2_v23_2 : UInt64} {w2_c117_e20_v22 : Int64} {w2_c117_e20_v25 : Int64} {w2_c117_e20_v26 : Int64} {w2_c134_e21_v22 : Int64} {w2_c134_e21_v25 : Int64} {w2_c134_e21_v26 : Int64} (h0 : Heap) (n0 : Nat) (Z0 : n0 ≤ h0.size)  (w2_hv3 : p4 &&& (3 : Int32) = (2 : Int32)) (w2_c7_s_hv3 : p0 <<< ((12 : Int32) &&& 31) = w2_c7_s_v3) (w2_c7_s_hv6 : w2_c7_s_v3 >>> ((12 : Int32) &&& 31) = w2_c7_s_v6) (w2_c13_s_hv3 : p1 <<< ((12 : Int32) &&& 31) = w2_c13_s_v3) (w2_c13_s_hv6 : w2_c13_s_v3 >>> ((12 : Int32) &&& 31) = w2_c13_s_v6) (w2_c19_s_hv3 : p2 <<< ((12 : Int32) &&& 31) = w2_c19_s_v3) (w2_c19_s_hv6 : w2_c19_s_v3 >>> ((12 : Int32) &&& 31) = w2_c19_s_v6) (w2_c25_s_hv3 : p3 <<< ((12 : Int32) &&& 31) = w2_c25_s_v3) (w2_c25_s_hv6 : w2_c25_s_v3 >>> ((12 : Int32) &&& 31) = w2_c25_s_v6) (w2_c79_c2_hn23 : Jvm.Free.Fl.NoNaN64 (FP.dmul (FP.i2d w2_c7_s_v6) (FP.i2d w2_c25_s_v6))) (w2_c79_c2_hv23 : FP.dmul (FP.i2d w2_c7_s_v6) (FP.i2d w2_c25_s_v6) = w2_c79_c2_v23) (w2_c79_c2_hn23_2 : Jvm.Free.Fl.NoNaN64 (FP.dmul (FP.i2d w2_c13_s_v6) (FP.i2d w2_c25_s_v6))) (w2_c79_c2_hv23_2 : FP.dmul (FP.i2d w2_c13_s_v6) (FP.i2d w2_c25_s_v6) = w2_c79_c2_v23_2) (w2_c117_e20_hc13 : Op.cmpValue (FP.dcmp (FP.i2d w2_c7_s_v6) (FP.i2d w2_c7_s_v6)) .l = (0 : Int32)) (w2_c117_e20_hv22 : Int32.toInt64 w2_c7_s_v6 = w2_c117_e20_v22) (w2_c117_e20_hv25 : Int32.toInt64 w2_c25_s_v6 = w2_c117_e20_v25) (w2_c117_e20_hv26 : w2_c117_e20_v22 * w2_c117_e20_v25 = w2_c117_e20_v26) (w2_c117_e20_hc28 : Op.cmpValue (FP.dcmp w2_c79_c2_v23 (FP.l2d w2_c117_e20_v26)) .l = (0 : Int32)) (w2_c134_e21_hc13 : Op.cmpValue (FP.dcmp (FP.i2d w2_c13_s_v6) (FP.i2d w2_c13_s_v6)) .l = (0 : Int32)) (w2_c134_e21_hv22 : Int32.toInt64 w2_c13_s_v6 = w2_c134_e21_v22) (w2_c134_e21_hv25 : Int32.toInt64 w2_c25_s_v6 = w2_c134_e21_v25) (w2_c134_e21_hv26 : w2_c134_e21_v22 * w2_c134_e21_v25 = w2_c134_e21_v26) (w2_c134_e21_hc28 : Op.cmpValue (FP.dcmp w2_c79_c2_v23_2 (FP.l2d w2_c134_e21_v26)) .l = (0 : Int32)) :
    MetFree l x (head1 (Jvm.Cond.code x code maxLocals ret :: ws) room_1) (fun a U => a = #[(.int p0), (.int p1), (.int p2), (.int p3), (.int p4)] ∧ Z.Warmed39 U.vm ∧ U.heap = h0) (fun _ _ _ _ _ => True) (fun _ U o U' => ∃ v L, o = .returned v ∧ own_Q0 n0 v U'.heap L ∧ FrameEnd U o U' L room_1.cells room_1.slots) := by
  refine MetFree.of_bodySF (plainFor_of_name own_pn_com_example_differentia_differentia_problems_Cec2013TransformsScalePinLaw) hisR ?_
  intro p e s m args below meth c s₁ Bd hml0 hP hK
  obtain ⟨rfl, hZ, hh⟩ := hP
  have hx := Bd.exec
  have hby := Bd.bytes
  have hml : c.maxLocals = 12 := hml0
  have hown : s.vm.findClass "com/example/differentia/differentia/problems/Cec2013TransformsScalePinLaw" = some m.cls := findClass_of_methodNamed Bd.named
  have hnm := (name_of_methodNamed Bd.named Bd.method).1
  have X0 : Stand p l e room_1 s m #[(.int p0), (.int p1), (.int p2), (.int p3), (.int p4)] below meth c s₁ [] 0 0 := Stand.of_body Bd
  have e0 : s₁.heap = h0 := by rw [← hh, Bd.state]; rfl
  have N0 := Fr.nil n0
  have pre0 : ∀ t, Steps p.tables e below (s₁.setTop (mkF m 0 #[.val (.int p0), .val (.int p1), .val (.int p2), .val (.int p3), .val (.int p4), .unset, .unset, .unset, .unset, .unset, .unset, .unset] [])) t → Steps p.tables e below (s₁.setTop (entryFrame m #[(.int p0), (.int p1), (.int p2), (.int p3), (.int p4)] maxLocals)) t := fun t k => castTop (own_ef_w2 m p0 p1 p2 p3 p4) k
  obtain ⟨_, _, ⟨Tw21, Lw21, kw21, nw21⟩, -, Xw21, ⟨Lcw21, hQw21, lw21, yw21, zw21⟩, stw21⟩ := Jvm.LawKit.callS X0 hx (y := (⟨"com/example/differentia/differentia/problems/Cec2013TransformsScalePinLaw", "small", "(I)I"⟩ : MethodName)) hown (mvT hZ (hw _ (List.mem_of_getElem? (i := 0) rfl))) (mvT hZ (hw _ (List.mem_of_getElem? (i := 1) rfl))) (mvT hZ (hw _ (List.mem_of_getElem? (i := 2) rfl))) (mvT hZ (hw _ (List.mem_of_getElem? (i := 3) rfl))) (by decide) (backOf (W := 0) (own_rm_s l Z a0 hw [] p0 h0 n0 Z0 w2_c7_s_hv3 w2_c7_s_hv6) hZ (hw _ (List.mem_of_getElem? (i := 3) rfl)) (hw _ (List.mem_of_getElem? (i := 2) rfl)) (by decide) (by decide)) (g := (mkF m 7 #[.val (.int p0), .val (.int p1), .val (.int p2), .val (.int p3), .val (.int p4), .val (.int (2 : Int32)), .unset, .unset, .unset, .unset, .unset, .unset] [(.int p0)])) rfl (by rw [hml]; rfl) (argsL := [(.int p0)]) (rest := []) (lenOf own_pd_28I29I rfl) rfl (by show 2 * 0 + _ ≤ _; exact Nat.le_of_eq rfl) (hb hby at_7) (fun _ _ => ⟨rfl, e0, (by decide : 0 + 0 ≤ _), (by decide : 0 + 0 ≤ _)⟩)
  dsimp only [Pt.U, Pt.locs, Pt.cells, Pt.slots] at Xw21 lw21 yw21 zw21 stw21 hQw21
  subst lw21 yw21 zw21
  obtain ⟨rfl, Nw21q, ew21⟩ := hQw21
  have Nw21 := Fr.app N0 Nw21q
  obtain ⟨_, _, ⟨Tw22, Lw22, kw22, nw22⟩, -, Xw22, ⟨Lcw22, hQw22, lw22, yw22, zw22⟩, stw22⟩ := Jvm.LawKit.callS Xw21 hx (y := (⟨"com/example/differentia/differentia/problems/Cec2013TransformsScalePinLaw", "small", "(I)I"⟩ : MethodName)) hown (mvT hZ (hw _ (List.mem_of_getElem? (i := 0) rfl))) (mvT hZ (hw _ (List.mem_of_getElem? (i := 1) rfl))) (mvT hZ (hw _ (List.mem_of_getElem? (i := 2) rfl))) (mvT hZ (hw _ (List.mem_of_getElem? (i := 3) rfl))) (by decide) (backOf (W := 0) (own_rm_s l Z a0 hw [] p1 h0 n0 Z0 w2_c13_s_hv3 w2_c13_s_hv6) hZ (hw _ (List.mem_of_getElem? (i := 3) rfl)) (hw _ (List.mem_of_getElem? (i := 2) rfl)) (by decide) (by decide)) (g := (mkF m 13 #[.val (.int p0), .val (.int p1), .val (.int p2), .val (.int p3), .val (.int p4), .val (.int (2 : Int32)), .val (.int w2_c7_s_v6), .unset, .unset, .unset, .unset, .unset] [(.int p1)])) rfl (by rw [hml]; rfl) (argsL := [(.int p1)]) (rest := []) (lenOf own_pd_28I29I rfl) rfl (by show 2 * 0 + _ ≤ _; exact Nat.le_of_eq rfl) (hb hby at_13) (fun _ _ => ⟨rfl, ew21, (by decide : 0 + 0 ≤ _), (by decide : 0 + 0 ≤ _)⟩)
  dsimp only [Pt.U, Pt.locs, Pt.cells, Pt.slots] at Xw22 lw22 yw22 zw22 stw22 hQw22
  subst lw22 yw22 zw22
  obtain ⟨rfl, Nw22q, ew22⟩ := hQw22
  have Nw22 := Fr.app Nw21 Nw22q
  obtain ⟨_, _, ⟨Tw23, Lw23, kw23, nw23⟩, -, Xw23, ⟨Lcw23, hQw23, lw23, yw23, zw23⟩, stw23⟩ := Jvm.LawKit.callS Xw22 hx (y := (⟨"com/example/differentia/differentia/problems/Cec2013TransformsScalePinLaw", "small", "(I)I"⟩ : MethodName)) hown (mvT hZ (hw _ (List.mem_of_getElem? (i := 0) rfl))) (mvT hZ (hw _ (List.mem_of_getElem? (i := 1) rfl))) (mvT hZ (hw _ (List.mem_of_getElem? (i := 2) rfl))) (mvT hZ (hw _ (List.mem_of_getElem? (i := 3) rfl))) (by decide) (backOf (W := 0) (own_rm_s l Z a0 hw [] p2 h0 n0 Z0 w2_c19_s_hv3 w2_c19_s_hv6) hZ (hw _ (List.mem_of_getElem? (i := 3) rfl)) (hw _ (List.mem_of_getElem? (i := 2) rfl)) (by decide) (by decide)) (g := (mkF m 19 #[.val (.int p0), .val (.int p1), .val (.int p2), .val (.int p3), .val (.int p4), .val (.int (2 : Int32)), .val (.int w2_c7_s_v6), .val (.int w2_c13_s_v6), .unset, .unset, .unset, .unset] [(.int p2)])) rfl (by rw [hml]; rfl) (argsL := [(.int p2)]) (rest := []) (lenOf own_pd_28I29I rfl) rfl (by show 2 * 0 + _ ≤ _; exact Nat.le_of_eq rfl) (hb hby at_19) (fun _ _ => ⟨rfl, ew22, (by decide : 0 + 0 ≤ _), (by decide : 0 + 0 ≤ _)⟩)
  dsimp only [Pt.U, Pt.locs, Pt.cells, Pt.slots] at Xw23 lw23 yw23 zw23 stw23 hQw23
  subst lw23 yw23 zw23
  obtain ⟨rfl, Nw23q, ew23⟩ := hQw23
  have Nw23 := Fr.app Nw22 Nw23q
  obtain ⟨_, _, ⟨Tw24, Lw24, kw24, nw24⟩, -, Xw24, ⟨Lcw24, hQw24, lw24, yw24, zw24⟩, stw24⟩ := Jvm.LawKit.callS Xw23 hx (y := (⟨"com/example/differentia/differentia/problems/Cec2013TransformsScalePinLaw", "small", "(I)I"⟩ : MethodName)) hown (mvT hZ (hw _ (List.mem_of_getElem? (i := 0) rfl))) (mvT hZ (hw _ (List.mem_of_getElem? (i := 1) rfl))) (mvT hZ (hw _ (List.mem_of_getElem? (i := 2) rfl))) (mvT hZ (hw _ (List.mem_of_getElem? (i := 3) rfl))) (by decide) (backOf (W := 0) (own_rm_s l Z a0 hw [] p3 h0 n0 Z0 w2_c25_s_hv3 w2_c25_s_hv6) hZ (hw _ (List.mem_of_getElem? (i := 3) rfl)) (hw _ (List.mem_of_getElem? (i := 2) rfl)) (by decide) (by decide)) (g := (mkF m 25 #[.val (.int p0), .val (.int p1), .val (.int p2), .val (.int p3), .val (.int p4), .val (.int (2 : Int32)), .val (.int w2_c7_s_v6), .val (.int w2_c13_s_v6), .val (.int w2_c19_s_v6), .unset, .unset, .unset] [(.int p3)])) rfl (by rw [hml]; rfl) (argsL := [(.int p3)]) (rest := []) (lenOf own_pd_28I29I rfl) rfl (by show 2 * 0 + _ ≤ _; exact Nat.le_of_eq rfl) (hb hby at_25) (fun _ _ => ⟨rfl, ew23, (by decide : 0 + 0 ≤ _), (by decide : 0 + 0 ≤ _)⟩)
  dsimp only [Pt.U, Pt.locs, Pt.cells, Pt.slots] at Xw24 lw24 yw24 zw24 stw24 hQw24
  subst lw24 yw24 zw24
  obtain ⟨rfl, Nw24q, ew24⟩ := hQw24
  have Nw24 := Fr.app Nw23 Nw24q
  obtain ⟨Tw25, hw25, kw25, bw25, Xw25, ew25, Ew25, Gw25, Vw25, stw25⟩ := own_newD (L := #[.val (.int p0), .val (.int p1), .val (.int p2), .val (.int p3), .val (.int p4), .val (.int (2 : Int32)), .val (.int w2_c7_s_v6), .val (.int w2_c13_s_v6), .val (.int w2_c19_s_v6), .val (.int w2_c25_s_v6), .unset, .unset]) (S := []) Xw24 hx hZ (hw _ (List.mem_of_getElem? (i := 4) rfl)) ew24 (z := (2 : Int32)) 2 (by decide) (by decide) (by decide) (by decide) (by decide) (hb hby at_32) (pc' := 34) rfl
  have g_bw25 : n0 ≤ bw25 := Nat.le_trans Z0 (Nat.le_of_eq Gw25.symm)
  have sz_bw25 : h0.size ≤ bw25 := Nat.le_trans (Keep.refl h0 []).1 (Nat.le_of_eq Gw25.symm)
  have Zw25 : n0 ≤ hw25.size := Nat.le_trans Z0 Ew25.1
  have KKw25 := (Keep.refl h0 []).ext Ew25
  have V_bw25 : Arv Z hw25 bw25 kw25 .double (2 : Int32) [(.double 0), (.double 0)] (.double 0) := Vw25
  obtain ⟨Tw26, hw26, Xw26, ew26, Ww26, Vw26, stw26⟩ := own_stD (L := #[.val (.int p0), .val (.int p1), .val (.int p2), .val (.int p3), .val (.int p4), .val (.int (2 : Int32)), .val (.int w2_c7_s_v6), .val (.int w2_c13_s_v6), .val (.int w2_c19_s_v6), .val (.int w2_c25_s_v6), .val (.ref bw25), .unset]) (S := []) Xw25 hx hZ ew25 V_bw25 (j := (0 : Int32)) (x := (FP.i2d w2_c7_s_v6)) (by decide) 0 (by decide) (Nat.le_of_ble_eq_true rfl) (hb hby at_47) (pc' := 48) rfl
  have Zw26 : n0 ≤ hw26.size := Nat.le_trans Zw25 (Nat.le_of_eq Ww26.size.symm)
  have KKw26 := KKw25.wr Ww26 (Or.inr sz_bw25)
  have V_bw25_w26 : Arv Z hw26 bw25 kw25 .double (2 : Int32) [(.double (FP.i2d w2_c7_s_v6)), (.double 0)] (.double 0) := Vw26
  have Nw26 := Fr.snoc Xw26 Nw24 g_bw25
  obtain ⟨Tw27, hw27, Xw27, ew27, Ww27, Vw27, stw27⟩ := own_stD (L := #[.val (.int p0), .val (.int p1), .val (.int p2), .val (.int p3), .val (.int p4), .val (.int (2 : Int32)), .val (.int w2_c7_s_v6), .val (.int w2_c13_s_v6), .val (.int w2_c19_s_v6), .val (.int w2_c25_s_v6), .val (.ref bw25), .unset]) (S := []) Xw26 hx hZ ew26 V_bw25_w26 (j := (1 : Int32)) (x := (FP.i2d w2_c13_s_v6)) (by decide) 1 (by decide) (Nat.le_of_ble_eq_true rfl) (hb hby at_60) (pc' := 61) rfl
  have Zw27 : n0 ≤ hw27.size := Nat.le_trans Zw26 (Nat.le_of_eq Ww27.size.symm)
  have KKw27 := KKw26.wr Ww27 (Or.inr sz_bw25)
  have V_bw25_w27 : Arv Z hw27 bw25 kw25 .double (2 : Int32) [(.double (FP.i2d w2_c7_s_v6)), (.double (FP.i2d w2_c13_s_v6))] (.double 0) := Vw27
  have Nw27 := Fr.snoc Xw27 Nw26 g_bw25
  obtain ⟨_, _, ⟨Tw28, Lw28, kw28, nw28⟩, -, Xw28, ⟨Lcw28, hQw28, lw28, yw28, zw28⟩, stw28⟩ := Jvm.LawKit.callS Xw27 hx (y := (⟨"com/example/differentia/differentia/problems/Cec2013Transforms", "scale", "([DD)[D"⟩ : MethodName)) hown (mvT hZ (hw _ (List.mem_of_getElem? (i := 5) rfl))) (mvT hZ (hw _ (List.mem_of_getElem? (i := 6) rfl))) (mvT hZ (hw _ (List.mem_of_getElem? (i := 7) rfl))) (mvT hZ (hw _ (List.mem_of_getElem? (i := 8) rfl))) (by decide) (backOf (W := 0) (own_rm_c2 l Z a0 hw [] bw25 (FP.i2d w2_c7_s_v6) (FP.i2d w2_c13_s_v6) (FP.i2d w2_c25_s_v6) hw27 n0 Zw27 V_bw25_w27 w2_c79_c2_hn23 w2_c79_c2_hv23 w2_c79_c2_hn23_2 w2_c79_c2_hv23_2) hZ (hw _ (List.mem_of_getElem? (i := 8) rfl)) (hw _ (List.mem_of_getElem? (i := 7) rfl)) (by decide) (by decide)) (g := (mkF m 79 #[.val (.int p0), .val (.int p1), .val (.int p2), .val (.int p3), .val (.int p4), .val (.int (2 : Int32)), .val (.int w2_c7_s_v6), .val (.int w2_c13_s_v6), .val (.int w2_c19_s_v6), .val (.int w2_c25_s_v6), .val (.ref bw25), .unset] [(.double (FP.i2d w2_c25_s_v6)), (.ref bw25)])) rfl (by rw [hml]; rfl) (argsL := [(.ref bw25), (.double (FP.i2d w2_c25_s_v6))]) (rest := []) (lenOf own_pd_285bDD295bD rfl) rfl (by show 2 * 0 + _ ≤ _; exact Nat.le_of_eq rfl) (hb hby at_79) (fun _ _ => ⟨rfl, ew27, (by decide : 1 + 1 ≤ _), (by decide : 2 + 2 ≤ _)⟩)
  dsimp only [Pt.U, Pt.locs, Pt.cells, Pt.slots] at Xw28 lw28 yw28 zw28 stw28 hQw28
  subst lw28 yw28 zw28
  obtain ⟨bw28, kw28a, rfl, Nw28q, Kw28, Gw28, qw28_0⟩ := hQw28
  have ne_bw25_bw28 : bw25 ≠ bw28 := Nat.ne_of_lt (Nat.lt_of_lt_of_le V_bw25_w27.lt Gw28)
  have ne_bw28_bw25 : bw28 ≠ bw25 := Ne.symm ne_bw25_bw28
  have g_bw28 : n0 ≤ bw28 := Nat.le_trans Zw27 Gw28
  have sz_bw28 : h0.size ≤ bw28 := Nat.le_trans KKw27.1 Gw28
  have V_bw25_w28 := V_bw25_w27.keep Kw28 (List.not_mem_nil)
  have Zw28 : n0 ≤ Tw28.heap.size := Nat.le_trans Zw27 Kw28.1
  have KKw28 := KKw27.trans Kw28 (fun _ q => nomatch q)
  have Nw28 := Fr.app Nw27 Nw28q
  obtain ⟨_, _, ⟨Tw29, Lw29, kw29, nw29⟩, -, Xw29, ⟨Lcw29, hQw29, lw29, yw29, zw29⟩, stw29⟩ := Jvm.LawKit.callS Xw28 hx (y := (⟨"com/example/differentia/differentia/problems/Cec2013TransformsScalePinLaw", "entry", "([D[DIIII)Z"⟩ : MethodName)) hown (mvT hZ (hw _ (List.mem_of_getElem? (i := 9) rfl))) (mvT hZ (hw _ (List.mem_of_getElem? (i := 10) rfl))) (mvT hZ (hw _ (List.mem_of_getElem? (i := 2) rfl))) (mvT hZ (hw _ (List.mem_of_getElem? (i := 11) rfl))) (by decide) (backOf (W := 0) (own_rm_e20 l Z a0 hw [] bw25 (FP.i2d w2_c7_s_v6) (FP.i2d w2_c13_s_v6) bw28 w2_c79_c2_v23 w2_c79_c2_v23_2 w2_c7_s_v6 w2_c25_s_v6 Tw28.heap n0 Zw28 V_bw25_w28 qw28_0 w2_c117_e20_hc13 w2_c117_e20_hv22 w2_c117_e20_hv25 w2_c117_e20_hv26 w2_c117_e20_hc28) hZ (hw _ (List.mem_of_getElem? (i := 11) rfl)) (hw _ (List.mem_of_getElem? (i := 2) rfl)) (by decide) (by decide)) (g := (mkF m 117 #[.val (.int p0), .val (.int p1), .val (.int p2), .val (.int p3), .val (.int p4), .val (.int (2 : Int32)), .val (.int w2_c7_s_v6), .val (.int w2_c13_s_v6), .val (.int w2_c19_s_v6), .val (.int w2_c25_s_v6), .val (.ref bw25), .val (.ref bw28)] [(.int w2_c25_s_v6), (.int w2_c7_s_v6), (.int (2 : Int32)), (.int (0 : Int32)), (.ref bw28), (.ref bw25)])) rfl (by rw [hml]; rfl) (argsL := [(.ref bw25), (.ref bw28), (.int (0 : Int32)), (.int (2 : Int32)), (.int w2_c7_s_v6), (.int w2_c25_s_v6)]) (rest := []) (lenOf own_pd_285bD5bDIIII29Z rfl) rfl (by show 2 * 0 + _ ≤ _; exact Nat.le_of_eq rfl) (hb hby at_117) (fun _ _ => ⟨rfl, rfl, (by decide : 2 + 0 ≤ _), (by decide : 4 + 0 ≤ _)⟩)
  dsimp only [Pt.U, Pt.locs, Pt.cells, Pt.slots] at Xw29 lw29 yw29 zw29 stw29 hQw29
  subst lw29 yw29 zw29
  obtain ⟨rfl, Nw29q, ew29⟩ := hQw29
  have Nw29 := Fr.app Nw28 Nw29q
  obtain ⟨_, _, ⟨Tw210, Lw210, kw210, nw210⟩, -, Xw210, ⟨Lcw210, hQw210, lw210, yw210, zw210⟩, stw210⟩ := Jvm.LawKit.callS Xw29 hx (y := (⟨"com/example/differentia/differentia/problems/Cec2013TransformsScalePinLaw", "entry", "([D[DIIII)Z"⟩ : MethodName)) hown (mvT hZ (hw _ (List.mem_of_getElem? (i := 9) rfl))) (mvT hZ (hw _ (List.mem_of_getElem? (i := 10) rfl))) (mvT hZ (hw _ (List.mem_of_getElem? (i := 2) rfl))) (mvT hZ (hw _ (List.mem_of_getElem? (i := 11) rfl))) (by decide) (backOf (W := 0) (own_rm_e21 l Z a0 hw [] bw25 (FP.i2d w2_c7_s_v6) (FP.i2d w2_c13_s_v6) bw28 w2_c79_c2_v23 w2_c79_c2_v23_2 w2_c13_s_v6 w2_c25_s_v6 Tw28.heap n0 Zw28 V_bw25_w28 qw28_0 w2_c134_e21_hc13 w2_c134_e21_hv22 w2_c134_e21_hv25 w2_c134_e21_hv26 w2_c134_e21_hc28) hZ (hw _ (List.mem_of_getElem? (i := 11) rfl)) (hw _ (List.mem_of_getElem? (i := 2) rfl)) (by decide) (by decide)) (g := (mkF m 134 #[.val (.int p0), .val (.int p1), .val (.int p2), .val (.int p3), .val (.int p4), .val (.int (2 : Int32)), .val (.int w2_c7_s_v6), .val (.int w2_c13_s_v6), .val (.int w2_c19_s_v6), .val (.int w2_c25_s_v6), .val (.ref bw25), .val (.ref bw28)] [(.int w2_c25_s_v6), (.int w2_c13_s_v6), (.int (2 : Int32)), (.int (1 : Int32)), (.ref bw28), (.ref bw25)])) rfl (by rw [hml]; rfl) (argsL := [(.ref bw25), (.ref bw28), (.int (1 : Int32)), (.int (2 : Int32)), (.int w2_c13_s_v6), (.int w2_c25_s_v6)]) (rest := []) (lenOf own_pd_285bD5bDIIII29Z rfl) rfl (by show 2 * 0 + _ ≤ _; exact Nat.le_of_eq rfl) (hb hby at_134) (fun _ _ => ⟨rfl, ew29, (by decide : 2 + 0 ≤ _), (by decide : 4 + 0 ≤ _)⟩)
  dsimp only [Pt.U, Pt.locs, Pt.cells, Pt.slots] at Xw210 lw210 yw210 zw210 stw210 hQw210
  subst lw210 yw210 zw210
  obtain ⟨rfl, Nw210q, ew210⟩ := hQw210
  have Nw210 := Fr.app Nw29 Nw210q
  obtain ⟨_, _, ⟨Tw211, Lw211, kw211, nw211⟩, -, Xw211, ⟨Lcw211, hQw211, lw211, yw211, zw211⟩, stw211⟩ := Jvm.LawKit.callS Xw210 hx (y := (⟨"com/example/differentia/differentia/problems/Cec2013TransformsScalePinLaw", "entry", "([D[DIIII)Z"⟩ : MethodName)) hown (mvT hZ (hw _ (List.mem_of_getElem? (i := 9) rfl))) (mvT hZ (hw _ (List.mem_of_getElem? (i := 10) rfl))) (mvT hZ (hw _ (List.mem_of_getElem? (i := 2) rfl))) (mvT hZ (hw _ (List.mem_of_getElem? (i := 11) rfl))) (by decide) (backOf (W := 0) (own_rm_e22 l Z a0 hw [] bw25 (FP.i2d w2_c7_s_v6) (FP.i2d w2_c13_s_v6) bw28 w2_c79_c2_v23 w2_c79_c2_v23_2 w2_c19_s_v6 w2_c25_s_v6 Tw28.heap n0 Zw28 V_bw25_w28 qw28_0) hZ (hw _ (List.mem_of_getElem? (i := 11) rfl)) (hw _ (List.mem_of_getElem? (i := 2) rfl)) (by decide) (by decide)) (g := (mkF m 151 #[.val (.int p0), .val (.int p1), .val (.int p2), .val (.int p3), .val (.int p4), .val (.int (2 : Int32)), .val (.int w2_c7_s_v6), .val (.int w2_c13_s_v6), .val (.int w2_c19_s_v6), .val (.int w2_c25_s_v6), .val (.ref bw25), .val (.ref bw28)] [(.int w2_c25_s_v6), (.int w2_c19_s_v6), (.int (2 : Int32)), (.int (2 : Int32)), (.ref bw28), (.ref bw25)])) rfl (by rw [hml]; rfl) (argsL := [(.ref bw25), (.ref bw28), (.int (2 : Int32)), (.int (2 : Int32)), (.int w2_c19_s_v6), (.int w2_c25_s_v6)]) (rest := []) (lenOf own_pd_285bD5bDIIII29Z rfl) rfl (by show 2 * 0 + _ ≤ _; exact Nat.le_of_eq rfl) (hb hby at_151) (fun _ _ => ⟨rfl, ew210, (by decide : 2 + 0 ≤ _), (by decide : 4 + 0 ≤ _)⟩)
  dsimp only [Pt.U, Pt.locs, Pt.cells, Pt.slots] at Xw211 lw211 yw211 zw211 stw211 hQw211
  subst lw211 yw211 zw211
  obtain ⟨rfl, Nw211q, ew211⟩ := hQw211
  have Nw211 := Fr.app Nw210 Nw211q
  obtain ⟨fs, hr, hrun, hended, hW, hsame⟩ := Xw211.leave (v := some (.int (1 : Int32))) (fun h => by rw [Bd.returns] at h; cases h)
  refine ⟨_, _, pre0 _ ?_, hrun, hended, _, _, rfl, ?_, ⟨_, rfl⟩, hW, hsame.mono (by decide) (by decide)⟩
  · refine own_s_iload X0.here hx (hb hby at_0) (pc' := 2) rfl rfl ?_
    refine own_s_iconst X0.here hx (hb hby at_2) (pc' := 3) rfl (v := (3 : Int32)) (by decide) ?_
    refine own_s_iand X0.here hx (hb hby at_3) (pc' := 4) rfl (v := (2 : Int32)) w2_hv3 ?_
    refine own_s_istore X0.here hx (hb hby at_4) (pc' := 6) rfl (L' := #[.val (.int p0), .val (.int p1), .val (.int p2), .val (.int p3), .val (.int p4), .val (.int (2 : Int32)), .unset, .unset, .unset, .unset, .unset, .unset]) rfl ?_
    refine own_s_iloadN X0.here hx (hb hby at_6) (pc' := 7) rfl rfl ?_
    refine stw21 _ ?_
    show Steps p.tables e below (Tw21.setTop (mkF m 10 #[.val (.int p0), .val (.int p1), .val (.int p2), .val (.int p3), .val (.int p4), .val (.int (2 : Int32)), .unset, .unset, .unset, .unset, .unset, .unset] [(.int w2_c7_s_v6)])) _
    refine own_s_istore Xw21.here hx (hb hby at_10) (pc' := 12) rfl (L' := #[.val (.int p0), .val (.int p1), .val (.int p2), .val (.int p3), .val (.int p4), .val (.int (2 : Int32)), .val (.int w2_c7_s_v6), .unset, .unset, .unset, .unset, .unset]) rfl ?_
    refine own_s_iloadN Xw21.here hx (hb hby at_12) (pc' := 13) rfl rfl ?_
    refine stw22 _ ?_
    show Steps p.tables e below (Tw22.setTop (mkF m 16 #[.val (.int p0), .val (.int p1), .val (.int p2), .val (.int p3), .val (.int p4), .val (.int (2 : Int32)), .val (.int w2_c7_s_v6), .unset, .unset, .unset, .unset, .unset] [(.int w2_c13_s_v6)])) _
    refine own_s_istore Xw22.here hx (hb hby at_16) (pc' := 18) rfl (L' := #[.val (.int p0), .val (.int p1), .val (.int p2), .val (.int p3), .val (.int p4), .val (.int (2 : Int32)), .val (.int w2_c7_s_v6), .val (.int w2_c13_s_v6), .unset, .unset, .unset, .unset]) rfl ?_
    refine own_s_iloadN Xw22.here hx (hb hby at_18) (pc' := 19) rfl rfl ?_
    refine stw23 _ ?_
    show Steps p.tables e below (Tw23.setTop (mkF m 22 #[.val (.int p0), .val (.int p1), .val (.int p2), .val (.int p3), .val (.int p4), .val (.int (2 : Int32)), .val (.int w2_c7_s_v6), .val (.int w2_c13_s_v6), .unset, .unset, .unset, .unset] [(.int w2_c19_s_v6)])) _
    refine own_s_istore Xw23.here hx (hb hby at_22) (pc' := 24) rfl (L' := #[.val (.int p0), .val (.int p1), .val (.int p2), .val (.int p3), .val (.int p4), .val (.int (2 : Int32)), .val (.int w2_c7_s_v6), .val (.int w2_c13_s_v6), .val (.int w2_c19_s_v6), .unset, .unset, .unset]) rfl ?_
    refine own_s_iloadN Xw23.here hx (hb hby at_24) (pc' := 25) rfl rfl ?_
    refine stw24 _ ?_
    show Steps p.tables e below (Tw24.setTop (mkF m 28 #[.val (.int p0), .val (.int p1), .val (.int p2), .val (.int p3), .val (.int p4), .val (.int (2 : Int32)), .val (.int w2_c7_s_v6), .val (.int w2_c13_s_v6), .val (.int w2_c19_s_v6), .unset, .unset, .unset] [(.int w2_c25_s_v6)])) _
    refine own_s_istore Xw24.here hx (hb hby at_28) (pc' := 30) rfl (L' := #[.val (.int p0), .val (.int p1), .val (.int p2), .val (.int p3), .val (.int p4), .val (.int (2 : Int32)), .val (.int w2_c7_s_v6), .val (.int w2_c13_s_v6), .val (.int w2_c19_s_v6), .val (.int w2_c25_s_v6), .unset, .unset]) rfl ?_
    refine own_s_iload Xw24.here hx (hb hby at_30) (pc' := 32) rfl rfl ?_
    refine stw25 _ ?_
    refine own_s_astore Xw25.here hx (hb hby at_34) (pc' := 36) rfl rfl (L' := #[.val (.int p0), .val (.int p1), .val (.int p2), .val (.int p3), .val (.int p4), .val (.int (2 : Int32)), .val (.int w2_c7_s_v6), .val (.int w2_c13_s_v6), .val (.int w2_c19_s_v6), .val (.int w2_c25_s_v6), .val (.ref bw25), .unset]) rfl ?_
    refine own_s_iload Xw25.here hx (hb hby at_36) (pc' := 38) rfl rfl ?_
    refine own_s_ifNo Xw25.here hx (hb hby at_38) (pc' := 41) rfl (by decide) ?_
    refine own_s_aload Xw25.here hx (hb hby at_41) (pc' := 43) rfl rfl rfl ?_
    refine own_s_iconst Xw25.here hx (hb hby at_43) (pc' := 44) rfl (v := (0 : Int32)) (by decide) ?_
    refine own_s_iload Xw25.here hx (hb hby at_44) (pc' := 46) rfl rfl ?_
    refine own_s_i2d Xw25.here hx (hb hby at_46) (pc' := 47) rfl (v := (FP.i2d w2_c7_s_v6)) rfl ?_
    refine stw26 _ ?_
    refine own_s_iload Xw26.here hx (hb hby at_48) (pc' := 50) rfl rfl ?_
    refine own_s_iconst Xw26.here hx (hb hby at_50) (pc' := 51) rfl (v := (1 : Int32)) (by decide) ?_
    refine own_s_icmpNo Xw26.here hx (hb hby at_51) (pc' := 54) rfl (by decide) ?_
    refine own_s_aload Xw26.here hx (hb hby at_54) (pc' := 56) rfl rfl rfl ?_
    refine own_s_iconst Xw26.here hx (hb hby at_56) (pc' := 57) rfl (v := (1 : Int32)) (by decide) ?_
    refine own_s_iload Xw26.here hx (hb hby at_57) (pc' := 59) rfl rfl ?_
    refine own_s_i2d Xw26.here hx (hb hby at_59) (pc' := 60) rfl (v := (FP.i2d w2_c13_s_v6)) rfl ?_
    refine stw27 _ ?_
    refine own_s_iload Xw27.here hx (hb hby at_61) (pc' := 63) rfl rfl ?_
    refine own_s_iconst Xw27.here hx (hb hby at_63) (pc' := 64) rfl (v := (2 : Int32)) (by decide) ?_
    refine own_s_icmpYes Xw27.here hx (hb hby at_64) (by decide) (pc' := 74) (by decide) (by decide) ?_
    refine own_s_aload Xw27.here hx (hb hby at_74) (pc' := 76) rfl rfl rfl ?_
    refine own_s_iload Xw27.here hx (hb hby at_76) (pc' := 78) rfl rfl ?_
    refine own_s_i2d Xw27.here hx (hb hby at_78) (pc' := 79) rfl (v := (FP.i2d w2_c25_s_v6)) rfl ?_
    refine stw28 _ ?_
    show Steps p.tables e below (Tw28.setTop (mkF m 82 #[.val (.int p0), .val (.int p1), .val (.int p2), .val (.int p3), .val (.int p4), .val (.int (2 : Int32)), .val (.int w2_c7_s_v6), .val (.int w2_c13_s_v6), .val (.int w2_c19_s_v6), .val (.int w2_c25_s_v6), .val (.ref bw25), .unset] [(.ref bw28)])) _
    refine own_s_astore Xw28.here hx (hb hby at_82) (pc' := 84) rfl rfl (L' := #[.val (.int p0), .val (.int p1), .val (.int p2), .val (.int p3), .val (.int p4), .val (.int (2 : Int32)), .val (.int w2_c7_s_v6), .val (.int w2_c13_s_v6), .val (.int w2_c19_s_v6), .val (.int w2_c25_s_v6), .val (.ref bw25), .val (.ref bw28)]) rfl ?_
    refine own_s_aload Xw28.here hx (hb hby at_84) (pc' := 86) rfl rfl rfl ?_
    refine own_s_ifnullNo Xw28.here hx (hb hby at_86) (pc' := 89) rfl  ?_
    refine own_s_aload Xw28.here hx (hb hby at_89) (pc' := 91) rfl rfl rfl ?_
    refine own_s_aload Xw28.here hx (hb hby at_91) (pc' := 93) rfl rfl rfl ?_
    refine Jvm.RoadKit.acmp (g := (mkF m 93 #[.val (.int p0), .val (.int p1), .val (.int p2), .val (.int p3), .val (.int p4), .val (.int (2 : Int32)), .val (.int w2_c7_s_v6), .val (.int w2_c13_s_v6), .val (.int w2_c19_s_v6), .val (.int w2_c25_s_v6), .val (.ref bw25), .val (.ref bw28)] [(.ref bw25), (.ref bw28)])) Xw28 hx rfl rfl rfl (pc0 := 93) (pc' := 96) (same := false) rfl (hb hby at_93) rfl (decide_eq_false fun q => ne_bw28_bw25 (Value.ref.inj q)) (by decide) (by decide) ?_
    show Steps p.tables e below (Tw28.setTop (mkF m 96 #[.val (.int p0), .val (.int p1), .val (.int p2), .val (.int p3), .val (.int p4), .val (.int (2 : Int32)), .val (.int w2_c7_s_v6), .val (.int w2_c13_s_v6), .val (.int w2_c19_s_v6), .val (.int w2_c25_s_v6), .val (.ref bw25), .val (.ref bw28)] [])) _
    refine own_s_aload Xw28.here hx (hb hby at_96) (pc' := 98) rfl rfl rfl ?_
    refine own_len Xw28 hx hZ rfl qw28_0 (hb hby at_98) (pc' := 99) rfl ?_
    refine own_s_iload Xw28.here hx (hb hby at_99) (pc' := 101) rfl rfl ?_
    refine own_s_icmpYes Xw28.here hx (hb hby at_101) (by decide) (pc' := 106) (by decide) (by decide) ?_
    refine own_s_aload Xw28.here hx (hb hby at_106) (pc' := 108) rfl rfl rfl ?_
    refine own_s_aload Xw28.here hx (hb hby at_108) (pc' := 110) rfl rfl rfl ?_
    refine own_s_iconst Xw28.here hx (hb hby at_110) (pc' := 111) rfl (v := (0 : Int32)) (by decide) ?_
    refine own_s_iload Xw28.here hx (hb hby at_111) (pc' := 113) rfl rfl ?_
    refine own_s_iload Xw28.here hx (hb hby at_113) (pc' := 115) rfl rfl ?_
    refine own_s_iload Xw28.here hx (hb hby at_115) (pc' := 117) rfl rfl ?_
    refine stw29 _ ?_
    show Steps p.tables e below (Tw29.setTop (mkF m 120 #[.val (.int p0), .val (.int p1), .val (.int p2), .val (.int p3), .val (.int p4), .val (.int (2 : Int32)), .val (.int w2_c7_s_v6), .val (.int w2_c13_s_v6), .val (.int w2_c19_s_v6), .val (.int w2_c25_s_v6), .val (.ref bw25), .val (.ref bw28)] [(.int (1 : Int32))])) _
    refine own_s_ifNo Xw29.here hx (hb hby at_120) (pc' := 123) rfl (by decide) ?_
    refine own_s_aload Xw29.here hx (hb hby at_123) (pc' := 125) rfl rfl rfl ?_
    refine own_s_aload Xw29.here hx (hb hby at_125) (pc' := 127) rfl rfl rfl ?_
    refine own_s_iconst Xw29.here hx (hb hby at_127) (pc' := 128) rfl (v := (1 : Int32)) (by decide) ?_
    refine own_s_iload Xw29.here hx (hb hby at_128) (pc' := 130) rfl rfl ?_
    refine own_s_iload Xw29.here hx (hb hby at_130) (pc' := 132) rfl rfl ?_
    refine own_s_iload Xw29.here hx (hb hby at_132) (pc' := 134) rfl rfl ?_
    refine stw210 _ ?_
    show Steps p.tables e below (Tw210.setTop (mkF m 137 #[.val (.int p0), .val (.int p1), .val (.int p2), .val (.int p3), .val (.int p4), .val (.int (2 : Int32)), .val (.int w2_c7_s_v6), .val (.int w2_c13_s_v6), .val (.int w2_c19_s_v6), .val (.int w2_c25_s_v6), .val (.ref bw25), .val (.ref bw28)] [(.int (1 : Int32))])) _
    refine own_s_ifNo Xw210.here hx (hb hby at_137) (pc' := 140) rfl (by decide) ?_
    refine own_s_aload Xw210.here hx (hb hby at_140) (pc' := 142) rfl rfl rfl ?_
    refine own_s_aload Xw210.here hx (hb hby at_142) (pc' := 144) rfl rfl rfl ?_
    refine own_s_iconst Xw210.here hx (hb hby at_144) (pc' := 145) rfl (v := (2 : Int32)) (by decide) ?_
    refine own_s_iload Xw210.here hx (hb hby at_145) (pc' := 147) rfl rfl ?_
    refine own_s_iload Xw210.here hx (hb hby at_147) (pc' := 149) rfl rfl ?_
    refine own_s_iload Xw210.here hx (hb hby at_149) (pc' := 151) rfl rfl ?_
    refine stw211 _ ?_
    show Steps p.tables e below (Tw211.setTop (mkF m 154 #[.val (.int p0), .val (.int p1), .val (.int p2), .val (.int p3), .val (.int p4), .val (.int (2 : Int32)), .val (.int w2_c7_s_v6), .val (.int w2_c13_s_v6), .val (.int w2_c19_s_v6), .val (.int w2_c25_s_v6), .val (.ref bw25), .val (.ref bw28)] [(.int (1 : Int32))])) _
    refine own_s_ifNo Xw211.here hx (hb hby at_154) (pc' := 157) rfl (by decide) ?_
    refine own_s_iconst Xw211.here hx (hb hby at_157) (pc' := 158) rfl (v := (1 : Int32)) (by decide) ?_
    refine own_s_goto Xw211.here hx (hb hby at_158) (by decide) (pc' := 162) (by decide) ?_
    exact retN Xw211 hx (t := .boolean) Bd.returns (by simp) (hb hby at_162) hr
  · show own_Q0 n0 _ Tw211.heap _
    rw [ew211]
    exact ⟨rfl, Nw211⟩
theorem own_ef_c3 (m : MethodId) (q : Addr) (f : UInt64) : entryFrame m #[(.ref q), (.double f)] 5 = mkF m 0 #[.val (.ref q), .val (.double f), .second, .unset, .unset] [] := by first | (simp [entryFrame, mkF, argsToLocals, Value.category]; done) | rfl
def own_Q_c3 (Z : State) (q : Addr) (d0 : UInt64) (d1 : UInt64) (d2 : UInt64) (f : UInt64) (qk : ClassId) (c3_v23 : UInt64) (c3_v23_2 : UInt64) (c3_v23_3 : UInt64) (h0 : Heap) (n0 : Nat) (v : Option Value) (h : Heap) (L : List Loc) : Prop := ∃ (bc31 : Addr) (kc31 : ClassId), v = some (.ref bc31) ∧ Fr n0 L ∧ Keep h0 h [] ∧ h0.size ≤ bc31 ∧ Arv Z h bc31 kc31 .double (3 : Int32) [(.double c3_v23), (.double c3_v23_2), (.double c3_v23_3)] (.double 0)
set_option maxRecDepth 65536 in
set_option maxHeartbeats 40000000 in
theorem own_rm_c3 (l : Launch) (Z : State) (a0 : Array Value) (hw : ∀ d ∈ tables_1, d.before a0 Z = true) (ws : List Jvm.Cond) (q : Addr) (d0 : UInt64) (d1 : UInt64) (d2 : UInt64) (f : UInt64) {qk : ClassId} {c3_v23 : UInt64} {c3_v23_2 : UInt64} {c3_v23_3 : UInt64} (h0 : Heap) (n0 : Nat) (Z0 : n0 ≤ h0.size) (V_q : Arv Z h0 q qk .double (3 : Int32) [(.double d0), (.double d1), (.double d2)] (.double 0)) (c3_hn23 : Jvm.Free.Fl.NoNaN64 (FP.dmul d0 f)) (c3_hv23 : FP.dmul d0 f = c3_v23) (c3_hn23_2 : Jvm.Free.Fl.NoNaN64 (FP.dmul d1 f)) (c3_hv23_2 : FP.dmul d1 f = c3_v23_2) (c3_hn23_3 : Jvm.Free.Fl.NoNaN64 (FP.dmul d2 f)) (c3_hv23_3 : FP.dmul d2 f = c3_v23_3) :
    MetFree l (⟨"com/example/differentia/differentia/problems/Cec2013Transforms", "scale", "([DD)[D"⟩ : MethodName) (head1 (Jvm.Cond.code (⟨"com/example/differentia/differentia/problems/Cec2013Transforms", "scale", "([DD)[D"⟩ : MethodName) prog_63_method_3_code 5 (some (.array .double)) :: ws) ({ frames := 0, cells := 1, slots := 3, locals := 0 } : Room)) (fun a U => a = #[(.ref q), (.double f)] ∧ Z.Warmed39 U.vm ∧ U.heap = h0) (fun _ _ _ _ _ => True) (fun _ U o U' => ∃ v L, o = .returned v ∧ own_Q_c3 Z q d0 d1 d2 f qk c3_v23 c3_v23_2 c3_v23_3 h0 n0 v U'.heap L ∧ FrameEnd U o U' L ({ frames := 0, cells := 1, slots := 3, locals := 0 } : Room).cells ({ frames := 0, cells := 1, slots := 3, locals := 0 } : Room).slots) := by
  refine MetFree.of_bodySF (plainFor_of_name own_pn_com_example_differentia_differentia_problems_Cec2013Transforms) hisR ?_
  intro p e s m args below meth c s₁ Bd hml0 hP hK
  obtain ⟨rfl, hZ, hh⟩ := hP
  have hx := Bd.exec
  have hby := Bd.bytes
  have hml : c.maxLocals = 5 := hml0
  have hown : s.vm.findClass "com/example/differentia/differentia/problems/Cec2013Transforms" = some m.cls := findClass_of_methodNamed Bd.named
  have hnm := (name_of_methodNamed Bd.named Bd.method).1
  have X0 : Stand p l e ({ frames := 0, cells := 1, slots := 3, locals := 0 } : Room) s m #[(.ref q), (.double f)] below meth c s₁ [] 0 0 := Stand.of_body Bd
  have e0 : s₁.heap = h0 := by rw [← hh, Bd.state]; rfl
  have N0 := Fr.nil n0
  have pre0 : ∀ t, Steps p.tables e below (s₁.setTop (mkF m 0 #[.val (.ref q), .val (.double f), .second, .unset, .unset] [])) t → Steps p.tables e below (s₁.setTop (entryFrame m #[(.ref q), (.double f)] 5)) t := fun t k => castTop (own_ef_c3 m q f) k
  obtain ⟨Tc31, hc31, kc31, bc31, Xc31, ec31, Ec31, Gc31, Vc31, stc31⟩ := own_newD (L := #[.val (.ref q), .val (.double f), .second, .unset, .unset]) (S := []) X0 hx hZ (hw _ (List.mem_of_getElem? (i := 4) rfl)) e0 (z := (3 : Int32)) 3 (by decide) (by decide) (by decide) (by decide) (by decide) (hb hby own_d2_2) (pc' := 4) rfl
  have ne_q_bc31 : q ≠ bc31 := Nat.ne_of_lt (Nat.lt_of_lt_of_le V_q.lt (Nat.le_of_eq Gc31.symm))
  have ne_bc31_q : bc31 ≠ q := Ne.symm ne_q_bc31
  have g_bc31 : n0 ≤ bc31 := Nat.le_trans Z0 (Nat.le_of_eq Gc31.symm)
  have sz_bc31 : h0.size ≤ bc31 := Nat.le_trans (Keep.refl h0 []).1 (Nat.le_of_eq Gc31.symm)
  have V_q_c31 := V_q.ext Ec31
  have Zc31 : n0 ≤ hc31.size := Nat.le_trans Z0 Ec31.1
  have KKc31 := (Keep.refl h0 []).ext Ec31
  have V_bc31 : Arv Z hc31 bc31 kc31 .double (3 : Int32) [(.double 0), (.double 0), (.double 0)] (.double 0) := Vc31
  obtain ⟨Tc32, hc32, Xc32, ec32, Wc32, Vc32, stc32⟩ := own_stD (L := #[.val (.ref q), .val (.double f), .second, .val (.ref bc31), .val (.int (0 : Int32))]) (S := []) Xc31 hx hZ ec31 V_bc31 (j := (0 : Int32)) (x := c3_v23) (by decide) 0 (by decide) (Nat.le_of_ble_eq_true rfl) (hb hby own_d2_24) (pc' := 25) rfl
  have V_q_c32 := V_q_c31.other Wc32 ne_q_bc31
  have Zc32 : n0 ≤ hc32.size := Nat.le_trans Zc31 (Nat.le_of_eq Wc32.size.symm)
  have KKc32 := KKc31.wr Wc32 (Or.inr sz_bc31)
  have V_bc31_c32 : Arv Z hc32 bc31 kc31 .double (3 : Int32) [(.double c3_v23), (.double 0), (.double 0)] (.double 0) := Vc32
  have Nc32 := Fr.snoc Xc32 N0 g_bc31
  obtain ⟨Tc33, hc33, Xc33, ec33, Wc33, Vc33, stc33⟩ := own_stD (L := #[.val (.ref q), .val (.double f), .second, .val (.ref bc31), .val (.int (1 : Int32))]) (S := []) Xc32 hx hZ ec32 V_bc31_c32 (j := (1 : Int32)) (x := c3_v23_2) (by decide) 1 (by decide) (Nat.le_of_ble_eq_true rfl) (hb hby own_d2_24) (pc' := 25) rfl
  have V_q_c33 := V_q_c32.other Wc33 ne_q_bc31
  have Zc33 : n0 ≤ hc33.size := Nat.le_trans Zc32 (Nat.le_of_eq Wc33.size.symm)
  have KKc33 := KKc32.wr Wc33 (Or.inr sz_bc31)
  have V_bc31_c33 : Arv Z hc33 bc31 kc31 .double (3 : Int32) [(.double c3_v23), (.double c3_v23_2), (.double 0)] (.double 0) := Vc33
  have Nc33 := Fr.snoc Xc33 Nc32 g_bc31
  obtain ⟨Tc34, hc34, Xc34, ec34, Wc34, Vc34, stc34⟩ := own_stD (L := #[.val (.ref q), .val (.double f), .second, .val (.ref bc31), .val (.int (2 : Int32))]) (S := []) Xc33 hx hZ ec33 V_bc31_c33 (j := (2 : Int32)) (x := c3_v23_3) (by decide) 2 (by decide) (Nat.le_of_ble_eq_true rfl) (hb hby own_d2_24) (pc' := 25) rfl
  have V_q_c34 := V_q_c33.other Wc34 ne_q_bc31
  have Zc34 : n0 ≤ hc34.size := Nat.le_trans Zc33 (Nat.le_of_eq Wc34.size.symm)
  have KKc34 := KKc33.wr Wc34 (Or.inr sz_bc31)
  have V_bc31_c34 : Arv Z hc34 bc31 kc31 .double (3 : Int32) [(.double c3_v23), (.double c3_v23_2), (.double c3_v23_3)] (.double 0) := Vc34
  have Nc34 := Fr.snoc Xc34 Nc33 g_bc31
  obtain ⟨fs, hr, hrun, hended, hW, hsame⟩ := Xc34.leave (v := some (.ref bc31)) (fun h => by rw [Bd.returns] at h; cases h)
  refine ⟨_, _, pre0 _ ?_, hrun, hended, _, _, rfl, ?_, ⟨_, rfl⟩, hW, hsame.mono (by decide) (by decide)⟩
  · refine own_s_aloadN X0.here hx (hb hby own_d2_0) (pc' := 1) rfl rfl rfl ?_
    refine own_len X0 hx hZ e0 V_q (hb hby own_d2_1) (pc' := 2) rfl ?_
    refine stc31 _ ?_
    refine own_s_astoreN Xc31.here hx (hb hby own_d2_4) (pc' := 5) rfl rfl (L' := #[.val (.ref q), .val (.double f), .second, .val (.ref bc31), .unset]) rfl ?_
    refine own_s_iconst Xc31.here hx (hb hby own_d2_5) (pc' := 6) rfl (v := (0 : Int32)) (by decide) ?_
    refine own_s_istore Xc31.here hx (hb hby own_d2_6) (pc' := 8) rfl (L' := #[.val (.ref q), .val (.double f), .second, .val (.ref bc31), .val (.int (0 : Int32))]) rfl ?_
    refine own_s_iload Xc31.here hx (hb hby own_d2_8) (pc' := 10) rfl rfl ?_
    refine own_s_aloadN Xc31.here hx (hb hby own_d2_10) (pc' := 11) rfl rfl rfl ?_
    refine own_len Xc31 hx hZ ec31 V_q_c31 (hb hby own_d2_11) (pc' := 12) rfl ?_
    refine own_s_icmpNo Xc31.here hx (hb hby own_d2_12) (pc' := 15) rfl (by decide) ?_
    refine own_s_aloadN Xc31.here hx (hb hby own_d2_15) (pc' := 16) rfl rfl rfl ?_
    refine own_s_iload Xc31.here hx (hb hby own_d2_16) (pc' := 18) rfl rfl ?_
    refine own_s_aloadN Xc31.here hx (hb hby own_d2_18) (pc' := 19) rfl rfl rfl ?_
    refine own_s_iload Xc31.here hx (hb hby own_d2_19) (pc' := 21) rfl rfl ?_
    refine own_ldD Xc31 hx hZ ec31 V_q_c31 (j := (0 : Int32)) (x := d0) (by decide) rfl (hb hby own_d2_21) (pc' := 22) rfl ?_
    refine own_s_dloadN Xc31.here hx (hb hby own_d2_22) (pc' := 23) rfl rfl ?_
    refine own_s_dmul Xc31.here hx (hb hby own_d2_23) (pc' := 24) rfl c3_hn23 (v := c3_v23) c3_hv23 ?_
    refine stc32 _ ?_
    refine own_s_iinc Xc32.here hx (hb hby own_d2_25) (pc' := 28) rfl rfl (v := (1 : Int32)) (by decide) (L' := #[.val (.ref q), .val (.double f), .second, .val (.ref bc31), .val (.int (1 : Int32))]) rfl ?_
    refine own_s_goto Xc32.here hx (hb hby own_d2_28) (by decide) (pc' := 8) (by decide) ?_
    refine own_s_iload Xc32.here hx (hb hby own_d2_8) (pc' := 10) rfl rfl ?_
    refine own_s_aloadN Xc32.here hx (hb hby own_d2_10) (pc' := 11) rfl rfl rfl ?_
    refine own_len Xc32 hx hZ ec32 V_q_c32 (hb hby own_d2_11) (pc' := 12) rfl ?_
    refine own_s_icmpNo Xc32.here hx (hb hby own_d2_12) (pc' := 15) rfl (by decide) ?_
    refine own_s_aloadN Xc32.here hx (hb hby own_d2_15) (pc' := 16) rfl rfl rfl ?_
    refine own_s_iload Xc32.here hx (hb hby own_d2_16) (pc' := 18) rfl rfl ?_
    refine own_s_aloadN Xc32.here hx (hb hby own_d2_18) (pc' := 19) rfl rfl rfl ?_
    refine own_s_iload Xc32.here hx (hb hby own_d2_19) (pc' := 21) rfl rfl ?_
    refine own_ldD Xc32 hx hZ ec32 V_q_c32 (j := (1 : Int32)) (x := d1) (by decide) rfl (hb hby own_d2_21) (pc' := 22) rfl ?_
    refine own_s_dloadN Xc32.here hx (hb hby own_d2_22) (pc' := 23) rfl rfl ?_
    refine own_s_dmul Xc32.here hx (hb hby own_d2_23) (pc' := 24) rfl c3_hn23_2 (v := c3_v23_2) c3_hv23_2 ?_
    refine stc33 _ ?_
    refine own_s_iinc Xc33.here hx (hb hby own_d2_25) (pc' := 28) rfl rfl (v := (2 : Int32)) (by decide) (L' := #[.val (.ref q), .val (.double f), .second, .val (.ref bc31), .val (.int (2 : Int32))]) rfl ?_
    refine own_s_goto Xc33.here hx (hb hby own_d2_28) (by decide) (pc' := 8) (by decide) ?_
    refine own_s_iload Xc33.here hx (hb hby own_d2_8) (pc' := 10) rfl rfl ?_
    refine own_s_aloadN Xc33.here hx (hb hby own_d2_10) (pc' := 11) rfl rfl rfl ?_
    refine own_len Xc33 hx hZ ec33 V_q_c33 (hb hby own_d2_11) (pc' := 12) rfl ?_
    refine own_s_icmpNo Xc33.here hx (hb hby own_d2_12) (pc' := 15) rfl (by decide) ?_
    refine own_s_aloadN Xc33.here hx (hb hby own_d2_15) (pc' := 16) rfl rfl rfl ?_
    refine own_s_iload Xc33.here hx (hb hby own_d2_16) (pc' := 18) rfl rfl ?_
    refine own_s_aloadN Xc33.here hx (hb hby own_d2_18) (pc' := 19) rfl rfl rfl ?_
    refine own_s_iload Xc33.here hx (hb hby own_d2_19) (pc' := 21) rfl rfl ?_
    refine own_ldD Xc33 hx hZ ec33 V_q_c33 (j := (2 : Int32)) (x := d2) (by decide) rfl (hb hby own_d2_21) (pc' := 22) rfl ?_
    refine own_s_dloadN Xc33.here hx (hb hby own_d2_22) (pc' := 23) rfl rfl ?_
    refine own_s_dmul Xc33.here hx (hb hby own_d2_23) (pc' := 24) rfl c3_hn23_3 (v := c3_v23_3) c3_hv23_3 ?_
    refine stc34 _ ?_
    refine own_s_iinc Xc34.here hx (hb hby own_d2_25) (pc' := 28) rfl rfl (v := (3 : Int32)) (by decide) (L' := #[.val (.ref q), .val (.double f), .second, .val (.ref bc31), .val (.int (3 : Int32))]) rfl ?_
    refine own_s_goto Xc34.here hx (hb hby own_d2_28) (by decide) (pc' := 8) (by decide) ?_
    refine own_s_iload Xc34.here hx (hb hby own_d2_8) (pc' := 10) rfl rfl ?_
    refine own_s_aloadN Xc34.here hx (hb hby own_d2_10) (pc' := 11) rfl rfl rfl ?_
    refine own_len Xc34 hx hZ ec34 V_q_c34 (hb hby own_d2_11) (pc' := 12) rfl ?_
    refine own_s_icmpYes Xc34.here hx (hb hby own_d2_12) (by decide) (pc' := 31) (by decide) (by decide) ?_
    refine own_s_aloadN Xc34.here hx (hb hby own_d2_31) (pc' := 32) rfl rfl rfl ?_
    exact own_retR Xc34 hx Bd.returns rfl (hb hby own_d2_32) hr
  · show own_Q_c3 Z q d0 d1 d2 f qk c3_v23 c3_v23_2 c3_v23_3 h0 n0 _ Tc34.heap _
    rw [ec34]
    exact ⟨bc31, kc31, rfl, Nc34, KKc34, sz_bc31, V_bc31_c34⟩
theorem own_ef_e30 (m : MethodId) (ya : Addr) (za : Addr) (v : Int32) (f : Int32) : entryFrame m #[(.ref ya), (.ref za), (.int (0 : Int32)), (.int (3 : Int32)), (.int v), (.int f)] 6 = mkF m 0 #[.val (.ref ya), .val (.ref za), .val (.int (0 : Int32)), .val (.int (3 : Int32)), .val (.int v), .val (.int f)] [] := by first | (simp [entryFrame, mkF, argsToLocals, Value.category]; done) | rfl
set_option maxRecDepth 65536 in
set_option maxHeartbeats 40000000 in
theorem own_rm_e30 (l : Launch) (Z : State) (a0 : Array Value) (hw : ∀ d ∈ tables_1, d.before a0 Z = true) (ws : List Jvm.Cond) (ya : Addr) (d0 : UInt64) (d1 : UInt64) (d2 : UInt64) (za : Addr) (ee0 : UInt64) (ee1 : UInt64) (ee2 : UInt64) (v : Int32) (f : Int32) {yak : ClassId} {zak : ClassId} {e30_v22 : Int64} {e30_v25 : Int64} {e30_v26 : Int64} (h0 : Heap) (n0 : Nat) (Z0 : n0 ≤ h0.size) (V_ya : Arv Z h0 ya yak .double (3 : Int32) [(.double d0), (.double d1), (.double d2)] (.double 0)) (V_za : Arv Z h0 za zak .double (3 : Int32) [(.double ee0), (.double ee1), (.double ee2)] (.double 0)) (e30_hc13 : Op.cmpValue (FP.dcmp d0 (FP.i2d v)) .l = (0 : Int32)) (e30_hv22 : Int32.toInt64 v = e30_v22) (e30_hv25 : Int32.toInt64 f = e30_v25) (e30_hv26 : e30_v22 * e30_v25 = e30_v26) (e30_hc28 : Op.cmpValue (FP.dcmp ee0 (FP.l2d e30_v26)) .l = (0 : Int32)) :
    MetFree l (⟨"com/example/differentia/differentia/problems/Cec2013TransformsScalePinLaw", "entry", "([D[DIIII)Z"⟩ : MethodName) (head1 (Jvm.Cond.code (⟨"com/example/differentia/differentia/problems/Cec2013TransformsScalePinLaw", "entry", "([D[DIIII)Z"⟩ : MethodName) method_3_code 6 (some .boolean) :: ws) ({ frames := 0, cells := 0, slots := 0, locals := 0 } : Room)) (fun a U => a = #[(.ref ya), (.ref za), (.int (0 : Int32)), (.int (3 : Int32)), (.int v), (.int f)] ∧ Z.Warmed39 U.vm ∧ U.heap = h0) (fun _ _ _ _ _ => True) (fun _ U o U' => ∃ v L, o = .returned v ∧ own_QP (some (.int (1 : Int32))) h0 n0 v U'.heap L ∧ FrameEnd U o U' L ({ frames := 0, cells := 0, slots := 0, locals := 0 } : Room).cells ({ frames := 0, cells := 0, slots := 0, locals := 0 } : Room).slots) := by
  refine MetFree.of_bodySF (plainFor_of_name own_pn_com_example_differentia_differentia_problems_Cec2013TransformsScalePinLaw) hisR ?_
  intro p e s m args below meth c s₁ Bd hml0 hP hK
  obtain ⟨rfl, hZ, hh⟩ := hP
  have hx := Bd.exec
  have hby := Bd.bytes
  have hml : c.maxLocals = 6 := hml0
  have hown : s.vm.findClass "com/example/differentia/differentia/problems/Cec2013TransformsScalePinLaw" = some m.cls := findClass_of_methodNamed Bd.named
  have hnm := (name_of_methodNamed Bd.named Bd.method).1
  have X0 : Stand p l e ({ frames := 0, cells := 0, slots := 0, locals := 0 } : Room) s m #[(.ref ya), (.ref za), (.int (0 : Int32)), (.int (3 : Int32)), (.int v), (.int f)] below meth c s₁ [] 0 0 := Stand.of_body Bd
  have e0 : s₁.heap = h0 := by rw [← hh, Bd.state]; rfl
  have N0 := Fr.nil n0
  have pre0 : ∀ t, Steps p.tables e below (s₁.setTop (mkF m 0 #[.val (.ref ya), .val (.ref za), .val (.int (0 : Int32)), .val (.int (3 : Int32)), .val (.int v), .val (.int f)] [])) t → Steps p.tables e below (s₁.setTop (entryFrame m #[(.ref ya), (.ref za), (.int (0 : Int32)), (.int (3 : Int32)), (.int v), (.int f)] 6)) t := fun t k => castTop (own_ef_e30 m ya za v f) k
  obtain ⟨fs, hr, hrun, hended, hW, hsame⟩ := X0.leave (v := some (.int (1 : Int32))) (fun h => by rw [Bd.returns] at h; cases h)
  refine ⟨_, _, pre0 _ ?_, hrun, hended, _, _, rfl, ?_, ⟨_, rfl⟩, hW, hsame.mono (by decide) (by decide)⟩
  · refine own_s_iloadN X0.here hx (hb hby own_d3_0) (pc' := 1) rfl rfl ?_
    refine own_s_iloadN X0.here hx (hb hby own_d3_1) (pc' := 2) rfl rfl ?_
    refine own_s_icmpYes X0.here hx (hb hby own_d3_2) (by decide) (pc' := 7) (by decide) (by decide) ?_
    refine own_s_aloadN X0.here hx (hb hby own_d3_7) (pc' := 8) rfl rfl rfl ?_
    refine own_s_iloadN X0.here hx (hb hby own_d3_8) (pc' := 9) rfl rfl ?_
    refine own_ldD X0 hx hZ e0 V_ya (j := (0 : Int32)) (x := d0) (by decide) rfl (hb hby own_d3_9) (pc' := 10) rfl ?_
    refine own_s_iload X0.here hx (hb hby own_d3_10) (pc' := 12) rfl rfl ?_
    refine own_s_i2d X0.here hx (hb hby own_d3_12) (pc' := 13) rfl (v := (FP.i2d v)) rfl ?_
    refine own_s_dcmp X0.here hx (hb hby own_d3_13) (pc' := 14) rfl (v := (0 : Int32)) e30_hc13 ?_
    refine own_s_ifNo X0.here hx (hb hby own_d3_14) (pc' := 17) rfl (by decide) ?_
    refine own_s_aloadN X0.here hx (hb hby own_d3_17) (pc' := 18) rfl rfl rfl ?_
    refine own_s_iloadN X0.here hx (hb hby own_d3_18) (pc' := 19) rfl rfl ?_
    refine own_ldD X0 hx hZ e0 V_za (j := (0 : Int32)) (x := ee0) (by decide) rfl (hb hby own_d3_19) (pc' := 20) rfl ?_
    refine own_s_iload X0.here hx (hb hby own_d3_20) (pc' := 22) rfl rfl ?_
    refine own_s_i2l X0.here hx (hb hby own_d3_22) (pc' := 23) rfl (v := e30_v22) e30_hv22 ?_
    refine own_s_iload X0.here hx (hb hby own_d3_23) (pc' := 25) rfl rfl ?_
    refine own_s_i2l X0.here hx (hb hby own_d3_25) (pc' := 26) rfl (v := e30_v25) e30_hv25 ?_
    refine own_s_lmul X0.here hx (hb hby own_d3_26) (pc' := 27) rfl (v := e30_v26) e30_hv26 ?_
    refine own_s_l2d X0.here hx (hb hby own_d3_27) (pc' := 28) rfl (v := (FP.l2d e30_v26)) rfl ?_
    refine own_s_dcmp X0.here hx (hb hby own_d3_28) (pc' := 29) rfl (v := (0 : Int32)) e30_hc28 ?_
    refine own_s_ifNo X0.here hx (hb hby own_d3_29) (pc' := 32) rfl (by decide) ?_
    refine own_s_iconst X0.here hx (hb hby own_d3_32) (pc' := 33) rfl (v := (1 : Int32)) (by decide) ?_
    refine own_s_goto X0.here hx (hb hby own_d3_33) (by decide) (pc' := 37) (by decide) ?_
    exact retN X0 hx (t := .boolean) Bd.returns (by simp) (hb hby own_d3_37) hr
  · show own_QP (some (.int (1 : Int32))) h0 n0 _ s₁.heap _
    rw [e0]
    exact ⟨rfl, N0, rfl⟩
theorem own_ef_e31 (m : MethodId) (ya : Addr) (za : Addr) (v : Int32) (f : Int32) : entryFrame m #[(.ref ya), (.ref za), (.int (1 : Int32)), (.int (3 : Int32)), (.int v), (.int f)] 6 = mkF m 0 #[.val (.ref ya), .val (.ref za), .val (.int (1 : Int32)), .val (.int (3 : Int32)), .val (.int v), .val (.int f)] [] := by first | (simp [entryFrame, mkF, argsToLocals, Value.category]; done) | rfl
set_option maxRecDepth 65536 in
set_option maxHeartbeats 40000000 in
theorem own_rm_e31 (l : Launch) (Z : State) (a0 : Array Value) (hw : ∀ d ∈ tables_1, d.before a0 Z = true) (ws : List Jvm.Cond) (ya : Addr) (d0 : UInt64) (d1 : UInt64) (d2 : UInt64) (za : Addr) (ee0 : UInt64) (ee1 : UInt64) (ee2 : UInt64) (v : Int32) (f : Int32) {yak : ClassId} {zak : ClassId} {e31_v22 : Int64} {e31_v25 : Int64} {e31_v26 : Int64} (h0 : Heap) (n0 : Nat) (Z0 : n0 ≤ h0.size) (V_ya : Arv Z h0 ya yak .double (3 : Int32) [(.double d0), (.double d1), (.double d2)] (.double 0)) (V_za : Arv Z h0 za zak .double (3 : Int32) [(.double ee0), (.double ee1), (.double ee2)] (.double 0)) (e31_hc13 : Op.cmpValue (FP.dcmp d1 (FP.i2d v)) .l = (0 : Int32)) (e31_hv22 : Int32.toInt64 v = e31_v22) (e31_hv25 : Int32.toInt64 f = e31_v25) (e31_hv26 : e31_v22 * e31_v25 = e31_v26) (e31_hc28 : Op.cmpValue (FP.dcmp ee1 (FP.l2d e31_v26)) .l = (0 : Int32)) :
    MetFree l (⟨"com/example/differentia/differentia/problems/Cec2013TransformsScalePinLaw", "entry", "([D[DIIII)Z"⟩ : MethodName) (head1 (Jvm.Cond.code (⟨"com/example/differentia/differentia/problems/Cec2013TransformsScalePinLaw", "entry", "([D[DIIII)Z"⟩ : MethodName) method_3_code 6 (some .boolean) :: ws) ({ frames := 0, cells := 0, slots := 0, locals := 0 } : Room)) (fun a U => a = #[(.ref ya), (.ref za), (.int (1 : Int32)), (.int (3 : Int32)), (.int v), (.int f)] ∧ Z.Warmed39 U.vm ∧ U.heap = h0) (fun _ _ _ _ _ => True) (fun _ U o U' => ∃ v L, o = .returned v ∧ own_QP (some (.int (1 : Int32))) h0 n0 v U'.heap L ∧ FrameEnd U o U' L ({ frames := 0, cells := 0, slots := 0, locals := 0 } : Room).cells ({ frames := 0, cells := 0, slots := 0, locals := 0 } : Room).slots) := by
  refine MetFree.of_bodySF (plainFor_of_name own_pn_com_example_differentia_differentia_problems_Cec2013TransformsScalePinLaw) hisR ?_
  intro p e s m args below meth c s₁ Bd hml0 hP hK
  obtain ⟨rfl, hZ, hh⟩ := hP
  have hx := Bd.exec
  have hby := Bd.bytes
  have hml : c.maxLocals = 6 := hml0
  have hown : s.vm.findClass "com/example/differentia/differentia/problems/Cec2013TransformsScalePinLaw" = some m.cls := findClass_of_methodNamed Bd.named
  have hnm := (name_of_methodNamed Bd.named Bd.method).1
  have X0 : Stand p l e ({ frames := 0, cells := 0, slots := 0, locals := 0 } : Room) s m #[(.ref ya), (.ref za), (.int (1 : Int32)), (.int (3 : Int32)), (.int v), (.int f)] below meth c s₁ [] 0 0 := Stand.of_body Bd
  have e0 : s₁.heap = h0 := by rw [← hh, Bd.state]; rfl
  have N0 := Fr.nil n0
  have pre0 : ∀ t, Steps p.tables e below (s₁.setTop (mkF m 0 #[.val (.ref ya), .val (.ref za), .val (.int (1 : Int32)), .val (.int (3 : Int32)), .val (.int v), .val (.int f)] [])) t → Steps p.tables e below (s₁.setTop (entryFrame m #[(.ref ya), (.ref za), (.int (1 : Int32)), (.int (3 : Int32)), (.int v), (.int f)] 6)) t := fun t k => castTop (own_ef_e31 m ya za v f) k
  obtain ⟨fs, hr, hrun, hended, hW, hsame⟩ := X0.leave (v := some (.int (1 : Int32))) (fun h => by rw [Bd.returns] at h; cases h)
  refine ⟨_, _, pre0 _ ?_, hrun, hended, _, _, rfl, ?_, ⟨_, rfl⟩, hW, hsame.mono (by decide) (by decide)⟩
  · refine own_s_iloadN X0.here hx (hb hby own_d3_0) (pc' := 1) rfl rfl ?_
    refine own_s_iloadN X0.here hx (hb hby own_d3_1) (pc' := 2) rfl rfl ?_
    refine own_s_icmpYes X0.here hx (hb hby own_d3_2) (by decide) (pc' := 7) (by decide) (by decide) ?_
    refine own_s_aloadN X0.here hx (hb hby own_d3_7) (pc' := 8) rfl rfl rfl ?_
    refine own_s_iloadN X0.here hx (hb hby own_d3_8) (pc' := 9) rfl rfl ?_
    refine own_ldD X0 hx hZ e0 V_ya (j := (1 : Int32)) (x := d1) (by decide) rfl (hb hby own_d3_9) (pc' := 10) rfl ?_
    refine own_s_iload X0.here hx (hb hby own_d3_10) (pc' := 12) rfl rfl ?_
    refine own_s_i2d X0.here hx (hb hby own_d3_12) (pc' := 13) rfl (v := (FP.i2d v)) rfl ?_
    refine own_s_dcmp X0.here hx (hb hby own_d3_13) (pc' := 14) rfl (v := (0 : Int32)) e31_hc13 ?_
    refine own_s_ifNo X0.here hx (hb hby own_d3_14) (pc' := 17) rfl (by decide) ?_
    refine own_s_aloadN X0.here hx (hb hby own_d3_17) (pc' := 18) rfl rfl rfl ?_
    refine own_s_iloadN X0.here hx (hb hby own_d3_18) (pc' := 19) rfl rfl ?_
    refine own_ldD X0 hx hZ e0 V_za (j := (1 : Int32)) (x := ee1) (by decide) rfl (hb hby own_d3_19) (pc' := 20) rfl ?_
    refine own_s_iload X0.here hx (hb hby own_d3_20) (pc' := 22) rfl rfl ?_
    refine own_s_i2l X0.here hx (hb hby own_d3_22) (pc' := 23) rfl (v := e31_v22) e31_hv22 ?_
    refine own_s_iload X0.here hx (hb hby own_d3_23) (pc' := 25) rfl rfl ?_
    refine own_s_i2l X0.here hx (hb hby own_d3_25) (pc' := 26) rfl (v := e31_v25) e31_hv25 ?_
    refine own_s_lmul X0.here hx (hb hby own_d3_26) (pc' := 27) rfl (v := e31_v26) e31_hv26 ?_
    refine own_s_l2d X0.here hx (hb hby own_d3_27) (pc' := 28) rfl (v := (FP.l2d e31_v26)) rfl ?_
    refine own_s_dcmp X0.here hx (hb hby own_d3_28) (pc' := 29) rfl (v := (0 : Int32)) e31_hc28 ?_
    refine own_s_ifNo X0.here hx (hb hby own_d3_29) (pc' := 32) rfl (by decide) ?_
    refine own_s_iconst X0.here hx (hb hby own_d3_32) (pc' := 33) rfl (v := (1 : Int32)) (by decide) ?_
    refine own_s_goto X0.here hx (hb hby own_d3_33) (by decide) (pc' := 37) (by decide) ?_
    exact retN X0 hx (t := .boolean) Bd.returns (by simp) (hb hby own_d3_37) hr
  · show own_QP (some (.int (1 : Int32))) h0 n0 _ s₁.heap _
    rw [e0]
    exact ⟨rfl, N0, rfl⟩
theorem own_ef_e32 (m : MethodId) (ya : Addr) (za : Addr) (v : Int32) (f : Int32) : entryFrame m #[(.ref ya), (.ref za), (.int (2 : Int32)), (.int (3 : Int32)), (.int v), (.int f)] 6 = mkF m 0 #[.val (.ref ya), .val (.ref za), .val (.int (2 : Int32)), .val (.int (3 : Int32)), .val (.int v), .val (.int f)] [] := by first | (simp [entryFrame, mkF, argsToLocals, Value.category]; done) | rfl
set_option maxRecDepth 65536 in
set_option maxHeartbeats 40000000 in
theorem own_rm_e32 (l : Launch) (Z : State) (a0 : Array Value) (hw : ∀ d ∈ tables_1, d.before a0 Z = true) (ws : List Jvm.Cond) (ya : Addr) (d0 : UInt64) (d1 : UInt64) (d2 : UInt64) (za : Addr) (ee0 : UInt64) (ee1 : UInt64) (ee2 : UInt64) (v : Int32) (f : Int32) {yak : ClassId} {zak : ClassId} {e32_v22 : Int64} {e32_v25 : Int64} {e32_v26 : Int64} (h0 : Heap) (n0 : Nat) (Z0 : n0 ≤ h0.size) (V_ya : Arv Z h0 ya yak .double (3 : Int32) [(.double d0), (.double d1), (.double d2)] (.double 0)) (V_za : Arv Z h0 za zak .double (3 : Int32) [(.double ee0), (.double ee1), (.double ee2)] (.double 0)) (e32_hc13 : Op.cmpValue (FP.dcmp d2 (FP.i2d v)) .l = (0 : Int32)) (e32_hv22 : Int32.toInt64 v = e32_v22) (e32_hv25 : Int32.toInt64 f = e32_v25) (e32_hv26 : e32_v22 * e32_v25 = e32_v26) (e32_hc28 : Op.cmpValue (FP.dcmp ee2 (FP.l2d e32_v26)) .l = (0 : Int32)) :
    MetFree l (⟨"com/example/differentia/differentia/problems/Cec2013TransformsScalePinLaw", "entry", "([D[DIIII)Z"⟩ : MethodName) (head1 (Jvm.Cond.code (⟨"com/example/differentia/differentia/problems/Cec2013TransformsScalePinLaw", "entry", "([D[DIIII)Z"⟩ : MethodName) method_3_code 6 (some .boolean) :: ws) ({ frames := 0, cells := 0, slots := 0, locals := 0 } : Room)) (fun a U => a = #[(.ref ya), (.ref za), (.int (2 : Int32)), (.int (3 : Int32)), (.int v), (.int f)] ∧ Z.Warmed39 U.vm ∧ U.heap = h0) (fun _ _ _ _ _ => True) (fun _ U o U' => ∃ v L, o = .returned v ∧ own_QP (some (.int (1 : Int32))) h0 n0 v U'.heap L ∧ FrameEnd U o U' L ({ frames := 0, cells := 0, slots := 0, locals := 0 } : Room).cells ({ frames := 0, cells := 0, slots := 0, locals := 0 } : Room).slots) := by
  refine MetFree.of_bodySF (plainFor_of_name own_pn_com_example_differentia_differentia_problems_Cec2013TransformsScalePinLaw) hisR ?_
  intro p e s m args below meth c s₁ Bd hml0 hP hK
  obtain ⟨rfl, hZ, hh⟩ := hP
  have hx := Bd.exec
  have hby := Bd.bytes
  have hml : c.maxLocals = 6 := hml0
  have hown : s.vm.findClass "com/example/differentia/differentia/problems/Cec2013TransformsScalePinLaw" = some m.cls := findClass_of_methodNamed Bd.named
  have hnm := (name_of_methodNamed Bd.named Bd.method).1
  have X0 : Stand p l e ({ frames := 0, cells := 0, slots := 0, locals := 0 } : Room) s m #[(.ref ya), (.ref za), (.int (2 : Int32)), (.int (3 : Int32)), (.int v), (.int f)] below meth c s₁ [] 0 0 := Stand.of_body Bd
  have e0 : s₁.heap = h0 := by rw [← hh, Bd.state]; rfl
  have N0 := Fr.nil n0
  have pre0 : ∀ t, Steps p.tables e below (s₁.setTop (mkF m 0 #[.val (.ref ya), .val (.ref za), .val (.int (2 : Int32)), .val (.int (3 : Int32)), .val (.int v), .val (.int f)] [])) t → Steps p.tables e below (s₁.setTop (entryFrame m #[(.ref ya), (.ref za), (.int (2 : Int32)), (.int (3 : Int32)), (.int v), (.int f)] 6)) t := fun t k => castTop (own_ef_e32 m ya za v f) k
  obtain ⟨fs, hr, hrun, hended, hW, hsame⟩ := X0.leave (v := some (.int (1 : Int32))) (fun h => by rw [Bd.returns] at h; cases h)
  refine ⟨_, _, pre0 _ ?_, hrun, hended, _, _, rfl, ?_, ⟨_, rfl⟩, hW, hsame.mono (by decide) (by decide)⟩
  · refine own_s_iloadN X0.here hx (hb hby own_d3_0) (pc' := 1) rfl rfl ?_
    refine own_s_iloadN X0.here hx (hb hby own_d3_1) (pc' := 2) rfl rfl ?_
    refine own_s_icmpYes X0.here hx (hb hby own_d3_2) (by decide) (pc' := 7) (by decide) (by decide) ?_
    refine own_s_aloadN X0.here hx (hb hby own_d3_7) (pc' := 8) rfl rfl rfl ?_
    refine own_s_iloadN X0.here hx (hb hby own_d3_8) (pc' := 9) rfl rfl ?_
    refine own_ldD X0 hx hZ e0 V_ya (j := (2 : Int32)) (x := d2) (by decide) rfl (hb hby own_d3_9) (pc' := 10) rfl ?_
    refine own_s_iload X0.here hx (hb hby own_d3_10) (pc' := 12) rfl rfl ?_
    refine own_s_i2d X0.here hx (hb hby own_d3_12) (pc' := 13) rfl (v := (FP.i2d v)) rfl ?_
    refine own_s_dcmp X0.here hx (hb hby own_d3_13) (pc' := 14) rfl (v := (0 : Int32)) e32_hc13 ?_
    refine own_s_ifNo X0.here hx (hb hby own_d3_14) (pc' := 17) rfl (by decide) ?_
    refine own_s_aloadN X0.here hx (hb hby own_d3_17) (pc' := 18) rfl rfl rfl ?_
    refine own_s_iloadN X0.here hx (hb hby own_d3_18) (pc' := 19) rfl rfl ?_
    refine own_ldD X0 hx hZ e0 V_za (j := (2 : Int32)) (x := ee2) (by decide) rfl (hb hby own_d3_19) (pc' := 20) rfl ?_
    refine own_s_iload X0.here hx (hb hby own_d3_20) (pc' := 22) rfl rfl ?_
    refine own_s_i2l X0.here hx (hb hby own_d3_22) (pc' := 23) rfl (v := e32_v22) e32_hv22 ?_
    refine own_s_iload X0.here hx (hb hby own_d3_23) (pc' := 25) rfl rfl ?_
    refine own_s_i2l X0.here hx (hb hby own_d3_25) (pc' := 26) rfl (v := e32_v25) e32_hv25 ?_
    refine own_s_lmul X0.here hx (hb hby own_d3_26) (pc' := 27) rfl (v := e32_v26) e32_hv26 ?_
    refine own_s_l2d X0.here hx (hb hby own_d3_27) (pc' := 28) rfl (v := (FP.l2d e32_v26)) rfl ?_
    refine own_s_dcmp X0.here hx (hb hby own_d3_28) (pc' := 29) rfl (v := (0 : Int32)) e32_hc28 ?_
    refine own_s_ifNo X0.here hx (hb hby own_d3_29) (pc' := 32) rfl (by decide) ?_
    refine own_s_iconst X0.here hx (hb hby own_d3_32) (pc' := 33) rfl (v := (1 : Int32)) (by decide) ?_
    refine own_s_goto X0.here hx (hb hby own_d3_33) (by decide) (pc' := 37) (by decide) ?_
    exact retN X0 hx (t := .boolean) Bd.returns (by simp) (hb hby own_d3_37) hr
  · show own_QP (some (.int (1 : Int32))) h0 n0 _ s₁.heap _
    rw [e0]
    exact ⟨rfl, N0, rfl⟩
theorem own_ef_w3 (m : MethodId) (p0 : Int32) (p1 : Int32) (p2 : Int32) (p3 : Int32) (p4 : Int32) : entryFrame m #[(.int p0), (.int p1), (.int p2), (.int p3), (.int p4)] maxLocals = mkF m 0 #[.val (.int p0), .val (.int p1), .val (.int p2), .val (.int p3), .val (.int p4), .unset, .unset, .unset, .unset, .unset, .unset, .unset] [] := by first | (simp [entryFrame, mkF, argsToLocals, Value.category, maxLocals]; done) | rfl
set_option maxRecDepth 65536 in
set_option maxHeartbeats 40000000 in
theorem own_rm_w3 (l : Launch) (Z : State) (a0 : Array Value) (hw : ∀ d ∈ tables_1, d.before a0 Z = true) (ws : List Jvm.Cond) (p0 : Int32) (p1 : Int32) (p2 : Int32) (p3 : Int32) (p4 : Int32) {w3_c7_s_v3 : Int32} {w3_c7_s_v6 : Int32} {w3_c13_s_v3 : Int32} {w3_c13_s_v6 : Int32} {w3_c19_s_v3 : Int32} {w3_c19_s_v6 : Int32} {w3_c25_s_v3 : Int32} {w3_c25_s_v6 : Int32} {w3_c79_c3_v23 : UInt64} {w3_c79_c3_v23_2 : UInt64} {w3_c79_c3_v23_3 : UInt64} {w3_c117_e30_v22 : Int64} {w3_c117_e30_v25 : Int64} {w3_c117_e30_v26 : Int64} {w3_c134_e31_v22 : Int64} {w3_c134_e31_v25 : Int64} {w3_c134_e31_v26 : Int64} {w3_c151_e32_v22 : Int64} {w3_c151_e32_v25 : Int64} {w3_c151_e32_v26 : Int64} (h0 : Heap) (n0 : Nat) (Z0 : n0 ≤ h0.size)  (w3_hv3 : p4 &&& (3 : Int32) = (3 : Int32)) (w3_c7_s_hv3 : p0 <<< ((12 : Int32) &&& 31) = w3_c7_s_v3) (w3_c7_s_hv6 : w3_c7_s_v3 >>> ((12 : Int32) &&& 31) = w3_c7_s_v6) (w3_c13_s_hv3 : p1 <<< ((12 : Int32) &&& 31) = w3_c13_s_v3) (w3_c13_s_hv6 : w3_c13_s_v3 >>> ((12 : Int32) &&& 31) = w3_c13_s_v6) (w3_c19_s_hv3 : p2 <<< ((12 : Int32) &&& 31) = w3_c19_s_v3) (w3_c19_s_hv6 : w3_c19_s_v3 >>> ((12 : Int32) &&& 31) = w3_c19_s_v6) (w3_c25_s_hv3 : p3 <<< ((12 : Int32) &&& 31) = w3_c25_s_v3) (w3_c25_s_hv6 : w3_c25_s_v3 >>> ((12 : Int32) &&& 31) = w3_c25_s_v6) (w3_c79_c3_hn23 : Jvm.Free.Fl.NoNaN64 (FP.dmul (FP.i2d w3_c7_s_v6) (FP.i2d w3_c25_s_v6))) (w3_c79_c3_hv23 : FP.dmul (FP.i2d w3_c7_s_v6) (FP.i2d w3_c25_s_v6) = w3_c79_c3_v23) (w3_c79_c3_hn23_2 : Jvm.Free.Fl.NoNaN64 (FP.dmul (FP.i2d w3_c13_s_v6) (FP.i2d w3_c25_s_v6))) (w3_c79_c3_hv23_2 : FP.dmul (FP.i2d w3_c13_s_v6) (FP.i2d w3_c25_s_v6) = w3_c79_c3_v23_2) (w3_c79_c3_hn23_3 : Jvm.Free.Fl.NoNaN64 (FP.dmul (FP.i2d w3_c19_s_v6) (FP.i2d w3_c25_s_v6))) (w3_c79_c3_hv23_3 : FP.dmul (FP.i2d w3_c19_s_v6) (FP.i2d w3_c25_s_v6) = w3_c79_c3_v23_3) (w3_c117_e30_hc13 : Op.cmpValue (FP.dcmp (FP.i2d w3_c7_s_v6) (FP.i2d w3_c7_s_v6)) .l = (0 : Int32)) (w3_c117_e30_hv22 : Int32.toInt64 w3_c7_s_v6 = w3_c117_e30_v22) (w3_c117_e30_hv25 : Int32.toInt64 w3_c25_s_v6 = w3_c117_e30_v25) (w3_c117_e30_hv26 : w3_c117_e30_v22 * w3_c117_e30_v25 = w3_c117_e30_v26) (w3_c117_e30_hc28 : Op.cmpValue (FP.dcmp w3_c79_c3_v23 (FP.l2d w3_c117_e30_v26)) .l = (0 : Int32)) (w3_c134_e31_hc13 : Op.cmpValue (FP.dcmp (FP.i2d w3_c13_s_v6) (FP.i2d w3_c13_s_v6)) .l = (0 : Int32)) (w3_c134_e31_hv22 : Int32.toInt64 w3_c13_s_v6 = w3_c134_e31_v22) (w3_c134_e31_hv25 : Int32.toInt64 w3_c25_s_v6 = w3_c134_e31_v25) (w3_c134_e31_hv26 : w3_c134_e31_v22 * w3_c134_e31_v25 = w3_c134_e31_v26) (w3_c134_e31_hc28 : Op.cmpValue (FP.dcmp w3_c79_c3_v23_2 (FP.l2d w3_c134_e31_v26)) .l = (0 : Int32)) (w3_c151_e32_hc13 : Op.cmpValue (FP.dcmp (FP.i2d w3_c19_s_v6) (FP.i2d w3_c19_s_v6)) .l = (0 : Int32)) (w3_c151_e32_hv22 : Int32.toInt64 w3_c19_s_v6 = w3_c151_e32_v22) (w3_c151_e32_hv25 : Int32.toInt64 w3_c25_s_v6 = w3_c151_e32_v25) (w3_c151_e32_hv26 : w3_c151_e32_v22 * w3_c151_e32_v25 = w3_c151_e32_v26) (w3_c151_e32_hc28 : Op.cmpValue (FP.dcmp w3_c79_c3_v23_3 (FP.l2d w3_c151_e32_v26)) .l = (0 : Int32)) :
    MetFree l x (head1 (Jvm.Cond.code x code maxLocals ret :: ws) room_1) (fun a U => a = #[(.int p0), (.int p1), (.int p2), (.int p3), (.int p4)] ∧ Z.Warmed39 U.vm ∧ U.heap = h0) (fun _ _ _ _ _ => True) (fun _ U o U' => ∃ v L, o = .returned v ∧ own_Q0 n0 v U'.heap L ∧ FrameEnd U o U' L room_1.cells room_1.slots) := by
  refine MetFree.of_bodySF (plainFor_of_name own_pn_com_example_differentia_differentia_problems_Cec2013TransformsScalePinLaw) hisR ?_
  intro p e s m args below meth c s₁ Bd hml0 hP hK
  obtain ⟨rfl, hZ, hh⟩ := hP
  have hx := Bd.exec
  have hby := Bd.bytes
  have hml : c.maxLocals = 12 := hml0
  have hown : s.vm.findClass "com/example/differentia/differentia/problems/Cec2013TransformsScalePinLaw" = some m.cls := findClass_of_methodNamed Bd.named
  have hnm := (name_of_methodNamed Bd.named Bd.method).1
  have X0 : Stand p l e room_1 s m #[(.int p0), (.int p1), (.int p2), (.int p3), (.int p4)] below meth c s₁ [] 0 0 := Stand.of_body Bd
  have e0 : s₁.heap = h0 := by rw [← hh, Bd.state]; rfl
  have N0 := Fr.nil n0
  have pre0 : ∀ t, Steps p.tables e below (s₁.setTop (mkF m 0 #[.val (.int p0), .val (.int p1), .val (.int p2), .val (.int p3), .val (.int p4), .unset, .unset, .unset, .unset, .unset, .unset, .unset] [])) t → Steps p.tables e below (s₁.setTop (entryFrame m #[(.int p0), (.int p1), (.int p2), (.int p3), (.int p4)] maxLocals)) t := fun t k => castTop (own_ef_w3 m p0 p1 p2 p3 p4) k
  obtain ⟨_, _, ⟨Tw31, Lw31, kw31, nw31⟩, -, Xw31, ⟨Lcw31, hQw31, lw31, yw31, zw31⟩, stw31⟩ := Jvm.LawKit.callS X0 hx (y := (⟨"com/example/differentia/differentia/problems/Cec2013TransformsScalePinLaw", "small", "(I)I"⟩ : MethodName)) hown (mvT hZ (hw _ (List.mem_of_getElem? (i := 0) rfl))) (mvT hZ (hw _ (List.mem_of_getElem? (i := 1) rfl))) (mvT hZ (hw _ (List.mem_of_getElem? (i := 2) rfl))) (mvT hZ (hw _ (List.mem_of_getElem? (i := 3) rfl))) (by decide) (backOf (W := 0) (own_rm_s l Z a0 hw [] p0 h0 n0 Z0 w3_c7_s_hv3 w3_c7_s_hv6) hZ (hw _ (List.mem_of_getElem? (i := 3) rfl)) (hw _ (List.mem_of_getElem? (i := 2) rfl)) (by decide) (by decide)) (g := (mkF m 7 #[.val (.int p0), .val (.int p1), .val (.int p2), .val (.int p3), .val (.int p4), .val (.int (3 : Int32)), .unset, .unset, .unset, .unset, .unset, .unset] [(.int p0)])) rfl (by rw [hml]; rfl) (argsL := [(.int p0)]) (rest := []) (lenOf own_pd_28I29I rfl) rfl (by show 2 * 0 + _ ≤ _; exact Nat.le_of_eq rfl) (hb hby at_7) (fun _ _ => ⟨rfl, e0, (by decide : 0 + 0 ≤ _), (by decide : 0 + 0 ≤ _)⟩)
  dsimp only [Pt.U, Pt.locs, Pt.cells, Pt.slots] at Xw31 lw31 yw31 zw31 stw31 hQw31
  subst lw31 yw31 zw31
  obtain ⟨rfl, Nw31q, ew31⟩ := hQw31
  have Nw31 := Fr.app N0 Nw31q
  obtain ⟨_, _, ⟨Tw32, Lw32, kw32, nw32⟩, -, Xw32, ⟨Lcw32, hQw32, lw32, yw32, zw32⟩, stw32⟩ := Jvm.LawKit.callS Xw31 hx (y := (⟨"com/example/differentia/differentia/problems/Cec2013TransformsScalePinLaw", "small", "(I)I"⟩ : MethodName)) hown (mvT hZ (hw _ (List.mem_of_getElem? (i := 0) rfl))) (mvT hZ (hw _ (List.mem_of_getElem? (i := 1) rfl))) (mvT hZ (hw _ (List.mem_of_getElem? (i := 2) rfl))) (mvT hZ (hw _ (List.mem_of_getElem? (i := 3) rfl))) (by decide) (backOf (W := 0) (own_rm_s l Z a0 hw [] p1 h0 n0 Z0 w3_c13_s_hv3 w3_c13_s_hv6) hZ (hw _ (List.mem_of_getElem? (i := 3) rfl)) (hw _ (List.mem_of_getElem? (i := 2) rfl)) (by decide) (by decide)) (g := (mkF m 13 #[.val (.int p0), .val (.int p1), .val (.int p2), .val (.int p3), .val (.int p4), .val (.int (3 : Int32)), .val (.int w3_c7_s_v6), .unset, .unset, .unset, .unset, .unset] [(.int p1)])) rfl (by rw [hml]; rfl) (argsL := [(.int p1)]) (rest := []) (lenOf own_pd_28I29I rfl) rfl (by show 2 * 0 + _ ≤ _; exact Nat.le_of_eq rfl) (hb hby at_13) (fun _ _ => ⟨rfl, ew31, (by decide : 0 + 0 ≤ _), (by decide : 0 + 0 ≤ _)⟩)
  dsimp only [Pt.U, Pt.locs, Pt.cells, Pt.slots] at Xw32 lw32 yw32 zw32 stw32 hQw32
  subst lw32 yw32 zw32
  obtain ⟨rfl, Nw32q, ew32⟩ := hQw32
  have Nw32 := Fr.app Nw31 Nw32q
  obtain ⟨_, _, ⟨Tw33, Lw33, kw33, nw33⟩, -, Xw33, ⟨Lcw33, hQw33, lw33, yw33, zw33⟩, stw33⟩ := Jvm.LawKit.callS Xw32 hx (y := (⟨"com/example/differentia/differentia/problems/Cec2013TransformsScalePinLaw", "small", "(I)I"⟩ : MethodName)) hown (mvT hZ (hw _ (List.mem_of_getElem? (i := 0) rfl))) (mvT hZ (hw _ (List.mem_of_getElem? (i := 1) rfl))) (mvT hZ (hw _ (List.mem_of_getElem? (i := 2) rfl))) (mvT hZ (hw _ (List.mem_of_getElem? (i := 3) rfl))) (by decide) (backOf (W := 0) (own_rm_s l Z a0 hw [] p2 h0 n0 Z0 w3_c19_s_hv3 w3_c19_s_hv6) hZ (hw _ (List.mem_of_getElem? (i := 3) rfl)) (hw _ (List.mem_of_getElem? (i := 2) rfl)) (by decide) (by decide)) (g := (mkF m 19 #[.val (.int p0), .val (.int p1), .val (.int p2), .val (.int p3), .val (.int p4), .val (.int (3 : Int32)), .val (.int w3_c7_s_v6), .val (.int w3_c13_s_v6), .unset, .unset, .unset, .unset] [(.int p2)])) rfl (by rw [hml]; rfl) (argsL := [(.int p2)]) (rest := []) (lenOf own_pd_28I29I rfl) rfl (by show 2 * 0 + _ ≤ _; exact Nat.le_of_eq rfl) (hb hby at_19) (fun _ _ => ⟨rfl, ew32, (by decide : 0 + 0 ≤ _), (by decide : 0 + 0 ≤ _)⟩)
  dsimp only [Pt.U, Pt.locs, Pt.cells, Pt.slots] at Xw33 lw33 yw33 zw33 stw33 hQw33
  subst lw33 yw33 zw33
  obtain ⟨rfl, Nw33q, ew33⟩ := hQw33
  have Nw33 := Fr.app Nw32 Nw33q
  obtain ⟨_, _, ⟨Tw34, Lw34, kw34, nw34⟩, -, Xw34, ⟨Lcw34, hQw34, lw34, yw34, zw34⟩, stw34⟩ := Jvm.LawKit.callS Xw33 hx (y := (⟨"com/example/differentia/differentia/problems/Cec2013TransformsScalePinLaw", "small", "(I)I"⟩ : MethodName)) hown (mvT hZ (hw _ (List.mem_of_getElem? (i := 0) rfl))) (mvT hZ (hw _ (List.mem_of_getElem? (i := 1) rfl))) (mvT hZ (hw _ (List.mem_of_getElem? (i := 2) rfl))) (mvT hZ (hw _ (List.mem_of_getElem? (i := 3) rfl))) (by decide) (backOf (W := 0) (own_rm_s l Z a0 hw [] p3 h0 n0 Z0 w3_c25_s_hv3 w3_c25_s_hv6) hZ (hw _ (List.mem_of_getElem? (i := 3) rfl)) (hw _ (List.mem_of_getElem? (i := 2) rfl)) (by decide) (by decide)) (g := (mkF m 25 #[.val (.int p0), .val (.int p1), .val (.int p2), .val (.int p3), .val (.int p4), .val (.int (3 : Int32)), .val (.int w3_c7_s_v6), .val (.int w3_c13_s_v6), .val (.int w3_c19_s_v6), .unset, .unset, .unset] [(.int p3)])) rfl (by rw [hml]; rfl) (argsL := [(.int p3)]) (rest := []) (lenOf own_pd_28I29I rfl) rfl (by show 2 * 0 + _ ≤ _; exact Nat.le_of_eq rfl) (hb hby at_25) (fun _ _ => ⟨rfl, ew33, (by decide : 0 + 0 ≤ _), (by decide : 0 + 0 ≤ _)⟩)
  dsimp only [Pt.U, Pt.locs, Pt.cells, Pt.slots] at Xw34 lw34 yw34 zw34 stw34 hQw34
  subst lw34 yw34 zw34
  obtain ⟨rfl, Nw34q, ew34⟩ := hQw34
  have Nw34 := Fr.app Nw33 Nw34q
  obtain ⟨Tw35, hw35, kw35, bw35, Xw35, ew35, Ew35, Gw35, Vw35, stw35⟩ := own_newD (L := #[.val (.int p0), .val (.int p1), .val (.int p2), .val (.int p3), .val (.int p4), .val (.int (3 : Int32)), .val (.int w3_c7_s_v6), .val (.int w3_c13_s_v6), .val (.int w3_c19_s_v6), .val (.int w3_c25_s_v6), .unset, .unset]) (S := []) Xw34 hx hZ (hw _ (List.mem_of_getElem? (i := 4) rfl)) ew34 (z := (3 : Int32)) 3 (by decide) (by decide) (by decide) (by decide) (by decide) (hb hby at_32) (pc' := 34) rfl
  have g_bw35 : n0 ≤ bw35 := Nat.le_trans Z0 (Nat.le_of_eq Gw35.symm)
  have sz_bw35 : h0.size ≤ bw35 := Nat.le_trans (Keep.refl h0 []).1 (Nat.le_of_eq Gw35.symm)
  have Zw35 : n0 ≤ hw35.size := Nat.le_trans Z0 Ew35.1
  have KKw35 := (Keep.refl h0 []).ext Ew35
  have V_bw35 : Arv Z hw35 bw35 kw35 .double (3 : Int32) [(.double 0), (.double 0), (.double 0)] (.double 0) := Vw35
  obtain ⟨Tw36, hw36, Xw36, ew36, Ww36, Vw36, stw36⟩ := own_stD (L := #[.val (.int p0), .val (.int p1), .val (.int p2), .val (.int p3), .val (.int p4), .val (.int (3 : Int32)), .val (.int w3_c7_s_v6), .val (.int w3_c13_s_v6), .val (.int w3_c19_s_v6), .val (.int w3_c25_s_v6), .val (.ref bw35), .unset]) (S := []) Xw35 hx hZ ew35 V_bw35 (j := (0 : Int32)) (x := (FP.i2d w3_c7_s_v6)) (by decide) 0 (by decide) (Nat.le_of_ble_eq_true rfl) (hb hby at_47) (pc' := 48) rfl
  have Zw36 : n0 ≤ hw36.size := Nat.le_trans Zw35 (Nat.le_of_eq Ww36.size.symm)
  have KKw36 := KKw35.wr Ww36 (Or.inr sz_bw35)
  have V_bw35_w36 : Arv Z hw36 bw35 kw35 .double (3 : Int32) [(.double (FP.i2d w3_c7_s_v6)), (.double 0), (.double 0)] (.double 0) := Vw36
  have Nw36 := Fr.snoc Xw36 Nw34 g_bw35
  obtain ⟨Tw37, hw37, Xw37, ew37, Ww37, Vw37, stw37⟩ := own_stD (L := #[.val (.int p0), .val (.int p1), .val (.int p2), .val (.int p3), .val (.int p4), .val (.int (3 : Int32)), .val (.int w3_c7_s_v6), .val (.int w3_c13_s_v6), .val (.int w3_c19_s_v6), .val (.int w3_c25_s_v6), .val (.ref bw35), .unset]) (S := []) Xw36 hx hZ ew36 V_bw35_w36 (j := (1 : Int32)) (x := (FP.i2d w3_c13_s_v6)) (by decide) 1 (by decide) (Nat.le_of_ble_eq_true rfl) (hb hby at_60) (pc' := 61) rfl
  have Zw37 : n0 ≤ hw37.size := Nat.le_trans Zw36 (Nat.le_of_eq Ww37.size.symm)
  have KKw37 := KKw36.wr Ww37 (Or.inr sz_bw35)
  have V_bw35_w37 : Arv Z hw37 bw35 kw35 .double (3 : Int32) [(.double (FP.i2d w3_c7_s_v6)), (.double (FP.i2d w3_c13_s_v6)), (.double 0)] (.double 0) := Vw37
  have Nw37 := Fr.snoc Xw37 Nw36 g_bw35
  obtain ⟨Tw38, hw38, Xw38, ew38, Ww38, Vw38, stw38⟩ := own_stD (L := #[.val (.int p0), .val (.int p1), .val (.int p2), .val (.int p3), .val (.int p4), .val (.int (3 : Int32)), .val (.int w3_c7_s_v6), .val (.int w3_c13_s_v6), .val (.int w3_c19_s_v6), .val (.int w3_c25_s_v6), .val (.ref bw35), .unset]) (S := []) Xw37 hx hZ ew37 V_bw35_w37 (j := (2 : Int32)) (x := (FP.i2d w3_c19_s_v6)) (by decide) 2 (by decide) (Nat.le_of_ble_eq_true rfl) (hb hby at_73) (pc' := 74) rfl
  have Zw38 : n0 ≤ hw38.size := Nat.le_trans Zw37 (Nat.le_of_eq Ww38.size.symm)
  have KKw38 := KKw37.wr Ww38 (Or.inr sz_bw35)
  have V_bw35_w38 : Arv Z hw38 bw35 kw35 .double (3 : Int32) [(.double (FP.i2d w3_c7_s_v6)), (.double (FP.i2d w3_c13_s_v6)), (.double (FP.i2d w3_c19_s_v6))] (.double 0) := Vw38
  have Nw38 := Fr.snoc Xw38 Nw37 g_bw35
  obtain ⟨_, _, ⟨Tw39, Lw39, kw39, nw39⟩, -, Xw39, ⟨Lcw39, hQw39, lw39, yw39, zw39⟩, stw39⟩ := Jvm.LawKit.callS Xw38 hx (y := (⟨"com/example/differentia/differentia/problems/Cec2013Transforms", "scale", "([DD)[D"⟩ : MethodName)) hown (mvT hZ (hw _ (List.mem_of_getElem? (i := 5) rfl))) (mvT hZ (hw _ (List.mem_of_getElem? (i := 6) rfl))) (mvT hZ (hw _ (List.mem_of_getElem? (i := 7) rfl))) (mvT hZ (hw _ (List.mem_of_getElem? (i := 8) rfl))) (by decide) (backOf (W := 0) (own_rm_c3 l Z a0 hw [] bw35 (FP.i2d w3_c7_s_v6) (FP.i2d w3_c13_s_v6) (FP.i2d w3_c19_s_v6) (FP.i2d w3_c25_s_v6) hw38 n0 Zw38 V_bw35_w38 w3_c79_c3_hn23 w3_c79_c3_hv23 w3_c79_c3_hn23_2 w3_c79_c3_hv23_2 w3_c79_c3_hn23_3 w3_c79_c3_hv23_3) hZ (hw _ (List.mem_of_getElem? (i := 8) rfl)) (hw _ (List.mem_of_getElem? (i := 7) rfl)) (by decide) (by decide)) (g := (mkF m 79 #[.val (.int p0), .val (.int p1), .val (.int p2), .val (.int p3), .val (.int p4), .val (.int (3 : Int32)), .val (.int w3_c7_s_v6), .val (.int w3_c13_s_v6), .val (.int w3_c19_s_v6), .val (.int w3_c25_s_v6), .val (.ref bw35), .unset] [(.double (FP.i2d w3_c25_s_v6)), (.ref bw35)])) rfl (by rw [hml]; rfl) (argsL := [(.ref bw35), (.double (FP.i2d w3_c25_s_v6))]) (rest := []) (lenOf own_pd_285bDD295bD rfl) rfl (by show 2 * 0 + _ ≤ _; exact Nat.le_of_eq rfl) (hb hby at_79) (fun _ _ => ⟨rfl, ew38, (by decide : 1 + 1 ≤ _), (by decide : 3 + 3 ≤ _)⟩)
  dsimp only [Pt.U, Pt.locs, Pt.cells, Pt.slots] at Xw39 lw39 yw39 zw39 stw39 hQw39
  subst lw39 yw39 zw39
  obtain ⟨bw39, kw39a, rfl, Nw39q, Kw39, Gw39, qw39_0⟩ := hQw39
  have ne_bw35_bw39 : bw35 ≠ bw39 := Nat.ne_of_lt (Nat.lt_of_lt_of_le V_bw35_w38.lt Gw39)
  have ne_bw39_bw35 : bw39 ≠ bw35 := Ne.symm ne_bw35_bw39
  have g_bw39 : n0 ≤ bw39 := Nat.le_trans Zw38 Gw39
  have sz_bw39 : h0.size ≤ bw39 := Nat.le_trans KKw38.1 Gw39
  have V_bw35_w39 := V_bw35_w38.keep Kw39 (List.not_mem_nil)
  have Zw39 : n0 ≤ Tw39.heap.size := Nat.le_trans Zw38 Kw39.1
  have KKw39 := KKw38.trans Kw39 (fun _ q => nomatch q)
  have Nw39 := Fr.app Nw38 Nw39q
  obtain ⟨_, _, ⟨Tw310, Lw310, kw310, nw310⟩, -, Xw310, ⟨Lcw310, hQw310, lw310, yw310, zw310⟩, stw310⟩ := Jvm.LawKit.callS Xw39 hx (y := (⟨"com/example/differentia/differentia/problems/Cec2013TransformsScalePinLaw", "entry", "([D[DIIII)Z"⟩ : MethodName)) hown (mvT hZ (hw _ (List.mem_of_getElem? (i := 9) rfl))) (mvT hZ (hw _ (List.mem_of_getElem? (i := 10) rfl))) (mvT hZ (hw _ (List.mem_of_getElem? (i := 2) rfl))) (mvT hZ (hw _ (List.mem_of_getElem? (i := 11) rfl))) (by decide) (backOf (W := 0) (own_rm_e30 l Z a0 hw [] bw35 (FP.i2d w3_c7_s_v6) (FP.i2d w3_c13_s_v6) (FP.i2d w3_c19_s_v6) bw39 w3_c79_c3_v23 w3_c79_c3_v23_2 w3_c79_c3_v23_3 w3_c7_s_v6 w3_c25_s_v6 Tw39.heap n0 Zw39 V_bw35_w39 qw39_0 w3_c117_e30_hc13 w3_c117_e30_hv22 w3_c117_e30_hv25 w3_c117_e30_hv26 w3_c117_e30_hc28) hZ (hw _ (List.mem_of_getElem? (i := 11) rfl)) (hw _ (List.mem_of_getElem? (i := 2) rfl)) (by decide) (by decide)) (g := (mkF m 117 #[.val (.int p0), .val (.int p1), .val (.int p2), .val (.int p3), .val (.int p4), .val (.int (3 : Int32)), .val (.int w3_c7_s_v6), .val (.int w3_c13_s_v6), .val (.int w3_c19_s_v6), .val (.int w3_c25_s_v6), .val (.ref bw35), .val (.ref bw39)] [(.int w3_c25_s_v6), (.int w3_c7_s_v6), (.int (3 : Int32)), (.int (0 : Int32)), (.ref bw39), (.ref bw35)])) rfl (by rw [hml]; rfl) (argsL := [(.ref bw35), (.ref bw39), (.int (0 : Int32)), (.int (3 : Int32)), (.int w3_c7_s_v6), (.int w3_c25_s_v6)]) (rest := []) (lenOf own_pd_285bD5bDIIII29Z rfl) rfl (by show 2 * 0 + _ ≤ _; exact Nat.le_of_eq rfl) (hb hby at_117) (fun _ _ => ⟨rfl, rfl, (by decide : 2 + 0 ≤ _), (by decide : 6 + 0 ≤ _)⟩)
  dsimp only [Pt.U, Pt.locs, Pt.cells, Pt.slots] at Xw310 lw310 yw310 zw310 stw310 hQw310
  subst lw310 yw310 zw310
  obtain ⟨rfl, Nw310q, ew310⟩ := hQw310
  have Nw310 := Fr.app Nw39 Nw310q
  obtain ⟨_, _, ⟨Tw311, Lw311, kw311, nw311⟩, -, Xw311, ⟨Lcw311, hQw311, lw311, yw311, zw311⟩, stw311⟩ := Jvm.LawKit.callS Xw310 hx (y := (⟨"com/example/differentia/differentia/problems/Cec2013TransformsScalePinLaw", "entry", "([D[DIIII)Z"⟩ : MethodName)) hown (mvT hZ (hw _ (List.mem_of_getElem? (i := 9) rfl))) (mvT hZ (hw _ (List.mem_of_getElem? (i := 10) rfl))) (mvT hZ (hw _ (List.mem_of_getElem? (i := 2) rfl))) (mvT hZ (hw _ (List.mem_of_getElem? (i := 11) rfl))) (by decide) (backOf (W := 0) (own_rm_e31 l Z a0 hw [] bw35 (FP.i2d w3_c7_s_v6) (FP.i2d w3_c13_s_v6) (FP.i2d w3_c19_s_v6) bw39 w3_c79_c3_v23 w3_c79_c3_v23_2 w3_c79_c3_v23_3 w3_c13_s_v6 w3_c25_s_v6 Tw39.heap n0 Zw39 V_bw35_w39 qw39_0 w3_c134_e31_hc13 w3_c134_e31_hv22 w3_c134_e31_hv25 w3_c134_e31_hv26 w3_c134_e31_hc28) hZ (hw _ (List.mem_of_getElem? (i := 11) rfl)) (hw _ (List.mem_of_getElem? (i := 2) rfl)) (by decide) (by decide)) (g := (mkF m 134 #[.val (.int p0), .val (.int p1), .val (.int p2), .val (.int p3), .val (.int p4), .val (.int (3 : Int32)), .val (.int w3_c7_s_v6), .val (.int w3_c13_s_v6), .val (.int w3_c19_s_v6), .val (.int w3_c25_s_v6), .val (.ref bw35), .val (.ref bw39)] [(.int w3_c25_s_v6), (.int w3_c13_s_v6), (.int (3 : Int32)), (.int (1 : Int32)), (.ref bw39), (.ref bw35)])) rfl (by rw [hml]; rfl) (argsL := [(.ref bw35), (.ref bw39), (.int (1 : Int32)), (.int (3 : Int32)), (.int w3_c13_s_v6), (.int w3_c25_s_v6)]) (rest := []) (lenOf own_pd_285bD5bDIIII29Z rfl) rfl (by show 2 * 0 + _ ≤ _; exact Nat.le_of_eq rfl) (hb hby at_134) (fun _ _ => ⟨rfl, ew310, (by decide : 2 + 0 ≤ _), (by decide : 6 + 0 ≤ _)⟩)
  dsimp only [Pt.U, Pt.locs, Pt.cells, Pt.slots] at Xw311 lw311 yw311 zw311 stw311 hQw311
  subst lw311 yw311 zw311
  obtain ⟨rfl, Nw311q, ew311⟩ := hQw311
  have Nw311 := Fr.app Nw310 Nw311q
  obtain ⟨_, _, ⟨Tw312, Lw312, kw312, nw312⟩, -, Xw312, ⟨Lcw312, hQw312, lw312, yw312, zw312⟩, stw312⟩ := Jvm.LawKit.callS Xw311 hx (y := (⟨"com/example/differentia/differentia/problems/Cec2013TransformsScalePinLaw", "entry", "([D[DIIII)Z"⟩ : MethodName)) hown (mvT hZ (hw _ (List.mem_of_getElem? (i := 9) rfl))) (mvT hZ (hw _ (List.mem_of_getElem? (i := 10) rfl))) (mvT hZ (hw _ (List.mem_of_getElem? (i := 2) rfl))) (mvT hZ (hw _ (List.mem_of_getElem? (i := 11) rfl))) (by decide) (backOf (W := 0) (own_rm_e32 l Z a0 hw [] bw35 (FP.i2d w3_c7_s_v6) (FP.i2d w3_c13_s_v6) (FP.i2d w3_c19_s_v6) bw39 w3_c79_c3_v23 w3_c79_c3_v23_2 w3_c79_c3_v23_3 w3_c19_s_v6 w3_c25_s_v6 Tw39.heap n0 Zw39 V_bw35_w39 qw39_0 w3_c151_e32_hc13 w3_c151_e32_hv22 w3_c151_e32_hv25 w3_c151_e32_hv26 w3_c151_e32_hc28) hZ (hw _ (List.mem_of_getElem? (i := 11) rfl)) (hw _ (List.mem_of_getElem? (i := 2) rfl)) (by decide) (by decide)) (g := (mkF m 151 #[.val (.int p0), .val (.int p1), .val (.int p2), .val (.int p3), .val (.int p4), .val (.int (3 : Int32)), .val (.int w3_c7_s_v6), .val (.int w3_c13_s_v6), .val (.int w3_c19_s_v6), .val (.int w3_c25_s_v6), .val (.ref bw35), .val (.ref bw39)] [(.int w3_c25_s_v6), (.int w3_c19_s_v6), (.int (3 : Int32)), (.int (2 : Int32)), (.ref bw39), (.ref bw35)])) rfl (by rw [hml]; rfl) (argsL := [(.ref bw35), (.ref bw39), (.int (2 : Int32)), (.int (3 : Int32)), (.int w3_c19_s_v6), (.int w3_c25_s_v6)]) (rest := []) (lenOf own_pd_285bD5bDIIII29Z rfl) rfl (by show 2 * 0 + _ ≤ _; exact Nat.le_of_eq rfl) (hb hby at_151) (fun _ _ => ⟨rfl, ew311, (by decide : 2 + 0 ≤ _), (by decide : 6 + 0 ≤ _)⟩)
  dsimp only [Pt.U, Pt.locs, Pt.cells, Pt.slots] at Xw312 lw312 yw312 zw312 stw312 hQw312
  subst lw312 yw312 zw312
  obtain ⟨rfl, Nw312q, ew312⟩ := hQw312
  have Nw312 := Fr.app Nw311 Nw312q
  obtain ⟨fs, hr, hrun, hended, hW, hsame⟩ := Xw312.leave (v := some (.int (1 : Int32))) (fun h => by rw [Bd.returns] at h; cases h)
  refine ⟨_, _, pre0 _ ?_, hrun, hended, _, _, rfl, ?_, ⟨_, rfl⟩, hW, hsame.mono (by decide) (by decide)⟩
  · refine own_s_iload X0.here hx (hb hby at_0) (pc' := 2) rfl rfl ?_
    refine own_s_iconst X0.here hx (hb hby at_2) (pc' := 3) rfl (v := (3 : Int32)) (by decide) ?_
    refine own_s_iand X0.here hx (hb hby at_3) (pc' := 4) rfl (v := (3 : Int32)) w3_hv3 ?_
    refine own_s_istore X0.here hx (hb hby at_4) (pc' := 6) rfl (L' := #[.val (.int p0), .val (.int p1), .val (.int p2), .val (.int p3), .val (.int p4), .val (.int (3 : Int32)), .unset, .unset, .unset, .unset, .unset, .unset]) rfl ?_
    refine own_s_iloadN X0.here hx (hb hby at_6) (pc' := 7) rfl rfl ?_
    refine stw31 _ ?_
    show Steps p.tables e below (Tw31.setTop (mkF m 10 #[.val (.int p0), .val (.int p1), .val (.int p2), .val (.int p3), .val (.int p4), .val (.int (3 : Int32)), .unset, .unset, .unset, .unset, .unset, .unset] [(.int w3_c7_s_v6)])) _
    refine own_s_istore Xw31.here hx (hb hby at_10) (pc' := 12) rfl (L' := #[.val (.int p0), .val (.int p1), .val (.int p2), .val (.int p3), .val (.int p4), .val (.int (3 : Int32)), .val (.int w3_c7_s_v6), .unset, .unset, .unset, .unset, .unset]) rfl ?_
    refine own_s_iloadN Xw31.here hx (hb hby at_12) (pc' := 13) rfl rfl ?_
    refine stw32 _ ?_
    show Steps p.tables e below (Tw32.setTop (mkF m 16 #[.val (.int p0), .val (.int p1), .val (.int p2), .val (.int p3), .val (.int p4), .val (.int (3 : Int32)), .val (.int w3_c7_s_v6), .unset, .unset, .unset, .unset, .unset] [(.int w3_c13_s_v6)])) _
    refine own_s_istore Xw32.here hx (hb hby at_16) (pc' := 18) rfl (L' := #[.val (.int p0), .val (.int p1), .val (.int p2), .val (.int p3), .val (.int p4), .val (.int (3 : Int32)), .val (.int w3_c7_s_v6), .val (.int w3_c13_s_v6), .unset, .unset, .unset, .unset]) rfl ?_
    refine own_s_iloadN Xw32.here hx (hb hby at_18) (pc' := 19) rfl rfl ?_
    refine stw33 _ ?_
    show Steps p.tables e below (Tw33.setTop (mkF m 22 #[.val (.int p0), .val (.int p1), .val (.int p2), .val (.int p3), .val (.int p4), .val (.int (3 : Int32)), .val (.int w3_c7_s_v6), .val (.int w3_c13_s_v6), .unset, .unset, .unset, .unset] [(.int w3_c19_s_v6)])) _
    refine own_s_istore Xw33.here hx (hb hby at_22) (pc' := 24) rfl (L' := #[.val (.int p0), .val (.int p1), .val (.int p2), .val (.int p3), .val (.int p4), .val (.int (3 : Int32)), .val (.int w3_c7_s_v6), .val (.int w3_c13_s_v6), .val (.int w3_c19_s_v6), .unset, .unset, .unset]) rfl ?_
    refine own_s_iloadN Xw33.here hx (hb hby at_24) (pc' := 25) rfl rfl ?_
    refine stw34 _ ?_
    show Steps p.tables e below (Tw34.setTop (mkF m 28 #[.val (.int p0), .val (.int p1), .val (.int p2), .val (.int p3), .val (.int p4), .val (.int (3 : Int32)), .val (.int w3_c7_s_v6), .val (.int w3_c13_s_v6), .val (.int w3_c19_s_v6), .unset, .unset, .unset] [(.int w3_c25_s_v6)])) _
    refine own_s_istore Xw34.here hx (hb hby at_28) (pc' := 30) rfl (L' := #[.val (.int p0), .val (.int p1), .val (.int p2), .val (.int p3), .val (.int p4), .val (.int (3 : Int32)), .val (.int w3_c7_s_v6), .val (.int w3_c13_s_v6), .val (.int w3_c19_s_v6), .val (.int w3_c25_s_v6), .unset, .unset]) rfl ?_
    refine own_s_iload Xw34.here hx (hb hby at_30) (pc' := 32) rfl rfl ?_
    refine stw35 _ ?_
    refine own_s_astore Xw35.here hx (hb hby at_34) (pc' := 36) rfl rfl (L' := #[.val (.int p0), .val (.int p1), .val (.int p2), .val (.int p3), .val (.int p4), .val (.int (3 : Int32)), .val (.int w3_c7_s_v6), .val (.int w3_c13_s_v6), .val (.int w3_c19_s_v6), .val (.int w3_c25_s_v6), .val (.ref bw35), .unset]) rfl ?_
    refine own_s_iload Xw35.here hx (hb hby at_36) (pc' := 38) rfl rfl ?_
    refine own_s_ifNo Xw35.here hx (hb hby at_38) (pc' := 41) rfl (by decide) ?_
    refine own_s_aload Xw35.here hx (hb hby at_41) (pc' := 43) rfl rfl rfl ?_
    refine own_s_iconst Xw35.here hx (hb hby at_43) (pc' := 44) rfl (v := (0 : Int32)) (by decide) ?_
    refine own_s_iload Xw35.here hx (hb hby at_44) (pc' := 46) rfl rfl ?_
    refine own_s_i2d Xw35.here hx (hb hby at_46) (pc' := 47) rfl (v := (FP.i2d w3_c7_s_v6)) rfl ?_
    refine stw36 _ ?_
    refine own_s_iload Xw36.here hx (hb hby at_48) (pc' := 50) rfl rfl ?_
    refine own_s_iconst Xw36.here hx (hb hby at_50) (pc' := 51) rfl (v := (1 : Int32)) (by decide) ?_
    refine own_s_icmpNo Xw36.here hx (hb hby at_51) (pc' := 54) rfl (by decide) ?_
    refine own_s_aload Xw36.here hx (hb hby at_54) (pc' := 56) rfl rfl rfl ?_
    refine own_s_iconst Xw36.here hx (hb hby at_56) (pc' := 57) rfl (v := (1 : Int32)) (by decide) ?_
    refine own_s_iload Xw36.here hx (hb hby at_57) (pc' := 59) rfl rfl ?_
    refine own_s_i2d Xw36.here hx (hb hby at_59) (pc' := 60) rfl (v := (FP.i2d w3_c13_s_v6)) rfl ?_
    refine stw37 _ ?_
    refine own_s_iload Xw37.here hx (hb hby at_61) (pc' := 63) rfl rfl ?_
    refine own_s_iconst Xw37.here hx (hb hby at_63) (pc' := 64) rfl (v := (2 : Int32)) (by decide) ?_
    refine own_s_icmpNo Xw37.here hx (hb hby at_64) (pc' := 67) rfl (by decide) ?_
    refine own_s_aload Xw37.here hx (hb hby at_67) (pc' := 69) rfl rfl rfl ?_
    refine own_s_iconst Xw37.here hx (hb hby at_69) (pc' := 70) rfl (v := (2 : Int32)) (by decide) ?_
    refine own_s_iload Xw37.here hx (hb hby at_70) (pc' := 72) rfl rfl ?_
    refine own_s_i2d Xw37.here hx (hb hby at_72) (pc' := 73) rfl (v := (FP.i2d w3_c19_s_v6)) rfl ?_
    refine stw38 _ ?_
    refine own_s_aload Xw38.here hx (hb hby at_74) (pc' := 76) rfl rfl rfl ?_
    refine own_s_iload Xw38.here hx (hb hby at_76) (pc' := 78) rfl rfl ?_
    refine own_s_i2d Xw38.here hx (hb hby at_78) (pc' := 79) rfl (v := (FP.i2d w3_c25_s_v6)) rfl ?_
    refine stw39 _ ?_
    show Steps p.tables e below (Tw39.setTop (mkF m 82 #[.val (.int p0), .val (.int p1), .val (.int p2), .val (.int p3), .val (.int p4), .val (.int (3 : Int32)), .val (.int w3_c7_s_v6), .val (.int w3_c13_s_v6), .val (.int w3_c19_s_v6), .val (.int w3_c25_s_v6), .val (.ref bw35), .unset] [(.ref bw39)])) _
    refine own_s_astore Xw39.here hx (hb hby at_82) (pc' := 84) rfl rfl (L' := #[.val (.int p0), .val (.int p1), .val (.int p2), .val (.int p3), .val (.int p4), .val (.int (3 : Int32)), .val (.int w3_c7_s_v6), .val (.int w3_c13_s_v6), .val (.int w3_c19_s_v6), .val (.int w3_c25_s_v6), .val (.ref bw35), .val (.ref bw39)]) rfl ?_
    refine own_s_aload Xw39.here hx (hb hby at_84) (pc' := 86) rfl rfl rfl ?_
    refine own_s_ifnullNo Xw39.here hx (hb hby at_86) (pc' := 89) rfl  ?_
    refine own_s_aload Xw39.here hx (hb hby at_89) (pc' := 91) rfl rfl rfl ?_
    refine own_s_aload Xw39.here hx (hb hby at_91) (pc' := 93) rfl rfl rfl ?_
    refine Jvm.RoadKit.acmp (g := (mkF m 93 #[.val (.int p0), .val (.int p1), .val (.int p2), .val (.int p3), .val (.int p4), .val (.int (3 : Int32)), .val (.int w3_c7_s_v6), .val (.int w3_c13_s_v6), .val (.int w3_c19_s_v6), .val (.int w3_c25_s_v6), .val (.ref bw35), .val (.ref bw39)] [(.ref bw35), (.ref bw39)])) Xw39 hx rfl rfl rfl (pc0 := 93) (pc' := 96) (same := false) rfl (hb hby at_93) rfl (decide_eq_false fun q => ne_bw39_bw35 (Value.ref.inj q)) (by decide) (by decide) ?_
    show Steps p.tables e below (Tw39.setTop (mkF m 96 #[.val (.int p0), .val (.int p1), .val (.int p2), .val (.int p3), .val (.int p4), .val (.int (3 : Int32)), .val (.int w3_c7_s_v6), .val (.int w3_c13_s_v6), .val (.int w3_c19_s_v6), .val (.int w3_c25_s_v6), .val (.ref bw35), .val (.ref bw39)] [])) _
    refine own_s_aload Xw39.here hx (hb hby at_96) (pc' := 98) rfl rfl rfl ?_
    refine own_len Xw39 hx hZ rfl qw39_0 (hb hby at_98) (pc' := 99) rfl ?_
    refine own_s_iload Xw39.here hx (hb hby at_99) (pc' := 101) rfl rfl ?_
    refine own_s_icmpYes Xw39.here hx (hb hby at_101) (by decide) (pc' := 106) (by decide) (by decide) ?_
    refine own_s_aload Xw39.here hx (hb hby at_106) (pc' := 108) rfl rfl rfl ?_
    refine own_s_aload Xw39.here hx (hb hby at_108) (pc' := 110) rfl rfl rfl ?_
    refine own_s_iconst Xw39.here hx (hb hby at_110) (pc' := 111) rfl (v := (0 : Int32)) (by decide) ?_
    refine own_s_iload Xw39.here hx (hb hby at_111) (pc' := 113) rfl rfl ?_
    refine own_s_iload Xw39.here hx (hb hby at_113) (pc' := 115) rfl rfl ?_
    refine own_s_iload Xw39.here hx (hb hby at_115) (pc' := 117) rfl rfl ?_
    refine stw310 _ ?_
    show Steps p.tables e below (Tw310.setTop (mkF m 120 #[.val (.int p0), .val (.int p1), .val (.int p2), .val (.int p3), .val (.int p4), .val (.int (3 : Int32)), .val (.int w3_c7_s_v6), .val (.int w3_c13_s_v6), .val (.int w3_c19_s_v6), .val (.int w3_c25_s_v6), .val (.ref bw35), .val (.ref bw39)] [(.int (1 : Int32))])) _
    refine own_s_ifNo Xw310.here hx (hb hby at_120) (pc' := 123) rfl (by decide) ?_
    refine own_s_aload Xw310.here hx (hb hby at_123) (pc' := 125) rfl rfl rfl ?_
    refine own_s_aload Xw310.here hx (hb hby at_125) (pc' := 127) rfl rfl rfl ?_
    refine own_s_iconst Xw310.here hx (hb hby at_127) (pc' := 128) rfl (v := (1 : Int32)) (by decide) ?_
    refine own_s_iload Xw310.here hx (hb hby at_128) (pc' := 130) rfl rfl ?_
    refine own_s_iload Xw310.here hx (hb hby at_130) (pc' := 132) rfl rfl ?_
    refine own_s_iload Xw310.here hx (hb hby at_132) (pc' := 134) rfl rfl ?_
    refine stw311 _ ?_
    show Steps p.tables e below (Tw311.setTop (mkF m 137 #[.val (.int p0), .val (.int p1), .val (.int p2), .val (.int p3), .val (.int p4), .val (.int (3 : Int32)), .val (.int w3_c7_s_v6), .val (.int w3_c13_s_v6), .val (.int w3_c19_s_v6), .val (.int w3_c25_s_v6), .val (.ref bw35), .val (.ref bw39)] [(.int (1 : Int32))])) _
    refine own_s_ifNo Xw311.here hx (hb hby at_137) (pc' := 140) rfl (by decide) ?_
    refine own_s_aload Xw311.here hx (hb hby at_140) (pc' := 142) rfl rfl rfl ?_
    refine own_s_aload Xw311.here hx (hb hby at_142) (pc' := 144) rfl rfl rfl ?_
    refine own_s_iconst Xw311.here hx (hb hby at_144) (pc' := 145) rfl (v := (2 : Int32)) (by decide) ?_
    refine own_s_iload Xw311.here hx (hb hby at_145) (pc' := 147) rfl rfl ?_
    refine own_s_iload Xw311.here hx (hb hby at_147) (pc' := 149) rfl rfl ?_
    refine own_s_iload Xw311.here hx (hb hby at_149) (pc' := 151) rfl rfl ?_
    refine stw312 _ ?_
    show Steps p.tables e below (Tw312.setTop (mkF m 154 #[.val (.int p0), .val (.int p1), .val (.int p2), .val (.int p3), .val (.int p4), .val (.int (3 : Int32)), .val (.int w3_c7_s_v6), .val (.int w3_c13_s_v6), .val (.int w3_c19_s_v6), .val (.int w3_c25_s_v6), .val (.ref bw35), .val (.ref bw39)] [(.int (1 : Int32))])) _
    refine own_s_ifNo Xw312.here hx (hb hby at_154) (pc' := 157) rfl (by decide) ?_
    refine own_s_iconst Xw312.here hx (hb hby at_157) (pc' := 158) rfl (v := (1 : Int32)) (by decide) ?_
    refine own_s_goto Xw312.here hx (hb hby at_158) (by decide) (pc' := 162) (by decide) ?_
    exact retN Xw312 hx (t := .boolean) Bd.returns (by simp) (hb hby at_162) hr
  · show own_Q0 n0 _ Tw312.heap _
    rw [ew312]
    exact ⟨rfl, Nw312⟩
set_option maxRecDepth 65536 in
set_option maxHeartbeats 40000000 in
theorem own_rm0 (l : Launch) (Z : State) (a0 : Array Value) (hw : ∀ d ∈ tables_1, d.before a0 Z = true) (ws : List Jvm.Cond) (p0 : Int32) (p1 : Int32) (p2 : Int32) (p3 : Int32) (p4 : Int32) (h0 : Heap) (n0 : Nat) (Z0 : n0 ≤ h0.size)  :
    MetFree l x (head1 (Jvm.Cond.code x code maxLocals ret :: ws) room_1) (fun a U => a = #[(.int p0), (.int p1), (.int p2), (.int p3), (.int p4)] ∧ Z.Warmed39 U.vm ∧ U.heap = h0) (fun _ _ _ _ _ => True) (fun _ U o U' => ∃ v L, o = .returned v ∧ own_Q0 n0 v U'.heap L ∧ FrameEnd U o U' L room_1.cells room_1.slots) := by
  rcases own_mask3 p4 with hn | hn | hn | hn
  · obtain ⟨c7_s_v3, c7_s_hv3⟩ : ∃ v, p0 <<< ((12 : Int32) &&& 31) = v := ⟨_, rfl⟩
    obtain ⟨c7_s_v6, c7_s_hv6⟩ : ∃ v, c7_s_v3 >>> ((12 : Int32) &&& 31) = v := ⟨_, rfl⟩
    have L_c7_s_v6 := own_small c7_s_hv3 c7_s_hv6
    obtain ⟨c13_s_v3, c13_s_hv3⟩ : ∃ v, p1 <<< ((12 : Int32) &&& 31) = v := ⟨_, rfl⟩
    obtain ⟨c13_s_v6, c13_s_hv6⟩ : ∃ v, c13_s_v3 >>> ((12 : Int32) &&& 31) = v := ⟨_, rfl⟩
    have L_c13_s_v6 := own_small c13_s_hv3 c13_s_hv6
    obtain ⟨c19_s_v3, c19_s_hv3⟩ : ∃ v, p2 <<< ((12 : Int32) &&& 31) = v := ⟨_, rfl⟩
    obtain ⟨c19_s_v6, c19_s_hv6⟩ : ∃ v, c19_s_v3 >>> ((12 : Int32) &&& 31) = v := ⟨_, rfl⟩
    have L_c19_s_v6 := own_small c19_s_hv3 c19_s_hv6
    obtain ⟨c25_s_v3, c25_s_hv3⟩ : ∃ v, p3 <<< ((12 : Int32) &&& 31) = v := ⟨_, rfl⟩
    obtain ⟨c25_s_v6, c25_s_hv6⟩ : ∃ v, c25_s_v3 >>> ((12 : Int32) &&& 31) = v := ⟨_, rfl⟩
    have L_c25_s_v6 := own_small c25_s_hv3 c25_s_hv6
    exact own_rm_w0 l Z a0 hw ws p0 p1 p2 p3 p4 h0 n0 Z0 (w0_hv3 := hn) (w0_c7_s_hv3 := c7_s_hv3) (w0_c7_s_hv6 := c7_s_hv6) (w0_c13_s_hv3 := c13_s_hv3) (w0_c13_s_hv6 := c13_s_hv6) (w0_c19_s_hv3 := c19_s_hv3) (w0_c19_s_hv6 := c19_s_hv6) (w0_c25_s_hv3 := c25_s_hv3) (w0_c25_s_hv6 := c25_s_hv6)
  · obtain ⟨c7_s_v3, c7_s_hv3⟩ : ∃ v, p0 <<< ((12 : Int32) &&& 31) = v := ⟨_, rfl⟩
    obtain ⟨c7_s_v6, c7_s_hv6⟩ : ∃ v, c7_s_v3 >>> ((12 : Int32) &&& 31) = v := ⟨_, rfl⟩
    have L_c7_s_v6 := own_small c7_s_hv3 c7_s_hv6
    obtain ⟨c13_s_v3, c13_s_hv3⟩ : ∃ v, p1 <<< ((12 : Int32) &&& 31) = v := ⟨_, rfl⟩
    obtain ⟨c13_s_v6, c13_s_hv6⟩ : ∃ v, c13_s_v3 >>> ((12 : Int32) &&& 31) = v := ⟨_, rfl⟩
    have L_c13_s_v6 := own_small c13_s_hv3 c13_s_hv6
    obtain ⟨c19_s_v3, c19_s_hv3⟩ : ∃ v, p2 <<< ((12 : Int32) &&& 31) = v := ⟨_, rfl⟩
    obtain ⟨c19_s_v6, c19_s_hv6⟩ : ∃ v, c19_s_v3 >>> ((12 : Int32) &&& 31) = v := ⟨_, rfl⟩
    have L_c19_s_v6 := own_small c19_s_hv3 c19_s_hv6
    obtain ⟨c25_s_v3, c25_s_hv3⟩ : ∃ v, p3 <<< ((12 : Int32) &&& 31) = v := ⟨_, rfl⟩
    obtain ⟨c25_s_v6, c25_s_hv6⟩ : ∃ v, c25_s_v3 >>> ((12 : Int32) &&& 31) = v := ⟨_, rfl⟩
    have L_c25_s_v6 := own_small c25_s_hv3 c25_s_hv6
    obtain ⟨c79_c1_v23, c79_c1_hv23⟩ : ∃ v, FP.dmul (FP.i2d c7_s_v6) (FP.i2d c25_s_v6) = v := ⟨_, rfl⟩
    have Id1 : own_B (FP.i2d c7_s_v6) (c7_s_v6.toInt) 0 524288 := own_Bi2d L_c7_s_v6
    have Id2 : own_B (FP.i2d c25_s_v6) (c25_s_v6.toInt) 0 524288 := own_Bi2d L_c25_s_v6
    have J3 : own_B (FP.dmul (FP.i2d c7_s_v6) (FP.i2d c25_s_v6)) ((c7_s_v6.toInt) * (c25_s_v6.toInt)) (0) 274877906944 := own_Bcast (own_Bmul Id1 Id2 (by decide)) rfl (by decide) (by decide)
    have J3n := J3.nn
    rw [c79_c1_hv23] at J3
    obtain ⟨c117_e10_v22, c117_e10_hv22⟩ : ∃ v, Int32.toInt64 c7_s_v6 = v := ⟨_, rfl⟩
    have L_c117_e10_v22 := own_Ii2l c117_e10_hv22 L_c7_s_v6
    obtain ⟨c117_e10_v25, c117_e10_hv25⟩ : ∃ v, Int32.toInt64 c25_s_v6 = v := ⟨_, rfl⟩
    have L_c117_e10_v25 := own_Ii2l c117_e10_hv25 L_c25_s_v6
    obtain ⟨c117_e10_v26, c117_e10_hv26⟩ : ∃ v, c117_e10_v22 * c117_e10_v25 = v := ⟨_, rfl⟩
    have L_c117_e10_v26 : own_L c117_e10_v26 ((c7_s_v6.toInt) * (c25_s_v6.toInt)) 274877906944 := own_Lcast (own_Lmul c117_e10_hv26 L_c117_e10_v22 L_c117_e10_v25 (by decide)) rfl (by decide)
    have Id4 : own_B (FP.l2d c117_e10_v26) (((c7_s_v6.toInt) * (c25_s_v6.toInt))) 0 274877906944 := own_Bl2d L_c117_e10_v26 (by decide)
    exact own_rm_w1 l Z a0 hw ws p0 p1 p2 p3 p4 h0 n0 Z0 (w1_hv3 := hn) (w1_c7_s_hv3 := c7_s_hv3) (w1_c7_s_hv6 := c7_s_hv6) (w1_c13_s_hv3 := c13_s_hv3) (w1_c13_s_hv6 := c13_s_hv6) (w1_c19_s_hv3 := c19_s_hv3) (w1_c19_s_hv6 := c19_s_hv6) (w1_c25_s_hv3 := c25_s_hv3) (w1_c25_s_hv6 := c25_s_hv6) (w1_c79_c1_hn23 := J3n) (w1_c79_c1_hv23 := c79_c1_hv23) (w1_c117_e10_hc13 := (own_eq0 Id1.is Id1.is (by first | rfl | omega | grind) _)) (w1_c117_e10_hv22 := c117_e10_hv22) (w1_c117_e10_hv25 := c117_e10_hv25) (w1_c117_e10_hv26 := c117_e10_hv26) (w1_c117_e10_hc28 := (own_eq0 J3.is Id4.is (by first | rfl | omega | grind) _))
  · obtain ⟨c7_s_v3, c7_s_hv3⟩ : ∃ v, p0 <<< ((12 : Int32) &&& 31) = v := ⟨_, rfl⟩
    obtain ⟨c7_s_v6, c7_s_hv6⟩ : ∃ v, c7_s_v3 >>> ((12 : Int32) &&& 31) = v := ⟨_, rfl⟩
    have L_c7_s_v6 := own_small c7_s_hv3 c7_s_hv6
    obtain ⟨c13_s_v3, c13_s_hv3⟩ : ∃ v, p1 <<< ((12 : Int32) &&& 31) = v := ⟨_, rfl⟩
    obtain ⟨c13_s_v6, c13_s_hv6⟩ : ∃ v, c13_s_v3 >>> ((12 : Int32) &&& 31) = v := ⟨_, rfl⟩
    have L_c13_s_v6 := own_small c13_s_hv3 c13_s_hv6
    obtain ⟨c19_s_v3, c19_s_hv3⟩ : ∃ v, p2 <<< ((12 : Int32) &&& 31) = v := ⟨_, rfl⟩
    obtain ⟨c19_s_v6, c19_s_hv6⟩ : ∃ v, c19_s_v3 >>> ((12 : Int32) &&& 31) = v := ⟨_, rfl⟩
    have L_c19_s_v6 := own_small c19_s_hv3 c19_s_hv6
    obtain ⟨c25_s_v3, c25_s_hv3⟩ : ∃ v, p3 <<< ((12 : Int32) &&& 31) = v := ⟨_, rfl⟩
    obtain ⟨c25_s_v6, c25_s_hv6⟩ : ∃ v, c25_s_v3 >>> ((12 : Int32) &&& 31) = v := ⟨_, rfl⟩
    have L_c25_s_v6 := own_small c25_s_hv3 c25_s_hv6
    obtain ⟨c79_c2_v23, c79_c2_hv23⟩ : ∃ v, FP.dmul (FP.i2d c7_s_v6) (FP.i2d c25_s_v6) = v := ⟨_, rfl⟩
    have Id1 : own_B (FP.i2d c7_s_v6) (c7_s_v6.toInt) 0 524288 := own_Bi2d L_c7_s_v6
    have Id2 : own_B (FP.i2d c25_s_v6) (c25_s_v6.toInt) 0 524288 := own_Bi2d L_c25_s_v6
    have J3 : own_B (FP.dmul (FP.i2d c7_s_v6) (FP.i2d c25_s_v6)) ((c7_s_v6.toInt) * (c25_s_v6.toInt)) (0) 274877906944 := own_Bcast (own_Bmul Id1 Id2 (by decide)) rfl (by decide) (by decide)
    have J3n := J3.nn
    rw [c79_c2_hv23] at J3
    obtain ⟨c79_c2_v23_2, c79_c2_hv23_2⟩ : ∃ v, FP.dmul (FP.i2d c13_s_v6) (FP.i2d c25_s_v6) = v := ⟨_, rfl⟩
    have Id4 : own_B (FP.i2d c13_s_v6) (c13_s_v6.toInt) 0 524288 := own_Bi2d L_c13_s_v6
    have J5 : own_B (FP.dmul (FP.i2d c13_s_v6) (FP.i2d c25_s_v6)) ((c13_s_v6.toInt) * (c25_s_v6.toInt)) (0) 274877906944 := own_Bcast (own_Bmul Id4 Id2 (by decide)) rfl (by decide) (by decide)
    have J5n := J5.nn
    rw [c79_c2_hv23_2] at J5
    obtain ⟨c117_e20_v22, c117_e20_hv22⟩ : ∃ v, Int32.toInt64 c7_s_v6 = v := ⟨_, rfl⟩
    have L_c117_e20_v22 := own_Ii2l c117_e20_hv22 L_c7_s_v6
    obtain ⟨c117_e20_v25, c117_e20_hv25⟩ : ∃ v, Int32.toInt64 c25_s_v6 = v := ⟨_, rfl⟩
    have L_c117_e20_v25 := own_Ii2l c117_e20_hv25 L_c25_s_v6
    obtain ⟨c117_e20_v26, c117_e20_hv26⟩ : ∃ v, c117_e20_v22 * c117_e20_v25 = v := ⟨_, rfl⟩
    have L_c117_e20_v26 : own_L c117_e20_v26 ((c7_s_v6.toInt) * (c25_s_v6.toInt)) 274877906944 := own_Lcast (own_Lmul c117_e20_hv26 L_c117_e20_v22 L_c117_e20_v25 (by decide)) rfl (by decide)
    obtain ⟨c134_e21_v22, c134_e21_hv22⟩ : ∃ v, Int32.toInt64 c13_s_v6 = v := ⟨_, rfl⟩
    have L_c134_e21_v22 := own_Ii2l c134_e21_hv22 L_c13_s_v6
    obtain ⟨c134_e21_v25, c134_e21_hv25⟩ : ∃ v, Int32.toInt64 c25_s_v6 = v := ⟨_, rfl⟩
    have L_c134_e21_v25 := own_Ii2l c134_e21_hv25 L_c25_s_v6
    obtain ⟨c134_e21_v26, c134_e21_hv26⟩ : ∃ v, c134_e21_v22 * c134_e21_v25 = v := ⟨_, rfl⟩
    have L_c134_e21_v26 : own_L c134_e21_v26 ((c13_s_v6.toInt) * (c25_s_v6.toInt)) 274877906944 := own_Lcast (own_Lmul c134_e21_hv26 L_c134_e21_v22 L_c134_e21_v25 (by decide)) rfl (by decide)
    have Id6 : own_B (FP.l2d c117_e20_v26) (((c7_s_v6.toInt) * (c25_s_v6.toInt))) 0 274877906944 := own_Bl2d L_c117_e20_v26 (by decide)
    have Id7 : own_B (FP.l2d c134_e21_v26) (((c13_s_v6.toInt) * (c25_s_v6.toInt))) 0 274877906944 := own_Bl2d L_c134_e21_v26 (by decide)
    exact own_rm_w2 l Z a0 hw ws p0 p1 p2 p3 p4 h0 n0 Z0 (w2_hv3 := hn) (w2_c7_s_hv3 := c7_s_hv3) (w2_c7_s_hv6 := c7_s_hv6) (w2_c13_s_hv3 := c13_s_hv3) (w2_c13_s_hv6 := c13_s_hv6) (w2_c19_s_hv3 := c19_s_hv3) (w2_c19_s_hv6 := c19_s_hv6) (w2_c25_s_hv3 := c25_s_hv3) (w2_c25_s_hv6 := c25_s_hv6) (w2_c79_c2_hn23 := J3n) (w2_c79_c2_hv23 := c79_c2_hv23) (w2_c79_c2_hn23_2 := J5n) (w2_c79_c2_hv23_2 := c79_c2_hv23_2) (w2_c117_e20_hc13 := (own_eq0 Id1.is Id1.is (by first | rfl | omega | grind) _)) (w2_c117_e20_hv22 := c117_e20_hv22) (w2_c117_e20_hv25 := c117_e20_hv25) (w2_c117_e20_hv26 := c117_e20_hv26) (w2_c117_e20_hc28 := (own_eq0 J3.is Id6.is (by first | rfl | omega | grind) _)) (w2_c134_e21_hc13 := (own_eq0 Id4.is Id4.is (by first | rfl | omega | grind) _)) (w2_c134_e21_hv22 := c134_e21_hv22) (w2_c134_e21_hv25 := c134_e21_hv25) (w2_c134_e21_hv26 := c134_e21_hv26) (w2_c134_e21_hc28 := (own_eq0 J5.is Id7.is (by first | rfl | omega | grind) _))
  · obtain ⟨c7_s_v3, c7_s_hv3⟩ : ∃ v, p0 <<< ((12 : Int32) &&& 31) = v := ⟨_, rfl⟩
    obtain ⟨c7_s_v6, c7_s_hv6⟩ : ∃ v, c7_s_v3 >>> ((12 : Int32) &&& 31) = v := ⟨_, rfl⟩
    have L_c7_s_v6 := own_small c7_s_hv3 c7_s_hv6
    obtain ⟨c13_s_v3, c13_s_hv3⟩ : ∃ v, p1 <<< ((12 : Int32) &&& 31) = v := ⟨_, rfl⟩
    obtain ⟨c13_s_v6, c13_s_hv6⟩ : ∃ v, c13_s_v3 >>> ((12 : Int32) &&& 31) = v := ⟨_, rfl⟩
    have L_c13_s_v6 := own_small c13_s_hv3 c13_s_hv6
    obtain ⟨c19_s_v3, c19_s_hv3⟩ : ∃ v, p2 <<< ((12 : Int32) &&& 31) = v := ⟨_, rfl⟩
    obtain ⟨c19_s_v6, c19_s_hv6⟩ : ∃ v, c19_s_v3 >>> ((12 : Int32) &&& 31) = v := ⟨_, rfl⟩
    have L_c19_s_v6 := own_small c19_s_hv3 c19_s_hv6
    obtain ⟨c25_s_v3, c25_s_hv3⟩ : ∃ v, p3 <<< ((12 : Int32) &&& 31) = v := ⟨_, rfl⟩
    obtain ⟨c25_s_v6, c25_s_hv6⟩ : ∃ v, c25_s_v3 >>> ((12 : Int32) &&& 31) = v := ⟨_, rfl⟩
    have L_c25_s_v6 := own_small c25_s_hv3 c25_s_hv6
    obtain ⟨c79_c3_v23, c79_c3_hv23⟩ : ∃ v, FP.dmul (FP.i2d c7_s_v6) (FP.i2d c25_s_v6) = v := ⟨_, rfl⟩
    have Id1 : own_B (FP.i2d c7_s_v6) (c7_s_v6.toInt) 0 524288 := own_Bi2d L_c7_s_v6
    have Id2 : own_B (FP.i2d c25_s_v6) (c25_s_v6.toInt) 0 524288 := own_Bi2d L_c25_s_v6
    have J3 : own_B (FP.dmul (FP.i2d c7_s_v6) (FP.i2d c25_s_v6)) ((c7_s_v6.toInt) * (c25_s_v6.toInt)) (0) 274877906944 := own_Bcast (own_Bmul Id1 Id2 (by decide)) rfl (by decide) (by decide)
    have J3n := J3.nn
    rw [c79_c3_hv23] at J3
    obtain ⟨c79_c3_v23_2, c79_c3_hv23_2⟩ : ∃ v, FP.dmul (FP.i2d c13_s_v6) (FP.i2d c25_s_v6) = v := ⟨_, rfl⟩
    have Id4 : own_B (FP.i2d c13_s_v6) (c13_s_v6.toInt) 0 524288 := own_Bi2d L_c13_s_v6
    have J5 : own_B (FP.dmul (FP.i2d c13_s_v6) (FP.i2d c25_s_v6)) ((c13_s_v6.toInt) * (c25_s_v6.toInt)) (0) 274877906944 := own_Bcast (own_Bmul Id4 Id2 (by decide)) rfl (by decide) (by decide)
    have J5n := J5.nn
    rw [c79_c3_hv23_2] at J5
    obtain ⟨c79_c3_v23_3, c79_c3_hv23_3⟩ : ∃ v, FP.dmul (FP.i2d c19_s_v6) (FP.i2d c25_s_v6) = v := ⟨_, rfl⟩
    have Id6 : own_B (FP.i2d c19_s_v6) (c19_s_v6.toInt) 0 524288 := own_Bi2d L_c19_s_v6
    have J7 : own_B (FP.dmul (FP.i2d c19_s_v6) (FP.i2d c25_s_v6)) ((c19_s_v6.toInt) * (c25_s_v6.toInt)) (0) 274877906944 := own_Bcast (own_Bmul Id6 Id2 (by decide)) rfl (by decide) (by decide)
    have J7n := J7.nn
    rw [c79_c3_hv23_3] at J7
    obtain ⟨c117_e30_v22, c117_e30_hv22⟩ : ∃ v, Int32.toInt64 c7_s_v6 = v := ⟨_, rfl⟩
    have L_c117_e30_v22 := own_Ii2l c117_e30_hv22 L_c7_s_v6
    obtain ⟨c117_e30_v25, c117_e30_hv25⟩ : ∃ v, Int32.toInt64 c25_s_v6 = v := ⟨_, rfl⟩
    have L_c117_e30_v25 := own_Ii2l c117_e30_hv25 L_c25_s_v6
    obtain ⟨c117_e30_v26, c117_e30_hv26⟩ : ∃ v, c117_e30_v22 * c117_e30_v25 = v := ⟨_, rfl⟩
    have L_c117_e30_v26 : own_L c117_e30_v26 ((c7_s_v6.toInt) * (c25_s_v6.toInt)) 274877906944 := own_Lcast (own_Lmul c117_e30_hv26 L_c117_e30_v22 L_c117_e30_v25 (by decide)) rfl (by decide)
    obtain ⟨c134_e31_v22, c134_e31_hv22⟩ : ∃ v, Int32.toInt64 c13_s_v6 = v := ⟨_, rfl⟩
    have L_c134_e31_v22 := own_Ii2l c134_e31_hv22 L_c13_s_v6
    obtain ⟨c134_e31_v25, c134_e31_hv25⟩ : ∃ v, Int32.toInt64 c25_s_v6 = v := ⟨_, rfl⟩
    have L_c134_e31_v25 := own_Ii2l c134_e31_hv25 L_c25_s_v6
    obtain ⟨c134_e31_v26, c134_e31_hv26⟩ : ∃ v, c134_e31_v22 * c134_e31_v25 = v := ⟨_, rfl⟩
    have L_c134_e31_v26 : own_L c134_e31_v26 ((c13_s_v6.toInt) * (c25_s_v6.toInt)) 274877906944 := own_Lcast (own_Lmul c134_e31_hv26 L_c134_e31_v22 L_c134_e31_v25 (by decide)) rfl (by decide)
    obtain ⟨c151_e32_v22, c151_e32_hv22⟩ : ∃ v, Int32.toInt64 c19_s_v6 = v := ⟨_, rfl⟩
    have L_c151_e32_v22 := own_Ii2l c151_e32_hv22 L_c19_s_v6
    obtain ⟨c151_e32_v25, c151_e32_hv25⟩ : ∃ v, Int32.toInt64 c25_s_v6 = v := ⟨_, rfl⟩
    have L_c151_e32_v25 := own_Ii2l c151_e32_hv25 L_c25_s_v6
    obtain ⟨c151_e32_v26, c151_e32_hv26⟩ : ∃ v, c151_e32_v22 * c151_e32_v25 = v := ⟨_, rfl⟩
    have L_c151_e32_v26 : own_L c151_e32_v26 ((c19_s_v6.toInt) * (c25_s_v6.toInt)) 274877906944 := own_Lcast (own_Lmul c151_e32_hv26 L_c151_e32_v22 L_c151_e32_v25 (by decide)) rfl (by decide)
    have Id8 : own_B (FP.l2d c117_e30_v26) (((c7_s_v6.toInt) * (c25_s_v6.toInt))) 0 274877906944 := own_Bl2d L_c117_e30_v26 (by decide)
    have Id9 : own_B (FP.l2d c134_e31_v26) (((c13_s_v6.toInt) * (c25_s_v6.toInt))) 0 274877906944 := own_Bl2d L_c134_e31_v26 (by decide)
    have Id10 : own_B (FP.l2d c151_e32_v26) (((c19_s_v6.toInt) * (c25_s_v6.toInt))) 0 274877906944 := own_Bl2d L_c151_e32_v26 (by decide)
    exact own_rm_w3 l Z a0 hw ws p0 p1 p2 p3 p4 h0 n0 Z0 (w3_hv3 := hn) (w3_c7_s_hv3 := c7_s_hv3) (w3_c7_s_hv6 := c7_s_hv6) (w3_c13_s_hv3 := c13_s_hv3) (w3_c13_s_hv6 := c13_s_hv6) (w3_c19_s_hv3 := c19_s_hv3) (w3_c19_s_hv6 := c19_s_hv6) (w3_c25_s_hv3 := c25_s_hv3) (w3_c25_s_hv6 := c25_s_hv6) (w3_c79_c3_hn23 := J3n) (w3_c79_c3_hv23 := c79_c3_hv23) (w3_c79_c3_hn23_2 := J5n) (w3_c79_c3_hv23_2 := c79_c3_hv23_2) (w3_c79_c3_hn23_3 := J7n) (w3_c79_c3_hv23_3 := c79_c3_hv23_3) (w3_c117_e30_hc13 := (own_eq0 Id1.is Id1.is (by first | rfl | omega | grind) _)) (w3_c117_e30_hv22 := c117_e30_hv22) (w3_c117_e30_hv25 := c117_e30_hv25) (w3_c117_e30_hv26 := c117_e30_hv26) (w3_c117_e30_hc28 := (own_eq0 J3.is Id8.is (by first | rfl | omega | grind) _)) (w3_c134_e31_hc13 := (own_eq0 Id4.is Id4.is (by first | rfl | omega | grind) _)) (w3_c134_e31_hv22 := c134_e31_hv22) (w3_c134_e31_hv25 := c134_e31_hv25) (w3_c134_e31_hv26 := c134_e31_hv26) (w3_c134_e31_hc28 := (own_eq0 J5.is Id9.is (by first | rfl | omega | grind) _)) (w3_c151_e32_hc13 := (own_eq0 Id6.is Id6.is (by first | rfl | omega | grind) _)) (w3_c151_e32_hv22 := c151_e32_hv22) (w3_c151_e32_hv25 := c151_e32_hv25) (w3_c151_e32_hv26 := c151_e32_hv26) (w3_c151_e32_hc28 := (own_eq0 J7.is Id10.is (by first | rfl | omega | grind) _))
set_option maxRecDepth 65536 in
set_option maxHeartbeats 40000000 in
theorem comes_1 {Post : Tables → Env → Array Value → State → Outcome → State → Prop} (hpost : ∀ tb e args s v u, (limb_1_1.after args s (.returned v) u = true ∧ limb_1_2.after args s (.returned v) u = true ∧ True) → FrameEnd s (.returned v) u (Jvm.fieldLocs frame_1_writes args s ++ Jvm.arrayLocs frame_1_arrays args s ++ Jvm.staticLocs frame_1_statics s) 16 128 → Post tb e args s (.returned v) u) :
    ArmFor flags0 classFile x code maxLocals ret World_1 tables_1 room_1 Calls_1 rest_1 Pre_1 Post := by
  intro l hfl _ _ p e ha hc hk s m args below hf hA hF happ hP
  obtain ⟨hcalls, hrest, hpre⟩ := hP
  obtain ⟨-, -, -, hnamed, -, -, -, hat⟩ := (Spec.applies_iff hf).mp happ
  obtain ⟨hg, hn⟩ := and_e (Cond.before_iff.mp (show (Jvm.Cond.and given_1 narrow_1).before args s = true from hpre))
  obtain ⟨hcount, g0⟩ := and_e hg
  obtain ⟨a0, g1⟩ := and_e g0
  obtain ⟨a1, g2⟩ := and_e g1
  obtain ⟨a2, g3⟩ := and_e g2
  obtain ⟨a3, g4⟩ := and_e g3
  have a4 := g4
  obtain ⟨w0, w1, w2, w3, w4, rfl⟩ : ∃ w0 w1 w2 w3 w4 : Value, args = #[w0, w1, w2, w3, w4] := by
    have hs : args.size = 5 := by simpa [Cond.value, given_1] using hcount
    obtain ⟨L⟩ := args
    match L, hs with
    | [w0, w1, w2, w3, w4], _ => exact ⟨w0, w1, w2, w3, w4, rfl⟩
  have hw := fun d (hd : d ∈ tables_1) => atoms_spec (ws := Jvm.Cond.code x code maxLocals ret :: tables_1) hat d (List.mem_cons_of_mem _ hd)
  obtain ⟨i0, ei0⟩ := is_v a0
  obtain rfl : w0 = (.int i0) := Option.some.inj ei0
  obtain ⟨i1, ei1⟩ := is_v a1
  obtain rfl : w1 = (.int i1) := Option.some.inj ei1
  obtain ⟨i2, ei2⟩ := is_v a2
  obtain rfl : w2 = (.int i2) := Option.some.inj ei2
  obtain ⟨i3, ei3⟩ := is_v a3
  obtain rfl : w3 = (.int i3) := Option.some.inj ei3
  obtain ⟨i4, ei4⟩ := is_v a4
  obtain rfl : w4 = (.int i4) := Option.some.inj ei4
  obtain ⟨n, o, h1, h2, h3, _, L, rfl, ⟨rfl, N⟩, hq⟩ := own_rm0 l s _ hw tables_1 i0 i1 i2 i3 i4 s.heap s.heap.size (Nat.le_refl _)  p e ha hc hk s m _ below hf ((Spec.applies_iff_loose hf).mp happ).1 ⟨rfl, State.Warmed39.refl s, rfl⟩ trivial
  refine ⟨n, _, h1, h2, h3, hpost _ _ _ _ _ _ ⟨Cond.after_iff.mpr rfl, Cond.after_iff.mpr (eq_i res_at (Term.int_eval (1)) rfl), trivial⟩ ⟨hq.1, hq.2.1, (hq.2.2.sift fun y hy => Or.inr (N y hy)).mono (by decide) (by decide)⟩⟩
theorem main_1_1 : Claimed_1_1 := comes_1 fun _ _ _ _ _ _ h hF => ⟨h.1, hF⟩
theorem main_1_2 : Claimed_1_2 := comes_1 fun _ _ _ _ _ _ h hF => ⟨h.2.1, hF⟩
end Jvm.Pilot.@@N@@
namespace Jvm.Pilot.@@N@@
open Jvm Jvm.ClassFile Sem Op Lib Jvm.Free Jvm.Stand Jvm.Pilot.@@N@@.Jvm.D
/-! MADE BY PROGRAM (witnessworld.py) out of the Statement's table words and the real class files: 9 classes; the members and pool entries that the words name. The judged class is class 1, her method 3. -/
namespace start1
open Jvm.ClassFile
def u (s : String) : CpInfo := .utf8 (stringToUtf16 s)
/-- a pool by its gaps: so many unusable entries, then the entry; so many at the end -/
def gap : Nat → List CpInfo → List CpInfo
  | 0, r => r
  | n + 1, r => .unusable :: gap n r
def poolList (es : List (Nat × CpInfo)) (last : Nat) : List CpInfo := es.foldr (fun e r => gap e.1 (e.2 :: r)) (gap last [])
def pool (es : List (Nat × CpInfo)) (last : Nat) : Array CpInfo := ⟨poolList es last⟩
def fileOf (pool : Array CpInfo) (this : Nat) (attrs : Array Attribute := #[]) (ms : Array MethodInfo := #[]) (fl : Nat := 33) (sup : Nat := 0) (ifs : Array Nat := #[]) (fds : Array FieldInfo := #[]) : ClassFile where
  minorVersion := 0
  majorVersion := 65
  constantPool := pool
  accessFlags := fl
  thisClass := this
  superClass := sup
  interfaces := ifs
  fields := fds
  methods := ms
  attributes := attrs
def plain (name : String) (sup : Option ClassId) : Class where
  name := name
  kind := .ordinary
  loader := none
  accessFlags := 33
  super := sup
  interfaces := #[]
  cf := none
  fields := #[]
  methods := #[]
  instanceTypes := #[]
  staticTypes := #[]
  resolved := #[]
  callSites := []
  init := .initialized
  statics := none
  mirror := none

def pool0 : Array CpInfo := pool [(5, u "<init>"), (0, u "()V"), (1, .class_ 10), (1, u "java/lang/Object")] 113

def k0m0 : Method := { name := "<init>", desc := "()V", sig := { parameters := [], returnType := none }, accessFlags := 1, code := none }
/-- java/lang/Object -/
def k0 : Class := { plain "java/lang/Object" none with
  accessFlags := 33
  interfaces := #[]
  cf := some (fileOf pool0 8 #[] #[{ accessFlags := 1, nameIndex := 5, descriptorIndex := 6, attributes := #[] }] 33 0 #[] #[])
  fields := #[]
  methods := #[k0m0]
  instanceTypes := #[]
  staticTypes := #[]
  resolved := Array.replicate 124 none
  statics := none }

def pool1 : Array CpInfo := pool [(2, .class_ 4), (1, u "java/lang/Object"), (0, u "<init>"), (0, u "()V"), (0, .methodref 8 9), (0, .class_ 10), (0, .nameAndType 11 12), (0, u "com/example/differentia/differentia/problems/Cec2013TransformsScalePinLaw"), (0, u "small"), (0, u "(I)I"), (0, .methodref 14 15), (0, .class_ 16), (0, .nameAndType 17 18), (0, u "com/example/differentia/differentia/problems/Cec2013Transforms"), (0, u "scale"), (0, u "([DD)[D"), (0, .methodref 8 20), (0, .nameAndType 21 22), (0, u "entry"), (0, u "([D[DIIII)Z"), (3, u "law"), (0, u "(IIIII)Z")] 4

def k1m0 : Method := { name := "<init>", desc := "()V", sig := { parameters := [], returnType := none }, accessFlags := 2, code := none }
def k1c1 : Code := { maxStack := 2, maxLocals := 1, code := method_2_code, exceptionTable := #[], attributes := #[] }
def k1m1 : Method := { name := "small", desc := "(I)I", sig := { parameters := [.int], returnType := some .int }, accessFlags := 10, code := some k1c1 }
def k1c2 : Code := { maxStack := 6, maxLocals := 6, code := method_3_code, exceptionTable := #[], attributes := #[] }
def k1m2 : Method := { name := "entry", desc := "([D[DIIII)Z", sig := { parameters := [(.array .double), (.array .double), .int, .int, .int, .int], returnType := some .boolean }, accessFlags := 10, code := some k1c2 }
def k1c3 : Code := { maxStack := 6, maxLocals := 12, code := code, exceptionTable := #[], attributes := #[] }
def k1m3 : Method := { name := "law", desc := "(IIIII)Z", sig := { parameters := [.int, .int, .int, .int, .int], returnType := some .boolean }, accessFlags := 9, code := some k1c3 }
/-- com/example/differentia/differentia/problems/Cec2013TransformsScalePinLaw -/
def k1 : Class := { plain "com/example/differentia/differentia/problems/Cec2013TransformsScalePinLaw" (some 0) with
  accessFlags := 49
  interfaces := #[]
  cf := some (fileOf pool1 8 #[] #[{ accessFlags := 2, nameIndex := 5, descriptorIndex := 6, attributes := #[] }, { accessFlags := 10, nameIndex := 11, descriptorIndex := 12, attributes := #[] }, { accessFlags := 10, nameIndex := 21, descriptorIndex := 22, attributes := #[] }, { accessFlags := 9, nameIndex := 26, descriptorIndex := 27, attributes := #[] }] 49 2 #[] #[])
  fields := #[]
  methods := #[k1m0, k1m1, k1m2, k1m3]
  instanceTypes := #[]
  staticTypes := #[]
  resolved := Array.replicate 32 none
  statics := none }

def pool2 : Array CpInfo := pool [(2, .class_ 4), (1, u "java/lang/Object"), (0, u "<init>"), (0, u "()V"), (18, .class_ 27), (1, u "com/example/differentia/differentia/problems/Cec2013Transforms"), (37, u "scale"), (0, u "([DD)[D")] 7

def k2m0 : Method := { name := "<init>", desc := "()V", sig := { parameters := [], returnType := none }, accessFlags := 2, code := none }
def k2c1 : Code := { maxStack := 6, maxLocals := 5, code := prog_63_method_3_code, exceptionTable := #[], attributes := #[] }
def k2m1 : Method := { name := "scale", desc := "([DD)[D", sig := { parameters := [(.array .double), .double], returnType := some (.array .double) }, accessFlags := 8, code := some k2c1 }
/-- com/example/differentia/differentia/problems/Cec2013Transforms -/
def k2 : Class := { plain "com/example/differentia/differentia/problems/Cec2013Transforms" (some 0) with
  accessFlags := 48
  interfaces := #[]
  cf := some (fileOf pool2 25 #[] #[{ accessFlags := 2, nameIndex := 5, descriptorIndex := 6, attributes := #[] }, { accessFlags := 8, nameIndex := 65, descriptorIndex := 66, attributes := #[] }] 48 2 #[] #[])
  fields := #[]
  methods := #[k2m0, k2m1]
  instanceTypes := #[]
  staticTypes := #[]
  resolved := Array.replicate 74 none
  statics := none }

def pool3 : Array CpInfo := pool [(1, u "java/lang/Cloneable"), (0, .class_ 1), (0, u "java/lang/Object"), (0, .class_ 3)] 3

/-- java/lang/Cloneable -/
def k3 : Class := { plain "java/lang/Cloneable" (some 0) with
  accessFlags := 1537
  interfaces := #[]
  cf := some (fileOf pool3 2 #[] #[] 1537 4 #[] #[])
  fields := #[]
  methods := #[]
  instanceTypes := #[]
  staticTypes := #[]
  resolved := Array.replicate 8 none
  statics := none }

def pool4 : Array CpInfo := pool [(1, u "java/io/Serializable"), (0, .class_ 1), (0, u "java/lang/Object"), (0, .class_ 3)] 3

/-- java/io/Serializable -/
def k4 : Class := { plain "java/io/Serializable" (some 0) with
  accessFlags := 1537
  interfaces := #[]
  cf := some (fileOf pool4 2 #[] #[] 1537 4 #[] #[])
  fields := #[]
  methods := #[]
  instanceTypes := #[]
  staticTypes := #[]
  resolved := Array.replicate 8 none
  statics := none }

/-- the primitive byte -/
def k5 : Class := { plain "byte" none with kind := .primitive 'B', accessFlags := 0x411 }
/-- [B -/
def k6 : Class := { plain "[B" (some 0) with kind := .array 5 .byte, interfaces := #[3, 4], accessFlags := 1041 }

/-- the primitive int -/
def k7 : Class := { plain "int" none with kind := .primitive 'I', accessFlags := 0x411 }
/-- [I -/
def k8 : Class := { plain "[I" (some 0) with kind := .array 7 .int, interfaces := #[3, 4], accessFlags := 1041 }

/-- the primitive double -/
def k9 : Class := { plain "double" none with kind := .primitive 'D', accessFlags := 0x411 }
/-- [D -/
def k10 : Class := { plain "[D" (some 0) with kind := .array 9 .double, interfaces := #[3, 4], accessFlags := 1041 }

def heap : Heap := #[]
def classes : Array Class := #[k0, k1, k2, k3, k4, k5, k6, k7, k8, k9, k10]
def interned : List (Array UInt16 × Addr) := []
def slotsUsed : Nat := 0
def theMethod : MethodId := ⟨1, 3⟩
def args0 : Array Value := #[.int 3, .int 4, .int 5, .int 6, .int 7]
def aboutOver (below : List Frame) : State where
  vm := { classes := classes, interned := interned.toArray }
  heap := heap
  slotsUsed := slotsUsed
  threads := #[{ frames := .invoking theMethod args0 :: below }]
def below0 : List Frame := [.native { method := ⟨0, 0⟩, args := #[] }]
def about1 : State := aboutOver below0
def p0 : Program := .bare "" "" ""
def e0 : Env := launch0.env 0 0 0
theorem w_frames : about1.frames = Frame.invoking theMethod args0 :: below0 := rfl
set_option maxRecDepth 65536 in
theorem w_args : argsFit about1.vm theMethod args0 = true := by decide +kernel
set_option maxRecDepth 65536 in
theorem w_heap : heapFits about1 = true := by decide +kernel
set_option maxRecDepth 65536 in
theorem w_runnable : about1.curStatus? = some .runnable := by decide +kernel
set_option maxRecDepth 65536 in
theorem w_alone : about1.alone = true := by decide +kernel
set_option maxRecDepth 65536 in
theorem w_named : about1.methodNamed? x = some theMethod := by decide +kernel
set_option maxRecDepth 65536 in
theorem w_hears : about1.hears theMethod below0 = true := by decide +kernel
set_option maxRecDepth 65536 in
theorem w_ripe : about1.ripe theMethod args0 below0 = true := by decide +kernel
theorem w_running : about1.status = .running := rfl
set_option maxRecDepth 65536 in
theorem w_room : about1.hasRoom e0.platform room_1 = true :=
  launch0.hasRoom_least _ room_1 (by decide +kernel) (by decide +kernel) (by decide +kernel) (by decide +kernel) (by decide +kernel) (by decide +kernel)
theorem allAtoms_all (ts : List Jvm.Cond) (a : Array Jvm.Value) (st : Jvm.State) : (allAtoms ts).before a st = ts.all (fun c => c.before a st) := by
  induction ts with
  | nil => rfl
  | cons c t ih =>
    show (Jvm.Cond.and c (allAtoms t)).before a st = _
    rw [Jvm.Cond.before_and, ih, List.all_cons]
def words1 : List Jvm.Cond := Jvm.Cond.code x code maxLocals ret :: tables_1
/-- a 'code' word, met by the world's own term for the bytes: nothing is compared byte by byte -/
theorem code_word {y : MethodName} {bytes : ByteArray} {mx : Nat} {rt : Option FieldType} {a : Array Value} {s : State} {m : MethodId} {meth : Method} {c : Code} (h1 : s.methodNamed? y = some m) (h2 : s.vm.method? m = some meth) (h3 : meth.code = some c) (h4 : c.code = bytes)
    (h5 : (c.maxLocals == mx && c.exceptionTable.isEmpty && decide (c.maxStack ≤ mostOperands) && decide (meth.sig.returnType = rt) && !meth.locks && decide (parseMethodDescriptor y.desc = some meth.sig)) = true) : (Jvm.Cond.code y bytes mx rt).before a s = true := by
  simp only [Bool.and_eq_true, beq_iff_eq, Bool.not_eq_true', decide_eq_true_eq] at h5
  obtain ⟨⟨⟨⟨⟨g1, g2⟩, g3⟩, g4⟩, g5⟩, g6⟩ := h5
  simp [Cond.before, Cond.holds, Cond.value, h1, h2, h3, h4, g1, g2, g3, g4, g5, g6]
def isCode : Jvm.Cond → Bool
  | .code _ _ _ _ => true
  | _ => false
theorem all_split {L : List Jvm.Cond} {P : Jvm.Cond → Bool} (h1 : L.all (fun c => isCode c || P c) = true) (h2 : ∀ c ∈ L.filter isCode, P c = true) : L.all P = true := by
  refine List.all_eq_true.mpr fun c hc => ?_
  have h := List.all_eq_true.mp h1 c hc
  rcases Bool.eq_false_or_eq_true (isCode c) with hi | hi
  · exact h2 c (List.mem_filter.mpr ⟨hc, hi⟩)
  · simpa [hi] using h
set_option maxRecDepth 65536 in
theorem w_c0 : (Jvm.Cond.code x code maxLocals ret).before args0 about1 = true := code_word (m := ⟨1, 3⟩) (meth := k1m3) (c := k1c3) (by decide +kernel) rfl rfl rfl (by decide +kernel)
set_option maxRecDepth 65536 in
theorem w_c1 : (Jvm.Cond.code ({ cls := "com/example/differentia/differentia/problems/Cec2013TransformsScalePinLaw", name := "small", desc := "(I)I" } : Jvm.MethodName) method_2_code (1 : Nat) (Option.some Jvm.ClassFile.FieldType.int)).before args0 about1 = true := code_word (m := ⟨1, 1⟩) (meth := k1m1) (c := k1c1) (by decide +kernel) rfl rfl rfl (by decide +kernel)
set_option maxRecDepth 65536 in
theorem w_c2 : (Jvm.Cond.code ({ cls := "com/example/differentia/differentia/problems/Cec2013Transforms", name := "scale", desc := "([DD)[D" } : Jvm.MethodName) prog_63_method_3_code (5 : Nat) (Option.some (Jvm.ClassFile.FieldType.array Jvm.ClassFile.FieldType.double))).before args0 about1 = true := code_word (m := ⟨2, 1⟩) (meth := k2m1) (c := k2c1) (by decide +kernel) rfl rfl rfl (by decide +kernel)
set_option maxRecDepth 65536 in
theorem w_c3 : (Jvm.Cond.code ({ cls := "com/example/differentia/differentia/problems/Cec2013TransformsScalePinLaw", name := "entry", desc := "([D[DIIII)Z" } : Jvm.MethodName) method_3_code (6 : Nat) (Option.some Jvm.ClassFile.FieldType.boolean)).before args0 about1 = true := code_word (m := ⟨1, 2⟩) (meth := k1m2) (c := k1c2) (by decide +kernel) rfl rfl rfl (by decide +kernel)
def codes1 : List Jvm.Cond := [Jvm.Cond.code x code maxLocals ret, Jvm.Cond.code ({ cls := "com/example/differentia/differentia/problems/Cec2013TransformsScalePinLaw", name := "small", desc := "(I)I" } : Jvm.MethodName) method_2_code (1 : Nat) (Option.some Jvm.ClassFile.FieldType.int), Jvm.Cond.code ({ cls := "com/example/differentia/differentia/problems/Cec2013Transforms", name := "scale", desc := "([DD)[D" } : Jvm.MethodName) prog_63_method_3_code (5 : Nat) (Option.some (Jvm.ClassFile.FieldType.array Jvm.ClassFile.FieldType.double)), Jvm.Cond.code ({ cls := "com/example/differentia/differentia/problems/Cec2013TransformsScalePinLaw", name := "entry", desc := "([D[DIIII)Z" } : Jvm.MethodName) method_3_code (6 : Nat) (Option.some Jvm.ClassFile.FieldType.boolean)]
set_option maxRecDepth 65536 in
theorem codes_eq : words1.filter isCode = codes1 := rfl
theorem w_codes : ∀ c ∈ words1.filter isCode, c.before args0 about1 = true := by
  rw [codes_eq]
  intro c hc
  simp only [codes1, List.mem_cons, List.not_mem_nil, or_false] at hc
  rcases hc with rfl | rfl | rfl | rfl
  · exact w_c0
  · exact w_c1
  · exact w_c2
  · exact w_c3
set_option maxRecDepth 65536 in
theorem w_t1 : words1.all (fun c => isCode c || c.before args0 about1) = true := by decide +kernel
theorem w_tables : (allAtoms (Jvm.Cond.code x code maxLocals ret :: tables_1)).before args0 about1 = true := by
  rw [allAtoms_all]
  show words1.all (fun c => c.before args0 about1) = true
  refine all_split ?_ w_codes
  rw [w_t1]
set_option maxRecDepth 65536 in
theorem w_case : (Jvm.Cond.and given_1 narrow_1).before args0 about1 = true := by decide +kernel
theorem w_applies : (headSpec (Jvm.Cond.code x code maxLocals ret :: tables_1) room_1).applies x e0.platform about1 = true :=
  (Spec.applies_iff w_frames).mpr ⟨w_running, w_runnable, w_alone, w_named, w_hears, w_ripe, w_room, w_tables⟩
theorem atStart : AtStart classFile x code maxLocals ret World_1 tables_1 room_1 Calls_1 rest_1 Pre_1 launch0 p0 e0 about1 theMethod args0 below0 :=
  ⟨lists_1, trivial, launch0.admits_env _ _ _, launch0.least_env, fairChoices_fair.cas, fairChoices_fair.clock, w_frames, w_args, w_heap, w_applies, trivial, trivial, w_case⟩
end start1
theorem witness_1 : WitnessClaimed_1 := ⟨start1.p0, start1.e0, start1.about1, start1.theMethod, start1.args0, start1.below0, start1.atStart⟩
end Jvm.Pilot.@@N@@
