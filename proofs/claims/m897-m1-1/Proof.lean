import JvmDerived
import JvmDerived.Pilot.@@N@@Statement
import JvmDerived.Pilot.@@N@@Code
set_option linter.unusedVariables false
set_option linter.unusedSimpArgs false
namespace Jvm.Pilot.@@N@@
section OwnFP
open Jvm.FP.Core
/-! Exact doubles: own_Is x n e says that the double x is finite and worth n * 2^e. -/
def own_Is (x : UInt64) (n : Int) (e : Int) : Prop := DFin x ∧ -1074 ≤ e ∧ zval b64 (val64 x) = n * ((2 ^ (e + 1074).toNat : Nat) : Int)
theorem own_qmax : b64.qmax = 971 := by decide
theorem own_pp : b64.p = 53 := rfl
theorem own_powc {a b u v : Nat} (h : a * 2 ^ u = b * 2 ^ v) {w : Int} (hw : w = (u : Int) - v) : a * 2 ^ w.toNat = b * 2 ^ (-w).toNat := by
  subst hw
  have hu : u = ((u : Int) - v).toNat + min u v := by omega
  have hv : v = (-((u : Int) - v)).toNat + min u v := by omega
  have h2 : a * 2 ^ (((u : Int) - v).toNat + min u v) = b * 2 ^ ((-((u : Int) - v)).toNat + min u v) := by rw [← hu, ← hv]; exact h
  rw [Nat.pow_add, Nat.pow_add, ← Nat.mul_assoc, ← Nat.mul_assoc] at h2
  exact Nat.eq_of_mul_eq_mul_right (Nat.two_pow_pos _) h2
theorem own_signed_abs (s : Bool) (c : Nat) : (signed s c).natAbs = c := by cases s <;> simp [signed]
theorem own_signed_mul (s t : Bool) (c d : Nat) : signed (s != t) (c * d) = signed s c * signed t d := by
  cases s <;> cases t <;> simp [signed, Int.natCast_mul, Int.neg_mul, Int.mul_neg]
theorem own_signed_scale (s : Bool) (c d : Nat) : signed s (c * d) = signed s c * (d : Int) := by cases s <;> simp [signed, Int.natCast_mul, Int.neg_mul]
theorem own_round {s : Bool} {c : Nat} {q : Int} {M : Nat} {e : Int} (h2 : -2148 ≤ q) (hM : M < 9007199254740992) (he1 : -1074 ≤ e) (he2 : e ≤ 971) (h : inUnits c q (-2148) = M * 2 ^ (e + 2148).toNat) :
    ∃ c' q', round b64 (.fin s c q) = .fin s c' q' ∧ inUnits c' q' b64.qmin = M * 2 ^ (e + 1074).toNat := by
  have hq : b64.qmin = -1074 := qmin_b64
  obtain ⟨c', q', h1, h3⟩ := round_exact good_b64 s (c := M) (q := e) (show M < 2 ^ 53 from hM) (by rw [hq]; omega) (by rw [own_qmax]; omega)
  refine ⟨c', q', ?_, ?_⟩
  · rw [← h1]
    show roundRatio b64 s c 1 q = roundRatio b64 s M 1 e
    refine roundRatio_congr (by decide) (by decide) ?_
    unfold inUnits at h
    have h4 := own_powc (u := (q - -2148).toNat) (v := (e + 2148).toNat) h (w := q - e) (by omega)
    rw [Nat.mul_one, Nat.mul_one, h4, show -(q - e) = e - q by omega]
  · rw [h3]; unfold inUnits; rw [hq, show e - -1074 = e + 1074 by omega]
theorem own_fin_split {x : UInt64} {n e : Int} (h : own_Is x n e) : ∃ s c q, val64 x = .fin s c q ∧ Jvm.FP.Core.fits b64 (.fin s c q) ∧ signed s (inUnits c q b64.qmin) = n * ((2 ^ (e + 1074).toNat : Nat) : Int) ∧ -1074 ≤ q := by
  obtain ⟨⟨s, c, q, hv⟩, he, hz⟩ := h
  have hf := val64_fits x
  rw [hv] at hf hz
  have := hf.2.1
  rw [qmin_b64] at this
  exact ⟨s, c, q, hv, hf, hz, this⟩
theorem own_Is_of {x : UInt64} {s : Bool} {c : Nat} {q n e : Int} (hv : val64 x = .fin s c q) (he : -1074 ≤ e) (h : signed s (inUnits c q b64.qmin) = n * ((2 ^ (e + 1074).toNat : Nat) : Int)) : own_Is x n e :=
  ⟨⟨s, c, q, hv⟩, he, by rw [hv]; exact h⟩
theorem own_sum {s : Bool} {c : Nat} {q n e : Int} (hq : -1074 ≤ q) (hn : n.natAbs < 9007199254740992) (he1 : -1074 ≤ e) (he2 : e ≤ 971) (h : signed s (inUnits c q b64.qmin) = n * ((2 ^ (e + 1074).toNat : Nat) : Int)) :
    ∃ c' q', round b64 (.fin s c q) = .fin s c' q' ∧ signed s (inUnits c' q' b64.qmin) = n * ((2 ^ (e + 1074).toNat : Nat) : Int) := by
  have h1 : inUnits c q b64.qmin = n.natAbs * 2 ^ (e + 1074).toNat := by
    rw [← own_signed_abs s (inUnits c q b64.qmin), h, Int.natAbs_mul, Int.natAbs_natCast]
  have h2 : inUnits c q (-2148) = n.natAbs * 2 ^ (e + 2148).toNat := by
    rw [inUnits_move c (r := b64.qmin) (by rw [qmin_b64]; omega) (by rw [qmin_b64]; omega), h1, qmin_b64, Nat.mul_assoc, ← Nat.pow_add]
    congr 2; omega
  obtain ⟨c', q', h3, h4⟩ := own_round (s := s) (by omega) hn he1 he2 h2
  exact ⟨c', q', h3, by rw [h4, ← h1, h]⟩
theorem own_add {x y : UInt64} {m n e : Int} (hx : own_Is x m e) (hy : own_Is y n e) (he : e ≤ 971) (hb : (m + n).natAbs < 9007199254740992) : own_Is (dadd x y) (m + n) e := by
  have he1 := hx.2.1
  obtain ⟨s, c, q, vx, fx, zx, -⟩ := own_fin_split hx
  obtain ⟨t, d, r, vy, fy, zy, -⟩ := own_fin_split hy
  obtain ⟨sg, N, E, h1, h2, h3⟩ := sum_units fx fy
  have h4 : signed sg (inUnits N E b64.qmin) = (m + n) * ((2 ^ (e + 1074).toNat : Nat) : Int) := by
    rw [h3, Int.add_mul, ← zx, ← zy]; rfl
  obtain ⟨c', q', h5, h6⟩ := own_sum (by rw [qmin_b64] at h2; exact h2) hb he1 he h4
  exact own_Is_of (by rw [val64_dadd, vx, vy, h1, h5]) he1 h6
theorem own_sub {x y : UInt64} {m n e : Int} (hx : own_Is x m e) (hy : own_Is y n e) (he : e ≤ 971) (hb : (m - n).natAbs < 9007199254740992) : own_Is (dsub x y) (m - n) e := by
  have he1 := hx.2.1
  obtain ⟨s, c, q, vx, fx, zx, -⟩ := own_fin_split hx
  obtain ⟨t, d, r, vy, fy, zy, -⟩ := own_fin_split hy
  have fy' : Jvm.FP.Core.fits b64 (.fin (!t) d r) := fy
  obtain ⟨sg, N, E, h1, h2, h3⟩ := sum_units (t := !t) fx fy'
  have h4 : signed sg (inUnits N E b64.qmin) = (m - n) * ((2 ^ (e + 1074).toNat : Nat) : Int) := by
    rw [h3, Int.sub_mul, ← zx, ← zy]
    show signed s (inUnits c q b64.qmin) + signed (!t) (inUnits d r b64.qmin) = _
    rw [signed_not]; omega
  obtain ⟨c', q', h5, h6⟩ := own_sum (by rw [qmin_b64] at h2; exact h2) hb he1 he h4
  refine own_Is_of (s := sg) (c := c') (q := q') ?_ he1 h6
  rw [val64_dsub, vx, vy]
  show round b64 (exactSum (.fin s c q) (.fin (!t) d r)) = _
  rw [h1, h5]
theorem own_mul {x y : UInt64} {m n e1 e2 e : Int} (hx : own_Is x m e1) (hy : own_Is y n e2) (hee : e1 + e2 = e) (he1 : -1074 ≤ e) (he2 : e ≤ 971) (hb : (m * n).natAbs < 9007199254740992) : own_Is (dmul x y) (m * n) e := by
  subst hee
  have hx1 := hx.2.1
  have hy1 := hy.2.1
  obtain ⟨s, c, q, vx, fx, zx, qx⟩ := own_fin_split hx
  obtain ⟨t, d, r, vy, fy, zy, qy⟩ := own_fin_split hy
  obtain ⟨h1, h2, h3⟩ := product_units fx fy
  have hs : signed (s != t) (inUnits (c * d) (q + r) (-2148)) = (m * n) * ((2 ^ (e1 + e2 + 2148).toNat : Nat) : Int) := by
    have h4 : inUnits (c * d) (q + r) (-2148) = inUnits c q b64.qmin * inUnits d r b64.qmin := by
      have := h3
      rw [qmin_b64] at this ⊢
      exact this
    rw [h4, own_signed_mul, zx, zy, show (e1 + e2 + 2148).toNat = (e1 + 1074).toNat + (e2 + 1074).toNat by omega, Nat.pow_add, Int.natCast_mul]
    simp only [Int.mul_assoc, Int.mul_left_comm, Int.mul_comm]
  have h5 : inUnits (c * d) (q + r) (-2148) = (m * n).natAbs * 2 ^ (e1 + e2 + 2148).toNat := by
    rw [← own_signed_abs (s != t) (inUnits (c * d) (q + r) (-2148)), hs, Int.natAbs_mul, Int.natAbs_natCast]
  obtain ⟨c', q', h6, h7⟩ := own_round (s := (s != t)) (by omega) hb he1 he2 h5
  refine own_Is_of (s := (s != t)) (c := c') (q := q') (by rw [val64_dmul, vx, vy, h1, h6]) he1 ?_
  rw [h5, own_signed_scale] at hs
  have h8 : signed (s != t) (m * n).natAbs = m * n := Int.eq_of_mul_eq_mul_right (by have := Nat.two_pow_pos (e1 + e2 + 2148).toNat; omega) hs
  rw [h7, own_signed_scale, h8]
/-- the quotient of two exact doubles is the rounded ratio of their numbers -/
theorem own_divR {x y : UInt64} {m n e1 e2 : Int} (hx : own_Is x m e1) (hy : own_Is y n e2) (hn : n ≠ 0) :
    val64 (ddiv x y) = roundRatio b64 (sgn (val64 x) != sgn (val64 y)) m.natAbs n.natAbs (e1 - e2) ∧ signed (sgn (val64 x)) m.natAbs = m ∧ signed (sgn (val64 y)) n.natAbs = n := by
  have hx1 := hx.2.1
  have hy1 := hy.2.1
  obtain ⟨s, c, q, vx, fx, zx, qx⟩ := own_fin_split hx
  obtain ⟨t, d, r, vy, fy, zy, qy⟩ := own_fin_split hy
  have ax : inUnits c q b64.qmin = m.natAbs * 2 ^ (e1 + 1074).toNat := by
    rw [← own_signed_abs s (inUnits c q b64.qmin), zx, Int.natAbs_mul, Int.natAbs_natCast]
  have ay : inUnits d r b64.qmin = n.natAbs * 2 ^ (e2 + 1074).toNat := by
    rw [← own_signed_abs t (inUnits d r b64.qmin), zy, Int.natAbs_mul, Int.natAbs_natCast]
  have sx : signed s m.natAbs = m := by
    rw [ax, own_signed_scale] at zx
    exact Int.eq_of_mul_eq_mul_right (by have := Nat.two_pow_pos (e1 + 1074).toNat; omega) zx
  have sy : signed t n.natAbs = n := by
    rw [ay, own_signed_scale] at zy
    exact Int.eq_of_mul_eq_mul_right (by have := Nat.two_pow_pos (e2 + 1074).toNat; omega) zy
  have nn : n.natAbs ≠ 0 := by omega
  have hd : d ≠ 0 := by
    rintro rfl
    have : n.natAbs * 2 ^ (e2 + 1074).toNat = 0 := by rw [← ay]; unfold inUnits; simp
    rcases Nat.mul_eq_zero.mp this with h | h
    · exact nn h
    · have := Nat.two_pow_pos (e2 + 1074).toNat; omega
  refine ⟨?_, by rw [vx]; exact sx, by rw [vy]; exact sy⟩
  rw [val64_ddiv, vx, vy]
  show (if d = 0 then _ else roundRatio b64 (s != t) c d (q - r)) = roundRatio b64 (s != t) _ _ _
  rw [if_neg hd]
  refine roundRatio_congr (by omega) (by omega) ?_
  unfold inUnits at ax ay
  rw [qmin_b64] at ax ay
  have key : c * n.natAbs * 2 ^ ((q - -1074).toNat + (e2 + 1074).toNat) = m.natAbs * d * 2 ^ ((e1 + 1074).toNat + (r - -1074).toNat) := by
    have e3 : c * n.natAbs * 2 ^ ((q - -1074).toNat + (e2 + 1074).toNat) = (c * 2 ^ (q - -1074).toNat) * (n.natAbs * 2 ^ (e2 + 1074).toNat) := by
      rw [Nat.pow_add]; simp only [Nat.mul_assoc, Nat.mul_left_comm, Nat.mul_comm]
    rw [e3, ax, ← ay, Nat.pow_add]
    simp only [Nat.mul_assoc, Nat.mul_left_comm, Nat.mul_comm]
  have h4 := own_powc key (w := (q - r) - (e1 - e2)) (by omega)
  rw [h4, show -((q - r) - (e1 - e2)) = (e1 - e2) - (q - r) by omega]
theorem own_div {x y : UInt64} {m n N e1 e2 e : Int} (hx : own_Is x m e1) (hy : own_Is y n e2) (hn : n ≠ 0) (hm : m = N * n) (hee : e1 - e2 = e) (he1 : -1074 ≤ e) (he2 : e ≤ 971) (hb : N.natAbs < 9007199254740992) : own_Is (ddiv x y) N e := by
  subst hee
  obtain ⟨h1, h2, h3⟩ := own_divR hx hy hn
  have hq : b64.qmin = -1074 := qmin_b64
  obtain ⟨c', q', h5, h6⟩ := round_exact good_b64 (sgn (val64 x) != sgn (val64 y)) (c := N.natAbs) (q := e1 - e2) (show _ < 2 ^ 53 from hb) (by rw [hq]; omega) (by rw [own_qmax]; omega)
  refine own_Is_of (s := (sgn (val64 x) != sgn (val64 y))) (c := c') (q := q') ?_ he1 ?_
  · rw [h1, ← h5]
    show roundRatio _ _ _ _ _ = roundRatio b64 (sgn (val64 x) != sgn (val64 y)) N.natAbs 1 (e1 - e2)
    refine roundRatio_congr (by omega) (by decide) ?_
    rw [hm, Int.natAbs_mul]; simp
  · rw [h6]; unfold inUnits
    rw [hq, show e1 - e2 - -1074 = e1 - e2 + 1074 by omega, own_signed_scale]
    congr 1
    have h7 := own_signed_mul (sgn (val64 x)) (sgn (val64 y)) N.natAbs (n.natAbs * n.natAbs)
    have h8 : signed (sgn (val64 x) != sgn (val64 y)) (m.natAbs * n.natAbs) = m * n := by rw [own_signed_mul, h2, h3]
    rw [hm, Int.natAbs_mul, Nat.mul_assoc, own_signed_scale] at h8
    have h9 : ((n.natAbs * n.natAbs : Nat) : Int) = n * n := Int.natAbs_mul_self
    rw [h9, Int.mul_assoc] at h8
    refine Int.eq_of_mul_eq_mul_right ?_ h8
    intro h0
    rcases Int.mul_eq_zero.mp h0 with h | h <;> exact hn h
theorem own_shift {x : UInt64} {n e e' : Int} (j : Nat) (hx : own_Is x n e) (hj : e' = e - j) (he : -1074 ≤ e') : own_Is x (n * (2 ^ j : Nat)) e' := by
  subst hj
  refine ⟨hx.1, he, ?_⟩
  rw [hx.2.2, show (e + 1074).toNat = j + (e - j + 1074).toNat by omega, Nat.pow_add, Int.natCast_mul, ← Int.mul_assoc]
theorem own_nn {x : UInt64} {n e : Int} (h : own_Is x n e) : Jvm.Free.Fl.NoNaN64 x := Jvm.Free.Fl.noNaN64_no.mpr h.1.notNaN
theorem own_cmp {x y : UInt64} {m n e : Int} (hx : own_Is x m e) (hy : own_Is y n e) : dcmp x y = some (compare m n) := by
  rw [dcmp_zval hx.1.ne_nan hy.1.ne_nan, hx.2.2, hy.2.2]
  have hp : (0 : Int) < ((2 ^ (e + 1074).toNat : Nat) : Int) := by have := Nat.two_pow_pos (e + 1074).toNat; omega
  congr 1
  refine compare_congr ⟨fun h => Int.lt_of_mul_lt_mul_right h (Int.le_of_lt hp), fun h => Int.mul_lt_mul_of_pos_right h hp⟩ ⟨fun h => Int.eq_of_mul_eq_mul_right (Int.ne_of_gt hp) h, fun h => by rw [h]⟩
theorem own_i2d (a : Int32) : own_Is (i2d a) a.toInt 0 := by
  have h := i2d_int a
  refine ⟨?_, by decide, ?_⟩
  · rw [i2d_l2d]; exact l2d_fin _
  · rw [DInt_zval h]; rfl
theorem own_l2d {a : Int64} (h : a.toInt.natAbs ≤ 9007199254740992) : own_Is (l2d a) a.toInt 0 := by
  have h := l2d_int (a := a) h
  exact ⟨l2d_fin _, by decide, by rw [DInt_zval h]; rfl⟩
/-- with a bound on the number -/
def own_B (x : UInt64) (n e B : Int) : Prop := own_Is x n e ∧ -B ≤ n ∧ n ≤ B
theorem own_B.is {x : UInt64} {n e B : Int} (h : own_B x n e B) : own_Is x n e := h.1
theorem own_B.nn {x : UInt64} {n e B : Int} (h : own_B x n e B) : Jvm.Free.Fl.NoNaN64 x := own_nn h.1
theorem own_Badd {x y : UInt64} {m n e A B : Int} (hx : own_B x m e A) (hy : own_B y n e B) (h : (decide (e ≤ 971) && decide (A + B < 9007199254740992)) = true) : own_B (dadd x y) (m + n) e (A + B) := by
  simp only [Bool.and_eq_true, decide_eq_true_eq] at h
  have := hx.2; have := hy.2
  exact ⟨own_add hx.1 hy.1 h.1 (by omega), by omega, by omega⟩
theorem own_Bsub {x y : UInt64} {m n e A B : Int} (hx : own_B x m e A) (hy : own_B y n e B) (h : (decide (e ≤ 971) && decide (A + B < 9007199254740992)) = true) : own_B (dsub x y) (m - n) e (A + B) := by
  simp only [Bool.and_eq_true, decide_eq_true_eq] at h
  have := hx.2; have := hy.2
  exact ⟨own_sub hx.1 hy.1 h.1 (by omega), by omega, by omega⟩
theorem own_bmul {m n A B : Int} (hm : -A ≤ m ∧ m ≤ A) (hn : -B ≤ n ∧ n ≤ B) : -(A * B) ≤ m * n ∧ m * n ≤ A * B := by
  have h : (m * n).natAbs ≤ A.toNat * B.toNat := by rw [Int.natAbs_mul]; exact Nat.mul_le_mul (by omega) (by omega)
  have h2 : ((A.toNat * B.toNat : Nat) : Int) = A * B := by rw [Int.natCast_mul, Int.toNat_of_nonneg (by omega), Int.toNat_of_nonneg (by omega)]
  omega
theorem own_Bmul {x y : UInt64} {m n e1 e2 A B : Int} (hx : own_B x m e1 A) (hy : own_B y n e2 B) (h : (decide (-1074 ≤ e1 + e2) && decide (e1 + e2 ≤ 971) && decide (A * B < 9007199254740992)) = true) : own_B (dmul x y) (m * n) (e1 + e2) (A * B) := by
  simp only [Bool.and_eq_true, decide_eq_true_eq] at h
  have hb := own_bmul hx.2 hy.2
  exact ⟨own_mul hx.1 hy.1 rfl h.1.1 h.1.2 (by omega), hb⟩
/-- an exact quotient by a power of two (n = 1 in y = 1 * 2^e2) -/
theorem own_Bdiv {x y : UInt64} {m e1 e2 A : Int} (hx : own_B x m e1 A) (hy : own_Is y 1 e2) (h : (decide (-1074 ≤ e1 - e2) && decide (e1 - e2 ≤ 971) && decide (A < 9007199254740992)) = true) : own_B (ddiv x y) m (e1 - e2) A := by
  simp only [Bool.and_eq_true, decide_eq_true_eq] at h
  have := hx.2
  exact ⟨own_div hx.1 hy (by decide) (Int.mul_one _).symm rfl h.1.1 h.1.2 (by omega), hx.2⟩
theorem own_Bshift {x : UInt64} {n e A : Int} (j : Nat) (P : Int) (hx : own_B x n e A) (h : (decide (-1074 ≤ e - j) && decide (((2 ^ j : Nat) : Int) = P)) = true) : own_B x (n * P) (e - j) (A * P) := by
  simp only [Bool.and_eq_true, decide_eq_true_eq] at h
  obtain ⟨h, rfl⟩ := h
  refine ⟨own_shift j hx.1 rfl h, ?_⟩
  have hp : (0 : Int) ≤ (2 ^ j : Nat) := Int.natCast_nonneg _
  have := hx.2
  constructor
  · rw [← Int.neg_mul]; exact Int.mul_le_mul_of_nonneg_right this.1 hp
  · exact Int.mul_le_mul_of_nonneg_right this.2 hp
theorem own_Bcast {x : UInt64} {n n' e e' A A' : Int} (h : own_B x n e A) (hn : n = n') (he : e = e') (hA : A ≤ A') : own_B x n' e' A' := by
  subst hn he; exact ⟨h.1, by have := h.2; omega, by have := h.2; omega⟩
theorem own_eq0 {x y : UInt64} {m n e : Int} (hx : own_Is x m e) (hy : own_Is y n e) (h : m = n) (o : ClassFile.CmpOp) : Op.cmpValue (Jvm.FP.dcmp x y) o = 0 := by
  show Op.cmpValue (dcmp x y) o = 0
  subst h
  rw [own_cmp hx hy, show compare m m = .eq from (compare_eq_iff m m).mpr rfl]; cases o <;> rfl
theorem own_cmpv {x y : UInt64} {m n e : Int} (hx : own_Is x m e) (hy : own_Is y n e) (o : ClassFile.CmpOp) : (m < n → Op.cmpValue (Jvm.FP.dcmp x y) o = -1) ∧ (m = n → Op.cmpValue (Jvm.FP.dcmp x y) o = 0) ∧ (n < m → Op.cmpValue (Jvm.FP.dcmp x y) o = 1) := by
  refine ⟨fun h => ?_, fun h => own_eq0 hx hy h o, fun h => ?_⟩
  · show Op.cmpValue (dcmp x y) o = -1
    rw [own_cmp hx hy, (compare_lt_iff m n).mpr h]; cases o <;> rfl
  · show Op.cmpValue (dcmp x y) o = 1
    rw [own_cmp hx hy, (compare_gt_iff m n).mpr h]; cases o <;> rfl
theorem own_one : own_Is 4607182418800017408 1 0 := ⟨(fin_bits _).mpr (by decide), by decide, by decide +kernel⟩
theorem own_zero : own_Is 0 0 0 := ⟨(fin_bits _).mpr (by decide), by decide, by decide +kernel⟩
/-! ints and longs with their numbers and bounds -/
def own_I (v : Int32) (n B : Int) : Prop := v.toInt = n ∧ -B ≤ n ∧ n ≤ B
def own_L (v : Int64) (n B : Int) : Prop := v.toInt = n ∧ -B ≤ n ∧ n ≤ B
theorem own_Iadd {a b v : Int32} {m n A B : Int} (hv : a + b = v) (ha : own_I a m A) (hb : own_I b n B) (h : decide (A + B < 2147483648) = true) : own_I v (m + n) (A + B) := by
  subst hv; simp only [decide_eq_true_eq] at h; obtain ⟨rfl, h1, h2⟩ := ha; obtain ⟨rfl, h3, h4⟩ := hb
  exact ⟨by rw [Int32.toInt_add]; exact Int.bmod_eq_of_le (by omega) (by omega), by omega, by omega⟩
theorem own_Isub {a b v : Int32} {m n A B : Int} (hv : a - b = v) (ha : own_I a m A) (hb : own_I b n B) (h : decide (A + B < 2147483648) = true) : own_I v (m - n) (A + B) := by
  subst hv; simp only [decide_eq_true_eq] at h; obtain ⟨rfl, h1, h2⟩ := ha; obtain ⟨rfl, h3, h4⟩ := hb
  exact ⟨by rw [Int32.toInt_sub]; exact Int.bmod_eq_of_le (by omega) (by omega), by omega, by omega⟩
theorem own_Imul {a b v : Int32} {m n A B : Int} (hv : a * b = v) (ha : own_I a m A) (hb : own_I b n B) (h : decide (A * B < 2147483648) = true) : own_I v (m * n) (A * B) := by
  subst hv; simp only [decide_eq_true_eq] at h; obtain ⟨rfl, h1⟩ := ha; obtain ⟨rfl, h3⟩ := hb
  have hb := own_bmul h1 h3
  exact ⟨by rw [Int32.toInt_mul]; exact Int.bmod_eq_of_le (by omega) (by omega), hb⟩
theorem own_Ladd {a b v : Int64} {m n A B : Int} (hv : a + b = v) (ha : own_L a m A) (hb : own_L b n B) (h : decide (A + B < 9223372036854775808) = true) : own_L v (m + n) (A + B) := by
  subst hv; simp only [decide_eq_true_eq] at h; obtain ⟨rfl, h1, h2⟩ := ha; obtain ⟨rfl, h3, h4⟩ := hb
  exact ⟨by rw [Int64.toInt_add]; exact Int.bmod_eq_of_le (by omega) (by omega), by omega, by omega⟩
theorem own_Lsub {a b v : Int64} {m n A B : Int} (hv : a - b = v) (ha : own_L a m A) (hb : own_L b n B) (h : decide (A + B < 9223372036854775808) = true) : own_L v (m - n) (A + B) := by
  subst hv; simp only [decide_eq_true_eq] at h; obtain ⟨rfl, h1, h2⟩ := ha; obtain ⟨rfl, h3, h4⟩ := hb
  exact ⟨by rw [Int64.toInt_sub]; exact Int.bmod_eq_of_le (by omega) (by omega), by omega, by omega⟩
theorem own_Lmul {a b v : Int64} {m n A B : Int} (hv : a * b = v) (ha : own_L a m A) (hb : own_L b n B) (h : decide (A * B < 9223372036854775808) = true) : own_L v (m * n) (A * B) := by
  subst hv; simp only [decide_eq_true_eq] at h; obtain ⟨rfl, h1⟩ := ha; obtain ⟨rfl, h3⟩ := hb
  have hb := own_bmul h1 h3
  exact ⟨by rw [Int64.toInt_mul]; exact Int.bmod_eq_of_le (by omega) (by omega), hb⟩
theorem own_Ii2l {a : Int32} {v : Int64} {m A : Int} (hv : Int32.toInt64 a = v) (ha : own_I a m A) : own_L v m A := by
  subst hv; exact ⟨by rw [Int32.toInt_toInt64]; exact ha.1, ha.2⟩
theorem own_Icast {v : Int32} {n n' A A' : Int} (h : own_I v n A) (hn : n = n') (hA : A ≤ A') : own_I v n' A' := by
  subst hn; exact ⟨h.1, by have := h.2; omega, by have := h.2; omega⟩
theorem own_Lcast {v : Int64} {n n' A A' : Int} (h : own_L v n A) (hn : n = n') (hA : A ≤ A') : own_L v n' A' := by
  subst hn; exact ⟨h.1, by have := h.2; omega, by have := h.2; omega⟩
theorem own_Bi2d {v : Int32} {n A : Int} (h : own_I v n A) : own_B (i2d v) n 0 A := by
  obtain ⟨rfl, h1⟩ := h; exact ⟨own_i2d v, h1⟩
theorem own_Bl2d {v : Int64} {n A : Int} (h : own_L v n A) (hA : decide (A ≤ 9007199254740992) = true) : own_B (l2d v) n 0 A := by
  simp only [decide_eq_true_eq] at hA; obtain ⟨rfl, h1⟩ := h; exact ⟨own_l2d (by omega), h1⟩
theorem own_Irng (v : Int32) : own_I v v.toInt 2147483648 := ⟨rfl, by have := Jvm.RoadKit.rng32 v; omega, by have := Jvm.RoadKit.rng32 v; omega⟩
theorem own_Iand {x m v : Int32} {B : Int} (hv : x &&& m = v) (hB : m.toInt = B) (h0 : 0 ≤ B) : own_I v v.toInt B := by
  have := Jvm.RoadKit.c_and x m (by omega); rw [hv] at this; exact ⟨rfl, by omega, by omega⟩
end OwnFP
section OwnStep
open Jvm Jvm.ClassFile Sem Op Lib Jvm.Free Jvm.Stand Jvm.LawKit Jvm.RoadKit
variable {tb : Tables} [Ours tb] {e : Env} {below : List Frame} {T target : State} {m : MethodId} {c : Code} {pc pc' : Nat} {L : Array Slot} {S : List Value}
theorem own_s_iadd (h : At T m c below) (hx : tb.exec = Jvm.exec) {x y v : Int32} (hd : decode c.code pc = .ok (.iadd, 1)) (hp : pc + 1 = pc') (hv : x + y = v)
    (hr : Steps tb e below (T.setTop (mkF m pc' L (.int v :: S))) target) : Steps tb e below (T.setTop (mkF m pc L (.int y :: .int x :: S))) target := by
  subst hv hp; exact XS.iadd h hx rfl hd rfl hr
theorem own_s_ladd (h : At T m c below) (hx : tb.exec = Jvm.exec) {x y v : Int64} (hd : decode c.code pc = .ok (.ladd, 1)) (hp : pc + 1 = pc') (hv : x + y = v)
    (hr : Steps tb e below (T.setTop (mkF m pc' L (.long v :: S))) target) : Steps tb e below (T.setTop (mkF m pc L (.long y :: .long x :: S))) target := by
  subst hv hp; exact XS.ladd h hx rfl hd rfl hr
theorem own_s_isub (h : At T m c below) (hx : tb.exec = Jvm.exec) {x y v : Int32} (hd : decode c.code pc = .ok (.isub, 1)) (hp : pc + 1 = pc') (hv : x - y = v)
    (hr : Steps tb e below (T.setTop (mkF m pc' L (.int v :: S))) target) : Steps tb e below (T.setTop (mkF m pc L (.int y :: .int x :: S))) target := by
  subst hv hp; exact XS.isub h hx rfl hd rfl hr
theorem own_s_lsub (h : At T m c below) (hx : tb.exec = Jvm.exec) {x y v : Int64} (hd : decode c.code pc = .ok (.lsub, 1)) (hp : pc + 1 = pc') (hv : x - y = v)
    (hr : Steps tb e below (T.setTop (mkF m pc' L (.long v :: S))) target) : Steps tb e below (T.setTop (mkF m pc L (.long y :: .long x :: S))) target := by
  subst hv hp; exact XS.lsub h hx rfl hd rfl hr
theorem own_s_imul (h : At T m c below) (hx : tb.exec = Jvm.exec) {x y v : Int32} (hd : decode c.code pc = .ok (.imul, 1)) (hp : pc + 1 = pc') (hv : x * y = v)
    (hr : Steps tb e below (T.setTop (mkF m pc' L (.int v :: S))) target) : Steps tb e below (T.setTop (mkF m pc L (.int y :: .int x :: S))) target := by
  subst hv hp; exact XS.imul h hx rfl hd rfl hr
theorem own_s_lmul (h : At T m c below) (hx : tb.exec = Jvm.exec) {x y v : Int64} (hd : decode c.code pc = .ok (.lmul, 1)) (hp : pc + 1 = pc') (hv : x * y = v)
    (hr : Steps tb e below (T.setTop (mkF m pc' L (.long v :: S))) target) : Steps tb e below (T.setTop (mkF m pc L (.long y :: .long x :: S))) target := by
  subst hv hp; exact XS.lmul h hx rfl hd rfl hr
theorem own_s_iand (h : At T m c below) (hx : tb.exec = Jvm.exec) {x y v : Int32} (hd : decode c.code pc = .ok (.iand, 1)) (hp : pc + 1 = pc') (hv : x &&& y = v)
    (hr : Steps tb e below (T.setTop (mkF m pc' L (.int v :: S))) target) : Steps tb e below (T.setTop (mkF m pc L (.int y :: .int x :: S))) target := by
  subst hv hp; exact XS.iand h hx rfl hd rfl hr
theorem own_s_land (h : At T m c below) (hx : tb.exec = Jvm.exec) {x y v : Int64} (hd : decode c.code pc = .ok (.land, 1)) (hp : pc + 1 = pc') (hv : x &&& y = v)
    (hr : Steps tb e below (T.setTop (mkF m pc' L (.long v :: S))) target) : Steps tb e below (T.setTop (mkF m pc L (.long y :: .long x :: S))) target := by
  subst hv hp; exact XS.land h hx rfl hd rfl hr
theorem own_s_ior (h : At T m c below) (hx : tb.exec = Jvm.exec) {x y v : Int32} (hd : decode c.code pc = .ok (.ior, 1)) (hp : pc + 1 = pc') (hv : x ||| y = v)
    (hr : Steps tb e below (T.setTop (mkF m pc' L (.int v :: S))) target) : Steps tb e below (T.setTop (mkF m pc L (.int y :: .int x :: S))) target := by
  subst hv hp; exact XS.ior h hx rfl hd rfl hr
theorem own_s_lor (h : At T m c below) (hx : tb.exec = Jvm.exec) {x y v : Int64} (hd : decode c.code pc = .ok (.lor, 1)) (hp : pc + 1 = pc') (hv : x ||| y = v)
    (hr : Steps tb e below (T.setTop (mkF m pc' L (.long v :: S))) target) : Steps tb e below (T.setTop (mkF m pc L (.long y :: .long x :: S))) target := by
  subst hv hp; exact XS.lor h hx rfl hd rfl hr
theorem own_s_ixor (h : At T m c below) (hx : tb.exec = Jvm.exec) {x y v : Int32} (hd : decode c.code pc = .ok (.ixor, 1)) (hp : pc + 1 = pc') (hv : x ^^^ y = v)
    (hr : Steps tb e below (T.setTop (mkF m pc' L (.int v :: S))) target) : Steps tb e below (T.setTop (mkF m pc L (.int y :: .int x :: S))) target := by
  subst hv hp; exact XS.ixor h hx rfl hd rfl hr
theorem own_s_lxor (h : At T m c below) (hx : tb.exec = Jvm.exec) {x y v : Int64} (hd : decode c.code pc = .ok (.lxor, 1)) (hp : pc + 1 = pc') (hv : x ^^^ y = v)
    (hr : Steps tb e below (T.setTop (mkF m pc' L (.long v :: S))) target) : Steps tb e below (T.setTop (mkF m pc L (.long y :: .long x :: S))) target := by
  subst hv hp; exact XS.lxor h hx rfl hd rfl hr
theorem own_s_idiv (h : At T m c below) (hx : tb.exec = Jvm.exec) {x y v : Int32} (hd : decode c.code pc = .ok (.idiv, 1)) (hp : pc + 1 = pc') (hy : y ≠ 0) (hv : x / y = v)
    (hr : Steps tb e below (T.setTop (mkF m pc' L (.int v :: S))) target) : Steps tb e below (T.setTop (mkF m pc L (.int y :: .int x :: S))) target := by
  subst hv hp; exact XS.idiv h hx rfl hd rfl hy hr
theorem own_s_irem (h : At T m c below) (hx : tb.exec = Jvm.exec) {x y v : Int32} (hd : decode c.code pc = .ok (.irem, 1)) (hp : pc + 1 = pc') (hy : y ≠ 0) (hv : x % y = v)
    (hr : Steps tb e below (T.setTop (mkF m pc' L (.int v :: S))) target) : Steps tb e below (T.setTop (mkF m pc L (.int y :: .int x :: S))) target := by
  subst hv hp; rw [← irem_eq_mod] at hr; exact XS.irem h hx rfl hd rfl hy hr
theorem own_s_ldiv (h : At T m c below) (hx : tb.exec = Jvm.exec) {x y v : Int64} (hd : decode c.code pc = .ok (.ldiv, 1)) (hp : pc + 1 = pc') (hy : y ≠ 0) (hv : x / y = v)
    (hr : Steps tb e below (T.setTop (mkF m pc' L (.long v :: S))) target) : Steps tb e below (T.setTop (mkF m pc L (.long y :: .long x :: S))) target := by
  subst hv hp; exact XS.ldiv h hx rfl hd rfl hy hr
theorem own_s_lrem (h : At T m c below) (hx : tb.exec = Jvm.exec) {x y v : Int64} (hd : decode c.code pc = .ok (.lrem, 1)) (hp : pc + 1 = pc') (hy : y ≠ 0) (hv : x % y = v)
    (hr : Steps tb e below (T.setTop (mkF m pc' L (.long v :: S))) target) : Steps tb e below (T.setTop (mkF m pc L (.long y :: .long x :: S))) target := by
  subst hv hp; rw [← lrem_mod] at hr; exact XS.lrem h hx rfl hd rfl hy hr
theorem own_s_ishl (h : At T m c below) (hx : tb.exec = Jvm.exec) {x y v : Int32} (hd : decode c.code pc = .ok (.ishl, 1)) (hp : pc + 1 = pc') (hv : x <<< (y &&& 31) = v)
    (hr : Steps tb e below (T.setTop (mkF m pc' L (.int v :: S))) target) : Steps tb e below (T.setTop (mkF m pc L (.int y :: .int x :: S))) target := by
  subst hv hp; exact XS.ishl h hx rfl hd rfl hr
theorem own_s_ishr (h : At T m c below) (hx : tb.exec = Jvm.exec) {x y v : Int32} (hd : decode c.code pc = .ok (.ishr, 1)) (hp : pc + 1 = pc') (hv : x >>> (y &&& 31) = v)
    (hr : Steps tb e below (T.setTop (mkF m pc' L (.int v :: S))) target) : Steps tb e below (T.setTop (mkF m pc L (.int y :: .int x :: S))) target := by
  subst hv hp; exact XS.ishr h hx rfl hd rfl hr
theorem own_s_iushr (h : At T m c below) (hx : tb.exec = Jvm.exec) {x y v : Int32} (hd : decode c.code pc = .ok (.iushr, 1)) (hp : pc + 1 = pc') (hv : (x.toUInt32 >>> (y &&& 31).toUInt32).toInt32 = v)
    (hr : Steps tb e below (T.setTop (mkF m pc' L (.int v :: S))) target) : Steps tb e below (T.setTop (mkF m pc L (.int y :: .int x :: S))) target := by
  subst hv hp; exact XS.iushr h hx rfl hd rfl hr
theorem own_s_lshl (h : At T m c below) (hx : tb.exec = Jvm.exec) {x v : Int64} {y : Int32} (hd : decode c.code pc = .ok (.lshl, 1)) (hp : pc + 1 = pc') (hv : x <<< (y &&& 63).toInt64 = v)
    (hr : Steps tb e below (T.setTop (mkF m pc' L (.long v :: S))) target) : Steps tb e below (T.setTop (mkF m pc L (.int y :: .long x :: S))) target := by
  subst hv hp; exact XS.lshl h hx rfl hd rfl hr
theorem own_s_lshr (h : At T m c below) (hx : tb.exec = Jvm.exec) {x v : Int64} {y : Int32} (hd : decode c.code pc = .ok (.lshr, 1)) (hp : pc + 1 = pc') (hv : x >>> (y &&& 63).toInt64 = v)
    (hr : Steps tb e below (T.setTop (mkF m pc' L (.long v :: S))) target) : Steps tb e below (T.setTop (mkF m pc L (.int y :: .long x :: S))) target := by
  subst hv hp; exact XS.lshr h hx rfl hd rfl hr
theorem own_s_lushr (h : At T m c below) (hx : tb.exec = Jvm.exec) {x v : Int64} {y : Int32} (hd : decode c.code pc = .ok (.lushr, 1)) (hp : pc + 1 = pc') (hv : (x.toUInt64 >>> (y &&& 63).toInt64.toUInt64).toInt64 = v)
    (hr : Steps tb e below (T.setTop (mkF m pc' L (.long v :: S))) target) : Steps tb e below (T.setTop (mkF m pc L (.int y :: .long x :: S))) target := by
  subst hv hp; exact XS.lushr h hx rfl hd rfl hr
theorem own_s_i2l (h : At T m c below) (hx : tb.exec = Jvm.exec) {x : Int32} {v : Int64} (hd : decode c.code pc = .ok (.i2l, 1)) (hp : pc + 1 = pc') (hv : x.toInt64 = v)
    (hr : Steps tb e below (T.setTop (mkF m pc' L (.long v :: S))) target) : Steps tb e below (T.setTop (mkF m pc L (.int x :: S))) target := by
  subst hv hp; exact XS.i2l h hx rfl hd rfl hr
theorem own_s_l2i (h : At T m c below) (hx : tb.exec = Jvm.exec) {x : Int64} {v : Int32} (hd : decode c.code pc = .ok (.l2i, 1)) (hp : pc + 1 = pc') (hv : x.toInt32 = v)
    (hr : Steps tb e below (T.setTop (mkF m pc' L (.int v :: S))) target) : Steps tb e below (T.setTop (mkF m pc L (.long x :: S))) target := by
  subst hv hp; exact XS.l2i h hx rfl hd rfl hr
theorem own_s_i2b (h : At T m c below) (hx : tb.exec = Jvm.exec) {x : Int32} {v : Int32} (hd : decode c.code pc = .ok (.i2b, 1)) (hp : pc + 1 = pc') (hv : x.toInt8.toInt32 = v)
    (hr : Steps tb e below (T.setTop (mkF m pc' L (.int v :: S))) target) : Steps tb e below (T.setTop (mkF m pc L (.int x :: S))) target := by
  subst hv hp; exact XS.i2b h hx rfl hd rfl hr
theorem own_s_i2s (h : At T m c below) (hx : tb.exec = Jvm.exec) {x : Int32} {v : Int32} (hd : decode c.code pc = .ok (.i2s, 1)) (hp : pc + 1 = pc') (hv : x.toInt16.toInt32 = v)
    (hr : Steps tb e below (T.setTop (mkF m pc' L (.int v :: S))) target) : Steps tb e below (T.setTop (mkF m pc L (.int x :: S))) target := by
  subst hv hp; exact XS.i2s h hx rfl hd rfl hr
theorem own_s_ineg (h : At T m c below) (hx : tb.exec = Jvm.exec) {x : Int32} {v : Int32} (hd : decode c.code pc = .ok (.ineg, 1)) (hp : pc + 1 = pc') (hv : -x = v)
    (hr : Steps tb e below (T.setTop (mkF m pc' L (.int v :: S))) target) : Steps tb e below (T.setTop (mkF m pc L (.int x :: S))) target := by
  subst hv hp; exact XS.ineg h hx rfl hd rfl hr
theorem own_s_lneg (h : At T m c below) (hx : tb.exec = Jvm.exec) {x : Int64} {v : Int64} (hd : decode c.code pc = .ok (.lneg, 1)) (hp : pc + 1 = pc') (hv : -x = v)
    (hr : Steps tb e below (T.setTop (mkF m pc' L (.long v :: S))) target) : Steps tb e below (T.setTop (mkF m pc L (.long x :: S))) target := by
  subst hv hp; exact XS.lneg h hx rfl hd rfl hr
theorem own_s_i2d (h : At T m c below) (hx : tb.exec = Jvm.exec) {x : Int32} {v : UInt64} (hd : decode c.code pc = .ok (.i2d, 1)) (hp : pc + 1 = pc') (hv : FP.i2d x = v)
    (hr : Steps tb e below (T.setTop (mkF m pc' L (.double v :: S))) target) : Steps tb e below (T.setTop (mkF m pc L (.int x :: S))) target := by
  subst hv hp; exact XS.i2dS h hx rfl hd rfl rfl hr
theorem own_s_l2d (h : At T m c below) (hx : tb.exec = Jvm.exec) {x : Int64} {v : UInt64} (hd : decode c.code pc = .ok (.l2d, 1)) (hp : pc + 1 = pc') (hv : FP.l2d x = v)
    (hr : Steps tb e below (T.setTop (mkF m pc' L (.double v :: S))) target) : Steps tb e below (T.setTop (mkF m pc L (.long x :: S))) target := by
  subst hv hp; exact XS.l2dS h hx rfl hd rfl rfl hr
theorem own_s_dneg (h : At T m c below) (hx : tb.exec = Jvm.exec) {x : UInt64} {v : UInt64} (hd : decode c.code pc = .ok (.dneg, 1)) (hp : pc + 1 = pc') (hv : FP.dneg x = v)
    (hr : Steps tb e below (T.setTop (mkF m pc' L (.double v :: S))) target) : Steps tb e below (T.setTop (mkF m pc L (.double x :: S))) target := by
  subst hv hp; exact XS.dnegS h hx rfl hd rfl rfl hr
theorem own_s_dadd (h : At T m c below) (hx : tb.exec = Jvm.exec) {x y v : UInt64} (hd : decode c.code pc = .ok (.dadd, 1)) (hp : pc + 1 = pc') (hn : Jvm.Free.Fl.NoNaN64 (FP.dadd x y)) (hv : FP.dadd x y = v)
    (hr : Steps tb e below (T.setTop (mkF m pc' L (.double v :: S))) target) : Steps tb e below (T.setTop (mkF m pc L (.double y :: .double x :: S))) target := by
  subst hv hp; exact XS.daddS h hx rfl hd rfl hn rfl hr
theorem own_s_dsub (h : At T m c below) (hx : tb.exec = Jvm.exec) {x y v : UInt64} (hd : decode c.code pc = .ok (.dsub, 1)) (hp : pc + 1 = pc') (hn : Jvm.Free.Fl.NoNaN64 (FP.dsub x y)) (hv : FP.dsub x y = v)
    (hr : Steps tb e below (T.setTop (mkF m pc' L (.double v :: S))) target) : Steps tb e below (T.setTop (mkF m pc L (.double y :: .double x :: S))) target := by
  subst hv hp; exact XS.dsubS h hx rfl hd rfl hn rfl hr
theorem own_s_dmul (h : At T m c below) (hx : tb.exec = Jvm.exec) {x y v : UInt64} (hd : decode c.code pc = .ok (.dmul, 1)) (hp : pc + 1 = pc') (hn : Jvm.Free.Fl.NoNaN64 (FP.dmul x y)) (hv : FP.dmul x y = v)
    (hr : Steps tb e below (T.setTop (mkF m pc' L (.double v :: S))) target) : Steps tb e below (T.setTop (mkF m pc L (.double y :: .double x :: S))) target := by
  subst hv hp; exact XS.dmulS h hx rfl hd rfl hn rfl hr
theorem own_s_ddiv (h : At T m c below) (hx : tb.exec = Jvm.exec) {x y v : UInt64} (hd : decode c.code pc = .ok (.ddiv, 1)) (hp : pc + 1 = pc') (hn : Jvm.Free.Fl.NoNaN64 (FP.ddiv x y)) (hv : FP.ddiv x y = v)
    (hr : Steps tb e below (T.setTop (mkF m pc' L (.double v :: S))) target) : Steps tb e below (T.setTop (mkF m pc L (.double y :: .double x :: S))) target := by
  subst hv hp; exact XS.ddivS h hx rfl hd rfl hn rfl hr
theorem own_s_dcmp (h : At T m c below) (hx : tb.exec = Jvm.exec) {o : CmpOp} {x y : UInt64} {v : Int32} (hd : decode c.code pc = .ok (.dcmp o, 1)) (hp : pc + 1 = pc') (hv : Op.cmpValue (FP.dcmp x y) o = v)
    (hr : Steps tb e below (T.setTop (mkF m pc' L (.int v :: S))) target) : Steps tb e below (T.setTop (mkF m pc L (.double y :: .double x :: S))) target := by
  subst hv hp; exact XS.dcmpS h hx rfl hd rfl rfl hr
theorem own_s_lcmp (h : At T m c below) (hx : tb.exec = Jvm.exec) {x y : Int64} {v : Int32} (hd : decode c.code pc = .ok (.lcmp, 1)) (hp : pc + 1 = pc') (hv : lcmpW x y = v)
    (hr : Steps tb e below (T.setTop (mkF m pc' L (.int v :: S))) target) : Steps tb e below (T.setTop (mkF m pc L (.long y :: .long x :: S))) target := by
  subst hv hp; exact XS.lcmp h hx rfl hd rfl hr
theorem own_s_iconst (h : At T m c below) (hx : tb.exec = Jvm.exec) {i : Int} {v : Int32} (hd : decode c.code pc = .ok (.iconst i, 1)) (hp : pc + 1 = pc') (hv : Int32.ofInt i = v)
    (hr : Steps tb e below (T.setTop (mkF m pc' L (.int v :: S))) target) : Steps tb e below (T.setTop (mkF m pc L S)) target := by
  subst hv hp; exact XS.iconst h hx rfl hd hr
theorem own_s_bipush (h : At T m c below) (hx : tb.exec = Jvm.exec) {i : Int} {v : Int32} (hd : decode c.code pc = .ok (.bipush i, 2)) (hp : pc + 2 = pc') (hv : (Int8.ofInt i).toInt32 = v)
    (hr : Steps tb e below (T.setTop (mkF m pc' L (.int v :: S))) target) : Steps tb e below (T.setTop (mkF m pc L S)) target := by
  subst hv hp; exact XS.bipush h hx rfl hd hr
theorem own_s_sipush (h : At T m c below) (hx : tb.exec = Jvm.exec) {i : Int} {v : Int32} (hd : decode c.code pc = .ok (.sipush i, 3)) (hp : pc + 3 = pc') (hv : (Int16.ofInt i).toInt32 = v)
    (hr : Steps tb e below (T.setTop (mkF m pc' L (.int v :: S))) target) : Steps tb e below (T.setTop (mkF m pc L S)) target := by
  subst hv hp; exact XS.sipush h hx rfl hd hr
theorem own_s_lconst (h : At T m c below) (hx : tb.exec = Jvm.exec) {k : Fin 2} {v : Int64} (hd : decode c.code pc = .ok (.lconst k, 1)) (hp : pc + 1 = pc') (hv : Int64.ofNat k = v)
    (hr : Steps tb e below (T.setTop (mkF m pc' L (.long v :: S))) target) : Steps tb e below (T.setTop (mkF m pc L S)) target := by
  subst hv hp; exact XS.lconst h hx rfl hd hr
theorem own_s_dconst0 (h : At T m c below) (hx : tb.exec = Jvm.exec)  (hd : decode c.code pc = .ok (.dconst 0, 1)) (hp : pc + 1 = pc') 
    (hr : Steps tb e below (T.setTop (mkF m pc' L (.double 0 :: S))) target) : Steps tb e below (T.setTop (mkF m pc L S)) target := by
  subst hp; exact XS.dconst0 h hx rfl hd rfl hr
theorem own_s_dconst1 (h : At T m c below) (hx : tb.exec = Jvm.exec)  (hd : decode c.code pc = .ok (.dconst 1, 1)) (hp : pc + 1 = pc') 
    (hr : Steps tb e below (T.setTop (mkF m pc' L (.double 4607182418800017408 :: S))) target) : Steps tb e below (T.setTop (mkF m pc L S)) target := by
  subst hp; exact XS.dconst1 h hx rfl hd rfl hr
theorem own_s_aconst_null (h : At T m c below) (hx : tb.exec = Jvm.exec)  (hd : decode c.code pc = .ok (.aconst_null, 1)) (hp : pc + 1 = pc') 
    (hr : Steps tb e below (T.setTop (mkF m pc' L (.null :: S))) target) : Steps tb e below (T.setTop (mkF m pc L S)) target := by
  subst hp; exact XS.aconstNull h hx rfl hd hr
theorem own_s_dup (h : At T m c below) (hx : tb.exec = Jvm.exec) {x : Value} (hd : decode c.code pc = .ok (.dup, 1)) (hp : pc + 1 = pc') (hc : x.category = 1)
    (hr : Steps tb e below (T.setTop (mkF m pc' L (x :: x :: S))) target) : Steps tb e below (T.setTop (mkF m pc L (x :: S))) target := by
  subst hp; exact XS.dup h hx rfl hd rfl hc hr
theorem own_s_dupX1 (h : At T m c below) (hx : tb.exec = Jvm.exec) {x y : Value} (hd : decode c.code pc = .ok (.dup_x1, 1)) (hp : pc + 1 = pc') (hc : x.category = 1) (hc' : y.category = 1)
    (hr : Steps tb e below (T.setTop (mkF m pc' L (x :: y :: x :: S))) target) : Steps tb e below (T.setTop (mkF m pc L (x :: y :: S))) target := by
  subst hp; exact XS.dupX1 h hx rfl hd rfl hc hc' hr
theorem own_s_pop (h : At T m c below) (hx : tb.exec = Jvm.exec) {x : Value} (hd : decode c.code pc = .ok (.pop, 1)) (hp : pc + 1 = pc') (hc : x.category = 1)
    (hr : Steps tb e below (T.setTop (mkF m pc' L S)) target) : Steps tb e below (T.setTop (mkF m pc L (x :: S))) target := by
  subst hp; exact XS.pop h hx rfl hd rfl hc hr
theorem own_s_iloadN (h : At T m c below) (hx : tb.exec = Jvm.exec) {k : Fin 4} {v : Int32} (hd : decode c.code pc = .ok (.iload_n k, 1)) (hp : pc + 1 = pc') (hl : L[k.val]? = some (.val (.int v)))
    (hr : Steps tb e below (T.setTop (mkF m pc' L (.int v :: S))) target) : Steps tb e below (T.setTop (mkF m pc L S)) target := by
  subst hp; exact XS.iloadN h hx rfl hd hl hr
theorem own_s_iload (h : At T m c below) (hx : tb.exec = Jvm.exec) {k : Nat} {v : Int32} (hd : decode c.code pc = .ok (.iload k, 2)) (hp : pc + 2 = pc') (hl : L[k]? = some (.val (.int v)))
    (hr : Steps tb e below (T.setTop (mkF m pc' L (.int v :: S))) target) : Steps tb e below (T.setTop (mkF m pc L S)) target := by
  subst hp; exact XS.iload h hx rfl hd hl hr
theorem own_s_istoreN (h : At T m c below) (hx : tb.exec = Jvm.exec) {k : Fin 4} {v : Int32} {L' : Array Slot} (hd : decode c.code pc = .ok (.istore_n k, 1)) (hp : pc + 1 = pc') (hl : storeLocals L k.val (.int v) = some L')
    (hr : Steps tb e below (T.setTop (mkF m pc' L' S)) target) : Steps tb e below (T.setTop (mkF m pc L (.int v :: S))) target := by
  subst hp; exact XS.istoreN h hx rfl hd rfl hl hr
theorem own_s_istore (h : At T m c below) (hx : tb.exec = Jvm.exec) {k : Nat} {v : Int32} {L' : Array Slot} (hd : decode c.code pc = .ok (.istore k, 2)) (hp : pc + 2 = pc') (hl : storeLocals L k (.int v) = some L')
    (hr : Steps tb e below (T.setTop (mkF m pc' L' S)) target) : Steps tb e below (T.setTop (mkF m pc L (.int v :: S))) target := by
  subst hp; exact XS.istore h hx rfl hd rfl hl hr
theorem own_s_lloadN (h : At T m c below) (hx : tb.exec = Jvm.exec) {k : Fin 4} {v : Int64} (hd : decode c.code pc = .ok (.lload_n k, 1)) (hp : pc + 1 = pc') (hl : L[k.val]? = some (.val (.long v)))
    (hr : Steps tb e below (T.setTop (mkF m pc' L (.long v :: S))) target) : Steps tb e below (T.setTop (mkF m pc L S)) target := by
  subst hp; exact XS.lloadN h hx rfl hd hl hr
theorem own_s_lload (h : At T m c below) (hx : tb.exec = Jvm.exec) {k : Nat} {v : Int64} (hd : decode c.code pc = .ok (.lload k, 2)) (hp : pc + 2 = pc') (hl : L[k]? = some (.val (.long v)))
    (hr : Steps tb e below (T.setTop (mkF m pc' L (.long v :: S))) target) : Steps tb e below (T.setTop (mkF m pc L S)) target := by
  subst hp; exact XS.lload h hx rfl hd hl hr
theorem own_s_lstoreN (h : At T m c below) (hx : tb.exec = Jvm.exec) {k : Fin 4} {v : Int64} {L' : Array Slot} (hd : decode c.code pc = .ok (.lstore_n k, 1)) (hp : pc + 1 = pc') (hl : storeLocals L k.val (.long v) = some L')
    (hr : Steps tb e below (T.setTop (mkF m pc' L' S)) target) : Steps tb e below (T.setTop (mkF m pc L (.long v :: S))) target := by
  subst hp; exact XS.lstoreN h hx rfl hd rfl hl hr
theorem own_s_lstore (h : At T m c below) (hx : tb.exec = Jvm.exec) {k : Nat} {v : Int64} {L' : Array Slot} (hd : decode c.code pc = .ok (.lstore k, 2)) (hp : pc + 2 = pc') (hl : storeLocals L k (.long v) = some L')
    (hr : Steps tb e below (T.setTop (mkF m pc' L' S)) target) : Steps tb e below (T.setTop (mkF m pc L (.long v :: S))) target := by
  subst hp; exact XS.lstore h hx rfl hd rfl hl hr
theorem own_s_dloadN (h : At T m c below) (hx : tb.exec = Jvm.exec) {k : Fin 4} {v : UInt64} (hd : decode c.code pc = .ok (.dload_n k, 1)) (hp : pc + 1 = pc') (hl : L[k.val]? = some (.val (.double v)))
    (hr : Steps tb e below (T.setTop (mkF m pc' L (.double v :: S))) target) : Steps tb e below (T.setTop (mkF m pc L S)) target := by
  subst hp; exact XS.dloadN h hx rfl hd hl hr
theorem own_s_dload (h : At T m c below) (hx : tb.exec = Jvm.exec) {k : Nat} {v : UInt64} (hd : decode c.code pc = .ok (.dload k, 2)) (hp : pc + 2 = pc') (hl : L[k]? = some (.val (.double v)))
    (hr : Steps tb e below (T.setTop (mkF m pc' L (.double v :: S))) target) : Steps tb e below (T.setTop (mkF m pc L S)) target := by
  subst hp; exact XS.dload h hx rfl hd hl hr
theorem own_s_dstoreN (h : At T m c below) (hx : tb.exec = Jvm.exec) {k : Fin 4} {v : UInt64} {L' : Array Slot} (hd : decode c.code pc = .ok (.dstore_n k, 1)) (hp : pc + 1 = pc') (hl : storeLocals L k.val (.double v) = some L')
    (hr : Steps tb e below (T.setTop (mkF m pc' L' S)) target) : Steps tb e below (T.setTop (mkF m pc L (.double v :: S))) target := by
  subst hp; exact XS.dstoreN h hx rfl hd rfl hl hr
theorem own_s_dstore (h : At T m c below) (hx : tb.exec = Jvm.exec) {k : Nat} {v : UInt64} {L' : Array Slot} (hd : decode c.code pc = .ok (.dstore k, 2)) (hp : pc + 2 = pc') (hl : storeLocals L k (.double v) = some L')
    (hr : Steps tb e below (T.setTop (mkF m pc' L' S)) target) : Steps tb e below (T.setTop (mkF m pc L (.double v :: S))) target := by
  subst hp; exact XS.dstore h hx rfl hd rfl hl hr
theorem own_s_aloadN (h : At T m c below) (hx : tb.exec = Jvm.exec) {k : Fin 4} {v : Value} (hd : decode c.code pc = .ok (.aload_n k, 1)) (hp : pc + 1 = pc') (hl : L[k.val]? = some (.val v)) (hr0 : v.isRef = true)
    (hr : Steps tb e below (T.setTop (mkF m pc' L (v :: S))) target) : Steps tb e below (T.setTop (mkF m pc L S)) target := by
  subst hp; exact XS.aloadN h hx rfl hd hl hr0 hr
theorem own_s_aload (h : At T m c below) (hx : tb.exec = Jvm.exec) {k : Nat} {v : Value} (hd : decode c.code pc = .ok (.aload k, 2)) (hp : pc + 2 = pc') (hl : L[k]? = some (.val v)) (hr0 : v.isRef = true)
    (hr : Steps tb e below (T.setTop (mkF m pc' L (v :: S))) target) : Steps tb e below (T.setTop (mkF m pc L S)) target := by
  subst hp; exact XS.aload h hx rfl hd hl hr0 hr
theorem own_s_astoreN (h : At T m c below) (hx : tb.exec = Jvm.exec) {k : Fin 4} {v : Value} {L' : Array Slot} (hd : decode c.code pc = .ok (.astore_n k, 1)) (hp : pc + 1 = pc') (hr0 : v.isRef = true) (hl : storeLocals L k.val v = some L')
    (hr : Steps tb e below (T.setTop (mkF m pc' L' S)) target) : Steps tb e below (T.setTop (mkF m pc L (v :: S))) target := by
  subst hp; exact XS.astoreN h hx rfl hd rfl hr0 hl hr
theorem own_s_astore (h : At T m c below) (hx : tb.exec = Jvm.exec) {k : Nat} {v : Value} {L' : Array Slot} (hd : decode c.code pc = .ok (.astore k, 2)) (hp : pc + 2 = pc') (hr0 : v.isRef = true) (hl : storeLocals L k v = some L')
    (hr : Steps tb e below (T.setTop (mkF m pc' L' S)) target) : Steps tb e below (T.setTop (mkF m pc L (v :: S))) target := by
  subst hp; exact XS.astore h hx rfl hd rfl hr0 hl hr
theorem own_s_iinc (h : At T m c below) (hx : tb.exec = Jvm.exec) {k : Nat} {cst : Int} {x v : Int32} {L' : Array Slot} (hd : decode c.code pc = .ok (.iinc k cst, 3)) (hp : pc + 3 = pc') (hl : L[k]? = some (.val (.int x))) (hv : x + Int32.ofInt cst = v) (hl' : storeLocals L k (.int v) = some L')
    (hr : Steps tb e below (T.setTop (mkF m pc' L' S)) target) : Steps tb e below (T.setTop (mkF m pc L S)) target := by
  subst hv hp; exact XS.iinc h hx rfl hd hl hl' hr
theorem own_s_goto (h : At T m c below) (hx : tb.exec = Jvm.exec)  {o : Int} (hd : decode c.code pc = .ok (.goto o, 3)) (ho : 0 ≤ (pc : Int) + o) (hp : ((pc : Int) + o).toNat = pc') 
    (hr : Steps tb e below (T.setTop (mkF m pc' L S)) target) : Steps tb e below (T.setTop (mkF m pc L S)) target := by
  exact XS.goto h hx rfl rfl hd ho hp hr
theorem own_s_ifYes (h : At T m c below) (hx : tb.exec = Jvm.exec) {cd : ClassFile.Cond} {x : Int32} {o : Int} (hd : decode c.code pc = .ok (.ifCond cd o, 3)) (ho : 0 ≤ (pc : Int) + o) (hp : ((pc : Int) + o).toNat = pc') (hc : ifCond.holds cd x = true)
    (hr : Steps tb e below (T.setTop (mkF m pc' L S)) target) : Steps tb e below (T.setTop (mkF m pc L (.int x :: S))) target := by
  exact XS.ifYes h hx rfl rfl hd rfl hc ho hp hr
theorem own_s_icmpYes (h : At T m c below) (hx : tb.exec = Jvm.exec) {cd : ClassFile.Cond} {x y : Int32} {o : Int} (hd : decode c.code pc = .ok (.if_icmp cd o, 3)) (ho : 0 ≤ (pc : Int) + o) (hp : ((pc : Int) + o).toNat = pc') (hc : if_icmp.holds cd x y = true)
    (hr : Steps tb e below (T.setTop (mkF m pc' L S)) target) : Steps tb e below (T.setTop (mkF m pc L (.int y :: .int x :: S))) target := by
  exact XS.icmpYes h hx rfl rfl hd rfl hc ho hp hr
theorem own_s_ifNo (h : At T m c below) (hx : tb.exec = Jvm.exec) {cd : ClassFile.Cond} {o : Int} {x : Int32} (hd : decode c.code pc = .ok (.ifCond cd o, 3)) (hp : pc + 3 = pc') (hc : ifCond.holds cd x = false)
    (hr : Steps tb e below (T.setTop (mkF m pc' L S)) target) : Steps tb e below (T.setTop (mkF m pc L (.int x :: S))) target := by
  subst hp; exact XS.ifNo h hx rfl hd rfl hc hr
theorem own_s_icmpNo (h : At T m c below) (hx : tb.exec = Jvm.exec) {cd : ClassFile.Cond} {o : Int} {x y : Int32} (hd : decode c.code pc = .ok (.if_icmp cd o, 3)) (hp : pc + 3 = pc') (hc : if_icmp.holds cd x y = false)
    (hr : Steps tb e below (T.setTop (mkF m pc' L S)) target) : Steps tb e below (T.setTop (mkF m pc L (.int y :: .int x :: S))) target := by
  subst hp; exact XS.icmpNo h hx rfl hd rfl hc hr
theorem own_s_ifnullYes (h : At T m c below) (hx : tb.exec = Jvm.exec)  {o : Int} (hd : decode c.code pc = .ok (.ifnull o, 3)) (ho : 0 ≤ (pc : Int) + o) (hp : ((pc : Int) + o).toNat = pc') 
    (hr : Steps tb e below (T.setTop (mkF m pc' L S)) target) : Steps tb e below (T.setTop (mkF m pc L (.null :: S))) target := by
  exact XS.ifnullYes h hx rfl rfl hd rfl ho hp hr
theorem own_s_ifnullNo (h : At T m c below) (hx : tb.exec = Jvm.exec) {o : Int} {b : Addr} (hd : decode c.code pc = .ok (.ifnull o, 3)) (hp : pc + 3 = pc') 
    (hr : Steps tb e below (T.setTop (mkF m pc' L S)) target) : Steps tb e below (T.setTop (mkF m pc L (.ref b :: S))) target := by
  subst hp; exact XS.ifnullNo h hx rfl hd rfl hr
theorem own_s_ifnonnullYes (h : At T m c below) (hx : tb.exec = Jvm.exec) {b : Addr} {o : Int} (hd : decode c.code pc = .ok (.ifnonnull o, 3)) (ho : 0 ≤ (pc : Int) + o) (hp : ((pc : Int) + o).toNat = pc') 
    (hr : Steps tb e below (T.setTop (mkF m pc' L S)) target) : Steps tb e below (T.setTop (mkF m pc L (.ref b :: S))) target := by
  exact XS.ifnonnullYes h hx rfl rfl hd rfl ho hp hr
theorem own_s_ifnonnullNo (h : At T m c below) (hx : tb.exec = Jvm.exec) {o : Int} (hd : decode c.code pc = .ok (.ifnonnull o, 3)) (hp : pc + 3 = pc') 
    (hr : Steps tb e below (T.setTop (mkF m pc' L S)) target) : Steps tb e below (T.setTop (mkF m pc L (.null :: S))) target := by
  subst hp; exact XS.ifnonnullNo h hx rfl hd rfl hr
end OwnStep
section OwnHeap
open Jvm Jvm.ClassFile Sem Op Lib Jvm.Free Jvm.Stand Jvm.LawKit Jvm.RoadKit
variable {p : Program} {l : Launch} {e : Env} {R : Room} {s : State} {m : MethodId} {args : Array Value} {below : List Frame} {meth : Method} {c : Code} {T : State} {locs : List Loc} {cells slots : Nat} {Z : State} {a0 : Array Value} {h : Heap} {pc pc' : Nat} {L : Array Slot} {S : List Value} {a : Addr} {k : ClassId} {z : Int32} {vs : List Value} {dv : Value}
theorem own_newD (X : Stand p l e R s m args below meth c T locs cells slots) (hx : p.tables.exec = Jvm.exec) (hZ : Z.Warmed39 s.vm) (w : (Jvm.Cond.arrayClass .double).before a0 Z = true) (eT : T.heap = h) (n : Nat) (hz : z.toNatClampNeg = n) (hz0 : ¬ z < 0) (hb : n * 8 ≤ 536870912) (hc : cells + 1 ≤ R.cells) (hl : slots + n ≤ R.slots) (hd : decode c.code pc = .ok (.newarray .double, 2)) (hp : pc + 2 = pc') :
    ∃ T' h' k b, Stand p l e R s m args below meth c T' locs (cells + 1) (slots + n) ∧ T'.heap = h' ∧ Ext h h' ∧ b = h.size ∧ Arv Z h' b k .double z (List.replicate n (.double 0)) (.double 0) ∧ ∀ target, Steps p.tables e below (T'.setTop (mkF m pc' L (.ref b :: S))) target → Steps p.tables e below (T.setTop (mkF m pc L (.int z :: S))) target := by
  subst hp
  obtain ⟨T', h', k, X', e', E, A, st⟩ := newP X hx hZ (aty := .double) w eT (g := mkF m pc L (.int z :: S)) rfl hd rfl hz0 (cap := n) (Nat.le_of_eq hz) hb hc hl
  exact ⟨T', h', k, h.size, X', e', E, rfl, (Arv.new A hz0).pad (pad_rep [] (.double 0) n), st⟩
theorem own_newJ (X : Stand p l e R s m args below meth c T locs cells slots) (hx : p.tables.exec = Jvm.exec) (hZ : Z.Warmed39 s.vm) (w : (Jvm.Cond.arrayClass .long).before a0 Z = true) (eT : T.heap = h) (n : Nat) (hz : z.toNatClampNeg = n) (hz0 : ¬ z < 0) (hb : n * 8 ≤ 536870912) (hc : cells + 1 ≤ R.cells) (hl : slots + n ≤ R.slots) (hd : decode c.code pc = .ok (.newarray .long, 2)) (hp : pc + 2 = pc') :
    ∃ T' h' k b, Stand p l e R s m args below meth c T' locs (cells + 1) (slots + n) ∧ T'.heap = h' ∧ Ext h h' ∧ b = h.size ∧ Arv Z h' b k .long z (List.replicate n (.long 0)) (.long 0) ∧ ∀ target, Steps p.tables e below (T'.setTop (mkF m pc' L (.ref b :: S))) target → Steps p.tables e below (T.setTop (mkF m pc L (.int z :: S))) target := by
  subst hp
  obtain ⟨T', h', k, X', e', E, A, st⟩ := newP X hx hZ (aty := .long) w eT (g := mkF m pc L (.int z :: S)) rfl hd rfl hz0 (cap := n) (Nat.le_of_eq hz) hb hc hl
  exact ⟨T', h', k, h.size, X', e', E, rfl, (Arv.new A hz0).pad (pad_rep [] (.long 0) n), st⟩
theorem own_stD (X : Stand p l e R s m args below meth c T locs cells slots) (hx : p.tables.exec = Jvm.exec) (hZ : Z.Warmed39 s.vm) (eT : T.heap = h) (V : Arv Z h a k .double z vs dv) {j : Int32} {x : UInt64} (hj : ¬ j < 0 ∧ j < z) (i : Nat) (hi : j.toNatClampNeg = i) (hl : i < vs.length) (hd : decode c.code pc = .ok (.dastore, 1)) (hp : pc + 1 = pc') :
    ∃ T' h', Stand p l e R s m args below meth c T' (locs ++ [⟨a, j.toNatClampNeg⟩]) cells slots ∧ T'.heap = h' ∧ Wr h h' a j.toNatClampNeg (.double x) ∧ Arv Z h' a k .double z (vs.set i (.double x)) dv ∧ ∀ target, Steps p.tables e below (T'.setTop (mkF m pc' L S)) target → Steps p.tables e below (T.setTop (mkF m pc L (.double x :: .int j :: .ref a :: S))) target := by
  subst hp
  obtain ⟨cl, A, q1, S1, q3, H, G⟩ := V
  obtain ⟨T', h', X', e', W, st⟩ := stD X hx hZ eT A (j := j) (x := x) (inb_of S1 hj) (g := mkF m pc L (.double x :: .int j :: .ref a :: S)) rfl rfl hd
  exact ⟨T', h', X', e', W, Arv.set A q1 S1 q3 H G rfl W i hi hl, st⟩
theorem own_ldD (X : Stand p l e R s m args below meth c T locs cells slots) (hx : p.tables.exec = Jvm.exec) (hZ : Z.Warmed39 s.vm) (eT : T.heap = h) (V : Arv Z h a k .double z vs dv) {j : Int32} {x : UInt64} (hj : ¬ j < 0 ∧ j < z) (hv : vs.getD j.toNatClampNeg dv = .double x) (hd : decode c.code pc = .ok (.daload, 1)) (hp : pc + 1 = pc') {target : State}
    (hr : Steps p.tables e below (T.setTop (mkF m pc' L (.double x :: S))) target) : Steps p.tables e below (T.setTop (mkF m pc L (.int j :: .ref a :: S))) target := by
  subst hp
  obtain ⟨cl, A, q1, S1, q3, H, G⟩ := V
  exact X.daload hx (j := j) (v := .double x) (by rw [eT]; exact A.1) (State.isArrayOf_alike hZ.alike A.2.1) A.2.2 (inb_of S1 hj) (H.at (inb_of S1 hj) hv) (g := mkF m pc L (.int j :: .ref a :: S)) rfl rfl hd target hr
theorem own_len {ty : FieldType} (X : Stand p l e R s m args below meth c T locs cells slots) (hx : p.tables.exec = Jvm.exec) (hZ : Z.Warmed39 s.vm) (eT : T.heap = h) (V : Arv Z h a k ty z vs dv) (hd : decode c.code pc = .ok (.arraylength, 1)) (hp : pc + 1 = pc') {target : State}
    (hr : Steps p.tables e below (T.setTop (mkF m pc' L (.int z :: S))) target) : Steps p.tables e below (T.setTop (mkF m pc L (.ref a :: S))) target := by
  subst hp
  obtain ⟨cl, A, q1, S1, q3, H, G⟩ := V
  refine X.arraylength hx (by rw [eT]; exact A.1) (State.isArrayOf_alike hZ.alike A.2.1) (g := mkF m pc L (.ref a :: S)) rfl rfl hd target ?_
  rw [len_of S1 q3]
  exact hr
theorem own_retI (X : Stand p l e R s m args below meth c T locs cells slots) (hx : p.tables.exec = Jvm.exec) {x : Int32} (hret : meth.sig.returnType = some .int) (hd : decode c.code pc = .ok (.ireturn, 1)) {fs : List Frame}
    (hl : ∀ (f : JFrame) (acts : List Action), f.method = m → f.locked = none → f.entered = [] → (doReturn e (T.setTop f) acts (some (.int x))).1 = T.setFrames fs) : Steps p.tables e below (T.setTop (mkF m pc L (.int x :: S))) (T.setFrames fs) := by
  have hm' : T.vm.method? m = some meth := X.method'
  have hn : narrow .int (.int x) = .int x := rfl
  show Steps p.tables e below (T.setTop { method := m, pc := pc, locals := L, stack := _ :: S, locked := none }) _
  jvm_step X.here [X.here.top, hx, hd, hm', hret, hn]
  first | (intro acts; rw [hl _ acts rfl rfl rfl]) | rw [hl _ _ rfl rfl rfl]
  exact Steps.refl _
theorem own_retD (X : Stand p l e R s m args below meth c T locs cells slots) (hx : p.tables.exec = Jvm.exec) {x : UInt64} (hret : meth.sig.returnType = some .double) (hd : decode c.code pc = .ok (.dreturn, 1)) {fs : List Frame}
    (hl : ∀ (f : JFrame) (acts : List Action), f.method = m → f.locked = none → f.entered = [] → (doReturn e (T.setTop f) acts (some (.double x))).1 = T.setFrames fs) : Steps p.tables e below (T.setTop (mkF m pc L (.double x :: S))) (T.setFrames fs) := by
  have hm' : T.vm.method? m = some meth := X.method'
  show Steps p.tables e below (T.setTop { method := m, pc := pc, locals := L, stack := _ :: S, locked := none }) _
  jvm_step X.here [X.here.top, hx, hd, hm', hret, narrow]
  first | (intro acts; rw [hl _ acts rfl rfl rfl]) | rw [hl _ _ rfl rfl rfl]
  exact Steps.refl _
theorem own_retJ (X : Stand p l e R s m args below meth c T locs cells slots) (hx : p.tables.exec = Jvm.exec) {x : Int64} (hret : meth.sig.returnType = some .long) (hd : decode c.code pc = .ok (.lreturn, 1)) {fs : List Frame}
    (hl : ∀ (f : JFrame) (acts : List Action), f.method = m → f.locked = none → f.entered = [] → (doReturn e (T.setTop f) acts (some (.long x))).1 = T.setFrames fs) : Steps p.tables e below (T.setTop (mkF m pc L (.long x :: S))) (T.setFrames fs) := by
  have hm' : T.vm.method? m = some meth := X.method'
  show Steps p.tables e below (T.setTop { method := m, pc := pc, locals := L, stack := _ :: S, locked := none }) _
  jvm_step X.here [X.here.top, hx, hd, hm', hret, narrow]
  first | (intro acts; rw [hl _ acts rfl rfl rfl]) | rw [hl _ _ rfl rfl rfl]
  exact Steps.refl _
theorem own_retR (X : Stand p l e R s m args below meth c T locs cells slots) (hx : p.tables.exec = Jvm.exec) {b : Addr} {t : FieldType} (hret : meth.sig.returnType = some t) (ht : t.isReference = true) (hd : decode c.code pc = .ok (.areturn, 1)) {fs : List Frame}
    (hl : ∀ (f : JFrame) (acts : List Action), f.method = m → f.locked = none → f.entered = [] → (doReturn e (T.setTop f) acts (some (.ref b))).1 = T.setFrames fs) : Steps p.tables e below (T.setTop (mkF m pc L (.ref b :: S))) (T.setFrames fs) := by
  have hm' : T.vm.method? m = some meth := X.method'
  show Steps p.tables e below (T.setTop { method := m, pc := pc, locals := L, stack := _ :: S, locked := none }) _
  jvm_step X.here [X.here.top, hx, hd, hm', hret, Value.isRef, ht]
  first | (intro acts; rw [hl _ acts rfl rfl rfl]) | rw [hl _ _ rfl rfl rfl]
  exact Steps.refl _
end OwnHeap
open Jvm Jvm.ClassFile Sem Op Lib Jvm.Free Jvm.Stand Jvm.LawKit Jvm.RoadKit Bundle Jvm.Pilot.@@N@@.Jvm.D
def own_Q0 (n0 : Nat) (v : Option Value) (h : Heap) (L : List Loc) : Prop := v = some (.int 1) ∧ Fr n0 L
def own_QP (r : Option Value) (h0 : Heap) (n0 : Nat) (v : Option Value) (h : Heap) (L : List Loc) : Prop := v = r ∧ Fr n0 L ∧ h = h0
section OwnZero
open Jvm.FP.Core
/-- a sum that starts at a plus zero never comes to a minus zero -/
theorem own_addz {x y : UInt64} {m n e A B : Int} (hx : own_B x m e A) (hy : own_B y n e B) (he : (decide (e ≤ 971) && decide (A + B < 9007199254740992)) = true) (hz : m = 0 → x = 0) : m + n = 0 → Jvm.FP.dadd x y = 0 := by
  intro h0
  show dadd x y = 0
  have hs := own_Badd hx hy he
  obtain ⟨s, c, q, vx, fx, zx, -⟩ := own_fin_split hx.1
  obtain ⟨t, d, r, vy, fy, zy, -⟩ := own_fin_split hy.1
  have hsum : zval b64 (.fin s c q) + zval b64 (.fin t d r) = 0 := by
    show signed s (inUnits c q b64.qmin) + signed t (inUnits d r b64.qmin) = 0
    rw [zx, zy, ← Int.add_mul, h0, Int.zero_mul]
  have hst : (s && t) = false := by
    by_cases hm : m = 0
    · have := hz hm
      rw [this, val64_zero] at vx
      cases vx; rfl
    · have hp : (0 : Int) < ((2 ^ (e + 1074).toNat : Nat) : Int) := by have := Nat.two_pow_pos (e + 1074).toNat; omega
      have h1 : signed s (inUnits c q b64.qmin) ≠ 0 := by rw [zx]; exact fun h => by rcases Int.mul_eq_zero.mp h with h | h <;> omega
      have hsum' : signed s (inUnits c q b64.qmin) + signed t (inUnits d r b64.qmin) = 0 := hsum
      cases s <;> cases t <;> first | rfl | (simp only [signed, if_true] at h1 hsum'; omega)
  have hv : val64 (dadd x y) = .fin false 0 b64.qmin := by
    rw [val64_dadd, vx, vy]
    have e1 : exactSum (.fin s c q) (.fin t d r) = .fin (sumSign s t (sumUnits s c q t d r (min q r))) (sumUnits s c q t d r (min q r)).natAbs (min q r) := rfl
    obtain ⟨sg, N, E, h1, h2, h3⟩ := sum_units fx fy
    rw [hsum] at h3
    have hN : inUnits N E b64.qmin = 0 := by have := own_signed_abs sg (inUnits N E b64.qmin); rw [h3] at this; simpa using this.symm
    have hN0 : N = 0 := by
      unfold inUnits at hN
      rcases Nat.mul_eq_zero.mp hN with h | h
      · exact h
      · have := Nat.two_pow_pos (E - b64.qmin).toNat; omega
    rw [e1] at h1
    injection h1 with g1 g2 g3
    have hz0 : sumUnits s c q t d r (min q r) = 0 := by rw [hN0] at g2; omega
    rw [e1, hz0]
    have : sumSign s t 0 = false := by unfold sumSign; rw [if_pos rfl]; exact hst
    rw [this]; rfl
  exact val64_inj (by rw [hv]; exact Datum.noConfusion) (by rw [hv, val64_zero])
end OwnZero
theorem own_d1_0 : decode method_2_code 0 = .ok (.lload_n 0, 1) := by decide +kernel
theorem own_d1_1 : decode method_2_code 1 = .ok (.bipush 8, 2) := by decide +kernel
theorem own_d1_3 : decode method_2_code 3 = .ok (.iload_n 2, 1) := by decide +kernel
theorem own_d1_4 : decode method_2_code 4 = .ok (.imul, 1) := by decide +kernel
theorem own_d1_5 : decode method_2_code 5 = .ok (.lshr, 1) := by decide +kernel
theorem own_d1_6 : decode method_2_code 6 = .ok (.l2i, 1) := by decide +kernel
theorem own_d1_7 : decode method_2_code 7 = .ok (.i2b, 1) := by decide +kernel
theorem own_d1_8 : decode method_2_code 8 = .ok (.ireturn, 1) := by decide +kernel
theorem own_pn_com_example_pintrinsic_pintrinsic_MatricesProductPinLaw : plainName "com/example/pintrinsic/pintrinsic/MatricesProductPinLaw" = true := by first | (simp [plainName, overriddenIn]; done) | decide +kernel
theorem own_ef_a0 (m : MethodId) (w : Int64) : entryFrame m #[(.long w), (.int (0 : Int32))] 3 = mkF m 0 #[.val (.long w), .second, .val (.int (0 : Int32))] [] := by first | (simp [entryFrame, mkF, argsToLocals, Value.category]; done) | rfl
set_option maxRecDepth 65536 in
set_option maxHeartbeats 40000000 in
theorem own_rm_a0 (l : Launch) (Z : State) (a0 : Array Value) (hw : ∀ d ∈ tables_1, d.before a0 Z = true) (ws : List Jvm.Cond) (w : Int64) {a0_v5 : Int64} {a0_v6 : Int32} {a0_v7 : Int32} (h0 : Heap) (n0 : Nat) (Z0 : n0 ≤ h0.size)  (a0_hv5 : w >>> ((0 : Int32) &&& 63).toInt64 = a0_v5) (a0_hv6 : Int64.toInt32 a0_v5 = a0_v6) (a0_hv7 : (Int32.toInt8 a0_v6).toInt32 = a0_v7) :
    MetFree l (⟨"com/example/pintrinsic/pintrinsic/MatricesProductPinLaw", "at", "(JI)I"⟩ : MethodName) (head1 (Jvm.Cond.code (⟨"com/example/pintrinsic/pintrinsic/MatricesProductPinLaw", "at", "(JI)I"⟩ : MethodName) method_2_code 3 (some .int) :: ws) ({ frames := 0, cells := 0, slots := 0, locals := 0 } : Room)) (fun a U => a = #[(.long w), (.int (0 : Int32))] ∧ Z.Warmed39 U.vm ∧ U.heap = h0) (fun _ _ _ _ _ => True) (fun _ U o U' => ∃ v L, o = .returned v ∧ own_QP (some (.int a0_v7)) h0 n0 v U'.heap L ∧ FrameEnd U o U' L ({ frames := 0, cells := 0, slots := 0, locals := 0 } : Room).cells ({ frames := 0, cells := 0, slots := 0, locals := 0 } : Room).slots) := by
  refine MetFree.of_bodySF (plainFor_of_name own_pn_com_example_pintrinsic_pintrinsic_MatricesProductPinLaw) hisR ?_
  intro p e s m args below meth c s₁ Bd hml0 hP hK
  obtain ⟨rfl, hZ, hh⟩ := hP
  have hx := Bd.exec
  have hby := Bd.bytes
  have hml : c.maxLocals = 3 := hml0
  have hown : s.vm.findClass "com/example/pintrinsic/pintrinsic/MatricesProductPinLaw" = some m.cls := findClass_of_methodNamed Bd.named
  have hnm := (name_of_methodNamed Bd.named Bd.method).1
  have X0 : Stand p l e ({ frames := 0, cells := 0, slots := 0, locals := 0 } : Room) s m #[(.long w), (.int (0 : Int32))] below meth c s₁ [] 0 0 := Stand.of_body Bd
  have e0 : s₁.heap = h0 := by rw [← hh, Bd.state]; rfl
  have N0 := Fr.nil n0
  have pre0 : ∀ t, Steps p.tables e below (s₁.setTop (mkF m 0 #[.val (.long w), .second, .val (.int (0 : Int32))] [])) t → Steps p.tables e below (s₁.setTop (entryFrame m #[(.long w), (.int (0 : Int32))] 3)) t := fun t k => castTop (own_ef_a0 m w) k
  obtain ⟨fs, hr, hrun, hended, hW, hsame⟩ := X0.leave (v := some (.int a0_v7)) (fun h => by rw [Bd.returns] at h; cases h)
  refine ⟨_, _, pre0 _ ?_, hrun, hended, _, _, rfl, ?_, ⟨_, rfl⟩, hW, hsame.mono (by decide) (by decide)⟩
  · refine own_s_lloadN X0.here hx (hb hby own_d1_0) (pc' := 1) rfl rfl ?_
    refine own_s_bipush X0.here hx (hb hby own_d1_1) (pc' := 3) rfl (v := (8 : Int32)) (by decide) ?_
    refine own_s_iloadN X0.here hx (hb hby own_d1_3) (pc' := 4) rfl rfl ?_
    refine own_s_imul X0.here hx (hb hby own_d1_4) (pc' := 5) rfl (v := (0 : Int32)) (by decide) ?_
    refine own_s_lshr X0.here hx (hb hby own_d1_5) (pc' := 6) rfl (v := a0_v5) a0_hv5 ?_
    refine own_s_l2i X0.here hx (hb hby own_d1_6) (pc' := 7) rfl (v := a0_v6) a0_hv6 ?_
    refine own_s_i2b X0.here hx (hb hby own_d1_7) (pc' := 8) rfl (v := a0_v7) a0_hv7 ?_
    exact own_retI X0 hx Bd.returns (hb hby own_d1_8) hr
  · show own_QP (some (.int a0_v7)) h0 n0 _ s₁.heap _
    rw [e0]
    exact ⟨rfl, N0, rfl⟩
theorem own_ef_a1 (m : MethodId) (w : Int64) : entryFrame m #[(.long w), (.int (1 : Int32))] 3 = mkF m 0 #[.val (.long w), .second, .val (.int (1 : Int32))] [] := by first | (simp [entryFrame, mkF, argsToLocals, Value.category]; done) | rfl
set_option maxRecDepth 65536 in
set_option maxHeartbeats 40000000 in
theorem own_rm_a1 (l : Launch) (Z : State) (a0 : Array Value) (hw : ∀ d ∈ tables_1, d.before a0 Z = true) (ws : List Jvm.Cond) (w : Int64) {a1_v5 : Int64} {a1_v6 : Int32} {a1_v7 : Int32} (h0 : Heap) (n0 : Nat) (Z0 : n0 ≤ h0.size)  (a1_hv5 : w >>> ((8 : Int32) &&& 63).toInt64 = a1_v5) (a1_hv6 : Int64.toInt32 a1_v5 = a1_v6) (a1_hv7 : (Int32.toInt8 a1_v6).toInt32 = a1_v7) :
    MetFree l (⟨"com/example/pintrinsic/pintrinsic/MatricesProductPinLaw", "at", "(JI)I"⟩ : MethodName) (head1 (Jvm.Cond.code (⟨"com/example/pintrinsic/pintrinsic/MatricesProductPinLaw", "at", "(JI)I"⟩ : MethodName) method_2_code 3 (some .int) :: ws) ({ frames := 0, cells := 0, slots := 0, locals := 0 } : Room)) (fun a U => a = #[(.long w), (.int (1 : Int32))] ∧ Z.Warmed39 U.vm ∧ U.heap = h0) (fun _ _ _ _ _ => True) (fun _ U o U' => ∃ v L, o = .returned v ∧ own_QP (some (.int a1_v7)) h0 n0 v U'.heap L ∧ FrameEnd U o U' L ({ frames := 0, cells := 0, slots := 0, locals := 0 } : Room).cells ({ frames := 0, cells := 0, slots := 0, locals := 0 } : Room).slots) := by
  refine MetFree.of_bodySF (plainFor_of_name own_pn_com_example_pintrinsic_pintrinsic_MatricesProductPinLaw) hisR ?_
  intro p e s m args below meth c s₁ Bd hml0 hP hK
  obtain ⟨rfl, hZ, hh⟩ := hP
  have hx := Bd.exec
  have hby := Bd.bytes
  have hml : c.maxLocals = 3 := hml0
  have hown : s.vm.findClass "com/example/pintrinsic/pintrinsic/MatricesProductPinLaw" = some m.cls := findClass_of_methodNamed Bd.named
  have hnm := (name_of_methodNamed Bd.named Bd.method).1
  have X0 : Stand p l e ({ frames := 0, cells := 0, slots := 0, locals := 0 } : Room) s m #[(.long w), (.int (1 : Int32))] below meth c s₁ [] 0 0 := Stand.of_body Bd
  have e0 : s₁.heap = h0 := by rw [← hh, Bd.state]; rfl
  have N0 := Fr.nil n0
  have pre0 : ∀ t, Steps p.tables e below (s₁.setTop (mkF m 0 #[.val (.long w), .second, .val (.int (1 : Int32))] [])) t → Steps p.tables e below (s₁.setTop (entryFrame m #[(.long w), (.int (1 : Int32))] 3)) t := fun t k => castTop (own_ef_a1 m w) k
  obtain ⟨fs, hr, hrun, hended, hW, hsame⟩ := X0.leave (v := some (.int a1_v7)) (fun h => by rw [Bd.returns] at h; cases h)
  refine ⟨_, _, pre0 _ ?_, hrun, hended, _, _, rfl, ?_, ⟨_, rfl⟩, hW, hsame.mono (by decide) (by decide)⟩
  · refine own_s_lloadN X0.here hx (hb hby own_d1_0) (pc' := 1) rfl rfl ?_
    refine own_s_bipush X0.here hx (hb hby own_d1_1) (pc' := 3) rfl (v := (8 : Int32)) (by decide) ?_
    refine own_s_iloadN X0.here hx (hb hby own_d1_3) (pc' := 4) rfl rfl ?_
    refine own_s_imul X0.here hx (hb hby own_d1_4) (pc' := 5) rfl (v := (8 : Int32)) (by decide) ?_
    refine own_s_lshr X0.here hx (hb hby own_d1_5) (pc' := 6) rfl (v := a1_v5) a1_hv5 ?_
    refine own_s_l2i X0.here hx (hb hby own_d1_6) (pc' := 7) rfl (v := a1_v6) a1_hv6 ?_
    refine own_s_i2b X0.here hx (hb hby own_d1_7) (pc' := 8) rfl (v := a1_v7) a1_hv7 ?_
    exact own_retI X0 hx Bd.returns (hb hby own_d1_8) hr
  · show own_QP (some (.int a1_v7)) h0 n0 _ s₁.heap _
    rw [e0]
    exact ⟨rfl, N0, rfl⟩
theorem own_ef_a2 (m : MethodId) (w : Int64) : entryFrame m #[(.long w), (.int (2 : Int32))] 3 = mkF m 0 #[.val (.long w), .second, .val (.int (2 : Int32))] [] := by first | (simp [entryFrame, mkF, argsToLocals, Value.category]; done) | rfl
set_option maxRecDepth 65536 in
set_option maxHeartbeats 40000000 in
theorem own_rm_a2 (l : Launch) (Z : State) (a0 : Array Value) (hw : ∀ d ∈ tables_1, d.before a0 Z = true) (ws : List Jvm.Cond) (w : Int64) {a2_v5 : Int64} {a2_v6 : Int32} {a2_v7 : Int32} (h0 : Heap) (n0 : Nat) (Z0 : n0 ≤ h0.size)  (a2_hv5 : w >>> ((16 : Int32) &&& 63).toInt64 = a2_v5) (a2_hv6 : Int64.toInt32 a2_v5 = a2_v6) (a2_hv7 : (Int32.toInt8 a2_v6).toInt32 = a2_v7) :
    MetFree l (⟨"com/example/pintrinsic/pintrinsic/MatricesProductPinLaw", "at", "(JI)I"⟩ : MethodName) (head1 (Jvm.Cond.code (⟨"com/example/pintrinsic/pintrinsic/MatricesProductPinLaw", "at", "(JI)I"⟩ : MethodName) method_2_code 3 (some .int) :: ws) ({ frames := 0, cells := 0, slots := 0, locals := 0 } : Room)) (fun a U => a = #[(.long w), (.int (2 : Int32))] ∧ Z.Warmed39 U.vm ∧ U.heap = h0) (fun _ _ _ _ _ => True) (fun _ U o U' => ∃ v L, o = .returned v ∧ own_QP (some (.int a2_v7)) h0 n0 v U'.heap L ∧ FrameEnd U o U' L ({ frames := 0, cells := 0, slots := 0, locals := 0 } : Room).cells ({ frames := 0, cells := 0, slots := 0, locals := 0 } : Room).slots) := by
  refine MetFree.of_bodySF (plainFor_of_name own_pn_com_example_pintrinsic_pintrinsic_MatricesProductPinLaw) hisR ?_
  intro p e s m args below meth c s₁ Bd hml0 hP hK
  obtain ⟨rfl, hZ, hh⟩ := hP
  have hx := Bd.exec
  have hby := Bd.bytes
  have hml : c.maxLocals = 3 := hml0
  have hown : s.vm.findClass "com/example/pintrinsic/pintrinsic/MatricesProductPinLaw" = some m.cls := findClass_of_methodNamed Bd.named
  have hnm := (name_of_methodNamed Bd.named Bd.method).1
  have X0 : Stand p l e ({ frames := 0, cells := 0, slots := 0, locals := 0 } : Room) s m #[(.long w), (.int (2 : Int32))] below meth c s₁ [] 0 0 := Stand.of_body Bd
  have e0 : s₁.heap = h0 := by rw [← hh, Bd.state]; rfl
  have N0 := Fr.nil n0
  have pre0 : ∀ t, Steps p.tables e below (s₁.setTop (mkF m 0 #[.val (.long w), .second, .val (.int (2 : Int32))] [])) t → Steps p.tables e below (s₁.setTop (entryFrame m #[(.long w), (.int (2 : Int32))] 3)) t := fun t k => castTop (own_ef_a2 m w) k
  obtain ⟨fs, hr, hrun, hended, hW, hsame⟩ := X0.leave (v := some (.int a2_v7)) (fun h => by rw [Bd.returns] at h; cases h)
  refine ⟨_, _, pre0 _ ?_, hrun, hended, _, _, rfl, ?_, ⟨_, rfl⟩, hW, hsame.mono (by decide) (by decide)⟩
  · refine own_s_lloadN X0.here hx (hb hby own_d1_0) (pc' := 1) rfl rfl ?_
    refine own_s_bipush X0.here hx (hb hby own_d1_1) (pc' := 3) rfl (v := (8 : Int32)) (by decide) ?_
    refine own_s_iloadN X0.here hx (hb hby own_d1_3) (pc' := 4) rfl rfl ?_
    refine own_s_imul X0.here hx (hb hby own_d1_4) (pc' := 5) rfl (v := (16 : Int32)) (by decide) ?_
    refine own_s_lshr X0.here hx (hb hby own_d1_5) (pc' := 6) rfl (v := a2_v5) a2_hv5 ?_
    refine own_s_l2i X0.here hx (hb hby own_d1_6) (pc' := 7) rfl (v := a2_v6) a2_hv6 ?_
    refine own_s_i2b X0.here hx (hb hby own_d1_7) (pc' := 8) rfl (v := a2_v7) a2_hv7 ?_
    exact own_retI X0 hx Bd.returns (hb hby own_d1_8) hr
  · show own_QP (some (.int a2_v7)) h0 n0 _ s₁.heap _
    rw [e0]
    exact ⟨rfl, N0, rfl⟩
theorem own_ef_a3 (m : MethodId) (w : Int64) : entryFrame m #[(.long w), (.int (3 : Int32))] 3 = mkF m 0 #[.val (.long w), .second, .val (.int (3 : Int32))] [] := by first | (simp [entryFrame, mkF, argsToLocals, Value.category]; done) | rfl
set_option maxRecDepth 65536 in
set_option maxHeartbeats 40000000 in
theorem own_rm_a3 (l : Launch) (Z : State) (a0 : Array Value) (hw : ∀ d ∈ tables_1, d.before a0 Z = true) (ws : List Jvm.Cond) (w : Int64) {a3_v5 : Int64} {a3_v6 : Int32} {a3_v7 : Int32} (h0 : Heap) (n0 : Nat) (Z0 : n0 ≤ h0.size)  (a3_hv5 : w >>> ((24 : Int32) &&& 63).toInt64 = a3_v5) (a3_hv6 : Int64.toInt32 a3_v5 = a3_v6) (a3_hv7 : (Int32.toInt8 a3_v6).toInt32 = a3_v7) :
    MetFree l (⟨"com/example/pintrinsic/pintrinsic/MatricesProductPinLaw", "at", "(JI)I"⟩ : MethodName) (head1 (Jvm.Cond.code (⟨"com/example/pintrinsic/pintrinsic/MatricesProductPinLaw", "at", "(JI)I"⟩ : MethodName) method_2_code 3 (some .int) :: ws) ({ frames := 0, cells := 0, slots := 0, locals := 0 } : Room)) (fun a U => a = #[(.long w), (.int (3 : Int32))] ∧ Z.Warmed39 U.vm ∧ U.heap = h0) (fun _ _ _ _ _ => True) (fun _ U o U' => ∃ v L, o = .returned v ∧ own_QP (some (.int a3_v7)) h0 n0 v U'.heap L ∧ FrameEnd U o U' L ({ frames := 0, cells := 0, slots := 0, locals := 0 } : Room).cells ({ frames := 0, cells := 0, slots := 0, locals := 0 } : Room).slots) := by
  refine MetFree.of_bodySF (plainFor_of_name own_pn_com_example_pintrinsic_pintrinsic_MatricesProductPinLaw) hisR ?_
  intro p e s m args below meth c s₁ Bd hml0 hP hK
  obtain ⟨rfl, hZ, hh⟩ := hP
  have hx := Bd.exec
  have hby := Bd.bytes
  have hml : c.maxLocals = 3 := hml0
  have hown : s.vm.findClass "com/example/pintrinsic/pintrinsic/MatricesProductPinLaw" = some m.cls := findClass_of_methodNamed Bd.named
  have hnm := (name_of_methodNamed Bd.named Bd.method).1
  have X0 : Stand p l e ({ frames := 0, cells := 0, slots := 0, locals := 0 } : Room) s m #[(.long w), (.int (3 : Int32))] below meth c s₁ [] 0 0 := Stand.of_body Bd
  have e0 : s₁.heap = h0 := by rw [← hh, Bd.state]; rfl
  have N0 := Fr.nil n0
  have pre0 : ∀ t, Steps p.tables e below (s₁.setTop (mkF m 0 #[.val (.long w), .second, .val (.int (3 : Int32))] [])) t → Steps p.tables e below (s₁.setTop (entryFrame m #[(.long w), (.int (3 : Int32))] 3)) t := fun t k => castTop (own_ef_a3 m w) k
  obtain ⟨fs, hr, hrun, hended, hW, hsame⟩ := X0.leave (v := some (.int a3_v7)) (fun h => by rw [Bd.returns] at h; cases h)
  refine ⟨_, _, pre0 _ ?_, hrun, hended, _, _, rfl, ?_, ⟨_, rfl⟩, hW, hsame.mono (by decide) (by decide)⟩
  · refine own_s_lloadN X0.here hx (hb hby own_d1_0) (pc' := 1) rfl rfl ?_
    refine own_s_bipush X0.here hx (hb hby own_d1_1) (pc' := 3) rfl (v := (8 : Int32)) (by decide) ?_
    refine own_s_iloadN X0.here hx (hb hby own_d1_3) (pc' := 4) rfl rfl ?_
    refine own_s_imul X0.here hx (hb hby own_d1_4) (pc' := 5) rfl (v := (24 : Int32)) (by decide) ?_
    refine own_s_lshr X0.here hx (hb hby own_d1_5) (pc' := 6) rfl (v := a3_v5) a3_hv5 ?_
    refine own_s_l2i X0.here hx (hb hby own_d1_6) (pc' := 7) rfl (v := a3_v6) a3_hv6 ?_
    refine own_s_i2b X0.here hx (hb hby own_d1_7) (pc' := 8) rfl (v := a3_v7) a3_hv7 ?_
    exact own_retI X0 hx Bd.returns (hb hby own_d1_8) hr
  · show own_QP (some (.int a3_v7)) h0 n0 _ s₁.heap _
    rw [e0]
    exact ⟨rfl, N0, rfl⟩
theorem own_ef_a4 (m : MethodId) (w : Int64) : entryFrame m #[(.long w), (.int (4 : Int32))] 3 = mkF m 0 #[.val (.long w), .second, .val (.int (4 : Int32))] [] := by first | (simp [entryFrame, mkF, argsToLocals, Value.category]; done) | rfl
set_option maxRecDepth 65536 in
set_option maxHeartbeats 40000000 in
theorem own_rm_a4 (l : Launch) (Z : State) (a0 : Array Value) (hw : ∀ d ∈ tables_1, d.before a0 Z = true) (ws : List Jvm.Cond) (w : Int64) {a4_v5 : Int64} {a4_v6 : Int32} {a4_v7 : Int32} (h0 : Heap) (n0 : Nat) (Z0 : n0 ≤ h0.size)  (a4_hv5 : w >>> ((32 : Int32) &&& 63).toInt64 = a4_v5) (a4_hv6 : Int64.toInt32 a4_v5 = a4_v6) (a4_hv7 : (Int32.toInt8 a4_v6).toInt32 = a4_v7) :
    MetFree l (⟨"com/example/pintrinsic/pintrinsic/MatricesProductPinLaw", "at", "(JI)I"⟩ : MethodName) (head1 (Jvm.Cond.code (⟨"com/example/pintrinsic/pintrinsic/MatricesProductPinLaw", "at", "(JI)I"⟩ : MethodName) method_2_code 3 (some .int) :: ws) ({ frames := 0, cells := 0, slots := 0, locals := 0 } : Room)) (fun a U => a = #[(.long w), (.int (4 : Int32))] ∧ Z.Warmed39 U.vm ∧ U.heap = h0) (fun _ _ _ _ _ => True) (fun _ U o U' => ∃ v L, o = .returned v ∧ own_QP (some (.int a4_v7)) h0 n0 v U'.heap L ∧ FrameEnd U o U' L ({ frames := 0, cells := 0, slots := 0, locals := 0 } : Room).cells ({ frames := 0, cells := 0, slots := 0, locals := 0 } : Room).slots) := by
  refine MetFree.of_bodySF (plainFor_of_name own_pn_com_example_pintrinsic_pintrinsic_MatricesProductPinLaw) hisR ?_
  intro p e s m args below meth c s₁ Bd hml0 hP hK
  obtain ⟨rfl, hZ, hh⟩ := hP
  have hx := Bd.exec
  have hby := Bd.bytes
  have hml : c.maxLocals = 3 := hml0
  have hown : s.vm.findClass "com/example/pintrinsic/pintrinsic/MatricesProductPinLaw" = some m.cls := findClass_of_methodNamed Bd.named
  have hnm := (name_of_methodNamed Bd.named Bd.method).1
  have X0 : Stand p l e ({ frames := 0, cells := 0, slots := 0, locals := 0 } : Room) s m #[(.long w), (.int (4 : Int32))] below meth c s₁ [] 0 0 := Stand.of_body Bd
  have e0 : s₁.heap = h0 := by rw [← hh, Bd.state]; rfl
  have N0 := Fr.nil n0
  have pre0 : ∀ t, Steps p.tables e below (s₁.setTop (mkF m 0 #[.val (.long w), .second, .val (.int (4 : Int32))] [])) t → Steps p.tables e below (s₁.setTop (entryFrame m #[(.long w), (.int (4 : Int32))] 3)) t := fun t k => castTop (own_ef_a4 m w) k
  obtain ⟨fs, hr, hrun, hended, hW, hsame⟩ := X0.leave (v := some (.int a4_v7)) (fun h => by rw [Bd.returns] at h; cases h)
  refine ⟨_, _, pre0 _ ?_, hrun, hended, _, _, rfl, ?_, ⟨_, rfl⟩, hW, hsame.mono (by decide) (by decide)⟩
  · refine own_s_lloadN X0.here hx (hb hby own_d1_0) (pc' := 1) rfl rfl ?_
    refine own_s_bipush X0.here hx (hb hby own_d1_1) (pc' := 3) rfl (v := (8 : Int32)) (by decide) ?_
    refine own_s_iloadN X0.here hx (hb hby own_d1_3) (pc' := 4) rfl rfl ?_
    refine own_s_imul X0.here hx (hb hby own_d1_4) (pc' := 5) rfl (v := (32 : Int32)) (by decide) ?_
    refine own_s_lshr X0.here hx (hb hby own_d1_5) (pc' := 6) rfl (v := a4_v5) a4_hv5 ?_
    refine own_s_l2i X0.here hx (hb hby own_d1_6) (pc' := 7) rfl (v := a4_v6) a4_hv6 ?_
    refine own_s_i2b X0.here hx (hb hby own_d1_7) (pc' := 8) rfl (v := a4_v7) a4_hv7 ?_
    exact own_retI X0 hx Bd.returns (hb hby own_d1_8) hr
  · show own_QP (some (.int a4_v7)) h0 n0 _ s₁.heap _
    rw [e0]
    exact ⟨rfl, N0, rfl⟩
theorem own_ef_a5 (m : MethodId) (w : Int64) : entryFrame m #[(.long w), (.int (5 : Int32))] 3 = mkF m 0 #[.val (.long w), .second, .val (.int (5 : Int32))] [] := by first | (simp [entryFrame, mkF, argsToLocals, Value.category]; done) | rfl
set_option maxRecDepth 65536 in
set_option maxHeartbeats 40000000 in
theorem own_rm_a5 (l : Launch) (Z : State) (a0 : Array Value) (hw : ∀ d ∈ tables_1, d.before a0 Z = true) (ws : List Jvm.Cond) (w : Int64) {a5_v5 : Int64} {a5_v6 : Int32} {a5_v7 : Int32} (h0 : Heap) (n0 : Nat) (Z0 : n0 ≤ h0.size)  (a5_hv5 : w >>> ((40 : Int32) &&& 63).toInt64 = a5_v5) (a5_hv6 : Int64.toInt32 a5_v5 = a5_v6) (a5_hv7 : (Int32.toInt8 a5_v6).toInt32 = a5_v7) :
    MetFree l (⟨"com/example/pintrinsic/pintrinsic/MatricesProductPinLaw", "at", "(JI)I"⟩ : MethodName) (head1 (Jvm.Cond.code (⟨"com/example/pintrinsic/pintrinsic/MatricesProductPinLaw", "at", "(JI)I"⟩ : MethodName) method_2_code 3 (some .int) :: ws) ({ frames := 0, cells := 0, slots := 0, locals := 0 } : Room)) (fun a U => a = #[(.long w), (.int (5 : Int32))] ∧ Z.Warmed39 U.vm ∧ U.heap = h0) (fun _ _ _ _ _ => True) (fun _ U o U' => ∃ v L, o = .returned v ∧ own_QP (some (.int a5_v7)) h0 n0 v U'.heap L ∧ FrameEnd U o U' L ({ frames := 0, cells := 0, slots := 0, locals := 0 } : Room).cells ({ frames := 0, cells := 0, slots := 0, locals := 0 } : Room).slots) := by
  refine MetFree.of_bodySF (plainFor_of_name own_pn_com_example_pintrinsic_pintrinsic_MatricesProductPinLaw) hisR ?_
  intro p e s m args below meth c s₁ Bd hml0 hP hK
  obtain ⟨rfl, hZ, hh⟩ := hP
  have hx := Bd.exec
  have hby := Bd.bytes
  have hml : c.maxLocals = 3 := hml0
  have hown : s.vm.findClass "com/example/pintrinsic/pintrinsic/MatricesProductPinLaw" = some m.cls := findClass_of_methodNamed Bd.named
  have hnm := (name_of_methodNamed Bd.named Bd.method).1
  have X0 : Stand p l e ({ frames := 0, cells := 0, slots := 0, locals := 0 } : Room) s m #[(.long w), (.int (5 : Int32))] below meth c s₁ [] 0 0 := Stand.of_body Bd
  have e0 : s₁.heap = h0 := by rw [← hh, Bd.state]; rfl
  have N0 := Fr.nil n0
  have pre0 : ∀ t, Steps p.tables e below (s₁.setTop (mkF m 0 #[.val (.long w), .second, .val (.int (5 : Int32))] [])) t → Steps p.tables e below (s₁.setTop (entryFrame m #[(.long w), (.int (5 : Int32))] 3)) t := fun t k => castTop (own_ef_a5 m w) k
  obtain ⟨fs, hr, hrun, hended, hW, hsame⟩ := X0.leave (v := some (.int a5_v7)) (fun h => by rw [Bd.returns] at h; cases h)
  refine ⟨_, _, pre0 _ ?_, hrun, hended, _, _, rfl, ?_, ⟨_, rfl⟩, hW, hsame.mono (by decide) (by decide)⟩
  · refine own_s_lloadN X0.here hx (hb hby own_d1_0) (pc' := 1) rfl rfl ?_
    refine own_s_bipush X0.here hx (hb hby own_d1_1) (pc' := 3) rfl (v := (8 : Int32)) (by decide) ?_
    refine own_s_iloadN X0.here hx (hb hby own_d1_3) (pc' := 4) rfl rfl ?_
    refine own_s_imul X0.here hx (hb hby own_d1_4) (pc' := 5) rfl (v := (40 : Int32)) (by decide) ?_
    refine own_s_lshr X0.here hx (hb hby own_d1_5) (pc' := 6) rfl (v := a5_v5) a5_hv5 ?_
    refine own_s_l2i X0.here hx (hb hby own_d1_6) (pc' := 7) rfl (v := a5_v6) a5_hv6 ?_
    refine own_s_i2b X0.here hx (hb hby own_d1_7) (pc' := 8) rfl (v := a5_v7) a5_hv7 ?_
    exact own_retI X0 hx Bd.returns (hb hby own_d1_8) hr
  · show own_QP (some (.int a5_v7)) h0 n0 _ s₁.heap _
    rw [e0]
    exact ⟨rfl, N0, rfl⟩
theorem own_d3_0 : decode method_3_code 0 = .ok (.dload_n 0, 1) := by decide +kernel
theorem own_d3_1 : decode method_3_code 1 = .ok (.iload_n 2, 1) := by decide +kernel
theorem own_d3_2 : decode method_3_code 2 = .ok (.i2d, 1) := by decide +kernel
theorem own_d3_3 : decode method_3_code 3 = .ok (.dcmp .l, 1) := by decide +kernel
theorem own_d3_4 : decode method_3_code 4 = .ok (.ifCond .eq 5, 3) := by decide +kernel
theorem own_d3_9 : decode method_3_code 9 = .ok (.iload_n 2, 1) := by decide +kernel
theorem own_d3_10 : decode method_3_code 10 = .ok (.ifCond .ne 17, 3) := by decide +kernel
theorem own_d3_27 : decode method_3_code 27 = .ok (.iconst 1, 1) := by decide +kernel
theorem own_d3_28 : decode method_3_code 28 = .ok (.ireturn, 1) := by decide +kernel
theorem own_d3_13 : decode method_3_code 13 = .ok (.dconst 1, 1) := by decide +kernel
theorem own_d3_14 : decode method_3_code 14 = .ok (.dload_n 0, 1) := by decide +kernel
theorem own_d3_15 : decode method_3_code 15 = .ok (.ddiv, 1) := by decide +kernel
theorem own_d3_16 : decode method_3_code 16 = .ok (.dconst 0, 1) := by decide +kernel
theorem own_d3_17 : decode method_3_code 17 = .ok (.dcmp .l, 1) := by decide +kernel
theorem own_d3_18 : decode method_3_code 18 = .ok (.ifCond .le 7, 3) := by decide +kernel
theorem own_d3_21 : decode method_3_code 21 = .ok (.iconst 1, 1) := by decide +kernel
theorem own_d3_22 : decode method_3_code 22 = .ok (.goto 4, 3) := by decide +kernel
theorem own_d3_26 : decode method_3_code 26 = .ok (.ireturn, 1) := by decide +kernel
theorem own_ef_s1 (m : MethodId) (d : UInt64) (v : Int32) : entryFrame m #[(.double d), (.int v)] 3 = mkF m 0 #[.val (.double d), .second, .val (.int v)] [] := by first | (simp [entryFrame, mkF, argsToLocals, Value.category]; done) | rfl
set_option maxRecDepth 65536 in
set_option maxHeartbeats 40000000 in
theorem own_rm_s1 (l : Launch) (Z : State) (a0 : Array Value) (hw : ∀ d ∈ tables_1, d.before a0 Z = true) (ws : List Jvm.Cond) (d : UInt64) (v : Int32)  (h0 : Heap) (n0 : Nat) (Z0 : n0 ≤ h0.size)  (s1_hc3 : Op.cmpValue (FP.dcmp d (FP.i2d v)) .l = (0 : Int32)) (s1_hb10 : ifCond.holds .ne v = true) :
    MetFree l (⟨"com/example/pintrinsic/pintrinsic/MatricesProductPinLaw", "same", "(DI)Z"⟩ : MethodName) (head1 (Jvm.Cond.code (⟨"com/example/pintrinsic/pintrinsic/MatricesProductPinLaw", "same", "(DI)Z"⟩ : MethodName) method_3_code 3 (some .boolean) :: ws) ({ frames := 0, cells := 0, slots := 0, locals := 0 } : Room)) (fun a U => a = #[(.double d), (.int v)] ∧ Z.Warmed39 U.vm ∧ U.heap = h0) (fun _ _ _ _ _ => True) (fun _ U o U' => ∃ v L, o = .returned v ∧ own_QP (some (.int (1 : Int32))) h0 n0 v U'.heap L ∧ FrameEnd U o U' L ({ frames := 0, cells := 0, slots := 0, locals := 0 } : Room).cells ({ frames := 0, cells := 0, slots := 0, locals := 0 } : Room).slots) := by
  refine MetFree.of_bodySF (plainFor_of_name own_pn_com_example_pintrinsic_pintrinsic_MatricesProductPinLaw) hisR ?_
  intro p e s m args below meth c s₁ Bd hml0 hP hK
  obtain ⟨rfl, hZ, hh⟩ := hP
  have hx := Bd.exec
  have hby := Bd.bytes
  have hml : c.maxLocals = 3 := hml0
  have hown : s.vm.findClass "com/example/pintrinsic/pintrinsic/MatricesProductPinLaw" = some m.cls := findClass_of_methodNamed Bd.named
  have hnm := (name_of_methodNamed Bd.named Bd.method).1
  have X0 : Stand p l e ({ frames := 0, cells := 0, slots := 0, locals := 0 } : Room) s m #[(.double d), (.int v)] below meth c s₁ [] 0 0 := Stand.of_body Bd
  have e0 : s₁.heap = h0 := by rw [← hh, Bd.state]; rfl
  have N0 := Fr.nil n0
  have pre0 : ∀ t, Steps p.tables e below (s₁.setTop (mkF m 0 #[.val (.double d), .second, .val (.int v)] [])) t → Steps p.tables e below (s₁.setTop (entryFrame m #[(.double d), (.int v)] 3)) t := fun t k => castTop (own_ef_s1 m d v) k
  obtain ⟨fs, hr, hrun, hended, hW, hsame⟩ := X0.leave (v := some (.int (1 : Int32))) (fun h => by rw [Bd.returns] at h; cases h)
  refine ⟨_, _, pre0 _ ?_, hrun, hended, _, _, rfl, ?_, ⟨_, rfl⟩, hW, hsame.mono (by decide) (by decide)⟩
  · refine own_s_dloadN X0.here hx (hb hby own_d3_0) (pc' := 1) rfl rfl ?_
    refine own_s_iloadN X0.here hx (hb hby own_d3_1) (pc' := 2) rfl rfl ?_
    refine own_s_i2d X0.here hx (hb hby own_d3_2) (pc' := 3) rfl (v := (FP.i2d v)) rfl ?_
    refine own_s_dcmp X0.here hx (hb hby own_d3_3) (pc' := 4) rfl (v := (0 : Int32)) s1_hc3 ?_
    refine own_s_ifYes X0.here hx (hb hby own_d3_4) (by decide) (pc' := 9) (by decide) (by decide) ?_
    refine own_s_iloadN X0.here hx (hb hby own_d3_9) (pc' := 10) rfl rfl ?_
    refine own_s_ifYes X0.here hx (hb hby own_d3_10) (by decide) (pc' := 27) (by decide) s1_hb10 ?_
    refine own_s_iconst X0.here hx (hb hby own_d3_27) (pc' := 28) rfl (v := (1 : Int32)) (by decide) ?_
    exact retN X0 hx (t := .boolean) Bd.returns (by simp) (hb hby own_d3_28) hr
  · show own_QP (some (.int (1 : Int32))) h0 n0 _ s₁.heap _
    rw [e0]
    exact ⟨rfl, N0, rfl⟩
theorem own_ef_s0 (m : MethodId) (d : UInt64) (v : Int32) : entryFrame m #[(.double d), (.int v)] 3 = mkF m 0 #[.val (.double d), .second, .val (.int v)] [] := by first | (simp [entryFrame, mkF, argsToLocals, Value.category]; done) | rfl
set_option maxRecDepth 65536 in
set_option maxHeartbeats 40000000 in
theorem own_rm_s0 (l : Launch) (Z : State) (a0 : Array Value) (hw : ∀ d ∈ tables_1, d.before a0 Z = true) (ws : List Jvm.Cond) (d : UInt64) (v : Int32) {s0_v15 : UInt64} (h0 : Heap) (n0 : Nat) (Z0 : n0 ≤ h0.size)  (s0_hc3 : Op.cmpValue (FP.dcmp d (FP.i2d v)) .l = (0 : Int32)) (s0_hb10 : ifCond.holds .ne v = false) (s0_hn15 : Jvm.Free.Fl.NoNaN64 (FP.ddiv 4607182418800017408 d)) (s0_hv15 : FP.ddiv 4607182418800017408 d = s0_v15) (s0_hc17 : Op.cmpValue (FP.dcmp s0_v15 0) .l = (1 : Int32)) :
    MetFree l (⟨"com/example/pintrinsic/pintrinsic/MatricesProductPinLaw", "same", "(DI)Z"⟩ : MethodName) (head1 (Jvm.Cond.code (⟨"com/example/pintrinsic/pintrinsic/MatricesProductPinLaw", "same", "(DI)Z"⟩ : MethodName) method_3_code 3 (some .boolean) :: ws) ({ frames := 0, cells := 0, slots := 0, locals := 0 } : Room)) (fun a U => a = #[(.double d), (.int v)] ∧ Z.Warmed39 U.vm ∧ U.heap = h0) (fun _ _ _ _ _ => True) (fun _ U o U' => ∃ v L, o = .returned v ∧ own_QP (some (.int (1 : Int32))) h0 n0 v U'.heap L ∧ FrameEnd U o U' L ({ frames := 0, cells := 0, slots := 0, locals := 0 } : Room).cells ({ frames := 0, cells := 0, slots := 0, locals := 0 } : Room).slots) := by
  refine MetFree.of_bodySF (plainFor_of_name own_pn_com_example_pintrinsic_pintrinsic_MatricesProductPinLaw) hisR ?_
  intro p e s m args below meth c s₁ Bd hml0 hP hK
  obtain ⟨rfl, hZ, hh⟩ := hP
  have hx := Bd.exec
  have hby := Bd.bytes
  have hml : c.maxLocals = 3 := hml0
  have hown : s.vm.findClass "com/example/pintrinsic/pintrinsic/MatricesProductPinLaw" = some m.cls := findClass_of_methodNamed Bd.named
  have hnm := (name_of_methodNamed Bd.named Bd.method).1
  have X0 : Stand p l e ({ frames := 0, cells := 0, slots := 0, locals := 0 } : Room) s m #[(.double d), (.int v)] below meth c s₁ [] 0 0 := Stand.of_body Bd
  have e0 : s₁.heap = h0 := by rw [← hh, Bd.state]; rfl
  have N0 := Fr.nil n0
  have pre0 : ∀ t, Steps p.tables e below (s₁.setTop (mkF m 0 #[.val (.double d), .second, .val (.int v)] [])) t → Steps p.tables e below (s₁.setTop (entryFrame m #[(.double d), (.int v)] 3)) t := fun t k => castTop (own_ef_s0 m d v) k
  obtain ⟨fs, hr, hrun, hended, hW, hsame⟩ := X0.leave (v := some (.int (1 : Int32))) (fun h => by rw [Bd.returns] at h; cases h)
  refine ⟨_, _, pre0 _ ?_, hrun, hended, _, _, rfl, ?_, ⟨_, rfl⟩, hW, hsame.mono (by decide) (by decide)⟩
  · refine own_s_dloadN X0.here hx (hb hby own_d3_0) (pc' := 1) rfl rfl ?_
    refine own_s_iloadN X0.here hx (hb hby own_d3_1) (pc' := 2) rfl rfl ?_
    refine own_s_i2d X0.here hx (hb hby own_d3_2) (pc' := 3) rfl (v := (FP.i2d v)) rfl ?_
    refine own_s_dcmp X0.here hx (hb hby own_d3_3) (pc' := 4) rfl (v := (0 : Int32)) s0_hc3 ?_
    refine own_s_ifYes X0.here hx (hb hby own_d3_4) (by decide) (pc' := 9) (by decide) (by decide) ?_
    refine own_s_iloadN X0.here hx (hb hby own_d3_9) (pc' := 10) rfl rfl ?_
    refine own_s_ifNo X0.here hx (hb hby own_d3_10) (pc' := 13) rfl s0_hb10 ?_
    refine own_s_dconst1 X0.here hx (hb hby own_d3_13) (pc' := 14) rfl  ?_
    refine own_s_dloadN X0.here hx (hb hby own_d3_14) (pc' := 15) rfl rfl ?_
    refine own_s_ddiv X0.here hx (hb hby own_d3_15) (pc' := 16) rfl s0_hn15 (v := s0_v15) s0_hv15 ?_
    refine own_s_dconst0 X0.here hx (hb hby own_d3_16) (pc' := 17) rfl  ?_
    refine own_s_dcmp X0.here hx (hb hby own_d3_17) (pc' := 18) rfl (v := (1 : Int32)) s0_hc17 ?_
    refine own_s_ifNo X0.here hx (hb hby own_d3_18) (pc' := 21) rfl (by decide) ?_
    refine own_s_iconst X0.here hx (hb hby own_d3_21) (pc' := 22) rfl (v := (1 : Int32)) (by decide) ?_
    refine own_s_goto X0.here hx (hb hby own_d3_22) (by decide) (pc' := 26) (by decide) ?_
    exact retN X0 hx (t := .boolean) Bd.returns (by simp) (hb hby own_d3_26) hr
  · show own_QP (some (.int (1 : Int32))) h0 n0 _ s₁.heap _
    rw [e0]
    exact ⟨rfl, N0, rfl⟩
set_option maxRecDepth 65536 in
set_option maxHeartbeats 40000000 in
theorem own_rm_same (l : Launch) (Z : State) (a0 : Array Value) (hw : ∀ d ∈ tables_1, d.before a0 Z = true) (ws : List Jvm.Cond) (d : UInt64) (v : Int32)  (h0 : Heap) (n0 : Nat) (Z0 : n0 ≤ h0.size)  (same_h1 : Op.cmpValue (FP.dcmp d (FP.i2d v)) .l = (0 : Int32)) (same_h2 : v = 0 → d = 0) :
    MetFree l (⟨"com/example/pintrinsic/pintrinsic/MatricesProductPinLaw", "same", "(DI)Z"⟩ : MethodName) (head1 (Jvm.Cond.code (⟨"com/example/pintrinsic/pintrinsic/MatricesProductPinLaw", "same", "(DI)Z"⟩ : MethodName) method_3_code 3 (some .boolean) :: ws) ({ frames := 0, cells := 0, slots := 0, locals := 0 } : Room)) (fun a U => a = #[(.double d), (.int v)] ∧ Z.Warmed39 U.vm ∧ U.heap = h0) (fun _ _ _ _ _ => True) (fun _ U o U' => ∃ v L, o = .returned v ∧ own_QP (some (.int (1 : Int32))) h0 n0 v U'.heap L ∧ FrameEnd U o U' L ({ frames := 0, cells := 0, slots := 0, locals := 0 } : Room).cells ({ frames := 0, cells := 0, slots := 0, locals := 0 } : Room).slots) := by
  by_cases h : v = 0
  · have hd := same_h2 h
    subst hd
    exact own_rm_s0 l Z a0 hw ws 0 v h0 n0 Z0 same_h1 (XT.i0_ne_f h) (by unfold Jvm.Free.Fl.NoNaN64; decide +kernel) rfl (by decide +kernel)
  · exact own_rm_s1 l Z a0 hw ws d v h0 n0 Z0 same_h1 (XT.i0_ne_t h)
theorem own_d2_0 : decode prog_10_method_2_code 0 = .ok (.aload_n 0, 1) := by decide +kernel
theorem own_d2_1 : decode prog_10_method_2_code 1 = .ok (.arraylength, 1) := by decide +kernel
theorem own_d2_2 : decode prog_10_method_2_code 2 = .ok (.iload_n 2, 1) := by decide +kernel
theorem own_d2_3 : decode prog_10_method_2_code 3 = .ok (.idiv, 1) := by decide +kernel
theorem own_d2_4 : decode prog_10_method_2_code 4 = .ok (.istore_n 3, 1) := by decide +kernel
theorem own_d2_5 : decode prog_10_method_2_code 5 = .ok (.aload_n 1, 1) := by decide +kernel
theorem own_d2_6 : decode prog_10_method_2_code 6 = .ok (.arraylength, 1) := by decide +kernel
theorem own_d2_7 : decode prog_10_method_2_code 7 = .ok (.iload_n 2, 1) := by decide +kernel
theorem own_d2_8 : decode prog_10_method_2_code 8 = .ok (.idiv, 1) := by decide +kernel
theorem own_d2_9 : decode prog_10_method_2_code 9 = .ok (.istore 4, 2) := by decide +kernel
theorem own_d2_11 : decode prog_10_method_2_code 11 = .ok (.iload_n 3, 1) := by decide +kernel
theorem own_d2_12 : decode prog_10_method_2_code 12 = .ok (.iload 4, 2) := by decide +kernel
theorem own_d2_14 : decode prog_10_method_2_code 14 = .ok (.imul, 1) := by decide +kernel
theorem own_d2_15 : decode prog_10_method_2_code 15 = .ok (.newarray .double, 2) := by decide +kernel
theorem own_d2_17 : decode prog_10_method_2_code 17 = .ok (.astore 5, 2) := by decide +kernel
theorem own_d2_19 : decode prog_10_method_2_code 19 = .ok (.iconst 0, 1) := by decide +kernel
theorem own_d2_20 : decode prog_10_method_2_code 20 = .ok (.istore 6, 2) := by decide +kernel
theorem own_d2_22 : decode prog_10_method_2_code 22 = .ok (.iload 6, 2) := by decide +kernel
theorem own_d2_24 : decode prog_10_method_2_code 24 = .ok (.iload_n 3, 1) := by decide +kernel
theorem own_d2_25 : decode prog_10_method_2_code 25 = .ok (.if_icmp .ge 81, 3) := by decide +kernel
theorem own_d2_28 : decode prog_10_method_2_code 28 = .ok (.iconst 0, 1) := by decide +kernel
theorem own_d2_29 : decode prog_10_method_2_code 29 = .ok (.istore 7, 2) := by decide +kernel
theorem own_d2_31 : decode prog_10_method_2_code 31 = .ok (.iload 7, 2) := by decide +kernel
theorem own_d2_33 : decode prog_10_method_2_code 33 = .ok (.iload 4, 2) := by decide +kernel
theorem own_d2_35 : decode prog_10_method_2_code 35 = .ok (.if_icmp .ge 65, 3) := by decide +kernel
theorem own_d2_38 : decode prog_10_method_2_code 38 = .ok (.dconst 0, 1) := by decide +kernel
theorem own_d2_39 : decode prog_10_method_2_code 39 = .ok (.dstore 8, 2) := by decide +kernel
theorem own_d2_41 : decode prog_10_method_2_code 41 = .ok (.iconst 0, 1) := by decide +kernel
theorem own_d2_42 : decode prog_10_method_2_code 42 = .ok (.istore 10, 2) := by decide +kernel
theorem own_d2_44 : decode prog_10_method_2_code 44 = .ok (.iload 10, 2) := by decide +kernel
theorem own_d2_46 : decode prog_10_method_2_code 46 = .ok (.iload_n 2, 1) := by decide +kernel
theorem own_d2_47 : decode prog_10_method_2_code 47 = .ok (.if_icmp .ge 34, 3) := by decide +kernel
theorem own_d2_50 : decode prog_10_method_2_code 50 = .ok (.dload 8, 2) := by decide +kernel
theorem own_d2_52 : decode prog_10_method_2_code 52 = .ok (.aload_n 0, 1) := by decide +kernel
theorem own_d2_53 : decode prog_10_method_2_code 53 = .ok (.iload 6, 2) := by decide +kernel
theorem own_d2_55 : decode prog_10_method_2_code 55 = .ok (.iload_n 2, 1) := by decide +kernel
theorem own_d2_56 : decode prog_10_method_2_code 56 = .ok (.imul, 1) := by decide +kernel
theorem own_d2_57 : decode prog_10_method_2_code 57 = .ok (.iload 10, 2) := by decide +kernel
theorem own_d2_59 : decode prog_10_method_2_code 59 = .ok (.iadd, 1) := by decide +kernel
theorem own_d2_60 : decode prog_10_method_2_code 60 = .ok (.daload, 1) := by decide +kernel
theorem own_d2_61 : decode prog_10_method_2_code 61 = .ok (.aload_n 1, 1) := by decide +kernel
theorem own_d2_62 : decode prog_10_method_2_code 62 = .ok (.iload 10, 2) := by decide +kernel
theorem own_d2_64 : decode prog_10_method_2_code 64 = .ok (.iload 4, 2) := by decide +kernel
theorem own_d2_66 : decode prog_10_method_2_code 66 = .ok (.imul, 1) := by decide +kernel
theorem own_d2_67 : decode prog_10_method_2_code 67 = .ok (.iload 7, 2) := by decide +kernel
theorem own_d2_69 : decode prog_10_method_2_code 69 = .ok (.iadd, 1) := by decide +kernel
theorem own_d2_70 : decode prog_10_method_2_code 70 = .ok (.daload, 1) := by decide +kernel
theorem own_d2_71 : decode prog_10_method_2_code 71 = .ok (.dmul, 1) := by decide +kernel
theorem own_d2_72 : decode prog_10_method_2_code 72 = .ok (.dadd, 1) := by decide +kernel
theorem own_d2_73 : decode prog_10_method_2_code 73 = .ok (.dstore 8, 2) := by decide +kernel
theorem own_d2_75 : decode prog_10_method_2_code 75 = .ok (.iinc 10 1, 3) := by decide +kernel
theorem own_d2_78 : decode prog_10_method_2_code 78 = .ok (.goto (-34), 3) := by decide +kernel
theorem own_d2_81 : decode prog_10_method_2_code 81 = .ok (.aload 5, 2) := by decide +kernel
theorem own_d2_83 : decode prog_10_method_2_code 83 = .ok (.iload 6, 2) := by decide +kernel
theorem own_d2_85 : decode prog_10_method_2_code 85 = .ok (.iload 4, 2) := by decide +kernel
theorem own_d2_87 : decode prog_10_method_2_code 87 = .ok (.imul, 1) := by decide +kernel
theorem own_d2_88 : decode prog_10_method_2_code 88 = .ok (.iload 7, 2) := by decide +kernel
theorem own_d2_90 : decode prog_10_method_2_code 90 = .ok (.iadd, 1) := by decide +kernel
theorem own_d2_91 : decode prog_10_method_2_code 91 = .ok (.dload 8, 2) := by decide +kernel
theorem own_d2_93 : decode prog_10_method_2_code 93 = .ok (.dastore, 1) := by decide +kernel
theorem own_d2_94 : decode prog_10_method_2_code 94 = .ok (.iinc 7 1, 3) := by decide +kernel
theorem own_d2_97 : decode prog_10_method_2_code 97 = .ok (.goto (-66), 3) := by decide +kernel
theorem own_d2_100 : decode prog_10_method_2_code 100 = .ok (.iinc 6 1, 3) := by decide +kernel
theorem own_d2_103 : decode prog_10_method_2_code 103 = .ok (.goto (-81), 3) := by decide +kernel
theorem own_d2_106 : decode prog_10_method_2_code 106 = .ok (.aload 5, 2) := by decide +kernel
theorem own_d2_108 : decode prog_10_method_2_code 108 = .ok (.areturn, 1) := by decide +kernel
theorem own_pn_com_example_pintrinsic_pintrinsic_Matrices : plainName "com/example/pintrinsic/pintrinsic/Matrices" = true := by first | (simp [plainName, overriddenIn]; done) | decide +kernel
theorem own_ef_c0 (m : MethodId) (qa : Addr) (qb : Addr) : entryFrame m #[(.ref qa), (.ref qb), (.int (2 : Int32))] 11 = mkF m 0 #[.val (.ref qa), .val (.ref qb), .val (.int (2 : Int32)), .unset, .unset, .unset, .unset, .unset, .unset, .unset, .unset] [] := by first | (simp [entryFrame, mkF, argsToLocals, Value.category]; done) | rfl
def own_Q_c0 (Z : State) (qa : Addr) (d0 : UInt64) (d1 : UInt64) (d2 : UInt64) (d3 : UInt64) (d4 : UInt64) (d5 : UInt64) (qb : Addr) (ee0 : UInt64) (ee1 : UInt64) (ee2 : UInt64) (ee3 : UInt64) (ee4 : UInt64) (ee5 : UInt64) (qak : ClassId) (qbk : ClassId) (c0_v71 : UInt64) (c0_v72 : UInt64) (c0_v71_2 : UInt64) (c0_v72_2 : UInt64) (c0_v71_3 : UInt64) (c0_v72_3 : UInt64) (c0_v71_4 : UInt64) (c0_v72_4 : UInt64) (c0_v71_5 : UInt64) (c0_v72_5 : UInt64) (c0_v71_6 : UInt64) (c0_v72_6 : UInt64) (c0_v71_7 : UInt64) (c0_v72_7 : UInt64) (c0_v71_8 : UInt64) (c0_v72_8 : UInt64) (c0_v71_9 : UInt64) (c0_v72_9 : UInt64) (c0_v71_10 : UInt64) (c0_v72_10 : UInt64) (c0_v71_11 : UInt64) (c0_v72_11 : UInt64) (c0_v71_12 : UInt64) (c0_v72_12 : UInt64) (c0_v71_13 : UInt64) (c0_v72_13 : UInt64) (c0_v71_14 : UInt64) (c0_v72_14 : UInt64) (c0_v71_15 : UInt64) (c0_v72_15 : UInt64) (c0_v71_16 : UInt64) (c0_v72_16 : UInt64) (c0_v71_17 : UInt64) (c0_v72_17 : UInt64) (c0_v71_18 : UInt64) (c0_v72_18 : UInt64) (h0 : Heap) (n0 : Nat) (v : Option Value) (h : Heap) (L : List Loc) : Prop := ∃ (bc01 : Addr) (kc01 : ClassId), v = some (.ref bc01) ∧ Fr n0 L ∧ Keep h0 h [] ∧ h0.size ≤ bc01 ∧ Arv Z h bc01 kc01 .double (9 : Int32) [(.double c0_v72_2), (.double c0_v72_4), (.double c0_v72_6), (.double c0_v72_8), (.double c0_v72_10), (.double c0_v72_12), (.double c0_v72_14), (.double c0_v72_16), (.double c0_v72_18)] (.double 0)
set_option maxRecDepth 65536 in
set_option maxHeartbeats 40000000 in
theorem own_rm_c0 (l : Launch) (Z : State) (a0 : Array Value) (hw : ∀ d ∈ tables_1, d.before a0 Z = true) (ws : List Jvm.Cond) (qa : Addr) (d0 : UInt64) (d1 : UInt64) (d2 : UInt64) (d3 : UInt64) (d4 : UInt64) (d5 : UInt64) (qb : Addr) (ee0 : UInt64) (ee1 : UInt64) (ee2 : UInt64) (ee3 : UInt64) (ee4 : UInt64) (ee5 : UInt64) {qak : ClassId} {qbk : ClassId} {c0_v71 : UInt64} {c0_v72 : UInt64} {c0_v71_2 : UInt64} {c0_v72_2 : UInt64} {c0_v71_3 : UInt64} {c0_v72_3 : UInt64} {c0_v71_4 : UInt64} {c0_v72_4 : UInt64} {c0_v71_5 : UInt64} {c0_v72_5 : UInt64} {c0_v71_6 : UInt64} {c0_v72_6 : UInt64} {c0_v71_7 : UInt64} {c0_v72_7 : UInt64} {c0_v71_8 : UInt64} {c0_v72_8 : UInt64} {c0_v71_9 : UInt64} {c0_v72_9 : UInt64} {c0_v71_10 : UInt64} {c0_v72_10 : UInt64} {c0_v71_11 : UInt64} {c0_v72_11 : UInt64} {c0_v71_12 : UInt64} {c0_v72_12 : UInt64} {c0_v71_13 : UInt64} {c0_v72_13 : UInt64} {c0_v71_14 : UInt64} {c0_v72_14 : UInt64} {c0_v71_15 : UInt64} {c0_v72_15 : UInt64} {c0_v71_16 : UInt64} {c0_v72_16 : UInt64} {c0_v71_17 : UInt64} {c0_v72_17 : UInt64} {c0_v71_18 : UInt64} {c0_v72_18 : UInt64} (h0 : Heap) (n0 : Nat) (Z0 : n0 ≤ h0.size) (V_qa : Arv Z h0 qa qak .double (6 : Int32) [(.double d0), (.double d1), (.double d2), (.double d3), (.double d4), (.double d5)] (.double 0)) (V_qb : Arv Z h0 qb qbk .double (6 : Int32) [(.double ee0), (.double ee1), (.double ee2), (.double ee3), (.double ee4), (.double ee5)] (.double 0)) (c0_hn71 : Jvm.Free.Fl.NoNaN64 (FP.dmul d0 ee0)) (c0_hv71 : FP.dmul d0 ee0 = c0_v71) (c0_hn72 : Jvm.Free.Fl.NoNaN64 (FP.dadd 0 c0_v71)) (c0_hv72 : FP.dadd 0 c0_v71 = c0_v72) (c0_hn71_2 : Jvm.Free.Fl.NoNaN64 (FP.dmul d1 ee3)) (c0_hv71_2 : FP.dmul d1 ee3 = c0_v71_2) (c0_hn72_2 : Jvm.Free.Fl.NoNaN64 (FP.dadd c0_v72 c0_v71_2)) (c0_hv72_2 : FP.dadd c0_v72 c0_v71_2 = c0_v72_2) (c0_hn71_3 : Jvm.Free.Fl.NoNaN64 (FP.dmul d0 ee1)) (c0_hv71_3 : FP.dmul d0 ee1 = c0_v71_3) (c0_hn72_3 : Jvm.Free.Fl.NoNaN64 (FP.dadd 0 c0_v71_3)) (c0_hv72_3 : FP.dadd 0 c0_v71_3 = c0_v72_3) (c0_hn71_4 : Jvm.Free.Fl.NoNaN64 (FP.dmul d1 ee4)) (c0_hv71_4 : FP.dmul d1 ee4 = c0_v71_4) (c0_hn72_4 : Jvm.Free.Fl.NoNaN64 (FP.dadd c0_v72_3 c0_v71_4)) (c0_hv72_4 : FP.dadd c0_v72_3 c0_v71_4 = c0_v72_4) (c0_hn71_5 : Jvm.Free.Fl.NoNaN64 (FP.dmul d0 ee2)) (c0_hv71_5 : FP.dmul d0 ee2 = c0_v71_5) (c0_hn72_5 : Jvm.Free.Fl.NoNaN64 (FP.dadd 0 c0_v71_5)) (c0_hv72_5 : FP.dadd 0 c0_v71_5 = c0_v72_5) (c0_hn71_6 : Jvm.Free.Fl.NoNaN64 (FP.dmul d1 ee5)) (c0_hv71_6 : FP.dmul d1 ee5 = c0_v71_6) (c0_hn72_6 : Jvm.Free.Fl.NoNaN64 (FP.dadd c0_v72_5 c0_v71_6)) (c0_hv72_6 : FP.dadd c0_v72_5 c0_v71_6 = c0_v72_6) (c0_hn71_7 : Jvm.Free.Fl.NoNaN64 (FP.dmul d2 ee0)) (c0_hv71_7 : FP.dmul d2 ee0 = c0_v71_7) (c0_hn72_7 : Jvm.Free.Fl.NoNaN64 (FP.dadd 0 c0_v71_7)) (c0_hv72_7 : FP.dadd 0 c0_v71_7 = c0_v72_7) (c0_hn71_8 : Jvm.Free.Fl.NoNaN64 (FP.dmul d3 ee3)) (c0_hv71_8 : FP.dmul d3 ee3 = c0_v71_8) (c0_hn72_8 : Jvm.Free.Fl.NoNaN64 (FP.dadd c0_v72_7 c0_v71_8)) (c0_hv72_8 : FP.dadd c0_v72_7 c0_v71_8 = c0_v72_8) (c0_hn71_9 : Jvm.Free.Fl.NoNaN64 (FP.dmul d2 ee1)) (c0_hv71_9 : FP.dmul d2 ee1 = c0_v71_9) (c0_hn72_9 : Jvm.Free.Fl.NoNaN64 (FP.dadd 0 c0_v71_9)) (c0_hv72_9 : FP.dadd 0 c0_v71_9 = c0_v72_9) (c0_hn71_10 : Jvm.Free.Fl.NoNaN64 (FP.dmul d3 ee4)) (c0_hv71_10 : FP.dmul d3 ee4 = c0_v71_10) (c0_hn72_10 : Jvm.Free.Fl.NoNaN64 (FP.dadd c0_v72_9 c0_v71_10)) (c0_hv72_10 : FP.dadd c0_v72_9 c0_v71_10 = c0_v72_10) (c0_hn71_11 : Jvm.Free.Fl.NoNaN64 (FP.dmul d2 ee2)) (c0_hv71_11 : FP.dmul d2 ee2 = c0_v71_11) (c0_hn72_11 : Jvm.Free.Fl.NoNaN64 (FP.dadd 0 c0_v71_11)) (c0_hv72_11 : FP.dadd 0 c0_v71_11 = c0_v72_11) (c0_hn71_12 : Jvm.Free.Fl.NoNaN64 (FP.dmul d3 ee5)) (c0_hv71_12 : FP.dmul d3 ee5 = c0_v71_12) (c0_hn72_12 : Jvm.Free.Fl.NoNaN64 (FP.dadd c0_v72_11 c0_v71_12)) (c0_hv72_12 : FP.dadd c0_v72_11 c0_v71_12 = c0_v72_12) (c0_hn71_13 : Jvm.Free.Fl.NoNaN64 (FP.dmul d4 ee0)) (c0_hv71_13 : FP.dmul d4 ee0 = c0_v71_13) (c0_hn72_13 : Jvm.Free.Fl.NoNaN64 (FP.dadd 0 c0_v71_13)) (c0_hv72_13 : FP.dadd 0 c0_v71_13 = c0_v72_13) (c0_hn71_14 : Jvm.Free.Fl.NoNaN64 (FP.dmul d5 ee3)) (c0_hv71_14 : FP.dmul d5 ee3 = c0_v71_14) (c0_hn72_14 : Jvm.Free.Fl.NoNaN64 (FP.dadd c0_v72_13 c0_v71_14)) (c0_hv72_14 : FP.dadd c0_v72_13 c0_v71_14 = c0_v72_14) (c0_hn71_15 : Jvm.Free.Fl.NoNaN64 (FP.dmul d4 ee1)) (c0_hv71_15 : FP.dmul d4 ee1 = c0_v71_15) (c0_hn72_15 : Jvm.Free.Fl.NoNaN64 (FP.dadd 0 c0_v71_15)) (c0_hv72_15 : FP.dadd 0 c0_v71_15 = c0_v72_15) (c0_hn71_16 : Jvm.Free.Fl.NoNaN64 (FP.dmul d5 ee4)) (c0_hv71_16 : FP.dmul d5 ee4 = c0_v71_16) (c0_hn72_16 : Jvm.Free.Fl.NoNaN64 (FP.dadd c0_v72_15 c0_v71_16)) (c0_hv72_16 : FP.dadd c0_v72_15 c0_v71_16 = c0_v72_16) (c0_hn71_17 : Jvm.Free.Fl.NoNaN64 (FP.dmul d4 ee2)) (c0_hv71_17 : FP.dmul d4 ee2 = c0_v71_17) (c0_hn72_17 : Jvm.Free.Fl.NoNaN64 (FP.dadd 0 c0_v71_17)) (c0_hv72_17 : FP.dadd 0 c0_v71_17 = c0_v72_17) (c0_hn71_18 : Jvm.Free.Fl.NoNaN64 (FP.dmul d5 ee5)) (c0_hv71_18 : FP.dmul d5 ee5 = c0_v71_18) (c0_hn72_18 : Jvm.Free.Fl.NoNaN64 (FP.dadd c0_v72_17 c0_v71_18)) (c0_hv72_18 : FP.dadd c0_v72_17 c0_v71_18 = c0_v72_18) :
    MetFree l (⟨"com/example/pintrinsic/pintrinsic/Matrices", "product", "([D[DI)[D"⟩ : MethodName) (head1 (Jvm.Cond.code (⟨"com/example/pintrinsic/pintrinsic/Matrices", "product", "([D[DI)[D"⟩ : MethodName) prog_10_method_2_code 11 (some (.array .double)) :: ws) ({ frames := 0, cells := 1, slots := 9, locals := 0 } : Room)) (fun a U => a = #[(.ref qa), (.ref qb), (.int (2 : Int32))] ∧ Z.Warmed39 U.vm ∧ U.heap = h0) (fun _ _ _ _ _ => True) (fun _ U o U' => ∃ v L, o = .returned v ∧ own_Q_c0 Z qa d0 d1 d2 d3 d4 d5 qb ee0 ee1 ee2 ee3 ee4 ee5 qak qbk c0_v71 c0_v72 c0_v71_2 c0_v72_2 c0_v71_3 c0_v72_3 c0_v71_4 c0_v72_4 c0_v71_5 c0_v72_5 c0_v71_6 c0_v72_6 c0_v71_7 c0_v72_7 c0_v71_8 c0_v72_8 c0_v71_9 c0_v72_9 c0_v71_10 c0_v72_10 c0_v71_11 c0_v72_11 c0_v71_12 c0_v72_12 c0_v71_13 c0_v72_13 c0_v71_14 c0_v72_14 c0_v71_15 c0_v72_15 c0_v71_16 c0_v72_16 c0_v71_17 c0_v72_17 c0_v71_18 c0_v72_18 h0 n0 v U'.heap L ∧ FrameEnd U o U' L ({ frames := 0, cells := 1, slots := 9, locals := 0 } : Room).cells ({ frames := 0, cells := 1, slots := 9, locals := 0 } : Room).slots) := by
  refine MetFree.of_bodySF (plainFor_of_name own_pn_com_example_pintrinsic_pintrinsic_Matrices) hisR ?_
  intro p e s m args below meth c s₁ Bd hml0 hP hK
  obtain ⟨rfl, hZ, hh⟩ := hP
  have hx := Bd.exec
  have hby := Bd.bytes
  have hml : c.maxLocals = 11 := hml0
  have hown : s.vm.findClass "com/example/pintrinsic/pintrinsic/Matrices" = some m.cls := findClass_of_methodNamed Bd.named
  have hnm := (name_of_methodNamed Bd.named Bd.method).1
  have X0 : Stand p l e ({ frames := 0, cells := 1, slots := 9, locals := 0 } : Room) s m #[(.ref qa), (.ref qb), (.int (2 : Int32))] below meth c s₁ [] 0 0 := Stand.of_body Bd
  have e0 : s₁.heap = h0 := by rw [← hh, Bd.state]; rfl
  have N0 := Fr.nil n0
  have pre0 : ∀ t, Steps p.tables e below (s₁.setTop (mkF m 0 #[.val (.ref qa), .val (.ref qb), .val (.int (2 : Int32)), .unset, .unset, .unset, .unset, .unset, .unset, .unset, .unset] [])) t → Steps p.tables e below (s₁.setTop (entryFrame m #[(.ref qa), (.ref qb), (.int (2 : Int32))] 11)) t := fun t k => castTop (own_ef_c0 m qa qb) k
  obtain ⟨Tc01, hc01, kc01, bc01, Xc01, ec01, Ec01, Gc01, Vc01, stc01⟩ := own_newD (L := #[.val (.ref qa), .val (.ref qb), .val (.int (2 : Int32)), .val (.int (3 : Int32)), .val (.int (3 : Int32)), .unset, .unset, .unset, .unset, .unset, .unset]) (S := []) X0 hx hZ (hw _ (List.mem_of_getElem? (i := 4) rfl)) e0 (z := (9 : Int32)) 9 (by decide) (by decide) (by decide) (by decide) (by decide) (hb hby own_d2_15) (pc' := 17) rfl
  have ne_qa_bc01 : qa ≠ bc01 := Nat.ne_of_lt (Nat.lt_of_lt_of_le V_qa.lt (Nat.le_of_eq Gc01.symm))
  have ne_bc01_qa : bc01 ≠ qa := Ne.symm ne_qa_bc01
  have ne_qb_bc01 : qb ≠ bc01 := Nat.ne_of_lt (Nat.lt_of_lt_of_le V_qb.lt (Nat.le_of_eq Gc01.symm))
  have ne_bc01_qb : bc01 ≠ qb := Ne.symm ne_qb_bc01
  have g_bc01 : n0 ≤ bc01 := Nat.le_trans Z0 (Nat.le_of_eq Gc01.symm)
  have sz_bc01 : h0.size ≤ bc01 := Nat.le_trans (Keep.refl h0 []).1 (Nat.le_of_eq Gc01.symm)
  have V_qa_c01 := V_qa.ext Ec01
  have V_qb_c01 := V_qb.ext Ec01
  have Zc01 : n0 ≤ hc01.size := Nat.le_trans Z0 Ec01.1
  have KKc01 := (Keep.refl h0 []).ext Ec01
  have V_bc01 : Arv Z hc01 bc01 kc01 .double (9 : Int32) [(.double 0), (.double 0), (.double 0), (.double 0), (.double 0), (.double 0), (.double 0), (.double 0), (.double 0)] (.double 0) := Vc01
  obtain ⟨Tc02, hc02, Xc02, ec02, Wc02, Vc02, stc02⟩ := own_stD (L := #[.val (.ref qa), .val (.ref qb), .val (.int (2 : Int32)), .val (.int (3 : Int32)), .val (.int (3 : Int32)), .val (.ref bc01), .val (.int (0 : Int32)), .val (.int (0 : Int32)), .val (.double c0_v72_2), .second, .val (.int (2 : Int32))]) (S := []) Xc01 hx hZ ec01 V_bc01 (j := (0 : Int32)) (x := c0_v72_2) (by decide) 0 (by decide) (Nat.le_of_ble_eq_true rfl) (hb hby own_d2_93) (pc' := 94) rfl
  have V_qa_c02 := V_qa_c01.other Wc02 ne_qa_bc01
  have V_qb_c02 := V_qb_c01.other Wc02 ne_qb_bc01
  have Zc02 : n0 ≤ hc02.size := Nat.le_trans Zc01 (Nat.le_of_eq Wc02.size.symm)
  have KKc02 := KKc01.wr Wc02 (Or.inr sz_bc01)
  have V_bc01_c02 : Arv Z hc02 bc01 kc01 .double (9 : Int32) [(.double c0_v72_2), (.double 0), (.double 0), (.double 0), (.double 0), (.double 0), (.double 0), (.double 0), (.double 0)] (.double 0) := Vc02
  have Nc02 := Fr.snoc Xc02 N0 g_bc01
  obtain ⟨Tc03, hc03, Xc03, ec03, Wc03, Vc03, stc03⟩ := own_stD (L := #[.val (.ref qa), .val (.ref qb), .val (.int (2 : Int32)), .val (.int (3 : Int32)), .val (.int (3 : Int32)), .val (.ref bc01), .val (.int (0 : Int32)), .val (.int (1 : Int32)), .val (.double c0_v72_4), .second, .val (.int (2 : Int32))]) (S := []) Xc02 hx hZ ec02 V_bc01_c02 (j := (1 : Int32)) (x := c0_v72_4) (by decide) 1 (by decide) (Nat.le_of_ble_eq_true rfl) (hb hby own_d2_93) (pc' := 94) rfl
  have V_qa_c03 := V_qa_c02.other Wc03 ne_qa_bc01
  have V_qb_c03 := V_qb_c02.other Wc03 ne_qb_bc01
  have Zc03 : n0 ≤ hc03.size := Nat.le_trans Zc02 (Nat.le_of_eq Wc03.size.symm)
  have KKc03 := KKc02.wr Wc03 (Or.inr sz_bc01)
  have V_bc01_c03 : Arv Z hc03 bc01 kc01 .double (9 : Int32) [(.double c0_v72_2), (.double c0_v72_4), (.double 0), (.double 0), (.double 0), (.double 0), (.double 0), (.double 0), (.double 0)] (.double 0) := Vc03
  have Nc03 := Fr.snoc Xc03 Nc02 g_bc01
  obtain ⟨Tc04, hc04, Xc04, ec04, Wc04, Vc04, stc04⟩ := own_stD (L := #[.val (.ref qa), .val (.ref qb), .val (.int (2 : Int32)), .val (.int (3 : Int32)), .val (.int (3 : Int32)), .val (.ref bc01), .val (.int (0 : Int32)), .val (.int (2 : Int32)), .val (.double c0_v72_6), .second, .val (.int (2 : Int32))]) (S := []) Xc03 hx hZ ec03 V_bc01_c03 (j := (2 : Int32)) (x := c0_v72_6) (by decide) 2 (by decide) (Nat.le_of_ble_eq_true rfl) (hb hby own_d2_93) (pc' := 94) rfl
  have V_qa_c04 := V_qa_c03.other Wc04 ne_qa_bc01
  have V_qb_c04 := V_qb_c03.other Wc04 ne_qb_bc01
  have Zc04 : n0 ≤ hc04.size := Nat.le_trans Zc03 (Nat.le_of_eq Wc04.size.symm)
  have KKc04 := KKc03.wr Wc04 (Or.inr sz_bc01)
  have V_bc01_c04 : Arv Z hc04 bc01 kc01 .double (9 : Int32) [(.double c0_v72_2), (.double c0_v72_4), (.double c0_v72_6), (.double 0), (.double 0), (.double 0), (.double 0), (.double 0), (.double 0)] (.double 0) := Vc04
  have Nc04 := Fr.snoc Xc04 Nc03 g_bc01
  obtain ⟨Tc05, hc05, Xc05, ec05, Wc05, Vc05, stc05⟩ := own_stD (L := #[.val (.ref qa), .val (.ref qb), .val (.int (2 : Int32)), .val (.int (3 : Int32)), .val (.int (3 : Int32)), .val (.ref bc01), .val (.int (1 : Int32)), .val (.int (0 : Int32)), .val (.double c0_v72_8), .second, .val (.int (2 : Int32))]) (S := []) Xc04 hx hZ ec04 V_bc01_c04 (j := (3 : Int32)) (x := c0_v72_8) (by decide) 3 (by decide) (Nat.le_of_ble_eq_true rfl) (hb hby own_d2_93) (pc' := 94) rfl
  have V_qa_c05 := V_qa_c04.other Wc05 ne_qa_bc01
  have V_qb_c05 := V_qb_c04.other Wc05 ne_qb_bc01
  have Zc05 : n0 ≤ hc05.size := Nat.le_trans Zc04 (Nat.le_of_eq Wc05.size.symm)
  have KKc05 := KKc04.wr Wc05 (Or.inr sz_bc01)
  have V_bc01_c05 : Arv Z hc05 bc01 kc01 .double (9 : Int32) [(.double c0_v72_2), (.double c0_v72_4), (.double c0_v72_6), (.double c0_v72_8), (.double 0), (.double 0), (.double 0), (.double 0), (.double 0)] (.double 0) := Vc05
  have Nc05 := Fr.snoc Xc05 Nc04 g_bc01
  obtain ⟨Tc06, hc06, Xc06, ec06, Wc06, Vc06, stc06⟩ := own_stD (L := #[.val (.ref qa), .val (.ref qb), .val (.int (2 : Int32)), .val (.int (3 : Int32)), .val (.int (3 : Int32)), .val (.ref bc01), .val (.int (1 : Int32)), .val (.int (1 : Int32)), .val (.double c0_v72_10), .second, .val (.int (2 : Int32))]) (S := []) Xc05 hx hZ ec05 V_bc01_c05 (j := (4 : Int32)) (x := c0_v72_10) (by decide) 4 (by decide) (Nat.le_of_ble_eq_true rfl) (hb hby own_d2_93) (pc' := 94) rfl
  have V_qa_c06 := V_qa_c05.other Wc06 ne_qa_bc01
  have V_qb_c06 := V_qb_c05.other Wc06 ne_qb_bc01
  have Zc06 : n0 ≤ hc06.size := Nat.le_trans Zc05 (Nat.le_of_eq Wc06.size.symm)
  have KKc06 := KKc05.wr Wc06 (Or.inr sz_bc01)
  have V_bc01_c06 : Arv Z hc06 bc01 kc01 .double (9 : Int32) [(.double c0_v72_2), (.double c0_v72_4), (.double c0_v72_6), (.double c0_v72_8), (.double c0_v72_10), (.double 0), (.double 0), (.double 0), (.double 0)] (.double 0) := Vc06
  have Nc06 := Fr.snoc Xc06 Nc05 g_bc01
  obtain ⟨Tc07, hc07, Xc07, ec07, Wc07, Vc07, stc07⟩ := own_stD (L := #[.val (.ref qa), .val (.ref qb), .val (.int (2 : Int32)), .val (.int (3 : Int32)), .val (.int (3 : Int32)), .val (.ref bc01), .val (.int (1 : Int32)), .val (.int (2 : Int32)), .val (.double c0_v72_12), .second, .val (.int (2 : Int32))]) (S := []) Xc06 hx hZ ec06 V_bc01_c06 (j := (5 : Int32)) (x := c0_v72_12) (by decide) 5 (by decide) (Nat.le_of_ble_eq_true rfl) (hb hby own_d2_93) (pc' := 94) rfl
  have V_qa_c07 := V_qa_c06.other Wc07 ne_qa_bc01
  have V_qb_c07 := V_qb_c06.other Wc07 ne_qb_bc01
  have Zc07 : n0 ≤ hc07.size := Nat.le_trans Zc06 (Nat.le_of_eq Wc07.size.symm)
  have KKc07 := KKc06.wr Wc07 (Or.inr sz_bc01)
  have V_bc01_c07 : Arv Z hc07 bc01 kc01 .double (9 : Int32) [(.double c0_v72_2), (.double c0_v72_4), (.double c0_v72_6), (.double c0_v72_8), (.double c0_v72_10), (.double c0_v72_12), (.double 0), (.double 0), (.double 0)] (.double 0) := Vc07
  have Nc07 := Fr.snoc Xc07 Nc06 g_bc01
  obtain ⟨Tc08, hc08, Xc08, ec08, Wc08, Vc08, stc08⟩ := own_stD (L := #[.val (.ref qa), .val (.ref qb), .val (.int (2 : Int32)), .val (.int (3 : Int32)), .val (.int (3 : Int32)), .val (.ref bc01), .val (.int (2 : Int32)), .val (.int (0 : Int32)), .val (.double c0_v72_14), .second, .val (.int (2 : Int32))]) (S := []) Xc07 hx hZ ec07 V_bc01_c07 (j := (6 : Int32)) (x := c0_v72_14) (by decide) 6 (by decide) (Nat.le_of_ble_eq_true rfl) (hb hby own_d2_93) (pc' := 94) rfl
  have V_qa_c08 := V_qa_c07.other Wc08 ne_qa_bc01
  have V_qb_c08 := V_qb_c07.other Wc08 ne_qb_bc01
  have Zc08 : n0 ≤ hc08.size := Nat.le_trans Zc07 (Nat.le_of_eq Wc08.size.symm)
  have KKc08 := KKc07.wr Wc08 (Or.inr sz_bc01)
  have V_bc01_c08 : Arv Z hc08 bc01 kc01 .double (9 : Int32) [(.double c0_v72_2), (.double c0_v72_4), (.double c0_v72_6), (.double c0_v72_8), (.double c0_v72_10), (.double c0_v72_12), (.double c0_v72_14), (.double 0), (.double 0)] (.double 0) := Vc08
  have Nc08 := Fr.snoc Xc08 Nc07 g_bc01
  obtain ⟨Tc09, hc09, Xc09, ec09, Wc09, Vc09, stc09⟩ := own_stD (L := #[.val (.ref qa), .val (.ref qb), .val (.int (2 : Int32)), .val (.int (3 : Int32)), .val (.int (3 : Int32)), .val (.ref bc01), .val (.int (2 : Int32)), .val (.int (1 : Int32)), .val (.double c0_v72_16), .second, .val (.int (2 : Int32))]) (S := []) Xc08 hx hZ ec08 V_bc01_c08 (j := (7 : Int32)) (x := c0_v72_16) (by decide) 7 (by decide) (Nat.le_of_ble_eq_true rfl) (hb hby own_d2_93) (pc' := 94) rfl
  have V_qa_c09 := V_qa_c08.other Wc09 ne_qa_bc01
  have V_qb_c09 := V_qb_c08.other Wc09 ne_qb_bc01
  have Zc09 : n0 ≤ hc09.size := Nat.le_trans Zc08 (Nat.le_of_eq Wc09.size.symm)
  have KKc09 := KKc08.wr Wc09 (Or.inr sz_bc01)
  have V_bc01_c09 : Arv Z hc09 bc01 kc01 .double (9 : Int32) [(.double c0_v72_2), (.double c0_v72_4), (.double c0_v72_6), (.double c0_v72_8), (.double c0_v72_10), (.double c0_v72_12), (.double c0_v72_14), (.double c0_v72_16), (.double 0)] (.double 0) := Vc09
  have Nc09 := Fr.snoc Xc09 Nc08 g_bc01
  obtain ⟨Tc010, hc010, Xc010, ec010, Wc010, Vc010, stc010⟩ := own_stD (L := #[.val (.ref qa), .val (.ref qb), .val (.int (2 : Int32)), .val (.int (3 : Int32)), .val (.int (3 : Int32)), .val (.ref bc01), .val (.int (2 : Int32)), .val (.int (2 : Int32)), .val (.double c0_v72_18), .second, .val (.int (2 : Int32))]) (S := []) Xc09 hx hZ ec09 V_bc01_c09 (j := (8 : Int32)) (x := c0_v72_18) (by decide) 8 (by decide) (Nat.le_of_ble_eq_true rfl) (hb hby own_d2_93) (pc' := 94) rfl
  have V_qa_c010 := V_qa_c09.other Wc010 ne_qa_bc01
  have V_qb_c010 := V_qb_c09.other Wc010 ne_qb_bc01
  have Zc010 : n0 ≤ hc010.size := Nat.le_trans Zc09 (Nat.le_of_eq Wc010.size.symm)
  have KKc010 := KKc09.wr Wc010 (Or.inr sz_bc01)
  have V_bc01_c010 : Arv Z hc010 bc01 kc01 .double (9 : Int32) [(.double c0_v72_2), (.double c0_v72_4), (.double c0_v72_6), (.double c0_v72_8), (.double c0_v72_10), (.double c0_v72_12), (.double c0_v72_14), (.double c0_v72_16), (.double c0_v72_18)] (.double 0) := Vc010
  have Nc010 := Fr.snoc Xc010 Nc09 g_bc01
  obtain ⟨fs, hr, hrun, hended, hW, hsame⟩ := Xc010.leave (v := some (.ref bc01)) (fun h => by rw [Bd.returns] at h; cases h)
  refine ⟨_, _, pre0 _ ?_, hrun, hended, _, _, rfl, ?_, ⟨_, rfl⟩, hW, hsame.mono (by decide) (by decide)⟩
  · refine own_s_aloadN X0.here hx (hb hby own_d2_0) (pc' := 1) rfl rfl rfl ?_
    refine own_len X0 hx hZ e0 V_qa (hb hby own_d2_1) (pc' := 2) rfl ?_
    refine own_s_iloadN X0.here hx (hb hby own_d2_2) (pc' := 3) rfl rfl ?_
    refine own_s_idiv X0.here hx (hb hby own_d2_3) (pc' := 4) rfl (by decide) (v := (3 : Int32)) (by decide) ?_
    refine own_s_istoreN X0.here hx (hb hby own_d2_4) (pc' := 5) rfl (L' := #[.val (.ref qa), .val (.ref qb), .val (.int (2 : Int32)), .val (.int (3 : Int32)), .unset, .unset, .unset, .unset, .unset, .unset, .unset]) rfl ?_
    refine own_s_aloadN X0.here hx (hb hby own_d2_5) (pc' := 6) rfl rfl rfl ?_
    refine own_len X0 hx hZ e0 V_qb (hb hby own_d2_6) (pc' := 7) rfl ?_
    refine own_s_iloadN X0.here hx (hb hby own_d2_7) (pc' := 8) rfl rfl ?_
    refine own_s_idiv X0.here hx (hb hby own_d2_8) (pc' := 9) rfl (by decide) (v := (3 : Int32)) (by decide) ?_
    refine own_s_istore X0.here hx (hb hby own_d2_9) (pc' := 11) rfl (L' := #[.val (.ref qa), .val (.ref qb), .val (.int (2 : Int32)), .val (.int (3 : Int32)), .val (.int (3 : Int32)), .unset, .unset, .unset, .unset, .unset, .unset]) rfl ?_
    refine own_s_iloadN X0.here hx (hb hby own_d2_11) (pc' := 12) rfl rfl ?_
    refine own_s_iload X0.here hx (hb hby own_d2_12) (pc' := 14) rfl rfl ?_
    refine own_s_imul X0.here hx (hb hby own_d2_14) (pc' := 15) rfl (v := (9 : Int32)) (by decide) ?_
    refine stc01 _ ?_
    refine own_s_astore Xc01.here hx (hb hby own_d2_17) (pc' := 19) rfl rfl (L' := #[.val (.ref qa), .val (.ref qb), .val (.int (2 : Int32)), .val (.int (3 : Int32)), .val (.int (3 : Int32)), .val (.ref bc01), .unset, .unset, .unset, .unset, .unset]) rfl ?_
    refine own_s_iconst Xc01.here hx (hb hby own_d2_19) (pc' := 20) rfl (v := (0 : Int32)) (by decide) ?_
    refine own_s_istore Xc01.here hx (hb hby own_d2_20) (pc' := 22) rfl (L' := #[.val (.ref qa), .val (.ref qb), .val (.int (2 : Int32)), .val (.int (3 : Int32)), .val (.int (3 : Int32)), .val (.ref bc01), .val (.int (0 : Int32)), .unset, .unset, .unset, .unset]) rfl ?_
    refine own_s_iload Xc01.here hx (hb hby own_d2_22) (pc' := 24) rfl rfl ?_
    refine own_s_iloadN Xc01.here hx (hb hby own_d2_24) (pc' := 25) rfl rfl ?_
    refine own_s_icmpNo Xc01.here hx (hb hby own_d2_25) (pc' := 28) rfl (by decide) ?_
    refine own_s_iconst Xc01.here hx (hb hby own_d2_28) (pc' := 29) rfl (v := (0 : Int32)) (by decide) ?_
    refine own_s_istore Xc01.here hx (hb hby own_d2_29) (pc' := 31) rfl (L' := #[.val (.ref qa), .val (.ref qb), .val (.int (2 : Int32)), .val (.int (3 : Int32)), .val (.int (3 : Int32)), .val (.ref bc01), .val (.int (0 : Int32)), .val (.int (0 : Int32)), .unset, .unset, .unset]) rfl ?_
    refine own_s_iload Xc01.here hx (hb hby own_d2_31) (pc' := 33) rfl rfl ?_
    refine own_s_iload Xc01.here hx (hb hby own_d2_33) (pc' := 35) rfl rfl ?_
    refine own_s_icmpNo Xc01.here hx (hb hby own_d2_35) (pc' := 38) rfl (by decide) ?_
    refine own_s_dconst0 Xc01.here hx (hb hby own_d2_38) (pc' := 39) rfl  ?_
    refine own_s_dstore Xc01.here hx (hb hby own_d2_39) (pc' := 41) rfl (L' := #[.val (.ref qa), .val (.ref qb), .val (.int (2 : Int32)), .val (.int (3 : Int32)), .val (.int (3 : Int32)), .val (.ref bc01), .val (.int (0 : Int32)), .val (.int (0 : Int32)), .val (.double 0), .second, .unset]) rfl ?_
    refine own_s_iconst Xc01.here hx (hb hby own_d2_41) (pc' := 42) rfl (v := (0 : Int32)) (by decide) ?_
    refine own_s_istore Xc01.here hx (hb hby own_d2_42) (pc' := 44) rfl (L' := #[.val (.ref qa), .val (.ref qb), .val (.int (2 : Int32)), .val (.int (3 : Int32)), .val (.int (3 : Int32)), .val (.ref bc01), .val (.int (0 : Int32)), .val (.int (0 : Int32)), .val (.double 0), .second, .val (.int (0 : Int32))]) rfl ?_
    refine own_s_iload Xc01.here hx (hb hby own_d2_44) (pc' := 46) rfl rfl ?_
    refine own_s_iloadN Xc01.here hx (hb hby own_d2_46) (pc' := 47) rfl rfl ?_
    refine own_s_icmpNo Xc01.here hx (hb hby own_d2_47) (pc' := 50) rfl (by decide) ?_
    refine own_s_dload Xc01.here hx (hb hby own_d2_50) (pc' := 52) rfl rfl ?_
    refine own_s_aloadN Xc01.here hx (hb hby own_d2_52) (pc' := 53) rfl rfl rfl ?_
    refine own_s_iload Xc01.here hx (hb hby own_d2_53) (pc' := 55) rfl rfl ?_
    refine own_s_iloadN Xc01.here hx (hb hby own_d2_55) (pc' := 56) rfl rfl ?_
    refine own_s_imul Xc01.here hx (hb hby own_d2_56) (pc' := 57) rfl (v := (0 : Int32)) (by decide) ?_
    refine own_s_iload Xc01.here hx (hb hby own_d2_57) (pc' := 59) rfl rfl ?_
    refine own_s_iadd Xc01.here hx (hb hby own_d2_59) (pc' := 60) rfl (v := (0 : Int32)) (by decide) ?_
    refine own_ldD Xc01 hx hZ ec01 V_qa_c01 (j := (0 : Int32)) (x := d0) (by decide) rfl (hb hby own_d2_60) (pc' := 61) rfl ?_
    refine own_s_aloadN Xc01.here hx (hb hby own_d2_61) (pc' := 62) rfl rfl rfl ?_
    refine own_s_iload Xc01.here hx (hb hby own_d2_62) (pc' := 64) rfl rfl ?_
    refine own_s_iload Xc01.here hx (hb hby own_d2_64) (pc' := 66) rfl rfl ?_
    refine own_s_imul Xc01.here hx (hb hby own_d2_66) (pc' := 67) rfl (v := (0 : Int32)) (by decide) ?_
    refine own_s_iload Xc01.here hx (hb hby own_d2_67) (pc' := 69) rfl rfl ?_
    refine own_s_iadd Xc01.here hx (hb hby own_d2_69) (pc' := 70) rfl (v := (0 : Int32)) (by decide) ?_
    refine own_ldD Xc01 hx hZ ec01 V_qb_c01 (j := (0 : Int32)) (x := ee0) (by decide) rfl (hb hby own_d2_70) (pc' := 71) rfl ?_
    refine own_s_dmul Xc01.here hx (hb hby own_d2_71) (pc' := 72) rfl c0_hn71 (v := c0_v71) c0_hv71 ?_
    refine own_s_dadd Xc01.here hx (hb hby own_d2_72) (pc' := 73) rfl c0_hn72 (v := c0_v72) c0_hv72 ?_
    refine own_s_dstore Xc01.here hx (hb hby own_d2_73) (pc' := 75) rfl (L' := #[.val (.ref qa), .val (.ref qb), .val (.int (2 : Int32)), .val (.int (3 : Int32)), .val (.int (3 : Int32)), .val (.ref bc01), .val (.int (0 : Int32)), .val (.int (0 : Int32)), .val (.double c0_v72), .second, .val (.int (0 : Int32))]) rfl ?_
    refine own_s_iinc Xc01.here hx (hb hby own_d2_75) (pc' := 78) rfl rfl (v := (1 : Int32)) (by decide) (L' := #[.val (.ref qa), .val (.ref qb), .val (.int (2 : Int32)), .val (.int (3 : Int32)), .val (.int (3 : Int32)), .val (.ref bc01), .val (.int (0 : Int32)), .val (.int (0 : Int32)), .val (.double c0_v72), .second, .val (.int (1 : Int32))]) rfl ?_
    refine own_s_goto Xc01.here hx (hb hby own_d2_78) (by decide) (pc' := 44) (by decide) ?_
    refine own_s_iload Xc01.here hx (hb hby own_d2_44) (pc' := 46) rfl rfl ?_
    refine own_s_iloadN Xc01.here hx (hb hby own_d2_46) (pc' := 47) rfl rfl ?_
    refine own_s_icmpNo Xc01.here hx (hb hby own_d2_47) (pc' := 50) rfl (by decide) ?_
    refine own_s_dload Xc01.here hx (hb hby own_d2_50) (pc' := 52) rfl rfl ?_
    refine own_s_aloadN Xc01.here hx (hb hby own_d2_52) (pc' := 53) rfl rfl rfl ?_
    refine own_s_iload Xc01.here hx (hb hby own_d2_53) (pc' := 55) rfl rfl ?_
    refine own_s_iloadN Xc01.here hx (hb hby own_d2_55) (pc' := 56) rfl rfl ?_
    refine own_s_imul Xc01.here hx (hb hby own_d2_56) (pc' := 57) rfl (v := (0 : Int32)) (by decide) ?_
    refine own_s_iload Xc01.here hx (hb hby own_d2_57) (pc' := 59) rfl rfl ?_
    refine own_s_iadd Xc01.here hx (hb hby own_d2_59) (pc' := 60) rfl (v := (1 : Int32)) (by decide) ?_
    refine own_ldD Xc01 hx hZ ec01 V_qa_c01 (j := (1 : Int32)) (x := d1) (by decide) rfl (hb hby own_d2_60) (pc' := 61) rfl ?_
    refine own_s_aloadN Xc01.here hx (hb hby own_d2_61) (pc' := 62) rfl rfl rfl ?_
    refine own_s_iload Xc01.here hx (hb hby own_d2_62) (pc' := 64) rfl rfl ?_
    refine own_s_iload Xc01.here hx (hb hby own_d2_64) (pc' := 66) rfl rfl ?_
    refine own_s_imul Xc01.here hx (hb hby own_d2_66) (pc' := 67) rfl (v := (3 : Int32)) (by decide) ?_
    refine own_s_iload Xc01.here hx (hb hby own_d2_67) (pc' := 69) rfl rfl ?_
    refine own_s_iadd Xc01.here hx (hb hby own_d2_69) (pc' := 70) rfl (v := (3 : Int32)) (by decide) ?_
    refine own_ldD Xc01 hx hZ ec01 V_qb_c01 (j := (3 : Int32)) (x := ee3) (by decide) rfl (hb hby own_d2_70) (pc' := 71) rfl ?_
    refine own_s_dmul Xc01.here hx (hb hby own_d2_71) (pc' := 72) rfl c0_hn71_2 (v := c0_v71_2) c0_hv71_2 ?_
    refine own_s_dadd Xc01.here hx (hb hby own_d2_72) (pc' := 73) rfl c0_hn72_2 (v := c0_v72_2) c0_hv72_2 ?_
    refine own_s_dstore Xc01.here hx (hb hby own_d2_73) (pc' := 75) rfl (L' := #[.val (.ref qa), .val (.ref qb), .val (.int (2 : Int32)), .val (.int (3 : Int32)), .val (.int (3 : Int32)), .val (.ref bc01), .val (.int (0 : Int32)), .val (.int (0 : Int32)), .val (.double c0_v72_2), .second, .val (.int (1 : Int32))]) rfl ?_
    refine own_s_iinc Xc01.here hx (hb hby own_d2_75) (pc' := 78) rfl rfl (v := (2 : Int32)) (by decide) (L' := #[.val (.ref qa), .val (.ref qb), .val (.int (2 : Int32)), .val (.int (3 : Int32)), .val (.int (3 : Int32)), .val (.ref bc01), .val (.int (0 : Int32)), .val (.int (0 : Int32)), .val (.double c0_v72_2), .second, .val (.int (2 : Int32))]) rfl ?_
    refine own_s_goto Xc01.here hx (hb hby own_d2_78) (by decide) (pc' := 44) (by decide) ?_
    refine own_s_iload Xc01.here hx (hb hby own_d2_44) (pc' := 46) rfl rfl ?_
    refine own_s_iloadN Xc01.here hx (hb hby own_d2_46) (pc' := 47) rfl rfl ?_
    refine own_s_icmpYes Xc01.here hx (hb hby own_d2_47) (by decide) (pc' := 81) (by decide) (by decide) ?_
    refine own_s_aload Xc01.here hx (hb hby own_d2_81) (pc' := 83) rfl rfl rfl ?_
    refine own_s_iload Xc01.here hx (hb hby own_d2_83) (pc' := 85) rfl rfl ?_
    refine own_s_iload Xc01.here hx (hb hby own_d2_85) (pc' := 87) rfl rfl ?_
    refine own_s_imul Xc01.here hx (hb hby own_d2_87) (pc' := 88) rfl (v := (0 : Int32)) (by decide) ?_
    refine own_s_iload Xc01.here hx (hb hby own_d2_88) (pc' := 90) rfl rfl ?_
    refine own_s_iadd Xc01.here hx (hb hby own_d2_90) (pc' := 91) rfl (v := (0 : Int32)) (by decide) ?_
    refine own_s_dload Xc01.here hx (hb hby own_d2_91) (pc' := 93) rfl rfl ?_
    refine stc02 _ ?_
    refine own_s_iinc Xc02.here hx (hb hby own_d2_94) (pc' := 97) rfl rfl (v := (1 : Int32)) (by decide) (L' := #[.val (.ref qa), .val (.ref qb), .val (.int (2 : Int32)), .val (.int (3 : Int32)), .val (.int (3 : Int32)), .val (.ref bc01), .val (.int (0 : Int32)), .val (.int (1 : Int32)), .val (.double c0_v72_2), .second, .val (.int (2 : Int32))]) rfl ?_
    refine own_s_goto Xc02.here hx (hb hby own_d2_97) (by decide) (pc' := 31) (by decide) ?_
    refine own_s_iload Xc02.here hx (hb hby own_d2_31) (pc' := 33) rfl rfl ?_
    refine own_s_iload Xc02.here hx (hb hby own_d2_33) (pc' := 35) rfl rfl ?_
    refine own_s_icmpNo Xc02.here hx (hb hby own_d2_35) (pc' := 38) rfl (by decide) ?_
    refine own_s_dconst0 Xc02.here hx (hb hby own_d2_38) (pc' := 39) rfl  ?_
    refine own_s_dstore Xc02.here hx (hb hby own_d2_39) (pc' := 41) rfl (L' := #[.val (.ref qa), .val (.ref qb), .val (.int (2 : Int32)), .val (.int (3 : Int32)), .val (.int (3 : Int32)), .val (.ref bc01), .val (.int (0 : Int32)), .val (.int (1 : Int32)), .val (.double 0), .second, .val (.int (2 : Int32))]) rfl ?_
    refine own_s_iconst Xc02.here hx (hb hby own_d2_41) (pc' := 42) rfl (v := (0 : Int32)) (by decide) ?_
    refine own_s_istore Xc02.here hx (hb hby own_d2_42) (pc' := 44) rfl (L' := #[.val (.ref qa), .val (.ref qb), .val (.int (2 : Int32)), .val (.int (3 : Int32)), .val (.int (3 : Int32)), .val (.ref bc01), .val (.int (0 : Int32)), .val (.int (1 : Int32)), .val (.double 0), .second, .val (.int (0 : Int32))]) rfl ?_
    refine own_s_iload Xc02.here hx (hb hby own_d2_44) (pc' := 46) rfl rfl ?_
    refine own_s_iloadN Xc02.here hx (hb hby own_d2_46) (pc' := 47) rfl rfl ?_
    refine own_s_icmpNo Xc02.here hx (hb hby own_d2_47) (pc' := 50) rfl (by decide) ?_
    refine own_s_dload Xc02.here hx (hb hby own_d2_50) (pc' := 52) rfl rfl ?_
    refine own_s_aloadN Xc02.here hx (hb hby own_d2_52) (pc' := 53) rfl rfl rfl ?_
    refine own_s_iload Xc02.here hx (hb hby own_d2_53) (pc' := 55) rfl rfl ?_
    refine own_s_iloadN Xc02.here hx (hb hby own_d2_55) (pc' := 56) rfl rfl ?_
    refine own_s_imul Xc02.here hx (hb hby own_d2_56) (pc' := 57) rfl (v := (0 : Int32)) (by decide) ?_
    refine own_s_iload Xc02.here hx (hb hby own_d2_57) (pc' := 59) rfl rfl ?_
    refine own_s_iadd Xc02.here hx (hb hby own_d2_59) (pc' := 60) rfl (v := (0 : Int32)) (by decide) ?_
    refine own_ldD Xc02 hx hZ ec02 V_qa_c02 (j := (0 : Int32)) (x := d0) (by decide) rfl (hb hby own_d2_60) (pc' := 61) rfl ?_
    refine own_s_aloadN Xc02.here hx (hb hby own_d2_61) (pc' := 62) rfl rfl rfl ?_
    refine own_s_iload Xc02.here hx (hb hby own_d2_62) (pc' := 64) rfl rfl ?_
    refine own_s_iload Xc02.here hx (hb hby own_d2_64) (pc' := 66) rfl rfl ?_
    refine own_s_imul Xc02.here hx (hb hby own_d2_66) (pc' := 67) rfl (v := (0 : Int32)) (by decide) ?_
    refine own_s_iload Xc02.here hx (hb hby own_d2_67) (pc' := 69) rfl rfl ?_
    refine own_s_iadd Xc02.here hx (hb hby own_d2_69) (pc' := 70) rfl (v := (1 : Int32)) (by decide) ?_
    refine own_ldD Xc02 hx hZ ec02 V_qb_c02 (j := (1 : Int32)) (x := ee1) (by decide) rfl (hb hby own_d2_70) (pc' := 71) rfl ?_
    refine own_s_dmul Xc02.here hx (hb hby own_d2_71) (pc' := 72) rfl c0_hn71_3 (v := c0_v71_3) c0_hv71_3 ?_
    refine own_s_dadd Xc02.here hx (hb hby own_d2_72) (pc' := 73) rfl c0_hn72_3 (v := c0_v72_3) c0_hv72_3 ?_
    refine own_s_dstore Xc02.here hx (hb hby own_d2_73) (pc' := 75) rfl (L' := #[.val (.ref qa), .val (.ref qb), .val (.int (2 : Int32)), .val (.int (3 : Int32)), .val (.int (3 : Int32)), .val (.ref bc01), .val (.int (0 : Int32)), .val (.int (1 : Int32)), .val (.double c0_v72_3), .second, .val (.int (0 : Int32))]) rfl ?_
    refine own_s_iinc Xc02.here hx (hb hby own_d2_75) (pc' := 78) rfl rfl (v := (1 : Int32)) (by decide) (L' := #[.val (.ref qa), .val (.ref qb), .val (.int (2 : Int32)), .val (.int (3 : Int32)), .val (.int (3 : Int32)), .val (.ref bc01), .val (.int (0 : Int32)), .val (.int (1 : Int32)), .val (.double c0_v72_3), .second, .val (.int (1 : Int32))]) rfl ?_
    refine own_s_goto Xc02.here hx (hb hby own_d2_78) (by decide) (pc' := 44) (by decide) ?_
    refine own_s_iload Xc02.here hx (hb hby own_d2_44) (pc' := 46) rfl rfl ?_
    refine own_s_iloadN Xc02.here hx (hb hby own_d2_46) (pc' := 47) rfl rfl ?_
    refine own_s_icmpNo Xc02.here hx (hb hby own_d2_47) (pc' := 50) rfl (by decide) ?_
    refine own_s_dload Xc02.here hx (hb hby own_d2_50) (pc' := 52) rfl rfl ?_
    refine own_s_aloadN Xc02.here hx (hb hby own_d2_52) (pc' := 53) rfl rfl rfl ?_
    refine own_s_iload Xc02.here hx (hb hby own_d2_53) (pc' := 55) rfl rfl ?_
    refine own_s_iloadN Xc02.here hx (hb hby own_d2_55) (pc' := 56) rfl rfl ?_
    refine own_s_imul Xc02.here hx (hb hby own_d2_56) (pc' := 57) rfl (v := (0 : Int32)) (by decide) ?_
    refine own_s_iload Xc02.here hx (hb hby own_d2_57) (pc' := 59) rfl rfl ?_
    refine own_s_iadd Xc02.here hx (hb hby own_d2_59) (pc' := 60) rfl (v := (1 : Int32)) (by decide) ?_
    refine own_ldD Xc02 hx hZ ec02 V_qa_c02 (j := (1 : Int32)) (x := d1) (by decide) rfl (hb hby own_d2_60) (pc' := 61) rfl ?_
    refine own_s_aloadN Xc02.here hx (hb hby own_d2_61) (pc' := 62) rfl rfl rfl ?_
    refine own_s_iload Xc02.here hx (hb hby own_d2_62) (pc' := 64) rfl rfl ?_
    refine own_s_iload Xc02.here hx (hb hby own_d2_64) (pc' := 66) rfl rfl ?_
    refine own_s_imul Xc02.here hx (hb hby own_d2_66) (pc' := 67) rfl (v := (3 : Int32)) (by decide) ?_
    refine own_s_iload Xc02.here hx (hb hby own_d2_67) (pc' := 69) rfl rfl ?_
    refine own_s_iadd Xc02.here hx (hb hby own_d2_69) (pc' := 70) rfl (v := (4 : Int32)) (by decide) ?_
    refine own_ldD Xc02 hx hZ ec02 V_qb_c02 (j := (4 : Int32)) (x := ee4) (by decide) rfl (hb hby own_d2_70) (pc' := 71) rfl ?_
    refine own_s_dmul Xc02.here hx (hb hby own_d2_71) (pc' := 72) rfl c0_hn71_4 (v := c0_v71_4) c0_hv71_4 ?_
    refine own_s_dadd Xc02.here hx (hb hby own_d2_72) (pc' := 73) rfl c0_hn72_4 (v := c0_v72_4) c0_hv72_4 ?_
    refine own_s_dstore Xc02.here hx (hb hby own_d2_73) (pc' := 75) rfl (L' := #[.val (.ref qa), .val (.ref qb), .val (.int (2 : Int32)), .val (.int (3 : Int32)), .val (.int (3 : Int32)), .val (.ref bc01), .val (.int (0 : Int32)), .val (.int (1 : Int32)), .val (.double c0_v72_4), .second, .val (.int (1 : Int32))]) rfl ?_
    refine own_s_iinc Xc02.here hx (hb hby own_d2_75) (pc' := 78) rfl rfl (v := (2 : Int32)) (by decide) (L' := #[.val (.ref qa), .val (.ref qb), .val (.int (2 : Int32)), .val (.int (3 : Int32)), .val (.int (3 : Int32)), .val (.ref bc01), .val (.int (0 : Int32)), .val (.int (1 : Int32)), .val (.double c0_v72_4), .second, .val (.int (2 : Int32))]) rfl ?_
    refine own_s_goto Xc02.here hx (hb hby own_d2_78) (by decide) (pc' := 44) (by decide) ?_
    refine own_s_iload Xc02.here hx (hb hby own_d2_44) (pc' := 46) rfl rfl ?_
    refine own_s_iloadN Xc02.here hx (hb hby own_d2_46) (pc' := 47) rfl rfl ?_
    refine own_s_icmpYes Xc02.here hx (hb hby own_d2_47) (by decide) (pc' := 81) (by decide) (by decide) ?_
    refine own_s_aload Xc02.here hx (hb hby own_d2_81) (pc' := 83) rfl rfl rfl ?_
    refine own_s_iload Xc02.here hx (hb hby own_d2_83) (pc' := 85) rfl rfl ?_
    refine own_s_iload Xc02.here hx (hb hby own_d2_85) (pc' := 87) rfl rfl ?_
    refine own_s_imul Xc02.here hx (hb hby own_d2_87) (pc' := 88) rfl (v := (0 : Int32)) (by decide) ?_
    refine own_s_iload Xc02.here hx (hb hby own_d2_88) (pc' := 90) rfl rfl ?_
    refine own_s_iadd Xc02.here hx (hb hby own_d2_90) (pc' := 91) rfl (v := (1 : Int32)) (by decide) ?_
    refine own_s_dload Xc02.here hx (hb hby own_d2_91) (pc' := 93) rfl rfl ?_
    refine stc03 _ ?_
    refine own_s_iinc Xc03.here hx (hb hby own_d2_94) (pc' := 97) rfl rfl (v := (2 : Int32)) (by decide) (L' := #[.val (.ref qa), .val (.ref qb), .val (.int (2 : Int32)), .val (.int (3 : Int32)), .val (.int (3 : Int32)), .val (.ref bc01), .val (.int (0 : Int32)), .val (.int (2 : Int32)), .val (.double c0_v72_4), .second, .val (.int (2 : Int32))]) rfl ?_
    refine own_s_goto Xc03.here hx (hb hby own_d2_97) (by decide) (pc' := 31) (by decide) ?_
    refine own_s_iload Xc03.here hx (hb hby own_d2_31) (pc' := 33) rfl rfl ?_
    refine own_s_iload Xc03.here hx (hb hby own_d2_33) (pc' := 35) rfl rfl ?_
    refine own_s_icmpNo Xc03.here hx (hb hby own_d2_35) (pc' := 38) rfl (by decide) ?_
    refine own_s_dconst0 Xc03.here hx (hb hby own_d2_38) (pc' := 39) rfl  ?_
    refine own_s_dstore Xc03.here hx (hb hby own_d2_39) (pc' := 41) rfl (L' := #[.val (.ref qa), .val (.ref qb), .val (.int (2 : Int32)), .val (.int (3 : Int32)), .val (.int (3 : Int32)), .val (.ref bc01), .val (.int (0 : Int32)), .val (.int (2 : Int32)), .val (.double 0), .second, .val (.int (2 : Int32))]) rfl ?_
    refine own_s_iconst Xc03.here hx (hb hby own_d2_41) (pc' := 42) rfl (v := (0 : Int32)) (by decide) ?_
    refine own_s_istore Xc03.here hx (hb hby own_d2_42) (pc' := 44) rfl (L' := #[.val (.ref qa), .val (.ref qb), .val (.int (2 : Int32)), .val (.int (3 : Int32)), .val (.int (3 : Int32)), .val (.ref bc01), .val (.int (0 : Int32)), .val (.int (2 : Int32)), .val (.double 0), .second, .val (.int (0 : Int32))]) rfl ?_
    refine own_s_iload Xc03.here hx (hb hby own_d2_44) (pc' := 46) rfl rfl ?_
    refine own_s_iloadN Xc03.here hx (hb hby own_d2_46) (pc' := 47) rfl rfl ?_
    refine own_s_icmpNo Xc03.here hx (hb hby own_d2_47) (pc' := 50) rfl (by decide) ?_
    refine own_s_dload Xc03.here hx (hb hby own_d2_50) (pc' := 52) rfl rfl ?_
    refine own_s_aloadN Xc03.here hx (hb hby own_d2_52) (pc' := 53) rfl rfl rfl ?_
    refine own_s_iload Xc03.here hx (hb hby own_d2_53) (pc' := 55) rfl rfl ?_
    refine own_s_iloadN Xc03.here hx (hb hby own_d2_55) (pc' := 56) rfl rfl ?_
    refine own_s_imul Xc03.here hx (hb hby own_d2_56) (pc' := 57) rfl (v := (0 : Int32)) (by decide) ?_
    refine own_s_iload Xc03.here hx (hb hby own_d2_57) (pc' := 59) rfl rfl ?_
    refine own_s_iadd Xc03.here hx (hb hby own_d2_59) (pc' := 60) rfl (v := (0 : Int32)) (by decide) ?_
    refine own_ldD Xc03 hx hZ ec03 V_qa_c03 (j := (0 : Int32)) (x := d0) (by decide) rfl (hb hby own_d2_60) (pc' := 61) rfl ?_
    refine own_s_aloadN Xc03.here hx (hb hby own_d2_61) (pc' := 62) rfl rfl rfl ?_
    refine own_s_iload Xc03.here hx (hb hby own_d2_62) (pc' := 64) rfl rfl ?_
    refine own_s_iload Xc03.here hx (hb hby own_d2_64) (pc' := 66) rfl rfl ?_
    refine own_s_imul Xc03.here hx (hb hby own_d2_66) (pc' := 67) rfl (v := (0 : Int32)) (by decide) ?_
    refine own_s_iload Xc03.here hx (hb hby own_d2_67) (pc' := 69) rfl rfl ?_
    refine own_s_iadd Xc03.here hx (hb hby own_d2_69) (pc' := 70) rfl (v := (2 : Int32)) (by decide) ?_
    refine own_ldD Xc03 hx hZ ec03 V_qb_c03 (j := (2 : Int32)) (x := ee2) (by decide) rfl (hb hby own_d2_70) (pc' := 71) rfl ?_
    refine own_s_dmul Xc03.here hx (hb hby own_d2_71) (pc' := 72) rfl c0_hn71_5 (v := c0_v71_5) c0_hv71_5 ?_
    refine own_s_dadd Xc03.here hx (hb hby own_d2_72) (pc' := 73) rfl c0_hn72_5 (v := c0_v72_5) c0_hv72_5 ?_
    refine own_s_dstore Xc03.here hx (hb hby own_d2_73) (pc' := 75) rfl (L' := #[.val (.ref qa), .val (.ref qb), .val (.int (2 : Int32)), .val (.int (3 : Int32)), .val (.int (3 : Int32)), .val (.ref bc01), .val (.int (0 : Int32)), .val (.int (2 : Int32)), .val (.double c0_v72_5), .second, .val (.int (0 : Int32))]) rfl ?_
    refine own_s_iinc Xc03.here hx (hb hby own_d2_75) (pc' := 78) rfl rfl (v := (1 : Int32)) (by decide) (L' := #[.val (.ref qa), .val (.ref qb), .val (.int (2 : Int32)), .val (.int (3 : Int32)), .val (.int (3 : Int32)), .val (.ref bc01), .val (.int (0 : Int32)), .val (.int (2 : Int32)), .val (.double c0_v72_5), .second, .val (.int (1 : Int32))]) rfl ?_
    refine own_s_goto Xc03.here hx (hb hby own_d2_78) (by decide) (pc' := 44) (by decide) ?_
    refine own_s_iload Xc03.here hx (hb hby own_d2_44) (pc' := 46) rfl rfl ?_
    refine own_s_iloadN Xc03.here hx (hb hby own_d2_46) (pc' := 47) rfl rfl ?_
    refine own_s_icmpNo Xc03.here hx (hb hby own_d2_47) (pc' := 50) rfl (by decide) ?_
    refine own_s_dload Xc03.here hx (hb hby own_d2_50) (pc' := 52) rfl rfl ?_
    refine own_s_aloadN Xc03.here hx (hb hby own_d2_52) (pc' := 53) rfl rfl rfl ?_
    refine own_s_iload Xc03.here hx (hb hby own_d2_53) (pc' := 55) rfl rfl ?_
    refine own_s_iloadN Xc03.here hx (hb hby own_d2_55) (pc' := 56) rfl rfl ?_
    refine own_s_imul Xc03.here hx (hb hby own_d2_56) (pc' := 57) rfl (v := (0 : Int32)) (by decide) ?_
    refine own_s_iload Xc03.here hx (hb hby own_d2_57) (pc' := 59) rfl rfl ?_
    refine own_s_iadd Xc03.here hx (hb hby own_d2_59) (pc' := 60) rfl (v := (1 : Int32)) (by decide) ?_
    refine own_ldD Xc03 hx hZ ec03 V_qa_c03 (j := (1 : Int32)) (x := d1) (by decide) rfl (hb hby own_d2_60) (pc' := 61) rfl ?_
    refine own_s_aloadN Xc03.here hx (hb hby own_d2_61) (pc' := 62) rfl rfl rfl ?_
    refine own_s_iload Xc03.here hx (hb hby own_d2_62) (pc' := 64) rfl rfl ?_
    refine own_s_iload Xc03.here hx (hb hby own_d2_64) (pc' := 66) rfl rfl ?_
    refine own_s_imul Xc03.here hx (hb hby own_d2_66) (pc' := 67) rfl (v := (3 : Int32)) (by decide) ?_
    refine own_s_iload Xc03.here hx (hb hby own_d2_67) (pc' := 69) rfl rfl ?_
    refine own_s_iadd Xc03.here hx (hb hby own_d2_69) (pc' := 70) rfl (v := (5 : Int32)) (by decide) ?_
    refine own_ldD Xc03 hx hZ ec03 V_qb_c03 (j := (5 : Int32)) (x := ee5) (by decide) rfl (hb hby own_d2_70) (pc' := 71) rfl ?_
    refine own_s_dmul Xc03.here hx (hb hby own_d2_71) (pc' := 72) rfl c0_hn71_6 (v := c0_v71_6) c0_hv71_6 ?_
    refine own_s_dadd Xc03.here hx (hb hby own_d2_72) (pc' := 73) rfl c0_hn72_6 (v := c0_v72_6) c0_hv72_6 ?_
    refine own_s_dstore Xc03.here hx (hb hby own_d2_73) (pc' := 75) rfl (L' := #[.val (.ref qa), .val (.ref qb), .val (.int (2 : Int32)), .val (.int (3 : Int32)), .val (.int (3 : Int32)), .val (.ref bc01), .val (.int (0 : Int32)), .val (.int (2 : Int32)), .val (.double c0_v72_6), .second, .val (.int (1 : Int32))]) rfl ?_
    refine own_s_iinc Xc03.here hx (hb hby own_d2_75) (pc' := 78) rfl rfl (v := (2 : Int32)) (by decide) (L' := #[.val (.ref qa), .val (.ref qb), .val (.int (2 : Int32)), .val (.int (3 : Int32)), .val (.int (3 : Int32)), .val (.ref bc01), .val (.int (0 : Int32)), .val (.int (2 : Int32)), .val (.double c0_v72_6), .second, .val (.int (2 : Int32))]) rfl ?_
    refine own_s_goto Xc03.here hx (hb hby own_d2_78) (by decide) (pc' := 44) (by decide) ?_
    refine own_s_iload Xc03.here hx (hb hby own_d2_44) (pc' := 46) rfl rfl ?_
    refine own_s_iloadN Xc03.here hx (hb hby own_d2_46) (pc' := 47) rfl rfl ?_
    refine own_s_icmpYes Xc03.here hx (hb hby own_d2_47) (by decide) (pc' := 81) (by decide) (by decide) ?_
    refine own_s_aload Xc03.here hx (hb hby own_d2_81) (pc' := 83) rfl rfl rfl ?_
    refine own_s_iload Xc03.here hx (hb hby own_d2_83) (pc' := 85) rfl rfl ?_
    refine own_s_iload Xc03.here hx (hb hby own_d2_85) (pc' := 87) rfl rfl ?_
    refine own_s_imul Xc03.here hx (hb hby own_d2_87) (pc' := 88) rfl (v := (0 : Int32)) (by decide) ?_
    refine own_s_iload Xc03.here hx (hb hby own_d2_88) (pc' := 90) rfl rfl ?_
    refine own_s_iadd Xc03.here hx (hb hby own_d2_90) (pc' := 91) rfl (v := (2 : Int32)) (by decide) ?_
    refine own_s_dload Xc03.here hx (hb hby own_d2_91) (pc' := 93) rfl rfl ?_
    refine stc04 _ ?_
    refine own_s_iinc Xc04.here hx (hb hby own_d2_94) (pc' := 97) rfl rfl (v := (3 : Int32)) (by decide) (L' := #[.val (.ref qa), .val (.ref qb), .val (.int (2 : Int32)), .val (.int (3 : Int32)), .val (.int (3 : Int32)), .val (.ref bc01), .val (.int (0 : Int32)), .val (.int (3 : Int32)), .val (.double c0_v72_6), .second, .val (.int (2 : Int32))]) rfl ?_
    refine own_s_goto Xc04.here hx (hb hby own_d2_97) (by decide) (pc' := 31) (by decide) ?_
    refine own_s_iload Xc04.here hx (hb hby own_d2_31) (pc' := 33) rfl rfl ?_
    refine own_s_iload Xc04.here hx (hb hby own_d2_33) (pc' := 35) rfl rfl ?_
    refine own_s_icmpYes Xc04.here hx (hb hby own_d2_35) (by decide) (pc' := 100) (by decide) (by decide) ?_
    refine own_s_iinc Xc04.here hx (hb hby own_d2_100) (pc' := 103) rfl rfl (v := (1 : Int32)) (by decide) (L' := #[.val (.ref qa), .val (.ref qb), .val (.int (2 : Int32)), .val (.int (3 : Int32)), .val (.int (3 : Int32)), .val (.ref bc01), .val (.int (1 : Int32)), .val (.int (3 : Int32)), .val (.double c0_v72_6), .second, .val (.int (2 : Int32))]) rfl ?_
    refine own_s_goto Xc04.here hx (hb hby own_d2_103) (by decide) (pc' := 22) (by decide) ?_
    refine own_s_iload Xc04.here hx (hb hby own_d2_22) (pc' := 24) rfl rfl ?_
    refine own_s_iloadN Xc04.here hx (hb hby own_d2_24) (pc' := 25) rfl rfl ?_
    refine own_s_icmpNo Xc04.here hx (hb hby own_d2_25) (pc' := 28) rfl (by decide) ?_
    refine own_s_iconst Xc04.here hx (hb hby own_d2_28) (pc' := 29) rfl (v := (0 : Int32)) (by decide) ?_
    refine own_s_istore Xc04.here hx (hb hby own_d2_29) (pc' := 31) rfl (L' := #[.val (.ref qa), .val (.ref qb), .val (.int (2 : Int32)), .val (.int (3 : Int32)), .val (.int (3 : Int32)), .val (.ref bc01), .val (.int (1 : Int32)), .val (.int (0 : Int32)), .val (.double c0_v72_6), .second, .val (.int (2 : Int32))]) rfl ?_
    refine own_s_iload Xc04.here hx (hb hby own_d2_31) (pc' := 33) rfl rfl ?_
    refine own_s_iload Xc04.here hx (hb hby own_d2_33) (pc' := 35) rfl rfl ?_
    refine own_s_icmpNo Xc04.here hx (hb hby own_d2_35) (pc' := 38) rfl (by decide) ?_
    refine own_s_dconst0 Xc04.here hx (hb hby own_d2_38) (pc' := 39) rfl  ?_
    refine own_s_dstore Xc04.here hx (hb hby own_d2_39) (pc' := 41) rfl (L' := #[.val (.ref qa), .val (.ref qb), .val (.int (2 : Int32)), .val (.int (3 : Int32)), .val (.int (3 : Int32)), .val (.ref bc01), .val (.int (1 : Int32)), .val (.int (0 : Int32)), .val (.double 0), .second, .val (.int (2 : Int32))]) rfl ?_
    refine own_s_iconst Xc04.here hx (hb hby own_d2_41) (pc' := 42) rfl (v := (0 : Int32)) (by decide) ?_
    refine own_s_istore Xc04.here hx (hb hby own_d2_42) (pc' := 44) rfl (L' := #[.val (.ref qa), .val (.ref qb), .val (.int (2 : Int32)), .val (.int (3 : Int32)), .val (.int (3 : Int32)), .val (.ref bc01), .val (.int (1 : Int32)), .val (.int (0 : Int32)), .val (.double 0), .second, .val (.int (0 : Int32))]) rfl ?_
    refine own_s_iload Xc04.here hx (hb hby own_d2_44) (pc' := 46) rfl rfl ?_
    refine own_s_iloadN Xc04.here hx (hb hby own_d2_46) (pc' := 47) rfl rfl ?_
    refine own_s_icmpNo Xc04.here hx (hb hby own_d2_47) (pc' := 50) rfl (by decide) ?_
    refine own_s_dload Xc04.here hx (hb hby own_d2_50) (pc' := 52) rfl rfl ?_
    refine own_s_aloadN Xc04.here hx (hb hby own_d2_52) (pc' := 53) rfl rfl rfl ?_
    refine own_s_iload Xc04.here hx (hb hby own_d2_53) (pc' := 55) rfl rfl ?_
    refine own_s_iloadN Xc04.here hx (hb hby own_d2_55) (pc' := 56) rfl rfl ?_
    refine own_s_imul Xc04.here hx (hb hby own_d2_56) (pc' := 57) rfl (v := (2 : Int32)) (by decide) ?_
    refine own_s_iload Xc04.here hx (hb hby own_d2_57) (pc' := 59) rfl rfl ?_
    refine own_s_iadd Xc04.here hx (hb hby own_d2_59) (pc' := 60) rfl (v := (2 : Int32)) (by decide) ?_
    refine own_ldD Xc04 hx hZ ec04 V_qa_c04 (j := (2 : Int32)) (x := d2) (by decide) rfl (hb hby own_d2_60) (pc' := 61) rfl ?_
    refine own_s_aloadN Xc04.here hx (hb hby own_d2_61) (pc' := 62) rfl rfl rfl ?_
    refine own_s_iload Xc04.here hx (hb hby own_d2_62) (pc' := 64) rfl rfl ?_
    refine own_s_iload Xc04.here hx (hb hby own_d2_64) (pc' := 66) rfl rfl ?_
    refine own_s_imul Xc04.here hx (hb hby own_d2_66) (pc' := 67) rfl (v := (0 : Int32)) (by decide) ?_
    refine own_s_iload Xc04.here hx (hb hby own_d2_67) (pc' := 69) rfl rfl ?_
    refine own_s_iadd Xc04.here hx (hb hby own_d2_69) (pc' := 70) rfl (v := (0 : Int32)) (by decide) ?_
    refine own_ldD Xc04 hx hZ ec04 V_qb_c04 (j := (0 : Int32)) (x := ee0) (by decide) rfl (hb hby own_d2_70) (pc' := 71) rfl ?_
    refine own_s_dmul Xc04.here hx (hb hby own_d2_71) (pc' := 72) rfl c0_hn71_7 (v := c0_v71_7) c0_hv71_7 ?_
    refine own_s_dadd Xc04.here hx (hb hby own_d2_72) (pc' := 73) rfl c0_hn72_7 (v := c0_v72_7) c0_hv72_7 ?_
    refine own_s_dstore Xc04.here hx (hb hby own_d2_73) (pc' := 75) rfl (L' := #[.val (.ref qa), .val (.ref qb), .val (.int (2 : Int32)), .val (.int (3 : Int32)), .val (.int (3 : Int32)), .val (.ref bc01), .val (.int (1 : Int32)), .val (.int (0 : Int32)), .val (.double c0_v72_7), .second, .val (.int (0 : Int32))]) rfl ?_
    refine own_s_iinc Xc04.here hx (hb hby own_d2_75) (pc' := 78) rfl rfl (v := (1 : Int32)) (by decide) (L' := #[.val (.ref qa), .val (.ref qb), .val (.int (2 : Int32)), .val (.int (3 : Int32)), .val (.int (3 : Int32)), .val (.ref bc01), .val (.int (1 : Int32)), .val (.int (0 : Int32)), .val (.double c0_v72_7), .second, .val (.int (1 : Int32))]) rfl ?_
    refine own_s_goto Xc04.here hx (hb hby own_d2_78) (by decide) (pc' := 44) (by decide) ?_
    refine own_s_iload Xc04.here hx (hb hby own_d2_44) (pc' := 46) rfl rfl ?_
    refine own_s_iloadN Xc04.here hx (hb hby own_d2_46) (pc' := 47) rfl rfl ?_
    refine own_s_icmpNo Xc04.here hx (hb hby own_d2_47) (pc' := 50) rfl (by decide) ?_
    refine own_s_dload Xc04.here hx (hb hby own_d2_50) (pc' := 52) rfl rfl ?_
    refine own_s_aloadN Xc04.here hx (hb hby own_d2_52) (pc' := 53) rfl rfl rfl ?_
    refine own_s_iload Xc04.here hx (hb hby own_d2_53) (pc' := 55) rfl rfl ?_
    refine own_s_iloadN Xc04.here hx (hb hby own_d2_55) (pc' := 56) rfl rfl ?_
    refine own_s_imul Xc04.here hx (hb hby own_d2_56) (pc' := 57) rfl (v := (2 : Int32)) (by decide) ?_
    refine own_s_iload Xc04.here hx (hb hby own_d2_57) (pc' := 59) rfl rfl ?_
    refine own_s_iadd Xc04.here hx (hb hby own_d2_59) (pc' := 60) rfl (v := (3 : Int32)) (by decide) ?_
    refine own_ldD Xc04 hx hZ ec04 V_qa_c04 (j := (3 : Int32)) (x := d3) (by decide) rfl (hb hby own_d2_60) (pc' := 61) rfl ?_
    refine own_s_aloadN Xc04.here hx (hb hby own_d2_61) (pc' := 62) rfl rfl rfl ?_
    refine own_s_iload Xc04.here hx (hb hby own_d2_62) (pc' := 64) rfl rfl ?_
    refine own_s_iload Xc04.here hx (hb hby own_d2_64) (pc' := 66) rfl rfl ?_
    refine own_s_imul Xc04.here hx (hb hby own_d2_66) (pc' := 67) rfl (v := (3 : Int32)) (by decide) ?_
    refine own_s_iload Xc04.here hx (hb hby own_d2_67) (pc' := 69) rfl rfl ?_
    refine own_s_iadd Xc04.here hx (hb hby own_d2_69) (pc' := 70) rfl (v := (3 : Int32)) (by decide) ?_
    refine own_ldD Xc04 hx hZ ec04 V_qb_c04 (j := (3 : Int32)) (x := ee3) (by decide) rfl (hb hby own_d2_70) (pc' := 71) rfl ?_
    refine own_s_dmul Xc04.here hx (hb hby own_d2_71) (pc' := 72) rfl c0_hn71_8 (v := c0_v71_8) c0_hv71_8 ?_
    refine own_s_dadd Xc04.here hx (hb hby own_d2_72) (pc' := 73) rfl c0_hn72_8 (v := c0_v72_8) c0_hv72_8 ?_
    refine own_s_dstore Xc04.here hx (hb hby own_d2_73) (pc' := 75) rfl (L' := #[.val (.ref qa), .val (.ref qb), .val (.int (2 : Int32)), .val (.int (3 : Int32)), .val (.int (3 : Int32)), .val (.ref bc01), .val (.int (1 : Int32)), .val (.int (0 : Int32)), .val (.double c0_v72_8), .second, .val (.int (1 : Int32))]) rfl ?_
    refine own_s_iinc Xc04.here hx (hb hby own_d2_75) (pc' := 78) rfl rfl (v := (2 : Int32)) (by decide) (L' := #[.val (.ref qa), .val (.ref qb), .val (.int (2 : Int32)), .val (.int (3 : Int32)), .val (.int (3 : Int32)), .val (.ref bc01), .val (.int (1 : Int32)), .val (.int (0 : Int32)), .val (.double c0_v72_8), .second, .val (.int (2 : Int32))]) rfl ?_
    refine own_s_goto Xc04.here hx (hb hby own_d2_78) (by decide) (pc' := 44) (by decide) ?_
    refine own_s_iload Xc04.here hx (hb hby own_d2_44) (pc' := 46) rfl rfl ?_
    refine own_s_iloadN Xc04.here hx (hb hby own_d2_46) (pc' := 47) rfl rfl ?_
    refine own_s_icmpYes Xc04.here hx (hb hby own_d2_47) (by decide) (pc' := 81) (by decide) (by decide) ?_
    refine own_s_aload Xc04.here hx (hb hby own_d2_81) (pc' := 83) rfl rfl rfl ?_
    refine own_s_iload Xc04.here hx (hb hby own_d2_83) (pc' := 85) rfl rfl ?_
    refine own_s_iload Xc04.here hx (hb hby own_d2_85) (pc' := 87) rfl rfl ?_
    refine own_s_imul Xc04.here hx (hb hby own_d2_87) (pc' := 88) rfl (v := (3 : Int32)) (by decide) ?_
    refine own_s_iload Xc04.here hx (hb hby own_d2_88) (pc' := 90) rfl rfl ?_
    refine own_s_iadd Xc04.here hx (hb hby own_d2_90) (pc' := 91) rfl (v := (3 : Int32)) (by decide) ?_
    refine own_s_dload Xc04.here hx (hb hby own_d2_91) (pc' := 93) rfl rfl ?_
    refine stc05 _ ?_
    refine own_s_iinc Xc05.here hx (hb hby own_d2_94) (pc' := 97) rfl rfl (v := (1 : Int32)) (by decide) (L' := #[.val (.ref qa), .val (.ref qb), .val (.int (2 : Int32)), .val (.int (3 : Int32)), .val (.int (3 : Int32)), .val (.ref bc01), .val (.int (1 : Int32)), .val (.int (1 : Int32)), .val (.double c0_v72_8), .second, .val (.int (2 : Int32))]) rfl ?_
    refine own_s_goto Xc05.here hx (hb hby own_d2_97) (by decide) (pc' := 31) (by decide) ?_
    refine own_s_iload Xc05.here hx (hb hby own_d2_31) (pc' := 33) rfl rfl ?_
    refine own_s_iload Xc05.here hx (hb hby own_d2_33) (pc' := 35) rfl rfl ?_
    refine own_s_icmpNo Xc05.here hx (hb hby own_d2_35) (pc' := 38) rfl (by decide) ?_
    refine own_s_dconst0 Xc05.here hx (hb hby own_d2_38) (pc' := 39) rfl  ?_
    refine own_s_dstore Xc05.here hx (hb hby own_d2_39) (pc' := 41) rfl (L' := #[.val (.ref qa), .val (.ref qb), .val (.int (2 : Int32)), .val (.int (3 : Int32)), .val (.int (3 : Int32)), .val (.ref bc01), .val (.int (1 : Int32)), .val (.int (1 : Int32)), .val (.double 0), .second, .val (.int (2 : Int32))]) rfl ?_
    refine own_s_iconst Xc05.here hx (hb hby own_d2_41) (pc' := 42) rfl (v := (0 : Int32)) (by decide) ?_
    refine own_s_istore Xc05.here hx (hb hby own_d2_42) (pc' := 44) rfl (L' := #[.val (.ref qa), .val (.ref qb), .val (.int (2 : Int32)), .val (.int (3 : Int32)), .val (.int (3 : Int32)), .val (.ref bc01), .val (.int (1 : Int32)), .val (.int (1 : Int32)), .val (.double 0), .second, .val (.int (0 : Int32))]) rfl ?_
    refine own_s_iload Xc05.here hx (hb hby own_d2_44) (pc' := 46) rfl rfl ?_
    refine own_s_iloadN Xc05.here hx (hb hby own_d2_46) (pc' := 47) rfl rfl ?_
    refine own_s_icmpNo Xc05.here hx (hb hby own_d2_47) (pc' := 50) rfl (by decide) ?_
    refine own_s_dload Xc05.here hx (hb hby own_d2_50) (pc' := 52) rfl rfl ?_
    refine own_s_aloadN Xc05.here hx (hb hby own_d2_52) (pc' := 53) rfl rfl rfl ?_
    refine own_s_iload Xc05.here hx (hb hby own_d2_53) (pc' := 55) rfl rfl ?_
    refine own_s_iloadN Xc05.here hx (hb hby own_d2_55) (pc' := 56) rfl rfl ?_
    refine own_s_imul Xc05.here hx (hb hby own_d2_56) (pc' := 57) rfl (v := (2 : Int32)) (by decide) ?_
    refine own_s_iload Xc05.here hx (hb hby own_d2_57) (pc' := 59) rfl rfl ?_
    refine own_s_iadd Xc05.here hx (hb hby own_d2_59) (pc' := 60) rfl (v := (2 : Int32)) (by decide) ?_
    refine own_ldD Xc05 hx hZ ec05 V_qa_c05 (j := (2 : Int32)) (x := d2) (by decide) rfl (hb hby own_d2_60) (pc' := 61) rfl ?_
    refine own_s_aloadN Xc05.here hx (hb hby own_d2_61) (pc' := 62) rfl rfl rfl ?_
    refine own_s_iload Xc05.here hx (hb hby own_d2_62) (pc' := 64) rfl rfl ?_
    refine own_s_iload Xc05.here hx (hb hby own_d2_64) (pc' := 66) rfl rfl ?_
    refine own_s_imul Xc05.here hx (hb hby own_d2_66) (pc' := 67) rfl (v := (0 : Int32)) (by decide) ?_
    refine own_s_iload Xc05.here hx (hb hby own_d2_67) (pc' := 69) rfl rfl ?_
    refine own_s_iadd Xc05.here hx (hb hby own_d2_69) (pc' := 70) rfl (v := (1 : Int32)) (by decide) ?_
    refine own_ldD Xc05 hx hZ ec05 V_qb_c05 (j := (1 : Int32)) (x := ee1) (by decide) rfl (hb hby own_d2_70) (pc' := 71) rfl ?_
    refine own_s_dmul Xc05.here hx (hb hby own_d2_71) (pc' := 72) rfl c0_hn71_9 (v := c0_v71_9) c0_hv71_9 ?_
    refine own_s_dadd Xc05.here hx (hb hby own_d2_72) (pc' := 73) rfl c0_hn72_9 (v := c0_v72_9) c0_hv72_9 ?_
    refine own_s_dstore Xc05.here hx (hb hby own_d2_73) (pc' := 75) rfl (L' := #[.val (.ref qa), .val (.ref qb), .val (.int (2 : Int32)), .val (.int (3 : Int32)), .val (.int (3 : Int32)), .val (.ref bc01), .val (.int (1 : Int32)), .val (.int (1 : Int32)), .val (.double c0_v72_9), .second, .val (.int (0 : Int32))]) rfl ?_
    refine own_s_iinc Xc05.here hx (hb hby own_d2_75) (pc' := 78) rfl rfl (v := (1 : Int32)) (by decide) (L' := #[.val (.ref qa), .val (.ref qb), .val (.int (2 : Int32)), .val (.int (3 : Int32)), .val (.int (3 : Int32)), .val (.ref bc01), .val (.int (1 : Int32)), .val (.int (1 : Int32)), .val (.double c0_v72_9), .second, .val (.int (1 : Int32))]) rfl ?_
    refine own_s_goto Xc05.here hx (hb hby own_d2_78) (by decide) (pc' := 44) (by decide) ?_
    refine own_s_iload Xc05.here hx (hb hby own_d2_44) (pc' := 46) rfl rfl ?_
    refine own_s_iloadN Xc05.here hx (hb hby own_d2_46) (pc' := 47) rfl rfl ?_
    refine own_s_icmpNo Xc05.here hx (hb hby own_d2_47) (pc' := 50) rfl (by decide) ?_
    refine own_s_dload Xc05.here hx (hb hby own_d2_50) (pc' := 52) rfl rfl ?_
    refine own_s_aloadN Xc05.here hx (hb hby own_d2_52) (pc' := 53) rfl rfl rfl ?_
    refine own_s_iload Xc05.here hx (hb hby own_d2_53) (pc' := 55) rfl rfl ?_
    refine own_s_iloadN Xc05.here hx (hb hby own_d2_55) (pc' := 56) rfl rfl ?_
    refine own_s_imul Xc05.here hx (hb hby own_d2_56) (pc' := 57) rfl (v := (2 : Int32)) (by decide) ?_
    refine own_s_iload Xc05.here hx (hb hby own_d2_57) (pc' := 59) rfl rfl ?_
    refine own_s_iadd Xc05.here hx (hb hby own_d2_59) (pc' := 60) rfl (v := (3 : Int32)) (by decide) ?_
    refine own_ldD Xc05 hx hZ ec05 V_qa_c05 (j := (3 : Int32)) (x := d3) (by decide) rfl (hb hby own_d2_60) (pc' := 61) rfl ?_
    refine own_s_aloadN Xc05.here hx (hb hby own_d2_61) (pc' := 62) rfl rfl rfl ?_
    refine own_s_iload Xc05.here hx (hb hby own_d2_62) (pc' := 64) rfl rfl ?_
    refine own_s_iload Xc05.here hx (hb hby own_d2_64) (pc' := 66) rfl rfl ?_
    refine own_s_imul Xc05.here hx (hb hby own_d2_66) (pc' := 67) rfl (v := (3 : Int32)) (by decide) ?_
    refine own_s_iload Xc05.here hx (hb hby own_d2_67) (pc' := 69) rfl rfl ?_
    refine own_s_iadd Xc05.here hx (hb hby own_d2_69) (pc' := 70) rfl (v := (4 : Int32)) (by decide) ?_
    refine own_ldD Xc05 hx hZ ec05 V_qb_c05 (j := (4 : Int32)) (x := ee4) (by decide) rfl (hb hby own_d2_70) (pc' := 71) rfl ?_
    refine own_s_dmul Xc05.here hx (hb hby own_d2_71) (pc' := 72) rfl c0_hn71_10 (v := c0_v71_10) c0_hv71_10 ?_
    refine own_s_dadd Xc05.here hx (hb hby own_d2_72) (pc' := 73) rfl c0_hn72_10 (v := c0_v72_10) c0_hv72_10 ?_
    refine own_s_dstore Xc05.here hx (hb hby own_d2_73) (pc' := 75) rfl (L' := #[.val (.ref qa), .val (.ref qb), .val (.int (2 : Int32)), .val (.int (3 : Int32)), .val (.int (3 : Int32)), .val (.ref bc01), .val (.int (1 : Int32)), .val (.int (1 : Int32)), .val (.double c0_v72_10), .second, .val (.int (1 : Int32))]) rfl ?_
    refine own_s_iinc Xc05.here hx (hb hby own_d2_75) (pc' := 78) rfl rfl (v := (2 : Int32)) (by decide) (L' := #[.val (.ref qa), .val (.ref qb), .val (.int (2 : Int32)), .val (.int (3 : Int32)), .val (.int (3 : Int32)), .val (.ref bc01), .val (.int (1 : Int32)), .val (.int (1 : Int32)), .val (.double c0_v72_10), .second, .val (.int (2 : Int32))]) rfl ?_
    refine own_s_goto Xc05.here hx (hb hby own_d2_78) (by decide) (pc' := 44) (by decide) ?_
    refine own_s_iload Xc05.here hx (hb hby own_d2_44) (pc' := 46) rfl rfl ?_
    refine own_s_iloadN Xc05.here hx (hb hby own_d2_46) (pc' := 47) rfl rfl ?_
    refine own_s_icmpYes Xc05.here hx (hb hby own_d2_47) (by decide) (pc' := 81) (by decide) (by decide) ?_
    refine own_s_aload Xc05.here hx (hb hby own_d2_81) (pc' := 83) rfl rfl rfl ?_
    refine own_s_iload Xc05.here hx (hb hby own_d2_83) (pc' := 85) rfl rfl ?_
    refine own_s_iload Xc05.here hx (hb hby own_d2_85) (pc' := 87) rfl rfl ?_
    refine own_s_imul Xc05.here hx (hb hby own_d2_87) (pc' := 88) rfl (v := (3 : Int32)) (by decide) ?_
    refine own_s_iload Xc05.here hx (hb hby own_d2_88) (pc' := 90) rfl rfl ?_
    refine own_s_iadd Xc05.here hx (hb hby own_d2_90) (pc' := 91) rfl (v := (4 : Int32)) (by decide) ?_
    refine own_s_dload Xc05.here hx (hb hby own_d2_91) (pc' := 93) rfl rfl ?_
    refine stc06 _ ?_
    refine own_s_iinc Xc06.here hx (hb hby own_d2_94) (pc' := 97) rfl rfl (v := (2 : Int32)) (by decide) (L' := #[.val (.ref qa), .val (.ref qb), .val (.int (2 : Int32)), .val (.int (3 : Int32)), .val (.int (3 : Int32)), .val (.ref bc01), .val (.int (1 : Int32)), .val (.int (2 : Int32)), .val (.double c0_v72_10), .second, .val (.int (2 : Int32))]) rfl ?_
    refine own_s_goto Xc06.here hx (hb hby own_d2_97) (by decide) (pc' := 31) (by decide) ?_
    refine own_s_iload Xc06.here hx (hb hby own_d2_31) (pc' := 33) rfl rfl ?_
    refine own_s_iload Xc06.here hx (hb hby own_d2_33) (pc' := 35) rfl rfl ?_
    refine own_s_icmpNo Xc06.here hx (hb hby own_d2_35) (pc' := 38) rfl (by decide) ?_
    refine own_s_dconst0 Xc06.here hx (hb hby own_d2_38) (pc' := 39) rfl  ?_
    refine own_s_dstore Xc06.here hx (hb hby own_d2_39) (pc' := 41) rfl (L' := #[.val (.ref qa), .val (.ref qb), .val (.int (2 : Int32)), .val (.int (3 : Int32)), .val (.int (3 : Int32)), .val (.ref bc01), .val (.int (1 : Int32)), .val (.int (2 : Int32)), .val (.double 0), .second, .val (.int (2 : Int32))]) rfl ?_
    refine own_s_iconst Xc06.here hx (hb hby own_d2_41) (pc' := 42) rfl (v := (0 : Int32)) (by decide) ?_
    refine own_s_istore Xc06.here hx (hb hby own_d2_42) (pc' := 44) rfl (L' := #[.val (.ref qa), .val (.ref qb), .val (.int (2 : Int32)), .val (.int (3 : Int32)), .val (.int (3 : Int32)), .val (.ref bc01), .val (.int (1 : Int32)), .val (.int (2 : Int32)), .val (.double 0), .second, .val (.int (0 : Int32))]) rfl ?_
    refine own_s_iload Xc06.here hx (hb hby own_d2_44) (pc' := 46) rfl rfl ?_
    refine own_s_iloadN Xc06.here hx (hb hby own_d2_46) (pc' := 47) rfl rfl ?_
    refine own_s_icmpNo Xc06.here hx (hb hby own_d2_47) (pc' := 50) rfl (by decide) ?_
    refine own_s_dload Xc06.here hx (hb hby own_d2_50) (pc' := 52) rfl rfl ?_
    refine own_s_aloadN Xc06.here hx (hb hby own_d2_52) (pc' := 53) rfl rfl rfl ?_
    refine own_s_iload Xc06.here hx (hb hby own_d2_53) (pc' := 55) rfl rfl ?_
    refine own_s_iloadN Xc06.here hx (hb hby own_d2_55) (pc' := 56) rfl rfl ?_
    refine own_s_imul Xc06.here hx (hb hby own_d2_56) (pc' := 57) rfl (v := (2 : Int32)) (by decide) ?_
    refine own_s_iload Xc06.here hx (hb hby own_d2_57) (pc' := 59) rfl rfl ?_
    refine own_s_iadd Xc06.here hx (hb hby own_d2_59) (pc' := 60) rfl (v := (2 : Int32)) (by decide) ?_
    refine own_ldD Xc06 hx hZ ec06 V_qa_c06 (j := (2 : Int32)) (x := d2) (by decide) rfl (hb hby own_d2_60) (pc' := 61) rfl ?_
    refine own_s_aloadN Xc06.here hx (hb hby own_d2_61) (pc' := 62) rfl rfl rfl ?_
    refine own_s_iload Xc06.here hx (hb hby own_d2_62) (pc' := 64) rfl rfl ?_
    refine own_s_iload Xc06.here hx (hb hby own_d2_64) (pc' := 66) rfl rfl ?_
    refine own_s_imul Xc06.here hx (hb hby own_d2_66) (pc' := 67) rfl (v := (0 : Int32)) (by decide) ?_
    refine own_s_iload Xc06.here hx (hb hby own_d2_67) (pc' := 69) rfl rfl ?_
    refine own_s_iadd Xc06.here hx (hb hby own_d2_69) (pc' := 70) rfl (v := (2 : Int32)) (by decide) ?_
    refine own_ldD Xc06 hx hZ ec06 V_qb_c06 (j := (2 : Int32)) (x := ee2) (by decide) rfl (hb hby own_d2_70) (pc' := 71) rfl ?_
    refine own_s_dmul Xc06.here hx (hb hby own_d2_71) (pc' := 72) rfl c0_hn71_11 (v := c0_v71_11) c0_hv71_11 ?_
    refine own_s_dadd Xc06.here hx (hb hby own_d2_72) (pc' := 73) rfl c0_hn72_11 (v := c0_v72_11) c0_hv72_11 ?_
    refine own_s_dstore Xc06.here hx (hb hby own_d2_73) (pc' := 75) rfl (L' := #[.val (.ref qa), .val (.ref qb), .val (.int (2 : Int32)), .val (.int (3 : Int32)), .val (.int (3 : Int32)), .val (.ref bc01), .val (.int (1 : Int32)), .val (.int (2 : Int32)), .val (.double c0_v72_11), .second, .val (.int (0 : Int32))]) rfl ?_
    refine own_s_iinc Xc06.here hx (hb hby own_d2_75) (pc' := 78) rfl rfl (v := (1 : Int32)) (by decide) (L' := #[.val (.ref qa), .val (.ref qb), .val (.int (2 : Int32)), .val (.int (3 : Int32)), .val (.int (3 : Int32)), .val (.ref bc01), .val (.int (1 : Int32)), .val (.int (2 : Int32)), .val (.double c0_v72_11), .second, .val (.int (1 : Int32))]) rfl ?_
    refine own_s_goto Xc06.here hx (hb hby own_d2_78) (by decide) (pc' := 44) (by decide) ?_
    refine own_s_iload Xc06.here hx (hb hby own_d2_44) (pc' := 46) rfl rfl ?_
    refine own_s_iloadN Xc06.here hx (hb hby own_d2_46) (pc' := 47) rfl rfl ?_
    refine own_s_icmpNo Xc06.here hx (hb hby own_d2_47) (pc' := 50) rfl (by decide) ?_
    refine own_s_dload Xc06.here hx (hb hby own_d2_50) (pc' := 52) rfl rfl ?_
    refine own_s_aloadN Xc06.here hx (hb hby own_d2_52) (pc' := 53) rfl rfl rfl ?_
    refine own_s_iload Xc06.here hx (hb hby own_d2_53) (pc' := 55) rfl rfl ?_
    refine own_s_iloadN Xc06.here hx (hb hby own_d2_55) (pc' := 56) rfl rfl ?_
    refine own_s_imul Xc06.here hx (hb hby own_d2_56) (pc' := 57) rfl (v := (2 : Int32)) (by decide) ?_
    refine own_s_iload Xc06.here hx (hb hby own_d2_57) (pc' := 59) rfl rfl ?_
    refine own_s_iadd Xc06.here hx (hb hby own_d2_59) (pc' := 60) rfl (v := (3 : Int32)) (by decide) ?_
    refine own_ldD Xc06 hx hZ ec06 V_qa_c06 (j := (3 : Int32)) (x := d3) (by decide) rfl (hb hby own_d2_60) (pc' := 61) rfl ?_
    refine own_s_aloadN Xc06.here hx (hb hby own_d2_61) (pc' := 62) rfl rfl rfl ?_
    refine own_s_iload Xc06.here hx (hb hby own_d2_62) (pc' := 64) rfl rfl ?_
    refine own_s_iload Xc06.here hx (hb hby own_d2_64) (pc' := 66) rfl rfl ?_
    refine own_s_imul Xc06.here hx (hb hby own_d2_66) (pc' := 67) rfl (v := (3 : Int32)) (by decide) ?_
    refine own_s_iload Xc06.here hx (hb hby own_d2_67) (pc' := 69) rfl rfl ?_
    refine own_s_iadd Xc06.here hx (hb hby own_d2_69) (pc' := 70) rfl (v := (5 : Int32)) (by decide) ?_
    refine own_ldD Xc06 hx hZ ec06 V_qb_c06 (j := (5 : Int32)) (x := ee5) (by decide) rfl (hb hby own_d2_70) (pc' := 71) rfl ?_
    refine own_s_dmul Xc06.here hx (hb hby own_d2_71) (pc' := 72) rfl c0_hn71_12 (v := c0_v71_12) c0_hv71_12 ?_
    refine own_s_dadd Xc06.here hx (hb hby own_d2_72) (pc' := 73) rfl c0_hn72_12 (v := c0_v72_12) c0_hv72_12 ?_
    refine own_s_dstore Xc06.here hx (hb hby own_d2_73) (pc' := 75) rfl (L' := #[.val (.ref qa), .val (.ref qb), .val (.int (2 : Int32)), .val (.int (3 : Int32)), .val (.int (3 : Int32)), .val (.ref bc01), .val (.int (1 : Int32)), .val (.int (2 : Int32)), .val (.double c0_v72_12), .second, .val (.int (1 : Int32))]) rfl ?_
    refine own_s_iinc Xc06.here hx (hb hby own_d2_75) (pc' := 78) rfl rfl (v := (2 : Int32)) (by decide) (L' := #[.val (.ref qa), .val (.ref qb), .val (.int (2 : Int32)), .val (.int (3 : Int32)), .val (.int (3 : Int32)), .val (.ref bc01), .val (.int (1 : Int32)), .val (.int (2 : Int32)), .val (.double c0_v72_12), .second, .val (.int (2 : Int32))]) rfl ?_
    refine own_s_goto Xc06.here hx (hb hby own_d2_78) (by decide) (pc' := 44) (by decide) ?_
    refine own_s_iload Xc06.here hx (hb hby own_d2_44) (pc' := 46) rfl rfl ?_
    refine own_s_iloadN Xc06.here hx (hb hby own_d2_46) (pc' := 47) rfl rfl ?_
    refine own_s_icmpYes Xc06.here hx (hb hby own_d2_47) (by decide) (pc' := 81) (by decide) (by decide) ?_
    refine own_s_aload Xc06.here hx (hb hby own_d2_81) (pc' := 83) rfl rfl rfl ?_
    refine own_s_iload Xc06.here hx (hb hby own_d2_83) (pc' := 85) rfl rfl ?_
    refine own_s_iload Xc06.here hx (hb hby own_d2_85) (pc' := 87) rfl rfl ?_
    refine own_s_imul Xc06.here hx (hb hby own_d2_87) (pc' := 88) rfl (v := (3 : Int32)) (by decide) ?_
    refine own_s_iload Xc06.here hx (hb hby own_d2_88) (pc' := 90) rfl rfl ?_
    refine own_s_iadd Xc06.here hx (hb hby own_d2_90) (pc' := 91) rfl (v := (5 : Int32)) (by decide) ?_
    refine own_s_dload Xc06.here hx (hb hby own_d2_91) (pc' := 93) rfl rfl ?_
    refine stc07 _ ?_
    refine own_s_iinc Xc07.here hx (hb hby own_d2_94) (pc' := 97) rfl rfl (v := (3 : Int32)) (by decide) (L' := #[.val (.ref qa), .val (.ref qb), .val (.int (2 : Int32)), .val (.int (3 : Int32)), .val (.int (3 : Int32)), .val (.ref bc01), .val (.int (1 : Int32)), .val (.int (3 : Int32)), .val (.double c0_v72_12), .second, .val (.int (2 : Int32))]) rfl ?_
    refine own_s_goto Xc07.here hx (hb hby own_d2_97) (by decide) (pc' := 31) (by decide) ?_
    refine own_s_iload Xc07.here hx (hb hby own_d2_31) (pc' := 33) rfl rfl ?_
    refine own_s_iload Xc07.here hx (hb hby own_d2_33) (pc' := 35) rfl rfl ?_
    refine own_s_icmpYes Xc07.here hx (hb hby own_d2_35) (by decide) (pc' := 100) (by decide) (by decide) ?_
    refine own_s_iinc Xc07.here hx (hb hby own_d2_100) (pc' := 103) rfl rfl (v := (2 : Int32)) (by decide) (L' := #[.val (.ref qa), .val (.ref qb), .val (.int (2 : Int32)), .val (.int (3 : Int32)), .val (.int (3 : Int32)), .val (.ref bc01), .val (.int (2 : Int32)), .val (.int (3 : Int32)), .val (.double c0_v72_12), .second, .val (.int (2 : Int32))]) rfl ?_
    refine own_s_goto Xc07.here hx (hb hby own_d2_103) (by decide) (pc' := 22) (by decide) ?_
    refine own_s_iload Xc07.here hx (hb hby own_d2_22) (pc' := 24) rfl rfl ?_
    refine own_s_iloadN Xc07.here hx (hb hby own_d2_24) (pc' := 25) rfl rfl ?_
    refine own_s_icmpNo Xc07.here hx (hb hby own_d2_25) (pc' := 28) rfl (by decide) ?_
    refine own_s_iconst Xc07.here hx (hb hby own_d2_28) (pc' := 29) rfl (v := (0 : Int32)) (by decide) ?_
    refine own_s_istore Xc07.here hx (hb hby own_d2_29) (pc' := 31) rfl (L' := #[.val (.ref qa), .val (.ref qb), .val (.int (2 : Int32)), .val (.int (3 : Int32)), .val (.int (3 : Int32)), .val (.ref bc01), .val (.int (2 : Int32)), .val (.int (0 : Int32)), .val (.double c0_v72_12), .second, .val (.int (2 : Int32))]) rfl ?_
    refine own_s_iload Xc07.here hx (hb hby own_d2_31) (pc' := 33) rfl rfl ?_
    refine own_s_iload Xc07.here hx (hb hby own_d2_33) (pc' := 35) rfl rfl ?_
    refine own_s_icmpNo Xc07.here hx (hb hby own_d2_35) (pc' := 38) rfl (by decide) ?_
    refine own_s_dconst0 Xc07.here hx (hb hby own_d2_38) (pc' := 39) rfl  ?_
    refine own_s_dstore Xc07.here hx (hb hby own_d2_39) (pc' := 41) rfl (L' := #[.val (.ref qa), .val (.ref qb), .val (.int (2 : Int32)), .val (.int (3 : Int32)), .val (.int (3 : Int32)), .val (.ref bc01), .val (.int (2 : Int32)), .val (.int (0 : Int32)), .val (.double 0), .second, .val (.int (2 : Int32))]) rfl ?_
    refine own_s_iconst Xc07.here hx (hb hby own_d2_41) (pc' := 42) rfl (v := (0 : Int32)) (by decide) ?_
    refine own_s_istore Xc07.here hx (hb hby own_d2_42) (pc' := 44) rfl (L' := #[.val (.ref qa), .val (.ref qb), .val (.int (2 : Int32)), .val (.int (3 : Int32)), .val (.int (3 : Int32)), .val (.ref bc01), .val (.int (2 : Int32)), .val (.int (0 : Int32)), .val (.double 0), .second, .val (.int (0 : Int32))]) rfl ?_
    refine own_s_iload Xc07.here hx (hb hby own_d2_44) (pc' := 46) rfl rfl ?_
    refine own_s_iloadN Xc07.here hx (hb hby own_d2_46) (pc' := 47) rfl rfl ?_
    refine own_s_icmpNo Xc07.here hx (hb hby own_d2_47) (pc' := 50) rfl (by decide) ?_
    refine own_s_dload Xc07.here hx (hb hby own_d2_50) (pc' := 52) rfl rfl ?_
    refine own_s_aloadN Xc07.here hx (hb hby own_d2_52) (pc' := 53) rfl rfl rfl ?_
    refine own_s_iload Xc07.here hx (hb hby own_d2_53) (pc' := 55) rfl rfl ?_
    refine own_s_iloadN Xc07.here hx (hb hby own_d2_55) (pc' := 56) rfl rfl ?_
    refine own_s_imul Xc07.here hx (hb hby own_d2_56) (pc' := 57) rfl (v := (4 : Int32)) (by decide) ?_
    refine own_s_iload Xc07.here hx (hb hby own_d2_57) (pc' := 59) rfl rfl ?_
    refine own_s_iadd Xc07.here hx (hb hby own_d2_59) (pc' := 60) rfl (v := (4 : Int32)) (by decide) ?_
    refine own_ldD Xc07 hx hZ ec07 V_qa_c07 (j := (4 : Int32)) (x := d4) (by decide) rfl (hb hby own_d2_60) (pc' := 61) rfl ?_
    refine own_s_aloadN Xc07.here hx (hb hby own_d2_61) (pc' := 62) rfl rfl rfl ?_
    refine own_s_iload Xc07.here hx (hb hby own_d2_62) (pc' := 64) rfl rfl ?_
    refine own_s_iload Xc07.here hx (hb hby own_d2_64) (pc' := 66) rfl rfl ?_
    refine own_s_imul Xc07.here hx (hb hby own_d2_66) (pc' := 67) rfl (v := (0 : Int32)) (by decide) ?_
    refine own_s_iload Xc07.here hx (hb hby own_d2_67) (pc' := 69) rfl rfl ?_
    refine own_s_iadd Xc07.here hx (hb hby own_d2_69) (pc' := 70) rfl (v := (0 : Int32)) (by decide) ?_
    refine own_ldD Xc07 hx hZ ec07 V_qb_c07 (j := (0 : Int32)) (x := ee0) (by decide) rfl (hb hby own_d2_70) (pc' := 71) rfl ?_
    refine own_s_dmul Xc07.here hx (hb hby own_d2_71) (pc' := 72) rfl c0_hn71_13 (v := c0_v71_13) c0_hv71_13 ?_
    refine own_s_dadd Xc07.here hx (hb hby own_d2_72) (pc' := 73) rfl c0_hn72_13 (v := c0_v72_13) c0_hv72_13 ?_
    refine own_s_dstore Xc07.here hx (hb hby own_d2_73) (pc' := 75) rfl (L' := #[.val (.ref qa), .val (.ref qb), .val (.int (2 : Int32)), .val (.int (3 : Int32)), .val (.int (3 : Int32)), .val (.ref bc01), .val (.int (2 : Int32)), .val (.int (0 : Int32)), .val (.double c0_v72_13), .second, .val (.int (0 : Int32))]) rfl ?_
    refine own_s_iinc Xc07.here hx (hb hby own_d2_75) (pc' := 78) rfl rfl (v := (1 : Int32)) (by decide) (L' := #[.val (.ref qa), .val (.ref qb), .val (.int (2 : Int32)), .val (.int (3 : Int32)), .val (.int (3 : Int32)), .val (.ref bc01), .val (.int (2 : Int32)), .val (.int (0 : Int32)), .val (.double c0_v72_13), .second, .val (.int (1 : Int32))]) rfl ?_
    refine own_s_goto Xc07.here hx (hb hby own_d2_78) (by decide) (pc' := 44) (by decide) ?_
    refine own_s_iload Xc07.here hx (hb hby own_d2_44) (pc' := 46) rfl rfl ?_
    refine own_s_iloadN Xc07.here hx (hb hby own_d2_46) (pc' := 47) rfl rfl ?_
    refine own_s_icmpNo Xc07.here hx (hb hby own_d2_47) (pc' := 50) rfl (by decide) ?_
    refine own_s_dload Xc07.here hx (hb hby own_d2_50) (pc' := 52) rfl rfl ?_
    refine own_s_aloadN Xc07.here hx (hb hby own_d2_52) (pc' := 53) rfl rfl rfl ?_
    refine own_s_iload Xc07.here hx (hb hby own_d2_53) (pc' := 55) rfl rfl ?_
    refine own_s_iloadN Xc07.here hx (hb hby own_d2_55) (pc' := 56) rfl rfl ?_
    refine own_s_imul Xc07.here hx (hb hby own_d2_56) (pc' := 57) rfl (v := (4 : Int32)) (by decide) ?_
    refine own_s_iload Xc07.here hx (hb hby own_d2_57) (pc' := 59) rfl rfl ?_
    refine own_s_iadd Xc07.here hx (hb hby own_d2_59) (pc' := 60) rfl (v := (5 : Int32)) (by decide) ?_
    refine own_ldD Xc07 hx hZ ec07 V_qa_c07 (j := (5 : Int32)) (x := d5) (by decide) rfl (hb hby own_d2_60) (pc' := 61) rfl ?_
    refine own_s_aloadN Xc07.here hx (hb hby own_d2_61) (pc' := 62) rfl rfl rfl ?_
    refine own_s_iload Xc07.here hx (hb hby own_d2_62) (pc' := 64) rfl rfl ?_
    refine own_s_iload Xc07.here hx (hb hby own_d2_64) (pc' := 66) rfl rfl ?_
    refine own_s_imul Xc07.here hx (hb hby own_d2_66) (pc' := 67) rfl (v := (3 : Int32)) (by decide) ?_
    refine own_s_iload Xc07.here hx (hb hby own_d2_67) (pc' := 69) rfl rfl ?_
    refine own_s_iadd Xc07.here hx (hb hby own_d2_69) (pc' := 70) rfl (v := (3 : Int32)) (by decide) ?_
    refine own_ldD Xc07 hx hZ ec07 V_qb_c07 (j := (3 : Int32)) (x := ee3) (by decide) rfl (hb hby own_d2_70) (pc' := 71) rfl ?_
    refine own_s_dmul Xc07.here hx (hb hby own_d2_71) (pc' := 72) rfl c0_hn71_14 (v := c0_v71_14) c0_hv71_14 ?_
    refine own_s_dadd Xc07.here hx (hb hby own_d2_72) (pc' := 73) rfl c0_hn72_14 (v := c0_v72_14) c0_hv72_14 ?_
    refine own_s_dstore Xc07.here hx (hb hby own_d2_73) (pc' := 75) rfl (L' := #[.val (.ref qa), .val (.ref qb), .val (.int (2 : Int32)), .val (.int (3 : Int32)), .val (.int (3 : Int32)), .val (.ref bc01), .val (.int (2 : Int32)), .val (.int (0 : Int32)), .val (.double c0_v72_14), .second, .val (.int (1 : Int32))]) rfl ?_
    refine own_s_iinc Xc07.here hx (hb hby own_d2_75) (pc' := 78) rfl rfl (v := (2 : Int32)) (by decide) (L' := #[.val (.ref qa), .val (.ref qb), .val (.int (2 : Int32)), .val (.int (3 : Int32)), .val (.int (3 : Int32)), .val (.ref bc01), .val (.int (2 : Int32)), .val (.int (0 : Int32)), .val (.double c0_v72_14), .second, .val (.int (2 : Int32))]) rfl ?_
    refine own_s_goto Xc07.here hx (hb hby own_d2_78) (by decide) (pc' := 44) (by decide) ?_
    refine own_s_iload Xc07.here hx (hb hby own_d2_44) (pc' := 46) rfl rfl ?_
    refine own_s_iloadN Xc07.here hx (hb hby own_d2_46) (pc' := 47) rfl rfl ?_
    refine own_s_icmpYes Xc07.here hx (hb hby own_d2_47) (by decide) (pc' := 81) (by decide) (by decide) ?_
    refine own_s_aload Xc07.here hx (hb hby own_d2_81) (pc' := 83) rfl rfl rfl ?_
    refine own_s_iload Xc07.here hx (hb hby own_d2_83) (pc' := 85) rfl rfl ?_
    refine own_s_iload Xc07.here hx (hb hby own_d2_85) (pc' := 87) rfl rfl ?_
    refine own_s_imul Xc07.here hx (hb hby own_d2_87) (pc' := 88) rfl (v := (6 : Int32)) (by decide) ?_
    refine own_s_iload Xc07.here hx (hb hby own_d2_88) (pc' := 90) rfl rfl ?_
    refine own_s_iadd Xc07.here hx (hb hby own_d2_90) (pc' := 91) rfl (v := (6 : Int32)) (by decide) ?_
    refine own_s_dload Xc07.here hx (hb hby own_d2_91) (pc' := 93) rfl rfl ?_
    refine stc08 _ ?_
    refine own_s_iinc Xc08.here hx (hb hby own_d2_94) (pc' := 97) rfl rfl (v := (1 : Int32)) (by decide) (L' := #[.val (.ref qa), .val (.ref qb), .val (.int (2 : Int32)), .val (.int (3 : Int32)), .val (.int (3 : Int32)), .val (.ref bc01), .val (.int (2 : Int32)), .val (.int (1 : Int32)), .val (.double c0_v72_14), .second, .val (.int (2 : Int32))]) rfl ?_
    refine own_s_goto Xc08.here hx (hb hby own_d2_97) (by decide) (pc' := 31) (by decide) ?_
    refine own_s_iload Xc08.here hx (hb hby own_d2_31) (pc' := 33) rfl rfl ?_
    refine own_s_iload Xc08.here hx (hb hby own_d2_33) (pc' := 35) rfl rfl ?_
    refine own_s_icmpNo Xc08.here hx (hb hby own_d2_35) (pc' := 38) rfl (by decide) ?_
    refine own_s_dconst0 Xc08.here hx (hb hby own_d2_38) (pc' := 39) rfl  ?_
    refine own_s_dstore Xc08.here hx (hb hby own_d2_39) (pc' := 41) rfl (L' := #[.val (.ref qa), .val (.ref qb), .val (.int (2 : Int32)), .val (.int (3 : Int32)), .val (.int (3 : Int32)), .val (.ref bc01), .val (.int (2 : Int32)), .val (.int (1 : Int32)), .val (.double 0), .second, .val (.int (2 : Int32))]) rfl ?_
    refine own_s_iconst Xc08.here hx (hb hby own_d2_41) (pc' := 42) rfl (v := (0 : Int32)) (by decide) ?_
    refine own_s_istore Xc08.here hx (hb hby own_d2_42) (pc' := 44) rfl (L' := #[.val (.ref qa), .val (.ref qb), .val (.int (2 : Int32)), .val (.int (3 : Int32)), .val (.int (3 : Int32)), .val (.ref bc01), .val (.int (2 : Int32)), .val (.int (1 : Int32)), .val (.double 0), .second, .val (.int (0 : Int32))]) rfl ?_
    refine own_s_iload Xc08.here hx (hb hby own_d2_44) (pc' := 46) rfl rfl ?_
    refine own_s_iloadN Xc08.here hx (hb hby own_d2_46) (pc' := 47) rfl rfl ?_
    refine own_s_icmpNo Xc08.here hx (hb hby own_d2_47) (pc' := 50) rfl (by decide) ?_
    refine own_s_dload Xc08.here hx (hb hby own_d2_50) (pc' := 52) rfl rfl ?_
    refine own_s_aloadN Xc08.here hx (hb hby own_d2_52) (pc' := 53) rfl rfl rfl ?_
    refine own_s_iload Xc08.here hx (hb hby own_d2_53) (pc' := 55) rfl rfl ?_
    refine own_s_iloadN Xc08.here hx (hb hby own_d2_55) (pc' := 56) rfl rfl ?_
    refine own_s_imul Xc08.here hx (hb hby own_d2_56) (pc' := 57) rfl (v := (4 : Int32)) (by decide) ?_
    refine own_s_iload Xc08.here hx (hb hby own_d2_57) (pc' := 59) rfl rfl ?_
    refine own_s_iadd Xc08.here hx (hb hby own_d2_59) (pc' := 60) rfl (v := (4 : Int32)) (by decide) ?_
    refine own_ldD Xc08 hx hZ ec08 V_qa_c08 (j := (4 : Int32)) (x := d4) (by decide) rfl (hb hby own_d2_60) (pc' := 61) rfl ?_
    refine own_s_aloadN Xc08.here hx (hb hby own_d2_61) (pc' := 62) rfl rfl rfl ?_
    refine own_s_iload Xc08.here hx (hb hby own_d2_62) (pc' := 64) rfl rfl ?_
    refine own_s_iload Xc08.here hx (hb hby own_d2_64) (pc' := 66) rfl rfl ?_
    refine own_s_imul Xc08.here hx (hb hby own_d2_66) (pc' := 67) rfl (v := (0 : Int32)) (by decide) ?_
    refine own_s_iload Xc08.here hx (hb hby own_d2_67) (pc' := 69) rfl rfl ?_
    refine own_s_iadd Xc08.here hx (hb hby own_d2_69) (pc' := 70) rfl (v := (1 : Int32)) (by decide) ?_
    refine own_ldD Xc08 hx hZ ec08 V_qb_c08 (j := (1 : Int32)) (x := ee1) (by decide) rfl (hb hby own_d2_70) (pc' := 71) rfl ?_
    refine own_s_dmul Xc08.here hx (hb hby own_d2_71) (pc' := 72) rfl c0_hn71_15 (v := c0_v71_15) c0_hv71_15 ?_
    refine own_s_dadd Xc08.here hx (hb hby own_d2_72) (pc' := 73) rfl c0_hn72_15 (v := c0_v72_15) c0_hv72_15 ?_
    refine own_s_dstore Xc08.here hx (hb hby own_d2_73) (pc' := 75) rfl (L' := #[.val (.ref qa), .val (.ref qb), .val (.int (2 : Int32)), .val (.int (3 : Int32)), .val (.int (3 : Int32)), .val (.ref bc01), .val (.int (2 : Int32)), .val (.int (1 : Int32)), .val (.double c0_v72_15), .second, .val (.int (0 : Int32))]) rfl ?_
    refine own_s_iinc Xc08.here hx (hb hby own_d2_75) (pc' := 78) rfl rfl (v := (1 : Int32)) (by decide) (L' := #[.val (.ref qa), .val (.ref qb), .val (.int (2 : Int32)), .val (.int (3 : Int32)), .val (.int (3 : Int32)), .val (.ref bc01), .val (.int (2 : Int32)), .val (.int (1 : Int32)), .val (.double c0_v72_15), .second, .val (.int (1 : Int32))]) rfl ?_
    refine own_s_goto Xc08.here hx (hb hby own_d2_78) (by decide) (pc' := 44) (by decide) ?_
    refine own_s_iload Xc08.here hx (hb hby own_d2_44) (pc' := 46) rfl rfl ?_
    refine own_s_iloadN Xc08.here hx (hb hby own_d2_46) (pc' := 47) rfl rfl ?_
    refine own_s_icmpNo Xc08.here hx (hb hby own_d2_47) (pc' := 50) rfl (by decide) ?_
    refine own_s_dload Xc08.here hx (hb hby own_d2_50) (pc' := 52) rfl rfl ?_
    refine own_s_aloadN Xc08.here hx (hb hby own_d2_52) (pc' := 53) rfl rfl rfl ?_
    refine own_s_iload Xc08.here hx (hb hby own_d2_53) (pc' := 55) rfl rfl ?_
    refine own_s_iloadN Xc08.here hx (hb hby own_d2_55) (pc' := 56) rfl rfl ?_
    refine own_s_imul Xc08.here hx (hb hby own_d2_56) (pc' := 57) rfl (v := (4 : Int32)) (by decide) ?_
    refine own_s_iload Xc08.here hx (hb hby own_d2_57) (pc' := 59) rfl rfl ?_
    refine own_s_iadd Xc08.here hx (hb hby own_d2_59) (pc' := 60) rfl (v := (5 : Int32)) (by decide) ?_
    refine own_ldD Xc08 hx hZ ec08 V_qa_c08 (j := (5 : Int32)) (x := d5) (by decide) rfl (hb hby own_d2_60) (pc' := 61) rfl ?_
    refine own_s_aloadN Xc08.here hx (hb hby own_d2_61) (pc' := 62) rfl rfl rfl ?_
    refine own_s_iload Xc08.here hx (hb hby own_d2_62) (pc' := 64) rfl rfl ?_
    refine own_s_iload Xc08.here hx (hb hby own_d2_64) (pc' := 66) rfl rfl ?_
    refine own_s_imul Xc08.here hx (hb hby own_d2_66) (pc' := 67) rfl (v := (3 : Int32)) (by decide) ?_
    refine own_s_iload Xc08.here hx (hb hby own_d2_67) (pc' := 69) rfl rfl ?_
    refine own_s_iadd Xc08.here hx (hb hby own_d2_69) (pc' := 70) rfl (v := (4 : Int32)) (by decide) ?_
    refine own_ldD Xc08 hx hZ ec08 V_qb_c08 (j := (4 : Int32)) (x := ee4) (by decide) rfl (hb hby own_d2_70) (pc' := 71) rfl ?_
    refine own_s_dmul Xc08.here hx (hb hby own_d2_71) (pc' := 72) rfl c0_hn71_16 (v := c0_v71_16) c0_hv71_16 ?_
    refine own_s_dadd Xc08.here hx (hb hby own_d2_72) (pc' := 73) rfl c0_hn72_16 (v := c0_v72_16) c0_hv72_16 ?_
    refine own_s_dstore Xc08.here hx (hb hby own_d2_73) (pc' := 75) rfl (L' := #[.val (.ref qa), .val (.ref qb), .val (.int (2 : Int32)), .val (.int (3 : Int32)), .val (.int (3 : Int32)), .val (.ref bc01), .val (.int (2 : Int32)), .val (.int (1 : Int32)), .val (.double c0_v72_16), .second, .val (.int (1 : Int32))]) rfl ?_
    refine own_s_iinc Xc08.here hx (hb hby own_d2_75) (pc' := 78) rfl rfl (v := (2 : Int32)) (by decide) (L' := #[.val (.ref qa), .val (.ref qb), .val (.int (2 : Int32)), .val (.int (3 : Int32)), .val (.int (3 : Int32)), .val (.ref bc01), .val (.int (2 : Int32)), .val (.int (1 : Int32)), .val (.double c0_v72_16), .second, .val (.int (2 : Int32))]) rfl ?_
    refine own_s_goto Xc08.here hx (hb hby own_d2_78) (by decide) (pc' := 44) (by decide) ?_
    refine own_s_iload Xc08.here hx (hb hby own_d2_44) (pc' := 46) rfl rfl ?_
    refine own_s_iloadN Xc08.here hx (hb hby own_d2_46) (pc' := 47) rfl rfl ?_
    refine own_s_icmpYes Xc08.here hx (hb hby own_d2_47) (by decide) (pc' := 81) (by decide) (by decide) ?_
    refine own_s_aload Xc08.here hx (hb hby own_d2_81) (pc' := 83) rfl rfl rfl ?_
    refine own_s_iload Xc08.here hx (hb hby own_d2_83) (pc' := 85) rfl rfl ?_
    refine own_s_iload Xc08.here hx (hb hby own_d2_85) (pc' := 87) rfl rfl ?_
    refine own_s_imul Xc08.here hx (hb hby own_d2_87) (pc' := 88) rfl (v := (6 : Int32)) (by decide) ?_
    refine own_s_iload Xc08.here hx (hb hby own_d2_88) (pc' := 90) rfl rfl ?_
    refine own_s_iadd Xc08.here hx (hb hby own_d2_90) (pc' := 91) rfl (v := (7 : Int32)) (by decide) ?_
    refine own_s_dload Xc08.here hx (hb hby own_d2_91) (pc' := 93) rfl rfl ?_
    refine stc09 _ ?_
    refine own_s_iinc Xc09.here hx (hb hby own_d2_94) (pc' := 97) rfl rfl (v := (2 : Int32)) (by decide) (L' := #[.val (.ref qa), .val (.ref qb), .val (.int (2 : Int32)), .val (.int (3 : Int32)), .val (.int (3 : Int32)), .val (.ref bc01), .val (.int (2 : Int32)), .val (.int (2 : Int32)), .val (.double c0_v72_16), .second, .val (.int (2 : Int32))]) rfl ?_
    refine own_s_goto Xc09.here hx (hb hby own_d2_97) (by decide) (pc' := 31) (by decide) ?_
    refine own_s_iload Xc09.here hx (hb hby own_d2_31) (pc' := 33) rfl rfl ?_
    refine own_s_iload Xc09.here hx (hb hby own_d2_33) (pc' := 35) rfl rfl ?_
    refine own_s_icmpNo Xc09.here hx (hb hby own_d2_35) (pc' := 38) rfl (by decide) ?_
    refine own_s_dconst0 Xc09.here hx (hb hby own_d2_38) (pc' := 39) rfl  ?_
    refine own_s_dstore Xc09.here hx (hb hby own_d2_39) (pc' := 41) rfl (L' := #[.val (.ref qa), .val (.ref qb), .val (.int (2 : Int32)), .val (.int (3 : Int32)), .val (.int (3 : Int32)), .val (.ref bc01), .val (.int (2 : Int32)), .val (.int (2 : Int32)), .val (.double 0), .second, .val (.int (2 : Int32))]) rfl ?_
    refine own_s_iconst Xc09.here hx (hb hby own_d2_41) (pc' := 42) rfl (v := (0 : Int32)) (by decide) ?_
    refine own_s_istore Xc09.here hx (hb hby own_d2_42) (pc' := 44) rfl (L' := #[.val (.ref qa), .val (.ref qb), .val (.int (2 : Int32)), .val (.int (3 : Int32)), .val (.int (3 : Int32)), .val (.ref bc01), .val (.int (2 : Int32)), .val (.int (2 : Int32)), .val (.double 0), .second, .val (.int (0 : Int32))]) rfl ?_
    refine own_s_iload Xc09.here hx (hb hby own_d2_44) (pc' := 46) rfl rfl ?_
    refine own_s_iloadN Xc09.here hx (hb hby own_d2_46) (pc' := 47) rfl rfl ?_
    refine own_s_icmpNo Xc09.here hx (hb hby own_d2_47) (pc' := 50) rfl (by decide) ?_
    refine own_s_dload Xc09.here hx (hb hby own_d2_50) (pc' := 52) rfl rfl ?_
    refine own_s_aloadN Xc09.here hx (hb hby own_d2_52) (pc' := 53) rfl rfl rfl ?_
    refine own_s_iload Xc09.here hx (hb hby own_d2_53) (pc' := 55) rfl rfl ?_
    refine own_s_iloadN Xc09.here hx (hb hby own_d2_55) (pc' := 56) rfl rfl ?_
    refine own_s_imul Xc09.here hx (hb hby own_d2_56) (pc' := 57) rfl (v := (4 : Int32)) (by decide) ?_
    refine own_s_iload Xc09.here hx (hb hby own_d2_57) (pc' := 59) rfl rfl ?_
    refine own_s_iadd Xc09.here hx (hb hby own_d2_59) (pc' := 60) rfl (v := (4 : Int32)) (by decide) ?_
    refine own_ldD Xc09 hx hZ ec09 V_qa_c09 (j := (4 : Int32)) (x := d4) (by decide) rfl (hb hby own_d2_60) (pc' := 61) rfl ?_
    refine own_s_aloadN Xc09.here hx (hb hby own_d2_61) (pc' := 62) rfl rfl rfl ?_
    refine own_s_iload Xc09.here hx (hb hby own_d2_62) (pc' := 64) rfl rfl ?_
    refine own_s_iload Xc09.here hx (hb hby own_d2_64) (pc' := 66) rfl rfl ?_
    refine own_s_imul Xc09.here hx (hb hby own_d2_66) (pc' := 67) rfl (v := (0 : Int32)) (by decide) ?_
    refine own_s_iload Xc09.here hx (hb hby own_d2_67) (pc' := 69) rfl rfl ?_
    refine own_s_iadd Xc09.here hx (hb hby own_d2_69) (pc' := 70) rfl (v := (2 : Int32)) (by decide) ?_
    refine own_ldD Xc09 hx hZ ec09 V_qb_c09 (j := (2 : Int32)) (x := ee2) (by decide) rfl (hb hby own_d2_70) (pc' := 71) rfl ?_
    refine own_s_dmul Xc09.here hx (hb hby own_d2_71) (pc' := 72) rfl c0_hn71_17 (v := c0_v71_17) c0_hv71_17 ?_
    refine own_s_dadd Xc09.here hx (hb hby own_d2_72) (pc' := 73) rfl c0_hn72_17 (v := c0_v72_17) c0_hv72_17 ?_
    refine own_s_dstore Xc09.here hx (hb hby own_d2_73) (pc' := 75) rfl (L' := #[.val (.ref qa), .val (.ref qb), .val (.int (2 : Int32)), .val (.int (3 : Int32)), .val (.int (3 : Int32)), .val (.ref bc01), .val (.int (2 : Int32)), .val (.int (2 : Int32)), .val (.double c0_v72_17), .second, .val (.int (0 : Int32))]) rfl ?_
    refine own_s_iinc Xc09.here hx (hb hby own_d2_75) (pc' := 78) rfl rfl (v := (1 : Int32)) (by decide) (L' := #[.val (.ref qa), .val (.ref qb), .val (.int (2 : Int32)), .val (.int (3 : Int32)), .val (.int (3 : Int32)), .val (.ref bc01), .val (.int (2 : Int32)), .val (.int (2 : Int32)), .val (.double c0_v72_17), .second, .val (.int (1 : Int32))]) rfl ?_
    refine own_s_goto Xc09.here hx (hb hby own_d2_78) (by decide) (pc' := 44) (by decide) ?_
    refine own_s_iload Xc09.here hx (hb hby own_d2_44) (pc' := 46) rfl rfl ?_
    refine own_s_iloadN Xc09.here hx (hb hby own_d2_46) (pc' := 47) rfl rfl ?_
    refine own_s_icmpNo Xc09.here hx (hb hby own_d2_47) (pc' := 50) rfl (by decide) ?_
    refine own_s_dload Xc09.here hx (hb hby own_d2_50) (pc' := 52) rfl rfl ?_
    refine own_s_aloadN Xc09.here hx (hb hby own_d2_52) (pc' := 53) rfl rfl rfl ?_
    refine own_s_iload Xc09.here hx (hb hby own_d2_53) (pc' := 55) rfl rfl ?_
    refine own_s_iloadN Xc09.here hx (hb hby own_d2_55) (pc' := 56) rfl rfl ?_
    refine own_s_imul Xc09.here hx (hb hby own_d2_56) (pc' := 57) rfl (v := (4 : Int32)) (by decide) ?_
    refine own_s_iload Xc09.here hx (hb hby own_d2_57) (pc' := 59) rfl rfl ?_
    refine own_s_iadd Xc09.here hx (hb hby own_d2_59) (pc' := 60) rfl (v := (5 : Int32)) (by decide) ?_
    refine own_ldD Xc09 hx hZ ec09 V_qa_c09 (j := (5 : Int32)) (x := d5) (by decide) rfl (hb hby own_d2_60) (pc' := 61) rfl ?_
    refine own_s_aloadN Xc09.here hx (hb hby own_d2_61) (pc' := 62) rfl rfl rfl ?_
    refine own_s_iload Xc09.here hx (hb hby own_d2_62) (pc' := 64) rfl rfl ?_
    refine own_s_iload Xc09.here hx (hb hby own_d2_64) (pc' := 66) rfl rfl ?_
    refine own_s_imul Xc09.here hx (hb hby own_d2_66) (pc' := 67) rfl (v := (3 : Int32)) (by decide) ?_
    refine own_s_iload Xc09.here hx (hb hby own_d2_67) (pc' := 69) rfl rfl ?_
    refine own_s_iadd Xc09.here hx (hb hby own_d2_69) (pc' := 70) rfl (v := (5 : Int32)) (by decide) ?_
    refine own_ldD Xc09 hx hZ ec09 V_qb_c09 (j := (5 : Int32)) (x := ee5) (by decide) rfl (hb hby own_d2_70) (pc' := 71) rfl ?_
    refine own_s_dmul Xc09.here hx (hb hby own_d2_71) (pc' := 72) rfl c0_hn71_18 (v := c0_v71_18) c0_hv71_18 ?_
    refine own_s_dadd Xc09.here hx (hb hby own_d2_72) (pc' := 73) rfl c0_hn72_18 (v := c0_v72_18) c0_hv72_18 ?_
    refine own_s_dstore Xc09.here hx (hb hby own_d2_73) (pc' := 75) rfl (L' := #[.val (.ref qa), .val (.ref qb), .val (.int (2 : Int32)), .val (.int (3 : Int32)), .val (.int (3 : Int32)), .val (.ref bc01), .val (.int (2 : Int32)), .val (.int (2 : Int32)), .val (.double c0_v72_18), .second, .val (.int (1 : Int32))]) rfl ?_
    refine own_s_iinc Xc09.here hx (hb hby own_d2_75) (pc' := 78) rfl rfl (v := (2 : Int32)) (by decide) (L' := #[.val (.ref qa), .val (.ref qb), .val (.int (2 : Int32)), .val (.int (3 : Int32)), .val (.int (3 : Int32)), .val (.ref bc01), .val (.int (2 : Int32)), .val (.int (2 : Int32)), .val (.double c0_v72_18), .second, .val (.int (2 : Int32))]) rfl ?_
    refine own_s_goto Xc09.here hx (hb hby own_d2_78) (by decide) (pc' := 44) (by decide) ?_
    refine own_s_iload Xc09.here hx (hb hby own_d2_44) (pc' := 46) rfl rfl ?_
    refine own_s_iloadN Xc09.here hx (hb hby own_d2_46) (pc' := 47) rfl rfl ?_
    refine own_s_icmpYes Xc09.here hx (hb hby own_d2_47) (by decide) (pc' := 81) (by decide) (by decide) ?_
    refine own_s_aload Xc09.here hx (hb hby own_d2_81) (pc' := 83) rfl rfl rfl ?_
    refine own_s_iload Xc09.here hx (hb hby own_d2_83) (pc' := 85) rfl rfl ?_
    refine own_s_iload Xc09.here hx (hb hby own_d2_85) (pc' := 87) rfl rfl ?_
    refine own_s_imul Xc09.here hx (hb hby own_d2_87) (pc' := 88) rfl (v := (6 : Int32)) (by decide) ?_
    refine own_s_iload Xc09.here hx (hb hby own_d2_88) (pc' := 90) rfl rfl ?_
    refine own_s_iadd Xc09.here hx (hb hby own_d2_90) (pc' := 91) rfl (v := (8 : Int32)) (by decide) ?_
    refine own_s_dload Xc09.here hx (hb hby own_d2_91) (pc' := 93) rfl rfl ?_
    refine stc010 _ ?_
    refine own_s_iinc Xc010.here hx (hb hby own_d2_94) (pc' := 97) rfl rfl (v := (3 : Int32)) (by decide) (L' := #[.val (.ref qa), .val (.ref qb), .val (.int (2 : Int32)), .val (.int (3 : Int32)), .val (.int (3 : Int32)), .val (.ref bc01), .val (.int (2 : Int32)), .val (.int (3 : Int32)), .val (.double c0_v72_18), .second, .val (.int (2 : Int32))]) rfl ?_
    refine own_s_goto Xc010.here hx (hb hby own_d2_97) (by decide) (pc' := 31) (by decide) ?_
    refine own_s_iload Xc010.here hx (hb hby own_d2_31) (pc' := 33) rfl rfl ?_
    refine own_s_iload Xc010.here hx (hb hby own_d2_33) (pc' := 35) rfl rfl ?_
    refine own_s_icmpYes Xc010.here hx (hb hby own_d2_35) (by decide) (pc' := 100) (by decide) (by decide) ?_
    refine own_s_iinc Xc010.here hx (hb hby own_d2_100) (pc' := 103) rfl rfl (v := (3 : Int32)) (by decide) (L' := #[.val (.ref qa), .val (.ref qb), .val (.int (2 : Int32)), .val (.int (3 : Int32)), .val (.int (3 : Int32)), .val (.ref bc01), .val (.int (3 : Int32)), .val (.int (3 : Int32)), .val (.double c0_v72_18), .second, .val (.int (2 : Int32))]) rfl ?_
    refine own_s_goto Xc010.here hx (hb hby own_d2_103) (by decide) (pc' := 22) (by decide) ?_
    refine own_s_iload Xc010.here hx (hb hby own_d2_22) (pc' := 24) rfl rfl ?_
    refine own_s_iloadN Xc010.here hx (hb hby own_d2_24) (pc' := 25) rfl rfl ?_
    refine own_s_icmpYes Xc010.here hx (hb hby own_d2_25) (by decide) (pc' := 106) (by decide) (by decide) ?_
    refine own_s_aload Xc010.here hx (hb hby own_d2_106) (pc' := 108) rfl rfl rfl ?_
    exact own_retR Xc010 hx Bd.returns rfl (hb hby own_d2_108) hr
  · show own_Q_c0 Z qa d0 d1 d2 d3 d4 d5 qb ee0 ee1 ee2 ee3 ee4 ee5 qak qbk c0_v71 c0_v72 c0_v71_2 c0_v72_2 c0_v71_3 c0_v72_3 c0_v71_4 c0_v72_4 c0_v71_5 c0_v72_5 c0_v71_6 c0_v72_6 c0_v71_7 c0_v72_7 c0_v71_8 c0_v72_8 c0_v71_9 c0_v72_9 c0_v71_10 c0_v72_10 c0_v71_11 c0_v72_11 c0_v71_12 c0_v72_12 c0_v71_13 c0_v72_13 c0_v71_14 c0_v72_14 c0_v71_15 c0_v72_15 c0_v71_16 c0_v72_16 c0_v71_17 c0_v72_17 c0_v71_18 c0_v72_18 h0 n0 _ Tc010.heap _
    rw [ec010]
    exact ⟨bc01, kc01, rfl, Nc010, KKc010, sz_bc01, V_bc01_c010⟩
theorem own_pd_28JI29I : parseMethodDescriptor "(JI)I" = some ⟨[.long, .int], some .int⟩ := by decide +kernel
theorem own_pd_285bD5bDI295bD : parseMethodDescriptor "([D[DI)[D" = some ⟨[(.array .double), (.array .double), .int], some (.array .double)⟩ := by decide +kernel
theorem own_pd_28DI29Z : parseMethodDescriptor "(DI)Z" = some ⟨[.double, .int], some .boolean⟩ := by decide +kernel
theorem own_ef_w0 (m : MethodId) (p0 : Int64) (p1 : Int64) (p2 : Int32) : entryFrame m #[(.long p0), (.long p1), (.int p2)] maxLocals = mkF m 0 #[.val (.long p0), .second, .val (.long p1), .second, .val (.int p2), .unset, .unset, .unset, .unset, .unset, .unset, .unset, .unset, .unset, .unset, .unset, .unset, .unset, .unset, .unset, .unset] [] := by first | (simp [entryFrame, mkF, argsToLocals, Value.category, maxLocals]; done) | rfl
set_option maxRecDepth 65536 in
set_option maxHeartbeats 40000000 in
theorem own_rm_w0 (l : Launch) (Z : State) (a0 : Array Value) (hw : ∀ d ∈ tables_1, d.before a0 Z = true) (ws : List Jvm.Cond) (p0 : Int64) (p1 : Int64) (p2 : Int32) {w0_c2_a0_v5 : Int64} {w0_c2_a0_v6 : Int32} {w0_c2_a0_v7 : Int32} {w0_c9_a1_v5 : Int64} {w0_c9_a1_v6 : Int32} {w0_c9_a1_v7 : Int32} {w0_c16_a2_v5 : Int64} {w0_c16_a2_v6 : Int32} {w0_c16_a2_v7 : Int32} {w0_c23_a3_v5 : Int64} {w0_c23_a3_v6 : Int32} {w0_c23_a3_v7 : Int32} {w0_c30_a4_v5 : Int64} {w0_c30_a4_v6 : Int32} {w0_c30_a4_v7 : Int32} {w0_c37_a5_v5 : Int64} {w0_c37_a5_v6 : Int32} {w0_c37_a5_v7 : Int32} {w0_c44_a0_v5 : Int64} {w0_c44_a0_v6 : Int32} {w0_c44_a0_v7 : Int32} {w0_c51_a1_v5 : Int64} {w0_c51_a1_v6 : Int32} {w0_c51_a1_v7 : Int32} {w0_c58_a2_v5 : Int64} {w0_c58_a2_v6 : Int32} {w0_c58_a2_v7 : Int32} {w0_c65_a3_v5 : Int64} {w0_c65_a3_v6 : Int32} {w0_c65_a3_v7 : Int32} {w0_c72_a4_v5 : Int64} {w0_c72_a4_v6 : Int32} {w0_c72_a4_v7 : Int32} {w0_c79_a5_v5 : Int64} {w0_c79_a5_v6 : Int32} {w0_c79_a5_v7 : Int32} {w0_v172 : Int32} {w0_c187_c0_v71 : UInt64} {w0_c187_c0_v72 : UInt64} {w0_c187_c0_v71_2 : UInt64} {w0_c187_c0_v72_2 : UInt64} {w0_c187_c0_v71_3 : UInt64} {w0_c187_c0_v72_3 : UInt64} {w0_c187_c0_v71_4 : UInt64} {w0_c187_c0_v72_4 : UInt64} {w0_c187_c0_v71_5 : UInt64} {w0_c187_c0_v72_5 : UInt64} {w0_c187_c0_v71_6 : UInt64} {w0_c187_c0_v72_6 : UInt64} {w0_c187_c0_v71_7 : UInt64} {w0_c187_c0_v72_7 : UInt64} {w0_c187_c0_v71_8 : UInt64} {w0_c187_c0_v72_8 : UInt64} {w0_c187_c0_v71_9 : UInt64} {w0_c187_c0_v72_9 : UInt64} {w0_c187_c0_v71_10 : UInt64} {w0_c187_c0_v72_10 : UInt64} {w0_c187_c0_v71_11 : UInt64} {w0_c187_c0_v72_11 : UInt64} {w0_c187_c0_v71_12 : UInt64} {w0_c187_c0_v72_12 : UInt64} {w0_c187_c0_v71_13 : UInt64} {w0_c187_c0_v72_13 : UInt64} {w0_c187_c0_v71_14 : UInt64} {w0_c187_c0_v72_14 : UInt64} {w0_c187_c0_v71_15 : UInt64} {w0_c187_c0_v72_15 : UInt64} {w0_c187_c0_v71_16 : UInt64} {w0_c187_c0_v72_16 : UInt64} {w0_c187_c0_v71_17 : UInt64} {w0_c187_c0_v72_17 : UInt64} {w0_c187_c0_v71_18 : UInt64} {w0_c187_c0_v72_18 : UInt64} {w0_v210 : Int32} {w0_v215 : Int32} {w0_v216 : Int32} {w0_v231 : Int32} {w0_v236 : Int32} {w0_v237 : Int32} {w0_v252 : Int32} {w0_v257 : Int32} {w0_v258 : Int32} {w0_v273 : Int32} {w0_v278 : Int32} {w0_v279 : Int32} {w0_v294 : Int32} {w0_v299 : Int32} {w0_v300 : Int32} {w0_v315 : Int32} {w0_v320 : Int32} {w0_v321 : Int32} {w0_v337 : Int32} {w0_v342 : Int32} {w0_v343 : Int32} {w0_v359 : Int32} {w0_v364 : Int32} {w0_v365 : Int32} {w0_v381 : Int32} {w0_v386 : Int32} {w0_v387 : Int32} (h0 : Heap) (n0 : Nat) (Z0 : n0 ≤ h0.size)  (w0_c2_a0_hv5 : p0 >>> ((0 : Int32) &&& 63).toInt64 = w0_c2_a0_v5) (w0_c2_a0_hv6 : Int64.toInt32 w0_c2_a0_v5 = w0_c2_a0_v6) (w0_c2_a0_hv7 : (Int32.toInt8 w0_c2_a0_v6).toInt32 = w0_c2_a0_v7) (w0_c9_a1_hv5 : p0 >>> ((8 : Int32) &&& 63).toInt64 = w0_c9_a1_v5) (w0_c9_a1_hv6 : Int64.toInt32 w0_c9_a1_v5 = w0_c9_a1_v6) (w0_c9_a1_hv7 : (Int32.toInt8 w0_c9_a1_v6).toInt32 = w0_c9_a1_v7) (w0_c16_a2_hv5 : p0 >>> ((16 : Int32) &&& 63).toInt64 = w0_c16_a2_v5) (w0_c16_a2_hv6 : Int64.toInt32 w0_c16_a2_v5 = w0_c16_a2_v6) (w0_c16_a2_hv7 : (Int32.toInt8 w0_c16_a2_v6).toInt32 = w0_c16_a2_v7) (w0_c23_a3_hv5 : p0 >>> ((24 : Int32) &&& 63).toInt64 = w0_c23_a3_v5) (w0_c23_a3_hv6 : Int64.toInt32 w0_c23_a3_v5 = w0_c23_a3_v6) (w0_c23_a3_hv7 : (Int32.toInt8 w0_c23_a3_v6).toInt32 = w0_c23_a3_v7) (w0_c30_a4_hv5 : p0 >>> ((32 : Int32) &&& 63).toInt64 = w0_c30_a4_v5) (w0_c30_a4_hv6 : Int64.toInt32 w0_c30_a4_v5 = w0_c30_a4_v6) (w0_c30_a4_hv7 : (Int32.toInt8 w0_c30_a4_v6).toInt32 = w0_c30_a4_v7) (w0_c37_a5_hv5 : p0 >>> ((40 : Int32) &&& 63).toInt64 = w0_c37_a5_v5) (w0_c37_a5_hv6 : Int64.toInt32 w0_c37_a5_v5 = w0_c37_a5_v6) (w0_c37_a5_hv7 : (Int32.toInt8 w0_c37_a5_v6).toInt32 = w0_c37_a5_v7) (w0_c44_a0_hv5 : p1 >>> ((0 : Int32) &&& 63).toInt64 = w0_c44_a0_v5) (w0_c44_a0_hv6 : Int64.toInt32 w0_c44_a0_v5 = w0_c44_a0_v6) (w0_c44_a0_hv7 : (Int32.toInt8 w0_c44_a0_v6).toInt32 = w0_c44_a0_v7) (w0_c51_a1_hv5 : p1 >>> ((8 : Int32) &&& 63).toInt64 = w0_c51_a1_v5) (w0_c51_a1_hv6 : Int64.toInt32 w0_c51_a1_v5 = w0_c51_a1_v6) (w0_c51_a1_hv7 : (Int32.toInt8 w0_c51_a1_v6).toInt32 = w0_c51_a1_v7) (w0_c58_a2_hv5 : p1 >>> ((16 : Int32) &&& 63).toInt64 = w0_c58_a2_v5) (w0_c58_a2_hv6 : Int64.toInt32 w0_c58_a2_v5 = w0_c58_a2_v6) (w0_c58_a2_hv7 : (Int32.toInt8 w0_c58_a2_v6).toInt32 = w0_c58_a2_v7) (w0_c65_a3_hv5 : p1 >>> ((24 : Int32) &&& 63).toInt64 = w0_c65_a3_v5) (w0_c65_a3_hv6 : Int64.toInt32 w0_c65_a3_v5 = w0_c65_a3_v6) (w0_c65_a3_hv7 : (Int32.toInt8 w0_c65_a3_v6).toInt32 = w0_c65_a3_v7) (w0_c72_a4_hv5 : p1 >>> ((32 : Int32) &&& 63).toInt64 = w0_c72_a4_v5) (w0_c72_a4_hv6 : Int64.toInt32 w0_c72_a4_v5 = w0_c72_a4_v6) (w0_c72_a4_hv7 : (Int32.toInt8 w0_c72_a4_v6).toInt32 = w0_c72_a4_v7) (w0_c79_a5_hv5 : p1 >>> ((40 : Int32) &&& 63).toInt64 = w0_c79_a5_v5) (w0_c79_a5_hv6 : Int64.toInt32 w0_c79_a5_v5 = w0_c79_a5_v6) (w0_c79_a5_hv7 : (Int32.toInt8 w0_c79_a5_v6).toInt32 = w0_c79_a5_v7) (w0_hv172 : p2 &&& (2147483647 : Int32) = w0_v172) (w0_hv174 : w0_v172 % (3 : Int32) = (0 : Int32)) (w0_c187_c0_hn71 : Jvm.Free.Fl.NoNaN64 (FP.dmul (FP.i2d w0_c2_a0_v7) (FP.i2d w0_c44_a0_v7))) (w0_c187_c0_hv71 : FP.dmul (FP.i2d w0_c2_a0_v7) (FP.i2d w0_c44_a0_v7) = w0_c187_c0_v71) (w0_c187_c0_hn72 : Jvm.Free.Fl.NoNaN64 (FP.dadd 0 w0_c187_c0_v71)) (w0_c187_c0_hv72 : FP.dadd 0 w0_c187_c0_v71 = w0_c187_c0_v72) (w0_c187_c0_hn71_2 : Jvm.Free.Fl.NoNaN64 (FP.dmul (FP.i2d w0_c9_a1_v7) (FP.i2d w0_c65_a3_v7))) (w0_c187_c0_hv71_2 : FP.dmul (FP.i2d w0_c9_a1_v7) (FP.i2d w0_c65_a3_v7) = w0_c187_c0_v71_2) (w0_c187_c0_hn72_2 : Jvm.Free.Fl.NoNaN64 (FP.dadd w0_c187_c0_v72 w0_c187_c0_v71_2)) (w0_c187_c0_hv72_2 : FP.dadd w0_c187_c0_v72 w0_c187_c0_v71_2 = w0_c187_c0_v72_2) (w0_c187_c0_hn71_3 : Jvm.Free.Fl.NoNaN64 (FP.dmul (FP.i2d w0_c2_a0_v7) (FP.i2d w0_c51_a1_v7))) (w0_c187_c0_hv71_3 : FP.dmul (FP.i2d w0_c2_a0_v7) (FP.i2d w0_c51_a1_v7) = w0_c187_c0_v71_3) (w0_c187_c0_hn72_3 : Jvm.Free.Fl.NoNaN64 (FP.dadd 0 w0_c187_c0_v71_3)) (w0_c187_c0_hv72_3 : FP.dadd 0 w0_c187_c0_v71_3 = w0_c187_c0_v72_3) (w0_c187_c0_hn71_4 : Jvm.Free.Fl.NoNaN64 (FP.dmul (FP.i2d w0_c9_a1_v7) (FP.i2d w0_c72_a4_v7))) (w0_c187_c0_hv71_4 : FP.dmul (FP.i2d w0_c9_a1_v7) (FP.i2d w0_c72_a4_v7) = w0_c187_c0_v71_4) (w0_c187_c0_hn72_4 : Jvm.Free.Fl.NoNaN64 (FP.dadd w0_c187_c0_v72_3 w0_c187_c0_v71_4)) (w0_c187_c0_hv72_4 : FP.dadd w0_c187_c0_v72_3 w0_c187_c0_v71_4 = w0_c187_c0_v72_4) (w0_c187_c0_hn71_5 : Jvm.Free.Fl.NoNaN64 (FP.dmul (FP.i2d w0_c2_a0_v7) (FP.i2d w0_c58_a2_v7))) (w0_c187_c0_hv71_5 : FP.dmul (FP.i2d w0_c2_a0_v7) (FP.i2d w0_c58_a2_v7) = w0_c187_c0_v71_5) (w0_c187_c0_hn72_5 : Jvm.Free.Fl.NoNaN64 (FP.dadd 0 w0_c187_c0_v71_5)) (w0_c187_c0_hv72_5 : FP.dadd 0 w0_c187_c0_v71_5 = w0_c187_c0_v72_5) (w0_c187_c0_hn71_6 : Jvm.Free.Fl.NoNaN64 (FP.dmul (FP.i2d w0_c9_a1_v7) (FP.i2d w0_c79_a5_v7))) (w0_c187_c0_hv71_6 : FP.dmul (FP.i2d w0_c9_a1_v7) (FP.i2d w0_c79_a5_v7) = w0_c187_c0_v71_6) (w0_c187_c0_hn72_6 : Jvm.Free.Fl.NoNaN64 (FP.dadd w0_c187_c0_v72_5 w0_c187_c0_v71_6)) (w0_c187_c0_hv72_6 : FP.dadd w0_c187_c0_v72_5 w0_c187_c0_v71_6 = w0_c187_c0_v72_6) (w0_c187_c0_hn71_7 : Jvm.Free.Fl.NoNaN64 (FP.dmul (FP.i2d w0_c16_a2_v7) (FP.i2d w0_c44_a0_v7))) (w0_c187_c0_hv71_7 : FP.dmul (FP.i2d w0_c16_a2_v7) (FP.i2d w0_c44_a0_v7) = w0_c187_c0_v71_7) (w0_c187_c0_hn72_7 : Jvm.Free.Fl.NoNaN64 (FP.dadd 0 w0_c187_c0_v71_7)) (w0_c187_c0_hv72_7 : FP.dadd 0 w0_c187_c0_v71_7 = w0_c187_c0_v72_7) (w0_c187_c0_hn71_8 : Jvm.Free.Fl.NoNaN64 (FP.dmul (FP.i2d w0_c23_a3_v7) (FP.i2d w0_c65_a3_v7))) (w0_c187_c0_hv71_8 : FP.dmul (FP.i2d w0_c23_a3_v7) (FP.i2d w0_c65_a3_v7) = w0_c187_c0_v71_8) (w0_c187_c0_hn72_8 : Jvm.Free.Fl.NoNaN64 (FP.dadd w0_c187_c0_v72_7 w0_c187_c0_v71_8)) (w0_c187_c0_hv72_8 : FP.dadd w0_c187_c0_v72_7 w0_c187_c0_v71_8 = w0_c187_c0_v72_8) (w0_c187_c0_hn71_9 : Jvm.Free.Fl.NoNaN64 (FP.dmul (FP.i2d w0_c16_a2_v7) (FP.i2d w0_c51_a1_v7))) (w0_c187_c0_hv71_9 : FP.dmul (FP.i2d w0_c16_a2_v7) (FP.i2d w0_c51_a1_v7) = w0_c187_c0_v71_9) (w0_c187_c0_hn72_9 : Jvm.Free.Fl.NoNaN64 (FP.dadd 0 w0_c187_c0_v71_9)) (w0_c187_c0_hv72_9 : FP.dadd 0 w0_c187_c0_v71_9 = w0_c187_c0_v72_9) (w0_c187_c0_hn71_10 : Jvm.Free.Fl.NoNaN64 (FP.dmul (FP.i2d w0_c23_a3_v7) (FP.i2d w0_c72_a4_v7))) (w0_c187_c0_hv71_10 : FP.dmul (FP.i2d w0_c23_a3_v7) (FP.i2d w0_c72_a4_v7) = w0_c187_c0_v71_10) (w0_c187_c0_hn72_10 : Jvm.Free.Fl.NoNaN64 (FP.dadd w0_c187_c0_v72_9 w0_c187_c0_v71_10)) (w0_c187_c0_hv72_10 : FP.dadd w0_c187_c0_v72_9 w0_c187_c0_v71_10 = w0_c187_c0_v72_10) (w0_c187_c0_hn71_11 : Jvm.Free.Fl.NoNaN64 (FP.dmul (FP.i2d w0_c16_a2_v7) (FP.i2d w0_c58_a2_v7))) (w0_c187_c0_hv71_11 : FP.dmul (FP.i2d w0_c16_a2_v7) (FP.i2d w0_c58_a2_v7) = w0_c187_c0_v71_11) (w0_c187_c0_hn72_11 : Jvm.Free.Fl.NoNaN64 (FP.dadd 0 w0_c187_c0_v71_11)) (w0_c187_c0_hv72_11 : FP.dadd 0 w0_c187_c0_v71_11 = w0_c187_c0_v72_11) (w0_c187_c0_hn71_12 : Jvm.Free.Fl.NoNaN64 (FP.dmul (FP.i2d w0_c23_a3_v7) (FP.i2d w0_c79_a5_v7))) (w0_c187_c0_hv71_12 : FP.dmul (FP.i2d w0_c23_a3_v7) (FP.i2d w0_c79_a5_v7) = w0_c187_c0_v71_12) (w0_c187_c0_hn72_12 : Jvm.Free.Fl.NoNaN64 (FP.dadd w0_c187_c0_v72_11 w0_c187_c0_v71_12)) (w0_c187_c0_hv72_12 : FP.dadd w0_c187_c0_v72_11 w0_c187_c0_v71_12 = w0_c187_c0_v72_12) (w0_c187_c0_hn71_13 : Jvm.Free.Fl.NoNaN64 (FP.dmul (FP.i2d w0_c30_a4_v7) (FP.i2d w0_c44_a0_v7))) (w0_c187_c0_hv71_13 : FP.dmul (FP.i2d w0_c30_a4_v7) (FP.i2d w0_c44_a0_v7) = w0_c187_c0_v71_13) (w0_c187_c0_hn72_13 : Jvm.Free.Fl.NoNaN64 (FP.dadd 0 w0_c187_c0_v71_13)) (w0_c187_c0_hv72_13 : FP.dadd 0 w0_c187_c0_v71_13 = w0_c187_c0_v72_13) (w0_c187_c0_hn71_14 : Jvm.Free.Fl.NoNaN64 (FP.dmul (FP.i2d w0_c37_a5_v7) (FP.i2d w0_c65_a3_v7))) (w0_c187_c0_hv71_14 : FP.dmul (FP.i2d w0_c37_a5_v7) (FP.i2d w0_c65_a3_v7) = w0_c187_c0_v71_14) (w0_c187_c0_hn72_14 : Jvm.Free.Fl.NoNaN64 (FP.dadd w0_c187_c0_v72_13 w0_c187_c0_v71_14)) (w0_c187_c0_hv72_14 : FP.dadd w0_c187_c0_v72_13 w0_c187_c0_v71_14 = w0_c187_c0_v72_14) (w0_c187_c0_hn71_15 : Jvm.Free.Fl.NoNaN64 (FP.dmul (FP.i2d w0_c30_a4_v7) (FP.i2d w0_c51_a1_v7))) (w0_c187_c0_hv71_15 : FP.dmul (FP.i2d w0_c30_a4_v7) (FP.i2d w0_c51_a1_v7) = w0_c187_c0_v71_15) (w0_c187_c0_hn72_15 : Jvm.Free.Fl.NoNaN64 (FP.dadd 0 w0_c187_c0_v71_15)) (w0_c187_c0_hv72_15 : FP.dadd 0 w0_c187_c0_v71_15 = w0_c187_c0_v72_15) (w0_c187_c0_hn71_16 : Jvm.Free.Fl.NoNaN64 (FP.dmul (FP.i2d w0_c37_a5_v7) (FP.i2d w0_c72_a4_v7))) (w0_c187_c0_hv71_16 : FP.dmul (FP.i2d w0_c37_a5_v7) (FP.i2d w0_c72_a4_v7) = w0_c187_c0_v71_16) (w0_c187_c0_hn72_16 : Jvm.Free.Fl.NoNaN64 (FP.dadd w0_c187_c0_v72_15 w0_c187_c0_v71_16)) (w0_c187_c0_hv72_16 : FP.dadd w0_c187_c0_v72_15 w0_c187_c0_v71_16 = w0_c187_c0_v72_16) (w0_c187_c0_hn71_17 : Jvm.Free.Fl.NoNaN64 (FP.dmul (FP.i2d w0_c30_a4_v7) (FP.i2d w0_c58_a2_v7))) (w0_c187_c0_hv71_17 : FP.dmul (FP.i2d w0_c30_a4_v7) (FP.i2d w0_c58_a2_v7) = w0_c187_c0_v71_17) (w0_c187_c0_hn72_17 : Jvm.Free.Fl.NoNaN64 (FP.dadd 0 w0_c187_c0_v71_17)) (w0_c187_c0_hv72_17 : FP.dadd 0 w0_c187_c0_v71_17 = w0_c187_c0_v72_17) (w0_c187_c0_hn71_18 : Jvm.Free.Fl.NoNaN64 (FP.dmul (FP.i2d w0_c37_a5_v7) (FP.i2d w0_c79_a5_v7))) (w0_c187_c0_hv71_18 : FP.dmul (FP.i2d w0_c37_a5_v7) (FP.i2d w0_c79_a5_v7) = w0_c187_c0_v71_18) (w0_c187_c0_hn72_18 : Jvm.Free.Fl.NoNaN64 (FP.dadd w0_c187_c0_v72_17 w0_c187_c0_v71_18)) (w0_c187_c0_hv72_18 : FP.dadd w0_c187_c0_v72_17 w0_c187_c0_v71_18 = w0_c187_c0_v72_18) (w0_hv210 : w0_c2_a0_v7 * w0_c44_a0_v7 = w0_v210) (w0_hv215 : w0_c9_a1_v7 * w0_c65_a3_v7 = w0_v215) (w0_hv216 : w0_v210 + w0_v215 = w0_v216) (w0_c217_same_h1 : Op.cmpValue (FP.dcmp w0_c187_c0_v72_2 (FP.i2d w0_v216)) .l = (0 : Int32)) (w0_c217_same_h2 : w0_v216 = 0 → w0_c187_c0_v72_2 = 0) (w0_hv231 : w0_c2_a0_v7 * w0_c51_a1_v7 = w0_v231) (w0_hv236 : w0_c9_a1_v7 * w0_c72_a4_v7 = w0_v236) (w0_hv237 : w0_v231 + w0_v236 = w0_v237) (w0_c238_same_h1 : Op.cmpValue (FP.dcmp w0_c187_c0_v72_4 (FP.i2d w0_v237)) .l = (0 : Int32)) (w0_c238_same_h2 : w0_v237 = 0 → w0_c187_c0_v72_4 = 0) (w0_hv252 : w0_c2_a0_v7 * w0_c58_a2_v7 = w0_v252) (w0_hv257 : w0_c9_a1_v7 * w0_c79_a5_v7 = w0_v257) (w0_hv258 : w0_v252 + w0_v257 = w0_v258) (w0_c259_same_h1 : Op.cmpValue (FP.dcmp w0_c187_c0_v72_6 (FP.i2d w0_v258)) .l = (0 : Int32)) (w0_c259_same_h2 : w0_v258 = 0 → w0_c187_c0_v72_6 = 0) (w0_hv273 : w0_c16_a2_v7 * w0_c44_a0_v7 = w0_v273) (w0_hv278 : w0_c23_a3_v7 * w0_c65_a3_v7 = w0_v278) (w0_hv279 : w0_v273 + w0_v278 = w0_v279) (w0_c280_same_h1 : Op.cmpValue (FP.dcmp w0_c187_c0_v72_8 (FP.i2d w0_v279)) .l = (0 : Int32)) (w0_c280_same_h2 : w0_v279 = 0 → w0_c187_c0_v72_8 = 0) (w0_hv294 : w0_c16_a2_v7 * w0_c51_a1_v7 = w0_v294) (w0_hv299 : w0_c23_a3_v7 * w0_c72_a4_v7 = w0_v299) (w0_hv300 : w0_v294 + w0_v299 = w0_v300) (w0_c301_same_h1 : Op.cmpValue (FP.dcmp w0_c187_c0_v72_10 (FP.i2d w0_v300)) .l = (0 : Int32)) (w0_c301_same_h2 : w0_v300 = 0 → w0_c187_c0_v72_10 = 0) (w0_hv315 : w0_c16_a2_v7 * w0_c58_a2_v7 = w0_v315) (w0_hv320 : w0_c23_a3_v7 * w0_c79_a5_v7 = w0_v320) (w0_hv321 : w0_v315 + w0_v320 = w0_v321) (w0_c322_same_h1 : Op.cmpValue (FP.dcmp w0_c187_c0_v72_12 (FP.i2d w0_v321)) .l = (0 : Int32)) (w0_c322_same_h2 : w0_v321 = 0 → w0_c187_c0_v72_12 = 0) (w0_hv337 : w0_c30_a4_v7 * w0_c44_a0_v7 = w0_v337) (w0_hv342 : w0_c37_a5_v7 * w0_c65_a3_v7 = w0_v342) (w0_hv343 : w0_v337 + w0_v342 = w0_v343) (w0_c344_same_h1 : Op.cmpValue (FP.dcmp w0_c187_c0_v72_14 (FP.i2d w0_v343)) .l = (0 : Int32)) (w0_c344_same_h2 : w0_v343 = 0 → w0_c187_c0_v72_14 = 0) (w0_hv359 : w0_c30_a4_v7 * w0_c51_a1_v7 = w0_v359) (w0_hv364 : w0_c37_a5_v7 * w0_c72_a4_v7 = w0_v364) (w0_hv365 : w0_v359 + w0_v364 = w0_v365) (w0_c366_same_h1 : Op.cmpValue (FP.dcmp w0_c187_c0_v72_16 (FP.i2d w0_v365)) .l = (0 : Int32)) (w0_c366_same_h2 : w0_v365 = 0 → w0_c187_c0_v72_16 = 0) (w0_hv381 : w0_c30_a4_v7 * w0_c58_a2_v7 = w0_v381) (w0_hv386 : w0_c37_a5_v7 * w0_c79_a5_v7 = w0_v386) (w0_hv387 : w0_v381 + w0_v386 = w0_v387) (w0_c388_same_h1 : Op.cmpValue (FP.dcmp w0_c187_c0_v72_18 (FP.i2d w0_v387)) .l = (0 : Int32)) (w0_c388_same_h2 : w0_v387 = 0 → w0_c187_c0_v72_18 = 0) :
    MetFree l x (head1 (Jvm.Cond.code x code maxLocals ret :: ws) room_1) (fun a U => a = #[(.long p0), (.long p1), (.int p2)] ∧ Z.Warmed39 U.vm ∧ U.heap = h0) (fun _ _ _ _ _ => True) (fun _ U o U' => ∃ v L, o = .returned v ∧ own_Q0 n0 v U'.heap L ∧ FrameEnd U o U' L room_1.cells room_1.slots) := by
  refine MetFree.of_bodySF (plainFor_of_name own_pn_com_example_pintrinsic_pintrinsic_MatricesProductPinLaw) hisR ?_
  intro p e s m args below meth c s₁ Bd hml0 hP hK
  obtain ⟨rfl, hZ, hh⟩ := hP
  have hx := Bd.exec
  have hby := Bd.bytes
  have hml : c.maxLocals = 21 := hml0
  have hown : s.vm.findClass "com/example/pintrinsic/pintrinsic/MatricesProductPinLaw" = some m.cls := findClass_of_methodNamed Bd.named
  have hnm := (name_of_methodNamed Bd.named Bd.method).1
  have X0 : Stand p l e room_1 s m #[(.long p0), (.long p1), (.int p2)] below meth c s₁ [] 0 0 := Stand.of_body Bd
  have e0 : s₁.heap = h0 := by rw [← hh, Bd.state]; rfl
  have N0 := Fr.nil n0
  have pre0 : ∀ t, Steps p.tables e below (s₁.setTop (mkF m 0 #[.val (.long p0), .second, .val (.long p1), .second, .val (.int p2), .unset, .unset, .unset, .unset, .unset, .unset, .unset, .unset, .unset, .unset, .unset, .unset, .unset, .unset, .unset, .unset] [])) t → Steps p.tables e below (s₁.setTop (entryFrame m #[(.long p0), (.long p1), (.int p2)] maxLocals)) t := fun t k => castTop (own_ef_w0 m p0 p1 p2) k
  obtain ⟨_, _, ⟨Tw01, Lw01, kw01, nw01⟩, -, Xw01, ⟨Lcw01, hQw01, lw01, yw01, zw01⟩, stw01⟩ := Jvm.LawKit.callS X0 hx (y := (⟨"com/example/pintrinsic/pintrinsic/MatricesProductPinLaw", "at", "(JI)I"⟩ : MethodName)) hown (mvT hZ (hw _ (List.mem_of_getElem? (i := 0) rfl))) (mvT hZ (hw _ (List.mem_of_getElem? (i := 1) rfl))) (mvT hZ (hw _ (List.mem_of_getElem? (i := 2) rfl))) (mvT hZ (hw _ (List.mem_of_getElem? (i := 3) rfl))) (by decide) (backOf (W := 0) (own_rm_a0 l Z a0 hw [] p0 h0 n0 Z0 w0_c2_a0_hv5 w0_c2_a0_hv6 w0_c2_a0_hv7) hZ (hw _ (List.mem_of_getElem? (i := 3) rfl)) (hw _ (List.mem_of_getElem? (i := 2) rfl)) (by decide) (by decide)) (g := (mkF m 2 #[.val (.long p0), .second, .val (.long p1), .second, .val (.int p2), .unset, .unset, .unset, .unset, .unset, .unset, .unset, .unset, .unset, .unset, .unset, .unset, .unset, .unset, .unset, .unset] [(.int (0 : Int32)), (.long p0)])) rfl (by rw [hml]; rfl) (argsL := [(.long p0), (.int (0 : Int32))]) (rest := []) (lenOf own_pd_28JI29I rfl) rfl (by show 2 * 0 + _ ≤ _; exact Nat.le_of_eq rfl) (hb hby at_2) (fun _ _ => ⟨rfl, e0, (by decide : 0 + 0 ≤ _), (by decide : 0 + 0 ≤ _)⟩)
  dsimp only [Pt.U, Pt.locs, Pt.cells, Pt.slots] at Xw01 lw01 yw01 zw01 stw01 hQw01
  rw [lw01, yw01, zw01] at Xw01
  obtain ⟨rfl, Nw01q, ew01⟩ := hQw01
  have Nw01 := Fr.app N0 Nw01q
  obtain ⟨_, _, ⟨Tw02, Lw02, kw02, nw02⟩, -, Xw02, ⟨Lcw02, hQw02, lw02, yw02, zw02⟩, stw02⟩ := Jvm.LawKit.callS Xw01 hx (y := (⟨"com/example/pintrinsic/pintrinsic/MatricesProductPinLaw", "at", "(JI)I"⟩ : MethodName)) hown (mvT hZ (hw _ (List.mem_of_getElem? (i := 0) rfl))) (mvT hZ (hw _ (List.mem_of_getElem? (i := 1) rfl))) (mvT hZ (hw _ (List.mem_of_getElem? (i := 2) rfl))) (mvT hZ (hw _ (List.mem_of_getElem? (i := 3) rfl))) (by decide) (backOf (W := 0) (own_rm_a1 l Z a0 hw [] p0 h0 n0 Z0 w0_c9_a1_hv5 w0_c9_a1_hv6 w0_c9_a1_hv7) hZ (hw _ (List.mem_of_getElem? (i := 3) rfl)) (hw _ (List.mem_of_getElem? (i := 2) rfl)) (by decide) (by decide)) (g := (mkF m 9 #[.val (.long p0), .second, .val (.long p1), .second, .val (.int p2), .val (.int w0_c2_a0_v7), .unset, .unset, .unset, .unset, .unset, .unset, .unset, .unset, .unset, .unset, .unset, .unset, .unset, .unset, .unset] [(.int (1 : Int32)), (.long p0)])) rfl (by rw [hml]; rfl) (argsL := [(.long p0), (.int (1 : Int32))]) (rest := []) (lenOf own_pd_28JI29I rfl) rfl (by show 2 * 0 + _ ≤ _; exact Nat.le_of_eq rfl) (hb hby at_9) (fun _ _ => ⟨rfl, ew01, (by decide : 0 + 0 ≤ _), (by decide : 0 + 0 ≤ _)⟩)
  dsimp only [Pt.U, Pt.locs, Pt.cells, Pt.slots] at Xw02 lw02 yw02 zw02 stw02 hQw02
  rw [lw02, yw02, zw02] at Xw02
  obtain ⟨rfl, Nw02q, ew02⟩ := hQw02
  have Nw02 := Fr.app Nw01 Nw02q
  obtain ⟨_, _, ⟨Tw03, Lw03, kw03, nw03⟩, -, Xw03, ⟨Lcw03, hQw03, lw03, yw03, zw03⟩, stw03⟩ := Jvm.LawKit.callS Xw02 hx (y := (⟨"com/example/pintrinsic/pintrinsic/MatricesProductPinLaw", "at", "(JI)I"⟩ : MethodName)) hown (mvT hZ (hw _ (List.mem_of_getElem? (i := 0) rfl))) (mvT hZ (hw _ (List.mem_of_getElem? (i := 1) rfl))) (mvT hZ (hw _ (List.mem_of_getElem? (i := 2) rfl))) (mvT hZ (hw _ (List.mem_of_getElem? (i := 3) rfl))) (by decide) (backOf (W := 0) (own_rm_a2 l Z a0 hw [] p0 h0 n0 Z0 w0_c16_a2_hv5 w0_c16_a2_hv6 w0_c16_a2_hv7) hZ (hw _ (List.mem_of_getElem? (i := 3) rfl)) (hw _ (List.mem_of_getElem? (i := 2) rfl)) (by decide) (by decide)) (g := (mkF m 16 #[.val (.long p0), .second, .val (.long p1), .second, .val (.int p2), .val (.int w0_c2_a0_v7), .val (.int w0_c9_a1_v7), .unset, .unset, .unset, .unset, .unset, .unset, .unset, .unset, .unset, .unset, .unset, .unset, .unset, .unset] [(.int (2 : Int32)), (.long p0)])) rfl (by rw [hml]; rfl) (argsL := [(.long p0), (.int (2 : Int32))]) (rest := []) (lenOf own_pd_28JI29I rfl) rfl (by show 2 * 0 + _ ≤ _; exact Nat.le_of_eq rfl) (hb hby at_16) (fun _ _ => ⟨rfl, ew02, (by decide : 0 + 0 ≤ _), (by decide : 0 + 0 ≤ _)⟩)
  dsimp only [Pt.U, Pt.locs, Pt.cells, Pt.slots] at Xw03 lw03 yw03 zw03 stw03 hQw03
  rw [lw03, yw03, zw03] at Xw03
  obtain ⟨rfl, Nw03q, ew03⟩ := hQw03
  have Nw03 := Fr.app Nw02 Nw03q
  obtain ⟨_, _, ⟨Tw04, Lw04, kw04, nw04⟩, -, Xw04, ⟨Lcw04, hQw04, lw04, yw04, zw04⟩, stw04⟩ := Jvm.LawKit.callS Xw03 hx (y := (⟨"com/example/pintrinsic/pintrinsic/MatricesProductPinLaw", "at", "(JI)I"⟩ : MethodName)) hown (mvT hZ (hw _ (List.mem_of_getElem? (i := 0) rfl))) (mvT hZ (hw _ (List.mem_of_getElem? (i := 1) rfl))) (mvT hZ (hw _ (List.mem_of_getElem? (i := 2) rfl))) (mvT hZ (hw _ (List.mem_of_getElem? (i := 3) rfl))) (by decide) (backOf (W := 0) (own_rm_a3 l Z a0 hw [] p0 h0 n0 Z0 w0_c23_a3_hv5 w0_c23_a3_hv6 w0_c23_a3_hv7) hZ (hw _ (List.mem_of_getElem? (i := 3) rfl)) (hw _ (List.mem_of_getElem? (i := 2) rfl)) (by decide) (by decide)) (g := (mkF m 23 #[.val (.long p0), .second, .val (.long p1), .second, .val (.int p2), .val (.int w0_c2_a0_v7), .val (.int w0_c9_a1_v7), .val (.int w0_c16_a2_v7), .unset, .unset, .unset, .unset, .unset, .unset, .unset, .unset, .unset, .unset, .unset, .unset, .unset] [(.int (3 : Int32)), (.long p0)])) rfl (by rw [hml]; rfl) (argsL := [(.long p0), (.int (3 : Int32))]) (rest := []) (lenOf own_pd_28JI29I rfl) rfl (by show 2 * 0 + _ ≤ _; exact Nat.le_of_eq rfl) (hb hby at_23) (fun _ _ => ⟨rfl, ew03, (by decide : 0 + 0 ≤ _), (by decide : 0 + 0 ≤ _)⟩)
  dsimp only [Pt.U, Pt.locs, Pt.cells, Pt.slots] at Xw04 lw04 yw04 zw04 stw04 hQw04
  rw [lw04, yw04, zw04] at Xw04
  obtain ⟨rfl, Nw04q, ew04⟩ := hQw04
  have Nw04 := Fr.app Nw03 Nw04q
  obtain ⟨_, _, ⟨Tw05, Lw05, kw05, nw05⟩, -, Xw05, ⟨Lcw05, hQw05, lw05, yw05, zw05⟩, stw05⟩ := Jvm.LawKit.callS Xw04 hx (y := (⟨"com/example/pintrinsic/pintrinsic/MatricesProductPinLaw", "at", "(JI)I"⟩ : MethodName)) hown (mvT hZ (hw _ (List.mem_of_getElem? (i := 0) rfl))) (mvT hZ (hw _ (List.mem_of_getElem? (i := 1) rfl))) (mvT hZ (hw _ (List.mem_of_getElem? (i := 2) rfl))) (mvT hZ (hw _ (List.mem_of_getElem? (i := 3) rfl))) (by decide) (backOf (W := 0) (own_rm_a4 l Z a0 hw [] p0 h0 n0 Z0 w0_c30_a4_hv5 w0_c30_a4_hv6 w0_c30_a4_hv7) hZ (hw _ (List.mem_of_getElem? (i := 3) rfl)) (hw _ (List.mem_of_getElem? (i := 2) rfl)) (by decide) (by decide)) (g := (mkF m 30 #[.val (.long p0), .second, .val (.long p1), .second, .val (.int p2), .val (.int w0_c2_a0_v7), .val (.int w0_c9_a1_v7), .val (.int w0_c16_a2_v7), .val (.int w0_c23_a3_v7), .unset, .unset, .unset, .unset, .unset, .unset, .unset, .unset, .unset, .unset, .unset, .unset] [(.int (4 : Int32)), (.long p0)])) rfl (by rw [hml]; rfl) (argsL := [(.long p0), (.int (4 : Int32))]) (rest := []) (lenOf own_pd_28JI29I rfl) rfl (by show 2 * 0 + _ ≤ _; exact Nat.le_of_eq rfl) (hb hby at_30) (fun _ _ => ⟨rfl, ew04, (by decide : 0 + 0 ≤ _), (by decide : 0 + 0 ≤ _)⟩)
  dsimp only [Pt.U, Pt.locs, Pt.cells, Pt.slots] at Xw05 lw05 yw05 zw05 stw05 hQw05
  rw [lw05, yw05, zw05] at Xw05
  obtain ⟨rfl, Nw05q, ew05⟩ := hQw05
  have Nw05 := Fr.app Nw04 Nw05q
  obtain ⟨_, _, ⟨Tw06, Lw06, kw06, nw06⟩, -, Xw06, ⟨Lcw06, hQw06, lw06, yw06, zw06⟩, stw06⟩ := Jvm.LawKit.callS Xw05 hx (y := (⟨"com/example/pintrinsic/pintrinsic/MatricesProductPinLaw", "at", "(JI)I"⟩ : MethodName)) hown (mvT hZ (hw _ (List.mem_of_getElem? (i := 0) rfl))) (mvT hZ (hw _ (List.mem_of_getElem? (i := 1) rfl))) (mvT hZ (hw _ (List.mem_of_getElem? (i := 2) rfl))) (mvT hZ (hw _ (List.mem_of_getElem? (i := 3) rfl))) (by decide) (backOf (W := 0) (own_rm_a5 l Z a0 hw [] p0 h0 n0 Z0 w0_c37_a5_hv5 w0_c37_a5_hv6 w0_c37_a5_hv7) hZ (hw _ (List.mem_of_getElem? (i := 3) rfl)) (hw _ (List.mem_of_getElem? (i := 2) rfl)) (by decide) (by decide)) (g := (mkF m 37 #[.val (.long p0), .second, .val (.long p1), .second, .val (.int p2), .val (.int w0_c2_a0_v7), .val (.int w0_c9_a1_v7), .val (.int w0_c16_a2_v7), .val (.int w0_c23_a3_v7), .val (.int w0_c30_a4_v7), .unset, .unset, .unset, .unset, .unset, .unset, .unset, .unset, .unset, .unset, .unset] [(.int (5 : Int32)), (.long p0)])) rfl (by rw [hml]; rfl) (argsL := [(.long p0), (.int (5 : Int32))]) (rest := []) (lenOf own_pd_28JI29I rfl) rfl (by show 2 * 0 + _ ≤ _; exact Nat.le_of_eq rfl) (hb hby at_37) (fun _ _ => ⟨rfl, ew05, (by decide : 0 + 0 ≤ _), (by decide : 0 + 0 ≤ _)⟩)
  dsimp only [Pt.U, Pt.locs, Pt.cells, Pt.slots] at Xw06 lw06 yw06 zw06 stw06 hQw06
  rw [lw06, yw06, zw06] at Xw06
  obtain ⟨rfl, Nw06q, ew06⟩ := hQw06
  have Nw06 := Fr.app Nw05 Nw06q
  obtain ⟨_, _, ⟨Tw07, Lw07, kw07, nw07⟩, -, Xw07, ⟨Lcw07, hQw07, lw07, yw07, zw07⟩, stw07⟩ := Jvm.LawKit.callS Xw06 hx (y := (⟨"com/example/pintrinsic/pintrinsic/MatricesProductPinLaw", "at", "(JI)I"⟩ : MethodName)) hown (mvT hZ (hw _ (List.mem_of_getElem? (i := 0) rfl))) (mvT hZ (hw _ (List.mem_of_getElem? (i := 1) rfl))) (mvT hZ (hw _ (List.mem_of_getElem? (i := 2) rfl))) (mvT hZ (hw _ (List.mem_of_getElem? (i := 3) rfl))) (by decide) (backOf (W := 0) (own_rm_a0 l Z a0 hw [] p1 h0 n0 Z0 w0_c44_a0_hv5 w0_c44_a0_hv6 w0_c44_a0_hv7) hZ (hw _ (List.mem_of_getElem? (i := 3) rfl)) (hw _ (List.mem_of_getElem? (i := 2) rfl)) (by decide) (by decide)) (g := (mkF m 44 #[.val (.long p0), .second, .val (.long p1), .second, .val (.int p2), .val (.int w0_c2_a0_v7), .val (.int w0_c9_a1_v7), .val (.int w0_c16_a2_v7), .val (.int w0_c23_a3_v7), .val (.int w0_c30_a4_v7), .val (.int w0_c37_a5_v7), .unset, .unset, .unset, .unset, .unset, .unset, .unset, .unset, .unset, .unset] [(.int (0 : Int32)), (.long p1)])) rfl (by rw [hml]; rfl) (argsL := [(.long p1), (.int (0 : Int32))]) (rest := []) (lenOf own_pd_28JI29I rfl) rfl (by show 2 * 0 + _ ≤ _; exact Nat.le_of_eq rfl) (hb hby at_44) (fun _ _ => ⟨rfl, ew06, (by decide : 0 + 0 ≤ _), (by decide : 0 + 0 ≤ _)⟩)
  dsimp only [Pt.U, Pt.locs, Pt.cells, Pt.slots] at Xw07 lw07 yw07 zw07 stw07 hQw07
  rw [lw07, yw07, zw07] at Xw07
  obtain ⟨rfl, Nw07q, ew07⟩ := hQw07
  have Nw07 := Fr.app Nw06 Nw07q
  obtain ⟨_, _, ⟨Tw08, Lw08, kw08, nw08⟩, -, Xw08, ⟨Lcw08, hQw08, lw08, yw08, zw08⟩, stw08⟩ := Jvm.LawKit.callS Xw07 hx (y := (⟨"com/example/pintrinsic/pintrinsic/MatricesProductPinLaw", "at", "(JI)I"⟩ : MethodName)) hown (mvT hZ (hw _ (List.mem_of_getElem? (i := 0) rfl))) (mvT hZ (hw _ (List.mem_of_getElem? (i := 1) rfl))) (mvT hZ (hw _ (List.mem_of_getElem? (i := 2) rfl))) (mvT hZ (hw _ (List.mem_of_getElem? (i := 3) rfl))) (by decide) (backOf (W := 0) (own_rm_a1 l Z a0 hw [] p1 h0 n0 Z0 w0_c51_a1_hv5 w0_c51_a1_hv6 w0_c51_a1_hv7) hZ (hw _ (List.mem_of_getElem? (i := 3) rfl)) (hw _ (List.mem_of_getElem? (i := 2) rfl)) (by decide) (by decide)) (g := (mkF m 51 #[.val (.long p0), .second, .val (.long p1), .second, .val (.int p2), .val (.int w0_c2_a0_v7), .val (.int w0_c9_a1_v7), .val (.int w0_c16_a2_v7), .val (.int w0_c23_a3_v7), .val (.int w0_c30_a4_v7), .val (.int w0_c37_a5_v7), .val (.int w0_c44_a0_v7), .unset, .unset, .unset, .unset, .unset, .unset, .unset, .unset, .unset] [(.int (1 : Int32)), (.long p1)])) rfl (by rw [hml]; rfl) (argsL := [(.long p1), (.int (1 : Int32))]) (rest := []) (lenOf own_pd_28JI29I rfl) rfl (by show 2 * 0 + _ ≤ _; exact Nat.le_of_eq rfl) (hb hby at_51) (fun _ _ => ⟨rfl, ew07, (by decide : 0 + 0 ≤ _), (by decide : 0 + 0 ≤ _)⟩)
  dsimp only [Pt.U, Pt.locs, Pt.cells, Pt.slots] at Xw08 lw08 yw08 zw08 stw08 hQw08
  rw [lw08, yw08, zw08] at Xw08
  obtain ⟨rfl, Nw08q, ew08⟩ := hQw08
  have Nw08 := Fr.app Nw07 Nw08q
  obtain ⟨_, _, ⟨Tw09, Lw09, kw09, nw09⟩, -, Xw09, ⟨Lcw09, hQw09, lw09, yw09, zw09⟩, stw09⟩ := Jvm.LawKit.callS Xw08 hx (y := (⟨"com/example/pintrinsic/pintrinsic/MatricesProductPinLaw", "at", "(JI)I"⟩ : MethodName)) hown (mvT hZ (hw _ (List.mem_of_getElem? (i := 0) rfl))) (mvT hZ (hw _ (List.mem_of_getElem? (i := 1) rfl))) (mvT hZ (hw _ (List.mem_of_getElem? (i := 2) rfl))) (mvT hZ (hw _ (List.mem_of_getElem? (i := 3) rfl))) (by decide) (backOf (W := 0) (own_rm_a2 l Z a0 hw [] p1 h0 n0 Z0 w0_c58_a2_hv5 w0_c58_a2_hv6 w0_c58_a2_hv7) hZ (hw _ (List.mem_of_getElem? (i := 3) rfl)) (hw _ (List.mem_of_getElem? (i := 2) rfl)) (by decide) (by decide)) (g := (mkF m 58 #[.val (.long p0), .second, .val (.long p1), .second, .val (.int p2), .val (.int w0_c2_a0_v7), .val (.int w0_c9_a1_v7), .val (.int w0_c16_a2_v7), .val (.int w0_c23_a3_v7), .val (.int w0_c30_a4_v7), .val (.int w0_c37_a5_v7), .val (.int w0_c44_a0_v7), .val (.int w0_c51_a1_v7), .unset, .unset, .unset, .unset, .unset, .unset, .unset, .unset] [(.int (2 : Int32)), (.long p1)])) rfl (by rw [hml]; rfl) (argsL := [(.long p1), (.int (2 : Int32))]) (rest := []) (lenOf own_pd_28JI29I rfl) rfl (by show 2 * 0 + _ ≤ _; exact Nat.le_of_eq rfl) (hb hby at_58) (fun _ _ => ⟨rfl, ew08, (by decide : 0 + 0 ≤ _), (by decide : 0 + 0 ≤ _)⟩)
  dsimp only [Pt.U, Pt.locs, Pt.cells, Pt.slots] at Xw09 lw09 yw09 zw09 stw09 hQw09
  rw [lw09, yw09, zw09] at Xw09
  obtain ⟨rfl, Nw09q, ew09⟩ := hQw09
  have Nw09 := Fr.app Nw08 Nw09q
  obtain ⟨_, _, ⟨Tw010, Lw010, kw010, nw010⟩, -, Xw010, ⟨Lcw010, hQw010, lw010, yw010, zw010⟩, stw010⟩ := Jvm.LawKit.callS Xw09 hx (y := (⟨"com/example/pintrinsic/pintrinsic/MatricesProductPinLaw", "at", "(JI)I"⟩ : MethodName)) hown (mvT hZ (hw _ (List.mem_of_getElem? (i := 0) rfl))) (mvT hZ (hw _ (List.mem_of_getElem? (i := 1) rfl))) (mvT hZ (hw _ (List.mem_of_getElem? (i := 2) rfl))) (mvT hZ (hw _ (List.mem_of_getElem? (i := 3) rfl))) (by decide) (backOf (W := 0) (own_rm_a3 l Z a0 hw [] p1 h0 n0 Z0 w0_c65_a3_hv5 w0_c65_a3_hv6 w0_c65_a3_hv7) hZ (hw _ (List.mem_of_getElem? (i := 3) rfl)) (hw _ (List.mem_of_getElem? (i := 2) rfl)) (by decide) (by decide)) (g := (mkF m 65 #[.val (.long p0), .second, .val (.long p1), .second, .val (.int p2), .val (.int w0_c2_a0_v7), .val (.int w0_c9_a1_v7), .val (.int w0_c16_a2_v7), .val (.int w0_c23_a3_v7), .val (.int w0_c30_a4_v7), .val (.int w0_c37_a5_v7), .val (.int w0_c44_a0_v7), .val (.int w0_c51_a1_v7), .val (.int w0_c58_a2_v7), .unset, .unset, .unset, .unset, .unset, .unset, .unset] [(.int (3 : Int32)), (.long p1)])) rfl (by rw [hml]; rfl) (argsL := [(.long p1), (.int (3 : Int32))]) (rest := []) (lenOf own_pd_28JI29I rfl) rfl (by show 2 * 0 + _ ≤ _; exact Nat.le_of_eq rfl) (hb hby at_65) (fun _ _ => ⟨rfl, ew09, (by decide : 0 + 0 ≤ _), (by decide : 0 + 0 ≤ _)⟩)
  dsimp only [Pt.U, Pt.locs, Pt.cells, Pt.slots] at Xw010 lw010 yw010 zw010 stw010 hQw010
  rw [lw010, yw010, zw010] at Xw010
  obtain ⟨rfl, Nw010q, ew010⟩ := hQw010
  have Nw010 := Fr.app Nw09 Nw010q
  obtain ⟨_, _, ⟨Tw011, Lw011, kw011, nw011⟩, -, Xw011, ⟨Lcw011, hQw011, lw011, yw011, zw011⟩, stw011⟩ := Jvm.LawKit.callS Xw010 hx (y := (⟨"com/example/pintrinsic/pintrinsic/MatricesProductPinLaw", "at", "(JI)I"⟩ : MethodName)) hown (mvT hZ (hw _ (List.mem_of_getElem? (i := 0) rfl))) (mvT hZ (hw _ (List.mem_of_getElem? (i := 1) rfl))) (mvT hZ (hw _ (List.mem_of_getElem? (i := 2) rfl))) (mvT hZ (hw _ (List.mem_of_getElem? (i := 3) rfl))) (by decide) (backOf (W := 0) (own_rm_a4 l Z a0 hw [] p1 h0 n0 Z0 w0_c72_a4_hv5 w0_c72_a4_hv6 w0_c72_a4_hv7) hZ (hw _ (List.mem_of_getElem? (i := 3) rfl)) (hw _ (List.mem_of_getElem? (i := 2) rfl)) (by decide) (by decide)) (g := (mkF m 72 #[.val (.long p0), .second, .val (.long p1), .second, .val (.int p2), .val (.int w0_c2_a0_v7), .val (.int w0_c9_a1_v7), .val (.int w0_c16_a2_v7), .val (.int w0_c23_a3_v7), .val (.int w0_c30_a4_v7), .val (.int w0_c37_a5_v7), .val (.int w0_c44_a0_v7), .val (.int w0_c51_a1_v7), .val (.int w0_c58_a2_v7), .val (.int w0_c65_a3_v7), .unset, .unset, .unset, .unset, .unset, .unset] [(.int (4 : Int32)), (.long p1)])) rfl (by rw [hml]; rfl) (argsL := [(.long p1), (.int (4 : Int32))]) (rest := []) (lenOf own_pd_28JI29I rfl) rfl (by show 2 * 0 + _ ≤ _; exact Nat.le_of_eq rfl) (hb hby at_72) (fun _ _ => ⟨rfl, ew010, (by decide : 0 + 0 ≤ _), (by decide : 0 + 0 ≤ _)⟩)
  dsimp only [Pt.U, Pt.locs, Pt.cells, Pt.slots] at Xw011 lw011 yw011 zw011 stw011 hQw011
  rw [lw011, yw011, zw011] at Xw011
  obtain ⟨rfl, Nw011q, ew011⟩ := hQw011
  have Nw011 := Fr.app Nw010 Nw011q
  obtain ⟨_, _, ⟨Tw012, Lw012, kw012, nw012⟩, -, Xw012, ⟨Lcw012, hQw012, lw012, yw012, zw012⟩, stw012⟩ := Jvm.LawKit.callS Xw011 hx (y := (⟨"com/example/pintrinsic/pintrinsic/MatricesProductPinLaw", "at", "(JI)I"⟩ : MethodName)) hown (mvT hZ (hw _ (List.mem_of_getElem? (i := 0) rfl))) (mvT hZ (hw _ (List.mem_of_getElem? (i := 1) rfl))) (mvT hZ (hw _ (List.mem_of_getElem? (i := 2) rfl))) (mvT hZ (hw _ (List.mem_of_getElem? (i := 3) rfl))) (by decide) (backOf (W := 0) (own_rm_a5 l Z a0 hw [] p1 h0 n0 Z0 w0_c79_a5_hv5 w0_c79_a5_hv6 w0_c79_a5_hv7) hZ (hw _ (List.mem_of_getElem? (i := 3) rfl)) (hw _ (List.mem_of_getElem? (i := 2) rfl)) (by decide) (by decide)) (g := (mkF m 79 #[.val (.long p0), .second, .val (.long p1), .second, .val (.int p2), .val (.int w0_c2_a0_v7), .val (.int w0_c9_a1_v7), .val (.int w0_c16_a2_v7), .val (.int w0_c23_a3_v7), .val (.int w0_c30_a4_v7), .val (.int w0_c37_a5_v7), .val (.int w0_c44_a0_v7), .val (.int w0_c51_a1_v7), .val (.int w0_c58_a2_v7), .val (.int w0_c65_a3_v7), .val (.int w0_c72_a4_v7), .unset, .unset, .unset, .unset, .unset] [(.int (5 : Int32)), (.long p1)])) rfl (by rw [hml]; rfl) (argsL := [(.long p1), (.int (5 : Int32))]) (rest := []) (lenOf own_pd_28JI29I rfl) rfl (by show 2 * 0 + _ ≤ _; exact Nat.le_of_eq rfl) (hb hby at_79) (fun _ _ => ⟨rfl, ew011, (by decide : 0 + 0 ≤ _), (by decide : 0 + 0 ≤ _)⟩)
  dsimp only [Pt.U, Pt.locs, Pt.cells, Pt.slots] at Xw012 lw012 yw012 zw012 stw012 hQw012
  rw [lw012, yw012, zw012] at Xw012
  obtain ⟨rfl, Nw012q, ew012⟩ := hQw012
  have Nw012 := Fr.app Nw011 Nw012q
  obtain ⟨Tw013, hw013, kw013, bw013, Xw013, ew013, Ew013, Gw013, Vw013, stw013⟩ := own_newD (L := #[.val (.long p0), .second, .val (.long p1), .second, .val (.int p2), .val (.int w0_c2_a0_v7), .val (.int w0_c9_a1_v7), .val (.int w0_c16_a2_v7), .val (.int w0_c23_a3_v7), .val (.int w0_c30_a4_v7), .val (.int w0_c37_a5_v7), .val (.int w0_c44_a0_v7), .val (.int w0_c51_a1_v7), .val (.int w0_c58_a2_v7), .val (.int w0_c65_a3_v7), .val (.int w0_c72_a4_v7), .val (.int w0_c79_a5_v7), .unset, .unset, .unset, .unset]) (S := []) Xw012 hx hZ (hw _ (List.mem_of_getElem? (i := 4) rfl)) ew012 (z := (6 : Int32)) 6 (by decide) (by decide) (by decide) (by decide) (by decide) (hb hby at_86) (pc' := 88) rfl
  have g_bw013 : n0 ≤ bw013 := Nat.le_trans Z0 (Nat.le_of_eq Gw013.symm)
  have sz_bw013 : h0.size ≤ bw013 := Nat.le_trans (Keep.refl h0 []).1 (Nat.le_of_eq Gw013.symm)
  have Zw013 : n0 ≤ hw013.size := Nat.le_trans Z0 Ew013.1
  have KKw013 := (Keep.refl h0 []).ext Ew013
  have V_bw013 : Arv Z hw013 bw013 kw013 .double (6 : Int32) [(.double 0), (.double 0), (.double 0), (.double 0), (.double 0), (.double 0)] (.double 0) := Vw013
  obtain ⟨Tw014, hw014, Xw014, ew014, Ww014, Vw014, stw014⟩ := own_stD (L := #[.val (.long p0), .second, .val (.long p1), .second, .val (.int p2), .val (.int w0_c2_a0_v7), .val (.int w0_c9_a1_v7), .val (.int w0_c16_a2_v7), .val (.int w0_c23_a3_v7), .val (.int w0_c30_a4_v7), .val (.int w0_c37_a5_v7), .val (.int w0_c44_a0_v7), .val (.int w0_c51_a1_v7), .val (.int w0_c58_a2_v7), .val (.int w0_c65_a3_v7), .val (.int w0_c72_a4_v7), .val (.int w0_c79_a5_v7), .unset, .unset, .unset, .unset]) (S := [(.ref bw013)]) Xw013 hx hZ ew013 V_bw013 (j := (0 : Int32)) (x := (FP.i2d w0_c2_a0_v7)) (by decide) 0 (by decide) (Nat.le_of_ble_eq_true rfl) (hb hby at_93) (pc' := 94) rfl
  have Zw014 : n0 ≤ hw014.size := Nat.le_trans Zw013 (Nat.le_of_eq Ww014.size.symm)
  have KKw014 := KKw013.wr Ww014 (Or.inr sz_bw013)
  have V_bw013_w014 : Arv Z hw014 bw013 kw013 .double (6 : Int32) [(.double (FP.i2d w0_c2_a0_v7)), (.double 0), (.double 0), (.double 0), (.double 0), (.double 0)] (.double 0) := Vw014
  have Nw014 := Fr.snoc Xw014 Nw012 g_bw013
  obtain ⟨Tw015, hw015, Xw015, ew015, Ww015, Vw015, stw015⟩ := own_stD (L := #[.val (.long p0), .second, .val (.long p1), .second, .val (.int p2), .val (.int w0_c2_a0_v7), .val (.int w0_c9_a1_v7), .val (.int w0_c16_a2_v7), .val (.int w0_c23_a3_v7), .val (.int w0_c30_a4_v7), .val (.int w0_c37_a5_v7), .val (.int w0_c44_a0_v7), .val (.int w0_c51_a1_v7), .val (.int w0_c58_a2_v7), .val (.int w0_c65_a3_v7), .val (.int w0_c72_a4_v7), .val (.int w0_c79_a5_v7), .unset, .unset, .unset, .unset]) (S := [(.ref bw013)]) Xw014 hx hZ ew014 V_bw013_w014 (j := (1 : Int32)) (x := (FP.i2d w0_c9_a1_v7)) (by decide) 1 (by decide) (Nat.le_of_ble_eq_true rfl) (hb hby at_99) (pc' := 100) rfl
  have Zw015 : n0 ≤ hw015.size := Nat.le_trans Zw014 (Nat.le_of_eq Ww015.size.symm)
  have KKw015 := KKw014.wr Ww015 (Or.inr sz_bw013)
  have V_bw013_w015 : Arv Z hw015 bw013 kw013 .double (6 : Int32) [(.double (FP.i2d w0_c2_a0_v7)), (.double (FP.i2d w0_c9_a1_v7)), (.double 0), (.double 0), (.double 0), (.double 0)] (.double 0) := Vw015
  have Nw015 := Fr.snoc Xw015 Nw014 g_bw013
  obtain ⟨Tw016, hw016, Xw016, ew016, Ww016, Vw016, stw016⟩ := own_stD (L := #[.val (.long p0), .second, .val (.long p1), .second, .val (.int p2), .val (.int w0_c2_a0_v7), .val (.int w0_c9_a1_v7), .val (.int w0_c16_a2_v7), .val (.int w0_c23_a3_v7), .val (.int w0_c30_a4_v7), .val (.int w0_c37_a5_v7), .val (.int w0_c44_a0_v7), .val (.int w0_c51_a1_v7), .val (.int w0_c58_a2_v7), .val (.int w0_c65_a3_v7), .val (.int w0_c72_a4_v7), .val (.int w0_c79_a5_v7), .unset, .unset, .unset, .unset]) (S := [(.ref bw013)]) Xw015 hx hZ ew015 V_bw013_w015 (j := (2 : Int32)) (x := (FP.i2d w0_c16_a2_v7)) (by decide) 2 (by decide) (Nat.le_of_ble_eq_true rfl) (hb hby at_105) (pc' := 106) rfl
  have Zw016 : n0 ≤ hw016.size := Nat.le_trans Zw015 (Nat.le_of_eq Ww016.size.symm)
  have KKw016 := KKw015.wr Ww016 (Or.inr sz_bw013)
  have V_bw013_w016 : Arv Z hw016 bw013 kw013 .double (6 : Int32) [(.double (FP.i2d w0_c2_a0_v7)), (.double (FP.i2d w0_c9_a1_v7)), (.double (FP.i2d w0_c16_a2_v7)), (.double 0), (.double 0), (.double 0)] (.double 0) := Vw016
  have Nw016 := Fr.snoc Xw016 Nw015 g_bw013
  obtain ⟨Tw017, hw017, Xw017, ew017, Ww017, Vw017, stw017⟩ := own_stD (L := #[.val (.long p0), .second, .val (.long p1), .second, .val (.int p2), .val (.int w0_c2_a0_v7), .val (.int w0_c9_a1_v7), .val (.int w0_c16_a2_v7), .val (.int w0_c23_a3_v7), .val (.int w0_c30_a4_v7), .val (.int w0_c37_a5_v7), .val (.int w0_c44_a0_v7), .val (.int w0_c51_a1_v7), .val (.int w0_c58_a2_v7), .val (.int w0_c65_a3_v7), .val (.int w0_c72_a4_v7), .val (.int w0_c79_a5_v7), .unset, .unset, .unset, .unset]) (S := [(.ref bw013)]) Xw016 hx hZ ew016 V_bw013_w016 (j := (3 : Int32)) (x := (FP.i2d w0_c23_a3_v7)) (by decide) 3 (by decide) (Nat.le_of_ble_eq_true rfl) (hb hby at_111) (pc' := 112) rfl
  have Zw017 : n0 ≤ hw017.size := Nat.le_trans Zw016 (Nat.le_of_eq Ww017.size.symm)
  have KKw017 := KKw016.wr Ww017 (Or.inr sz_bw013)
  have V_bw013_w017 : Arv Z hw017 bw013 kw013 .double (6 : Int32) [(.double (FP.i2d w0_c2_a0_v7)), (.double (FP.i2d w0_c9_a1_v7)), (.double (FP.i2d w0_c16_a2_v7)), (.double (FP.i2d w0_c23_a3_v7)), (.double 0), (.double 0)] (.double 0) := Vw017
  have Nw017 := Fr.snoc Xw017 Nw016 g_bw013
  obtain ⟨Tw018, hw018, Xw018, ew018, Ww018, Vw018, stw018⟩ := own_stD (L := #[.val (.long p0), .second, .val (.long p1), .second, .val (.int p2), .val (.int w0_c2_a0_v7), .val (.int w0_c9_a1_v7), .val (.int w0_c16_a2_v7), .val (.int w0_c23_a3_v7), .val (.int w0_c30_a4_v7), .val (.int w0_c37_a5_v7), .val (.int w0_c44_a0_v7), .val (.int w0_c51_a1_v7), .val (.int w0_c58_a2_v7), .val (.int w0_c65_a3_v7), .val (.int w0_c72_a4_v7), .val (.int w0_c79_a5_v7), .unset, .unset, .unset, .unset]) (S := [(.ref bw013)]) Xw017 hx hZ ew017 V_bw013_w017 (j := (4 : Int32)) (x := (FP.i2d w0_c30_a4_v7)) (by decide) 4 (by decide) (Nat.le_of_ble_eq_true rfl) (hb hby at_117) (pc' := 118) rfl
  have Zw018 : n0 ≤ hw018.size := Nat.le_trans Zw017 (Nat.le_of_eq Ww018.size.symm)
  have KKw018 := KKw017.wr Ww018 (Or.inr sz_bw013)
  have V_bw013_w018 : Arv Z hw018 bw013 kw013 .double (6 : Int32) [(.double (FP.i2d w0_c2_a0_v7)), (.double (FP.i2d w0_c9_a1_v7)), (.double (FP.i2d w0_c16_a2_v7)), (.double (FP.i2d w0_c23_a3_v7)), (.double (FP.i2d w0_c30_a4_v7)), (.double 0)] (.double 0) := Vw018
  have Nw018 := Fr.snoc Xw018 Nw017 g_bw013
  obtain ⟨Tw019, hw019, Xw019, ew019, Ww019, Vw019, stw019⟩ := own_stD (L := #[.val (.long p0), .second, .val (.long p1), .second, .val (.int p2), .val (.int w0_c2_a0_v7), .val (.int w0_c9_a1_v7), .val (.int w0_c16_a2_v7), .val (.int w0_c23_a3_v7), .val (.int w0_c30_a4_v7), .val (.int w0_c37_a5_v7), .val (.int w0_c44_a0_v7), .val (.int w0_c51_a1_v7), .val (.int w0_c58_a2_v7), .val (.int w0_c65_a3_v7), .val (.int w0_c72_a4_v7), .val (.int w0_c79_a5_v7), .unset, .unset, .unset, .unset]) (S := [(.ref bw013)]) Xw018 hx hZ ew018 V_bw013_w018 (j := (5 : Int32)) (x := (FP.i2d w0_c37_a5_v7)) (by decide) 5 (by decide) (Nat.le_of_ble_eq_true rfl) (hb hby at_123) (pc' := 124) rfl
  have Zw019 : n0 ≤ hw019.size := Nat.le_trans Zw018 (Nat.le_of_eq Ww019.size.symm)
  have KKw019 := KKw018.wr Ww019 (Or.inr sz_bw013)
  have V_bw013_w019 : Arv Z hw019 bw013 kw013 .double (6 : Int32) [(.double (FP.i2d w0_c2_a0_v7)), (.double (FP.i2d w0_c9_a1_v7)), (.double (FP.i2d w0_c16_a2_v7)), (.double (FP.i2d w0_c23_a3_v7)), (.double (FP.i2d w0_c30_a4_v7)), (.double (FP.i2d w0_c37_a5_v7))] (.double 0) := Vw019
  have Nw019 := Fr.snoc Xw019 Nw018 g_bw013
  obtain ⟨Tw020, hw020, kw020, bw020, Xw020, ew020, Ew020, Gw020, Vw020, stw020⟩ := own_newD (L := #[.val (.long p0), .second, .val (.long p1), .second, .val (.int p2), .val (.int w0_c2_a0_v7), .val (.int w0_c9_a1_v7), .val (.int w0_c16_a2_v7), .val (.int w0_c23_a3_v7), .val (.int w0_c30_a4_v7), .val (.int w0_c37_a5_v7), .val (.int w0_c44_a0_v7), .val (.int w0_c51_a1_v7), .val (.int w0_c58_a2_v7), .val (.int w0_c65_a3_v7), .val (.int w0_c72_a4_v7), .val (.int w0_c79_a5_v7), .val (.ref bw013), .unset, .unset, .unset]) (S := []) Xw019 hx hZ (hw _ (List.mem_of_getElem? (i := 4) rfl)) ew019 (z := (6 : Int32)) 6 (by decide) (by decide) (by decide) (by decide) (by decide) (hb hby at_128) (pc' := 130) rfl
  have ne_bw013_bw020 : bw013 ≠ bw020 := Nat.ne_of_lt (Nat.lt_of_lt_of_le V_bw013_w019.lt (Nat.le_of_eq Gw020.symm))
  have ne_bw020_bw013 : bw020 ≠ bw013 := Ne.symm ne_bw013_bw020
  have g_bw020 : n0 ≤ bw020 := Nat.le_trans Zw019 (Nat.le_of_eq Gw020.symm)
  have sz_bw020 : h0.size ≤ bw020 := Nat.le_trans KKw019.1 (Nat.le_of_eq Gw020.symm)
  have V_bw013_w020 := V_bw013_w019.ext Ew020
  have Zw020 : n0 ≤ hw020.size := Nat.le_trans Zw019 Ew020.1
  have KKw020 := KKw019.ext Ew020
  have V_bw020 : Arv Z hw020 bw020 kw020 .double (6 : Int32) [(.double 0), (.double 0), (.double 0), (.double 0), (.double 0), (.double 0)] (.double 0) := Vw020
  obtain ⟨Tw021, hw021, Xw021, ew021, Ww021, Vw021, stw021⟩ := own_stD (L := #[.val (.long p0), .second, .val (.long p1), .second, .val (.int p2), .val (.int w0_c2_a0_v7), .val (.int w0_c9_a1_v7), .val (.int w0_c16_a2_v7), .val (.int w0_c23_a3_v7), .val (.int w0_c30_a4_v7), .val (.int w0_c37_a5_v7), .val (.int w0_c44_a0_v7), .val (.int w0_c51_a1_v7), .val (.int w0_c58_a2_v7), .val (.int w0_c65_a3_v7), .val (.int w0_c72_a4_v7), .val (.int w0_c79_a5_v7), .val (.ref bw013), .unset, .unset, .unset]) (S := [(.ref bw020)]) Xw020 hx hZ ew020 V_bw020 (j := (0 : Int32)) (x := (FP.i2d w0_c44_a0_v7)) (by decide) 0 (by decide) (Nat.le_of_ble_eq_true rfl) (hb hby at_135) (pc' := 136) rfl
  have V_bw013_w021 := V_bw013_w020.other Ww021 ne_bw013_bw020
  have Zw021 : n0 ≤ hw021.size := Nat.le_trans Zw020 (Nat.le_of_eq Ww021.size.symm)
  have KKw021 := KKw020.wr Ww021 (Or.inr sz_bw020)
  have V_bw020_w021 : Arv Z hw021 bw020 kw020 .double (6 : Int32) [(.double (FP.i2d w0_c44_a0_v7)), (.double 0), (.double 0), (.double 0), (.double 0), (.double 0)] (.double 0) := Vw021
  have Nw021 := Fr.snoc Xw021 Nw019 g_bw020
  obtain ⟨Tw022, hw022, Xw022, ew022, Ww022, Vw022, stw022⟩ := own_stD (L := #[.val (.long p0), .second, .val (.long p1), .second, .val (.int p2), .val (.int w0_c2_a0_v7), .val (.int w0_c9_a1_v7), .val (.int w0_c16_a2_v7), .val (.int w0_c23_a3_v7), .val (.int w0_c30_a4_v7), .val (.int w0_c37_a5_v7), .val (.int w0_c44_a0_v7), .val (.int w0_c51_a1_v7), .val (.int w0_c58_a2_v7), .val (.int w0_c65_a3_v7), .val (.int w0_c72_a4_v7), .val (.int w0_c79_a5_v7), .val (.ref bw013), .unset, .unset, .unset]) (S := [(.ref bw020)]) Xw021 hx hZ ew021 V_bw020_w021 (j := (1 : Int32)) (x := (FP.i2d w0_c51_a1_v7)) (by decide) 1 (by decide) (Nat.le_of_ble_eq_true rfl) (hb hby at_141) (pc' := 142) rfl
  have V_bw013_w022 := V_bw013_w021.other Ww022 ne_bw013_bw020
  have Zw022 : n0 ≤ hw022.size := Nat.le_trans Zw021 (Nat.le_of_eq Ww022.size.symm)
  have KKw022 := KKw021.wr Ww022 (Or.inr sz_bw020)
  have V_bw020_w022 : Arv Z hw022 bw020 kw020 .double (6 : Int32) [(.double (FP.i2d w0_c44_a0_v7)), (.double (FP.i2d w0_c51_a1_v7)), (.double 0), (.double 0), (.double 0), (.double 0)] (.double 0) := Vw022
  have Nw022 := Fr.snoc Xw022 Nw021 g_bw020
  obtain ⟨Tw023, hw023, Xw023, ew023, Ww023, Vw023, stw023⟩ := own_stD (L := #[.val (.long p0), .second, .val (.long p1), .second, .val (.int p2), .val (.int w0_c2_a0_v7), .val (.int w0_c9_a1_v7), .val (.int w0_c16_a2_v7), .val (.int w0_c23_a3_v7), .val (.int w0_c30_a4_v7), .val (.int w0_c37_a5_v7), .val (.int w0_c44_a0_v7), .val (.int w0_c51_a1_v7), .val (.int w0_c58_a2_v7), .val (.int w0_c65_a3_v7), .val (.int w0_c72_a4_v7), .val (.int w0_c79_a5_v7), .val (.ref bw013), .unset, .unset, .unset]) (S := [(.ref bw020)]) Xw022 hx hZ ew022 V_bw020_w022 (j := (2 : Int32)) (x := (FP.i2d w0_c58_a2_v7)) (by decide) 2 (by decide) (Nat.le_of_ble_eq_true rfl) (hb hby at_147) (pc' := 148) rfl
  have V_bw013_w023 := V_bw013_w022.other Ww023 ne_bw013_bw020
  have Zw023 : n0 ≤ hw023.size := Nat.le_trans Zw022 (Nat.le_of_eq Ww023.size.symm)
  have KKw023 := KKw022.wr Ww023 (Or.inr sz_bw020)
  have V_bw020_w023 : Arv Z hw023 bw020 kw020 .double (6 : Int32) [(.double (FP.i2d w0_c44_a0_v7)), (.double (FP.i2d w0_c51_a1_v7)), (.double (FP.i2d w0_c58_a2_v7)), (.double 0), (.double 0), (.double 0)] (.double 0) := Vw023
  have Nw023 := Fr.snoc Xw023 Nw022 g_bw020
  obtain ⟨Tw024, hw024, Xw024, ew024, Ww024, Vw024, stw024⟩ := own_stD (L := #[.val (.long p0), .second, .val (.long p1), .second, .val (.int p2), .val (.int w0_c2_a0_v7), .val (.int w0_c9_a1_v7), .val (.int w0_c16_a2_v7), .val (.int w0_c23_a3_v7), .val (.int w0_c30_a4_v7), .val (.int w0_c37_a5_v7), .val (.int w0_c44_a0_v7), .val (.int w0_c51_a1_v7), .val (.int w0_c58_a2_v7), .val (.int w0_c65_a3_v7), .val (.int w0_c72_a4_v7), .val (.int w0_c79_a5_v7), .val (.ref bw013), .unset, .unset, .unset]) (S := [(.ref bw020)]) Xw023 hx hZ ew023 V_bw020_w023 (j := (3 : Int32)) (x := (FP.i2d w0_c65_a3_v7)) (by decide) 3 (by decide) (Nat.le_of_ble_eq_true rfl) (hb hby at_153) (pc' := 154) rfl
  have V_bw013_w024 := V_bw013_w023.other Ww024 ne_bw013_bw020
  have Zw024 : n0 ≤ hw024.size := Nat.le_trans Zw023 (Nat.le_of_eq Ww024.size.symm)
  have KKw024 := KKw023.wr Ww024 (Or.inr sz_bw020)
  have V_bw020_w024 : Arv Z hw024 bw020 kw020 .double (6 : Int32) [(.double (FP.i2d w0_c44_a0_v7)), (.double (FP.i2d w0_c51_a1_v7)), (.double (FP.i2d w0_c58_a2_v7)), (.double (FP.i2d w0_c65_a3_v7)), (.double 0), (.double 0)] (.double 0) := Vw024
  have Nw024 := Fr.snoc Xw024 Nw023 g_bw020
  obtain ⟨Tw025, hw025, Xw025, ew025, Ww025, Vw025, stw025⟩ := own_stD (L := #[.val (.long p0), .second, .val (.long p1), .second, .val (.int p2), .val (.int w0_c2_a0_v7), .val (.int w0_c9_a1_v7), .val (.int w0_c16_a2_v7), .val (.int w0_c23_a3_v7), .val (.int w0_c30_a4_v7), .val (.int w0_c37_a5_v7), .val (.int w0_c44_a0_v7), .val (.int w0_c51_a1_v7), .val (.int w0_c58_a2_v7), .val (.int w0_c65_a3_v7), .val (.int w0_c72_a4_v7), .val (.int w0_c79_a5_v7), .val (.ref bw013), .unset, .unset, .unset]) (S := [(.ref bw020)]) Xw024 hx hZ ew024 V_bw020_w024 (j := (4 : Int32)) (x := (FP.i2d w0_c72_a4_v7)) (by decide) 4 (by decide) (Nat.le_of_ble_eq_true rfl) (hb hby at_159) (pc' := 160) rfl
  have V_bw013_w025 := V_bw013_w024.other Ww025 ne_bw013_bw020
  have Zw025 : n0 ≤ hw025.size := Nat.le_trans Zw024 (Nat.le_of_eq Ww025.size.symm)
  have KKw025 := KKw024.wr Ww025 (Or.inr sz_bw020)
  have V_bw020_w025 : Arv Z hw025 bw020 kw020 .double (6 : Int32) [(.double (FP.i2d w0_c44_a0_v7)), (.double (FP.i2d w0_c51_a1_v7)), (.double (FP.i2d w0_c58_a2_v7)), (.double (FP.i2d w0_c65_a3_v7)), (.double (FP.i2d w0_c72_a4_v7)), (.double 0)] (.double 0) := Vw025
  have Nw025 := Fr.snoc Xw025 Nw024 g_bw020
  obtain ⟨Tw026, hw026, Xw026, ew026, Ww026, Vw026, stw026⟩ := own_stD (L := #[.val (.long p0), .second, .val (.long p1), .second, .val (.int p2), .val (.int w0_c2_a0_v7), .val (.int w0_c9_a1_v7), .val (.int w0_c16_a2_v7), .val (.int w0_c23_a3_v7), .val (.int w0_c30_a4_v7), .val (.int w0_c37_a5_v7), .val (.int w0_c44_a0_v7), .val (.int w0_c51_a1_v7), .val (.int w0_c58_a2_v7), .val (.int w0_c65_a3_v7), .val (.int w0_c72_a4_v7), .val (.int w0_c79_a5_v7), .val (.ref bw013), .unset, .unset, .unset]) (S := [(.ref bw020)]) Xw025 hx hZ ew025 V_bw020_w025 (j := (5 : Int32)) (x := (FP.i2d w0_c79_a5_v7)) (by decide) 5 (by decide) (Nat.le_of_ble_eq_true rfl) (hb hby at_165) (pc' := 166) rfl
  have V_bw013_w026 := V_bw013_w025.other Ww026 ne_bw013_bw020
  have Zw026 : n0 ≤ hw026.size := Nat.le_trans Zw025 (Nat.le_of_eq Ww026.size.symm)
  have KKw026 := KKw025.wr Ww026 (Or.inr sz_bw020)
  have V_bw020_w026 : Arv Z hw026 bw020 kw020 .double (6 : Int32) [(.double (FP.i2d w0_c44_a0_v7)), (.double (FP.i2d w0_c51_a1_v7)), (.double (FP.i2d w0_c58_a2_v7)), (.double (FP.i2d w0_c65_a3_v7)), (.double (FP.i2d w0_c72_a4_v7)), (.double (FP.i2d w0_c79_a5_v7))] (.double 0) := Vw026
  have Nw026 := Fr.snoc Xw026 Nw025 g_bw020
  obtain ⟨_, _, ⟨Tw027, Lw027, kw027, nw027⟩, -, Xw027, ⟨Lcw027, hQw027, lw027, yw027, zw027⟩, stw027⟩ := Jvm.LawKit.callS Xw026 hx (y := (⟨"com/example/pintrinsic/pintrinsic/Matrices", "product", "([D[DI)[D"⟩ : MethodName)) hown (mvT hZ (hw _ (List.mem_of_getElem? (i := 6) rfl))) (mvT hZ (hw _ (List.mem_of_getElem? (i := 7) rfl))) (mvT hZ (hw _ (List.mem_of_getElem? (i := 8) rfl))) (mvT hZ (hw _ (List.mem_of_getElem? (i := 9) rfl))) (by decide) (backOf (W := 0) (own_rm_c0 l Z a0 hw [] bw013 (FP.i2d w0_c2_a0_v7) (FP.i2d w0_c9_a1_v7) (FP.i2d w0_c16_a2_v7) (FP.i2d w0_c23_a3_v7) (FP.i2d w0_c30_a4_v7) (FP.i2d w0_c37_a5_v7) bw020 (FP.i2d w0_c44_a0_v7) (FP.i2d w0_c51_a1_v7) (FP.i2d w0_c58_a2_v7) (FP.i2d w0_c65_a3_v7) (FP.i2d w0_c72_a4_v7) (FP.i2d w0_c79_a5_v7) hw026 n0 Zw026 V_bw013_w026 V_bw020_w026 w0_c187_c0_hn71 w0_c187_c0_hv71 w0_c187_c0_hn72 w0_c187_c0_hv72 w0_c187_c0_hn71_2 w0_c187_c0_hv71_2 w0_c187_c0_hn72_2 w0_c187_c0_hv72_2 w0_c187_c0_hn71_3 w0_c187_c0_hv71_3 w0_c187_c0_hn72_3 w0_c187_c0_hv72_3 w0_c187_c0_hn71_4 w0_c187_c0_hv71_4 w0_c187_c0_hn72_4 w0_c187_c0_hv72_4 w0_c187_c0_hn71_5 w0_c187_c0_hv71_5 w0_c187_c0_hn72_5 w0_c187_c0_hv72_5 w0_c187_c0_hn71_6 w0_c187_c0_hv71_6 w0_c187_c0_hn72_6 w0_c187_c0_hv72_6 w0_c187_c0_hn71_7 w0_c187_c0_hv71_7 w0_c187_c0_hn72_7 w0_c187_c0_hv72_7 w0_c187_c0_hn71_8 w0_c187_c0_hv71_8 w0_c187_c0_hn72_8 w0_c187_c0_hv72_8 w0_c187_c0_hn71_9 w0_c187_c0_hv71_9 w0_c187_c0_hn72_9 w0_c187_c0_hv72_9 w0_c187_c0_hn71_10 w0_c187_c0_hv71_10 w0_c187_c0_hn72_10 w0_c187_c0_hv72_10 w0_c187_c0_hn71_11 w0_c187_c0_hv71_11 w0_c187_c0_hn72_11 w0_c187_c0_hv72_11 w0_c187_c0_hn71_12 w0_c187_c0_hv71_12 w0_c187_c0_hn72_12 w0_c187_c0_hv72_12 w0_c187_c0_hn71_13 w0_c187_c0_hv71_13 w0_c187_c0_hn72_13 w0_c187_c0_hv72_13 w0_c187_c0_hn71_14 w0_c187_c0_hv71_14 w0_c187_c0_hn72_14 w0_c187_c0_hv72_14 w0_c187_c0_hn71_15 w0_c187_c0_hv71_15 w0_c187_c0_hn72_15 w0_c187_c0_hv72_15 w0_c187_c0_hn71_16 w0_c187_c0_hv71_16 w0_c187_c0_hn72_16 w0_c187_c0_hv72_16 w0_c187_c0_hn71_17 w0_c187_c0_hv71_17 w0_c187_c0_hn72_17 w0_c187_c0_hv72_17 w0_c187_c0_hn71_18 w0_c187_c0_hv71_18 w0_c187_c0_hn72_18 w0_c187_c0_hv72_18) hZ (hw _ (List.mem_of_getElem? (i := 9) rfl)) (hw _ (List.mem_of_getElem? (i := 8) rfl)) (by decide) (by decide)) (g := (mkF m 187 #[.val (.long p0), .second, .val (.long p1), .second, .val (.int p2), .val (.int w0_c2_a0_v7), .val (.int w0_c9_a1_v7), .val (.int w0_c16_a2_v7), .val (.int w0_c23_a3_v7), .val (.int w0_c30_a4_v7), .val (.int w0_c37_a5_v7), .val (.int w0_c44_a0_v7), .val (.int w0_c51_a1_v7), .val (.int w0_c58_a2_v7), .val (.int w0_c65_a3_v7), .val (.int w0_c72_a4_v7), .val (.int w0_c79_a5_v7), .val (.ref bw013), .val (.ref bw020), .val (.int (0 : Int32)), .unset] [(.int (2 : Int32)), (.ref bw020), (.ref bw013)])) rfl (by rw [hml]; rfl) (argsL := [(.ref bw013), (.ref bw020), (.int (2 : Int32))]) (rest := []) (lenOf own_pd_285bD5bDI295bD rfl) rfl (by show 2 * 0 + _ ≤ _; exact Nat.le_of_eq rfl) (hb hby at_187) (fun _ _ => ⟨rfl, ew026, (by decide : 2 + 1 ≤ _), (by decide : 12 + 9 ≤ _)⟩)
  dsimp only [Pt.U, Pt.locs, Pt.cells, Pt.slots] at Xw027 lw027 yw027 zw027 stw027 hQw027
  rw [lw027, yw027, zw027] at Xw027
  obtain ⟨bw027, kw027a, rfl, Nw027q, Kw027, Gw027, qw027_0⟩ := hQw027
  have ne_bw013_bw027 : bw013 ≠ bw027 := Nat.ne_of_lt (Nat.lt_of_lt_of_le V_bw013_w026.lt Gw027)
  have ne_bw027_bw013 : bw027 ≠ bw013 := Ne.symm ne_bw013_bw027
  have ne_bw020_bw027 : bw020 ≠ bw027 := Nat.ne_of_lt (Nat.lt_of_lt_of_le V_bw020_w026.lt Gw027)
  have ne_bw027_bw020 : bw027 ≠ bw020 := Ne.symm ne_bw020_bw027
  have g_bw027 : n0 ≤ bw027 := Nat.le_trans Zw026 Gw027
  have sz_bw027 : h0.size ≤ bw027 := Nat.le_trans KKw026.1 Gw027
  have V_bw013_w027 := V_bw013_w026.keep Kw027 (List.not_mem_nil)
  have V_bw020_w027 := V_bw020_w026.keep Kw027 (List.not_mem_nil)
  have Zw027 : n0 ≤ Tw027.heap.size := Nat.le_trans Zw026 Kw027.1
  have KKw027 := KKw026.trans Kw027 (fun _ q => nomatch q)
  have Nw027 := Fr.app Nw026 Nw027q
  obtain ⟨_, _, ⟨Tw028, Lw028, kw028, nw028⟩, -, Xw028, ⟨Lcw028, hQw028, lw028, yw028, zw028⟩, stw028⟩ := Jvm.LawKit.callS Xw027 hx (y := (⟨"com/example/pintrinsic/pintrinsic/MatricesProductPinLaw", "same", "(DI)Z"⟩ : MethodName)) hown (mvT hZ (hw _ (List.mem_of_getElem? (i := 10) rfl))) (mvT hZ (hw _ (List.mem_of_getElem? (i := 11) rfl))) (mvT hZ (hw _ (List.mem_of_getElem? (i := 2) rfl))) (mvT hZ (hw _ (List.mem_of_getElem? (i := 12) rfl))) (by decide) (backOf (W := 0) (own_rm_same l Z a0 hw [] w0_c187_c0_v72_2 w0_v216 Tw027.heap n0 Zw027 w0_c217_same_h1 w0_c217_same_h2) hZ (hw _ (List.mem_of_getElem? (i := 12) rfl)) (hw _ (List.mem_of_getElem? (i := 2) rfl)) (by decide) (by decide)) (g := (mkF m 217 #[.val (.long p0), .second, .val (.long p1), .second, .val (.int p2), .val (.int w0_c2_a0_v7), .val (.int w0_c9_a1_v7), .val (.int w0_c16_a2_v7), .val (.int w0_c23_a3_v7), .val (.int w0_c30_a4_v7), .val (.int w0_c37_a5_v7), .val (.int w0_c44_a0_v7), .val (.int w0_c51_a1_v7), .val (.int w0_c58_a2_v7), .val (.int w0_c65_a3_v7), .val (.int w0_c72_a4_v7), .val (.int w0_c79_a5_v7), .val (.ref bw013), .val (.ref bw020), .val (.int (0 : Int32)), .val (.ref bw027)] [(.int w0_v216), (.double w0_c187_c0_v72_2)])) rfl (by rw [hml]; rfl) (argsL := [(.double w0_c187_c0_v72_2), (.int w0_v216)]) (rest := []) (lenOf own_pd_28DI29Z rfl) rfl (by show 2 * 0 + _ ≤ _; exact Nat.le_of_eq rfl) (hb hby at_217) (fun _ _ => ⟨rfl, rfl, (by decide : 3 + 0 ≤ _), (by decide : 21 + 0 ≤ _)⟩)
  dsimp only [Pt.U, Pt.locs, Pt.cells, Pt.slots] at Xw028 lw028 yw028 zw028 stw028 hQw028
  rw [lw028, yw028, zw028] at Xw028
  obtain ⟨rfl, Nw028q, ew028⟩ := hQw028
  have Nw028 := Fr.app Nw027 Nw028q
  obtain ⟨_, _, ⟨Tw029, Lw029, kw029, nw029⟩, -, Xw029, ⟨Lcw029, hQw029, lw029, yw029, zw029⟩, stw029⟩ := Jvm.LawKit.callS Xw028 hx (y := (⟨"com/example/pintrinsic/pintrinsic/MatricesProductPinLaw", "same", "(DI)Z"⟩ : MethodName)) hown (mvT hZ (hw _ (List.mem_of_getElem? (i := 10) rfl))) (mvT hZ (hw _ (List.mem_of_getElem? (i := 11) rfl))) (mvT hZ (hw _ (List.mem_of_getElem? (i := 2) rfl))) (mvT hZ (hw _ (List.mem_of_getElem? (i := 12) rfl))) (by decide) (backOf (W := 0) (own_rm_same l Z a0 hw [] w0_c187_c0_v72_4 w0_v237 Tw027.heap n0 Zw027 w0_c238_same_h1 w0_c238_same_h2) hZ (hw _ (List.mem_of_getElem? (i := 12) rfl)) (hw _ (List.mem_of_getElem? (i := 2) rfl)) (by decide) (by decide)) (g := (mkF m 238 #[.val (.long p0), .second, .val (.long p1), .second, .val (.int p2), .val (.int w0_c2_a0_v7), .val (.int w0_c9_a1_v7), .val (.int w0_c16_a2_v7), .val (.int w0_c23_a3_v7), .val (.int w0_c30_a4_v7), .val (.int w0_c37_a5_v7), .val (.int w0_c44_a0_v7), .val (.int w0_c51_a1_v7), .val (.int w0_c58_a2_v7), .val (.int w0_c65_a3_v7), .val (.int w0_c72_a4_v7), .val (.int w0_c79_a5_v7), .val (.ref bw013), .val (.ref bw020), .val (.int (0 : Int32)), .val (.ref bw027)] [(.int w0_v237), (.double w0_c187_c0_v72_4)])) rfl (by rw [hml]; rfl) (argsL := [(.double w0_c187_c0_v72_4), (.int w0_v237)]) (rest := []) (lenOf own_pd_28DI29Z rfl) rfl (by show 2 * 0 + _ ≤ _; exact Nat.le_of_eq rfl) (hb hby at_238) (fun _ _ => ⟨rfl, ew028, (by decide : 3 + 0 ≤ _), (by decide : 21 + 0 ≤ _)⟩)
  dsimp only [Pt.U, Pt.locs, Pt.cells, Pt.slots] at Xw029 lw029 yw029 zw029 stw029 hQw029
  rw [lw029, yw029, zw029] at Xw029
  obtain ⟨rfl, Nw029q, ew029⟩ := hQw029
  have Nw029 := Fr.app Nw028 Nw029q
  obtain ⟨_, _, ⟨Tw030, Lw030, kw030, nw030⟩, -, Xw030, ⟨Lcw030, hQw030, lw030, yw030, zw030⟩, stw030⟩ := Jvm.LawKit.callS Xw029 hx (y := (⟨"com/example/pintrinsic/pintrinsic/MatricesProductPinLaw", "same", "(DI)Z"⟩ : MethodName)) hown (mvT hZ (hw _ (List.mem_of_getElem? (i := 10) rfl))) (mvT hZ (hw _ (List.mem_of_getElem? (i := 11) rfl))) (mvT hZ (hw _ (List.mem_of_getElem? (i := 2) rfl))) (mvT hZ (hw _ (List.mem_of_getElem? (i := 12) rfl))) (by decide) (backOf (W := 0) (own_rm_same l Z a0 hw [] w0_c187_c0_v72_6 w0_v258 Tw027.heap n0 Zw027 w0_c259_same_h1 w0_c259_same_h2) hZ (hw _ (List.mem_of_getElem? (i := 12) rfl)) (hw _ (List.mem_of_getElem? (i := 2) rfl)) (by decide) (by decide)) (g := (mkF m 259 #[.val (.long p0), .second, .val (.long p1), .second, .val (.int p2), .val (.int w0_c2_a0_v7), .val (.int w0_c9_a1_v7), .val (.int w0_c16_a2_v7), .val (.int w0_c23_a3_v7), .val (.int w0_c30_a4_v7), .val (.int w0_c37_a5_v7), .val (.int w0_c44_a0_v7), .val (.int w0_c51_a1_v7), .val (.int w0_c58_a2_v7), .val (.int w0_c65_a3_v7), .val (.int w0_c72_a4_v7), .val (.int w0_c79_a5_v7), .val (.ref bw013), .val (.ref bw020), .val (.int (0 : Int32)), .val (.ref bw027)] [(.int w0_v258), (.double w0_c187_c0_v72_6)])) rfl (by rw [hml]; rfl) (argsL := [(.double w0_c187_c0_v72_6), (.int w0_v258)]) (rest := []) (lenOf own_pd_28DI29Z rfl) rfl (by show 2 * 0 + _ ≤ _; exact Nat.le_of_eq rfl) (hb hby at_259) (fun _ _ => ⟨rfl, ew029, (by decide : 3 + 0 ≤ _), (by decide : 21 + 0 ≤ _)⟩)
  dsimp only [Pt.U, Pt.locs, Pt.cells, Pt.slots] at Xw030 lw030 yw030 zw030 stw030 hQw030
  rw [lw030, yw030, zw030] at Xw030
  obtain ⟨rfl, Nw030q, ew030⟩ := hQw030
  have Nw030 := Fr.app Nw029 Nw030q
  obtain ⟨_, _, ⟨Tw031, Lw031, kw031, nw031⟩, -, Xw031, ⟨Lcw031, hQw031, lw031, yw031, zw031⟩, stw031⟩ := Jvm.LawKit.callS Xw030 hx (y := (⟨"com/example/pintrinsic/pintrinsic/MatricesProductPinLaw", "same", "(DI)Z"⟩ : MethodName)) hown (mvT hZ (hw _ (List.mem_of_getElem? (i := 10) rfl))) (mvT hZ (hw _ (List.mem_of_getElem? (i := 11) rfl))) (mvT hZ (hw _ (List.mem_of_getElem? (i := 2) rfl))) (mvT hZ (hw _ (List.mem_of_getElem? (i := 12) rfl))) (by decide) (backOf (W := 0) (own_rm_same l Z a0 hw [] w0_c187_c0_v72_8 w0_v279 Tw027.heap n0 Zw027 w0_c280_same_h1 w0_c280_same_h2) hZ (hw _ (List.mem_of_getElem? (i := 12) rfl)) (hw _ (List.mem_of_getElem? (i := 2) rfl)) (by decide) (by decide)) (g := (mkF m 280 #[.val (.long p0), .second, .val (.long p1), .second, .val (.int p2), .val (.int w0_c2_a0_v7), .val (.int w0_c9_a1_v7), .val (.int w0_c16_a2_v7), .val (.int w0_c23_a3_v7), .val (.int w0_c30_a4_v7), .val (.int w0_c37_a5_v7), .val (.int w0_c44_a0_v7), .val (.int w0_c51_a1_v7), .val (.int w0_c58_a2_v7), .val (.int w0_c65_a3_v7), .val (.int w0_c72_a4_v7), .val (.int w0_c79_a5_v7), .val (.ref bw013), .val (.ref bw020), .val (.int (0 : Int32)), .val (.ref bw027)] [(.int w0_v279), (.double w0_c187_c0_v72_8)])) rfl (by rw [hml]; rfl) (argsL := [(.double w0_c187_c0_v72_8), (.int w0_v279)]) (rest := []) (lenOf own_pd_28DI29Z rfl) rfl (by show 2 * 0 + _ ≤ _; exact Nat.le_of_eq rfl) (hb hby at_280) (fun _ _ => ⟨rfl, ew030, (by decide : 3 + 0 ≤ _), (by decide : 21 + 0 ≤ _)⟩)
  dsimp only [Pt.U, Pt.locs, Pt.cells, Pt.slots] at Xw031 lw031 yw031 zw031 stw031 hQw031
  rw [lw031, yw031, zw031] at Xw031
  obtain ⟨rfl, Nw031q, ew031⟩ := hQw031
  have Nw031 := Fr.app Nw030 Nw031q
  obtain ⟨_, _, ⟨Tw032, Lw032, kw032, nw032⟩, -, Xw032, ⟨Lcw032, hQw032, lw032, yw032, zw032⟩, stw032⟩ := Jvm.LawKit.callS Xw031 hx (y := (⟨"com/example/pintrinsic/pintrinsic/MatricesProductPinLaw", "same", "(DI)Z"⟩ : MethodName)) hown (mvT hZ (hw _ (List.mem_of_getElem? (i := 10) rfl))) (mvT hZ (hw _ (List.mem_of_getElem? (i := 11) rfl))) (mvT hZ (hw _ (List.mem_of_getElem? (i := 2) rfl))) (mvT hZ (hw _ (List.mem_of_getElem? (i := 12) rfl))) (by decide) (backOf (W := 0) (own_rm_same l Z a0 hw [] w0_c187_c0_v72_10 w0_v300 Tw027.heap n0 Zw027 w0_c301_same_h1 w0_c301_same_h2) hZ (hw _ (List.mem_of_getElem? (i := 12) rfl)) (hw _ (List.mem_of_getElem? (i := 2) rfl)) (by decide) (by decide)) (g := (mkF m 301 #[.val (.long p0), .second, .val (.long p1), .second, .val (.int p2), .val (.int w0_c2_a0_v7), .val (.int w0_c9_a1_v7), .val (.int w0_c16_a2_v7), .val (.int w0_c23_a3_v7), .val (.int w0_c30_a4_v7), .val (.int w0_c37_a5_v7), .val (.int w0_c44_a0_v7), .val (.int w0_c51_a1_v7), .val (.int w0_c58_a2_v7), .val (.int w0_c65_a3_v7), .val (.int w0_c72_a4_v7), .val (.int w0_c79_a5_v7), .val (.ref bw013), .val (.ref bw020), .val (.int (0 : Int32)), .val (.ref bw027)] [(.int w0_v300), (.double w0_c187_c0_v72_10)])) rfl (by rw [hml]; rfl) (argsL := [(.double w0_c187_c0_v72_10), (.int w0_v300)]) (rest := []) (lenOf own_pd_28DI29Z rfl) rfl (by show 2 * 0 + _ ≤ _; exact Nat.le_of_eq rfl) (hb hby at_301) (fun _ _ => ⟨rfl, ew031, (by decide : 3 + 0 ≤ _), (by decide : 21 + 0 ≤ _)⟩)
  dsimp only [Pt.U, Pt.locs, Pt.cells, Pt.slots] at Xw032 lw032 yw032 zw032 stw032 hQw032
  rw [lw032, yw032, zw032] at Xw032
  obtain ⟨rfl, Nw032q, ew032⟩ := hQw032
  have Nw032 := Fr.app Nw031 Nw032q
  obtain ⟨_, _, ⟨Tw033, Lw033, kw033, nw033⟩, -, Xw033, ⟨Lcw033, hQw033, lw033, yw033, zw033⟩, stw033⟩ := Jvm.LawKit.callS Xw032 hx (y := (⟨"com/example/pintrinsic/pintrinsic/MatricesProductPinLaw", "same", "(DI)Z"⟩ : MethodName)) hown (mvT hZ (hw _ (List.mem_of_getElem? (i := 10) rfl))) (mvT hZ (hw _ (List.mem_of_getElem? (i := 11) rfl))) (mvT hZ (hw _ (List.mem_of_getElem? (i := 2) rfl))) (mvT hZ (hw _ (List.mem_of_getElem? (i := 12) rfl))) (by decide) (backOf (W := 0) (own_rm_same l Z a0 hw [] w0_c187_c0_v72_12 w0_v321 Tw027.heap n0 Zw027 w0_c322_same_h1 w0_c322_same_h2) hZ (hw _ (List.mem_of_getElem? (i := 12) rfl)) (hw _ (List.mem_of_getElem? (i := 2) rfl)) (by decide) (by decide)) (g := (mkF m 322 #[.val (.long p0), .second, .val (.long p1), .second, .val (.int p2), .val (.int w0_c2_a0_v7), .val (.int w0_c9_a1_v7), .val (.int w0_c16_a2_v7), .val (.int w0_c23_a3_v7), .val (.int w0_c30_a4_v7), .val (.int w0_c37_a5_v7), .val (.int w0_c44_a0_v7), .val (.int w0_c51_a1_v7), .val (.int w0_c58_a2_v7), .val (.int w0_c65_a3_v7), .val (.int w0_c72_a4_v7), .val (.int w0_c79_a5_v7), .val (.ref bw013), .val (.ref bw020), .val (.int (0 : Int32)), .val (.ref bw027)] [(.int w0_v321), (.double w0_c187_c0_v72_12)])) rfl (by rw [hml]; rfl) (argsL := [(.double w0_c187_c0_v72_12), (.int w0_v321)]) (rest := []) (lenOf own_pd_28DI29Z rfl) rfl (by show 2 * 0 + _ ≤ _; exact Nat.le_of_eq rfl) (hb hby at_322) (fun _ _ => ⟨rfl, ew032, (by decide : 3 + 0 ≤ _), (by decide : 21 + 0 ≤ _)⟩)
  dsimp only [Pt.U, Pt.locs, Pt.cells, Pt.slots] at Xw033 lw033 yw033 zw033 stw033 hQw033
  rw [lw033, yw033, zw033] at Xw033
  obtain ⟨rfl, Nw033q, ew033⟩ := hQw033
  have Nw033 := Fr.app Nw032 Nw033q
  obtain ⟨_, _, ⟨Tw034, Lw034, kw034, nw034⟩, -, Xw034, ⟨Lcw034, hQw034, lw034, yw034, zw034⟩, stw034⟩ := Jvm.LawKit.callS Xw033 hx (y := (⟨"com/example/pintrinsic/pintrinsic/MatricesProductPinLaw", "same", "(DI)Z"⟩ : MethodName)) hown (mvT hZ (hw _ (List.mem_of_getElem? (i := 10) rfl))) (mvT hZ (hw _ (List.mem_of_getElem? (i := 11) rfl))) (mvT hZ (hw _ (List.mem_of_getElem? (i := 2) rfl))) (mvT hZ (hw _ (List.mem_of_getElem? (i := 12) rfl))) (by decide) (backOf (W := 0) (own_rm_same l Z a0 hw [] w0_c187_c0_v72_14 w0_v343 Tw027.heap n0 Zw027 w0_c344_same_h1 w0_c344_same_h2) hZ (hw _ (List.mem_of_getElem? (i := 12) rfl)) (hw _ (List.mem_of_getElem? (i := 2) rfl)) (by decide) (by decide)) (g := (mkF m 344 #[.val (.long p0), .second, .val (.long p1), .second, .val (.int p2), .val (.int w0_c2_a0_v7), .val (.int w0_c9_a1_v7), .val (.int w0_c16_a2_v7), .val (.int w0_c23_a3_v7), .val (.int w0_c30_a4_v7), .val (.int w0_c37_a5_v7), .val (.int w0_c44_a0_v7), .val (.int w0_c51_a1_v7), .val (.int w0_c58_a2_v7), .val (.int w0_c65_a3_v7), .val (.int w0_c72_a4_v7), .val (.int w0_c79_a5_v7), .val (.ref bw013), .val (.ref bw020), .val (.int (0 : Int32)), .val (.ref bw027)] [(.int w0_v343), (.double w0_c187_c0_v72_14)])) rfl (by rw [hml]; rfl) (argsL := [(.double w0_c187_c0_v72_14), (.int w0_v343)]) (rest := []) (lenOf own_pd_28DI29Z rfl) rfl (by show 2 * 0 + _ ≤ _; exact Nat.le_of_eq rfl) (hb hby at_344) (fun _ _ => ⟨rfl, ew033, (by decide : 3 + 0 ≤ _), (by decide : 21 + 0 ≤ _)⟩)
  dsimp only [Pt.U, Pt.locs, Pt.cells, Pt.slots] at Xw034 lw034 yw034 zw034 stw034 hQw034
  rw [lw034, yw034, zw034] at Xw034
  obtain ⟨rfl, Nw034q, ew034⟩ := hQw034
  have Nw034 := Fr.app Nw033 Nw034q
  obtain ⟨_, _, ⟨Tw035, Lw035, kw035, nw035⟩, -, Xw035, ⟨Lcw035, hQw035, lw035, yw035, zw035⟩, stw035⟩ := Jvm.LawKit.callS Xw034 hx (y := (⟨"com/example/pintrinsic/pintrinsic/MatricesProductPinLaw", "same", "(DI)Z"⟩ : MethodName)) hown (mvT hZ (hw _ (List.mem_of_getElem? (i := 10) rfl))) (mvT hZ (hw _ (List.mem_of_getElem? (i := 11) rfl))) (mvT hZ (hw _ (List.mem_of_getElem? (i := 2) rfl))) (mvT hZ (hw _ (List.mem_of_getElem? (i := 12) rfl))) (by decide) (backOf (W := 0) (own_rm_same l Z a0 hw [] w0_c187_c0_v72_16 w0_v365 Tw027.heap n0 Zw027 w0_c366_same_h1 w0_c366_same_h2) hZ (hw _ (List.mem_of_getElem? (i := 12) rfl)) (hw _ (List.mem_of_getElem? (i := 2) rfl)) (by decide) (by decide)) (g := (mkF m 366 #[.val (.long p0), .second, .val (.long p1), .second, .val (.int p2), .val (.int w0_c2_a0_v7), .val (.int w0_c9_a1_v7), .val (.int w0_c16_a2_v7), .val (.int w0_c23_a3_v7), .val (.int w0_c30_a4_v7), .val (.int w0_c37_a5_v7), .val (.int w0_c44_a0_v7), .val (.int w0_c51_a1_v7), .val (.int w0_c58_a2_v7), .val (.int w0_c65_a3_v7), .val (.int w0_c72_a4_v7), .val (.int w0_c79_a5_v7), .val (.ref bw013), .val (.ref bw020), .val (.int (0 : Int32)), .val (.ref bw027)] [(.int w0_v365), (.double w0_c187_c0_v72_16)])) rfl (by rw [hml]; rfl) (argsL := [(.double w0_c187_c0_v72_16), (.int w0_v365)]) (rest := []) (lenOf own_pd_28DI29Z rfl) rfl (by show 2 * 0 + _ ≤ _; exact Nat.le_of_eq rfl) (hb hby at_366) (fun _ _ => ⟨rfl, ew034, (by decide : 3 + 0 ≤ _), (by decide : 21 + 0 ≤ _)⟩)
  dsimp only [Pt.U, Pt.locs, Pt.cells, Pt.slots] at Xw035 lw035 yw035 zw035 stw035 hQw035
  rw [lw035, yw035, zw035] at Xw035
  obtain ⟨rfl, Nw035q, ew035⟩ := hQw035
  have Nw035 := Fr.app Nw034 Nw035q
  obtain ⟨_, _, ⟨Tw036, Lw036, kw036, nw036⟩, -, Xw036, ⟨Lcw036, hQw036, lw036, yw036, zw036⟩, stw036⟩ := Jvm.LawKit.callS Xw035 hx (y := (⟨"com/example/pintrinsic/pintrinsic/MatricesProductPinLaw", "same", "(DI)Z"⟩ : MethodName)) hown (mvT hZ (hw _ (List.mem_of_getElem? (i := 10) rfl))) (mvT hZ (hw _ (List.mem_of_getElem? (i := 11) rfl))) (mvT hZ (hw _ (List.mem_of_getElem? (i := 2) rfl))) (mvT hZ (hw _ (List.mem_of_getElem? (i := 12) rfl))) (by decide) (backOf (W := 0) (own_rm_same l Z a0 hw [] w0_c187_c0_v72_18 w0_v387 Tw027.heap n0 Zw027 w0_c388_same_h1 w0_c388_same_h2) hZ (hw _ (List.mem_of_getElem? (i := 12) rfl)) (hw _ (List.mem_of_getElem? (i := 2) rfl)) (by decide) (by decide)) (g := (mkF m 388 #[.val (.long p0), .second, .val (.long p1), .second, .val (.int p2), .val (.int w0_c2_a0_v7), .val (.int w0_c9_a1_v7), .val (.int w0_c16_a2_v7), .val (.int w0_c23_a3_v7), .val (.int w0_c30_a4_v7), .val (.int w0_c37_a5_v7), .val (.int w0_c44_a0_v7), .val (.int w0_c51_a1_v7), .val (.int w0_c58_a2_v7), .val (.int w0_c65_a3_v7), .val (.int w0_c72_a4_v7), .val (.int w0_c79_a5_v7), .val (.ref bw013), .val (.ref bw020), .val (.int (0 : Int32)), .val (.ref bw027)] [(.int w0_v387), (.double w0_c187_c0_v72_18)])) rfl (by rw [hml]; rfl) (argsL := [(.double w0_c187_c0_v72_18), (.int w0_v387)]) (rest := []) (lenOf own_pd_28DI29Z rfl) rfl (by show 2 * 0 + _ ≤ _; exact Nat.le_of_eq rfl) (hb hby at_388) (fun _ _ => ⟨rfl, ew035, (by decide : 3 + 0 ≤ _), (by decide : 21 + 0 ≤ _)⟩)
  dsimp only [Pt.U, Pt.locs, Pt.cells, Pt.slots] at Xw036 lw036 yw036 zw036 stw036 hQw036
  rw [lw036, yw036, zw036] at Xw036
  obtain ⟨rfl, Nw036q, ew036⟩ := hQw036
  have Nw036 := Fr.app Nw035 Nw036q
  obtain ⟨fs, hr, hrun, hended, hW, hsame⟩ := Xw036.leave (v := some (.int (1 : Int32))) (fun h => by rw [Bd.returns] at h; cases h)
  refine ⟨_, _, pre0 _ ?_, hrun, hended, _, _, rfl, ?_, ⟨_, rfl⟩, hW, hsame.mono (by decide) (by decide)⟩
  · refine own_s_lloadN X0.here hx (hb hby at_0) (pc' := 1) rfl rfl ?_
    refine own_s_iconst X0.here hx (hb hby at_1) (pc' := 2) rfl (v := (0 : Int32)) (by decide) ?_
    refine stw01 _ ?_
    show Steps p.tables e below (Tw01.setTop (mkF m 5 #[.val (.long p0), .second, .val (.long p1), .second, .val (.int p2), .unset, .unset, .unset, .unset, .unset, .unset, .unset, .unset, .unset, .unset, .unset, .unset, .unset, .unset, .unset, .unset] [(.int w0_c2_a0_v7)])) _
    refine own_s_istore Xw01.here hx (hb hby at_5) (pc' := 7) rfl (L' := #[.val (.long p0), .second, .val (.long p1), .second, .val (.int p2), .val (.int w0_c2_a0_v7), .unset, .unset, .unset, .unset, .unset, .unset, .unset, .unset, .unset, .unset, .unset, .unset, .unset, .unset, .unset]) rfl ?_
    refine own_s_lloadN Xw01.here hx (hb hby at_7) (pc' := 8) rfl rfl ?_
    refine own_s_iconst Xw01.here hx (hb hby at_8) (pc' := 9) rfl (v := (1 : Int32)) (by decide) ?_
    refine stw02 _ ?_
    show Steps p.tables e below (Tw02.setTop (mkF m 12 #[.val (.long p0), .second, .val (.long p1), .second, .val (.int p2), .val (.int w0_c2_a0_v7), .unset, .unset, .unset, .unset, .unset, .unset, .unset, .unset, .unset, .unset, .unset, .unset, .unset, .unset, .unset] [(.int w0_c9_a1_v7)])) _
    refine own_s_istore Xw02.here hx (hb hby at_12) (pc' := 14) rfl (L' := #[.val (.long p0), .second, .val (.long p1), .second, .val (.int p2), .val (.int w0_c2_a0_v7), .val (.int w0_c9_a1_v7), .unset, .unset, .unset, .unset, .unset, .unset, .unset, .unset, .unset, .unset, .unset, .unset, .unset, .unset]) rfl ?_
    refine own_s_lloadN Xw02.here hx (hb hby at_14) (pc' := 15) rfl rfl ?_
    refine own_s_iconst Xw02.here hx (hb hby at_15) (pc' := 16) rfl (v := (2 : Int32)) (by decide) ?_
    refine stw03 _ ?_
    show Steps p.tables e below (Tw03.setTop (mkF m 19 #[.val (.long p0), .second, .val (.long p1), .second, .val (.int p2), .val (.int w0_c2_a0_v7), .val (.int w0_c9_a1_v7), .unset, .unset, .unset, .unset, .unset, .unset, .unset, .unset, .unset, .unset, .unset, .unset, .unset, .unset] [(.int w0_c16_a2_v7)])) _
    refine own_s_istore Xw03.here hx (hb hby at_19) (pc' := 21) rfl (L' := #[.val (.long p0), .second, .val (.long p1), .second, .val (.int p2), .val (.int w0_c2_a0_v7), .val (.int w0_c9_a1_v7), .val (.int w0_c16_a2_v7), .unset, .unset, .unset, .unset, .unset, .unset, .unset, .unset, .unset, .unset, .unset, .unset, .unset]) rfl ?_
    refine own_s_lloadN Xw03.here hx (hb hby at_21) (pc' := 22) rfl rfl ?_
    refine own_s_iconst Xw03.here hx (hb hby at_22) (pc' := 23) rfl (v := (3 : Int32)) (by decide) ?_
    refine stw04 _ ?_
    show Steps p.tables e below (Tw04.setTop (mkF m 26 #[.val (.long p0), .second, .val (.long p1), .second, .val (.int p2), .val (.int w0_c2_a0_v7), .val (.int w0_c9_a1_v7), .val (.int w0_c16_a2_v7), .unset, .unset, .unset, .unset, .unset, .unset, .unset, .unset, .unset, .unset, .unset, .unset, .unset] [(.int w0_c23_a3_v7)])) _
    refine own_s_istore Xw04.here hx (hb hby at_26) (pc' := 28) rfl (L' := #[.val (.long p0), .second, .val (.long p1), .second, .val (.int p2), .val (.int w0_c2_a0_v7), .val (.int w0_c9_a1_v7), .val (.int w0_c16_a2_v7), .val (.int w0_c23_a3_v7), .unset, .unset, .unset, .unset, .unset, .unset, .unset, .unset, .unset, .unset, .unset, .unset]) rfl ?_
    refine own_s_lloadN Xw04.here hx (hb hby at_28) (pc' := 29) rfl rfl ?_
    refine own_s_iconst Xw04.here hx (hb hby at_29) (pc' := 30) rfl (v := (4 : Int32)) (by decide) ?_
    refine stw05 _ ?_
    show Steps p.tables e below (Tw05.setTop (mkF m 33 #[.val (.long p0), .second, .val (.long p1), .second, .val (.int p2), .val (.int w0_c2_a0_v7), .val (.int w0_c9_a1_v7), .val (.int w0_c16_a2_v7), .val (.int w0_c23_a3_v7), .unset, .unset, .unset, .unset, .unset, .unset, .unset, .unset, .unset, .unset, .unset, .unset] [(.int w0_c30_a4_v7)])) _
    refine own_s_istore Xw05.here hx (hb hby at_33) (pc' := 35) rfl (L' := #[.val (.long p0), .second, .val (.long p1), .second, .val (.int p2), .val (.int w0_c2_a0_v7), .val (.int w0_c9_a1_v7), .val (.int w0_c16_a2_v7), .val (.int w0_c23_a3_v7), .val (.int w0_c30_a4_v7), .unset, .unset, .unset, .unset, .unset, .unset, .unset, .unset, .unset, .unset, .unset]) rfl ?_
    refine own_s_lloadN Xw05.here hx (hb hby at_35) (pc' := 36) rfl rfl ?_
    refine own_s_iconst Xw05.here hx (hb hby at_36) (pc' := 37) rfl (v := (5 : Int32)) (by decide) ?_
    refine stw06 _ ?_
    show Steps p.tables e below (Tw06.setTop (mkF m 40 #[.val (.long p0), .second, .val (.long p1), .second, .val (.int p2), .val (.int w0_c2_a0_v7), .val (.int w0_c9_a1_v7), .val (.int w0_c16_a2_v7), .val (.int w0_c23_a3_v7), .val (.int w0_c30_a4_v7), .unset, .unset, .unset, .unset, .unset, .unset, .unset, .unset, .unset, .unset, .unset] [(.int w0_c37_a5_v7)])) _
    refine own_s_istore Xw06.here hx (hb hby at_40) (pc' := 42) rfl (L' := #[.val (.long p0), .second, .val (.long p1), .second, .val (.int p2), .val (.int w0_c2_a0_v7), .val (.int w0_c9_a1_v7), .val (.int w0_c16_a2_v7), .val (.int w0_c23_a3_v7), .val (.int w0_c30_a4_v7), .val (.int w0_c37_a5_v7), .unset, .unset, .unset, .unset, .unset, .unset, .unset, .unset, .unset, .unset]) rfl ?_
    refine own_s_lloadN Xw06.here hx (hb hby at_42) (pc' := 43) rfl rfl ?_
    refine own_s_iconst Xw06.here hx (hb hby at_43) (pc' := 44) rfl (v := (0 : Int32)) (by decide) ?_
    refine stw07 _ ?_
    show Steps p.tables e below (Tw07.setTop (mkF m 47 #[.val (.long p0), .second, .val (.long p1), .second, .val (.int p2), .val (.int w0_c2_a0_v7), .val (.int w0_c9_a1_v7), .val (.int w0_c16_a2_v7), .val (.int w0_c23_a3_v7), .val (.int w0_c30_a4_v7), .val (.int w0_c37_a5_v7), .unset, .unset, .unset, .unset, .unset, .unset, .unset, .unset, .unset, .unset] [(.int w0_c44_a0_v7)])) _
    refine own_s_istore Xw07.here hx (hb hby at_47) (pc' := 49) rfl (L' := #[.val (.long p0), .second, .val (.long p1), .second, .val (.int p2), .val (.int w0_c2_a0_v7), .val (.int w0_c9_a1_v7), .val (.int w0_c16_a2_v7), .val (.int w0_c23_a3_v7), .val (.int w0_c30_a4_v7), .val (.int w0_c37_a5_v7), .val (.int w0_c44_a0_v7), .unset, .unset, .unset, .unset, .unset, .unset, .unset, .unset, .unset]) rfl ?_
    refine own_s_lloadN Xw07.here hx (hb hby at_49) (pc' := 50) rfl rfl ?_
    refine own_s_iconst Xw07.here hx (hb hby at_50) (pc' := 51) rfl (v := (1 : Int32)) (by decide) ?_
    refine stw08 _ ?_
    show Steps p.tables e below (Tw08.setTop (mkF m 54 #[.val (.long p0), .second, .val (.long p1), .second, .val (.int p2), .val (.int w0_c2_a0_v7), .val (.int w0_c9_a1_v7), .val (.int w0_c16_a2_v7), .val (.int w0_c23_a3_v7), .val (.int w0_c30_a4_v7), .val (.int w0_c37_a5_v7), .val (.int w0_c44_a0_v7), .unset, .unset, .unset, .unset, .unset, .unset, .unset, .unset, .unset] [(.int w0_c51_a1_v7)])) _
    refine own_s_istore Xw08.here hx (hb hby at_54) (pc' := 56) rfl (L' := #[.val (.long p0), .second, .val (.long p1), .second, .val (.int p2), .val (.int w0_c2_a0_v7), .val (.int w0_c9_a1_v7), .val (.int w0_c16_a2_v7), .val (.int w0_c23_a3_v7), .val (.int w0_c30_a4_v7), .val (.int w0_c37_a5_v7), .val (.int w0_c44_a0_v7), .val (.int w0_c51_a1_v7), .unset, .unset, .unset, .unset, .unset, .unset, .unset, .unset]) rfl ?_
    refine own_s_lloadN Xw08.here hx (hb hby at_56) (pc' := 57) rfl rfl ?_
    refine own_s_iconst Xw08.here hx (hb hby at_57) (pc' := 58) rfl (v := (2 : Int32)) (by decide) ?_
    refine stw09 _ ?_
    show Steps p.tables e below (Tw09.setTop (mkF m 61 #[.val (.long p0), .second, .val (.long p1), .second, .val (.int p2), .val (.int w0_c2_a0_v7), .val (.int w0_c9_a1_v7), .val (.int w0_c16_a2_v7), .val (.int w0_c23_a3_v7), .val (.int w0_c30_a4_v7), .val (.int w0_c37_a5_v7), .val (.int w0_c44_a0_v7), .val (.int w0_c51_a1_v7), .unset, .unset, .unset, .unset, .unset, .unset, .unset, .unset] [(.int w0_c58_a2_v7)])) _
    refine own_s_istore Xw09.here hx (hb hby at_61) (pc' := 63) rfl (L' := #[.val (.long p0), .second, .val (.long p1), .second, .val (.int p2), .val (.int w0_c2_a0_v7), .val (.int w0_c9_a1_v7), .val (.int w0_c16_a2_v7), .val (.int w0_c23_a3_v7), .val (.int w0_c30_a4_v7), .val (.int w0_c37_a5_v7), .val (.int w0_c44_a0_v7), .val (.int w0_c51_a1_v7), .val (.int w0_c58_a2_v7), .unset, .unset, .unset, .unset, .unset, .unset, .unset]) rfl ?_
    refine own_s_lloadN Xw09.here hx (hb hby at_63) (pc' := 64) rfl rfl ?_
    refine own_s_iconst Xw09.here hx (hb hby at_64) (pc' := 65) rfl (v := (3 : Int32)) (by decide) ?_
    refine stw010 _ ?_
    show Steps p.tables e below (Tw010.setTop (mkF m 68 #[.val (.long p0), .second, .val (.long p1), .second, .val (.int p2), .val (.int w0_c2_a0_v7), .val (.int w0_c9_a1_v7), .val (.int w0_c16_a2_v7), .val (.int w0_c23_a3_v7), .val (.int w0_c30_a4_v7), .val (.int w0_c37_a5_v7), .val (.int w0_c44_a0_v7), .val (.int w0_c51_a1_v7), .val (.int w0_c58_a2_v7), .unset, .unset, .unset, .unset, .unset, .unset, .unset] [(.int w0_c65_a3_v7)])) _
    refine own_s_istore Xw010.here hx (hb hby at_68) (pc' := 70) rfl (L' := #[.val (.long p0), .second, .val (.long p1), .second, .val (.int p2), .val (.int w0_c2_a0_v7), .val (.int w0_c9_a1_v7), .val (.int w0_c16_a2_v7), .val (.int w0_c23_a3_v7), .val (.int w0_c30_a4_v7), .val (.int w0_c37_a5_v7), .val (.int w0_c44_a0_v7), .val (.int w0_c51_a1_v7), .val (.int w0_c58_a2_v7), .val (.int w0_c65_a3_v7), .unset, .unset, .unset, .unset, .unset, .unset]) rfl ?_
    refine own_s_lloadN Xw010.here hx (hb hby at_70) (pc' := 71) rfl rfl ?_
    refine own_s_iconst Xw010.here hx (hb hby at_71) (pc' := 72) rfl (v := (4 : Int32)) (by decide) ?_
    refine stw011 _ ?_
    show Steps p.tables e below (Tw011.setTop (mkF m 75 #[.val (.long p0), .second, .val (.long p1), .second, .val (.int p2), .val (.int w0_c2_a0_v7), .val (.int w0_c9_a1_v7), .val (.int w0_c16_a2_v7), .val (.int w0_c23_a3_v7), .val (.int w0_c30_a4_v7), .val (.int w0_c37_a5_v7), .val (.int w0_c44_a0_v7), .val (.int w0_c51_a1_v7), .val (.int w0_c58_a2_v7), .val (.int w0_c65_a3_v7), .unset, .unset, .unset, .unset, .unset, .unset] [(.int w0_c72_a4_v7)])) _
    refine own_s_istore Xw011.here hx (hb hby at_75) (pc' := 77) rfl (L' := #[.val (.long p0), .second, .val (.long p1), .second, .val (.int p2), .val (.int w0_c2_a0_v7), .val (.int w0_c9_a1_v7), .val (.int w0_c16_a2_v7), .val (.int w0_c23_a3_v7), .val (.int w0_c30_a4_v7), .val (.int w0_c37_a5_v7), .val (.int w0_c44_a0_v7), .val (.int w0_c51_a1_v7), .val (.int w0_c58_a2_v7), .val (.int w0_c65_a3_v7), .val (.int w0_c72_a4_v7), .unset, .unset, .unset, .unset, .unset]) rfl ?_
    refine own_s_lloadN Xw011.here hx (hb hby at_77) (pc' := 78) rfl rfl ?_
    refine own_s_iconst Xw011.here hx (hb hby at_78) (pc' := 79) rfl (v := (5 : Int32)) (by decide) ?_
    refine stw012 _ ?_
    show Steps p.tables e below (Tw012.setTop (mkF m 82 #[.val (.long p0), .second, .val (.long p1), .second, .val (.int p2), .val (.int w0_c2_a0_v7), .val (.int w0_c9_a1_v7), .val (.int w0_c16_a2_v7), .val (.int w0_c23_a3_v7), .val (.int w0_c30_a4_v7), .val (.int w0_c37_a5_v7), .val (.int w0_c44_a0_v7), .val (.int w0_c51_a1_v7), .val (.int w0_c58_a2_v7), .val (.int w0_c65_a3_v7), .val (.int w0_c72_a4_v7), .unset, .unset, .unset, .unset, .unset] [(.int w0_c79_a5_v7)])) _
    refine own_s_istore Xw012.here hx (hb hby at_82) (pc' := 84) rfl (L' := #[.val (.long p0), .second, .val (.long p1), .second, .val (.int p2), .val (.int w0_c2_a0_v7), .val (.int w0_c9_a1_v7), .val (.int w0_c16_a2_v7), .val (.int w0_c23_a3_v7), .val (.int w0_c30_a4_v7), .val (.int w0_c37_a5_v7), .val (.int w0_c44_a0_v7), .val (.int w0_c51_a1_v7), .val (.int w0_c58_a2_v7), .val (.int w0_c65_a3_v7), .val (.int w0_c72_a4_v7), .val (.int w0_c79_a5_v7), .unset, .unset, .unset, .unset]) rfl ?_
    refine own_s_bipush Xw012.here hx (hb hby at_84) (pc' := 86) rfl (v := (6 : Int32)) (by decide) ?_
    refine stw013 _ ?_
    refine own_s_dup Xw013.here hx (hb hby at_88) (pc' := 89) rfl rfl ?_
    refine own_s_iconst Xw013.here hx (hb hby at_89) (pc' := 90) rfl (v := (0 : Int32)) (by decide) ?_
    refine own_s_iload Xw013.here hx (hb hby at_90) (pc' := 92) rfl rfl ?_
    refine own_s_i2d Xw013.here hx (hb hby at_92) (pc' := 93) rfl (v := (FP.i2d w0_c2_a0_v7)) rfl ?_
    refine stw014 _ ?_
    refine own_s_dup Xw014.here hx (hb hby at_94) (pc' := 95) rfl rfl ?_
    refine own_s_iconst Xw014.here hx (hb hby at_95) (pc' := 96) rfl (v := (1 : Int32)) (by decide) ?_
    refine own_s_iload Xw014.here hx (hb hby at_96) (pc' := 98) rfl rfl ?_
    refine own_s_i2d Xw014.here hx (hb hby at_98) (pc' := 99) rfl (v := (FP.i2d w0_c9_a1_v7)) rfl ?_
    refine stw015 _ ?_
    refine own_s_dup Xw015.here hx (hb hby at_100) (pc' := 101) rfl rfl ?_
    refine own_s_iconst Xw015.here hx (hb hby at_101) (pc' := 102) rfl (v := (2 : Int32)) (by decide) ?_
    refine own_s_iload Xw015.here hx (hb hby at_102) (pc' := 104) rfl rfl ?_
    refine own_s_i2d Xw015.here hx (hb hby at_104) (pc' := 105) rfl (v := (FP.i2d w0_c16_a2_v7)) rfl ?_
    refine stw016 _ ?_
    refine own_s_dup Xw016.here hx (hb hby at_106) (pc' := 107) rfl rfl ?_
    refine own_s_iconst Xw016.here hx (hb hby at_107) (pc' := 108) rfl (v := (3 : Int32)) (by decide) ?_
    refine own_s_iload Xw016.here hx (hb hby at_108) (pc' := 110) rfl rfl ?_
    refine own_s_i2d Xw016.here hx (hb hby at_110) (pc' := 111) rfl (v := (FP.i2d w0_c23_a3_v7)) rfl ?_
    refine stw017 _ ?_
    refine own_s_dup Xw017.here hx (hb hby at_112) (pc' := 113) rfl rfl ?_
    refine own_s_iconst Xw017.here hx (hb hby at_113) (pc' := 114) rfl (v := (4 : Int32)) (by decide) ?_
    refine own_s_iload Xw017.here hx (hb hby at_114) (pc' := 116) rfl rfl ?_
    refine own_s_i2d Xw017.here hx (hb hby at_116) (pc' := 117) rfl (v := (FP.i2d w0_c30_a4_v7)) rfl ?_
    refine stw018 _ ?_
    refine own_s_dup Xw018.here hx (hb hby at_118) (pc' := 119) rfl rfl ?_
    refine own_s_iconst Xw018.here hx (hb hby at_119) (pc' := 120) rfl (v := (5 : Int32)) (by decide) ?_
    refine own_s_iload Xw018.here hx (hb hby at_120) (pc' := 122) rfl rfl ?_
    refine own_s_i2d Xw018.here hx (hb hby at_122) (pc' := 123) rfl (v := (FP.i2d w0_c37_a5_v7)) rfl ?_
    refine stw019 _ ?_
    refine own_s_astore Xw019.here hx (hb hby at_124) (pc' := 126) rfl rfl (L' := #[.val (.long p0), .second, .val (.long p1), .second, .val (.int p2), .val (.int w0_c2_a0_v7), .val (.int w0_c9_a1_v7), .val (.int w0_c16_a2_v7), .val (.int w0_c23_a3_v7), .val (.int w0_c30_a4_v7), .val (.int w0_c37_a5_v7), .val (.int w0_c44_a0_v7), .val (.int w0_c51_a1_v7), .val (.int w0_c58_a2_v7), .val (.int w0_c65_a3_v7), .val (.int w0_c72_a4_v7), .val (.int w0_c79_a5_v7), .val (.ref bw013), .unset, .unset, .unset]) rfl ?_
    refine own_s_bipush Xw019.here hx (hb hby at_126) (pc' := 128) rfl (v := (6 : Int32)) (by decide) ?_
    refine stw020 _ ?_
    refine own_s_dup Xw020.here hx (hb hby at_130) (pc' := 131) rfl rfl ?_
    refine own_s_iconst Xw020.here hx (hb hby at_131) (pc' := 132) rfl (v := (0 : Int32)) (by decide) ?_
    refine own_s_iload Xw020.here hx (hb hby at_132) (pc' := 134) rfl rfl ?_
    refine own_s_i2d Xw020.here hx (hb hby at_134) (pc' := 135) rfl (v := (FP.i2d w0_c44_a0_v7)) rfl ?_
    refine stw021 _ ?_
    refine own_s_dup Xw021.here hx (hb hby at_136) (pc' := 137) rfl rfl ?_
    refine own_s_iconst Xw021.here hx (hb hby at_137) (pc' := 138) rfl (v := (1 : Int32)) (by decide) ?_
    refine own_s_iload Xw021.here hx (hb hby at_138) (pc' := 140) rfl rfl ?_
    refine own_s_i2d Xw021.here hx (hb hby at_140) (pc' := 141) rfl (v := (FP.i2d w0_c51_a1_v7)) rfl ?_
    refine stw022 _ ?_
    refine own_s_dup Xw022.here hx (hb hby at_142) (pc' := 143) rfl rfl ?_
    refine own_s_iconst Xw022.here hx (hb hby at_143) (pc' := 144) rfl (v := (2 : Int32)) (by decide) ?_
    refine own_s_iload Xw022.here hx (hb hby at_144) (pc' := 146) rfl rfl ?_
    refine own_s_i2d Xw022.here hx (hb hby at_146) (pc' := 147) rfl (v := (FP.i2d w0_c58_a2_v7)) rfl ?_
    refine stw023 _ ?_
    refine own_s_dup Xw023.here hx (hb hby at_148) (pc' := 149) rfl rfl ?_
    refine own_s_iconst Xw023.here hx (hb hby at_149) (pc' := 150) rfl (v := (3 : Int32)) (by decide) ?_
    refine own_s_iload Xw023.here hx (hb hby at_150) (pc' := 152) rfl rfl ?_
    refine own_s_i2d Xw023.here hx (hb hby at_152) (pc' := 153) rfl (v := (FP.i2d w0_c65_a3_v7)) rfl ?_
    refine stw024 _ ?_
    refine own_s_dup Xw024.here hx (hb hby at_154) (pc' := 155) rfl rfl ?_
    refine own_s_iconst Xw024.here hx (hb hby at_155) (pc' := 156) rfl (v := (4 : Int32)) (by decide) ?_
    refine own_s_iload Xw024.here hx (hb hby at_156) (pc' := 158) rfl rfl ?_
    refine own_s_i2d Xw024.here hx (hb hby at_158) (pc' := 159) rfl (v := (FP.i2d w0_c72_a4_v7)) rfl ?_
    refine stw025 _ ?_
    refine own_s_dup Xw025.here hx (hb hby at_160) (pc' := 161) rfl rfl ?_
    refine own_s_iconst Xw025.here hx (hb hby at_161) (pc' := 162) rfl (v := (5 : Int32)) (by decide) ?_
    refine own_s_iload Xw025.here hx (hb hby at_162) (pc' := 164) rfl rfl ?_
    refine own_s_i2d Xw025.here hx (hb hby at_164) (pc' := 165) rfl (v := (FP.i2d w0_c79_a5_v7)) rfl ?_
    refine stw026 _ ?_
    refine own_s_astore Xw026.here hx (hb hby at_166) (pc' := 168) rfl rfl (L' := #[.val (.long p0), .second, .val (.long p1), .second, .val (.int p2), .val (.int w0_c2_a0_v7), .val (.int w0_c9_a1_v7), .val (.int w0_c16_a2_v7), .val (.int w0_c23_a3_v7), .val (.int w0_c30_a4_v7), .val (.int w0_c37_a5_v7), .val (.int w0_c44_a0_v7), .val (.int w0_c51_a1_v7), .val (.int w0_c58_a2_v7), .val (.int w0_c65_a3_v7), .val (.int w0_c72_a4_v7), .val (.int w0_c79_a5_v7), .val (.ref bw013), .val (.ref bw020), .unset, .unset]) rfl ?_
    refine own_s_iload Xw026.here hx (hb hby at_168) (pc' := 170) rfl rfl ?_
    refine Xw026.ldcInt hx hown (mvT hZ (hw _ (List.mem_of_getElem? (i := 5) rfl))) (g := (mkF m 170 #[.val (.long p0), .second, .val (.long p1), .second, .val (.int p2), .val (.int w0_c2_a0_v7), .val (.int w0_c9_a1_v7), .val (.int w0_c16_a2_v7), .val (.int w0_c23_a3_v7), .val (.int w0_c30_a4_v7), .val (.int w0_c37_a5_v7), .val (.int w0_c44_a0_v7), .val (.int w0_c51_a1_v7), .val (.int w0_c58_a2_v7), .val (.int w0_c65_a3_v7), .val (.int w0_c72_a4_v7), .val (.int w0_c79_a5_v7), .val (.ref bw013), .val (.ref bw020), .unset, .unset] [(.int p2)])) rfl (hb hby at_170) _ ?_
    show Steps p.tables e below (Tw026.setTop (mkF m 172 #[.val (.long p0), .second, .val (.long p1), .second, .val (.int p2), .val (.int w0_c2_a0_v7), .val (.int w0_c9_a1_v7), .val (.int w0_c16_a2_v7), .val (.int w0_c23_a3_v7), .val (.int w0_c30_a4_v7), .val (.int w0_c37_a5_v7), .val (.int w0_c44_a0_v7), .val (.int w0_c51_a1_v7), .val (.int w0_c58_a2_v7), .val (.int w0_c65_a3_v7), .val (.int w0_c72_a4_v7), .val (.int w0_c79_a5_v7), .val (.ref bw013), .val (.ref bw020), .unset, .unset] [(.int (2147483647 : Int32)), (.int p2)])) _
    refine own_s_iand Xw026.here hx (hb hby at_172) (pc' := 173) rfl (v := w0_v172) w0_hv172 ?_
    refine own_s_iconst Xw026.here hx (hb hby at_173) (pc' := 174) rfl (v := (3 : Int32)) (by decide) ?_
    refine own_s_irem Xw026.here hx (hb hby at_174) (pc' := 175) rfl (by decide) (v := (0 : Int32)) w0_hv174 ?_
    refine own_s_istore Xw026.here hx (hb hby at_175) (pc' := 177) rfl (L' := #[.val (.long p0), .second, .val (.long p1), .second, .val (.int p2), .val (.int w0_c2_a0_v7), .val (.int w0_c9_a1_v7), .val (.int w0_c16_a2_v7), .val (.int w0_c23_a3_v7), .val (.int w0_c30_a4_v7), .val (.int w0_c37_a5_v7), .val (.int w0_c44_a0_v7), .val (.int w0_c51_a1_v7), .val (.int w0_c58_a2_v7), .val (.int w0_c65_a3_v7), .val (.int w0_c72_a4_v7), .val (.int w0_c79_a5_v7), .val (.ref bw013), .val (.ref bw020), .val (.int (0 : Int32)), .unset]) rfl ?_
    refine own_s_iload Xw026.here hx (hb hby at_177) (pc' := 179) rfl rfl ?_
    refine own_s_ifNo Xw026.here hx (hb hby at_179) (pc' := 182) rfl (by decide) ?_
    refine own_s_aload Xw026.here hx (hb hby at_182) (pc' := 184) rfl rfl rfl ?_
    refine own_s_aload Xw026.here hx (hb hby at_184) (pc' := 186) rfl rfl rfl ?_
    refine own_s_iconst Xw026.here hx (hb hby at_186) (pc' := 187) rfl (v := (2 : Int32)) (by decide) ?_
    refine stw027 _ ?_
    show Steps p.tables e below (Tw027.setTop (mkF m 190 #[.val (.long p0), .second, .val (.long p1), .second, .val (.int p2), .val (.int w0_c2_a0_v7), .val (.int w0_c9_a1_v7), .val (.int w0_c16_a2_v7), .val (.int w0_c23_a3_v7), .val (.int w0_c30_a4_v7), .val (.int w0_c37_a5_v7), .val (.int w0_c44_a0_v7), .val (.int w0_c51_a1_v7), .val (.int w0_c58_a2_v7), .val (.int w0_c65_a3_v7), .val (.int w0_c72_a4_v7), .val (.int w0_c79_a5_v7), .val (.ref bw013), .val (.ref bw020), .val (.int (0 : Int32)), .unset] [(.ref bw027)])) _
    refine own_s_astore Xw027.here hx (hb hby at_190) (pc' := 192) rfl rfl (L' := #[.val (.long p0), .second, .val (.long p1), .second, .val (.int p2), .val (.int w0_c2_a0_v7), .val (.int w0_c9_a1_v7), .val (.int w0_c16_a2_v7), .val (.int w0_c23_a3_v7), .val (.int w0_c30_a4_v7), .val (.int w0_c37_a5_v7), .val (.int w0_c44_a0_v7), .val (.int w0_c51_a1_v7), .val (.int w0_c58_a2_v7), .val (.int w0_c65_a3_v7), .val (.int w0_c72_a4_v7), .val (.int w0_c79_a5_v7), .val (.ref bw013), .val (.ref bw020), .val (.int (0 : Int32)), .val (.ref bw027)]) rfl ?_
    refine own_s_aload Xw027.here hx (hb hby at_192) (pc' := 194) rfl rfl rfl ?_
    refine own_len Xw027 hx hZ rfl qw027_0 (hb hby at_194) (pc' := 195) rfl ?_
    refine own_s_bipush Xw027.here hx (hb hby at_195) (pc' := 197) rfl (v := (9 : Int32)) (by decide) ?_
    refine own_s_icmpYes Xw027.here hx (hb hby at_197) (by decide) (pc' := 202) (by decide) (by decide) ?_
    refine own_s_aload Xw027.here hx (hb hby at_202) (pc' := 204) rfl rfl rfl ?_
    refine own_s_iconst Xw027.here hx (hb hby at_204) (pc' := 205) rfl (v := (0 : Int32)) (by decide) ?_
    refine own_ldD Xw027 hx hZ rfl qw027_0 (j := (0 : Int32)) (x := w0_c187_c0_v72_2) (by decide) rfl (hb hby at_205) (pc' := 206) rfl ?_
    refine own_s_iload Xw027.here hx (hb hby at_206) (pc' := 208) rfl rfl ?_
    refine own_s_iload Xw027.here hx (hb hby at_208) (pc' := 210) rfl rfl ?_
    refine own_s_imul Xw027.here hx (hb hby at_210) (pc' := 211) rfl (v := w0_v210) w0_hv210 ?_
    refine own_s_iload Xw027.here hx (hb hby at_211) (pc' := 213) rfl rfl ?_
    refine own_s_iload Xw027.here hx (hb hby at_213) (pc' := 215) rfl rfl ?_
    refine own_s_imul Xw027.here hx (hb hby at_215) (pc' := 216) rfl (v := w0_v215) w0_hv215 ?_
    refine own_s_iadd Xw027.here hx (hb hby at_216) (pc' := 217) rfl (v := w0_v216) w0_hv216 ?_
    refine stw028 _ ?_
    show Steps p.tables e below (Tw028.setTop (mkF m 220 #[.val (.long p0), .second, .val (.long p1), .second, .val (.int p2), .val (.int w0_c2_a0_v7), .val (.int w0_c9_a1_v7), .val (.int w0_c16_a2_v7), .val (.int w0_c23_a3_v7), .val (.int w0_c30_a4_v7), .val (.int w0_c37_a5_v7), .val (.int w0_c44_a0_v7), .val (.int w0_c51_a1_v7), .val (.int w0_c58_a2_v7), .val (.int w0_c65_a3_v7), .val (.int w0_c72_a4_v7), .val (.int w0_c79_a5_v7), .val (.ref bw013), .val (.ref bw020), .val (.int (0 : Int32)), .val (.ref bw027)] [(.int (1 : Int32))])) _
    refine own_s_ifNo Xw028.here hx (hb hby at_220) (pc' := 223) rfl (by decide) ?_
    refine own_s_aload Xw028.here hx (hb hby at_223) (pc' := 225) rfl rfl rfl ?_
    refine own_s_iconst Xw028.here hx (hb hby at_225) (pc' := 226) rfl (v := (1 : Int32)) (by decide) ?_
    refine own_ldD Xw028 hx hZ ew028 qw027_0 (j := (1 : Int32)) (x := w0_c187_c0_v72_4) (by decide) rfl (hb hby at_226) (pc' := 227) rfl ?_
    refine own_s_iload Xw028.here hx (hb hby at_227) (pc' := 229) rfl rfl ?_
    refine own_s_iload Xw028.here hx (hb hby at_229) (pc' := 231) rfl rfl ?_
    refine own_s_imul Xw028.here hx (hb hby at_231) (pc' := 232) rfl (v := w0_v231) w0_hv231 ?_
    refine own_s_iload Xw028.here hx (hb hby at_232) (pc' := 234) rfl rfl ?_
    refine own_s_iload Xw028.here hx (hb hby at_234) (pc' := 236) rfl rfl ?_
    refine own_s_imul Xw028.here hx (hb hby at_236) (pc' := 237) rfl (v := w0_v236) w0_hv236 ?_
    refine own_s_iadd Xw028.here hx (hb hby at_237) (pc' := 238) rfl (v := w0_v237) w0_hv237 ?_
    refine stw029 _ ?_
    show Steps p.tables e below (Tw029.setTop (mkF m 241 #[.val (.long p0), .second, .val (.long p1), .second, .val (.int p2), .val (.int w0_c2_a0_v7), .val (.int w0_c9_a1_v7), .val (.int w0_c16_a2_v7), .val (.int w0_c23_a3_v7), .val (.int w0_c30_a4_v7), .val (.int w0_c37_a5_v7), .val (.int w0_c44_a0_v7), .val (.int w0_c51_a1_v7), .val (.int w0_c58_a2_v7), .val (.int w0_c65_a3_v7), .val (.int w0_c72_a4_v7), .val (.int w0_c79_a5_v7), .val (.ref bw013), .val (.ref bw020), .val (.int (0 : Int32)), .val (.ref bw027)] [(.int (1 : Int32))])) _
    refine own_s_ifNo Xw029.here hx (hb hby at_241) (pc' := 244) rfl (by decide) ?_
    refine own_s_aload Xw029.here hx (hb hby at_244) (pc' := 246) rfl rfl rfl ?_
    refine own_s_iconst Xw029.here hx (hb hby at_246) (pc' := 247) rfl (v := (2 : Int32)) (by decide) ?_
    refine own_ldD Xw029 hx hZ ew029 qw027_0 (j := (2 : Int32)) (x := w0_c187_c0_v72_6) (by decide) rfl (hb hby at_247) (pc' := 248) rfl ?_
    refine own_s_iload Xw029.here hx (hb hby at_248) (pc' := 250) rfl rfl ?_
    refine own_s_iload Xw029.here hx (hb hby at_250) (pc' := 252) rfl rfl ?_
    refine own_s_imul Xw029.here hx (hb hby at_252) (pc' := 253) rfl (v := w0_v252) w0_hv252 ?_
    refine own_s_iload Xw029.here hx (hb hby at_253) (pc' := 255) rfl rfl ?_
    refine own_s_iload Xw029.here hx (hb hby at_255) (pc' := 257) rfl rfl ?_
    refine own_s_imul Xw029.here hx (hb hby at_257) (pc' := 258) rfl (v := w0_v257) w0_hv257 ?_
    refine own_s_iadd Xw029.here hx (hb hby at_258) (pc' := 259) rfl (v := w0_v258) w0_hv258 ?_
    refine stw030 _ ?_
    show Steps p.tables e below (Tw030.setTop (mkF m 262 #[.val (.long p0), .second, .val (.long p1), .second, .val (.int p2), .val (.int w0_c2_a0_v7), .val (.int w0_c9_a1_v7), .val (.int w0_c16_a2_v7), .val (.int w0_c23_a3_v7), .val (.int w0_c30_a4_v7), .val (.int w0_c37_a5_v7), .val (.int w0_c44_a0_v7), .val (.int w0_c51_a1_v7), .val (.int w0_c58_a2_v7), .val (.int w0_c65_a3_v7), .val (.int w0_c72_a4_v7), .val (.int w0_c79_a5_v7), .val (.ref bw013), .val (.ref bw020), .val (.int (0 : Int32)), .val (.ref bw027)] [(.int (1 : Int32))])) _
    refine own_s_ifNo Xw030.here hx (hb hby at_262) (pc' := 265) rfl (by decide) ?_
    refine own_s_aload Xw030.here hx (hb hby at_265) (pc' := 267) rfl rfl rfl ?_
    refine own_s_iconst Xw030.here hx (hb hby at_267) (pc' := 268) rfl (v := (3 : Int32)) (by decide) ?_
    refine own_ldD Xw030 hx hZ ew030 qw027_0 (j := (3 : Int32)) (x := w0_c187_c0_v72_8) (by decide) rfl (hb hby at_268) (pc' := 269) rfl ?_
    refine own_s_iload Xw030.here hx (hb hby at_269) (pc' := 271) rfl rfl ?_
    refine own_s_iload Xw030.here hx (hb hby at_271) (pc' := 273) rfl rfl ?_
    refine own_s_imul Xw030.here hx (hb hby at_273) (pc' := 274) rfl (v := w0_v273) w0_hv273 ?_
    refine own_s_iload Xw030.here hx (hb hby at_274) (pc' := 276) rfl rfl ?_
    refine own_s_iload Xw030.here hx (hb hby at_276) (pc' := 278) rfl rfl ?_
    refine own_s_imul Xw030.here hx (hb hby at_278) (pc' := 279) rfl (v := w0_v278) w0_hv278 ?_
    refine own_s_iadd Xw030.here hx (hb hby at_279) (pc' := 280) rfl (v := w0_v279) w0_hv279 ?_
    refine stw031 _ ?_
    show Steps p.tables e below (Tw031.setTop (mkF m 283 #[.val (.long p0), .second, .val (.long p1), .second, .val (.int p2), .val (.int w0_c2_a0_v7), .val (.int w0_c9_a1_v7), .val (.int w0_c16_a2_v7), .val (.int w0_c23_a3_v7), .val (.int w0_c30_a4_v7), .val (.int w0_c37_a5_v7), .val (.int w0_c44_a0_v7), .val (.int w0_c51_a1_v7), .val (.int w0_c58_a2_v7), .val (.int w0_c65_a3_v7), .val (.int w0_c72_a4_v7), .val (.int w0_c79_a5_v7), .val (.ref bw013), .val (.ref bw020), .val (.int (0 : Int32)), .val (.ref bw027)] [(.int (1 : Int32))])) _
    refine own_s_ifNo Xw031.here hx (hb hby at_283) (pc' := 286) rfl (by decide) ?_
    refine own_s_aload Xw031.here hx (hb hby at_286) (pc' := 288) rfl rfl rfl ?_
    refine own_s_iconst Xw031.here hx (hb hby at_288) (pc' := 289) rfl (v := (4 : Int32)) (by decide) ?_
    refine own_ldD Xw031 hx hZ ew031 qw027_0 (j := (4 : Int32)) (x := w0_c187_c0_v72_10) (by decide) rfl (hb hby at_289) (pc' := 290) rfl ?_
    refine own_s_iload Xw031.here hx (hb hby at_290) (pc' := 292) rfl rfl ?_
    refine own_s_iload Xw031.here hx (hb hby at_292) (pc' := 294) rfl rfl ?_
    refine own_s_imul Xw031.here hx (hb hby at_294) (pc' := 295) rfl (v := w0_v294) w0_hv294 ?_
    refine own_s_iload Xw031.here hx (hb hby at_295) (pc' := 297) rfl rfl ?_
    refine own_s_iload Xw031.here hx (hb hby at_297) (pc' := 299) rfl rfl ?_
    refine own_s_imul Xw031.here hx (hb hby at_299) (pc' := 300) rfl (v := w0_v299) w0_hv299 ?_
    refine own_s_iadd Xw031.here hx (hb hby at_300) (pc' := 301) rfl (v := w0_v300) w0_hv300 ?_
    refine stw032 _ ?_
    show Steps p.tables e below (Tw032.setTop (mkF m 304 #[.val (.long p0), .second, .val (.long p1), .second, .val (.int p2), .val (.int w0_c2_a0_v7), .val (.int w0_c9_a1_v7), .val (.int w0_c16_a2_v7), .val (.int w0_c23_a3_v7), .val (.int w0_c30_a4_v7), .val (.int w0_c37_a5_v7), .val (.int w0_c44_a0_v7), .val (.int w0_c51_a1_v7), .val (.int w0_c58_a2_v7), .val (.int w0_c65_a3_v7), .val (.int w0_c72_a4_v7), .val (.int w0_c79_a5_v7), .val (.ref bw013), .val (.ref bw020), .val (.int (0 : Int32)), .val (.ref bw027)] [(.int (1 : Int32))])) _
    refine own_s_ifNo Xw032.here hx (hb hby at_304) (pc' := 307) rfl (by decide) ?_
    refine own_s_aload Xw032.here hx (hb hby at_307) (pc' := 309) rfl rfl rfl ?_
    refine own_s_iconst Xw032.here hx (hb hby at_309) (pc' := 310) rfl (v := (5 : Int32)) (by decide) ?_
    refine own_ldD Xw032 hx hZ ew032 qw027_0 (j := (5 : Int32)) (x := w0_c187_c0_v72_12) (by decide) rfl (hb hby at_310) (pc' := 311) rfl ?_
    refine own_s_iload Xw032.here hx (hb hby at_311) (pc' := 313) rfl rfl ?_
    refine own_s_iload Xw032.here hx (hb hby at_313) (pc' := 315) rfl rfl ?_
    refine own_s_imul Xw032.here hx (hb hby at_315) (pc' := 316) rfl (v := w0_v315) w0_hv315 ?_
    refine own_s_iload Xw032.here hx (hb hby at_316) (pc' := 318) rfl rfl ?_
    refine own_s_iload Xw032.here hx (hb hby at_318) (pc' := 320) rfl rfl ?_
    refine own_s_imul Xw032.here hx (hb hby at_320) (pc' := 321) rfl (v := w0_v320) w0_hv320 ?_
    refine own_s_iadd Xw032.here hx (hb hby at_321) (pc' := 322) rfl (v := w0_v321) w0_hv321 ?_
    refine stw033 _ ?_
    show Steps p.tables e below (Tw033.setTop (mkF m 325 #[.val (.long p0), .second, .val (.long p1), .second, .val (.int p2), .val (.int w0_c2_a0_v7), .val (.int w0_c9_a1_v7), .val (.int w0_c16_a2_v7), .val (.int w0_c23_a3_v7), .val (.int w0_c30_a4_v7), .val (.int w0_c37_a5_v7), .val (.int w0_c44_a0_v7), .val (.int w0_c51_a1_v7), .val (.int w0_c58_a2_v7), .val (.int w0_c65_a3_v7), .val (.int w0_c72_a4_v7), .val (.int w0_c79_a5_v7), .val (.ref bw013), .val (.ref bw020), .val (.int (0 : Int32)), .val (.ref bw027)] [(.int (1 : Int32))])) _
    refine own_s_ifNo Xw033.here hx (hb hby at_325) (pc' := 328) rfl (by decide) ?_
    refine own_s_aload Xw033.here hx (hb hby at_328) (pc' := 330) rfl rfl rfl ?_
    refine own_s_bipush Xw033.here hx (hb hby at_330) (pc' := 332) rfl (v := (6 : Int32)) (by decide) ?_
    refine own_ldD Xw033 hx hZ ew033 qw027_0 (j := (6 : Int32)) (x := w0_c187_c0_v72_14) (by decide) rfl (hb hby at_332) (pc' := 333) rfl ?_
    refine own_s_iload Xw033.here hx (hb hby at_333) (pc' := 335) rfl rfl ?_
    refine own_s_iload Xw033.here hx (hb hby at_335) (pc' := 337) rfl rfl ?_
    refine own_s_imul Xw033.here hx (hb hby at_337) (pc' := 338) rfl (v := w0_v337) w0_hv337 ?_
    refine own_s_iload Xw033.here hx (hb hby at_338) (pc' := 340) rfl rfl ?_
    refine own_s_iload Xw033.here hx (hb hby at_340) (pc' := 342) rfl rfl ?_
    refine own_s_imul Xw033.here hx (hb hby at_342) (pc' := 343) rfl (v := w0_v342) w0_hv342 ?_
    refine own_s_iadd Xw033.here hx (hb hby at_343) (pc' := 344) rfl (v := w0_v343) w0_hv343 ?_
    refine stw034 _ ?_
    show Steps p.tables e below (Tw034.setTop (mkF m 347 #[.val (.long p0), .second, .val (.long p1), .second, .val (.int p2), .val (.int w0_c2_a0_v7), .val (.int w0_c9_a1_v7), .val (.int w0_c16_a2_v7), .val (.int w0_c23_a3_v7), .val (.int w0_c30_a4_v7), .val (.int w0_c37_a5_v7), .val (.int w0_c44_a0_v7), .val (.int w0_c51_a1_v7), .val (.int w0_c58_a2_v7), .val (.int w0_c65_a3_v7), .val (.int w0_c72_a4_v7), .val (.int w0_c79_a5_v7), .val (.ref bw013), .val (.ref bw020), .val (.int (0 : Int32)), .val (.ref bw027)] [(.int (1 : Int32))])) _
    refine own_s_ifNo Xw034.here hx (hb hby at_347) (pc' := 350) rfl (by decide) ?_
    refine own_s_aload Xw034.here hx (hb hby at_350) (pc' := 352) rfl rfl rfl ?_
    refine own_s_bipush Xw034.here hx (hb hby at_352) (pc' := 354) rfl (v := (7 : Int32)) (by decide) ?_
    refine own_ldD Xw034 hx hZ ew034 qw027_0 (j := (7 : Int32)) (x := w0_c187_c0_v72_16) (by decide) rfl (hb hby at_354) (pc' := 355) rfl ?_
    refine own_s_iload Xw034.here hx (hb hby at_355) (pc' := 357) rfl rfl ?_
    refine own_s_iload Xw034.here hx (hb hby at_357) (pc' := 359) rfl rfl ?_
    refine own_s_imul Xw034.here hx (hb hby at_359) (pc' := 360) rfl (v := w0_v359) w0_hv359 ?_
    refine own_s_iload Xw034.here hx (hb hby at_360) (pc' := 362) rfl rfl ?_
    refine own_s_iload Xw034.here hx (hb hby at_362) (pc' := 364) rfl rfl ?_
    refine own_s_imul Xw034.here hx (hb hby at_364) (pc' := 365) rfl (v := w0_v364) w0_hv364 ?_
    refine own_s_iadd Xw034.here hx (hb hby at_365) (pc' := 366) rfl (v := w0_v365) w0_hv365 ?_
    refine stw035 _ ?_
    show Steps p.tables e below (Tw035.setTop (mkF m 369 #[.val (.long p0), .second, .val (.long p1), .second, .val (.int p2), .val (.int w0_c2_a0_v7), .val (.int w0_c9_a1_v7), .val (.int w0_c16_a2_v7), .val (.int w0_c23_a3_v7), .val (.int w0_c30_a4_v7), .val (.int w0_c37_a5_v7), .val (.int w0_c44_a0_v7), .val (.int w0_c51_a1_v7), .val (.int w0_c58_a2_v7), .val (.int w0_c65_a3_v7), .val (.int w0_c72_a4_v7), .val (.int w0_c79_a5_v7), .val (.ref bw013), .val (.ref bw020), .val (.int (0 : Int32)), .val (.ref bw027)] [(.int (1 : Int32))])) _
    refine own_s_ifNo Xw035.here hx (hb hby at_369) (pc' := 372) rfl (by decide) ?_
    refine own_s_aload Xw035.here hx (hb hby at_372) (pc' := 374) rfl rfl rfl ?_
    refine own_s_bipush Xw035.here hx (hb hby at_374) (pc' := 376) rfl (v := (8 : Int32)) (by decide) ?_
    refine own_ldD Xw035 hx hZ ew035 qw027_0 (j := (8 : Int32)) (x := w0_c187_c0_v72_18) (by decide) rfl (hb hby at_376) (pc' := 377) rfl ?_
    refine own_s_iload Xw035.here hx (hb hby at_377) (pc' := 379) rfl rfl ?_
    refine own_s_iload Xw035.here hx (hb hby at_379) (pc' := 381) rfl rfl ?_
    refine own_s_imul Xw035.here hx (hb hby at_381) (pc' := 382) rfl (v := w0_v381) w0_hv381 ?_
    refine own_s_iload Xw035.here hx (hb hby at_382) (pc' := 384) rfl rfl ?_
    refine own_s_iload Xw035.here hx (hb hby at_384) (pc' := 386) rfl rfl ?_
    refine own_s_imul Xw035.here hx (hb hby at_386) (pc' := 387) rfl (v := w0_v386) w0_hv386 ?_
    refine own_s_iadd Xw035.here hx (hb hby at_387) (pc' := 388) rfl (v := w0_v387) w0_hv387 ?_
    refine stw036 _ ?_
    show Steps p.tables e below (Tw036.setTop (mkF m 391 #[.val (.long p0), .second, .val (.long p1), .second, .val (.int p2), .val (.int w0_c2_a0_v7), .val (.int w0_c9_a1_v7), .val (.int w0_c16_a2_v7), .val (.int w0_c23_a3_v7), .val (.int w0_c30_a4_v7), .val (.int w0_c37_a5_v7), .val (.int w0_c44_a0_v7), .val (.int w0_c51_a1_v7), .val (.int w0_c58_a2_v7), .val (.int w0_c65_a3_v7), .val (.int w0_c72_a4_v7), .val (.int w0_c79_a5_v7), .val (.ref bw013), .val (.ref bw020), .val (.int (0 : Int32)), .val (.ref bw027)] [(.int (1 : Int32))])) _
    refine own_s_ifNo Xw036.here hx (hb hby at_391) (pc' := 394) rfl (by decide) ?_
    refine own_s_iconst Xw036.here hx (hb hby at_394) (pc' := 395) rfl (v := (1 : Int32)) (by decide) ?_
    refine own_s_goto Xw036.here hx (hb hby at_395) (by decide) (pc' := 399) (by decide) ?_
    exact retN Xw036 hx (t := .boolean) Bd.returns (by simp) (hb hby at_399) hr
  · show own_Q0 n0 _ Tw036.heap _
    rw [ew036]
    exact ⟨rfl, Nw036⟩
theorem own_ef_c1 (m : MethodId) (qa : Addr) (qb : Addr) : entryFrame m #[(.ref qa), (.ref qb), (.int (3 : Int32))] 11 = mkF m 0 #[.val (.ref qa), .val (.ref qb), .val (.int (3 : Int32)), .unset, .unset, .unset, .unset, .unset, .unset, .unset, .unset] [] := by first | (simp [entryFrame, mkF, argsToLocals, Value.category]; done) | rfl
def own_Q_c1 (Z : State) (qa : Addr) (d0 : UInt64) (d1 : UInt64) (d2 : UInt64) (d3 : UInt64) (d4 : UInt64) (d5 : UInt64) (qb : Addr) (ee0 : UInt64) (ee1 : UInt64) (ee2 : UInt64) (ee3 : UInt64) (ee4 : UInt64) (ee5 : UInt64) (qak : ClassId) (qbk : ClassId) (c1_v71 : UInt64) (c1_v72 : UInt64) (c1_v71_2 : UInt64) (c1_v72_2 : UInt64) (c1_v71_3 : UInt64) (c1_v72_3 : UInt64) (c1_v71_4 : UInt64) (c1_v72_4 : UInt64) (c1_v71_5 : UInt64) (c1_v72_5 : UInt64) (c1_v71_6 : UInt64) (c1_v72_6 : UInt64) (c1_v71_7 : UInt64) (c1_v72_7 : UInt64) (c1_v71_8 : UInt64) (c1_v72_8 : UInt64) (c1_v71_9 : UInt64) (c1_v72_9 : UInt64) (c1_v71_10 : UInt64) (c1_v72_10 : UInt64) (c1_v71_11 : UInt64) (c1_v72_11 : UInt64) (c1_v71_12 : UInt64) (c1_v72_12 : UInt64) (h0 : Heap) (n0 : Nat) (v : Option Value) (h : Heap) (L : List Loc) : Prop := ∃ (bc11 : Addr) (kc11 : ClassId), v = some (.ref bc11) ∧ Fr n0 L ∧ Keep h0 h [] ∧ h0.size ≤ bc11 ∧ Arv Z h bc11 kc11 .double (4 : Int32) [(.double c1_v72_3), (.double c1_v72_6), (.double c1_v72_9), (.double c1_v72_12)] (.double 0)
set_option maxRecDepth 65536 in
set_option maxHeartbeats 40000000 in
theorem own_rm_c1 (l : Launch) (Z : State) (a0 : Array Value) (hw : ∀ d ∈ tables_1, d.before a0 Z = true) (ws : List Jvm.Cond) (qa : Addr) (d0 : UInt64) (d1 : UInt64) (d2 : UInt64) (d3 : UInt64) (d4 : UInt64) (d5 : UInt64) (qb : Addr) (ee0 : UInt64) (ee1 : UInt64) (ee2 : UInt64) (ee3 : UInt64) (ee4 : UInt64) (ee5 : UInt64) {qak : ClassId} {qbk : ClassId} {c1_v71 : UInt64} {c1_v72 : UInt64} {c1_v71_2 : UInt64} {c1_v72_2 : UInt64} {c1_v71_3 : UInt64} {c1_v72_3 : UInt64} {c1_v71_4 : UInt64} {c1_v72_4 : UInt64} {c1_v71_5 : UInt64} {c1_v72_5 : UInt64} {c1_v71_6 : UInt64} {c1_v72_6 : UInt64} {c1_v71_7 : UInt64} {c1_v72_7 : UInt64} {c1_v71_8 : UInt64} {c1_v72_8 : UInt64} {c1_v71_9 : UInt64} {c1_v72_9 : UInt64} {c1_v71_10 : UInt64} {c1_v72_10 : UInt64} {c1_v71_11 : UInt64} {c1_v72_11 : UInt64} {c1_v71_12 : UInt64} {c1_v72_12 : UInt64} (h0 : Heap) (n0 : Nat) (Z0 : n0 ≤ h0.size) (V_qa : Arv Z h0 qa qak .double (6 : Int32) [(.double d0), (.double d1), (.double d2), (.double d3), (.double d4), (.double d5)] (.double 0)) (V_qb : Arv Z h0 qb qbk .double (6 : Int32) [(.double ee0), (.double ee1), (.double ee2), (.double ee3), (.double ee4), (.double ee5)] (.double 0)) (c1_hn71 : Jvm.Free.Fl.NoNaN64 (FP.dmul d0 ee0)) (c1_hv71 : FP.dmul d0 ee0 = c1_v71) (c1_hn72 : Jvm.Free.Fl.NoNaN64 (FP.dadd 0 c1_v71)) (c1_hv72 : FP.dadd 0 c1_v71 = c1_v72) (c1_hn71_2 : Jvm.Free.Fl.NoNaN64 (FP.dmul d1 ee2)) (c1_hv71_2 : FP.dmul d1 ee2 = c1_v71_2) (c1_hn72_2 : Jvm.Free.Fl.NoNaN64 (FP.dadd c1_v72 c1_v71_2)) (c1_hv72_2 : FP.dadd c1_v72 c1_v71_2 = c1_v72_2) (c1_hn71_3 : Jvm.Free.Fl.NoNaN64 (FP.dmul d2 ee4)) (c1_hv71_3 : FP.dmul d2 ee4 = c1_v71_3) (c1_hn72_3 : Jvm.Free.Fl.NoNaN64 (FP.dadd c1_v72_2 c1_v71_3)) (c1_hv72_3 : FP.dadd c1_v72_2 c1_v71_3 = c1_v72_3) (c1_hn71_4 : Jvm.Free.Fl.NoNaN64 (FP.dmul d0 ee1)) (c1_hv71_4 : FP.dmul d0 ee1 = c1_v71_4) (c1_hn72_4 : Jvm.Free.Fl.NoNaN64 (FP.dadd 0 c1_v71_4)) (c1_hv72_4 : FP.dadd 0 c1_v71_4 = c1_v72_4) (c1_hn71_5 : Jvm.Free.Fl.NoNaN64 (FP.dmul d1 ee3)) (c1_hv71_5 : FP.dmul d1 ee3 = c1_v71_5) (c1_hn72_5 : Jvm.Free.Fl.NoNaN64 (FP.dadd c1_v72_4 c1_v71_5)) (c1_hv72_5 : FP.dadd c1_v72_4 c1_v71_5 = c1_v72_5) (c1_hn71_6 : Jvm.Free.Fl.NoNaN64 (FP.dmul d2 ee5)) (c1_hv71_6 : FP.dmul d2 ee5 = c1_v71_6) (c1_hn72_6 : Jvm.Free.Fl.NoNaN64 (FP.dadd c1_v72_5 c1_v71_6)) (c1_hv72_6 : FP.dadd c1_v72_5 c1_v71_6 = c1_v72_6) (c1_hn71_7 : Jvm.Free.Fl.NoNaN64 (FP.dmul d3 ee0)) (c1_hv71_7 : FP.dmul d3 ee0 = c1_v71_7) (c1_hn72_7 : Jvm.Free.Fl.NoNaN64 (FP.dadd 0 c1_v71_7)) (c1_hv72_7 : FP.dadd 0 c1_v71_7 = c1_v72_7) (c1_hn71_8 : Jvm.Free.Fl.NoNaN64 (FP.dmul d4 ee2)) (c1_hv71_8 : FP.dmul d4 ee2 = c1_v71_8) (c1_hn72_8 : Jvm.Free.Fl.NoNaN64 (FP.dadd c1_v72_7 c1_v71_8)) (c1_hv72_8 : FP.dadd c1_v72_7 c1_v71_8 = c1_v72_8) (c1_hn71_9 : Jvm.Free.Fl.NoNaN64 (FP.dmul d5 ee4)) (c1_hv71_9 : FP.dmul d5 ee4 = c1_v71_9) (c1_hn72_9 : Jvm.Free.Fl.NoNaN64 (FP.dadd c1_v72_8 c1_v71_9)) (c1_hv72_9 : FP.dadd c1_v72_8 c1_v71_9 = c1_v72_9) (c1_hn71_10 : Jvm.Free.Fl.NoNaN64 (FP.dmul d3 ee1)) (c1_hv71_10 : FP.dmul d3 ee1 = c1_v71_10) (c1_hn72_10 : Jvm.Free.Fl.NoNaN64 (FP.dadd 0 c1_v71_10)) (c1_hv72_10 : FP.dadd 0 c1_v71_10 = c1_v72_10) (c1_hn71_11 : Jvm.Free.Fl.NoNaN64 (FP.dmul d4 ee3)) (c1_hv71_11 : FP.dmul d4 ee3 = c1_v71_11) (c1_hn72_11 : Jvm.Free.Fl.NoNaN64 (FP.dadd c1_v72_10 c1_v71_11)) (c1_hv72_11 : FP.dadd c1_v72_10 c1_v71_11 = c1_v72_11) (c1_hn71_12 : Jvm.Free.Fl.NoNaN64 (FP.dmul d5 ee5)) (c1_hv71_12 : FP.dmul d5 ee5 = c1_v71_12) (c1_hn72_12 : Jvm.Free.Fl.NoNaN64 (FP.dadd c1_v72_11 c1_v71_12)) (c1_hv72_12 : FP.dadd c1_v72_11 c1_v71_12 = c1_v72_12) :
    MetFree l (⟨"com/example/pintrinsic/pintrinsic/Matrices", "product", "([D[DI)[D"⟩ : MethodName) (head1 (Jvm.Cond.code (⟨"com/example/pintrinsic/pintrinsic/Matrices", "product", "([D[DI)[D"⟩ : MethodName) prog_10_method_2_code 11 (some (.array .double)) :: ws) ({ frames := 0, cells := 1, slots := 4, locals := 0 } : Room)) (fun a U => a = #[(.ref qa), (.ref qb), (.int (3 : Int32))] ∧ Z.Warmed39 U.vm ∧ U.heap = h0) (fun _ _ _ _ _ => True) (fun _ U o U' => ∃ v L, o = .returned v ∧ own_Q_c1 Z qa d0 d1 d2 d3 d4 d5 qb ee0 ee1 ee2 ee3 ee4 ee5 qak qbk c1_v71 c1_v72 c1_v71_2 c1_v72_2 c1_v71_3 c1_v72_3 c1_v71_4 c1_v72_4 c1_v71_5 c1_v72_5 c1_v71_6 c1_v72_6 c1_v71_7 c1_v72_7 c1_v71_8 c1_v72_8 c1_v71_9 c1_v72_9 c1_v71_10 c1_v72_10 c1_v71_11 c1_v72_11 c1_v71_12 c1_v72_12 h0 n0 v U'.heap L ∧ FrameEnd U o U' L ({ frames := 0, cells := 1, slots := 4, locals := 0 } : Room).cells ({ frames := 0, cells := 1, slots := 4, locals := 0 } : Room).slots) := by
  refine MetFree.of_bodySF (plainFor_of_name own_pn_com_example_pintrinsic_pintrinsic_Matrices) hisR ?_
  intro p e s m args below meth c s₁ Bd hml0 hP hK
  obtain ⟨rfl, hZ, hh⟩ := hP
  have hx := Bd.exec
  have hby := Bd.bytes
  have hml : c.maxLocals = 11 := hml0
  have hown : s.vm.findClass "com/example/pintrinsic/pintrinsic/Matrices" = some m.cls := findClass_of_methodNamed Bd.named
  have hnm := (name_of_methodNamed Bd.named Bd.method).1
  have X0 : Stand p l e ({ frames := 0, cells := 1, slots := 4, locals := 0 } : Room) s m #[(.ref qa), (.ref qb), (.int (3 : Int32))] below meth c s₁ [] 0 0 := Stand.of_body Bd
  have e0 : s₁.heap = h0 := by rw [← hh, Bd.state]; rfl
  have N0 := Fr.nil n0
  have pre0 : ∀ t, Steps p.tables e below (s₁.setTop (mkF m 0 #[.val (.ref qa), .val (.ref qb), .val (.int (3 : Int32)), .unset, .unset, .unset, .unset, .unset, .unset, .unset, .unset] [])) t → Steps p.tables e below (s₁.setTop (entryFrame m #[(.ref qa), (.ref qb), (.int (3 : Int32))] 11)) t := fun t k => castTop (own_ef_c1 m qa qb) k
  obtain ⟨Tc11, hc11, kc11, bc11, Xc11, ec11, Ec11, Gc11, Vc11, stc11⟩ := own_newD (L := #[.val (.ref qa), .val (.ref qb), .val (.int (3 : Int32)), .val (.int (2 : Int32)), .val (.int (2 : Int32)), .unset, .unset, .unset, .unset, .unset, .unset]) (S := []) X0 hx hZ (hw _ (List.mem_of_getElem? (i := 4) rfl)) e0 (z := (4 : Int32)) 4 (by decide) (by decide) (by decide) (by decide) (by decide) (hb hby own_d2_15) (pc' := 17) rfl
  have ne_qa_bc11 : qa ≠ bc11 := Nat.ne_of_lt (Nat.lt_of_lt_of_le V_qa.lt (Nat.le_of_eq Gc11.symm))
  have ne_bc11_qa : bc11 ≠ qa := Ne.symm ne_qa_bc11
  have ne_qb_bc11 : qb ≠ bc11 := Nat.ne_of_lt (Nat.lt_of_lt_of_le V_qb.lt (Nat.le_of_eq Gc11.symm))
  have ne_bc11_qb : bc11 ≠ qb := Ne.symm ne_qb_bc11
  have g_bc11 : n0 ≤ bc11 := Nat.le_trans Z0 (Nat.le_of_eq Gc11.symm)
  have sz_bc11 : h0.size ≤ bc11 := Nat.le_trans (Keep.refl h0 []).1 (Nat.le_of_eq Gc11.symm)
  have V_qa_c11 := V_qa.ext Ec11
  have V_qb_c11 := V_qb.ext Ec11
  have Zc11 : n0 ≤ hc11.size := Nat.le_trans Z0 Ec11.1
  have KKc11 := (Keep.refl h0 []).ext Ec11
  have V_bc11 : Arv Z hc11 bc11 kc11 .double (4 : Int32) [(.double 0), (.double 0), (.double 0), (.double 0)] (.double 0) := Vc11
  obtain ⟨Tc12, hc12, Xc12, ec12, Wc12, Vc12, stc12⟩ := own_stD (L := #[.val (.ref qa), .val (.ref qb), .val (.int (3 : Int32)), .val (.int (2 : Int32)), .val (.int (2 : Int32)), .val (.ref bc11), .val (.int (0 : Int32)), .val (.int (0 : Int32)), .val (.double c1_v72_3), .second, .val (.int (3 : Int32))]) (S := []) Xc11 hx hZ ec11 V_bc11 (j := (0 : Int32)) (x := c1_v72_3) (by decide) 0 (by decide) (Nat.le_of_ble_eq_true rfl) (hb hby own_d2_93) (pc' := 94) rfl
  have V_qa_c12 := V_qa_c11.other Wc12 ne_qa_bc11
  have V_qb_c12 := V_qb_c11.other Wc12 ne_qb_bc11
  have Zc12 : n0 ≤ hc12.size := Nat.le_trans Zc11 (Nat.le_of_eq Wc12.size.symm)
  have KKc12 := KKc11.wr Wc12 (Or.inr sz_bc11)
  have V_bc11_c12 : Arv Z hc12 bc11 kc11 .double (4 : Int32) [(.double c1_v72_3), (.double 0), (.double 0), (.double 0)] (.double 0) := Vc12
  have Nc12 := Fr.snoc Xc12 N0 g_bc11
  obtain ⟨Tc13, hc13, Xc13, ec13, Wc13, Vc13, stc13⟩ := own_stD (L := #[.val (.ref qa), .val (.ref qb), .val (.int (3 : Int32)), .val (.int (2 : Int32)), .val (.int (2 : Int32)), .val (.ref bc11), .val (.int (0 : Int32)), .val (.int (1 : Int32)), .val (.double c1_v72_6), .second, .val (.int (3 : Int32))]) (S := []) Xc12 hx hZ ec12 V_bc11_c12 (j := (1 : Int32)) (x := c1_v72_6) (by decide) 1 (by decide) (Nat.le_of_ble_eq_true rfl) (hb hby own_d2_93) (pc' := 94) rfl
  have V_qa_c13 := V_qa_c12.other Wc13 ne_qa_bc11
  have V_qb_c13 := V_qb_c12.other Wc13 ne_qb_bc11
  have Zc13 : n0 ≤ hc13.size := Nat.le_trans Zc12 (Nat.le_of_eq Wc13.size.symm)
  have KKc13 := KKc12.wr Wc13 (Or.inr sz_bc11)
  have V_bc11_c13 : Arv Z hc13 bc11 kc11 .double (4 : Int32) [(.double c1_v72_3), (.double c1_v72_6), (.double 0), (.double 0)] (.double 0) := Vc13
  have Nc13 := Fr.snoc Xc13 Nc12 g_bc11
  obtain ⟨Tc14, hc14, Xc14, ec14, Wc14, Vc14, stc14⟩ := own_stD (L := #[.val (.ref qa), .val (.ref qb), .val (.int (3 : Int32)), .val (.int (2 : Int32)), .val (.int (2 : Int32)), .val (.ref bc11), .val (.int (1 : Int32)), .val (.int (0 : Int32)), .val (.double c1_v72_9), .second, .val (.int (3 : Int32))]) (S := []) Xc13 hx hZ ec13 V_bc11_c13 (j := (2 : Int32)) (x := c1_v72_9) (by decide) 2 (by decide) (Nat.le_of_ble_eq_true rfl) (hb hby own_d2_93) (pc' := 94) rfl
  have V_qa_c14 := V_qa_c13.other Wc14 ne_qa_bc11
  have V_qb_c14 := V_qb_c13.other Wc14 ne_qb_bc11
  have Zc14 : n0 ≤ hc14.size := Nat.le_trans Zc13 (Nat.le_of_eq Wc14.size.symm)
  have KKc14 := KKc13.wr Wc14 (Or.inr sz_bc11)
  have V_bc11_c14 : Arv Z hc14 bc11 kc11 .double (4 : Int32) [(.double c1_v72_3), (.double c1_v72_6), (.double c1_v72_9), (.double 0)] (.double 0) := Vc14
  have Nc14 := Fr.snoc Xc14 Nc13 g_bc11
  obtain ⟨Tc15, hc15, Xc15, ec15, Wc15, Vc15, stc15⟩ := own_stD (L := #[.val (.ref qa), .val (.ref qb), .val (.int (3 : Int32)), .val (.int (2 : Int32)), .val (.int (2 : Int32)), .val (.ref bc11), .val (.int (1 : Int32)), .val (.int (1 : Int32)), .val (.double c1_v72_12), .second, .val (.int (3 : Int32))]) (S := []) Xc14 hx hZ ec14 V_bc11_c14 (j := (3 : Int32)) (x := c1_v72_12) (by decide) 3 (by decide) (Nat.le_of_ble_eq_true rfl) (hb hby own_d2_93) (pc' := 94) rfl
  have V_qa_c15 := V_qa_c14.other Wc15 ne_qa_bc11
  have V_qb_c15 := V_qb_c14.other Wc15 ne_qb_bc11
  have Zc15 : n0 ≤ hc15.size := Nat.le_trans Zc14 (Nat.le_of_eq Wc15.size.symm)
  have KKc15 := KKc14.wr Wc15 (Or.inr sz_bc11)
  have V_bc11_c15 : Arv Z hc15 bc11 kc11 .double (4 : Int32) [(.double c1_v72_3), (.double c1_v72_6), (.double c1_v72_9), (.double c1_v72_12)] (.double 0) := Vc15
  have Nc15 := Fr.snoc Xc15 Nc14 g_bc11
  obtain ⟨fs, hr, hrun, hended, hW, hsame⟩ := Xc15.leave (v := some (.ref bc11)) (fun h => by rw [Bd.returns] at h; cases h)
  refine ⟨_, _, pre0 _ ?_, hrun, hended, _, _, rfl, ?_, ⟨_, rfl⟩, hW, hsame.mono (by decide) (by decide)⟩
  · refine own_s_aloadN X0.here hx (hb hby own_d2_0) (pc' := 1) rfl rfl rfl ?_
    refine own_len X0 hx hZ e0 V_qa (hb hby own_d2_1) (pc' := 2) rfl ?_
    refine own_s_iloadN X0.here hx (hb hby own_d2_2) (pc' := 3) rfl rfl ?_
    refine own_s_idiv X0.here hx (hb hby own_d2_3) (pc' := 4) rfl (by decide) (v := (2 : Int32)) (by decide) ?_
    refine own_s_istoreN X0.here hx (hb hby own_d2_4) (pc' := 5) rfl (L' := #[.val (.ref qa), .val (.ref qb), .val (.int (3 : Int32)), .val (.int (2 : Int32)), .unset, .unset, .unset, .unset, .unset, .unset, .unset]) rfl ?_
    refine own_s_aloadN X0.here hx (hb hby own_d2_5) (pc' := 6) rfl rfl rfl ?_
    refine own_len X0 hx hZ e0 V_qb (hb hby own_d2_6) (pc' := 7) rfl ?_
    refine own_s_iloadN X0.here hx (hb hby own_d2_7) (pc' := 8) rfl rfl ?_
    refine own_s_idiv X0.here hx (hb hby own_d2_8) (pc' := 9) rfl (by decide) (v := (2 : Int32)) (by decide) ?_
    refine own_s_istore X0.here hx (hb hby own_d2_9) (pc' := 11) rfl (L' := #[.val (.ref qa), .val (.ref qb), .val (.int (3 : Int32)), .val (.int (2 : Int32)), .val (.int (2 : Int32)), .unset, .unset, .unset, .unset, .unset, .unset]) rfl ?_
    refine own_s_iloadN X0.here hx (hb hby own_d2_11) (pc' := 12) rfl rfl ?_
    refine own_s_iload X0.here hx (hb hby own_d2_12) (pc' := 14) rfl rfl ?_
    refine own_s_imul X0.here hx (hb hby own_d2_14) (pc' := 15) rfl (v := (4 : Int32)) (by decide) ?_
    refine stc11 _ ?_
    refine own_s_astore Xc11.here hx (hb hby own_d2_17) (pc' := 19) rfl rfl (L' := #[.val (.ref qa), .val (.ref qb), .val (.int (3 : Int32)), .val (.int (2 : Int32)), .val (.int (2 : Int32)), .val (.ref bc11), .unset, .unset, .unset, .unset, .unset]) rfl ?_
    refine own_s_iconst Xc11.here hx (hb hby own_d2_19) (pc' := 20) rfl (v := (0 : Int32)) (by decide) ?_
    refine own_s_istore Xc11.here hx (hb hby own_d2_20) (pc' := 22) rfl (L' := #[.val (.ref qa), .val (.ref qb), .val (.int (3 : Int32)), .val (.int (2 : Int32)), .val (.int (2 : Int32)), .val (.ref bc11), .val (.int (0 : Int32)), .unset, .unset, .unset, .unset]) rfl ?_
    refine own_s_iload Xc11.here hx (hb hby own_d2_22) (pc' := 24) rfl rfl ?_
    refine own_s_iloadN Xc11.here hx (hb hby own_d2_24) (pc' := 25) rfl rfl ?_
    refine own_s_icmpNo Xc11.here hx (hb hby own_d2_25) (pc' := 28) rfl (by decide) ?_
    refine own_s_iconst Xc11.here hx (hb hby own_d2_28) (pc' := 29) rfl (v := (0 : Int32)) (by decide) ?_
    refine own_s_istore Xc11.here hx (hb hby own_d2_29) (pc' := 31) rfl (L' := #[.val (.ref qa), .val (.ref qb), .val (.int (3 : Int32)), .val (.int (2 : Int32)), .val (.int (2 : Int32)), .val (.ref bc11), .val (.int (0 : Int32)), .val (.int (0 : Int32)), .unset, .unset, .unset]) rfl ?_
    refine own_s_iload Xc11.here hx (hb hby own_d2_31) (pc' := 33) rfl rfl ?_
    refine own_s_iload Xc11.here hx (hb hby own_d2_33) (pc' := 35) rfl rfl ?_
    refine own_s_icmpNo Xc11.here hx (hb hby own_d2_35) (pc' := 38) rfl (by decide) ?_
    refine own_s_dconst0 Xc11.here hx (hb hby own_d2_38) (pc' := 39) rfl  ?_
    refine own_s_dstore Xc11.here hx (hb hby own_d2_39) (pc' := 41) rfl (L' := #[.val (.ref qa), .val (.ref qb), .val (.int (3 : Int32)), .val (.int (2 : Int32)), .val (.int (2 : Int32)), .val (.ref bc11), .val (.int (0 : Int32)), .val (.int (0 : Int32)), .val (.double 0), .second, .unset]) rfl ?_
    refine own_s_iconst Xc11.here hx (hb hby own_d2_41) (pc' := 42) rfl (v := (0 : Int32)) (by decide) ?_
    refine own_s_istore Xc11.here hx (hb hby own_d2_42) (pc' := 44) rfl (L' := #[.val (.ref qa), .val (.ref qb), .val (.int (3 : Int32)), .val (.int (2 : Int32)), .val (.int (2 : Int32)), .val (.ref bc11), .val (.int (0 : Int32)), .val (.int (0 : Int32)), .val (.double 0), .second, .val (.int (0 : Int32))]) rfl ?_
    refine own_s_iload Xc11.here hx (hb hby own_d2_44) (pc' := 46) rfl rfl ?_
    refine own_s_iloadN Xc11.here hx (hb hby own_d2_46) (pc' := 47) rfl rfl ?_
    refine own_s_icmpNo Xc11.here hx (hb hby own_d2_47) (pc' := 50) rfl (by decide) ?_
    refine own_s_dload Xc11.here hx (hb hby own_d2_50) (pc' := 52) rfl rfl ?_
    refine own_s_aloadN Xc11.here hx (hb hby own_d2_52) (pc' := 53) rfl rfl rfl ?_
    refine own_s_iload Xc11.here hx (hb hby own_d2_53) (pc' := 55) rfl rfl ?_
    refine own_s_iloadN Xc11.here hx (hb hby own_d2_55) (pc' := 56) rfl rfl ?_
    refine own_s_imul Xc11.here hx (hb hby own_d2_56) (pc' := 57) rfl (v := (0 : Int32)) (by decide) ?_
    refine own_s_iload Xc11.here hx (hb hby own_d2_57) (pc' := 59) rfl rfl ?_
    refine own_s_iadd Xc11.here hx (hb hby own_d2_59) (pc' := 60) rfl (v := (0 : Int32)) (by decide) ?_
    refine own_ldD Xc11 hx hZ ec11 V_qa_c11 (j := (0 : Int32)) (x := d0) (by decide) rfl (hb hby own_d2_60) (pc' := 61) rfl ?_
    refine own_s_aloadN Xc11.here hx (hb hby own_d2_61) (pc' := 62) rfl rfl rfl ?_
    refine own_s_iload Xc11.here hx (hb hby own_d2_62) (pc' := 64) rfl rfl ?_
    refine own_s_iload Xc11.here hx (hb hby own_d2_64) (pc' := 66) rfl rfl ?_
    refine own_s_imul Xc11.here hx (hb hby own_d2_66) (pc' := 67) rfl (v := (0 : Int32)) (by decide) ?_
    refine own_s_iload Xc11.here hx (hb hby own_d2_67) (pc' := 69) rfl rfl ?_
    refine own_s_iadd Xc11.here hx (hb hby own_d2_69) (pc' := 70) rfl (v := (0 : Int32)) (by decide) ?_
    refine own_ldD Xc11 hx hZ ec11 V_qb_c11 (j := (0 : Int32)) (x := ee0) (by decide) rfl (hb hby own_d2_70) (pc' := 71) rfl ?_
    refine own_s_dmul Xc11.here hx (hb hby own_d2_71) (pc' := 72) rfl c1_hn71 (v := c1_v71) c1_hv71 ?_
    refine own_s_dadd Xc11.here hx (hb hby own_d2_72) (pc' := 73) rfl c1_hn72 (v := c1_v72) c1_hv72 ?_
    refine own_s_dstore Xc11.here hx (hb hby own_d2_73) (pc' := 75) rfl (L' := #[.val (.ref qa), .val (.ref qb), .val (.int (3 : Int32)), .val (.int (2 : Int32)), .val (.int (2 : Int32)), .val (.ref bc11), .val (.int (0 : Int32)), .val (.int (0 : Int32)), .val (.double c1_v72), .second, .val (.int (0 : Int32))]) rfl ?_
    refine own_s_iinc Xc11.here hx (hb hby own_d2_75) (pc' := 78) rfl rfl (v := (1 : Int32)) (by decide) (L' := #[.val (.ref qa), .val (.ref qb), .val (.int (3 : Int32)), .val (.int (2 : Int32)), .val (.int (2 : Int32)), .val (.ref bc11), .val (.int (0 : Int32)), .val (.int (0 : Int32)), .val (.double c1_v72), .second, .val (.int (1 : Int32))]) rfl ?_
    refine own_s_goto Xc11.here hx (hb hby own_d2_78) (by decide) (pc' := 44) (by decide) ?_
    refine own_s_iload Xc11.here hx (hb hby own_d2_44) (pc' := 46) rfl rfl ?_
    refine own_s_iloadN Xc11.here hx (hb hby own_d2_46) (pc' := 47) rfl rfl ?_
    refine own_s_icmpNo Xc11.here hx (hb hby own_d2_47) (pc' := 50) rfl (by decide) ?_
    refine own_s_dload Xc11.here hx (hb hby own_d2_50) (pc' := 52) rfl rfl ?_
    refine own_s_aloadN Xc11.here hx (hb hby own_d2_52) (pc' := 53) rfl rfl rfl ?_
    refine own_s_iload Xc11.here hx (hb hby own_d2_53) (pc' := 55) rfl rfl ?_
    refine own_s_iloadN Xc11.here hx (hb hby own_d2_55) (pc' := 56) rfl rfl ?_
    refine own_s_imul Xc11.here hx (hb hby own_d2_56) (pc' := 57) rfl (v := (0 : Int32)) (by decide) ?_
    refine own_s_iload Xc11.here hx (hb hby own_d2_57) (pc' := 59) rfl rfl ?_
    refine own_s_iadd Xc11.here hx (hb hby own_d2_59) (pc' := 60) rfl (v := (1 : Int32)) (by decide) ?_
    refine own_ldD Xc11 hx hZ ec11 V_qa_c11 (j := (1 : Int32)) (x := d1) (by decide) rfl (hb hby own_d2_60) (pc' := 61) rfl ?_
    refine own_s_aloadN Xc11.here hx (hb hby own_d2_61) (pc' := 62) rfl rfl rfl ?_
    refine own_s_iload Xc11.here hx (hb hby own_d2_62) (pc' := 64) rfl rfl ?_
    refine own_s_iload Xc11.here hx (hb hby own_d2_64) (pc' := 66) rfl rfl ?_
    refine own_s_imul Xc11.here hx (hb hby own_d2_66) (pc' := 67) rfl (v := (2 : Int32)) (by decide) ?_
    refine own_s_iload Xc11.here hx (hb hby own_d2_67) (pc' := 69) rfl rfl ?_
    refine own_s_iadd Xc11.here hx (hb hby own_d2_69) (pc' := 70) rfl (v := (2 : Int32)) (by decide) ?_
    refine own_ldD Xc11 hx hZ ec11 V_qb_c11 (j := (2 : Int32)) (x := ee2) (by decide) rfl (hb hby own_d2_70) (pc' := 71) rfl ?_
    refine own_s_dmul Xc11.here hx (hb hby own_d2_71) (pc' := 72) rfl c1_hn71_2 (v := c1_v71_2) c1_hv71_2 ?_
    refine own_s_dadd Xc11.here hx (hb hby own_d2_72) (pc' := 73) rfl c1_hn72_2 (v := c1_v72_2) c1_hv72_2 ?_
    refine own_s_dstore Xc11.here hx (hb hby own_d2_73) (pc' := 75) rfl (L' := #[.val (.ref qa), .val (.ref qb), .val (.int (3 : Int32)), .val (.int (2 : Int32)), .val (.int (2 : Int32)), .val (.ref bc11), .val (.int (0 : Int32)), .val (.int (0 : Int32)), .val (.double c1_v72_2), .second, .val (.int (1 : Int32))]) rfl ?_
    refine own_s_iinc Xc11.here hx (hb hby own_d2_75) (pc' := 78) rfl rfl (v := (2 : Int32)) (by decide) (L' := #[.val (.ref qa), .val (.ref qb), .val (.int (3 : Int32)), .val (.int (2 : Int32)), .val (.int (2 : Int32)), .val (.ref bc11), .val (.int (0 : Int32)), .val (.int (0 : Int32)), .val (.double c1_v72_2), .second, .val (.int (2 : Int32))]) rfl ?_
    refine own_s_goto Xc11.here hx (hb hby own_d2_78) (by decide) (pc' := 44) (by decide) ?_
    refine own_s_iload Xc11.here hx (hb hby own_d2_44) (pc' := 46) rfl rfl ?_
    refine own_s_iloadN Xc11.here hx (hb hby own_d2_46) (pc' := 47) rfl rfl ?_
    refine own_s_icmpNo Xc11.here hx (hb hby own_d2_47) (pc' := 50) rfl (by decide) ?_
    refine own_s_dload Xc11.here hx (hb hby own_d2_50) (pc' := 52) rfl rfl ?_
    refine own_s_aloadN Xc11.here hx (hb hby own_d2_52) (pc' := 53) rfl rfl rfl ?_
    refine own_s_iload Xc11.here hx (hb hby own_d2_53) (pc' := 55) rfl rfl ?_
    refine own_s_iloadN Xc11.here hx (hb hby own_d2_55) (pc' := 56) rfl rfl ?_
    refine own_s_imul Xc11.here hx (hb hby own_d2_56) (pc' := 57) rfl (v := (0 : Int32)) (by decide) ?_
    refine own_s_iload Xc11.here hx (hb hby own_d2_57) (pc' := 59) rfl rfl ?_
    refine own_s_iadd Xc11.here hx (hb hby own_d2_59) (pc' := 60) rfl (v := (2 : Int32)) (by decide) ?_
    refine own_ldD Xc11 hx hZ ec11 V_qa_c11 (j := (2 : Int32)) (x := d2) (by decide) rfl (hb hby own_d2_60) (pc' := 61) rfl ?_
    refine own_s_aloadN Xc11.here hx (hb hby own_d2_61) (pc' := 62) rfl rfl rfl ?_
    refine own_s_iload Xc11.here hx (hb hby own_d2_62) (pc' := 64) rfl rfl ?_
    refine own_s_iload Xc11.here hx (hb hby own_d2_64) (pc' := 66) rfl rfl ?_
    refine own_s_imul Xc11.here hx (hb hby own_d2_66) (pc' := 67) rfl (v := (4 : Int32)) (by decide) ?_
    refine own_s_iload Xc11.here hx (hb hby own_d2_67) (pc' := 69) rfl rfl ?_
    refine own_s_iadd Xc11.here hx (hb hby own_d2_69) (pc' := 70) rfl (v := (4 : Int32)) (by decide) ?_
    refine own_ldD Xc11 hx hZ ec11 V_qb_c11 (j := (4 : Int32)) (x := ee4) (by decide) rfl (hb hby own_d2_70) (pc' := 71) rfl ?_
    refine own_s_dmul Xc11.here hx (hb hby own_d2_71) (pc' := 72) rfl c1_hn71_3 (v := c1_v71_3) c1_hv71_3 ?_
    refine own_s_dadd Xc11.here hx (hb hby own_d2_72) (pc' := 73) rfl c1_hn72_3 (v := c1_v72_3) c1_hv72_3 ?_
    refine own_s_dstore Xc11.here hx (hb hby own_d2_73) (pc' := 75) rfl (L' := #[.val (.ref qa), .val (.ref qb), .val (.int (3 : Int32)), .val (.int (2 : Int32)), .val (.int (2 : Int32)), .val (.ref bc11), .val (.int (0 : Int32)), .val (.int (0 : Int32)), .val (.double c1_v72_3), .second, .val (.int (2 : Int32))]) rfl ?_
    refine own_s_iinc Xc11.here hx (hb hby own_d2_75) (pc' := 78) rfl rfl (v := (3 : Int32)) (by decide) (L' := #[.val (.ref qa), .val (.ref qb), .val (.int (3 : Int32)), .val (.int (2 : Int32)), .val (.int (2 : Int32)), .val (.ref bc11), .val (.int (0 : Int32)), .val (.int (0 : Int32)), .val (.double c1_v72_3), .second, .val (.int (3 : Int32))]) rfl ?_
    refine own_s_goto Xc11.here hx (hb hby own_d2_78) (by decide) (pc' := 44) (by decide) ?_
    refine own_s_iload Xc11.here hx (hb hby own_d2_44) (pc' := 46) rfl rfl ?_
    refine own_s_iloadN Xc11.here hx (hb hby own_d2_46) (pc' := 47) rfl rfl ?_
    refine own_s_icmpYes Xc11.here hx (hb hby own_d2_47) (by decide) (pc' := 81) (by decide) (by decide) ?_
    refine own_s_aload Xc11.here hx (hb hby own_d2_81) (pc' := 83) rfl rfl rfl ?_
    refine own_s_iload Xc11.here hx (hb hby own_d2_83) (pc' := 85) rfl rfl ?_
    refine own_s_iload Xc11.here hx (hb hby own_d2_85) (pc' := 87) rfl rfl ?_
    refine own_s_imul Xc11.here hx (hb hby own_d2_87) (pc' := 88) rfl (v := (0 : Int32)) (by decide) ?_
    refine own_s_iload Xc11.here hx (hb hby own_d2_88) (pc' := 90) rfl rfl ?_
    refine own_s_iadd Xc11.here hx (hb hby own_d2_90) (pc' := 91) rfl (v := (0 : Int32)) (by decide) ?_
    refine own_s_dload Xc11.here hx (hb hby own_d2_91) (pc' := 93) rfl rfl ?_
    refine stc12 _ ?_
    refine own_s_iinc Xc12.here hx (hb hby own_d2_94) (pc' := 97) rfl rfl (v := (1 : Int32)) (by decide) (L' := #[.val (.ref qa), .val (.ref qb), .val (.int (3 : Int32)), .val (.int (2 : Int32)), .val (.int (2 : Int32)), .val (.ref bc11), .val (.int (0 : Int32)), .val (.int (1 : Int32)), .val (.double c1_v72_3), .second, .val (.int (3 : Int32))]) rfl ?_
    refine own_s_goto Xc12.here hx (hb hby own_d2_97) (by decide) (pc' := 31) (by decide) ?_
    refine own_s_iload Xc12.here hx (hb hby own_d2_31) (pc' := 33) rfl rfl ?_
    refine own_s_iload Xc12.here hx (hb hby own_d2_33) (pc' := 35) rfl rfl ?_
    refine own_s_icmpNo Xc12.here hx (hb hby own_d2_35) (pc' := 38) rfl (by decide) ?_
    refine own_s_dconst0 Xc12.here hx (hb hby own_d2_38) (pc' := 39) rfl  ?_
    refine own_s_dstore Xc12.here hx (hb hby own_d2_39) (pc' := 41) rfl (L' := #[.val (.ref qa), .val (.ref qb), .val (.int (3 : Int32)), .val (.int (2 : Int32)), .val (.int (2 : Int32)), .val (.ref bc11), .val (.int (0 : Int32)), .val (.int (1 : Int32)), .val (.double 0), .second, .val (.int (3 : Int32))]) rfl ?_
    refine own_s_iconst Xc12.here hx (hb hby own_d2_41) (pc' := 42) rfl (v := (0 : Int32)) (by decide) ?_
    refine own_s_istore Xc12.here hx (hb hby own_d2_42) (pc' := 44) rfl (L' := #[.val (.ref qa), .val (.ref qb), .val (.int (3 : Int32)), .val (.int (2 : Int32)), .val (.int (2 : Int32)), .val (.ref bc11), .val (.int (0 : Int32)), .val (.int (1 : Int32)), .val (.double 0), .second, .val (.int (0 : Int32))]) rfl ?_
    refine own_s_iload Xc12.here hx (hb hby own_d2_44) (pc' := 46) rfl rfl ?_
    refine own_s_iloadN Xc12.here hx (hb hby own_d2_46) (pc' := 47) rfl rfl ?_
    refine own_s_icmpNo Xc12.here hx (hb hby own_d2_47) (pc' := 50) rfl (by decide) ?_
    refine own_s_dload Xc12.here hx (hb hby own_d2_50) (pc' := 52) rfl rfl ?_
    refine own_s_aloadN Xc12.here hx (hb hby own_d2_52) (pc' := 53) rfl rfl rfl ?_
    refine own_s_iload Xc12.here hx (hb hby own_d2_53) (pc' := 55) rfl rfl ?_
    refine own_s_iloadN Xc12.here hx (hb hby own_d2_55) (pc' := 56) rfl rfl ?_
    refine own_s_imul Xc12.here hx (hb hby own_d2_56) (pc' := 57) rfl (v := (0 : Int32)) (by decide) ?_
    refine own_s_iload Xc12.here hx (hb hby own_d2_57) (pc' := 59) rfl rfl ?_
    refine own_s_iadd Xc12.here hx (hb hby own_d2_59) (pc' := 60) rfl (v := (0 : Int32)) (by decide) ?_
    refine own_ldD Xc12 hx hZ ec12 V_qa_c12 (j := (0 : Int32)) (x := d0) (by decide) rfl (hb hby own_d2_60) (pc' := 61) rfl ?_
    refine own_s_aloadN Xc12.here hx (hb hby own_d2_61) (pc' := 62) rfl rfl rfl ?_
    refine own_s_iload Xc12.here hx (hb hby own_d2_62) (pc' := 64) rfl rfl ?_
    refine own_s_iload Xc12.here hx (hb hby own_d2_64) (pc' := 66) rfl rfl ?_
    refine own_s_imul Xc12.here hx (hb hby own_d2_66) (pc' := 67) rfl (v := (0 : Int32)) (by decide) ?_
    refine own_s_iload Xc12.here hx (hb hby own_d2_67) (pc' := 69) rfl rfl ?_
    refine own_s_iadd Xc12.here hx (hb hby own_d2_69) (pc' := 70) rfl (v := (1 : Int32)) (by decide) ?_
    refine own_ldD Xc12 hx hZ ec12 V_qb_c12 (j := (1 : Int32)) (x := ee1) (by decide) rfl (hb hby own_d2_70) (pc' := 71) rfl ?_
    refine own_s_dmul Xc12.here hx (hb hby own_d2_71) (pc' := 72) rfl c1_hn71_4 (v := c1_v71_4) c1_hv71_4 ?_
    refine own_s_dadd Xc12.here hx (hb hby own_d2_72) (pc' := 73) rfl c1_hn72_4 (v := c1_v72_4) c1_hv72_4 ?_
    refine own_s_dstore Xc12.here hx (hb hby own_d2_73) (pc' := 75) rfl (L' := #[.val (.ref qa), .val (.ref qb), .val (.int (3 : Int32)), .val (.int (2 : Int32)), .val (.int (2 : Int32)), .val (.ref bc11), .val (.int (0 : Int32)), .val (.int (1 : Int32)), .val (.double c1_v72_4), .second, .val (.int (0 : Int32))]) rfl ?_
    refine own_s_iinc Xc12.here hx (hb hby own_d2_75) (pc' := 78) rfl rfl (v := (1 : Int32)) (by decide) (L' := #[.val (.ref qa), .val (.ref qb), .val (.int (3 : Int32)), .val (.int (2 : Int32)), .val (.int (2 : Int32)), .val (.ref bc11), .val (.int (0 : Int32)), .val (.int (1 : Int32)), .val (.double c1_v72_4), .second, .val (.int (1 : Int32))]) rfl ?_
    refine own_s_goto Xc12.here hx (hb hby own_d2_78) (by decide) (pc' := 44) (by decide) ?_
    refine own_s_iload Xc12.here hx (hb hby own_d2_44) (pc' := 46) rfl rfl ?_
    refine own_s_iloadN Xc12.here hx (hb hby own_d2_46) (pc' := 47) rfl rfl ?_
    refine own_s_icmpNo Xc12.here hx (hb hby own_d2_47) (pc' := 50) rfl (by decide) ?_
    refine own_s_dload Xc12.here hx (hb hby own_d2_50) (pc' := 52) rfl rfl ?_
    refine own_s_aloadN Xc12.here hx (hb hby own_d2_52) (pc' := 53) rfl rfl rfl ?_
    refine own_s_iload Xc12.here hx (hb hby own_d2_53) (pc' := 55) rfl rfl ?_
    refine own_s_iloadN Xc12.here hx (hb hby own_d2_55) (pc' := 56) rfl rfl ?_
    refine own_s_imul Xc12.here hx (hb hby own_d2_56) (pc' := 57) rfl (v := (0 : Int32)) (by decide) ?_
    refine own_s_iload Xc12.here hx (hb hby own_d2_57) (pc' := 59) rfl rfl ?_
    refine own_s_iadd Xc12.here hx (hb hby own_d2_59) (pc' := 60) rfl (v := (1 : Int32)) (by decide) ?_
    refine own_ldD Xc12 hx hZ ec12 V_qa_c12 (j := (1 : Int32)) (x := d1) (by decide) rfl (hb hby own_d2_60) (pc' := 61) rfl ?_
    refine own_s_aloadN Xc12.here hx (hb hby own_d2_61) (pc' := 62) rfl rfl rfl ?_
    refine own_s_iload Xc12.here hx (hb hby own_d2_62) (pc' := 64) rfl rfl ?_
    refine own_s_iload Xc12.here hx (hb hby own_d2_64) (pc' := 66) rfl rfl ?_
    refine own_s_imul Xc12.here hx (hb hby own_d2_66) (pc' := 67) rfl (v := (2 : Int32)) (by decide) ?_
    refine own_s_iload Xc12.here hx (hb hby own_d2_67) (pc' := 69) rfl rfl ?_
    refine own_s_iadd Xc12.here hx (hb hby own_d2_69) (pc' := 70) rfl (v := (3 : Int32)) (by decide) ?_
    refine own_ldD Xc12 hx hZ ec12 V_qb_c12 (j := (3 : Int32)) (x := ee3) (by decide) rfl (hb hby own_d2_70) (pc' := 71) rfl ?_
    refine own_s_dmul Xc12.here hx (hb hby own_d2_71) (pc' := 72) rfl c1_hn71_5 (v := c1_v71_5) c1_hv71_5 ?_
    refine own_s_dadd Xc12.here hx (hb hby own_d2_72) (pc' := 73) rfl c1_hn72_5 (v := c1_v72_5) c1_hv72_5 ?_
    refine own_s_dstore Xc12.here hx (hb hby own_d2_73) (pc' := 75) rfl (L' := #[.val (.ref qa), .val (.ref qb), .val (.int (3 : Int32)), .val (.int (2 : Int32)), .val (.int (2 : Int32)), .val (.ref bc11), .val (.int (0 : Int32)), .val (.int (1 : Int32)), .val (.double c1_v72_5), .second, .val (.int (1 : Int32))]) rfl ?_
    refine own_s_iinc Xc12.here hx (hb hby own_d2_75) (pc' := 78) rfl rfl (v := (2 : Int32)) (by decide) (L' := #[.val (.ref qa), .val (.ref qb), .val (.int (3 : Int32)), .val (.int (2 : Int32)), .val (.int (2 : Int32)), .val (.ref bc11), .val (.int (0 : Int32)), .val (.int (1 : Int32)), .val (.double c1_v72_5), .second, .val (.int (2 : Int32))]) rfl ?_
    refine own_s_goto Xc12.here hx (hb hby own_d2_78) (by decide) (pc' := 44) (by decide) ?_
    refine own_s_iload Xc12.here hx (hb hby own_d2_44) (pc' := 46) rfl rfl ?_
    refine own_s_iloadN Xc12.here hx (hb hby own_d2_46) (pc' := 47) rfl rfl ?_
    refine own_s_icmpNo Xc12.here hx (hb hby own_d2_47) (pc' := 50) rfl (by decide) ?_
    refine own_s_dload Xc12.here hx (hb hby own_d2_50) (pc' := 52) rfl rfl ?_
    refine own_s_aloadN Xc12.here hx (hb hby own_d2_52) (pc' := 53) rfl rfl rfl ?_
    refine own_s_iload Xc12.here hx (hb hby own_d2_53) (pc' := 55) rfl rfl ?_
    refine own_s_iloadN Xc12.here hx (hb hby own_d2_55) (pc' := 56) rfl rfl ?_
    refine own_s_imul Xc12.here hx (hb hby own_d2_56) (pc' := 57) rfl (v := (0 : Int32)) (by decide) ?_
    refine own_s_iload Xc12.here hx (hb hby own_d2_57) (pc' := 59) rfl rfl ?_
    refine own_s_iadd Xc12.here hx (hb hby own_d2_59) (pc' := 60) rfl (v := (2 : Int32)) (by decide) ?_
    refine own_ldD Xc12 hx hZ ec12 V_qa_c12 (j := (2 : Int32)) (x := d2) (by decide) rfl (hb hby own_d2_60) (pc' := 61) rfl ?_
    refine own_s_aloadN Xc12.here hx (hb hby own_d2_61) (pc' := 62) rfl rfl rfl ?_
    refine own_s_iload Xc12.here hx (hb hby own_d2_62) (pc' := 64) rfl rfl ?_
    refine own_s_iload Xc12.here hx (hb hby own_d2_64) (pc' := 66) rfl rfl ?_
    refine own_s_imul Xc12.here hx (hb hby own_d2_66) (pc' := 67) rfl (v := (4 : Int32)) (by decide) ?_
    refine own_s_iload Xc12.here hx (hb hby own_d2_67) (pc' := 69) rfl rfl ?_
    refine own_s_iadd Xc12.here hx (hb hby own_d2_69) (pc' := 70) rfl (v := (5 : Int32)) (by decide) ?_
    refine own_ldD Xc12 hx hZ ec12 V_qb_c12 (j := (5 : Int32)) (x := ee5) (by decide) rfl (hb hby own_d2_70) (pc' := 71) rfl ?_
    refine own_s_dmul Xc12.here hx (hb hby own_d2_71) (pc' := 72) rfl c1_hn71_6 (v := c1_v71_6) c1_hv71_6 ?_
    refine own_s_dadd Xc12.here hx (hb hby own_d2_72) (pc' := 73) rfl c1_hn72_6 (v := c1_v72_6) c1_hv72_6 ?_
    refine own_s_dstore Xc12.here hx (hb hby own_d2_73) (pc' := 75) rfl (L' := #[.val (.ref qa), .val (.ref qb), .val (.int (3 : Int32)), .val (.int (2 : Int32)), .val (.int (2 : Int32)), .val (.ref bc11), .val (.int (0 : Int32)), .val (.int (1 : Int32)), .val (.double c1_v72_6), .second, .val (.int (2 : Int32))]) rfl ?_
    refine own_s_iinc Xc12.here hx (hb hby own_d2_75) (pc' := 78) rfl rfl (v := (3 : Int32)) (by decide) (L' := #[.val (.ref qa), .val (.ref qb), .val (.int (3 : Int32)), .val (.int (2 : Int32)), .val (.int (2 : Int32)), .val (.ref bc11), .val (.int (0 : Int32)), .val (.int (1 : Int32)), .val (.double c1_v72_6), .second, .val (.int (3 : Int32))]) rfl ?_
    refine own_s_goto Xc12.here hx (hb hby own_d2_78) (by decide) (pc' := 44) (by decide) ?_
    refine own_s_iload Xc12.here hx (hb hby own_d2_44) (pc' := 46) rfl rfl ?_
    refine own_s_iloadN Xc12.here hx (hb hby own_d2_46) (pc' := 47) rfl rfl ?_
    refine own_s_icmpYes Xc12.here hx (hb hby own_d2_47) (by decide) (pc' := 81) (by decide) (by decide) ?_
    refine own_s_aload Xc12.here hx (hb hby own_d2_81) (pc' := 83) rfl rfl rfl ?_
    refine own_s_iload Xc12.here hx (hb hby own_d2_83) (pc' := 85) rfl rfl ?_
    refine own_s_iload Xc12.here hx (hb hby own_d2_85) (pc' := 87) rfl rfl ?_
    refine own_s_imul Xc12.here hx (hb hby own_d2_87) (pc' := 88) rfl (v := (0 : Int32)) (by decide) ?_
    refine own_s_iload Xc12.here hx (hb hby own_d2_88) (pc' := 90) rfl rfl ?_
    refine own_s_iadd Xc12.here hx (hb hby own_d2_90) (pc' := 91) rfl (v := (1 : Int32)) (by decide) ?_
    refine own_s_dload Xc12.here hx (hb hby own_d2_91) (pc' := 93) rfl rfl ?_
    refine stc13 _ ?_
    refine own_s_iinc Xc13.here hx (hb hby own_d2_94) (pc' := 97) rfl rfl (v := (2 : Int32)) (by decide) (L' := #[.val (.ref qa), .val (.ref qb), .val (.int (3 : Int32)), .val (.int (2 : Int32)), .val (.int (2 : Int32)), .val (.ref bc11), .val (.int (0 : Int32)), .val (.int (2 : Int32)), .val (.double c1_v72_6), .second, .val (.int (3 : Int32))]) rfl ?_
    refine own_s_goto Xc13.here hx (hb hby own_d2_97) (by decide) (pc' := 31) (by decide) ?_
    refine own_s_iload Xc13.here hx (hb hby own_d2_31) (pc' := 33) rfl rfl ?_
    refine own_s_iload Xc13.here hx (hb hby own_d2_33) (pc' := 35) rfl rfl ?_
    refine own_s_icmpYes Xc13.here hx (hb hby own_d2_35) (by decide) (pc' := 100) (by decide) (by decide) ?_
    refine own_s_iinc Xc13.here hx (hb hby own_d2_100) (pc' := 103) rfl rfl (v := (1 : Int32)) (by decide) (L' := #[.val (.ref qa), .val (.ref qb), .val (.int (3 : Int32)), .val (.int (2 : Int32)), .val (.int (2 : Int32)), .val (.ref bc11), .val (.int (1 : Int32)), .val (.int (2 : Int32)), .val (.double c1_v72_6), .second, .val (.int (3 : Int32))]) rfl ?_
    refine own_s_goto Xc13.here hx (hb hby own_d2_103) (by decide) (pc' := 22) (by decide) ?_
    refine own_s_iload Xc13.here hx (hb hby own_d2_22) (pc' := 24) rfl rfl ?_
    refine own_s_iloadN Xc13.here hx (hb hby own_d2_24) (pc' := 25) rfl rfl ?_
    refine own_s_icmpNo Xc13.here hx (hb hby own_d2_25) (pc' := 28) rfl (by decide) ?_
    refine own_s_iconst Xc13.here hx (hb hby own_d2_28) (pc' := 29) rfl (v := (0 : Int32)) (by decide) ?_
    refine own_s_istore Xc13.here hx (hb hby own_d2_29) (pc' := 31) rfl (L' := #[.val (.ref qa), .val (.ref qb), .val (.int (3 : Int32)), .val (.int (2 : Int32)), .val (.int (2 : Int32)), .val (.ref bc11), .val (.int (1 : Int32)), .val (.int (0 : Int32)), .val (.double c1_v72_6), .second, .val (.int (3 : Int32))]) rfl ?_
    refine own_s_iload Xc13.here hx (hb hby own_d2_31) (pc' := 33) rfl rfl ?_
    refine own_s_iload Xc13.here hx (hb hby own_d2_33) (pc' := 35) rfl rfl ?_
    refine own_s_icmpNo Xc13.here hx (hb hby own_d2_35) (pc' := 38) rfl (by decide) ?_
    refine own_s_dconst0 Xc13.here hx (hb hby own_d2_38) (pc' := 39) rfl  ?_
    refine own_s_dstore Xc13.here hx (hb hby own_d2_39) (pc' := 41) rfl (L' := #[.val (.ref qa), .val (.ref qb), .val (.int (3 : Int32)), .val (.int (2 : Int32)), .val (.int (2 : Int32)), .val (.ref bc11), .val (.int (1 : Int32)), .val (.int (0 : Int32)), .val (.double 0), .second, .val (.int (3 : Int32))]) rfl ?_
    refine own_s_iconst Xc13.here hx (hb hby own_d2_41) (pc' := 42) rfl (v := (0 : Int32)) (by decide) ?_
    refine own_s_istore Xc13.here hx (hb hby own_d2_42) (pc' := 44) rfl (L' := #[.val (.ref qa), .val (.ref qb), .val (.int (3 : Int32)), .val (.int (2 : Int32)), .val (.int (2 : Int32)), .val (.ref bc11), .val (.int (1 : Int32)), .val (.int (0 : Int32)), .val (.double 0), .second, .val (.int (0 : Int32))]) rfl ?_
    refine own_s_iload Xc13.here hx (hb hby own_d2_44) (pc' := 46) rfl rfl ?_
    refine own_s_iloadN Xc13.here hx (hb hby own_d2_46) (pc' := 47) rfl rfl ?_
    refine own_s_icmpNo Xc13.here hx (hb hby own_d2_47) (pc' := 50) rfl (by decide) ?_
    refine own_s_dload Xc13.here hx (hb hby own_d2_50) (pc' := 52) rfl rfl ?_
    refine own_s_aloadN Xc13.here hx (hb hby own_d2_52) (pc' := 53) rfl rfl rfl ?_
    refine own_s_iload Xc13.here hx (hb hby own_d2_53) (pc' := 55) rfl rfl ?_
    refine own_s_iloadN Xc13.here hx (hb hby own_d2_55) (pc' := 56) rfl rfl ?_
    refine own_s_imul Xc13.here hx (hb hby own_d2_56) (pc' := 57) rfl (v := (3 : Int32)) (by decide) ?_
    refine own_s_iload Xc13.here hx (hb hby own_d2_57) (pc' := 59) rfl rfl ?_
    refine own_s_iadd Xc13.here hx (hb hby own_d2_59) (pc' := 60) rfl (v := (3 : Int32)) (by decide) ?_
    refine own_ldD Xc13 hx hZ ec13 V_qa_c13 (j := (3 : Int32)) (x := d3) (by decide) rfl (hb hby own_d2_60) (pc' := 61) rfl ?_
    refine own_s_aloadN Xc13.here hx (hb hby own_d2_61) (pc' := 62) rfl rfl rfl ?_
    refine own_s_iload Xc13.here hx (hb hby own_d2_62) (pc' := 64) rfl rfl ?_
    refine own_s_iload Xc13.here hx (hb hby own_d2_64) (pc' := 66) rfl rfl ?_
    refine own_s_imul Xc13.here hx (hb hby own_d2_66) (pc' := 67) rfl (v := (0 : Int32)) (by decide) ?_
    refine own_s_iload Xc13.here hx (hb hby own_d2_67) (pc' := 69) rfl rfl ?_
    refine own_s_iadd Xc13.here hx (hb hby own_d2_69) (pc' := 70) rfl (v := (0 : Int32)) (by decide) ?_
    refine own_ldD Xc13 hx hZ ec13 V_qb_c13 (j := (0 : Int32)) (x := ee0) (by decide) rfl (hb hby own_d2_70) (pc' := 71) rfl ?_
    refine own_s_dmul Xc13.here hx (hb hby own_d2_71) (pc' := 72) rfl c1_hn71_7 (v := c1_v71_7) c1_hv71_7 ?_
    refine own_s_dadd Xc13.here hx (hb hby own_d2_72) (pc' := 73) rfl c1_hn72_7 (v := c1_v72_7) c1_hv72_7 ?_
    refine own_s_dstore Xc13.here hx (hb hby own_d2_73) (pc' := 75) rfl (L' := #[.val (.ref qa), .val (.ref qb), .val (.int (3 : Int32)), .val (.int (2 : Int32)), .val (.int (2 : Int32)), .val (.ref bc11), .val (.int (1 : Int32)), .val (.int (0 : Int32)), .val (.double c1_v72_7), .second, .val (.int (0 : Int32))]) rfl ?_
    refine own_s_iinc Xc13.here hx (hb hby own_d2_75) (pc' := 78) rfl rfl (v := (1 : Int32)) (by decide) (L' := #[.val (.ref qa), .val (.ref qb), .val (.int (3 : Int32)), .val (.int (2 : Int32)), .val (.int (2 : Int32)), .val (.ref bc11), .val (.int (1 : Int32)), .val (.int (0 : Int32)), .val (.double c1_v72_7), .second, .val (.int (1 : Int32))]) rfl ?_
    refine own_s_goto Xc13.here hx (hb hby own_d2_78) (by decide) (pc' := 44) (by decide) ?_
    refine own_s_iload Xc13.here hx (hb hby own_d2_44) (pc' := 46) rfl rfl ?_
    refine own_s_iloadN Xc13.here hx (hb hby own_d2_46) (pc' := 47) rfl rfl ?_
    refine own_s_icmpNo Xc13.here hx (hb hby own_d2_47) (pc' := 50) rfl (by decide) ?_
    refine own_s_dload Xc13.here hx (hb hby own_d2_50) (pc' := 52) rfl rfl ?_
    refine own_s_aloadN Xc13.here hx (hb hby own_d2_52) (pc' := 53) rfl rfl rfl ?_
    refine own_s_iload Xc13.here hx (hb hby own_d2_53) (pc' := 55) rfl rfl ?_
    refine own_s_iloadN Xc13.here hx (hb hby own_d2_55) (pc' := 56) rfl rfl ?_
    refine own_s_imul Xc13.here hx (hb hby own_d2_56) (pc' := 57) rfl (v := (3 : Int32)) (by decide) ?_
    refine own_s_iload Xc13.here hx (hb hby own_d2_57) (pc' := 59) rfl rfl ?_
    refine own_s_iadd Xc13.here hx (hb hby own_d2_59) (pc' := 60) rfl (v := (4 : Int32)) (by decide) ?_
    refine own_ldD Xc13 hx hZ ec13 V_qa_c13 (j := (4 : Int32)) (x := d4) (by decide) rfl (hb hby own_d2_60) (pc' := 61) rfl ?_
    refine own_s_aloadN Xc13.here hx (hb hby own_d2_61) (pc' := 62) rfl rfl rfl ?_
    refine own_s_iload Xc13.here hx (hb hby own_d2_62) (pc' := 64) rfl rfl ?_
    refine own_s_iload Xc13.here hx (hb hby own_d2_64) (pc' := 66) rfl rfl ?_
    refine own_s_imul Xc13.here hx (hb hby own_d2_66) (pc' := 67) rfl (v := (2 : Int32)) (by decide) ?_
    refine own_s_iload Xc13.here hx (hb hby own_d2_67) (pc' := 69) rfl rfl ?_
    refine own_s_iadd Xc13.here hx (hb hby own_d2_69) (pc' := 70) rfl (v := (2 : Int32)) (by decide) ?_
    refine own_ldD Xc13 hx hZ ec13 V_qb_c13 (j := (2 : Int32)) (x := ee2) (by decide) rfl (hb hby own_d2_70) (pc' := 71) rfl ?_
    refine own_s_dmul Xc13.here hx (hb hby own_d2_71) (pc' := 72) rfl c1_hn71_8 (v := c1_v71_8) c1_hv71_8 ?_
    refine own_s_dadd Xc13.here hx (hb hby own_d2_72) (pc' := 73) rfl c1_hn72_8 (v := c1_v72_8) c1_hv72_8 ?_
    refine own_s_dstore Xc13.here hx (hb hby own_d2_73) (pc' := 75) rfl (L' := #[.val (.ref qa), .val (.ref qb), .val (.int (3 : Int32)), .val (.int (2 : Int32)), .val (.int (2 : Int32)), .val (.ref bc11), .val (.int (1 : Int32)), .val (.int (0 : Int32)), .val (.double c1_v72_8), .second, .val (.int (1 : Int32))]) rfl ?_
    refine own_s_iinc Xc13.here hx (hb hby own_d2_75) (pc' := 78) rfl rfl (v := (2 : Int32)) (by decide) (L' := #[.val (.ref qa), .val (.ref qb), .val (.int (3 : Int32)), .val (.int (2 : Int32)), .val (.int (2 : Int32)), .val (.ref bc11), .val (.int (1 : Int32)), .val (.int (0 : Int32)), .val (.double c1_v72_8), .second, .val (.int (2 : Int32))]) rfl ?_
    refine own_s_goto Xc13.here hx (hb hby own_d2_78) (by decide) (pc' := 44) (by decide) ?_
    refine own_s_iload Xc13.here hx (hb hby own_d2_44) (pc' := 46) rfl rfl ?_
    refine own_s_iloadN Xc13.here hx (hb hby own_d2_46) (pc' := 47) rfl rfl ?_
    refine own_s_icmpNo Xc13.here hx (hb hby own_d2_47) (pc' := 50) rfl (by decide) ?_
    refine own_s_dload Xc13.here hx (hb hby own_d2_50) (pc' := 52) rfl rfl ?_
    refine own_s_aloadN Xc13.here hx (hb hby own_d2_52) (pc' := 53) rfl rfl rfl ?_
    refine own_s_iload Xc13.here hx (hb hby own_d2_53) (pc' := 55) rfl rfl ?_
    refine own_s_iloadN Xc13.here hx (hb hby own_d2_55) (pc' := 56) rfl rfl ?_
    refine own_s_imul Xc13.here hx (hb hby own_d2_56) (pc' := 57) rfl (v := (3 : Int32)) (by decide) ?_
    refine own_s_iload Xc13.here hx (hb hby own_d2_57) (pc' := 59) rfl rfl ?_
    refine own_s_iadd Xc13.here hx (hb hby own_d2_59) (pc' := 60) rfl (v := (5 : Int32)) (by decide) ?_
    refine own_ldD Xc13 hx hZ ec13 V_qa_c13 (j := (5 : Int32)) (x := d5) (by decide) rfl (hb hby own_d2_60) (pc' := 61) rfl ?_
    refine own_s_aloadN Xc13.here hx (hb hby own_d2_61) (pc' := 62) rfl rfl rfl ?_
    refine own_s_iload Xc13.here hx (hb hby own_d2_62) (pc' := 64) rfl rfl ?_
    refine own_s_iload Xc13.here hx (hb hby own_d2_64) (pc' := 66) rfl rfl ?_
    refine own_s_imul Xc13.here hx (hb hby own_d2_66) (pc' := 67) rfl (v := (4 : Int32)) (by decide) ?_
    refine own_s_iload Xc13.here hx (hb hby own_d2_67) (pc' := 69) rfl rfl ?_
    refine own_s_iadd Xc13.here hx (hb hby own_d2_69) (pc' := 70) rfl (v := (4 : Int32)) (by decide) ?_
    refine own_ldD Xc13 hx hZ ec13 V_qb_c13 (j := (4 : Int32)) (x := ee4) (by decide) rfl (hb hby own_d2_70) (pc' := 71) rfl ?_
    refine own_s_dmul Xc13.here hx (hb hby own_d2_71) (pc' := 72) rfl c1_hn71_9 (v := c1_v71_9) c1_hv71_9 ?_
    refine own_s_dadd Xc13.here hx (hb hby own_d2_72) (pc' := 73) rfl c1_hn72_9 (v := c1_v72_9) c1_hv72_9 ?_
    refine own_s_dstore Xc13.here hx (hb hby own_d2_73) (pc' := 75) rfl (L' := #[.val (.ref qa), .val (.ref qb), .val (.int (3 : Int32)), .val (.int (2 : Int32)), .val (.int (2 : Int32)), .val (.ref bc11), .val (.int (1 : Int32)), .val (.int (0 : Int32)), .val (.double c1_v72_9), .second, .val (.int (2 : Int32))]) rfl ?_
    refine own_s_iinc Xc13.here hx (hb hby own_d2_75) (pc' := 78) rfl rfl (v := (3 : Int32)) (by decide) (L' := #[.val (.ref qa), .val (.ref qb), .val (.int (3 : Int32)), .val (.int (2 : Int32)), .val (.int (2 : Int32)), .val (.ref bc11), .val (.int (1 : Int32)), .val (.int (0 : Int32)), .val (.double c1_v72_9), .second, .val (.int (3 : Int32))]) rfl ?_
    refine own_s_goto Xc13.here hx (hb hby own_d2_78) (by decide) (pc' := 44) (by decide) ?_
    refine own_s_iload Xc13.here hx (hb hby own_d2_44) (pc' := 46) rfl rfl ?_
    refine own_s_iloadN Xc13.here hx (hb hby own_d2_46) (pc' := 47) rfl rfl ?_
    refine own_s_icmpYes Xc13.here hx (hb hby own_d2_47) (by decide) (pc' := 81) (by decide) (by decide) ?_
    refine own_s_aload Xc13.here hx (hb hby own_d2_81) (pc' := 83) rfl rfl rfl ?_
    refine own_s_iload Xc13.here hx (hb hby own_d2_83) (pc' := 85) rfl rfl ?_
    refine own_s_iload Xc13.here hx (hb hby own_d2_85) (pc' := 87) rfl rfl ?_
    refine own_s_imul Xc13.here hx (hb hby own_d2_87) (pc' := 88) rfl (v := (2 : Int32)) (by decide) ?_
    refine own_s_iload Xc13.here hx (hb hby own_d2_88) (pc' := 90) rfl rfl ?_
    refine own_s_iadd Xc13.here hx (hb hby own_d2_90) (pc' := 91) rfl (v := (2 : Int32)) (by decide) ?_
    refine own_s_dload Xc13.here hx (hb hby own_d2_91) (pc' := 93) rfl rfl ?_
    refine stc14 _ ?_
    refine own_s_iinc Xc14.here hx (hb hby own_d2_94) (pc' := 97) rfl rfl (v := (1 : Int32)) (by decide) (L' := #[.val (.ref qa), .val (.ref qb), .val (.int (3 : Int32)), .val (.int (2 : Int32)), .val (.int (2 : Int32)), .val (.ref bc11), .val (.int (1 : Int32)), .val (.int (1 : Int32)), .val (.double c1_v72_9), .second, .val (.int (3 : Int32))]) rfl ?_
    refine own_s_goto Xc14.here hx (hb hby own_d2_97) (by decide) (pc' := 31) (by decide) ?_
    refine own_s_iload Xc14.here hx (hb hby own_d2_31) (pc' := 33) rfl rfl ?_
    refine own_s_iload Xc14.here hx (hb hby own_d2_33) (pc' := 35) rfl rfl ?_
    refine own_s_icmpNo Xc14.here hx (hb hby own_d2_35) (pc' := 38) rfl (by decide) ?_
    refine own_s_dconst0 Xc14.here hx (hb hby own_d2_38) (pc' := 39) rfl  ?_
    refine own_s_dstore Xc14.here hx (hb hby own_d2_39) (pc' := 41) rfl (L' := #[.val (.ref qa), .val (.ref qb), .val (.int (3 : Int32)), .val (.int (2 : Int32)), .val (.int (2 : Int32)), .val (.ref bc11), .val (.int (1 : Int32)), .val (.int (1 : Int32)), .val (.double 0), .second, .val (.int (3 : Int32))]) rfl ?_
    refine own_s_iconst Xc14.here hx (hb hby own_d2_41) (pc' := 42) rfl (v := (0 : Int32)) (by decide) ?_
    refine own_s_istore Xc14.here hx (hb hby own_d2_42) (pc' := 44) rfl (L' := #[.val (.ref qa), .val (.ref qb), .val (.int (3 : Int32)), .val (.int (2 : Int32)), .val (.int (2 : Int32)), .val (.ref bc11), .val (.int (1 : Int32)), .val (.int (1 : Int32)), .val (.double 0), .second, .val (.int (0 : Int32))]) rfl ?_
    refine own_s_iload Xc14.here hx (hb hby own_d2_44) (pc' := 46) rfl rfl ?_
    refine own_s_iloadN Xc14.here hx (hb hby own_d2_46) (pc' := 47) rfl rfl ?_
    refine own_s_icmpNo Xc14.here hx (hb hby own_d2_47) (pc' := 50) rfl (by decide) ?_
    refine own_s_dload Xc14.here hx (hb hby own_d2_50) (pc' := 52) rfl rfl ?_
    refine own_s_aloadN Xc14.here hx (hb hby own_d2_52) (pc' := 53) rfl rfl rfl ?_
    refine own_s_iload Xc14.here hx (hb hby own_d2_53) (pc' := 55) rfl rfl ?_
    refine own_s_iloadN Xc14.here hx (hb hby own_d2_55) (pc' := 56) rfl rfl ?_
    refine own_s_imul Xc14.here hx (hb hby own_d2_56) (pc' := 57) rfl (v := (3 : Int32)) (by decide) ?_
    refine own_s_iload Xc14.here hx (hb hby own_d2_57) (pc' := 59) rfl rfl ?_
    refine own_s_iadd Xc14.here hx (hb hby own_d2_59) (pc' := 60) rfl (v := (3 : Int32)) (by decide) ?_
    refine own_ldD Xc14 hx hZ ec14 V_qa_c14 (j := (3 : Int32)) (x := d3) (by decide) rfl (hb hby own_d2_60) (pc' := 61) rfl ?_
    refine own_s_aloadN Xc14.here hx (hb hby own_d2_61) (pc' := 62) rfl rfl rfl ?_
    refine own_s_iload Xc14.here hx (hb hby own_d2_62) (pc' := 64) rfl rfl ?_
    refine own_s_iload Xc14.here hx (hb hby own_d2_64) (pc' := 66) rfl rfl ?_
    refine own_s_imul Xc14.here hx (hb hby own_d2_66) (pc' := 67) rfl (v := (0 : Int32)) (by decide) ?_
    refine own_s_iload Xc14.here hx (hb hby own_d2_67) (pc' := 69) rfl rfl ?_
    refine own_s_iadd Xc14.here hx (hb hby own_d2_69) (pc' := 70) rfl (v := (1 : Int32)) (by decide) ?_
    refine own_ldD Xc14 hx hZ ec14 V_qb_c14 (j := (1 : Int32)) (x := ee1) (by decide) rfl (hb hby own_d2_70) (pc' := 71) rfl ?_
    refine own_s_dmul Xc14.here hx (hb hby own_d2_71) (pc' := 72) rfl c1_hn71_10 (v := c1_v71_10) c1_hv71_10 ?_
    refine own_s_dadd Xc14.here hx (hb hby own_d2_72) (pc' := 73) rfl c1_hn72_10 (v := c1_v72_10) c1_hv72_10 ?_
    refine own_s_dstore Xc14.here hx (hb hby own_d2_73) (pc' := 75) rfl (L' := #[.val (.ref qa), .val (.ref qb), .val (.int (3 : Int32)), .val (.int (2 : Int32)), .val (.int (2 : Int32)), .val (.ref bc11), .val (.int (1 : Int32)), .val (.int (1 : Int32)), .val (.double c1_v72_10), .second, .val (.int (0 : Int32))]) rfl ?_
    refine own_s_iinc Xc14.here hx (hb hby own_d2_75) (pc' := 78) rfl rfl (v := (1 : Int32)) (by decide) (L' := #[.val (.ref qa), .val (.ref qb), .val (.int (3 : Int32)), .val (.int (2 : Int32)), .val (.int (2 : Int32)), .val (.ref bc11), .val (.int (1 : Int32)), .val (.int (1 : Int32)), .val (.double c1_v72_10), .second, .val (.int (1 : Int32))]) rfl ?_
    refine own_s_goto Xc14.here hx (hb hby own_d2_78) (by decide) (pc' := 44) (by decide) ?_
    refine own_s_iload Xc14.here hx (hb hby own_d2_44) (pc' := 46) rfl rfl ?_
    refine own_s_iloadN Xc14.here hx (hb hby own_d2_46) (pc' := 47) rfl rfl ?_
    refine own_s_icmpNo Xc14.here hx (hb hby own_d2_47) (pc' := 50) rfl (by decide) ?_
    refine own_s_dload Xc14.here hx (hb hby own_d2_50) (pc' := 52) rfl rfl ?_
    refine own_s_aloadN Xc14.here hx (hb hby own_d2_52) (pc' := 53) rfl rfl rfl ?_
    refine own_s_iload Xc14.here hx (hb hby own_d2_53) (pc' := 55) rfl rfl ?_
    refine own_s_iloadN Xc14.here hx (hb hby own_d2_55) (pc' := 56) rfl rfl ?_
    refine own_s_imul Xc14.here hx (hb hby own_d2_56) (pc' := 57) rfl (v := (3 : Int32)) (by decide) ?_
    refine own_s_iload Xc14.here hx (hb hby own_d2_57) (pc' := 59) rfl rfl ?_
    refine own_s_iadd Xc14.here hx (hb hby own_d2_59) (pc' := 60) rfl (v := (4 : Int32)) (by decide) ?_
    refine own_ldD Xc14 hx hZ ec14 V_qa_c14 (j := (4 : Int32)) (x := d4) (by decide) rfl (hb hby own_d2_60) (pc' := 61) rfl ?_
    refine own_s_aloadN Xc14.here hx (hb hby own_d2_61) (pc' := 62) rfl rfl rfl ?_
    refine own_s_iload Xc14.here hx (hb hby own_d2_62) (pc' := 64) rfl rfl ?_
    refine own_s_iload Xc14.here hx (hb hby own_d2_64) (pc' := 66) rfl rfl ?_
    refine own_s_imul Xc14.here hx (hb hby own_d2_66) (pc' := 67) rfl (v := (2 : Int32)) (by decide) ?_
    refine own_s_iload Xc14.here hx (hb hby own_d2_67) (pc' := 69) rfl rfl ?_
    refine own_s_iadd Xc14.here hx (hb hby own_d2_69) (pc' := 70) rfl (v := (3 : Int32)) (by decide) ?_
    refine own_ldD Xc14 hx hZ ec14 V_qb_c14 (j := (3 : Int32)) (x := ee3) (by decide) rfl (hb hby own_d2_70) (pc' := 71) rfl ?_
    refine own_s_dmul Xc14.here hx (hb hby own_d2_71) (pc' := 72) rfl c1_hn71_11 (v := c1_v71_11) c1_hv71_11 ?_
    refine own_s_dadd Xc14.here hx (hb hby own_d2_72) (pc' := 73) rfl c1_hn72_11 (v := c1_v72_11) c1_hv72_11 ?_
    refine own_s_dstore Xc14.here hx (hb hby own_d2_73) (pc' := 75) rfl (L' := #[.val (.ref qa), .val (.ref qb), .val (.int (3 : Int32)), .val (.int (2 : Int32)), .val (.int (2 : Int32)), .val (.ref bc11), .val (.int (1 : Int32)), .val (.int (1 : Int32)), .val (.double c1_v72_11), .second, .val (.int (1 : Int32))]) rfl ?_
    refine own_s_iinc Xc14.here hx (hb hby own_d2_75) (pc' := 78) rfl rfl (v := (2 : Int32)) (by decide) (L' := #[.val (.ref qa), .val (.ref qb), .val (.int (3 : Int32)), .val (.int (2 : Int32)), .val (.int (2 : Int32)), .val (.ref bc11), .val (.int (1 : Int32)), .val (.int (1 : Int32)), .val (.double c1_v72_11), .second, .val (.int (2 : Int32))]) rfl ?_
    refine own_s_goto Xc14.here hx (hb hby own_d2_78) (by decide) (pc' := 44) (by decide) ?_
    refine own_s_iload Xc14.here hx (hb hby own_d2_44) (pc' := 46) rfl rfl ?_
    refine own_s_iloadN Xc14.here hx (hb hby own_d2_46) (pc' := 47) rfl rfl ?_
    refine own_s_icmpNo Xc14.here hx (hb hby own_d2_47) (pc' := 50) rfl (by decide) ?_
    refine own_s_dload Xc14.here hx (hb hby own_d2_50) (pc' := 52) rfl rfl ?_
    refine own_s_aloadN Xc14.here hx (hb hby own_d2_52) (pc' := 53) rfl rfl rfl ?_
    refine own_s_iload Xc14.here hx (hb hby own_d2_53) (pc' := 55) rfl rfl ?_
    refine own_s_iloadN Xc14.here hx (hb hby own_d2_55) (pc' := 56) rfl rfl ?_
    refine own_s_imul Xc14.here hx (hb hby own_d2_56) (pc' := 57) rfl (v := (3 : Int32)) (by decide) ?_
    refine own_s_iload Xc14.here hx (hb hby own_d2_57) (pc' := 59) rfl rfl ?_
    refine own_s_iadd Xc14.here hx (hb hby own_d2_59) (pc' := 60) rfl (v := (5 : Int32)) (by decide) ?_
    refine own_ldD Xc14 hx hZ ec14 V_qa_c14 (j := (5 : Int32)) (x := d5) (by decide) rfl (hb hby own_d2_60) (pc' := 61) rfl ?_
    refine own_s_aloadN Xc14.here hx (hb hby own_d2_61) (pc' := 62) rfl rfl rfl ?_
    refine own_s_iload Xc14.here hx (hb hby own_d2_62) (pc' := 64) rfl rfl ?_
    refine own_s_iload Xc14.here hx (hb hby own_d2_64) (pc' := 66) rfl rfl ?_
    refine own_s_imul Xc14.here hx (hb hby own_d2_66) (pc' := 67) rfl (v := (4 : Int32)) (by decide) ?_
    refine own_s_iload Xc14.here hx (hb hby own_d2_67) (pc' := 69) rfl rfl ?_
    refine own_s_iadd Xc14.here hx (hb hby own_d2_69) (pc' := 70) rfl (v := (5 : Int32)) (by decide) ?_
    refine own_ldD Xc14 hx hZ ec14 V_qb_c14 (j := (5 : Int32)) (x := ee5) (by decide) rfl (hb hby own_d2_70) (pc' := 71) rfl ?_
    refine own_s_dmul Xc14.here hx (hb hby own_d2_71) (pc' := 72) rfl c1_hn71_12 (v := c1_v71_12) c1_hv71_12 ?_
    refine own_s_dadd Xc14.here hx (hb hby own_d2_72) (pc' := 73) rfl c1_hn72_12 (v := c1_v72_12) c1_hv72_12 ?_
    refine own_s_dstore Xc14.here hx (hb hby own_d2_73) (pc' := 75) rfl (L' := #[.val (.ref qa), .val (.ref qb), .val (.int (3 : Int32)), .val (.int (2 : Int32)), .val (.int (2 : Int32)), .val (.ref bc11), .val (.int (1 : Int32)), .val (.int (1 : Int32)), .val (.double c1_v72_12), .second, .val (.int (2 : Int32))]) rfl ?_
    refine own_s_iinc Xc14.here hx (hb hby own_d2_75) (pc' := 78) rfl rfl (v := (3 : Int32)) (by decide) (L' := #[.val (.ref qa), .val (.ref qb), .val (.int (3 : Int32)), .val (.int (2 : Int32)), .val (.int (2 : Int32)), .val (.ref bc11), .val (.int (1 : Int32)), .val (.int (1 : Int32)), .val (.double c1_v72_12), .second, .val (.int (3 : Int32))]) rfl ?_
    refine own_s_goto Xc14.here hx (hb hby own_d2_78) (by decide) (pc' := 44) (by decide) ?_
    refine own_s_iload Xc14.here hx (hb hby own_d2_44) (pc' := 46) rfl rfl ?_
    refine own_s_iloadN Xc14.here hx (hb hby own_d2_46) (pc' := 47) rfl rfl ?_
    refine own_s_icmpYes Xc14.here hx (hb hby own_d2_47) (by decide) (pc' := 81) (by decide) (by decide) ?_
    refine own_s_aload Xc14.here hx (hb hby own_d2_81) (pc' := 83) rfl rfl rfl ?_
    refine own_s_iload Xc14.here hx (hb hby own_d2_83) (pc' := 85) rfl rfl ?_
    refine own_s_iload Xc14.here hx (hb hby own_d2_85) (pc' := 87) rfl rfl ?_
    refine own_s_imul Xc14.here hx (hb hby own_d2_87) (pc' := 88) rfl (v := (2 : Int32)) (by decide) ?_
    refine own_s_iload Xc14.here hx (hb hby own_d2_88) (pc' := 90) rfl rfl ?_
    refine own_s_iadd Xc14.here hx (hb hby own_d2_90) (pc' := 91) rfl (v := (3 : Int32)) (by decide) ?_
    refine own_s_dload Xc14.here hx (hb hby own_d2_91) (pc' := 93) rfl rfl ?_
    refine stc15 _ ?_
    refine own_s_iinc Xc15.here hx (hb hby own_d2_94) (pc' := 97) rfl rfl (v := (2 : Int32)) (by decide) (L' := #[.val (.ref qa), .val (.ref qb), .val (.int (3 : Int32)), .val (.int (2 : Int32)), .val (.int (2 : Int32)), .val (.ref bc11), .val (.int (1 : Int32)), .val (.int (2 : Int32)), .val (.double c1_v72_12), .second, .val (.int (3 : Int32))]) rfl ?_
    refine own_s_goto Xc15.here hx (hb hby own_d2_97) (by decide) (pc' := 31) (by decide) ?_
    refine own_s_iload Xc15.here hx (hb hby own_d2_31) (pc' := 33) rfl rfl ?_
    refine own_s_iload Xc15.here hx (hb hby own_d2_33) (pc' := 35) rfl rfl ?_
    refine own_s_icmpYes Xc15.here hx (hb hby own_d2_35) (by decide) (pc' := 100) (by decide) (by decide) ?_
    refine own_s_iinc Xc15.here hx (hb hby own_d2_100) (pc' := 103) rfl rfl (v := (2 : Int32)) (by decide) (L' := #[.val (.ref qa), .val (.ref qb), .val (.int (3 : Int32)), .val (.int (2 : Int32)), .val (.int (2 : Int32)), .val (.ref bc11), .val (.int (2 : Int32)), .val (.int (2 : Int32)), .val (.double c1_v72_12), .second, .val (.int (3 : Int32))]) rfl ?_
    refine own_s_goto Xc15.here hx (hb hby own_d2_103) (by decide) (pc' := 22) (by decide) ?_
    refine own_s_iload Xc15.here hx (hb hby own_d2_22) (pc' := 24) rfl rfl ?_
    refine own_s_iloadN Xc15.here hx (hb hby own_d2_24) (pc' := 25) rfl rfl ?_
    refine own_s_icmpYes Xc15.here hx (hb hby own_d2_25) (by decide) (pc' := 106) (by decide) (by decide) ?_
    refine own_s_aload Xc15.here hx (hb hby own_d2_106) (pc' := 108) rfl rfl rfl ?_
    exact own_retR Xc15 hx Bd.returns rfl (hb hby own_d2_108) hr
  · show own_Q_c1 Z qa d0 d1 d2 d3 d4 d5 qb ee0 ee1 ee2 ee3 ee4 ee5 qak qbk c1_v71 c1_v72 c1_v71_2 c1_v72_2 c1_v71_3 c1_v72_3 c1_v71_4 c1_v72_4 c1_v71_5 c1_v72_5 c1_v71_6 c1_v72_6 c1_v71_7 c1_v72_7 c1_v71_8 c1_v72_8 c1_v71_9 c1_v72_9 c1_v71_10 c1_v72_10 c1_v71_11 c1_v72_11 c1_v71_12 c1_v72_12 h0 n0 _ Tc15.heap _
    rw [ec15]
    exact ⟨bc11, kc11, rfl, Nc15, KKc15, sz_bc11, V_bc11_c15⟩
theorem own_ef_w1 (m : MethodId) (p0 : Int64) (p1 : Int64) (p2 : Int32) : entryFrame m #[(.long p0), (.long p1), (.int p2)] maxLocals = mkF m 0 #[.val (.long p0), .second, .val (.long p1), .second, .val (.int p2), .unset, .unset, .unset, .unset, .unset, .unset, .unset, .unset, .unset, .unset, .unset, .unset, .unset, .unset, .unset, .unset] [] := by first | (simp [entryFrame, mkF, argsToLocals, Value.category, maxLocals]; done) | rfl
set_option maxRecDepth 65536 in
set_option maxHeartbeats 40000000 in
theorem own_rm_w1 (l : Launch) (Z : State) (a0 : Array Value) (hw : ∀ d ∈ tables_1, d.before a0 Z = true) (ws : List Jvm.Cond) (p0 : Int64) (p1 : Int64) (p2 : Int32) {w1_c2_a0_v5 : Int64} {w1_c2_a0_v6 : Int32} {w1_c2_a0_v7 : Int32} {w1_c9_a1_v5 : Int64} {w1_c9_a1_v6 : Int32} {w1_c9_a1_v7 : Int32} {w1_c16_a2_v5 : Int64} {w1_c16_a2_v6 : Int32} {w1_c16_a2_v7 : Int32} {w1_c23_a3_v5 : Int64} {w1_c23_a3_v6 : Int32} {w1_c23_a3_v7 : Int32} {w1_c30_a4_v5 : Int64} {w1_c30_a4_v6 : Int32} {w1_c30_a4_v7 : Int32} {w1_c37_a5_v5 : Int64} {w1_c37_a5_v6 : Int32} {w1_c37_a5_v7 : Int32} {w1_c44_a0_v5 : Int64} {w1_c44_a0_v6 : Int32} {w1_c44_a0_v7 : Int32} {w1_c51_a1_v5 : Int64} {w1_c51_a1_v6 : Int32} {w1_c51_a1_v7 : Int32} {w1_c58_a2_v5 : Int64} {w1_c58_a2_v6 : Int32} {w1_c58_a2_v7 : Int32} {w1_c65_a3_v5 : Int64} {w1_c65_a3_v6 : Int32} {w1_c65_a3_v7 : Int32} {w1_c72_a4_v5 : Int64} {w1_c72_a4_v6 : Int32} {w1_c72_a4_v7 : Int32} {w1_c79_a5_v5 : Int64} {w1_c79_a5_v6 : Int32} {w1_c79_a5_v7 : Int32} {w1_v172 : Int32} {w1_c411_c1_v71 : UInt64} {w1_c411_c1_v72 : UInt64} {w1_c411_c1_v71_2 : UInt64} {w1_c411_c1_v72_2 : UInt64} {w1_c411_c1_v71_3 : UInt64} {w1_c411_c1_v72_3 : UInt64} {w1_c411_c1_v71_4 : UInt64} {w1_c411_c1_v72_4 : UInt64} {w1_c411_c1_v71_5 : UInt64} {w1_c411_c1_v72_5 : UInt64} {w1_c411_c1_v71_6 : UInt64} {w1_c411_c1_v72_6 : UInt64} {w1_c411_c1_v71_7 : UInt64} {w1_c411_c1_v72_7 : UInt64} {w1_c411_c1_v71_8 : UInt64} {w1_c411_c1_v72_8 : UInt64} {w1_c411_c1_v71_9 : UInt64} {w1_c411_c1_v72_9 : UInt64} {w1_c411_c1_v71_10 : UInt64} {w1_c411_c1_v72_10 : UInt64} {w1_c411_c1_v71_11 : UInt64} {w1_c411_c1_v72_11 : UInt64} {w1_c411_c1_v71_12 : UInt64} {w1_c411_c1_v72_12 : UInt64} {w1_v433 : Int32} {w1_v438 : Int32} {w1_v439 : Int32} {w1_v444 : Int32} {w1_v445 : Int32} {w1_v460 : Int32} {w1_v465 : Int32} {w1_v466 : Int32} {w1_v471 : Int32} {w1_v472 : Int32} {w1_v487 : Int32} {w1_v492 : Int32} {w1_v493 : Int32} {w1_v498 : Int32} {w1_v499 : Int32} {w1_v514 : Int32} {w1_v519 : Int32} {w1_v520 : Int32} {w1_v525 : Int32} {w1_v526 : Int32} (h0 : Heap) (n0 : Nat) (Z0 : n0 ≤ h0.size)  (w1_c2_a0_hv5 : p0 >>> ((0 : Int32) &&& 63).toInt64 = w1_c2_a0_v5) (w1_c2_a0_hv6 : Int64.toInt32 w1_c2_a0_v5 = w1_c2_a0_v6) (w1_c2_a0_hv7 : (Int32.toInt8 w1_c2_a0_v6).toInt32 = w1_c2_a0_v7) (w1_c9_a1_hv5 : p0 >>> ((8 : Int32) &&& 63).toInt64 = w1_c9_a1_v5) (w1_c9_a1_hv6 : Int64.toInt32 w1_c9_a1_v5 = w1_c9_a1_v6) (w1_c9_a1_hv7 : (Int32.toInt8 w1_c9_a1_v6).toInt32 = w1_c9_a1_v7) (w1_c16_a2_hv5 : p0 >>> ((16 : Int32) &&& 63).toInt64 = w1_c16_a2_v5) (w1_c16_a2_hv6 : Int64.toInt32 w1_c16_a2_v5 = w1_c16_a2_v6) (w1_c16_a2_hv7 : (Int32.toInt8 w1_c16_a2_v6).toInt32 = w1_c16_a2_v7) (w1_c23_a3_hv5 : p0 >>> ((24 : Int32) &&& 63).toInt64 = w1_c23_a3_v5) (w1_c23_a3_hv6 : Int64.toInt32 w1_c23_a3_v5 = w1_c23_a3_v6) (w1_c23_a3_hv7 : (Int32.toInt8 w1_c23_a3_v6).toInt32 = w1_c23_a3_v7) (w1_c30_a4_hv5 : p0 >>> ((32 : Int32) &&& 63).toInt64 = w1_c30_a4_v5) (w1_c30_a4_hv6 : Int64.toInt32 w1_c30_a4_v5 = w1_c30_a4_v6) (w1_c30_a4_hv7 : (Int32.toInt8 w1_c30_a4_v6).toInt32 = w1_c30_a4_v7) (w1_c37_a5_hv5 : p0 >>> ((40 : Int32) &&& 63).toInt64 = w1_c37_a5_v5) (w1_c37_a5_hv6 : Int64.toInt32 w1_c37_a5_v5 = w1_c37_a5_v6) (w1_c37_a5_hv7 : (Int32.toInt8 w1_c37_a5_v6).toInt32 = w1_c37_a5_v7) (w1_c44_a0_hv5 : p1 >>> ((0 : Int32) &&& 63).toInt64 = w1_c44_a0_v5) (w1_c44_a0_hv6 : Int64.toInt32 w1_c44_a0_v5 = w1_c44_a0_v6) (w1_c44_a0_hv7 : (Int32.toInt8 w1_c44_a0_v6).toInt32 = w1_c44_a0_v7) (w1_c51_a1_hv5 : p1 >>> ((8 : Int32) &&& 63).toInt64 = w1_c51_a1_v5) (w1_c51_a1_hv6 : Int64.toInt32 w1_c51_a1_v5 = w1_c51_a1_v6) (w1_c51_a1_hv7 : (Int32.toInt8 w1_c51_a1_v6).toInt32 = w1_c51_a1_v7) (w1_c58_a2_hv5 : p1 >>> ((16 : Int32) &&& 63).toInt64 = w1_c58_a2_v5) (w1_c58_a2_hv6 : Int64.toInt32 w1_c58_a2_v5 = w1_c58_a2_v6) (w1_c58_a2_hv7 : (Int32.toInt8 w1_c58_a2_v6).toInt32 = w1_c58_a2_v7) (w1_c65_a3_hv5 : p1 >>> ((24 : Int32) &&& 63).toInt64 = w1_c65_a3_v5) (w1_c65_a3_hv6 : Int64.toInt32 w1_c65_a3_v5 = w1_c65_a3_v6) (w1_c65_a3_hv7 : (Int32.toInt8 w1_c65_a3_v6).toInt32 = w1_c65_a3_v7) (w1_c72_a4_hv5 : p1 >>> ((32 : Int32) &&& 63).toInt64 = w1_c72_a4_v5) (w1_c72_a4_hv6 : Int64.toInt32 w1_c72_a4_v5 = w1_c72_a4_v6) (w1_c72_a4_hv7 : (Int32.toInt8 w1_c72_a4_v6).toInt32 = w1_c72_a4_v7) (w1_c79_a5_hv5 : p1 >>> ((40 : Int32) &&& 63).toInt64 = w1_c79_a5_v5) (w1_c79_a5_hv6 : Int64.toInt32 w1_c79_a5_v5 = w1_c79_a5_v6) (w1_c79_a5_hv7 : (Int32.toInt8 w1_c79_a5_v6).toInt32 = w1_c79_a5_v7) (w1_hv172 : p2 &&& (2147483647 : Int32) = w1_v172) (w1_hv174 : w1_v172 % (3 : Int32) = (1 : Int32)) (w1_c411_c1_hn71 : Jvm.Free.Fl.NoNaN64 (FP.dmul (FP.i2d w1_c2_a0_v7) (FP.i2d w1_c44_a0_v7))) (w1_c411_c1_hv71 : FP.dmul (FP.i2d w1_c2_a0_v7) (FP.i2d w1_c44_a0_v7) = w1_c411_c1_v71) (w1_c411_c1_hn72 : Jvm.Free.Fl.NoNaN64 (FP.dadd 0 w1_c411_c1_v71)) (w1_c411_c1_hv72 : FP.dadd 0 w1_c411_c1_v71 = w1_c411_c1_v72) (w1_c411_c1_hn71_2 : Jvm.Free.Fl.NoNaN64 (FP.dmul (FP.i2d w1_c9_a1_v7) (FP.i2d w1_c58_a2_v7))) (w1_c411_c1_hv71_2 : FP.dmul (FP.i2d w1_c9_a1_v7) (FP.i2d w1_c58_a2_v7) = w1_c411_c1_v71_2) (w1_c411_c1_hn72_2 : Jvm.Free.Fl.NoNaN64 (FP.dadd w1_c411_c1_v72 w1_c411_c1_v71_2)) (w1_c411_c1_hv72_2 : FP.dadd w1_c411_c1_v72 w1_c411_c1_v71_2 = w1_c411_c1_v72_2) (w1_c411_c1_hn71_3 : Jvm.Free.Fl.NoNaN64 (FP.dmul (FP.i2d w1_c16_a2_v7) (FP.i2d w1_c72_a4_v7))) (w1_c411_c1_hv71_3 : FP.dmul (FP.i2d w1_c16_a2_v7) (FP.i2d w1_c72_a4_v7) = w1_c411_c1_v71_3) (w1_c411_c1_hn72_3 : Jvm.Free.Fl.NoNaN64 (FP.dadd w1_c411_c1_v72_2 w1_c411_c1_v71_3)) (w1_c411_c1_hv72_3 : FP.dadd w1_c411_c1_v72_2 w1_c411_c1_v71_3 = w1_c411_c1_v72_3) (w1_c411_c1_hn71_4 : Jvm.Free.Fl.NoNaN64 (FP.dmul (FP.i2d w1_c2_a0_v7) (FP.i2d w1_c51_a1_v7))) (w1_c411_c1_hv71_4 : FP.dmul (FP.i2d w1_c2_a0_v7) (FP.i2d w1_c51_a1_v7) = w1_c411_c1_v71_4) (w1_c411_c1_hn72_4 : Jvm.Free.Fl.NoNaN64 (FP.dadd 0 w1_c411_c1_v71_4)) (w1_c411_c1_hv72_4 : FP.dadd 0 w1_c411_c1_v71_4 = w1_c411_c1_v72_4) (w1_c411_c1_hn71_5 : Jvm.Free.Fl.NoNaN64 (FP.dmul (FP.i2d w1_c9_a1_v7) (FP.i2d w1_c65_a3_v7))) (w1_c411_c1_hv71_5 : FP.dmul (FP.i2d w1_c9_a1_v7) (FP.i2d w1_c65_a3_v7) = w1_c411_c1_v71_5) (w1_c411_c1_hn72_5 : Jvm.Free.Fl.NoNaN64 (FP.dadd w1_c411_c1_v72_4 w1_c411_c1_v71_5)) (w1_c411_c1_hv72_5 : FP.dadd w1_c411_c1_v72_4 w1_c411_c1_v71_5 = w1_c411_c1_v72_5) (w1_c411_c1_hn71_6 : Jvm.Free.Fl.NoNaN64 (FP.dmul (FP.i2d w1_c16_a2_v7) (FP.i2d w1_c79_a5_v7))) (w1_c411_c1_hv71_6 : FP.dmul (FP.i2d w1_c16_a2_v7) (FP.i2d w1_c79_a5_v7) = w1_c411_c1_v71_6) (w1_c411_c1_hn72_6 : Jvm.Free.Fl.NoNaN64 (FP.dadd w1_c411_c1_v72_5 w1_c411_c1_v71_6)) (w1_c411_c1_hv72_6 : FP.dadd w1_c411_c1_v72_5 w1_c411_c1_v71_6 = w1_c411_c1_v72_6) (w1_c411_c1_hn71_7 : Jvm.Free.Fl.NoNaN64 (FP.dmul (FP.i2d w1_c23_a3_v7) (FP.i2d w1_c44_a0_v7))) (w1_c411_c1_hv71_7 : FP.dmul (FP.i2d w1_c23_a3_v7) (FP.i2d w1_c44_a0_v7) = w1_c411_c1_v71_7) (w1_c411_c1_hn72_7 : Jvm.Free.Fl.NoNaN64 (FP.dadd 0 w1_c411_c1_v71_7)) (w1_c411_c1_hv72_7 : FP.dadd 0 w1_c411_c1_v71_7 = w1_c411_c1_v72_7) (w1_c411_c1_hn71_8 : Jvm.Free.Fl.NoNaN64 (FP.dmul (FP.i2d w1_c30_a4_v7) (FP.i2d w1_c58_a2_v7))) (w1_c411_c1_hv71_8 : FP.dmul (FP.i2d w1_c30_a4_v7) (FP.i2d w1_c58_a2_v7) = w1_c411_c1_v71_8) (w1_c411_c1_hn72_8 : Jvm.Free.Fl.NoNaN64 (FP.dadd w1_c411_c1_v72_7 w1_c411_c1_v71_8)) (w1_c411_c1_hv72_8 : FP.dadd w1_c411_c1_v72_7 w1_c411_c1_v71_8 = w1_c411_c1_v72_8) (w1_c411_c1_hn71_9 : Jvm.Free.Fl.NoNaN64 (FP.dmul (FP.i2d w1_c37_a5_v7) (FP.i2d w1_c72_a4_v7))) (w1_c411_c1_hv71_9 : FP.dmul (FP.i2d w1_c37_a5_v7) (FP.i2d w1_c72_a4_v7) = w1_c411_c1_v71_9) (w1_c411_c1_hn72_9 : Jvm.Free.Fl.NoNaN64 (FP.dadd w1_c411_c1_v72_8 w1_c411_c1_v71_9)) (w1_c411_c1_hv72_9 : FP.dadd w1_c411_c1_v72_8 w1_c411_c1_v71_9 = w1_c411_c1_v72_9) (w1_c411_c1_hn71_10 : Jvm.Free.Fl.NoNaN64 (FP.dmul (FP.i2d w1_c23_a3_v7) (FP.i2d w1_c51_a1_v7))) (w1_c411_c1_hv71_10 : FP.dmul (FP.i2d w1_c23_a3_v7) (FP.i2d w1_c51_a1_v7) = w1_c411_c1_v71_10) (w1_c411_c1_hn72_10 : Jvm.Free.Fl.NoNaN64 (FP.dadd 0 w1_c411_c1_v71_10)) (w1_c411_c1_hv72_10 : FP.dadd 0 w1_c411_c1_v71_10 = w1_c411_c1_v72_10) (w1_c411_c1_hn71_11 : Jvm.Free.Fl.NoNaN64 (FP.dmul (FP.i2d w1_c30_a4_v7) (FP.i2d w1_c65_a3_v7))) (w1_c411_c1_hv71_11 : FP.dmul (FP.i2d w1_c30_a4_v7) (FP.i2d w1_c65_a3_v7) = w1_c411_c1_v71_11) (w1_c411_c1_hn72_11 : Jvm.Free.Fl.NoNaN64 (FP.dadd w1_c411_c1_v72_10 w1_c411_c1_v71_11)) (w1_c411_c1_hv72_11 : FP.dadd w1_c411_c1_v72_10 w1_c411_c1_v71_11 = w1_c411_c1_v72_11) (w1_c411_c1_hn71_12 : Jvm.Free.Fl.NoNaN64 (FP.dmul (FP.i2d w1_c37_a5_v7) (FP.i2d w1_c79_a5_v7))) (w1_c411_c1_hv71_12 : FP.dmul (FP.i2d w1_c37_a5_v7) (FP.i2d w1_c79_a5_v7) = w1_c411_c1_v71_12) (w1_c411_c1_hn72_12 : Jvm.Free.Fl.NoNaN64 (FP.dadd w1_c411_c1_v72_11 w1_c411_c1_v71_12)) (w1_c411_c1_hv72_12 : FP.dadd w1_c411_c1_v72_11 w1_c411_c1_v71_12 = w1_c411_c1_v72_12) (w1_hv433 : w1_c2_a0_v7 * w1_c44_a0_v7 = w1_v433) (w1_hv438 : w1_c9_a1_v7 * w1_c58_a2_v7 = w1_v438) (w1_hv439 : w1_v433 + w1_v438 = w1_v439) (w1_hv444 : w1_c16_a2_v7 * w1_c72_a4_v7 = w1_v444) (w1_hv445 : w1_v439 + w1_v444 = w1_v445) (w1_c446_same_h1 : Op.cmpValue (FP.dcmp w1_c411_c1_v72_3 (FP.i2d w1_v445)) .l = (0 : Int32)) (w1_c446_same_h2 : w1_v445 = 0 → w1_c411_c1_v72_3 = 0) (w1_hv460 : w1_c2_a0_v7 * w1_c51_a1_v7 = w1_v460) (w1_hv465 : w1_c9_a1_v7 * w1_c65_a3_v7 = w1_v465) (w1_hv466 : w1_v460 + w1_v465 = w1_v466) (w1_hv471 : w1_c16_a2_v7 * w1_c79_a5_v7 = w1_v471) (w1_hv472 : w1_v466 + w1_v471 = w1_v472) (w1_c473_same_h1 : Op.cmpValue (FP.dcmp w1_c411_c1_v72_6 (FP.i2d w1_v472)) .l = (0 : Int32)) (w1_c473_same_h2 : w1_v472 = 0 → w1_c411_c1_v72_6 = 0) (w1_hv487 : w1_c23_a3_v7 * w1_c44_a0_v7 = w1_v487) (w1_hv492 : w1_c30_a4_v7 * w1_c58_a2_v7 = w1_v492) (w1_hv493 : w1_v487 + w1_v492 = w1_v493) (w1_hv498 : w1_c37_a5_v7 * w1_c72_a4_v7 = w1_v498) (w1_hv499 : w1_v493 + w1_v498 = w1_v499) (w1_c500_same_h1 : Op.cmpValue (FP.dcmp w1_c411_c1_v72_9 (FP.i2d w1_v499)) .l = (0 : Int32)) (w1_c500_same_h2 : w1_v499 = 0 → w1_c411_c1_v72_9 = 0) (w1_hv514 : w1_c23_a3_v7 * w1_c51_a1_v7 = w1_v514) (w1_hv519 : w1_c30_a4_v7 * w1_c65_a3_v7 = w1_v519) (w1_hv520 : w1_v514 + w1_v519 = w1_v520) (w1_hv525 : w1_c37_a5_v7 * w1_c79_a5_v7 = w1_v525) (w1_hv526 : w1_v520 + w1_v525 = w1_v526) (w1_c527_same_h1 : Op.cmpValue (FP.dcmp w1_c411_c1_v72_12 (FP.i2d w1_v526)) .l = (0 : Int32)) (w1_c527_same_h2 : w1_v526 = 0 → w1_c411_c1_v72_12 = 0) :
    MetFree l x (head1 (Jvm.Cond.code x code maxLocals ret :: ws) room_1) (fun a U => a = #[(.long p0), (.long p1), (.int p2)] ∧ Z.Warmed39 U.vm ∧ U.heap = h0) (fun _ _ _ _ _ => True) (fun _ U o U' => ∃ v L, o = .returned v ∧ own_Q0 n0 v U'.heap L ∧ FrameEnd U o U' L room_1.cells room_1.slots) := by
  refine MetFree.of_bodySF (plainFor_of_name own_pn_com_example_pintrinsic_pintrinsic_MatricesProductPinLaw) hisR ?_
  intro p e s m args below meth c s₁ Bd hml0 hP hK
  obtain ⟨rfl, hZ, hh⟩ := hP
  have hx := Bd.exec
  have hby := Bd.bytes
  have hml : c.maxLocals = 21 := hml0
  have hown : s.vm.findClass "com/example/pintrinsic/pintrinsic/MatricesProductPinLaw" = some m.cls := findClass_of_methodNamed Bd.named
  have hnm := (name_of_methodNamed Bd.named Bd.method).1
  have X0 : Stand p l e room_1 s m #[(.long p0), (.long p1), (.int p2)] below meth c s₁ [] 0 0 := Stand.of_body Bd
  have e0 : s₁.heap = h0 := by rw [← hh, Bd.state]; rfl
  have N0 := Fr.nil n0
  have pre0 : ∀ t, Steps p.tables e below (s₁.setTop (mkF m 0 #[.val (.long p0), .second, .val (.long p1), .second, .val (.int p2), .unset, .unset, .unset, .unset, .unset, .unset, .unset, .unset, .unset, .unset, .unset, .unset, .unset, .unset, .unset, .unset] [])) t → Steps p.tables e below (s₁.setTop (entryFrame m #[(.long p0), (.long p1), (.int p2)] maxLocals)) t := fun t k => castTop (own_ef_w1 m p0 p1 p2) k
  obtain ⟨_, _, ⟨Tw11, Lw11, kw11, nw11⟩, -, Xw11, ⟨Lcw11, hQw11, lw11, yw11, zw11⟩, stw11⟩ := Jvm.LawKit.callS X0 hx (y := (⟨"com/example/pintrinsic/pintrinsic/MatricesProductPinLaw", "at", "(JI)I"⟩ : MethodName)) hown (mvT hZ (hw _ (List.mem_of_getElem? (i := 0) rfl))) (mvT hZ (hw _ (List.mem_of_getElem? (i := 1) rfl))) (mvT hZ (hw _ (List.mem_of_getElem? (i := 2) rfl))) (mvT hZ (hw _ (List.mem_of_getElem? (i := 3) rfl))) (by decide) (backOf (W := 0) (own_rm_a0 l Z a0 hw [] p0 h0 n0 Z0 w1_c2_a0_hv5 w1_c2_a0_hv6 w1_c2_a0_hv7) hZ (hw _ (List.mem_of_getElem? (i := 3) rfl)) (hw _ (List.mem_of_getElem? (i := 2) rfl)) (by decide) (by decide)) (g := (mkF m 2 #[.val (.long p0), .second, .val (.long p1), .second, .val (.int p2), .unset, .unset, .unset, .unset, .unset, .unset, .unset, .unset, .unset, .unset, .unset, .unset, .unset, .unset, .unset, .unset] [(.int (0 : Int32)), (.long p0)])) rfl (by rw [hml]; rfl) (argsL := [(.long p0), (.int (0 : Int32))]) (rest := []) (lenOf own_pd_28JI29I rfl) rfl (by show 2 * 0 + _ ≤ _; exact Nat.le_of_eq rfl) (hb hby at_2) (fun _ _ => ⟨rfl, e0, (by decide : 0 + 0 ≤ _), (by decide : 0 + 0 ≤ _)⟩)
  dsimp only [Pt.U, Pt.locs, Pt.cells, Pt.slots] at Xw11 lw11 yw11 zw11 stw11 hQw11
  rw [lw11, yw11, zw11] at Xw11
  obtain ⟨rfl, Nw11q, ew11⟩ := hQw11
  have Nw11 := Fr.app N0 Nw11q
  obtain ⟨_, _, ⟨Tw12, Lw12, kw12, nw12⟩, -, Xw12, ⟨Lcw12, hQw12, lw12, yw12, zw12⟩, stw12⟩ := Jvm.LawKit.callS Xw11 hx (y := (⟨"com/example/pintrinsic/pintrinsic/MatricesProductPinLaw", "at", "(JI)I"⟩ : MethodName)) hown (mvT hZ (hw _ (List.mem_of_getElem? (i := 0) rfl))) (mvT hZ (hw _ (List.mem_of_getElem? (i := 1) rfl))) (mvT hZ (hw _ (List.mem_of_getElem? (i := 2) rfl))) (mvT hZ (hw _ (List.mem_of_getElem? (i := 3) rfl))) (by decide) (backOf (W := 0) (own_rm_a1 l Z a0 hw [] p0 h0 n0 Z0 w1_c9_a1_hv5 w1_c9_a1_hv6 w1_c9_a1_hv7) hZ (hw _ (List.mem_of_getElem? (i := 3) rfl)) (hw _ (List.mem_of_getElem? (i := 2) rfl)) (by decide) (by decide)) (g := (mkF m 9 #[.val (.long p0), .second, .val (.long p1), .second, .val (.int p2), .val (.int w1_c2_a0_v7), .unset, .unset, .unset, .unset, .unset, .unset, .unset, .unset, .unset, .unset, .unset, .unset, .unset, .unset, .unset] [(.int (1 : Int32)), (.long p0)])) rfl (by rw [hml]; rfl) (argsL := [(.long p0), (.int (1 : Int32))]) (rest := []) (lenOf own_pd_28JI29I rfl) rfl (by show 2 * 0 + _ ≤ _; exact Nat.le_of_eq rfl) (hb hby at_9) (fun _ _ => ⟨rfl, ew11, (by decide : 0 + 0 ≤ _), (by decide : 0 + 0 ≤ _)⟩)
  dsimp only [Pt.U, Pt.locs, Pt.cells, Pt.slots] at Xw12 lw12 yw12 zw12 stw12 hQw12
  rw [lw12, yw12, zw12] at Xw12
  obtain ⟨rfl, Nw12q, ew12⟩ := hQw12
  have Nw12 := Fr.app Nw11 Nw12q
  obtain ⟨_, _, ⟨Tw13, Lw13, kw13, nw13⟩, -, Xw13, ⟨Lcw13, hQw13, lw13, yw13, zw13⟩, stw13⟩ := Jvm.LawKit.callS Xw12 hx (y := (⟨"com/example/pintrinsic/pintrinsic/MatricesProductPinLaw", "at", "(JI)I"⟩ : MethodName)) hown (mvT hZ (hw _ (List.mem_of_getElem? (i := 0) rfl))) (mvT hZ (hw _ (List.mem_of_getElem? (i := 1) rfl))) (mvT hZ (hw _ (List.mem_of_getElem? (i := 2) rfl))) (mvT hZ (hw _ (List.mem_of_getElem? (i := 3) rfl))) (by decide) (backOf (W := 0) (own_rm_a2 l Z a0 hw [] p0 h0 n0 Z0 w1_c16_a2_hv5 w1_c16_a2_hv6 w1_c16_a2_hv7) hZ (hw _ (List.mem_of_getElem? (i := 3) rfl)) (hw _ (List.mem_of_getElem? (i := 2) rfl)) (by decide) (by decide)) (g := (mkF m 16 #[.val (.long p0), .second, .val (.long p1), .second, .val (.int p2), .val (.int w1_c2_a0_v7), .val (.int w1_c9_a1_v7), .unset, .unset, .unset, .unset, .unset, .unset, .unset, .unset, .unset, .unset, .unset, .unset, .unset, .unset] [(.int (2 : Int32)), (.long p0)])) rfl (by rw [hml]; rfl) (argsL := [(.long p0), (.int (2 : Int32))]) (rest := []) (lenOf own_pd_28JI29I rfl) rfl (by show 2 * 0 + _ ≤ _; exact Nat.le_of_eq rfl) (hb hby at_16) (fun _ _ => ⟨rfl, ew12, (by decide : 0 + 0 ≤ _), (by decide : 0 + 0 ≤ _)⟩)
  dsimp only [Pt.U, Pt.locs, Pt.cells, Pt.slots] at Xw13 lw13 yw13 zw13 stw13 hQw13
  rw [lw13, yw13, zw13] at Xw13
  obtain ⟨rfl, Nw13q, ew13⟩ := hQw13
  have Nw13 := Fr.app Nw12 Nw13q
  obtain ⟨_, _, ⟨Tw14, Lw14, kw14, nw14⟩, -, Xw14, ⟨Lcw14, hQw14, lw14, yw14, zw14⟩, stw14⟩ := Jvm.LawKit.callS Xw13 hx (y := (⟨"com/example/pintrinsic/pintrinsic/MatricesProductPinLaw", "at", "(JI)I"⟩ : MethodName)) hown (mvT hZ (hw _ (List.mem_of_getElem? (i := 0) rfl))) (mvT hZ (hw _ (List.mem_of_getElem? (i := 1) rfl))) (mvT hZ (hw _ (List.mem_of_getElem? (i := 2) rfl))) (mvT hZ (hw _ (List.mem_of_getElem? (i := 3) rfl))) (by decide) (backOf (W := 0) (own_rm_a3 l Z a0 hw [] p0 h0 n0 Z0 w1_c23_a3_hv5 w1_c23_a3_hv6 w1_c23_a3_hv7) hZ (hw _ (List.mem_of_getElem? (i := 3) rfl)) (hw _ (List.mem_of_getElem? (i := 2) rfl)) (by decide) (by decide)) (g := (mkF m 23 #[.val (.long p0), .second, .val (.long p1), .second, .val (.int p2), .val (.int w1_c2_a0_v7), .val (.int w1_c9_a1_v7), .val (.int w1_c16_a2_v7), .unset, .unset, .unset, .unset, .unset, .unset, .unset, .unset, .unset, .unset, .unset, .unset, .unset] [(.int (3 : Int32)), (.long p0)])) rfl (by rw [hml]; rfl) (argsL := [(.long p0), (.int (3 : Int32))]) (rest := []) (lenOf own_pd_28JI29I rfl) rfl (by show 2 * 0 + _ ≤ _; exact Nat.le_of_eq rfl) (hb hby at_23) (fun _ _ => ⟨rfl, ew13, (by decide : 0 + 0 ≤ _), (by decide : 0 + 0 ≤ _)⟩)
  dsimp only [Pt.U, Pt.locs, Pt.cells, Pt.slots] at Xw14 lw14 yw14 zw14 stw14 hQw14
  rw [lw14, yw14, zw14] at Xw14
  obtain ⟨rfl, Nw14q, ew14⟩ := hQw14
  have Nw14 := Fr.app Nw13 Nw14q
  obtain ⟨_, _, ⟨Tw15, Lw15, kw15, nw15⟩, -, Xw15, ⟨Lcw15, hQw15, lw15, yw15, zw15⟩, stw15⟩ := Jvm.LawKit.callS Xw14 hx (y := (⟨"com/example/pintrinsic/pintrinsic/MatricesProductPinLaw", "at", "(JI)I"⟩ : MethodName)) hown (mvT hZ (hw _ (List.mem_of_getElem? (i := 0) rfl))) (mvT hZ (hw _ (List.mem_of_getElem? (i := 1) rfl))) (mvT hZ (hw _ (List.mem_of_getElem? (i := 2) rfl))) (mvT hZ (hw _ (List.mem_of_getElem? (i := 3) rfl))) (by decide) (backOf (W := 0) (own_rm_a4 l Z a0 hw [] p0 h0 n0 Z0 w1_c30_a4_hv5 w1_c30_a4_hv6 w1_c30_a4_hv7) hZ (hw _ (List.mem_of_getElem? (i := 3) rfl)) (hw _ (List.mem_of_getElem? (i := 2) rfl)) (by decide) (by decide)) (g := (mkF m 30 #[.val (.long p0), .second, .val (.long p1), .second, .val (.int p2), .val (.int w1_c2_a0_v7), .val (.int w1_c9_a1_v7), .val (.int w1_c16_a2_v7), .val (.int w1_c23_a3_v7), .unset, .unset, .unset, .unset, .unset, .unset, .unset, .unset, .unset, .unset, .unset, .unset] [(.int (4 : Int32)), (.long p0)])) rfl (by rw [hml]; rfl) (argsL := [(.long p0), (.int (4 : Int32))]) (rest := []) (lenOf own_pd_28JI29I rfl) rfl (by show 2 * 0 + _ ≤ _; exact Nat.le_of_eq rfl) (hb hby at_30) (fun _ _ => ⟨rfl, ew14, (by decide : 0 + 0 ≤ _), (by decide : 0 + 0 ≤ _)⟩)
  dsimp only [Pt.U, Pt.locs, Pt.cells, Pt.slots] at Xw15 lw15 yw15 zw15 stw15 hQw15
  rw [lw15, yw15, zw15] at Xw15
  obtain ⟨rfl, Nw15q, ew15⟩ := hQw15
  have Nw15 := Fr.app Nw14 Nw15q
  obtain ⟨_, _, ⟨Tw16, Lw16, kw16, nw16⟩, -, Xw16, ⟨Lcw16, hQw16, lw16, yw16, zw16⟩, stw16⟩ := Jvm.LawKit.callS Xw15 hx (y := (⟨"com/example/pintrinsic/pintrinsic/MatricesProductPinLaw", "at", "(JI)I"⟩ : MethodName)) hown (mvT hZ (hw _ (List.mem_of_getElem? (i := 0) rfl))) (mvT hZ (hw _ (List.mem_of_getElem? (i := 1) rfl))) (mvT hZ (hw _ (List.mem_of_getElem? (i := 2) rfl))) (mvT hZ (hw _ (List.mem_of_getElem? (i := 3) rfl))) (by decide) (backOf (W := 0) (own_rm_a5 l Z a0 hw [] p0 h0 n0 Z0 w1_c37_a5_hv5 w1_c37_a5_hv6 w1_c37_a5_hv7) hZ (hw _ (List.mem_of_getElem? (i := 3) rfl)) (hw _ (List.mem_of_getElem? (i := 2) rfl)) (by decide) (by decide)) (g := (mkF m 37 #[.val (.long p0), .second, .val (.long p1), .second, .val (.int p2), .val (.int w1_c2_a0_v7), .val (.int w1_c9_a1_v7), .val (.int w1_c16_a2_v7), .val (.int w1_c23_a3_v7), .val (.int w1_c30_a4_v7), .unset, .unset, .unset, .unset, .unset, .unset, .unset, .unset, .unset, .unset, .unset] [(.int (5 : Int32)), (.long p0)])) rfl (by rw [hml]; rfl) (argsL := [(.long p0), (.int (5 : Int32))]) (rest := []) (lenOf own_pd_28JI29I rfl) rfl (by show 2 * 0 + _ ≤ _; exact Nat.le_of_eq rfl) (hb hby at_37) (fun _ _ => ⟨rfl, ew15, (by decide : 0 + 0 ≤ _), (by decide : 0 + 0 ≤ _)⟩)
  dsimp only [Pt.U, Pt.locs, Pt.cells, Pt.slots] at Xw16 lw16 yw16 zw16 stw16 hQw16
  rw [lw16, yw16, zw16] at Xw16
  obtain ⟨rfl, Nw16q, ew16⟩ := hQw16
  have Nw16 := Fr.app Nw15 Nw16q
  obtain ⟨_, _, ⟨Tw17, Lw17, kw17, nw17⟩, -, Xw17, ⟨Lcw17, hQw17, lw17, yw17, zw17⟩, stw17⟩ := Jvm.LawKit.callS Xw16 hx (y := (⟨"com/example/pintrinsic/pintrinsic/MatricesProductPinLaw", "at", "(JI)I"⟩ : MethodName)) hown (mvT hZ (hw _ (List.mem_of_getElem? (i := 0) rfl))) (mvT hZ (hw _ (List.mem_of_getElem? (i := 1) rfl))) (mvT hZ (hw _ (List.mem_of_getElem? (i := 2) rfl))) (mvT hZ (hw _ (List.mem_of_getElem? (i := 3) rfl))) (by decide) (backOf (W := 0) (own_rm_a0 l Z a0 hw [] p1 h0 n0 Z0 w1_c44_a0_hv5 w1_c44_a0_hv6 w1_c44_a0_hv7) hZ (hw _ (List.mem_of_getElem? (i := 3) rfl)) (hw _ (List.mem_of_getElem? (i := 2) rfl)) (by decide) (by decide)) (g := (mkF m 44 #[.val (.long p0), .second, .val (.long p1), .second, .val (.int p2), .val (.int w1_c2_a0_v7), .val (.int w1_c9_a1_v7), .val (.int w1_c16_a2_v7), .val (.int w1_c23_a3_v7), .val (.int w1_c30_a4_v7), .val (.int w1_c37_a5_v7), .unset, .unset, .unset, .unset, .unset, .unset, .unset, .unset, .unset, .unset] [(.int (0 : Int32)), (.long p1)])) rfl (by rw [hml]; rfl) (argsL := [(.long p1), (.int (0 : Int32))]) (rest := []) (lenOf own_pd_28JI29I rfl) rfl (by show 2 * 0 + _ ≤ _; exact Nat.le_of_eq rfl) (hb hby at_44) (fun _ _ => ⟨rfl, ew16, (by decide : 0 + 0 ≤ _), (by decide : 0 + 0 ≤ _)⟩)
  dsimp only [Pt.U, Pt.locs, Pt.cells, Pt.slots] at Xw17 lw17 yw17 zw17 stw17 hQw17
  rw [lw17, yw17, zw17] at Xw17
  obtain ⟨rfl, Nw17q, ew17⟩ := hQw17
  have Nw17 := Fr.app Nw16 Nw17q
  obtain ⟨_, _, ⟨Tw18, Lw18, kw18, nw18⟩, -, Xw18, ⟨Lcw18, hQw18, lw18, yw18, zw18⟩, stw18⟩ := Jvm.LawKit.callS Xw17 hx (y := (⟨"com/example/pintrinsic/pintrinsic/MatricesProductPinLaw", "at", "(JI)I"⟩ : MethodName)) hown (mvT hZ (hw _ (List.mem_of_getElem? (i := 0) rfl))) (mvT hZ (hw _ (List.mem_of_getElem? (i := 1) rfl))) (mvT hZ (hw _ (List.mem_of_getElem? (i := 2) rfl))) (mvT hZ (hw _ (List.mem_of_getElem? (i := 3) rfl))) (by decide) (backOf (W := 0) (own_rm_a1 l Z a0 hw [] p1 h0 n0 Z0 w1_c51_a1_hv5 w1_c51_a1_hv6 w1_c51_a1_hv7) hZ (hw _ (List.mem_of_getElem? (i := 3) rfl)) (hw _ (List.mem_of_getElem? (i := 2) rfl)) (by decide) (by decide)) (g := (mkF m 51 #[.val (.long p0), .second, .val (.long p1), .second, .val (.int p2), .val (.int w1_c2_a0_v7), .val (.int w1_c9_a1_v7), .val (.int w1_c16_a2_v7), .val (.int w1_c23_a3_v7), .val (.int w1_c30_a4_v7), .val (.int w1_c37_a5_v7), .val (.int w1_c44_a0_v7), .unset, .unset, .unset, .unset, .unset, .unset, .unset, .unset, .unset] [(.int (1 : Int32)), (.long p1)])) rfl (by rw [hml]; rfl) (argsL := [(.long p1), (.int (1 : Int32))]) (rest := []) (lenOf own_pd_28JI29I rfl) rfl (by show 2 * 0 + _ ≤ _; exact Nat.le_of_eq rfl) (hb hby at_51) (fun _ _ => ⟨rfl, ew17, (by decide : 0 + 0 ≤ _), (by decide : 0 + 0 ≤ _)⟩)
  dsimp only [Pt.U, Pt.locs, Pt.cells, Pt.slots] at Xw18 lw18 yw18 zw18 stw18 hQw18
  rw [lw18, yw18, zw18] at Xw18
  obtain ⟨rfl, Nw18q, ew18⟩ := hQw18
  have Nw18 := Fr.app Nw17 Nw18q
  obtain ⟨_, _, ⟨Tw19, Lw19, kw19, nw19⟩, -, Xw19, ⟨Lcw19, hQw19, lw19, yw19, zw19⟩, stw19⟩ := Jvm.LawKit.callS Xw18 hx (y := (⟨"com/example/pintrinsic/pintrinsic/MatricesProductPinLaw", "at", "(JI)I"⟩ : MethodName)) hown (mvT hZ (hw _ (List.mem_of_getElem? (i := 0) rfl))) (mvT hZ (hw _ (List.mem_of_getElem? (i := 1) rfl))) (mvT hZ (hw _ (List.mem_of_getElem? (i := 2) rfl))) (mvT hZ (hw _ (List.mem_of_getElem? (i := 3) rfl))) (by decide) (backOf (W := 0) (own_rm_a2 l Z a0 hw [] p1 h0 n0 Z0 w1_c58_a2_hv5 w1_c58_a2_hv6 w1_c58_a2_hv7) hZ (hw _ (List.mem_of_getElem? (i := 3) rfl)) (hw _ (List.mem_of_getElem? (i := 2) rfl)) (by decide) (by decide)) (g := (mkF m 58 #[.val (.long p0), .second, .val (.long p1), .second, .val (.int p2), .val (.int w1_c2_a0_v7), .val (.int w1_c9_a1_v7), .val (.int w1_c16_a2_v7), .val (.int w1_c23_a3_v7), .val (.int w1_c30_a4_v7), .val (.int w1_c37_a5_v7), .val (.int w1_c44_a0_v7), .val (.int w1_c51_a1_v7), .unset, .unset, .unset, .unset, .unset, .unset, .unset, .unset] [(.int (2 : Int32)), (.long p1)])) rfl (by rw [hml]; rfl) (argsL := [(.long p1), (.int (2 : Int32))]) (rest := []) (lenOf own_pd_28JI29I rfl) rfl (by show 2 * 0 + _ ≤ _; exact Nat.le_of_eq rfl) (hb hby at_58) (fun _ _ => ⟨rfl, ew18, (by decide : 0 + 0 ≤ _), (by decide : 0 + 0 ≤ _)⟩)
  dsimp only [Pt.U, Pt.locs, Pt.cells, Pt.slots] at Xw19 lw19 yw19 zw19 stw19 hQw19
  rw [lw19, yw19, zw19] at Xw19
  obtain ⟨rfl, Nw19q, ew19⟩ := hQw19
  have Nw19 := Fr.app Nw18 Nw19q
  obtain ⟨_, _, ⟨Tw110, Lw110, kw110, nw110⟩, -, Xw110, ⟨Lcw110, hQw110, lw110, yw110, zw110⟩, stw110⟩ := Jvm.LawKit.callS Xw19 hx (y := (⟨"com/example/pintrinsic/pintrinsic/MatricesProductPinLaw", "at", "(JI)I"⟩ : MethodName)) hown (mvT hZ (hw _ (List.mem_of_getElem? (i := 0) rfl))) (mvT hZ (hw _ (List.mem_of_getElem? (i := 1) rfl))) (mvT hZ (hw _ (List.mem_of_getElem? (i := 2) rfl))) (mvT hZ (hw _ (List.mem_of_getElem? (i := 3) rfl))) (by decide) (backOf (W := 0) (own_rm_a3 l Z a0 hw [] p1 h0 n0 Z0 w1_c65_a3_hv5 w1_c65_a3_hv6 w1_c65_a3_hv7) hZ (hw _ (List.mem_of_getElem? (i := 3) rfl)) (hw _ (List.mem_of_getElem? (i := 2) rfl)) (by decide) (by decide)) (g := (mkF m 65 #[.val (.long p0), .second, .val (.long p1), .second, .val (.int p2), .val (.int w1_c2_a0_v7), .val (.int w1_c9_a1_v7), .val (.int w1_c16_a2_v7), .val (.int w1_c23_a3_v7), .val (.int w1_c30_a4_v7), .val (.int w1_c37_a5_v7), .val (.int w1_c44_a0_v7), .val (.int w1_c51_a1_v7), .val (.int w1_c58_a2_v7), .unset, .unset, .unset, .unset, .unset, .unset, .unset] [(.int (3 : Int32)), (.long p1)])) rfl (by rw [hml]; rfl) (argsL := [(.long p1), (.int (3 : Int32))]) (rest := []) (lenOf own_pd_28JI29I rfl) rfl (by show 2 * 0 + _ ≤ _; exact Nat.le_of_eq rfl) (hb hby at_65) (fun _ _ => ⟨rfl, ew19, (by decide : 0 + 0 ≤ _), (by decide : 0 + 0 ≤ _)⟩)
  dsimp only [Pt.U, Pt.locs, Pt.cells, Pt.slots] at Xw110 lw110 yw110 zw110 stw110 hQw110
  rw [lw110, yw110, zw110] at Xw110
  obtain ⟨rfl, Nw110q, ew110⟩ := hQw110
  have Nw110 := Fr.app Nw19 Nw110q
  obtain ⟨_, _, ⟨Tw111, Lw111, kw111, nw111⟩, -, Xw111, ⟨Lcw111, hQw111, lw111, yw111, zw111⟩, stw111⟩ := Jvm.LawKit.callS Xw110 hx (y := (⟨"com/example/pintrinsic/pintrinsic/MatricesProductPinLaw", "at", "(JI)I"⟩ : MethodName)) hown (mvT hZ (hw _ (List.mem_of_getElem? (i := 0) rfl))) (mvT hZ (hw _ (List.mem_of_getElem? (i := 1) rfl))) (mvT hZ (hw _ (List.mem_of_getElem? (i := 2) rfl))) (mvT hZ (hw _ (List.mem_of_getElem? (i := 3) rfl))) (by decide) (backOf (W := 0) (own_rm_a4 l Z a0 hw [] p1 h0 n0 Z0 w1_c72_a4_hv5 w1_c72_a4_hv6 w1_c72_a4_hv7) hZ (hw _ (List.mem_of_getElem? (i := 3) rfl)) (hw _ (List.mem_of_getElem? (i := 2) rfl)) (by decide) (by decide)) (g := (mkF m 72 #[.val (.long p0), .second, .val (.long p1), .second, .val (.int p2), .val (.int w1_c2_a0_v7), .val (.int w1_c9_a1_v7), .val (.int w1_c16_a2_v7), .val (.int w1_c23_a3_v7), .val (.int w1_c30_a4_v7), .val (.int w1_c37_a5_v7), .val (.int w1_c44_a0_v7), .val (.int w1_c51_a1_v7), .val (.int w1_c58_a2_v7), .val (.int w1_c65_a3_v7), .unset, .unset, .unset, .unset, .unset, .unset] [(.int (4 : Int32)), (.long p1)])) rfl (by rw [hml]; rfl) (argsL := [(.long p1), (.int (4 : Int32))]) (rest := []) (lenOf own_pd_28JI29I rfl) rfl (by show 2 * 0 + _ ≤ _; exact Nat.le_of_eq rfl) (hb hby at_72) (fun _ _ => ⟨rfl, ew110, (by decide : 0 + 0 ≤ _), (by decide : 0 + 0 ≤ _)⟩)
  dsimp only [Pt.U, Pt.locs, Pt.cells, Pt.slots] at Xw111 lw111 yw111 zw111 stw111 hQw111
  rw [lw111, yw111, zw111] at Xw111
  obtain ⟨rfl, Nw111q, ew111⟩ := hQw111
  have Nw111 := Fr.app Nw110 Nw111q
  obtain ⟨_, _, ⟨Tw112, Lw112, kw112, nw112⟩, -, Xw112, ⟨Lcw112, hQw112, lw112, yw112, zw112⟩, stw112⟩ := Jvm.LawKit.callS Xw111 hx (y := (⟨"com/example/pintrinsic/pintrinsic/MatricesProductPinLaw", "at", "(JI)I"⟩ : MethodName)) hown (mvT hZ (hw _ (List.mem_of_getElem? (i := 0) rfl))) (mvT hZ (hw _ (List.mem_of_getElem? (i := 1) rfl))) (mvT hZ (hw _ (List.mem_of_getElem? (i := 2) rfl))) (mvT hZ (hw _ (List.mem_of_getElem? (i := 3) rfl))) (by decide) (backOf (W := 0) (own_rm_a5 l Z a0 hw [] p1 h0 n0 Z0 w1_c79_a5_hv5 w1_c79_a5_hv6 w1_c79_a5_hv7) hZ (hw _ (List.mem_of_getElem? (i := 3) rfl)) (hw _ (List.mem_of_getElem? (i := 2) rfl)) (by decide) (by decide)) (g := (mkF m 79 #[.val (.long p0), .second, .val (.long p1), .second, .val (.int p2), .val (.int w1_c2_a0_v7), .val (.int w1_c9_a1_v7), .val (.int w1_c16_a2_v7), .val (.int w1_c23_a3_v7), .val (.int w1_c30_a4_v7), .val (.int w1_c37_a5_v7), .val (.int w1_c44_a0_v7), .val (.int w1_c51_a1_v7), .val (.int w1_c58_a2_v7), .val (.int w1_c65_a3_v7), .val (.int w1_c72_a4_v7), .unset, .unset, .unset, .unset, .unset] [(.int (5 : Int32)), (.long p1)])) rfl (by rw [hml]; rfl) (argsL := [(.long p1), (.int (5 : Int32))]) (rest := []) (lenOf own_pd_28JI29I rfl) rfl (by show 2 * 0 + _ ≤ _; exact Nat.le_of_eq rfl) (hb hby at_79) (fun _ _ => ⟨rfl, ew111, (by decide : 0 + 0 ≤ _), (by decide : 0 + 0 ≤ _)⟩)
  dsimp only [Pt.U, Pt.locs, Pt.cells, Pt.slots] at Xw112 lw112 yw112 zw112 stw112 hQw112
  rw [lw112, yw112, zw112] at Xw112
  obtain ⟨rfl, Nw112q, ew112⟩ := hQw112
  have Nw112 := Fr.app Nw111 Nw112q
  obtain ⟨Tw113, hw113, kw113, bw113, Xw113, ew113, Ew113, Gw113, Vw113, stw113⟩ := own_newD (L := #[.val (.long p0), .second, .val (.long p1), .second, .val (.int p2), .val (.int w1_c2_a0_v7), .val (.int w1_c9_a1_v7), .val (.int w1_c16_a2_v7), .val (.int w1_c23_a3_v7), .val (.int w1_c30_a4_v7), .val (.int w1_c37_a5_v7), .val (.int w1_c44_a0_v7), .val (.int w1_c51_a1_v7), .val (.int w1_c58_a2_v7), .val (.int w1_c65_a3_v7), .val (.int w1_c72_a4_v7), .val (.int w1_c79_a5_v7), .unset, .unset, .unset, .unset]) (S := []) Xw112 hx hZ (hw _ (List.mem_of_getElem? (i := 4) rfl)) ew112 (z := (6 : Int32)) 6 (by decide) (by decide) (by decide) (by decide) (by decide) (hb hby at_86) (pc' := 88) rfl
  have g_bw113 : n0 ≤ bw113 := Nat.le_trans Z0 (Nat.le_of_eq Gw113.symm)
  have sz_bw113 : h0.size ≤ bw113 := Nat.le_trans (Keep.refl h0 []).1 (Nat.le_of_eq Gw113.symm)
  have Zw113 : n0 ≤ hw113.size := Nat.le_trans Z0 Ew113.1
  have KKw113 := (Keep.refl h0 []).ext Ew113
  have V_bw113 : Arv Z hw113 bw113 kw113 .double (6 : Int32) [(.double 0), (.double 0), (.double 0), (.double 0), (.double 0), (.double 0)] (.double 0) := Vw113
  obtain ⟨Tw114, hw114, Xw114, ew114, Ww114, Vw114, stw114⟩ := own_stD (L := #[.val (.long p0), .second, .val (.long p1), .second, .val (.int p2), .val (.int w1_c2_a0_v7), .val (.int w1_c9_a1_v7), .val (.int w1_c16_a2_v7), .val (.int w1_c23_a3_v7), .val (.int w1_c30_a4_v7), .val (.int w1_c37_a5_v7), .val (.int w1_c44_a0_v7), .val (.int w1_c51_a1_v7), .val (.int w1_c58_a2_v7), .val (.int w1_c65_a3_v7), .val (.int w1_c72_a4_v7), .val (.int w1_c79_a5_v7), .unset, .unset, .unset, .unset]) (S := [(.ref bw113)]) Xw113 hx hZ ew113 V_bw113 (j := (0 : Int32)) (x := (FP.i2d w1_c2_a0_v7)) (by decide) 0 (by decide) (Nat.le_of_ble_eq_true rfl) (hb hby at_93) (pc' := 94) rfl
  have Zw114 : n0 ≤ hw114.size := Nat.le_trans Zw113 (Nat.le_of_eq Ww114.size.symm)
  have KKw114 := KKw113.wr Ww114 (Or.inr sz_bw113)
  have V_bw113_w114 : Arv Z hw114 bw113 kw113 .double (6 : Int32) [(.double (FP.i2d w1_c2_a0_v7)), (.double 0), (.double 0), (.double 0), (.double 0), (.double 0)] (.double 0) := Vw114
  have Nw114 := Fr.snoc Xw114 Nw112 g_bw113
  obtain ⟨Tw115, hw115, Xw115, ew115, Ww115, Vw115, stw115⟩ := own_stD (L := #[.val (.long p0), .second, .val (.long p1), .second, .val (.int p2), .val (.int w1_c2_a0_v7), .val (.int w1_c9_a1_v7), .val (.int w1_c16_a2_v7), .val (.int w1_c23_a3_v7), .val (.int w1_c30_a4_v7), .val (.int w1_c37_a5_v7), .val (.int w1_c44_a0_v7), .val (.int w1_c51_a1_v7), .val (.int w1_c58_a2_v7), .val (.int w1_c65_a3_v7), .val (.int w1_c72_a4_v7), .val (.int w1_c79_a5_v7), .unset, .unset, .unset, .unset]) (S := [(.ref bw113)]) Xw114 hx hZ ew114 V_bw113_w114 (j := (1 : Int32)) (x := (FP.i2d w1_c9_a1_v7)) (by decide) 1 (by decide) (Nat.le_of_ble_eq_true rfl) (hb hby at_99) (pc' := 100) rfl
  have Zw115 : n0 ≤ hw115.size := Nat.le_trans Zw114 (Nat.le_of_eq Ww115.size.symm)
  have KKw115 := KKw114.wr Ww115 (Or.inr sz_bw113)
  have V_bw113_w115 : Arv Z hw115 bw113 kw113 .double (6 : Int32) [(.double (FP.i2d w1_c2_a0_v7)), (.double (FP.i2d w1_c9_a1_v7)), (.double 0), (.double 0), (.double 0), (.double 0)] (.double 0) := Vw115
  have Nw115 := Fr.snoc Xw115 Nw114 g_bw113
  obtain ⟨Tw116, hw116, Xw116, ew116, Ww116, Vw116, stw116⟩ := own_stD (L := #[.val (.long p0), .second, .val (.long p1), .second, .val (.int p2), .val (.int w1_c2_a0_v7), .val (.int w1_c9_a1_v7), .val (.int w1_c16_a2_v7), .val (.int w1_c23_a3_v7), .val (.int w1_c30_a4_v7), .val (.int w1_c37_a5_v7), .val (.int w1_c44_a0_v7), .val (.int w1_c51_a1_v7), .val (.int w1_c58_a2_v7), .val (.int w1_c65_a3_v7), .val (.int w1_c72_a4_v7), .val (.int w1_c79_a5_v7), .unset, .unset, .unset, .unset]) (S := [(.ref bw113)]) Xw115 hx hZ ew115 V_bw113_w115 (j := (2 : Int32)) (x := (FP.i2d w1_c16_a2_v7)) (by decide) 2 (by decide) (Nat.le_of_ble_eq_true rfl) (hb hby at_105) (pc' := 106) rfl
  have Zw116 : n0 ≤ hw116.size := Nat.le_trans Zw115 (Nat.le_of_eq Ww116.size.symm)
  have KKw116 := KKw115.wr Ww116 (Or.inr sz_bw113)
  have V_bw113_w116 : Arv Z hw116 bw113 kw113 .double (6 : Int32) [(.double (FP.i2d w1_c2_a0_v7)), (.double (FP.i2d w1_c9_a1_v7)), (.double (FP.i2d w1_c16_a2_v7)), (.double 0), (.double 0), (.double 0)] (.double 0) := Vw116
  have Nw116 := Fr.snoc Xw116 Nw115 g_bw113
  obtain ⟨Tw117, hw117, Xw117, ew117, Ww117, Vw117, stw117⟩ := own_stD (L := #[.val (.long p0), .second, .val (.long p1), .second, .val (.int p2), .val (.int w1_c2_a0_v7), .val (.int w1_c9_a1_v7), .val (.int w1_c16_a2_v7), .val (.int w1_c23_a3_v7), .val (.int w1_c30_a4_v7), .val (.int w1_c37_a5_v7), .val (.int w1_c44_a0_v7), .val (.int w1_c51_a1_v7), .val (.int w1_c58_a2_v7), .val (.int w1_c65_a3_v7), .val (.int w1_c72_a4_v7), .val (.int w1_c79_a5_v7), .unset, .unset, .unset, .unset]) (S := [(.ref bw113)]) Xw116 hx hZ ew116 V_bw113_w116 (j := (3 : Int32)) (x := (FP.i2d w1_c23_a3_v7)) (by decide) 3 (by decide) (Nat.le_of_ble_eq_true rfl) (hb hby at_111) (pc' := 112) rfl
  have Zw117 : n0 ≤ hw117.size := Nat.le_trans Zw116 (Nat.le_of_eq Ww117.size.symm)
  have KKw117 := KKw116.wr Ww117 (Or.inr sz_bw113)
  have V_bw113_w117 : Arv Z hw117 bw113 kw113 .double (6 : Int32) [(.double (FP.i2d w1_c2_a0_v7)), (.double (FP.i2d w1_c9_a1_v7)), (.double (FP.i2d w1_c16_a2_v7)), (.double (FP.i2d w1_c23_a3_v7)), (.double 0), (.double 0)] (.double 0) := Vw117
  have Nw117 := Fr.snoc Xw117 Nw116 g_bw113
  obtain ⟨Tw118, hw118, Xw118, ew118, Ww118, Vw118, stw118⟩ := own_stD (L := #[.val (.long p0), .second, .val (.long p1), .second, .val (.int p2), .val (.int w1_c2_a0_v7), .val (.int w1_c9_a1_v7), .val (.int w1_c16_a2_v7), .val (.int w1_c23_a3_v7), .val (.int w1_c30_a4_v7), .val (.int w1_c37_a5_v7), .val (.int w1_c44_a0_v7), .val (.int w1_c51_a1_v7), .val (.int w1_c58_a2_v7), .val (.int w1_c65_a3_v7), .val (.int w1_c72_a4_v7), .val (.int w1_c79_a5_v7), .unset, .unset, .unset, .unset]) (S := [(.ref bw113)]) Xw117 hx hZ ew117 V_bw113_w117 (j := (4 : Int32)) (x := (FP.i2d w1_c30_a4_v7)) (by decide) 4 (by decide) (Nat.le_of_ble_eq_true rfl) (hb hby at_117) (pc' := 118) rfl
  have Zw118 : n0 ≤ hw118.size := Nat.le_trans Zw117 (Nat.le_of_eq Ww118.size.symm)
  have KKw118 := KKw117.wr Ww118 (Or.inr sz_bw113)
  have V_bw113_w118 : Arv Z hw118 bw113 kw113 .double (6 : Int32) [(.double (FP.i2d w1_c2_a0_v7)), (.double (FP.i2d w1_c9_a1_v7)), (.double (FP.i2d w1_c16_a2_v7)), (.double (FP.i2d w1_c23_a3_v7)), (.double (FP.i2d w1_c30_a4_v7)), (.double 0)] (.double 0) := Vw118
  have Nw118 := Fr.snoc Xw118 Nw117 g_bw113
  obtain ⟨Tw119, hw119, Xw119, ew119, Ww119, Vw119, stw119⟩ := own_stD (L := #[.val (.long p0), .second, .val (.long p1), .second, .val (.int p2), .val (.int w1_c2_a0_v7), .val (.int w1_c9_a1_v7), .val (.int w1_c16_a2_v7), .val (.int w1_c23_a3_v7), .val (.int w1_c30_a4_v7), .val (.int w1_c37_a5_v7), .val (.int w1_c44_a0_v7), .val (.int w1_c51_a1_v7), .val (.int w1_c58_a2_v7), .val (.int w1_c65_a3_v7), .val (.int w1_c72_a4_v7), .val (.int w1_c79_a5_v7), .unset, .unset, .unset, .unset]) (S := [(.ref bw113)]) Xw118 hx hZ ew118 V_bw113_w118 (j := (5 : Int32)) (x := (FP.i2d w1_c37_a5_v7)) (by decide) 5 (by decide) (Nat.le_of_ble_eq_true rfl) (hb hby at_123) (pc' := 124) rfl
  have Zw119 : n0 ≤ hw119.size := Nat.le_trans Zw118 (Nat.le_of_eq Ww119.size.symm)
  have KKw119 := KKw118.wr Ww119 (Or.inr sz_bw113)
  have V_bw113_w119 : Arv Z hw119 bw113 kw113 .double (6 : Int32) [(.double (FP.i2d w1_c2_a0_v7)), (.double (FP.i2d w1_c9_a1_v7)), (.double (FP.i2d w1_c16_a2_v7)), (.double (FP.i2d w1_c23_a3_v7)), (.double (FP.i2d w1_c30_a4_v7)), (.double (FP.i2d w1_c37_a5_v7))] (.double 0) := Vw119
  have Nw119 := Fr.snoc Xw119 Nw118 g_bw113
  obtain ⟨Tw120, hw120, kw120, bw120, Xw120, ew120, Ew120, Gw120, Vw120, stw120⟩ := own_newD (L := #[.val (.long p0), .second, .val (.long p1), .second, .val (.int p2), .val (.int w1_c2_a0_v7), .val (.int w1_c9_a1_v7), .val (.int w1_c16_a2_v7), .val (.int w1_c23_a3_v7), .val (.int w1_c30_a4_v7), .val (.int w1_c37_a5_v7), .val (.int w1_c44_a0_v7), .val (.int w1_c51_a1_v7), .val (.int w1_c58_a2_v7), .val (.int w1_c65_a3_v7), .val (.int w1_c72_a4_v7), .val (.int w1_c79_a5_v7), .val (.ref bw113), .unset, .unset, .unset]) (S := []) Xw119 hx hZ (hw _ (List.mem_of_getElem? (i := 4) rfl)) ew119 (z := (6 : Int32)) 6 (by decide) (by decide) (by decide) (by decide) (by decide) (hb hby at_128) (pc' := 130) rfl
  have ne_bw113_bw120 : bw113 ≠ bw120 := Nat.ne_of_lt (Nat.lt_of_lt_of_le V_bw113_w119.lt (Nat.le_of_eq Gw120.symm))
  have ne_bw120_bw113 : bw120 ≠ bw113 := Ne.symm ne_bw113_bw120
  have g_bw120 : n0 ≤ bw120 := Nat.le_trans Zw119 (Nat.le_of_eq Gw120.symm)
  have sz_bw120 : h0.size ≤ bw120 := Nat.le_trans KKw119.1 (Nat.le_of_eq Gw120.symm)
  have V_bw113_w120 := V_bw113_w119.ext Ew120
  have Zw120 : n0 ≤ hw120.size := Nat.le_trans Zw119 Ew120.1
  have KKw120 := KKw119.ext Ew120
  have V_bw120 : Arv Z hw120 bw120 kw120 .double (6 : Int32) [(.double 0), (.double 0), (.double 0), (.double 0), (.double 0), (.double 0)] (.double 0) := Vw120
  obtain ⟨Tw121, hw121, Xw121, ew121, Ww121, Vw121, stw121⟩ := own_stD (L := #[.val (.long p0), .second, .val (.long p1), .second, .val (.int p2), .val (.int w1_c2_a0_v7), .val (.int w1_c9_a1_v7), .val (.int w1_c16_a2_v7), .val (.int w1_c23_a3_v7), .val (.int w1_c30_a4_v7), .val (.int w1_c37_a5_v7), .val (.int w1_c44_a0_v7), .val (.int w1_c51_a1_v7), .val (.int w1_c58_a2_v7), .val (.int w1_c65_a3_v7), .val (.int w1_c72_a4_v7), .val (.int w1_c79_a5_v7), .val (.ref bw113), .unset, .unset, .unset]) (S := [(.ref bw120)]) Xw120 hx hZ ew120 V_bw120 (j := (0 : Int32)) (x := (FP.i2d w1_c44_a0_v7)) (by decide) 0 (by decide) (Nat.le_of_ble_eq_true rfl) (hb hby at_135) (pc' := 136) rfl
  have V_bw113_w121 := V_bw113_w120.other Ww121 ne_bw113_bw120
  have Zw121 : n0 ≤ hw121.size := Nat.le_trans Zw120 (Nat.le_of_eq Ww121.size.symm)
  have KKw121 := KKw120.wr Ww121 (Or.inr sz_bw120)
  have V_bw120_w121 : Arv Z hw121 bw120 kw120 .double (6 : Int32) [(.double (FP.i2d w1_c44_a0_v7)), (.double 0), (.double 0), (.double 0), (.double 0), (.double 0)] (.double 0) := Vw121
  have Nw121 := Fr.snoc Xw121 Nw119 g_bw120
  obtain ⟨Tw122, hw122, Xw122, ew122, Ww122, Vw122, stw122⟩ := own_stD (L := #[.val (.long p0), .second, .val (.long p1), .second, .val (.int p2), .val (.int w1_c2_a0_v7), .val (.int w1_c9_a1_v7), .val (.int w1_c16_a2_v7), .val (.int w1_c23_a3_v7), .val (.int w1_c30_a4_v7), .val (.int w1_c37_a5_v7), .val (.int w1_c44_a0_v7), .val (.int w1_c51_a1_v7), .val (.int w1_c58_a2_v7), .val (.int w1_c65_a3_v7), .val (.int w1_c72_a4_v7), .val (.int w1_c79_a5_v7), .val (.ref bw113), .unset, .unset, .unset]) (S := [(.ref bw120)]) Xw121 hx hZ ew121 V_bw120_w121 (j := (1 : Int32)) (x := (FP.i2d w1_c51_a1_v7)) (by decide) 1 (by decide) (Nat.le_of_ble_eq_true rfl) (hb hby at_141) (pc' := 142) rfl
  have V_bw113_w122 := V_bw113_w121.other Ww122 ne_bw113_bw120
  have Zw122 : n0 ≤ hw122.size := Nat.le_trans Zw121 (Nat.le_of_eq Ww122.size.symm)
  have KKw122 := KKw121.wr Ww122 (Or.inr sz_bw120)
  have V_bw120_w122 : Arv Z hw122 bw120 kw120 .double (6 : Int32) [(.double (FP.i2d w1_c44_a0_v7)), (.double (FP.i2d w1_c51_a1_v7)), (.double 0), (.double 0), (.double 0), (.double 0)] (.double 0) := Vw122
  have Nw122 := Fr.snoc Xw122 Nw121 g_bw120
  obtain ⟨Tw123, hw123, Xw123, ew123, Ww123, Vw123, stw123⟩ := own_stD (L := #[.val (.long p0), .second, .val (.long p1), .second, .val (.int p2), .val (.int w1_c2_a0_v7), .val (.int w1_c9_a1_v7), .val (.int w1_c16_a2_v7), .val (.int w1_c23_a3_v7), .val (.int w1_c30_a4_v7), .val (.int w1_c37_a5_v7), .val (.int w1_c44_a0_v7), .val (.int w1_c51_a1_v7), .val (.int w1_c58_a2_v7), .val (.int w1_c65_a3_v7), .val (.int w1_c72_a4_v7), .val (.int w1_c79_a5_v7), .val (.ref bw113), .unset, .unset, .unset]) (S := [(.ref bw120)]) Xw122 hx hZ ew122 V_bw120_w122 (j := (2 : Int32)) (x := (FP.i2d w1_c58_a2_v7)) (by decide) 2 (by decide) (Nat.le_of_ble_eq_true rfl) (hb hby at_147) (pc' := 148) rfl
  have V_bw113_w123 := V_bw113_w122.other Ww123 ne_bw113_bw120
  have Zw123 : n0 ≤ hw123.size := Nat.le_trans Zw122 (Nat.le_of_eq Ww123.size.symm)
  have KKw123 := KKw122.wr Ww123 (Or.inr sz_bw120)
  have V_bw120_w123 : Arv Z hw123 bw120 kw120 .double (6 : Int32) [(.double (FP.i2d w1_c44_a0_v7)), (.double (FP.i2d w1_c51_a1_v7)), (.double (FP.i2d w1_c58_a2_v7)), (.double 0), (.double 0), (.double 0)] (.double 0) := Vw123
  have Nw123 := Fr.snoc Xw123 Nw122 g_bw120
  obtain ⟨Tw124, hw124, Xw124, ew124, Ww124, Vw124, stw124⟩ := own_stD (L := #[.val (.long p0), .second, .val (.long p1), .second, .val (.int p2), .val (.int w1_c2_a0_v7), .val (.int w1_c9_a1_v7), .val (.int w1_c16_a2_v7), .val (.int w1_c23_a3_v7), .val (.int w1_c30_a4_v7), .val (.int w1_c37_a5_v7), .val (.int w1_c44_a0_v7), .val (.int w1_c51_a1_v7), .val (.int w1_c58_a2_v7), .val (.int w1_c65_a3_v7), .val (.int w1_c72_a4_v7), .val (.int w1_c79_a5_v7), .val (.ref bw113), .unset, .unset, .unset]) (S := [(.ref bw120)]) Xw123 hx hZ ew123 V_bw120_w123 (j := (3 : Int32)) (x := (FP.i2d w1_c65_a3_v7)) (by decide) 3 (by decide) (Nat.le_of_ble_eq_true rfl) (hb hby at_153) (pc' := 154) rfl
  have V_bw113_w124 := V_bw113_w123.other Ww124 ne_bw113_bw120
  have Zw124 : n0 ≤ hw124.size := Nat.le_trans Zw123 (Nat.le_of_eq Ww124.size.symm)
  have KKw124 := KKw123.wr Ww124 (Or.inr sz_bw120)
  have V_bw120_w124 : Arv Z hw124 bw120 kw120 .double (6 : Int32) [(.double (FP.i2d w1_c44_a0_v7)), (.double (FP.i2d w1_c51_a1_v7)), (.double (FP.i2d w1_c58_a2_v7)), (.double (FP.i2d w1_c65_a3_v7)), (.double 0), (.double 0)] (.double 0) := Vw124
  have Nw124 := Fr.snoc Xw124 Nw123 g_bw120
  obtain ⟨Tw125, hw125, Xw125, ew125, Ww125, Vw125, stw125⟩ := own_stD (L := #[.val (.long p0), .second, .val (.long p1), .second, .val (.int p2), .val (.int w1_c2_a0_v7), .val (.int w1_c9_a1_v7), .val (.int w1_c16_a2_v7), .val (.int w1_c23_a3_v7), .val (.int w1_c30_a4_v7), .val (.int w1_c37_a5_v7), .val (.int w1_c44_a0_v7), .val (.int w1_c51_a1_v7), .val (.int w1_c58_a2_v7), .val (.int w1_c65_a3_v7), .val (.int w1_c72_a4_v7), .val (.int w1_c79_a5_v7), .val (.ref bw113), .unset, .unset, .unset]) (S := [(.ref bw120)]) Xw124 hx hZ ew124 V_bw120_w124 (j := (4 : Int32)) (x := (FP.i2d w1_c72_a4_v7)) (by decide) 4 (by decide) (Nat.le_of_ble_eq_true rfl) (hb hby at_159) (pc' := 160) rfl
  have V_bw113_w125 := V_bw113_w124.other Ww125 ne_bw113_bw120
  have Zw125 : n0 ≤ hw125.size := Nat.le_trans Zw124 (Nat.le_of_eq Ww125.size.symm)
  have KKw125 := KKw124.wr Ww125 (Or.inr sz_bw120)
  have V_bw120_w125 : Arv Z hw125 bw120 kw120 .double (6 : Int32) [(.double (FP.i2d w1_c44_a0_v7)), (.double (FP.i2d w1_c51_a1_v7)), (.double (FP.i2d w1_c58_a2_v7)), (.double (FP.i2d w1_c65_a3_v7)), (.double (FP.i2d w1_c72_a4_v7)), (.double 0)] (.double 0) := Vw125
  have Nw125 := Fr.snoc Xw125 Nw124 g_bw120
  obtain ⟨Tw126, hw126, Xw126, ew126, Ww126, Vw126, stw126⟩ := own_stD (L := #[.val (.long p0), .second, .val (.long p1), .second, .val (.int p2), .val (.int w1_c2_a0_v7), .val (.int w1_c9_a1_v7), .val (.int w1_c16_a2_v7), .val (.int w1_c23_a3_v7), .val (.int w1_c30_a4_v7), .val (.int w1_c37_a5_v7), .val (.int w1_c44_a0_v7), .val (.int w1_c51_a1_v7), .val (.int w1_c58_a2_v7), .val (.int w1_c65_a3_v7), .val (.int w1_c72_a4_v7), .val (.int w1_c79_a5_v7), .val (.ref bw113), .unset, .unset, .unset]) (S := [(.ref bw120)]) Xw125 hx hZ ew125 V_bw120_w125 (j := (5 : Int32)) (x := (FP.i2d w1_c79_a5_v7)) (by decide) 5 (by decide) (Nat.le_of_ble_eq_true rfl) (hb hby at_165) (pc' := 166) rfl
  have V_bw113_w126 := V_bw113_w125.other Ww126 ne_bw113_bw120
  have Zw126 : n0 ≤ hw126.size := Nat.le_trans Zw125 (Nat.le_of_eq Ww126.size.symm)
  have KKw126 := KKw125.wr Ww126 (Or.inr sz_bw120)
  have V_bw120_w126 : Arv Z hw126 bw120 kw120 .double (6 : Int32) [(.double (FP.i2d w1_c44_a0_v7)), (.double (FP.i2d w1_c51_a1_v7)), (.double (FP.i2d w1_c58_a2_v7)), (.double (FP.i2d w1_c65_a3_v7)), (.double (FP.i2d w1_c72_a4_v7)), (.double (FP.i2d w1_c79_a5_v7))] (.double 0) := Vw126
  have Nw126 := Fr.snoc Xw126 Nw125 g_bw120
  obtain ⟨_, _, ⟨Tw127, Lw127, kw127, nw127⟩, -, Xw127, ⟨Lcw127, hQw127, lw127, yw127, zw127⟩, stw127⟩ := Jvm.LawKit.callS Xw126 hx (y := (⟨"com/example/pintrinsic/pintrinsic/Matrices", "product", "([D[DI)[D"⟩ : MethodName)) hown (mvT hZ (hw _ (List.mem_of_getElem? (i := 6) rfl))) (mvT hZ (hw _ (List.mem_of_getElem? (i := 7) rfl))) (mvT hZ (hw _ (List.mem_of_getElem? (i := 8) rfl))) (mvT hZ (hw _ (List.mem_of_getElem? (i := 9) rfl))) (by decide) (backOf (W := 0) (own_rm_c1 l Z a0 hw [] bw113 (FP.i2d w1_c2_a0_v7) (FP.i2d w1_c9_a1_v7) (FP.i2d w1_c16_a2_v7) (FP.i2d w1_c23_a3_v7) (FP.i2d w1_c30_a4_v7) (FP.i2d w1_c37_a5_v7) bw120 (FP.i2d w1_c44_a0_v7) (FP.i2d w1_c51_a1_v7) (FP.i2d w1_c58_a2_v7) (FP.i2d w1_c65_a3_v7) (FP.i2d w1_c72_a4_v7) (FP.i2d w1_c79_a5_v7) hw126 n0 Zw126 V_bw113_w126 V_bw120_w126 w1_c411_c1_hn71 w1_c411_c1_hv71 w1_c411_c1_hn72 w1_c411_c1_hv72 w1_c411_c1_hn71_2 w1_c411_c1_hv71_2 w1_c411_c1_hn72_2 w1_c411_c1_hv72_2 w1_c411_c1_hn71_3 w1_c411_c1_hv71_3 w1_c411_c1_hn72_3 w1_c411_c1_hv72_3 w1_c411_c1_hn71_4 w1_c411_c1_hv71_4 w1_c411_c1_hn72_4 w1_c411_c1_hv72_4 w1_c411_c1_hn71_5 w1_c411_c1_hv71_5 w1_c411_c1_hn72_5 w1_c411_c1_hv72_5 w1_c411_c1_hn71_6 w1_c411_c1_hv71_6 w1_c411_c1_hn72_6 w1_c411_c1_hv72_6 w1_c411_c1_hn71_7 w1_c411_c1_hv71_7 w1_c411_c1_hn72_7 w1_c411_c1_hv72_7 w1_c411_c1_hn71_8 w1_c411_c1_hv71_8 w1_c411_c1_hn72_8 w1_c411_c1_hv72_8 w1_c411_c1_hn71_9 w1_c411_c1_hv71_9 w1_c411_c1_hn72_9 w1_c411_c1_hv72_9 w1_c411_c1_hn71_10 w1_c411_c1_hv71_10 w1_c411_c1_hn72_10 w1_c411_c1_hv72_10 w1_c411_c1_hn71_11 w1_c411_c1_hv71_11 w1_c411_c1_hn72_11 w1_c411_c1_hv72_11 w1_c411_c1_hn71_12 w1_c411_c1_hv71_12 w1_c411_c1_hn72_12 w1_c411_c1_hv72_12) hZ (hw _ (List.mem_of_getElem? (i := 9) rfl)) (hw _ (List.mem_of_getElem? (i := 8) rfl)) (by decide) (by decide)) (g := (mkF m 411 #[.val (.long p0), .second, .val (.long p1), .second, .val (.int p2), .val (.int w1_c2_a0_v7), .val (.int w1_c9_a1_v7), .val (.int w1_c16_a2_v7), .val (.int w1_c23_a3_v7), .val (.int w1_c30_a4_v7), .val (.int w1_c37_a5_v7), .val (.int w1_c44_a0_v7), .val (.int w1_c51_a1_v7), .val (.int w1_c58_a2_v7), .val (.int w1_c65_a3_v7), .val (.int w1_c72_a4_v7), .val (.int w1_c79_a5_v7), .val (.ref bw113), .val (.ref bw120), .val (.int (1 : Int32)), .unset] [(.int (3 : Int32)), (.ref bw120), (.ref bw113)])) rfl (by rw [hml]; rfl) (argsL := [(.ref bw113), (.ref bw120), (.int (3 : Int32))]) (rest := []) (lenOf own_pd_285bD5bDI295bD rfl) rfl (by show 2 * 0 + _ ≤ _; exact Nat.le_of_eq rfl) (hb hby at_411) (fun _ _ => ⟨rfl, ew126, (by decide : 2 + 1 ≤ _), (by decide : 12 + 4 ≤ _)⟩)
  dsimp only [Pt.U, Pt.locs, Pt.cells, Pt.slots] at Xw127 lw127 yw127 zw127 stw127 hQw127
  rw [lw127, yw127, zw127] at Xw127
  obtain ⟨bw127, kw127a, rfl, Nw127q, Kw127, Gw127, qw127_0⟩ := hQw127
  have ne_bw113_bw127 : bw113 ≠ bw127 := Nat.ne_of_lt (Nat.lt_of_lt_of_le V_bw113_w126.lt Gw127)
  have ne_bw127_bw113 : bw127 ≠ bw113 := Ne.symm ne_bw113_bw127
  have ne_bw120_bw127 : bw120 ≠ bw127 := Nat.ne_of_lt (Nat.lt_of_lt_of_le V_bw120_w126.lt Gw127)
  have ne_bw127_bw120 : bw127 ≠ bw120 := Ne.symm ne_bw120_bw127
  have g_bw127 : n0 ≤ bw127 := Nat.le_trans Zw126 Gw127
  have sz_bw127 : h0.size ≤ bw127 := Nat.le_trans KKw126.1 Gw127
  have V_bw113_w127 := V_bw113_w126.keep Kw127 (List.not_mem_nil)
  have V_bw120_w127 := V_bw120_w126.keep Kw127 (List.not_mem_nil)
  have Zw127 : n0 ≤ Tw127.heap.size := Nat.le_trans Zw126 Kw127.1
  have KKw127 := KKw126.trans Kw127 (fun _ q => nomatch q)
  have Nw127 := Fr.app Nw126 Nw127q
  obtain ⟨_, _, ⟨Tw128, Lw128, kw128, nw128⟩, -, Xw128, ⟨Lcw128, hQw128, lw128, yw128, zw128⟩, stw128⟩ := Jvm.LawKit.callS Xw127 hx (y := (⟨"com/example/pintrinsic/pintrinsic/MatricesProductPinLaw", "same", "(DI)Z"⟩ : MethodName)) hown (mvT hZ (hw _ (List.mem_of_getElem? (i := 10) rfl))) (mvT hZ (hw _ (List.mem_of_getElem? (i := 11) rfl))) (mvT hZ (hw _ (List.mem_of_getElem? (i := 2) rfl))) (mvT hZ (hw _ (List.mem_of_getElem? (i := 12) rfl))) (by decide) (backOf (W := 0) (own_rm_same l Z a0 hw [] w1_c411_c1_v72_3 w1_v445 Tw127.heap n0 Zw127 w1_c446_same_h1 w1_c446_same_h2) hZ (hw _ (List.mem_of_getElem? (i := 12) rfl)) (hw _ (List.mem_of_getElem? (i := 2) rfl)) (by decide) (by decide)) (g := (mkF m 446 #[.val (.long p0), .second, .val (.long p1), .second, .val (.int p2), .val (.int w1_c2_a0_v7), .val (.int w1_c9_a1_v7), .val (.int w1_c16_a2_v7), .val (.int w1_c23_a3_v7), .val (.int w1_c30_a4_v7), .val (.int w1_c37_a5_v7), .val (.int w1_c44_a0_v7), .val (.int w1_c51_a1_v7), .val (.int w1_c58_a2_v7), .val (.int w1_c65_a3_v7), .val (.int w1_c72_a4_v7), .val (.int w1_c79_a5_v7), .val (.ref bw113), .val (.ref bw120), .val (.int (1 : Int32)), .val (.ref bw127)] [(.int w1_v445), (.double w1_c411_c1_v72_3)])) rfl (by rw [hml]; rfl) (argsL := [(.double w1_c411_c1_v72_3), (.int w1_v445)]) (rest := []) (lenOf own_pd_28DI29Z rfl) rfl (by show 2 * 0 + _ ≤ _; exact Nat.le_of_eq rfl) (hb hby at_446) (fun _ _ => ⟨rfl, rfl, (by decide : 3 + 0 ≤ _), (by decide : 16 + 0 ≤ _)⟩)
  dsimp only [Pt.U, Pt.locs, Pt.cells, Pt.slots] at Xw128 lw128 yw128 zw128 stw128 hQw128
  rw [lw128, yw128, zw128] at Xw128
  obtain ⟨rfl, Nw128q, ew128⟩ := hQw128
  have Nw128 := Fr.app Nw127 Nw128q
  obtain ⟨_, _, ⟨Tw129, Lw129, kw129, nw129⟩, -, Xw129, ⟨Lcw129, hQw129, lw129, yw129, zw129⟩, stw129⟩ := Jvm.LawKit.callS Xw128 hx (y := (⟨"com/example/pintrinsic/pintrinsic/MatricesProductPinLaw", "same", "(DI)Z"⟩ : MethodName)) hown (mvT hZ (hw _ (List.mem_of_getElem? (i := 10) rfl))) (mvT hZ (hw _ (List.mem_of_getElem? (i := 11) rfl))) (mvT hZ (hw _ (List.mem_of_getElem? (i := 2) rfl))) (mvT hZ (hw _ (List.mem_of_getElem? (i := 12) rfl))) (by decide) (backOf (W := 0) (own_rm_same l Z a0 hw [] w1_c411_c1_v72_6 w1_v472 Tw127.heap n0 Zw127 w1_c473_same_h1 w1_c473_same_h2) hZ (hw _ (List.mem_of_getElem? (i := 12) rfl)) (hw _ (List.mem_of_getElem? (i := 2) rfl)) (by decide) (by decide)) (g := (mkF m 473 #[.val (.long p0), .second, .val (.long p1), .second, .val (.int p2), .val (.int w1_c2_a0_v7), .val (.int w1_c9_a1_v7), .val (.int w1_c16_a2_v7), .val (.int w1_c23_a3_v7), .val (.int w1_c30_a4_v7), .val (.int w1_c37_a5_v7), .val (.int w1_c44_a0_v7), .val (.int w1_c51_a1_v7), .val (.int w1_c58_a2_v7), .val (.int w1_c65_a3_v7), .val (.int w1_c72_a4_v7), .val (.int w1_c79_a5_v7), .val (.ref bw113), .val (.ref bw120), .val (.int (1 : Int32)), .val (.ref bw127)] [(.int w1_v472), (.double w1_c411_c1_v72_6)])) rfl (by rw [hml]; rfl) (argsL := [(.double w1_c411_c1_v72_6), (.int w1_v472)]) (rest := []) (lenOf own_pd_28DI29Z rfl) rfl (by show 2 * 0 + _ ≤ _; exact Nat.le_of_eq rfl) (hb hby at_473) (fun _ _ => ⟨rfl, ew128, (by decide : 3 + 0 ≤ _), (by decide : 16 + 0 ≤ _)⟩)
  dsimp only [Pt.U, Pt.locs, Pt.cells, Pt.slots] at Xw129 lw129 yw129 zw129 stw129 hQw129
  rw [lw129, yw129, zw129] at Xw129
  obtain ⟨rfl, Nw129q, ew129⟩ := hQw129
  have Nw129 := Fr.app Nw128 Nw129q
  obtain ⟨_, _, ⟨Tw130, Lw130, kw130, nw130⟩, -, Xw130, ⟨Lcw130, hQw130, lw130, yw130, zw130⟩, stw130⟩ := Jvm.LawKit.callS Xw129 hx (y := (⟨"com/example/pintrinsic/pintrinsic/MatricesProductPinLaw", "same", "(DI)Z"⟩ : MethodName)) hown (mvT hZ (hw _ (List.mem_of_getElem? (i := 10) rfl))) (mvT hZ (hw _ (List.mem_of_getElem? (i := 11) rfl))) (mvT hZ (hw _ (List.mem_of_getElem? (i := 2) rfl))) (mvT hZ (hw _ (List.mem_of_getElem? (i := 12) rfl))) (by decide) (backOf (W := 0) (own_rm_same l Z a0 hw [] w1_c411_c1_v72_9 w1_v499 Tw127.heap n0 Zw127 w1_c500_same_h1 w1_c500_same_h2) hZ (hw _ (List.mem_of_getElem? (i := 12) rfl)) (hw _ (List.mem_of_getElem? (i := 2) rfl)) (by decide) (by decide)) (g := (mkF m 500 #[.val (.long p0), .second, .val (.long p1), .second, .val (.int p2), .val (.int w1_c2_a0_v7), .val (.int w1_c9_a1_v7), .val (.int w1_c16_a2_v7), .val (.int w1_c23_a3_v7), .val (.int w1_c30_a4_v7), .val (.int w1_c37_a5_v7), .val (.int w1_c44_a0_v7), .val (.int w1_c51_a1_v7), .val (.int w1_c58_a2_v7), .val (.int w1_c65_a3_v7), .val (.int w1_c72_a4_v7), .val (.int w1_c79_a5_v7), .val (.ref bw113), .val (.ref bw120), .val (.int (1 : Int32)), .val (.ref bw127)] [(.int w1_v499), (.double w1_c411_c1_v72_9)])) rfl (by rw [hml]; rfl) (argsL := [(.double w1_c411_c1_v72_9), (.int w1_v499)]) (rest := []) (lenOf own_pd_28DI29Z rfl) rfl (by show 2 * 0 + _ ≤ _; exact Nat.le_of_eq rfl) (hb hby at_500) (fun _ _ => ⟨rfl, ew129, (by decide : 3 + 0 ≤ _), (by decide : 16 + 0 ≤ _)⟩)
  dsimp only [Pt.U, Pt.locs, Pt.cells, Pt.slots] at Xw130 lw130 yw130 zw130 stw130 hQw130
  rw [lw130, yw130, zw130] at Xw130
  obtain ⟨rfl, Nw130q, ew130⟩ := hQw130
  have Nw130 := Fr.app Nw129 Nw130q
  obtain ⟨_, _, ⟨Tw131, Lw131, kw131, nw131⟩, -, Xw131, ⟨Lcw131, hQw131, lw131, yw131, zw131⟩, stw131⟩ := Jvm.LawKit.callS Xw130 hx (y := (⟨"com/example/pintrinsic/pintrinsic/MatricesProductPinLaw", "same", "(DI)Z"⟩ : MethodName)) hown (mvT hZ (hw _ (List.mem_of_getElem? (i := 10) rfl))) (mvT hZ (hw _ (List.mem_of_getElem? (i := 11) rfl))) (mvT hZ (hw _ (List.mem_of_getElem? (i := 2) rfl))) (mvT hZ (hw _ (List.mem_of_getElem? (i := 12) rfl))) (by decide) (backOf (W := 0) (own_rm_same l Z a0 hw [] w1_c411_c1_v72_12 w1_v526 Tw127.heap n0 Zw127 w1_c527_same_h1 w1_c527_same_h2) hZ (hw _ (List.mem_of_getElem? (i := 12) rfl)) (hw _ (List.mem_of_getElem? (i := 2) rfl)) (by decide) (by decide)) (g := (mkF m 527 #[.val (.long p0), .second, .val (.long p1), .second, .val (.int p2), .val (.int w1_c2_a0_v7), .val (.int w1_c9_a1_v7), .val (.int w1_c16_a2_v7), .val (.int w1_c23_a3_v7), .val (.int w1_c30_a4_v7), .val (.int w1_c37_a5_v7), .val (.int w1_c44_a0_v7), .val (.int w1_c51_a1_v7), .val (.int w1_c58_a2_v7), .val (.int w1_c65_a3_v7), .val (.int w1_c72_a4_v7), .val (.int w1_c79_a5_v7), .val (.ref bw113), .val (.ref bw120), .val (.int (1 : Int32)), .val (.ref bw127)] [(.int w1_v526), (.double w1_c411_c1_v72_12)])) rfl (by rw [hml]; rfl) (argsL := [(.double w1_c411_c1_v72_12), (.int w1_v526)]) (rest := []) (lenOf own_pd_28DI29Z rfl) rfl (by show 2 * 0 + _ ≤ _; exact Nat.le_of_eq rfl) (hb hby at_527) (fun _ _ => ⟨rfl, ew130, (by decide : 3 + 0 ≤ _), (by decide : 16 + 0 ≤ _)⟩)
  dsimp only [Pt.U, Pt.locs, Pt.cells, Pt.slots] at Xw131 lw131 yw131 zw131 stw131 hQw131
  rw [lw131, yw131, zw131] at Xw131
  obtain ⟨rfl, Nw131q, ew131⟩ := hQw131
  have Nw131 := Fr.app Nw130 Nw131q
  obtain ⟨fs, hr, hrun, hended, hW, hsame⟩ := Xw131.leave (v := some (.int (1 : Int32))) (fun h => by rw [Bd.returns] at h; cases h)
  refine ⟨_, _, pre0 _ ?_, hrun, hended, _, _, rfl, ?_, ⟨_, rfl⟩, hW, hsame.mono (by decide) (by decide)⟩
  · refine own_s_lloadN X0.here hx (hb hby at_0) (pc' := 1) rfl rfl ?_
    refine own_s_iconst X0.here hx (hb hby at_1) (pc' := 2) rfl (v := (0 : Int32)) (by decide) ?_
    refine stw11 _ ?_
    show Steps p.tables e below (Tw11.setTop (mkF m 5 #[.val (.long p0), .second, .val (.long p1), .second, .val (.int p2), .unset, .unset, .unset, .unset, .unset, .unset, .unset, .unset, .unset, .unset, .unset, .unset, .unset, .unset, .unset, .unset] [(.int w1_c2_a0_v7)])) _
    refine own_s_istore Xw11.here hx (hb hby at_5) (pc' := 7) rfl (L' := #[.val (.long p0), .second, .val (.long p1), .second, .val (.int p2), .val (.int w1_c2_a0_v7), .unset, .unset, .unset, .unset, .unset, .unset, .unset, .unset, .unset, .unset, .unset, .unset, .unset, .unset, .unset]) rfl ?_
    refine own_s_lloadN Xw11.here hx (hb hby at_7) (pc' := 8) rfl rfl ?_
    refine own_s_iconst Xw11.here hx (hb hby at_8) (pc' := 9) rfl (v := (1 : Int32)) (by decide) ?_
    refine stw12 _ ?_
    show Steps p.tables e below (Tw12.setTop (mkF m 12 #[.val (.long p0), .second, .val (.long p1), .second, .val (.int p2), .val (.int w1_c2_a0_v7), .unset, .unset, .unset, .unset, .unset, .unset, .unset, .unset, .unset, .unset, .unset, .unset, .unset, .unset, .unset] [(.int w1_c9_a1_v7)])) _
    refine own_s_istore Xw12.here hx (hb hby at_12) (pc' := 14) rfl (L' := #[.val (.long p0), .second, .val (.long p1), .second, .val (.int p2), .val (.int w1_c2_a0_v7), .val (.int w1_c9_a1_v7), .unset, .unset, .unset, .unset, .unset, .unset, .unset, .unset, .unset, .unset, .unset, .unset, .unset, .unset]) rfl ?_
    refine own_s_lloadN Xw12.here hx (hb hby at_14) (pc' := 15) rfl rfl ?_
    refine own_s_iconst Xw12.here hx (hb hby at_15) (pc' := 16) rfl (v := (2 : Int32)) (by decide) ?_
    refine stw13 _ ?_
    show Steps p.tables e below (Tw13.setTop (mkF m 19 #[.val (.long p0), .second, .val (.long p1), .second, .val (.int p2), .val (.int w1_c2_a0_v7), .val (.int w1_c9_a1_v7), .unset, .unset, .unset, .unset, .unset, .unset, .unset, .unset, .unset, .unset, .unset, .unset, .unset, .unset] [(.int w1_c16_a2_v7)])) _
    refine own_s_istore Xw13.here hx (hb hby at_19) (pc' := 21) rfl (L' := #[.val (.long p0), .second, .val (.long p1), .second, .val (.int p2), .val (.int w1_c2_a0_v7), .val (.int w1_c9_a1_v7), .val (.int w1_c16_a2_v7), .unset, .unset, .unset, .unset, .unset, .unset, .unset, .unset, .unset, .unset, .unset, .unset, .unset]) rfl ?_
    refine own_s_lloadN Xw13.here hx (hb hby at_21) (pc' := 22) rfl rfl ?_
    refine own_s_iconst Xw13.here hx (hb hby at_22) (pc' := 23) rfl (v := (3 : Int32)) (by decide) ?_
    refine stw14 _ ?_
    show Steps p.tables e below (Tw14.setTop (mkF m 26 #[.val (.long p0), .second, .val (.long p1), .second, .val (.int p2), .val (.int w1_c2_a0_v7), .val (.int w1_c9_a1_v7), .val (.int w1_c16_a2_v7), .unset, .unset, .unset, .unset, .unset, .unset, .unset, .unset, .unset, .unset, .unset, .unset, .unset] [(.int w1_c23_a3_v7)])) _
    refine own_s_istore Xw14.here hx (hb hby at_26) (pc' := 28) rfl (L' := #[.val (.long p0), .second, .val (.long p1), .second, .val (.int p2), .val (.int w1_c2_a0_v7), .val (.int w1_c9_a1_v7), .val (.int w1_c16_a2_v7), .val (.int w1_c23_a3_v7), .unset, .unset, .unset, .unset, .unset, .unset, .unset, .unset, .unset, .unset, .unset, .unset]) rfl ?_
    refine own_s_lloadN Xw14.here hx (hb hby at_28) (pc' := 29) rfl rfl ?_
    refine own_s_iconst Xw14.here hx (hb hby at_29) (pc' := 30) rfl (v := (4 : Int32)) (by decide) ?_
    refine stw15 _ ?_
    show Steps p.tables e below (Tw15.setTop (mkF m 33 #[.val (.long p0), .second, .val (.long p1), .second, .val (.int p2), .val (.int w1_c2_a0_v7), .val (.int w1_c9_a1_v7), .val (.int w1_c16_a2_v7), .val (.int w1_c23_a3_v7), .unset, .unset, .unset, .unset, .unset, .unset, .unset, .unset, .unset, .unset, .unset, .unset] [(.int w1_c30_a4_v7)])) _
    refine own_s_istore Xw15.here hx (hb hby at_33) (pc' := 35) rfl (L' := #[.val (.long p0), .second, .val (.long p1), .second, .val (.int p2), .val (.int w1_c2_a0_v7), .val (.int w1_c9_a1_v7), .val (.int w1_c16_a2_v7), .val (.int w1_c23_a3_v7), .val (.int w1_c30_a4_v7), .unset, .unset, .unset, .unset, .unset, .unset, .unset, .unset, .unset, .unset, .unset]) rfl ?_
    refine own_s_lloadN Xw15.here hx (hb hby at_35) (pc' := 36) rfl rfl ?_
    refine own_s_iconst Xw15.here hx (hb hby at_36) (pc' := 37) rfl (v := (5 : Int32)) (by decide) ?_
    refine stw16 _ ?_
    show Steps p.tables e below (Tw16.setTop (mkF m 40 #[.val (.long p0), .second, .val (.long p1), .second, .val (.int p2), .val (.int w1_c2_a0_v7), .val (.int w1_c9_a1_v7), .val (.int w1_c16_a2_v7), .val (.int w1_c23_a3_v7), .val (.int w1_c30_a4_v7), .unset, .unset, .unset, .unset, .unset, .unset, .unset, .unset, .unset, .unset, .unset] [(.int w1_c37_a5_v7)])) _
    refine own_s_istore Xw16.here hx (hb hby at_40) (pc' := 42) rfl (L' := #[.val (.long p0), .second, .val (.long p1), .second, .val (.int p2), .val (.int w1_c2_a0_v7), .val (.int w1_c9_a1_v7), .val (.int w1_c16_a2_v7), .val (.int w1_c23_a3_v7), .val (.int w1_c30_a4_v7), .val (.int w1_c37_a5_v7), .unset, .unset, .unset, .unset, .unset, .unset, .unset, .unset, .unset, .unset]) rfl ?_
    refine own_s_lloadN Xw16.here hx (hb hby at_42) (pc' := 43) rfl rfl ?_
    refine own_s_iconst Xw16.here hx (hb hby at_43) (pc' := 44) rfl (v := (0 : Int32)) (by decide) ?_
    refine stw17 _ ?_
    show Steps p.tables e below (Tw17.setTop (mkF m 47 #[.val (.long p0), .second, .val (.long p1), .second, .val (.int p2), .val (.int w1_c2_a0_v7), .val (.int w1_c9_a1_v7), .val (.int w1_c16_a2_v7), .val (.int w1_c23_a3_v7), .val (.int w1_c30_a4_v7), .val (.int w1_c37_a5_v7), .unset, .unset, .unset, .unset, .unset, .unset, .unset, .unset, .unset, .unset] [(.int w1_c44_a0_v7)])) _
    refine own_s_istore Xw17.here hx (hb hby at_47) (pc' := 49) rfl (L' := #[.val (.long p0), .second, .val (.long p1), .second, .val (.int p2), .val (.int w1_c2_a0_v7), .val (.int w1_c9_a1_v7), .val (.int w1_c16_a2_v7), .val (.int w1_c23_a3_v7), .val (.int w1_c30_a4_v7), .val (.int w1_c37_a5_v7), .val (.int w1_c44_a0_v7), .unset, .unset, .unset, .unset, .unset, .unset, .unset, .unset, .unset]) rfl ?_
    refine own_s_lloadN Xw17.here hx (hb hby at_49) (pc' := 50) rfl rfl ?_
    refine own_s_iconst Xw17.here hx (hb hby at_50) (pc' := 51) rfl (v := (1 : Int32)) (by decide) ?_
    refine stw18 _ ?_
    show Steps p.tables e below (Tw18.setTop (mkF m 54 #[.val (.long p0), .second, .val (.long p1), .second, .val (.int p2), .val (.int w1_c2_a0_v7), .val (.int w1_c9_a1_v7), .val (.int w1_c16_a2_v7), .val (.int w1_c23_a3_v7), .val (.int w1_c30_a4_v7), .val (.int w1_c37_a5_v7), .val (.int w1_c44_a0_v7), .unset, .unset, .unset, .unset, .unset, .unset, .unset, .unset, .unset] [(.int w1_c51_a1_v7)])) _
    refine own_s_istore Xw18.here hx (hb hby at_54) (pc' := 56) rfl (L' := #[.val (.long p0), .second, .val (.long p1), .second, .val (.int p2), .val (.int w1_c2_a0_v7), .val (.int w1_c9_a1_v7), .val (.int w1_c16_a2_v7), .val (.int w1_c23_a3_v7), .val (.int w1_c30_a4_v7), .val (.int w1_c37_a5_v7), .val (.int w1_c44_a0_v7), .val (.int w1_c51_a1_v7), .unset, .unset, .unset, .unset, .unset, .unset, .unset, .unset]) rfl ?_
    refine own_s_lloadN Xw18.here hx (hb hby at_56) (pc' := 57) rfl rfl ?_
    refine own_s_iconst Xw18.here hx (hb hby at_57) (pc' := 58) rfl (v := (2 : Int32)) (by decide) ?_
    refine stw19 _ ?_
    show Steps p.tables e below (Tw19.setTop (mkF m 61 #[.val (.long p0), .second, .val (.long p1), .second, .val (.int p2), .val (.int w1_c2_a0_v7), .val (.int w1_c9_a1_v7), .val (.int w1_c16_a2_v7), .val (.int w1_c23_a3_v7), .val (.int w1_c30_a4_v7), .val (.int w1_c37_a5_v7), .val (.int w1_c44_a0_v7), .val (.int w1_c51_a1_v7), .unset, .unset, .unset, .unset, .unset, .unset, .unset, .unset] [(.int w1_c58_a2_v7)])) _
    refine own_s_istore Xw19.here hx (hb hby at_61) (pc' := 63) rfl (L' := #[.val (.long p0), .second, .val (.long p1), .second, .val (.int p2), .val (.int w1_c2_a0_v7), .val (.int w1_c9_a1_v7), .val (.int w1_c16_a2_v7), .val (.int w1_c23_a3_v7), .val (.int w1_c30_a4_v7), .val (.int w1_c37_a5_v7), .val (.int w1_c44_a0_v7), .val (.int w1_c51_a1_v7), .val (.int w1_c58_a2_v7), .unset, .unset, .unset, .unset, .unset, .unset, .unset]) rfl ?_
    refine own_s_lloadN Xw19.here hx (hb hby at_63) (pc' := 64) rfl rfl ?_
    refine own_s_iconst Xw19.here hx (hb hby at_64) (pc' := 65) rfl (v := (3 : Int32)) (by decide) ?_
    refine stw110 _ ?_
    show Steps p.tables e below (Tw110.setTop (mkF m 68 #[.val (.long p0), .second, .val (.long p1), .second, .val (.int p2), .val (.int w1_c2_a0_v7), .val (.int w1_c9_a1_v7), .val (.int w1_c16_a2_v7), .val (.int w1_c23_a3_v7), .val (.int w1_c30_a4_v7), .val (.int w1_c37_a5_v7), .val (.int w1_c44_a0_v7), .val (.int w1_c51_a1_v7), .val (.int w1_c58_a2_v7), .unset, .unset, .unset, .unset, .unset, .unset, .unset] [(.int w1_c65_a3_v7)])) _
    refine own_s_istore Xw110.here hx (hb hby at_68) (pc' := 70) rfl (L' := #[.val (.long p0), .second, .val (.long p1), .second, .val (.int p2), .val (.int w1_c2_a0_v7), .val (.int w1_c9_a1_v7), .val (.int w1_c16_a2_v7), .val (.int w1_c23_a3_v7), .val (.int w1_c30_a4_v7), .val (.int w1_c37_a5_v7), .val (.int w1_c44_a0_v7), .val (.int w1_c51_a1_v7), .val (.int w1_c58_a2_v7), .val (.int w1_c65_a3_v7), .unset, .unset, .unset, .unset, .unset, .unset]) rfl ?_
    refine own_s_lloadN Xw110.here hx (hb hby at_70) (pc' := 71) rfl rfl ?_
    refine own_s_iconst Xw110.here hx (hb hby at_71) (pc' := 72) rfl (v := (4 : Int32)) (by decide) ?_
    refine stw111 _ ?_
    show Steps p.tables e below (Tw111.setTop (mkF m 75 #[.val (.long p0), .second, .val (.long p1), .second, .val (.int p2), .val (.int w1_c2_a0_v7), .val (.int w1_c9_a1_v7), .val (.int w1_c16_a2_v7), .val (.int w1_c23_a3_v7), .val (.int w1_c30_a4_v7), .val (.int w1_c37_a5_v7), .val (.int w1_c44_a0_v7), .val (.int w1_c51_a1_v7), .val (.int w1_c58_a2_v7), .val (.int w1_c65_a3_v7), .unset, .unset, .unset, .unset, .unset, .unset] [(.int w1_c72_a4_v7)])) _
    refine own_s_istore Xw111.here hx (hb hby at_75) (pc' := 77) rfl (L' := #[.val (.long p0), .second, .val (.long p1), .second, .val (.int p2), .val (.int w1_c2_a0_v7), .val (.int w1_c9_a1_v7), .val (.int w1_c16_a2_v7), .val (.int w1_c23_a3_v7), .val (.int w1_c30_a4_v7), .val (.int w1_c37_a5_v7), .val (.int w1_c44_a0_v7), .val (.int w1_c51_a1_v7), .val (.int w1_c58_a2_v7), .val (.int w1_c65_a3_v7), .val (.int w1_c72_a4_v7), .unset, .unset, .unset, .unset, .unset]) rfl ?_
    refine own_s_lloadN Xw111.here hx (hb hby at_77) (pc' := 78) rfl rfl ?_
    refine own_s_iconst Xw111.here hx (hb hby at_78) (pc' := 79) rfl (v := (5 : Int32)) (by decide) ?_
    refine stw112 _ ?_
    show Steps p.tables e below (Tw112.setTop (mkF m 82 #[.val (.long p0), .second, .val (.long p1), .second, .val (.int p2), .val (.int w1_c2_a0_v7), .val (.int w1_c9_a1_v7), .val (.int w1_c16_a2_v7), .val (.int w1_c23_a3_v7), .val (.int w1_c30_a4_v7), .val (.int w1_c37_a5_v7), .val (.int w1_c44_a0_v7), .val (.int w1_c51_a1_v7), .val (.int w1_c58_a2_v7), .val (.int w1_c65_a3_v7), .val (.int w1_c72_a4_v7), .unset, .unset, .unset, .unset, .unset] [(.int w1_c79_a5_v7)])) _
    refine own_s_istore Xw112.here hx (hb hby at_82) (pc' := 84) rfl (L' := #[.val (.long p0), .second, .val (.long p1), .second, .val (.int p2), .val (.int w1_c2_a0_v7), .val (.int w1_c9_a1_v7), .val (.int w1_c16_a2_v7), .val (.int w1_c23_a3_v7), .val (.int w1_c30_a4_v7), .val (.int w1_c37_a5_v7), .val (.int w1_c44_a0_v7), .val (.int w1_c51_a1_v7), .val (.int w1_c58_a2_v7), .val (.int w1_c65_a3_v7), .val (.int w1_c72_a4_v7), .val (.int w1_c79_a5_v7), .unset, .unset, .unset, .unset]) rfl ?_
    refine own_s_bipush Xw112.here hx (hb hby at_84) (pc' := 86) rfl (v := (6 : Int32)) (by decide) ?_
    refine stw113 _ ?_
    refine own_s_dup Xw113.here hx (hb hby at_88) (pc' := 89) rfl rfl ?_
    refine own_s_iconst Xw113.here hx (hb hby at_89) (pc' := 90) rfl (v := (0 : Int32)) (by decide) ?_
    refine own_s_iload Xw113.here hx (hb hby at_90) (pc' := 92) rfl rfl ?_
    refine own_s_i2d Xw113.here hx (hb hby at_92) (pc' := 93) rfl (v := (FP.i2d w1_c2_a0_v7)) rfl ?_
    refine stw114 _ ?_
    refine own_s_dup Xw114.here hx (hb hby at_94) (pc' := 95) rfl rfl ?_
    refine own_s_iconst Xw114.here hx (hb hby at_95) (pc' := 96) rfl (v := (1 : Int32)) (by decide) ?_
    refine own_s_iload Xw114.here hx (hb hby at_96) (pc' := 98) rfl rfl ?_
    refine own_s_i2d Xw114.here hx (hb hby at_98) (pc' := 99) rfl (v := (FP.i2d w1_c9_a1_v7)) rfl ?_
    refine stw115 _ ?_
    refine own_s_dup Xw115.here hx (hb hby at_100) (pc' := 101) rfl rfl ?_
    refine own_s_iconst Xw115.here hx (hb hby at_101) (pc' := 102) rfl (v := (2 : Int32)) (by decide) ?_
    refine own_s_iload Xw115.here hx (hb hby at_102) (pc' := 104) rfl rfl ?_
    refine own_s_i2d Xw115.here hx (hb hby at_104) (pc' := 105) rfl (v := (FP.i2d w1_c16_a2_v7)) rfl ?_
    refine stw116 _ ?_
    refine own_s_dup Xw116.here hx (hb hby at_106) (pc' := 107) rfl rfl ?_
    refine own_s_iconst Xw116.here hx (hb hby at_107) (pc' := 108) rfl (v := (3 : Int32)) (by decide) ?_
    refine own_s_iload Xw116.here hx (hb hby at_108) (pc' := 110) rfl rfl ?_
    refine own_s_i2d Xw116.here hx (hb hby at_110) (pc' := 111) rfl (v := (FP.i2d w1_c23_a3_v7)) rfl ?_
    refine stw117 _ ?_
    refine own_s_dup Xw117.here hx (hb hby at_112) (pc' := 113) rfl rfl ?_
    refine own_s_iconst Xw117.here hx (hb hby at_113) (pc' := 114) rfl (v := (4 : Int32)) (by decide) ?_
    refine own_s_iload Xw117.here hx (hb hby at_114) (pc' := 116) rfl rfl ?_
    refine own_s_i2d Xw117.here hx (hb hby at_116) (pc' := 117) rfl (v := (FP.i2d w1_c30_a4_v7)) rfl ?_
    refine stw118 _ ?_
    refine own_s_dup Xw118.here hx (hb hby at_118) (pc' := 119) rfl rfl ?_
    refine own_s_iconst Xw118.here hx (hb hby at_119) (pc' := 120) rfl (v := (5 : Int32)) (by decide) ?_
    refine own_s_iload Xw118.here hx (hb hby at_120) (pc' := 122) rfl rfl ?_
    refine own_s_i2d Xw118.here hx (hb hby at_122) (pc' := 123) rfl (v := (FP.i2d w1_c37_a5_v7)) rfl ?_
    refine stw119 _ ?_
    refine own_s_astore Xw119.here hx (hb hby at_124) (pc' := 126) rfl rfl (L' := #[.val (.long p0), .second, .val (.long p1), .second, .val (.int p2), .val (.int w1_c2_a0_v7), .val (.int w1_c9_a1_v7), .val (.int w1_c16_a2_v7), .val (.int w1_c23_a3_v7), .val (.int w1_c30_a4_v7), .val (.int w1_c37_a5_v7), .val (.int w1_c44_a0_v7), .val (.int w1_c51_a1_v7), .val (.int w1_c58_a2_v7), .val (.int w1_c65_a3_v7), .val (.int w1_c72_a4_v7), .val (.int w1_c79_a5_v7), .val (.ref bw113), .unset, .unset, .unset]) rfl ?_
    refine own_s_bipush Xw119.here hx (hb hby at_126) (pc' := 128) rfl (v := (6 : Int32)) (by decide) ?_
    refine stw120 _ ?_
    refine own_s_dup Xw120.here hx (hb hby at_130) (pc' := 131) rfl rfl ?_
    refine own_s_iconst Xw120.here hx (hb hby at_131) (pc' := 132) rfl (v := (0 : Int32)) (by decide) ?_
    refine own_s_iload Xw120.here hx (hb hby at_132) (pc' := 134) rfl rfl ?_
    refine own_s_i2d Xw120.here hx (hb hby at_134) (pc' := 135) rfl (v := (FP.i2d w1_c44_a0_v7)) rfl ?_
    refine stw121 _ ?_
    refine own_s_dup Xw121.here hx (hb hby at_136) (pc' := 137) rfl rfl ?_
    refine own_s_iconst Xw121.here hx (hb hby at_137) (pc' := 138) rfl (v := (1 : Int32)) (by decide) ?_
    refine own_s_iload Xw121.here hx (hb hby at_138) (pc' := 140) rfl rfl ?_
    refine own_s_i2d Xw121.here hx (hb hby at_140) (pc' := 141) rfl (v := (FP.i2d w1_c51_a1_v7)) rfl ?_
    refine stw122 _ ?_
    refine own_s_dup Xw122.here hx (hb hby at_142) (pc' := 143) rfl rfl ?_
    refine own_s_iconst Xw122.here hx (hb hby at_143) (pc' := 144) rfl (v := (2 : Int32)) (by decide) ?_
    refine own_s_iload Xw122.here hx (hb hby at_144) (pc' := 146) rfl rfl ?_
    refine own_s_i2d Xw122.here hx (hb hby at_146) (pc' := 147) rfl (v := (FP.i2d w1_c58_a2_v7)) rfl ?_
    refine stw123 _ ?_
    refine own_s_dup Xw123.here hx (hb hby at_148) (pc' := 149) rfl rfl ?_
    refine own_s_iconst Xw123.here hx (hb hby at_149) (pc' := 150) rfl (v := (3 : Int32)) (by decide) ?_
    refine own_s_iload Xw123.here hx (hb hby at_150) (pc' := 152) rfl rfl ?_
    refine own_s_i2d Xw123.here hx (hb hby at_152) (pc' := 153) rfl (v := (FP.i2d w1_c65_a3_v7)) rfl ?_
    refine stw124 _ ?_
    refine own_s_dup Xw124.here hx (hb hby at_154) (pc' := 155) rfl rfl ?_
    refine own_s_iconst Xw124.here hx (hb hby at_155) (pc' := 156) rfl (v := (4 : Int32)) (by decide) ?_
    refine own_s_iload Xw124.here hx (hb hby at_156) (pc' := 158) rfl rfl ?_
    refine own_s_i2d Xw124.here hx (hb hby at_158) (pc' := 159) rfl (v := (FP.i2d w1_c72_a4_v7)) rfl ?_
    refine stw125 _ ?_
    refine own_s_dup Xw125.here hx (hb hby at_160) (pc' := 161) rfl rfl ?_
    refine own_s_iconst Xw125.here hx (hb hby at_161) (pc' := 162) rfl (v := (5 : Int32)) (by decide) ?_
    refine own_s_iload Xw125.here hx (hb hby at_162) (pc' := 164) rfl rfl ?_
    refine own_s_i2d Xw125.here hx (hb hby at_164) (pc' := 165) rfl (v := (FP.i2d w1_c79_a5_v7)) rfl ?_
    refine stw126 _ ?_
    refine own_s_astore Xw126.here hx (hb hby at_166) (pc' := 168) rfl rfl (L' := #[.val (.long p0), .second, .val (.long p1), .second, .val (.int p2), .val (.int w1_c2_a0_v7), .val (.int w1_c9_a1_v7), .val (.int w1_c16_a2_v7), .val (.int w1_c23_a3_v7), .val (.int w1_c30_a4_v7), .val (.int w1_c37_a5_v7), .val (.int w1_c44_a0_v7), .val (.int w1_c51_a1_v7), .val (.int w1_c58_a2_v7), .val (.int w1_c65_a3_v7), .val (.int w1_c72_a4_v7), .val (.int w1_c79_a5_v7), .val (.ref bw113), .val (.ref bw120), .unset, .unset]) rfl ?_
    refine own_s_iload Xw126.here hx (hb hby at_168) (pc' := 170) rfl rfl ?_
    refine Xw126.ldcInt hx hown (mvT hZ (hw _ (List.mem_of_getElem? (i := 5) rfl))) (g := (mkF m 170 #[.val (.long p0), .second, .val (.long p1), .second, .val (.int p2), .val (.int w1_c2_a0_v7), .val (.int w1_c9_a1_v7), .val (.int w1_c16_a2_v7), .val (.int w1_c23_a3_v7), .val (.int w1_c30_a4_v7), .val (.int w1_c37_a5_v7), .val (.int w1_c44_a0_v7), .val (.int w1_c51_a1_v7), .val (.int w1_c58_a2_v7), .val (.int w1_c65_a3_v7), .val (.int w1_c72_a4_v7), .val (.int w1_c79_a5_v7), .val (.ref bw113), .val (.ref bw120), .unset, .unset] [(.int p2)])) rfl (hb hby at_170) _ ?_
    show Steps p.tables e below (Tw126.setTop (mkF m 172 #[.val (.long p0), .second, .val (.long p1), .second, .val (.int p2), .val (.int w1_c2_a0_v7), .val (.int w1_c9_a1_v7), .val (.int w1_c16_a2_v7), .val (.int w1_c23_a3_v7), .val (.int w1_c30_a4_v7), .val (.int w1_c37_a5_v7), .val (.int w1_c44_a0_v7), .val (.int w1_c51_a1_v7), .val (.int w1_c58_a2_v7), .val (.int w1_c65_a3_v7), .val (.int w1_c72_a4_v7), .val (.int w1_c79_a5_v7), .val (.ref bw113), .val (.ref bw120), .unset, .unset] [(.int (2147483647 : Int32)), (.int p2)])) _
    refine own_s_iand Xw126.here hx (hb hby at_172) (pc' := 173) rfl (v := w1_v172) w1_hv172 ?_
    refine own_s_iconst Xw126.here hx (hb hby at_173) (pc' := 174) rfl (v := (3 : Int32)) (by decide) ?_
    refine own_s_irem Xw126.here hx (hb hby at_174) (pc' := 175) rfl (by decide) (v := (1 : Int32)) w1_hv174 ?_
    refine own_s_istore Xw126.here hx (hb hby at_175) (pc' := 177) rfl (L' := #[.val (.long p0), .second, .val (.long p1), .second, .val (.int p2), .val (.int w1_c2_a0_v7), .val (.int w1_c9_a1_v7), .val (.int w1_c16_a2_v7), .val (.int w1_c23_a3_v7), .val (.int w1_c30_a4_v7), .val (.int w1_c37_a5_v7), .val (.int w1_c44_a0_v7), .val (.int w1_c51_a1_v7), .val (.int w1_c58_a2_v7), .val (.int w1_c65_a3_v7), .val (.int w1_c72_a4_v7), .val (.int w1_c79_a5_v7), .val (.ref bw113), .val (.ref bw120), .val (.int (1 : Int32)), .unset]) rfl ?_
    refine own_s_iload Xw126.here hx (hb hby at_177) (pc' := 179) rfl rfl ?_
    refine own_s_ifYes Xw126.here hx (hb hby at_179) (by decide) (pc' := 400) (by decide) (by decide) ?_
    refine own_s_iload Xw126.here hx (hb hby at_400) (pc' := 402) rfl rfl ?_
    refine own_s_iconst Xw126.here hx (hb hby at_402) (pc' := 403) rfl (v := (1 : Int32)) (by decide) ?_
    refine own_s_icmpNo Xw126.here hx (hb hby at_403) (pc' := 406) rfl (by decide) ?_
    refine own_s_aload Xw126.here hx (hb hby at_406) (pc' := 408) rfl rfl rfl ?_
    refine own_s_aload Xw126.here hx (hb hby at_408) (pc' := 410) rfl rfl rfl ?_
    refine own_s_iconst Xw126.here hx (hb hby at_410) (pc' := 411) rfl (v := (3 : Int32)) (by decide) ?_
    refine stw127 _ ?_
    show Steps p.tables e below (Tw127.setTop (mkF m 414 #[.val (.long p0), .second, .val (.long p1), .second, .val (.int p2), .val (.int w1_c2_a0_v7), .val (.int w1_c9_a1_v7), .val (.int w1_c16_a2_v7), .val (.int w1_c23_a3_v7), .val (.int w1_c30_a4_v7), .val (.int w1_c37_a5_v7), .val (.int w1_c44_a0_v7), .val (.int w1_c51_a1_v7), .val (.int w1_c58_a2_v7), .val (.int w1_c65_a3_v7), .val (.int w1_c72_a4_v7), .val (.int w1_c79_a5_v7), .val (.ref bw113), .val (.ref bw120), .val (.int (1 : Int32)), .unset] [(.ref bw127)])) _
    refine own_s_astore Xw127.here hx (hb hby at_414) (pc' := 416) rfl rfl (L' := #[.val (.long p0), .second, .val (.long p1), .second, .val (.int p2), .val (.int w1_c2_a0_v7), .val (.int w1_c9_a1_v7), .val (.int w1_c16_a2_v7), .val (.int w1_c23_a3_v7), .val (.int w1_c30_a4_v7), .val (.int w1_c37_a5_v7), .val (.int w1_c44_a0_v7), .val (.int w1_c51_a1_v7), .val (.int w1_c58_a2_v7), .val (.int w1_c65_a3_v7), .val (.int w1_c72_a4_v7), .val (.int w1_c79_a5_v7), .val (.ref bw113), .val (.ref bw120), .val (.int (1 : Int32)), .val (.ref bw127)]) rfl ?_
    refine own_s_aload Xw127.here hx (hb hby at_416) (pc' := 418) rfl rfl rfl ?_
    refine own_len Xw127 hx hZ rfl qw127_0 (hb hby at_418) (pc' := 419) rfl ?_
    refine own_s_iconst Xw127.here hx (hb hby at_419) (pc' := 420) rfl (v := (4 : Int32)) (by decide) ?_
    refine own_s_icmpYes Xw127.here hx (hb hby at_420) (by decide) (pc' := 425) (by decide) (by decide) ?_
    refine own_s_aload Xw127.here hx (hb hby at_425) (pc' := 427) rfl rfl rfl ?_
    refine own_s_iconst Xw127.here hx (hb hby at_427) (pc' := 428) rfl (v := (0 : Int32)) (by decide) ?_
    refine own_ldD Xw127 hx hZ rfl qw127_0 (j := (0 : Int32)) (x := w1_c411_c1_v72_3) (by decide) rfl (hb hby at_428) (pc' := 429) rfl ?_
    refine own_s_iload Xw127.here hx (hb hby at_429) (pc' := 431) rfl rfl ?_
    refine own_s_iload Xw127.here hx (hb hby at_431) (pc' := 433) rfl rfl ?_
    refine own_s_imul Xw127.here hx (hb hby at_433) (pc' := 434) rfl (v := w1_v433) w1_hv433 ?_
    refine own_s_iload Xw127.here hx (hb hby at_434) (pc' := 436) rfl rfl ?_
    refine own_s_iload Xw127.here hx (hb hby at_436) (pc' := 438) rfl rfl ?_
    refine own_s_imul Xw127.here hx (hb hby at_438) (pc' := 439) rfl (v := w1_v438) w1_hv438 ?_
    refine own_s_iadd Xw127.here hx (hb hby at_439) (pc' := 440) rfl (v := w1_v439) w1_hv439 ?_
    refine own_s_iload Xw127.here hx (hb hby at_440) (pc' := 442) rfl rfl ?_
    refine own_s_iload Xw127.here hx (hb hby at_442) (pc' := 444) rfl rfl ?_
    refine own_s_imul Xw127.here hx (hb hby at_444) (pc' := 445) rfl (v := w1_v444) w1_hv444 ?_
    refine own_s_iadd Xw127.here hx (hb hby at_445) (pc' := 446) rfl (v := w1_v445) w1_hv445 ?_
    refine stw128 _ ?_
    show Steps p.tables e below (Tw128.setTop (mkF m 449 #[.val (.long p0), .second, .val (.long p1), .second, .val (.int p2), .val (.int w1_c2_a0_v7), .val (.int w1_c9_a1_v7), .val (.int w1_c16_a2_v7), .val (.int w1_c23_a3_v7), .val (.int w1_c30_a4_v7), .val (.int w1_c37_a5_v7), .val (.int w1_c44_a0_v7), .val (.int w1_c51_a1_v7), .val (.int w1_c58_a2_v7), .val (.int w1_c65_a3_v7), .val (.int w1_c72_a4_v7), .val (.int w1_c79_a5_v7), .val (.ref bw113), .val (.ref bw120), .val (.int (1 : Int32)), .val (.ref bw127)] [(.int (1 : Int32))])) _
    refine own_s_ifNo Xw128.here hx (hb hby at_449) (pc' := 452) rfl (by decide) ?_
    refine own_s_aload Xw128.here hx (hb hby at_452) (pc' := 454) rfl rfl rfl ?_
    refine own_s_iconst Xw128.here hx (hb hby at_454) (pc' := 455) rfl (v := (1 : Int32)) (by decide) ?_
    refine own_ldD Xw128 hx hZ ew128 qw127_0 (j := (1 : Int32)) (x := w1_c411_c1_v72_6) (by decide) rfl (hb hby at_455) (pc' := 456) rfl ?_
    refine own_s_iload Xw128.here hx (hb hby at_456) (pc' := 458) rfl rfl ?_
    refine own_s_iload Xw128.here hx (hb hby at_458) (pc' := 460) rfl rfl ?_
    refine own_s_imul Xw128.here hx (hb hby at_460) (pc' := 461) rfl (v := w1_v460) w1_hv460 ?_
    refine own_s_iload Xw128.here hx (hb hby at_461) (pc' := 463) rfl rfl ?_
    refine own_s_iload Xw128.here hx (hb hby at_463) (pc' := 465) rfl rfl ?_
    refine own_s_imul Xw128.here hx (hb hby at_465) (pc' := 466) rfl (v := w1_v465) w1_hv465 ?_
    refine own_s_iadd Xw128.here hx (hb hby at_466) (pc' := 467) rfl (v := w1_v466) w1_hv466 ?_
    refine own_s_iload Xw128.here hx (hb hby at_467) (pc' := 469) rfl rfl ?_
    refine own_s_iload Xw128.here hx (hb hby at_469) (pc' := 471) rfl rfl ?_
    refine own_s_imul Xw128.here hx (hb hby at_471) (pc' := 472) rfl (v := w1_v471) w1_hv471 ?_
    refine own_s_iadd Xw128.here hx (hb hby at_472) (pc' := 473) rfl (v := w1_v472) w1_hv472 ?_
    refine stw129 _ ?_
    show Steps p.tables e below (Tw129.setTop (mkF m 476 #[.val (.long p0), .second, .val (.long p1), .second, .val (.int p2), .val (.int w1_c2_a0_v7), .val (.int w1_c9_a1_v7), .val (.int w1_c16_a2_v7), .val (.int w1_c23_a3_v7), .val (.int w1_c30_a4_v7), .val (.int w1_c37_a5_v7), .val (.int w1_c44_a0_v7), .val (.int w1_c51_a1_v7), .val (.int w1_c58_a2_v7), .val (.int w1_c65_a3_v7), .val (.int w1_c72_a4_v7), .val (.int w1_c79_a5_v7), .val (.ref bw113), .val (.ref bw120), .val (.int (1 : Int32)), .val (.ref bw127)] [(.int (1 : Int32))])) _
    refine own_s_ifNo Xw129.here hx (hb hby at_476) (pc' := 479) rfl (by decide) ?_
    refine own_s_aload Xw129.here hx (hb hby at_479) (pc' := 481) rfl rfl rfl ?_
    refine own_s_iconst Xw129.here hx (hb hby at_481) (pc' := 482) rfl (v := (2 : Int32)) (by decide) ?_
    refine own_ldD Xw129 hx hZ ew129 qw127_0 (j := (2 : Int32)) (x := w1_c411_c1_v72_9) (by decide) rfl (hb hby at_482) (pc' := 483) rfl ?_
    refine own_s_iload Xw129.here hx (hb hby at_483) (pc' := 485) rfl rfl ?_
    refine own_s_iload Xw129.here hx (hb hby at_485) (pc' := 487) rfl rfl ?_
    refine own_s_imul Xw129.here hx (hb hby at_487) (pc' := 488) rfl (v := w1_v487) w1_hv487 ?_
    refine own_s_iload Xw129.here hx (hb hby at_488) (pc' := 490) rfl rfl ?_
    refine own_s_iload Xw129.here hx (hb hby at_490) (pc' := 492) rfl rfl ?_
    refine own_s_imul Xw129.here hx (hb hby at_492) (pc' := 493) rfl (v := w1_v492) w1_hv492 ?_
    refine own_s_iadd Xw129.here hx (hb hby at_493) (pc' := 494) rfl (v := w1_v493) w1_hv493 ?_
    refine own_s_iload Xw129.here hx (hb hby at_494) (pc' := 496) rfl rfl ?_
    refine own_s_iload Xw129.here hx (hb hby at_496) (pc' := 498) rfl rfl ?_
    refine own_s_imul Xw129.here hx (hb hby at_498) (pc' := 499) rfl (v := w1_v498) w1_hv498 ?_
    refine own_s_iadd Xw129.here hx (hb hby at_499) (pc' := 500) rfl (v := w1_v499) w1_hv499 ?_
    refine stw130 _ ?_
    show Steps p.tables e below (Tw130.setTop (mkF m 503 #[.val (.long p0), .second, .val (.long p1), .second, .val (.int p2), .val (.int w1_c2_a0_v7), .val (.int w1_c9_a1_v7), .val (.int w1_c16_a2_v7), .val (.int w1_c23_a3_v7), .val (.int w1_c30_a4_v7), .val (.int w1_c37_a5_v7), .val (.int w1_c44_a0_v7), .val (.int w1_c51_a1_v7), .val (.int w1_c58_a2_v7), .val (.int w1_c65_a3_v7), .val (.int w1_c72_a4_v7), .val (.int w1_c79_a5_v7), .val (.ref bw113), .val (.ref bw120), .val (.int (1 : Int32)), .val (.ref bw127)] [(.int (1 : Int32))])) _
    refine own_s_ifNo Xw130.here hx (hb hby at_503) (pc' := 506) rfl (by decide) ?_
    refine own_s_aload Xw130.here hx (hb hby at_506) (pc' := 508) rfl rfl rfl ?_
    refine own_s_iconst Xw130.here hx (hb hby at_508) (pc' := 509) rfl (v := (3 : Int32)) (by decide) ?_
    refine own_ldD Xw130 hx hZ ew130 qw127_0 (j := (3 : Int32)) (x := w1_c411_c1_v72_12) (by decide) rfl (hb hby at_509) (pc' := 510) rfl ?_
    refine own_s_iload Xw130.here hx (hb hby at_510) (pc' := 512) rfl rfl ?_
    refine own_s_iload Xw130.here hx (hb hby at_512) (pc' := 514) rfl rfl ?_
    refine own_s_imul Xw130.here hx (hb hby at_514) (pc' := 515) rfl (v := w1_v514) w1_hv514 ?_
    refine own_s_iload Xw130.here hx (hb hby at_515) (pc' := 517) rfl rfl ?_
    refine own_s_iload Xw130.here hx (hb hby at_517) (pc' := 519) rfl rfl ?_
    refine own_s_imul Xw130.here hx (hb hby at_519) (pc' := 520) rfl (v := w1_v519) w1_hv519 ?_
    refine own_s_iadd Xw130.here hx (hb hby at_520) (pc' := 521) rfl (v := w1_v520) w1_hv520 ?_
    refine own_s_iload Xw130.here hx (hb hby at_521) (pc' := 523) rfl rfl ?_
    refine own_s_iload Xw130.here hx (hb hby at_523) (pc' := 525) rfl rfl ?_
    refine own_s_imul Xw130.here hx (hb hby at_525) (pc' := 526) rfl (v := w1_v525) w1_hv525 ?_
    refine own_s_iadd Xw130.here hx (hb hby at_526) (pc' := 527) rfl (v := w1_v526) w1_hv526 ?_
    refine stw131 _ ?_
    show Steps p.tables e below (Tw131.setTop (mkF m 530 #[.val (.long p0), .second, .val (.long p1), .second, .val (.int p2), .val (.int w1_c2_a0_v7), .val (.int w1_c9_a1_v7), .val (.int w1_c16_a2_v7), .val (.int w1_c23_a3_v7), .val (.int w1_c30_a4_v7), .val (.int w1_c37_a5_v7), .val (.int w1_c44_a0_v7), .val (.int w1_c51_a1_v7), .val (.int w1_c58_a2_v7), .val (.int w1_c65_a3_v7), .val (.int w1_c72_a4_v7), .val (.int w1_c79_a5_v7), .val (.ref bw113), .val (.ref bw120), .val (.int (1 : Int32)), .val (.ref bw127)] [(.int (1 : Int32))])) _
    refine own_s_ifNo Xw131.here hx (hb hby at_530) (pc' := 533) rfl (by decide) ?_
    refine own_s_iconst Xw131.here hx (hb hby at_533) (pc' := 534) rfl (v := (1 : Int32)) (by decide) ?_
    refine own_s_goto Xw131.here hx (hb hby at_534) (by decide) (pc' := 538) (by decide) ?_
    exact retN Xw131 hx (t := .boolean) Bd.returns (by simp) (hb hby at_538) hr
  · show own_Q0 n0 _ Tw131.heap _
    rw [ew131]
    exact ⟨rfl, Nw131⟩
theorem own_ef_c2 (m : MethodId) (qa : Addr) (qb : Addr) : entryFrame m #[(.ref qa), (.ref qb), (.int (6 : Int32))] 11 = mkF m 0 #[.val (.ref qa), .val (.ref qb), .val (.int (6 : Int32)), .unset, .unset, .unset, .unset, .unset, .unset, .unset, .unset] [] := by first | (simp [entryFrame, mkF, argsToLocals, Value.category]; done) | rfl
def own_Q_c2 (Z : State) (qa : Addr) (d0 : UInt64) (d1 : UInt64) (d2 : UInt64) (d3 : UInt64) (d4 : UInt64) (d5 : UInt64) (qb : Addr) (ee0 : UInt64) (ee1 : UInt64) (ee2 : UInt64) (ee3 : UInt64) (ee4 : UInt64) (ee5 : UInt64) (qak : ClassId) (qbk : ClassId) (c2_v71 : UInt64) (c2_v72 : UInt64) (c2_v71_2 : UInt64) (c2_v72_2 : UInt64) (c2_v71_3 : UInt64) (c2_v72_3 : UInt64) (c2_v71_4 : UInt64) (c2_v72_4 : UInt64) (c2_v71_5 : UInt64) (c2_v72_5 : UInt64) (c2_v71_6 : UInt64) (c2_v72_6 : UInt64) (h0 : Heap) (n0 : Nat) (v : Option Value) (h : Heap) (L : List Loc) : Prop := ∃ (bc21 : Addr) (kc21 : ClassId), v = some (.ref bc21) ∧ Fr n0 L ∧ Keep h0 h [] ∧ h0.size ≤ bc21 ∧ Arv Z h bc21 kc21 .double (1 : Int32) [(.double c2_v72_6)] (.double 0)
set_option maxRecDepth 65536 in
set_option maxHeartbeats 40000000 in
theorem own_rm_c2 (l : Launch) (Z : State) (a0 : Array Value) (hw : ∀ d ∈ tables_1, d.before a0 Z = true) (ws : List Jvm.Cond) (qa : Addr) (d0 : UInt64) (d1 : UInt64) (d2 : UInt64) (d3 : UInt64) (d4 : UInt64) (d5 : UInt64) (qb : Addr) (ee0 : UInt64) (ee1 : UInt64) (ee2 : UInt64) (ee3 : UInt64) (ee4 : UInt64) (ee5 : UInt64) {qak : ClassId} {qbk : ClassId} {c2_v71 : UInt64} {c2_v72 : UInt64} {c2_v71_2 : UInt64} {c2_v72_2 : UInt64} {c2_v71_3 : UInt64} {c2_v72_3 : UInt64} {c2_v71_4 : UInt64} {c2_v72_4 : UInt64} {c2_v71_5 : UInt64} {c2_v72_5 : UInt64} {c2_v71_6 : UInt64} {c2_v72_6 : UInt64} (h0 : Heap) (n0 : Nat) (Z0 : n0 ≤ h0.size) (V_qa : Arv Z h0 qa qak .double (6 : Int32) [(.double d0), (.double d1), (.double d2), (.double d3), (.double d4), (.double d5)] (.double 0)) (V_qb : Arv Z h0 qb qbk .double (6 : Int32) [(.double ee0), (.double ee1), (.double ee2), (.double ee3), (.double ee4), (.double ee5)] (.double 0)) (c2_hn71 : Jvm.Free.Fl.NoNaN64 (FP.dmul d0 ee0)) (c2_hv71 : FP.dmul d0 ee0 = c2_v71) (c2_hn72 : Jvm.Free.Fl.NoNaN64 (FP.dadd 0 c2_v71)) (c2_hv72 : FP.dadd 0 c2_v71 = c2_v72) (c2_hn71_2 : Jvm.Free.Fl.NoNaN64 (FP.dmul d1 ee1)) (c2_hv71_2 : FP.dmul d1 ee1 = c2_v71_2) (c2_hn72_2 : Jvm.Free.Fl.NoNaN64 (FP.dadd c2_v72 c2_v71_2)) (c2_hv72_2 : FP.dadd c2_v72 c2_v71_2 = c2_v72_2) (c2_hn71_3 : Jvm.Free.Fl.NoNaN64 (FP.dmul d2 ee2)) (c2_hv71_3 : FP.dmul d2 ee2 = c2_v71_3) (c2_hn72_3 : Jvm.Free.Fl.NoNaN64 (FP.dadd c2_v72_2 c2_v71_3)) (c2_hv72_3 : FP.dadd c2_v72_2 c2_v71_3 = c2_v72_3) (c2_hn71_4 : Jvm.Free.Fl.NoNaN64 (FP.dmul d3 ee3)) (c2_hv71_4 : FP.dmul d3 ee3 = c2_v71_4) (c2_hn72_4 : Jvm.Free.Fl.NoNaN64 (FP.dadd c2_v72_3 c2_v71_4)) (c2_hv72_4 : FP.dadd c2_v72_3 c2_v71_4 = c2_v72_4) (c2_hn71_5 : Jvm.Free.Fl.NoNaN64 (FP.dmul d4 ee4)) (c2_hv71_5 : FP.dmul d4 ee4 = c2_v71_5) (c2_hn72_5 : Jvm.Free.Fl.NoNaN64 (FP.dadd c2_v72_4 c2_v71_5)) (c2_hv72_5 : FP.dadd c2_v72_4 c2_v71_5 = c2_v72_5) (c2_hn71_6 : Jvm.Free.Fl.NoNaN64 (FP.dmul d5 ee5)) (c2_hv71_6 : FP.dmul d5 ee5 = c2_v71_6) (c2_hn72_6 : Jvm.Free.Fl.NoNaN64 (FP.dadd c2_v72_5 c2_v71_6)) (c2_hv72_6 : FP.dadd c2_v72_5 c2_v71_6 = c2_v72_6) :
    MetFree l (⟨"com/example/pintrinsic/pintrinsic/Matrices", "product", "([D[DI)[D"⟩ : MethodName) (head1 (Jvm.Cond.code (⟨"com/example/pintrinsic/pintrinsic/Matrices", "product", "([D[DI)[D"⟩ : MethodName) prog_10_method_2_code 11 (some (.array .double)) :: ws) ({ frames := 0, cells := 1, slots := 1, locals := 0 } : Room)) (fun a U => a = #[(.ref qa), (.ref qb), (.int (6 : Int32))] ∧ Z.Warmed39 U.vm ∧ U.heap = h0) (fun _ _ _ _ _ => True) (fun _ U o U' => ∃ v L, o = .returned v ∧ own_Q_c2 Z qa d0 d1 d2 d3 d4 d5 qb ee0 ee1 ee2 ee3 ee4 ee5 qak qbk c2_v71 c2_v72 c2_v71_2 c2_v72_2 c2_v71_3 c2_v72_3 c2_v71_4 c2_v72_4 c2_v71_5 c2_v72_5 c2_v71_6 c2_v72_6 h0 n0 v U'.heap L ∧ FrameEnd U o U' L ({ frames := 0, cells := 1, slots := 1, locals := 0 } : Room).cells ({ frames := 0, cells := 1, slots := 1, locals := 0 } : Room).slots) := by
  refine MetFree.of_bodySF (plainFor_of_name own_pn_com_example_pintrinsic_pintrinsic_Matrices) hisR ?_
  intro p e s m args below meth c s₁ Bd hml0 hP hK
  obtain ⟨rfl, hZ, hh⟩ := hP
  have hx := Bd.exec
  have hby := Bd.bytes
  have hml : c.maxLocals = 11 := hml0
  have hown : s.vm.findClass "com/example/pintrinsic/pintrinsic/Matrices" = some m.cls := findClass_of_methodNamed Bd.named
  have hnm := (name_of_methodNamed Bd.named Bd.method).1
  have X0 : Stand p l e ({ frames := 0, cells := 1, slots := 1, locals := 0 } : Room) s m #[(.ref qa), (.ref qb), (.int (6 : Int32))] below meth c s₁ [] 0 0 := Stand.of_body Bd
  have e0 : s₁.heap = h0 := by rw [← hh, Bd.state]; rfl
  have N0 := Fr.nil n0
  have pre0 : ∀ t, Steps p.tables e below (s₁.setTop (mkF m 0 #[.val (.ref qa), .val (.ref qb), .val (.int (6 : Int32)), .unset, .unset, .unset, .unset, .unset, .unset, .unset, .unset] [])) t → Steps p.tables e below (s₁.setTop (entryFrame m #[(.ref qa), (.ref qb), (.int (6 : Int32))] 11)) t := fun t k => castTop (own_ef_c2 m qa qb) k
  obtain ⟨Tc21, hc21, kc21, bc21, Xc21, ec21, Ec21, Gc21, Vc21, stc21⟩ := own_newD (L := #[.val (.ref qa), .val (.ref qb), .val (.int (6 : Int32)), .val (.int (1 : Int32)), .val (.int (1 : Int32)), .unset, .unset, .unset, .unset, .unset, .unset]) (S := []) X0 hx hZ (hw _ (List.mem_of_getElem? (i := 4) rfl)) e0 (z := (1 : Int32)) 1 (by decide) (by decide) (by decide) (by decide) (by decide) (hb hby own_d2_15) (pc' := 17) rfl
  have ne_qa_bc21 : qa ≠ bc21 := Nat.ne_of_lt (Nat.lt_of_lt_of_le V_qa.lt (Nat.le_of_eq Gc21.symm))
  have ne_bc21_qa : bc21 ≠ qa := Ne.symm ne_qa_bc21
  have ne_qb_bc21 : qb ≠ bc21 := Nat.ne_of_lt (Nat.lt_of_lt_of_le V_qb.lt (Nat.le_of_eq Gc21.symm))
  have ne_bc21_qb : bc21 ≠ qb := Ne.symm ne_qb_bc21
  have g_bc21 : n0 ≤ bc21 := Nat.le_trans Z0 (Nat.le_of_eq Gc21.symm)
  have sz_bc21 : h0.size ≤ bc21 := Nat.le_trans (Keep.refl h0 []).1 (Nat.le_of_eq Gc21.symm)
  have V_qa_c21 := V_qa.ext Ec21
  have V_qb_c21 := V_qb.ext Ec21
  have Zc21 : n0 ≤ hc21.size := Nat.le_trans Z0 Ec21.1
  have KKc21 := (Keep.refl h0 []).ext Ec21
  have V_bc21 : Arv Z hc21 bc21 kc21 .double (1 : Int32) [(.double 0)] (.double 0) := Vc21
  obtain ⟨Tc22, hc22, Xc22, ec22, Wc22, Vc22, stc22⟩ := own_stD (L := #[.val (.ref qa), .val (.ref qb), .val (.int (6 : Int32)), .val (.int (1 : Int32)), .val (.int (1 : Int32)), .val (.ref bc21), .val (.int (0 : Int32)), .val (.int (0 : Int32)), .val (.double c2_v72_6), .second, .val (.int (6 : Int32))]) (S := []) Xc21 hx hZ ec21 V_bc21 (j := (0 : Int32)) (x := c2_v72_6) (by decide) 0 (by decide) (Nat.le_of_ble_eq_true rfl) (hb hby own_d2_93) (pc' := 94) rfl
  have V_qa_c22 := V_qa_c21.other Wc22 ne_qa_bc21
  have V_qb_c22 := V_qb_c21.other Wc22 ne_qb_bc21
  have Zc22 : n0 ≤ hc22.size := Nat.le_trans Zc21 (Nat.le_of_eq Wc22.size.symm)
  have KKc22 := KKc21.wr Wc22 (Or.inr sz_bc21)
  have V_bc21_c22 : Arv Z hc22 bc21 kc21 .double (1 : Int32) [(.double c2_v72_6)] (.double 0) := Vc22
  have Nc22 := Fr.snoc Xc22 N0 g_bc21
  obtain ⟨fs, hr, hrun, hended, hW, hsame⟩ := Xc22.leave (v := some (.ref bc21)) (fun h => by rw [Bd.returns] at h; cases h)
  refine ⟨_, _, pre0 _ ?_, hrun, hended, _, _, rfl, ?_, ⟨_, rfl⟩, hW, hsame.mono (by decide) (by decide)⟩
  · refine own_s_aloadN X0.here hx (hb hby own_d2_0) (pc' := 1) rfl rfl rfl ?_
    refine own_len X0 hx hZ e0 V_qa (hb hby own_d2_1) (pc' := 2) rfl ?_
    refine own_s_iloadN X0.here hx (hb hby own_d2_2) (pc' := 3) rfl rfl ?_
    refine own_s_idiv X0.here hx (hb hby own_d2_3) (pc' := 4) rfl (by decide) (v := (1 : Int32)) (by decide) ?_
    refine own_s_istoreN X0.here hx (hb hby own_d2_4) (pc' := 5) rfl (L' := #[.val (.ref qa), .val (.ref qb), .val (.int (6 : Int32)), .val (.int (1 : Int32)), .unset, .unset, .unset, .unset, .unset, .unset, .unset]) rfl ?_
    refine own_s_aloadN X0.here hx (hb hby own_d2_5) (pc' := 6) rfl rfl rfl ?_
    refine own_len X0 hx hZ e0 V_qb (hb hby own_d2_6) (pc' := 7) rfl ?_
    refine own_s_iloadN X0.here hx (hb hby own_d2_7) (pc' := 8) rfl rfl ?_
    refine own_s_idiv X0.here hx (hb hby own_d2_8) (pc' := 9) rfl (by decide) (v := (1 : Int32)) (by decide) ?_
    refine own_s_istore X0.here hx (hb hby own_d2_9) (pc' := 11) rfl (L' := #[.val (.ref qa), .val (.ref qb), .val (.int (6 : Int32)), .val (.int (1 : Int32)), .val (.int (1 : Int32)), .unset, .unset, .unset, .unset, .unset, .unset]) rfl ?_
    refine own_s_iloadN X0.here hx (hb hby own_d2_11) (pc' := 12) rfl rfl ?_
    refine own_s_iload X0.here hx (hb hby own_d2_12) (pc' := 14) rfl rfl ?_
    refine own_s_imul X0.here hx (hb hby own_d2_14) (pc' := 15) rfl (v := (1 : Int32)) (by decide) ?_
    refine stc21 _ ?_
    refine own_s_astore Xc21.here hx (hb hby own_d2_17) (pc' := 19) rfl rfl (L' := #[.val (.ref qa), .val (.ref qb), .val (.int (6 : Int32)), .val (.int (1 : Int32)), .val (.int (1 : Int32)), .val (.ref bc21), .unset, .unset, .unset, .unset, .unset]) rfl ?_
    refine own_s_iconst Xc21.here hx (hb hby own_d2_19) (pc' := 20) rfl (v := (0 : Int32)) (by decide) ?_
    refine own_s_istore Xc21.here hx (hb hby own_d2_20) (pc' := 22) rfl (L' := #[.val (.ref qa), .val (.ref qb), .val (.int (6 : Int32)), .val (.int (1 : Int32)), .val (.int (1 : Int32)), .val (.ref bc21), .val (.int (0 : Int32)), .unset, .unset, .unset, .unset]) rfl ?_
    refine own_s_iload Xc21.here hx (hb hby own_d2_22) (pc' := 24) rfl rfl ?_
    refine own_s_iloadN Xc21.here hx (hb hby own_d2_24) (pc' := 25) rfl rfl ?_
    refine own_s_icmpNo Xc21.here hx (hb hby own_d2_25) (pc' := 28) rfl (by decide) ?_
    refine own_s_iconst Xc21.here hx (hb hby own_d2_28) (pc' := 29) rfl (v := (0 : Int32)) (by decide) ?_
    refine own_s_istore Xc21.here hx (hb hby own_d2_29) (pc' := 31) rfl (L' := #[.val (.ref qa), .val (.ref qb), .val (.int (6 : Int32)), .val (.int (1 : Int32)), .val (.int (1 : Int32)), .val (.ref bc21), .val (.int (0 : Int32)), .val (.int (0 : Int32)), .unset, .unset, .unset]) rfl ?_
    refine own_s_iload Xc21.here hx (hb hby own_d2_31) (pc' := 33) rfl rfl ?_
    refine own_s_iload Xc21.here hx (hb hby own_d2_33) (pc' := 35) rfl rfl ?_
    refine own_s_icmpNo Xc21.here hx (hb hby own_d2_35) (pc' := 38) rfl (by decide) ?_
    refine own_s_dconst0 Xc21.here hx (hb hby own_d2_38) (pc' := 39) rfl  ?_
    refine own_s_dstore Xc21.here hx (hb hby own_d2_39) (pc' := 41) rfl (L' := #[.val (.ref qa), .val (.ref qb), .val (.int (6 : Int32)), .val (.int (1 : Int32)), .val (.int (1 : Int32)), .val (.ref bc21), .val (.int (0 : Int32)), .val (.int (0 : Int32)), .val (.double 0), .second, .unset]) rfl ?_
    refine own_s_iconst Xc21.here hx (hb hby own_d2_41) (pc' := 42) rfl (v := (0 : Int32)) (by decide) ?_
    refine own_s_istore Xc21.here hx (hb hby own_d2_42) (pc' := 44) rfl (L' := #[.val (.ref qa), .val (.ref qb), .val (.int (6 : Int32)), .val (.int (1 : Int32)), .val (.int (1 : Int32)), .val (.ref bc21), .val (.int (0 : Int32)), .val (.int (0 : Int32)), .val (.double 0), .second, .val (.int (0 : Int32))]) rfl ?_
    refine own_s_iload Xc21.here hx (hb hby own_d2_44) (pc' := 46) rfl rfl ?_
    refine own_s_iloadN Xc21.here hx (hb hby own_d2_46) (pc' := 47) rfl rfl ?_
    refine own_s_icmpNo Xc21.here hx (hb hby own_d2_47) (pc' := 50) rfl (by decide) ?_
    refine own_s_dload Xc21.here hx (hb hby own_d2_50) (pc' := 52) rfl rfl ?_
    refine own_s_aloadN Xc21.here hx (hb hby own_d2_52) (pc' := 53) rfl rfl rfl ?_
    refine own_s_iload Xc21.here hx (hb hby own_d2_53) (pc' := 55) rfl rfl ?_
    refine own_s_iloadN Xc21.here hx (hb hby own_d2_55) (pc' := 56) rfl rfl ?_
    refine own_s_imul Xc21.here hx (hb hby own_d2_56) (pc' := 57) rfl (v := (0 : Int32)) (by decide) ?_
    refine own_s_iload Xc21.here hx (hb hby own_d2_57) (pc' := 59) rfl rfl ?_
    refine own_s_iadd Xc21.here hx (hb hby own_d2_59) (pc' := 60) rfl (v := (0 : Int32)) (by decide) ?_
    refine own_ldD Xc21 hx hZ ec21 V_qa_c21 (j := (0 : Int32)) (x := d0) (by decide) rfl (hb hby own_d2_60) (pc' := 61) rfl ?_
    refine own_s_aloadN Xc21.here hx (hb hby own_d2_61) (pc' := 62) rfl rfl rfl ?_
    refine own_s_iload Xc21.here hx (hb hby own_d2_62) (pc' := 64) rfl rfl ?_
    refine own_s_iload Xc21.here hx (hb hby own_d2_64) (pc' := 66) rfl rfl ?_
    refine own_s_imul Xc21.here hx (hb hby own_d2_66) (pc' := 67) rfl (v := (0 : Int32)) (by decide) ?_
    refine own_s_iload Xc21.here hx (hb hby own_d2_67) (pc' := 69) rfl rfl ?_
    refine own_s_iadd Xc21.here hx (hb hby own_d2_69) (pc' := 70) rfl (v := (0 : Int32)) (by decide) ?_
    refine own_ldD Xc21 hx hZ ec21 V_qb_c21 (j := (0 : Int32)) (x := ee0) (by decide) rfl (hb hby own_d2_70) (pc' := 71) rfl ?_
    refine own_s_dmul Xc21.here hx (hb hby own_d2_71) (pc' := 72) rfl c2_hn71 (v := c2_v71) c2_hv71 ?_
    refine own_s_dadd Xc21.here hx (hb hby own_d2_72) (pc' := 73) rfl c2_hn72 (v := c2_v72) c2_hv72 ?_
    refine own_s_dstore Xc21.here hx (hb hby own_d2_73) (pc' := 75) rfl (L' := #[.val (.ref qa), .val (.ref qb), .val (.int (6 : Int32)), .val (.int (1 : Int32)), .val (.int (1 : Int32)), .val (.ref bc21), .val (.int (0 : Int32)), .val (.int (0 : Int32)), .val (.double c2_v72), .second, .val (.int (0 : Int32))]) rfl ?_
    refine own_s_iinc Xc21.here hx (hb hby own_d2_75) (pc' := 78) rfl rfl (v := (1 : Int32)) (by decide) (L' := #[.val (.ref qa), .val (.ref qb), .val (.int (6 : Int32)), .val (.int (1 : Int32)), .val (.int (1 : Int32)), .val (.ref bc21), .val (.int (0 : Int32)), .val (.int (0 : Int32)), .val (.double c2_v72), .second, .val (.int (1 : Int32))]) rfl ?_
    refine own_s_goto Xc21.here hx (hb hby own_d2_78) (by decide) (pc' := 44) (by decide) ?_
    refine own_s_iload Xc21.here hx (hb hby own_d2_44) (pc' := 46) rfl rfl ?_
    refine own_s_iloadN Xc21.here hx (hb hby own_d2_46) (pc' := 47) rfl rfl ?_
    refine own_s_icmpNo Xc21.here hx (hb hby own_d2_47) (pc' := 50) rfl (by decide) ?_
    refine own_s_dload Xc21.here hx (hb hby own_d2_50) (pc' := 52) rfl rfl ?_
    refine own_s_aloadN Xc21.here hx (hb hby own_d2_52) (pc' := 53) rfl rfl rfl ?_
    refine own_s_iload Xc21.here hx (hb hby own_d2_53) (pc' := 55) rfl rfl ?_
    refine own_s_iloadN Xc21.here hx (hb hby own_d2_55) (pc' := 56) rfl rfl ?_
    refine own_s_imul Xc21.here hx (hb hby own_d2_56) (pc' := 57) rfl (v := (0 : Int32)) (by decide) ?_
    refine own_s_iload Xc21.here hx (hb hby own_d2_57) (pc' := 59) rfl rfl ?_
    refine own_s_iadd Xc21.here hx (hb hby own_d2_59) (pc' := 60) rfl (v := (1 : Int32)) (by decide) ?_
    refine own_ldD Xc21 hx hZ ec21 V_qa_c21 (j := (1 : Int32)) (x := d1) (by decide) rfl (hb hby own_d2_60) (pc' := 61) rfl ?_
    refine own_s_aloadN Xc21.here hx (hb hby own_d2_61) (pc' := 62) rfl rfl rfl ?_
    refine own_s_iload Xc21.here hx (hb hby own_d2_62) (pc' := 64) rfl rfl ?_
    refine own_s_iload Xc21.here hx (hb hby own_d2_64) (pc' := 66) rfl rfl ?_
    refine own_s_imul Xc21.here hx (hb hby own_d2_66) (pc' := 67) rfl (v := (1 : Int32)) (by decide) ?_
    refine own_s_iload Xc21.here hx (hb hby own_d2_67) (pc' := 69) rfl rfl ?_
    refine own_s_iadd Xc21.here hx (hb hby own_d2_69) (pc' := 70) rfl (v := (1 : Int32)) (by decide) ?_
    refine own_ldD Xc21 hx hZ ec21 V_qb_c21 (j := (1 : Int32)) (x := ee1) (by decide) rfl (hb hby own_d2_70) (pc' := 71) rfl ?_
    refine own_s_dmul Xc21.here hx (hb hby own_d2_71) (pc' := 72) rfl c2_hn71_2 (v := c2_v71_2) c2_hv71_2 ?_
    refine own_s_dadd Xc21.here hx (hb hby own_d2_72) (pc' := 73) rfl c2_hn72_2 (v := c2_v72_2) c2_hv72_2 ?_
    refine own_s_dstore Xc21.here hx (hb hby own_d2_73) (pc' := 75) rfl (L' := #[.val (.ref qa), .val (.ref qb), .val (.int (6 : Int32)), .val (.int (1 : Int32)), .val (.int (1 : Int32)), .val (.ref bc21), .val (.int (0 : Int32)), .val (.int (0 : Int32)), .val (.double c2_v72_2), .second, .val (.int (1 : Int32))]) rfl ?_
    refine own_s_iinc Xc21.here hx (hb hby own_d2_75) (pc' := 78) rfl rfl (v := (2 : Int32)) (by decide) (L' := #[.val (.ref qa), .val (.ref qb), .val (.int (6 : Int32)), .val (.int (1 : Int32)), .val (.int (1 : Int32)), .val (.ref bc21), .val (.int (0 : Int32)), .val (.int (0 : Int32)), .val (.double c2_v72_2), .second, .val (.int (2 : Int32))]) rfl ?_
    refine own_s_goto Xc21.here hx (hb hby own_d2_78) (by decide) (pc' := 44) (by decide) ?_
    refine own_s_iload Xc21.here hx (hb hby own_d2_44) (pc' := 46) rfl rfl ?_
    refine own_s_iloadN Xc21.here hx (hb hby own_d2_46) (pc' := 47) rfl rfl ?_
    refine own_s_icmpNo Xc21.here hx (hb hby own_d2_47) (pc' := 50) rfl (by decide) ?_
    refine own_s_dload Xc21.here hx (hb hby own_d2_50) (pc' := 52) rfl rfl ?_
    refine own_s_aloadN Xc21.here hx (hb hby own_d2_52) (pc' := 53) rfl rfl rfl ?_
    refine own_s_iload Xc21.here hx (hb hby own_d2_53) (pc' := 55) rfl rfl ?_
    refine own_s_iloadN Xc21.here hx (hb hby own_d2_55) (pc' := 56) rfl rfl ?_
    refine own_s_imul Xc21.here hx (hb hby own_d2_56) (pc' := 57) rfl (v := (0 : Int32)) (by decide) ?_
    refine own_s_iload Xc21.here hx (hb hby own_d2_57) (pc' := 59) rfl rfl ?_
    refine own_s_iadd Xc21.here hx (hb hby own_d2_59) (pc' := 60) rfl (v := (2 : Int32)) (by decide) ?_
    refine own_ldD Xc21 hx hZ ec21 V_qa_c21 (j := (2 : Int32)) (x := d2) (by decide) rfl (hb hby own_d2_60) (pc' := 61) rfl ?_
    refine own_s_aloadN Xc21.here hx (hb hby own_d2_61) (pc' := 62) rfl rfl rfl ?_
    refine own_s_iload Xc21.here hx (hb hby own_d2_62) (pc' := 64) rfl rfl ?_
    refine own_s_iload Xc21.here hx (hb hby own_d2_64) (pc' := 66) rfl rfl ?_
    refine own_s_imul Xc21.here hx (hb hby own_d2_66) (pc' := 67) rfl (v := (2 : Int32)) (by decide) ?_
    refine own_s_iload Xc21.here hx (hb hby own_d2_67) (pc' := 69) rfl rfl ?_
    refine own_s_iadd Xc21.here hx (hb hby own_d2_69) (pc' := 70) rfl (v := (2 : Int32)) (by decide) ?_
    refine own_ldD Xc21 hx hZ ec21 V_qb_c21 (j := (2 : Int32)) (x := ee2) (by decide) rfl (hb hby own_d2_70) (pc' := 71) rfl ?_
    refine own_s_dmul Xc21.here hx (hb hby own_d2_71) (pc' := 72) rfl c2_hn71_3 (v := c2_v71_3) c2_hv71_3 ?_
    refine own_s_dadd Xc21.here hx (hb hby own_d2_72) (pc' := 73) rfl c2_hn72_3 (v := c2_v72_3) c2_hv72_3 ?_
    refine own_s_dstore Xc21.here hx (hb hby own_d2_73) (pc' := 75) rfl (L' := #[.val (.ref qa), .val (.ref qb), .val (.int (6 : Int32)), .val (.int (1 : Int32)), .val (.int (1 : Int32)), .val (.ref bc21), .val (.int (0 : Int32)), .val (.int (0 : Int32)), .val (.double c2_v72_3), .second, .val (.int (2 : Int32))]) rfl ?_
    refine own_s_iinc Xc21.here hx (hb hby own_d2_75) (pc' := 78) rfl rfl (v := (3 : Int32)) (by decide) (L' := #[.val (.ref qa), .val (.ref qb), .val (.int (6 : Int32)), .val (.int (1 : Int32)), .val (.int (1 : Int32)), .val (.ref bc21), .val (.int (0 : Int32)), .val (.int (0 : Int32)), .val (.double c2_v72_3), .second, .val (.int (3 : Int32))]) rfl ?_
    refine own_s_goto Xc21.here hx (hb hby own_d2_78) (by decide) (pc' := 44) (by decide) ?_
    refine own_s_iload Xc21.here hx (hb hby own_d2_44) (pc' := 46) rfl rfl ?_
    refine own_s_iloadN Xc21.here hx (hb hby own_d2_46) (pc' := 47) rfl rfl ?_
    refine own_s_icmpNo Xc21.here hx (hb hby own_d2_47) (pc' := 50) rfl (by decide) ?_
    refine own_s_dload Xc21.here hx (hb hby own_d2_50) (pc' := 52) rfl rfl ?_
    refine own_s_aloadN Xc21.here hx (hb hby own_d2_52) (pc' := 53) rfl rfl rfl ?_
    refine own_s_iload Xc21.here hx (hb hby own_d2_53) (pc' := 55) rfl rfl ?_
    refine own_s_iloadN Xc21.here hx (hb hby own_d2_55) (pc' := 56) rfl rfl ?_
    refine own_s_imul Xc21.here hx (hb hby own_d2_56) (pc' := 57) rfl (v := (0 : Int32)) (by decide) ?_
    refine own_s_iload Xc21.here hx (hb hby own_d2_57) (pc' := 59) rfl rfl ?_
    refine own_s_iadd Xc21.here hx (hb hby own_d2_59) (pc' := 60) rfl (v := (3 : Int32)) (by decide) ?_
    refine own_ldD Xc21 hx hZ ec21 V_qa_c21 (j := (3 : Int32)) (x := d3) (by decide) rfl (hb hby own_d2_60) (pc' := 61) rfl ?_
    refine own_s_aloadN Xc21.here hx (hb hby own_d2_61) (pc' := 62) rfl rfl rfl ?_
    refine own_s_iload Xc21.here hx (hb hby own_d2_62) (pc' := 64) rfl rfl ?_
    refine own_s_iload Xc21.here hx (hb hby own_d2_64) (pc' := 66) rfl rfl ?_
    refine own_s_imul Xc21.here hx (hb hby own_d2_66) (pc' := 67) rfl (v := (3 : Int32)) (by decide) ?_
    refine own_s_iload Xc21.here hx (hb hby own_d2_67) (pc' := 69) rfl rfl ?_
    refine own_s_iadd Xc21.here hx (hb hby own_d2_69) (pc' := 70) rfl (v := (3 : Int32)) (by decide) ?_
    refine own_ldD Xc21 hx hZ ec21 V_qb_c21 (j := (3 : Int32)) (x := ee3) (by decide) rfl (hb hby own_d2_70) (pc' := 71) rfl ?_
    refine own_s_dmul Xc21.here hx (hb hby own_d2_71) (pc' := 72) rfl c2_hn71_4 (v := c2_v71_4) c2_hv71_4 ?_
    refine own_s_dadd Xc21.here hx (hb hby own_d2_72) (pc' := 73) rfl c2_hn72_4 (v := c2_v72_4) c2_hv72_4 ?_
    refine own_s_dstore Xc21.here hx (hb hby own_d2_73) (pc' := 75) rfl (L' := #[.val (.ref qa), .val (.ref qb), .val (.int (6 : Int32)), .val (.int (1 : Int32)), .val (.int (1 : Int32)), .val (.ref bc21), .val (.int (0 : Int32)), .val (.int (0 : Int32)), .val (.double c2_v72_4), .second, .val (.int (3 : Int32))]) rfl ?_
    refine own_s_iinc Xc21.here hx (hb hby own_d2_75) (pc' := 78) rfl rfl (v := (4 : Int32)) (by decide) (L' := #[.val (.ref qa), .val (.ref qb), .val (.int (6 : Int32)), .val (.int (1 : Int32)), .val (.int (1 : Int32)), .val (.ref bc21), .val (.int (0 : Int32)), .val (.int (0 : Int32)), .val (.double c2_v72_4), .second, .val (.int (4 : Int32))]) rfl ?_
    refine own_s_goto Xc21.here hx (hb hby own_d2_78) (by decide) (pc' := 44) (by decide) ?_
    refine own_s_iload Xc21.here hx (hb hby own_d2_44) (pc' := 46) rfl rfl ?_
    refine own_s_iloadN Xc21.here hx (hb hby own_d2_46) (pc' := 47) rfl rfl ?_
    refine own_s_icmpNo Xc21.here hx (hb hby own_d2_47) (pc' := 50) rfl (by decide) ?_
    refine own_s_dload Xc21.here hx (hb hby own_d2_50) (pc' := 52) rfl rfl ?_
    refine own_s_aloadN Xc21.here hx (hb hby own_d2_52) (pc' := 53) rfl rfl rfl ?_
    refine own_s_iload Xc21.here hx (hb hby own_d2_53) (pc' := 55) rfl rfl ?_
    refine own_s_iloadN Xc21.here hx (hb hby own_d2_55) (pc' := 56) rfl rfl ?_
    refine own_s_imul Xc21.here hx (hb hby own_d2_56) (pc' := 57) rfl (v := (0 : Int32)) (by decide) ?_
    refine own_s_iload Xc21.here hx (hb hby own_d2_57) (pc' := 59) rfl rfl ?_
    refine own_s_iadd Xc21.here hx (hb hby own_d2_59) (pc' := 60) rfl (v := (4 : Int32)) (by decide) ?_
    refine own_ldD Xc21 hx hZ ec21 V_qa_c21 (j := (4 : Int32)) (x := d4) (by decide) rfl (hb hby own_d2_60) (pc' := 61) rfl ?_
    refine own_s_aloadN Xc21.here hx (hb hby own_d2_61) (pc' := 62) rfl rfl rfl ?_
    refine own_s_iload Xc21.here hx (hb hby own_d2_62) (pc' := 64) rfl rfl ?_
    refine own_s_iload Xc21.here hx (hb hby own_d2_64) (pc' := 66) rfl rfl ?_
    refine own_s_imul Xc21.here hx (hb hby own_d2_66) (pc' := 67) rfl (v := (4 : Int32)) (by decide) ?_
    refine own_s_iload Xc21.here hx (hb hby own_d2_67) (pc' := 69) rfl rfl ?_
    refine own_s_iadd Xc21.here hx (hb hby own_d2_69) (pc' := 70) rfl (v := (4 : Int32)) (by decide) ?_
    refine own_ldD Xc21 hx hZ ec21 V_qb_c21 (j := (4 : Int32)) (x := ee4) (by decide) rfl (hb hby own_d2_70) (pc' := 71) rfl ?_
    refine own_s_dmul Xc21.here hx (hb hby own_d2_71) (pc' := 72) rfl c2_hn71_5 (v := c2_v71_5) c2_hv71_5 ?_
    refine own_s_dadd Xc21.here hx (hb hby own_d2_72) (pc' := 73) rfl c2_hn72_5 (v := c2_v72_5) c2_hv72_5 ?_
    refine own_s_dstore Xc21.here hx (hb hby own_d2_73) (pc' := 75) rfl (L' := #[.val (.ref qa), .val (.ref qb), .val (.int (6 : Int32)), .val (.int (1 : Int32)), .val (.int (1 : Int32)), .val (.ref bc21), .val (.int (0 : Int32)), .val (.int (0 : Int32)), .val (.double c2_v72_5), .second, .val (.int (4 : Int32))]) rfl ?_
    refine own_s_iinc Xc21.here hx (hb hby own_d2_75) (pc' := 78) rfl rfl (v := (5 : Int32)) (by decide) (L' := #[.val (.ref qa), .val (.ref qb), .val (.int (6 : Int32)), .val (.int (1 : Int32)), .val (.int (1 : Int32)), .val (.ref bc21), .val (.int (0 : Int32)), .val (.int (0 : Int32)), .val (.double c2_v72_5), .second, .val (.int (5 : Int32))]) rfl ?_
    refine own_s_goto Xc21.here hx (hb hby own_d2_78) (by decide) (pc' := 44) (by decide) ?_
    refine own_s_iload Xc21.here hx (hb hby own_d2_44) (pc' := 46) rfl rfl ?_
    refine own_s_iloadN Xc21.here hx (hb hby own_d2_46) (pc' := 47) rfl rfl ?_
    refine own_s_icmpNo Xc21.here hx (hb hby own_d2_47) (pc' := 50) rfl (by decide) ?_
    refine own_s_dload Xc21.here hx (hb hby own_d2_50) (pc' := 52) rfl rfl ?_
    refine own_s_aloadN Xc21.here hx (hb hby own_d2_52) (pc' := 53) rfl rfl rfl ?_
    refine own_s_iload Xc21.here hx (hb hby own_d2_53) (pc' := 55) rfl rfl ?_
    refine own_s_iloadN Xc21.here hx (hb hby own_d2_55) (pc' := 56) rfl rfl ?_
    refine own_s_imul Xc21.here hx (hb hby own_d2_56) (pc' := 57) rfl (v := (0 : Int32)) (by decide) ?_
    refine own_s_iload Xc21.here hx (hb hby own_d2_57) (pc' := 59) rfl rfl ?_
    refine own_s_iadd Xc21.here hx (hb hby own_d2_59) (pc' := 60) rfl (v := (5 : Int32)) (by decide) ?_
    refine own_ldD Xc21 hx hZ ec21 V_qa_c21 (j := (5 : Int32)) (x := d5) (by decide) rfl (hb hby own_d2_60) (pc' := 61) rfl ?_
    refine own_s_aloadN Xc21.here hx (hb hby own_d2_61) (pc' := 62) rfl rfl rfl ?_
    refine own_s_iload Xc21.here hx (hb hby own_d2_62) (pc' := 64) rfl rfl ?_
    refine own_s_iload Xc21.here hx (hb hby own_d2_64) (pc' := 66) rfl rfl ?_
    refine own_s_imul Xc21.here hx (hb hby own_d2_66) (pc' := 67) rfl (v := (5 : Int32)) (by decide) ?_
    refine own_s_iload Xc21.here hx (hb hby own_d2_67) (pc' := 69) rfl rfl ?_
    refine own_s_iadd Xc21.here hx (hb hby own_d2_69) (pc' := 70) rfl (v := (5 : Int32)) (by decide) ?_
    refine own_ldD Xc21 hx hZ ec21 V_qb_c21 (j := (5 : Int32)) (x := ee5) (by decide) rfl (hb hby own_d2_70) (pc' := 71) rfl ?_
    refine own_s_dmul Xc21.here hx (hb hby own_d2_71) (pc' := 72) rfl c2_hn71_6 (v := c2_v71_6) c2_hv71_6 ?_
    refine own_s_dadd Xc21.here hx (hb hby own_d2_72) (pc' := 73) rfl c2_hn72_6 (v := c2_v72_6) c2_hv72_6 ?_
    refine own_s_dstore Xc21.here hx (hb hby own_d2_73) (pc' := 75) rfl (L' := #[.val (.ref qa), .val (.ref qb), .val (.int (6 : Int32)), .val (.int (1 : Int32)), .val (.int (1 : Int32)), .val (.ref bc21), .val (.int (0 : Int32)), .val (.int (0 : Int32)), .val (.double c2_v72_6), .second, .val (.int (5 : Int32))]) rfl ?_
    refine own_s_iinc Xc21.here hx (hb hby own_d2_75) (pc' := 78) rfl rfl (v := (6 : Int32)) (by decide) (L' := #[.val (.ref qa), .val (.ref qb), .val (.int (6 : Int32)), .val (.int (1 : Int32)), .val (.int (1 : Int32)), .val (.ref bc21), .val (.int (0 : Int32)), .val (.int (0 : Int32)), .val (.double c2_v72_6), .second, .val (.int (6 : Int32))]) rfl ?_
    refine own_s_goto Xc21.here hx (hb hby own_d2_78) (by decide) (pc' := 44) (by decide) ?_
    refine own_s_iload Xc21.here hx (hb hby own_d2_44) (pc' := 46) rfl rfl ?_
    refine own_s_iloadN Xc21.here hx (hb hby own_d2_46) (pc' := 47) rfl rfl ?_
    refine own_s_icmpYes Xc21.here hx (hb hby own_d2_47) (by decide) (pc' := 81) (by decide) (by decide) ?_
    refine own_s_aload Xc21.here hx (hb hby own_d2_81) (pc' := 83) rfl rfl rfl ?_
    refine own_s_iload Xc21.here hx (hb hby own_d2_83) (pc' := 85) rfl rfl ?_
    refine own_s_iload Xc21.here hx (hb hby own_d2_85) (pc' := 87) rfl rfl ?_
    refine own_s_imul Xc21.here hx (hb hby own_d2_87) (pc' := 88) rfl (v := (0 : Int32)) (by decide) ?_
    refine own_s_iload Xc21.here hx (hb hby own_d2_88) (pc' := 90) rfl rfl ?_
    refine own_s_iadd Xc21.here hx (hb hby own_d2_90) (pc' := 91) rfl (v := (0 : Int32)) (by decide) ?_
    refine own_s_dload Xc21.here hx (hb hby own_d2_91) (pc' := 93) rfl rfl ?_
    refine stc22 _ ?_
    refine own_s_iinc Xc22.here hx (hb hby own_d2_94) (pc' := 97) rfl rfl (v := (1 : Int32)) (by decide) (L' := #[.val (.ref qa), .val (.ref qb), .val (.int (6 : Int32)), .val (.int (1 : Int32)), .val (.int (1 : Int32)), .val (.ref bc21), .val (.int (0 : Int32)), .val (.int (1 : Int32)), .val (.double c2_v72_6), .second, .val (.int (6 : Int32))]) rfl ?_
    refine own_s_goto Xc22.here hx (hb hby own_d2_97) (by decide) (pc' := 31) (by decide) ?_
    refine own_s_iload Xc22.here hx (hb hby own_d2_31) (pc' := 33) rfl rfl ?_
    refine own_s_iload Xc22.here hx (hb hby own_d2_33) (pc' := 35) rfl rfl ?_
    refine own_s_icmpYes Xc22.here hx (hb hby own_d2_35) (by decide) (pc' := 100) (by decide) (by decide) ?_
    refine own_s_iinc Xc22.here hx (hb hby own_d2_100) (pc' := 103) rfl rfl (v := (1 : Int32)) (by decide) (L' := #[.val (.ref qa), .val (.ref qb), .val (.int (6 : Int32)), .val (.int (1 : Int32)), .val (.int (1 : Int32)), .val (.ref bc21), .val (.int (1 : Int32)), .val (.int (1 : Int32)), .val (.double c2_v72_6), .second, .val (.int (6 : Int32))]) rfl ?_
    refine own_s_goto Xc22.here hx (hb hby own_d2_103) (by decide) (pc' := 22) (by decide) ?_
    refine own_s_iload Xc22.here hx (hb hby own_d2_22) (pc' := 24) rfl rfl ?_
    refine own_s_iloadN Xc22.here hx (hb hby own_d2_24) (pc' := 25) rfl rfl ?_
    refine own_s_icmpYes Xc22.here hx (hb hby own_d2_25) (by decide) (pc' := 106) (by decide) (by decide) ?_
    refine own_s_aload Xc22.here hx (hb hby own_d2_106) (pc' := 108) rfl rfl rfl ?_
    exact own_retR Xc22 hx Bd.returns rfl (hb hby own_d2_108) hr
  · show own_Q_c2 Z qa d0 d1 d2 d3 d4 d5 qb ee0 ee1 ee2 ee3 ee4 ee5 qak qbk c2_v71 c2_v72 c2_v71_2 c2_v72_2 c2_v71_3 c2_v72_3 c2_v71_4 c2_v72_4 c2_v71_5 c2_v72_5 c2_v71_6 c2_v72_6 h0 n0 _ Tc22.heap _
    rw [ec22]
    exact ⟨bc21, kc21, rfl, Nc22, KKc22, sz_bc21, V_bc21_c22⟩
theorem own_ef_w2 (m : MethodId) (p0 : Int64) (p1 : Int64) (p2 : Int32) : entryFrame m #[(.long p0), (.long p1), (.int p2)] maxLocals = mkF m 0 #[.val (.long p0), .second, .val (.long p1), .second, .val (.int p2), .unset, .unset, .unset, .unset, .unset, .unset, .unset, .unset, .unset, .unset, .unset, .unset, .unset, .unset, .unset, .unset] [] := by first | (simp [entryFrame, mkF, argsToLocals, Value.category, maxLocals]; done) | rfl
set_option maxRecDepth 65536 in
set_option maxHeartbeats 40000000 in
theorem own_rm_w2 (l : Launch) (Z : State) (a0 : Array Value) (hw : ∀ d ∈ tables_1, d.before a0 Z = true) (ws : List Jvm.Cond) (p0 : Int64) (p1 : Int64) (p2 : Int32) {w2_c2_a0_v5 : Int64} {w2_c2_a0_v6 : Int32} {w2_c2_a0_v7 : Int32} {w2_c9_a1_v5 : Int64} {w2_c9_a1_v6 : Int32} {w2_c9_a1_v7 : Int32} {w2_c16_a2_v5 : Int64} {w2_c16_a2_v6 : Int32} {w2_c16_a2_v7 : Int32} {w2_c23_a3_v5 : Int64} {w2_c23_a3_v6 : Int32} {w2_c23_a3_v7 : Int32} {w2_c30_a4_v5 : Int64} {w2_c30_a4_v6 : Int32} {w2_c30_a4_v7 : Int32} {w2_c37_a5_v5 : Int64} {w2_c37_a5_v6 : Int32} {w2_c37_a5_v7 : Int32} {w2_c44_a0_v5 : Int64} {w2_c44_a0_v6 : Int32} {w2_c44_a0_v7 : Int32} {w2_c51_a1_v5 : Int64} {w2_c51_a1_v6 : Int32} {w2_c51_a1_v7 : Int32} {w2_c58_a2_v5 : Int64} {w2_c58_a2_v6 : Int32} {w2_c58_a2_v7 : Int32} {w2_c65_a3_v5 : Int64} {w2_c65_a3_v6 : Int32} {w2_c65_a3_v7 : Int32} {w2_c72_a4_v5 : Int64} {w2_c72_a4_v6 : Int32} {w2_c72_a4_v7 : Int32} {w2_c79_a5_v5 : Int64} {w2_c79_a5_v6 : Int32} {w2_c79_a5_v7 : Int32} {w2_v172 : Int32} {w2_c545_c2_v71 : UInt64} {w2_c545_c2_v72 : UInt64} {w2_c545_c2_v71_2 : UInt64} {w2_c545_c2_v72_2 : UInt64} {w2_c545_c2_v71_3 : UInt64} {w2_c545_c2_v72_3 : UInt64} {w2_c545_c2_v71_4 : UInt64} {w2_c545_c2_v72_4 : UInt64} {w2_c545_c2_v71_5 : UInt64} {w2_c545_c2_v72_5 : UInt64} {w2_c545_c2_v71_6 : UInt64} {w2_c545_c2_v72_6 : UInt64} {w2_v567 : Int32} {w2_v572 : Int32} {w2_v573 : Int32} {w2_v578 : Int32} {w2_v579 : Int32} {w2_v584 : Int32} {w2_v585 : Int32} {w2_v590 : Int32} {w2_v591 : Int32} {w2_v596 : Int32} {w2_v597 : Int32} (h0 : Heap) (n0 : Nat) (Z0 : n0 ≤ h0.size)  (w2_c2_a0_hv5 : p0 >>> ((0 : Int32) &&& 63).toInt64 = w2_c2_a0_v5) (w2_c2_a0_hv6 : Int64.toInt32 w2_c2_a0_v5 = w2_c2_a0_v6) (w2_c2_a0_hv7 : (Int32.toInt8 w2_c2_a0_v6).toInt32 = w2_c2_a0_v7) (w2_c9_a1_hv5 : p0 >>> ((8 : Int32) &&& 63).toInt64 = w2_c9_a1_v5) (w2_c9_a1_hv6 : Int64.toInt32 w2_c9_a1_v5 = w2_c9_a1_v6) (w2_c9_a1_hv7 : (Int32.toInt8 w2_c9_a1_v6).toInt32 = w2_c9_a1_v7) (w2_c16_a2_hv5 : p0 >>> ((16 : Int32) &&& 63).toInt64 = w2_c16_a2_v5) (w2_c16_a2_hv6 : Int64.toInt32 w2_c16_a2_v5 = w2_c16_a2_v6) (w2_c16_a2_hv7 : (Int32.toInt8 w2_c16_a2_v6).toInt32 = w2_c16_a2_v7) (w2_c23_a3_hv5 : p0 >>> ((24 : Int32) &&& 63).toInt64 = w2_c23_a3_v5) (w2_c23_a3_hv6 : Int64.toInt32 w2_c23_a3_v5 = w2_c23_a3_v6) (w2_c23_a3_hv7 : (Int32.toInt8 w2_c23_a3_v6).toInt32 = w2_c23_a3_v7) (w2_c30_a4_hv5 : p0 >>> ((32 : Int32) &&& 63).toInt64 = w2_c30_a4_v5) (w2_c30_a4_hv6 : Int64.toInt32 w2_c30_a4_v5 = w2_c30_a4_v6) (w2_c30_a4_hv7 : (Int32.toInt8 w2_c30_a4_v6).toInt32 = w2_c30_a4_v7) (w2_c37_a5_hv5 : p0 >>> ((40 : Int32) &&& 63).toInt64 = w2_c37_a5_v5) (w2_c37_a5_hv6 : Int64.toInt32 w2_c37_a5_v5 = w2_c37_a5_v6) (w2_c37_a5_hv7 : (Int32.toInt8 w2_c37_a5_v6).toInt32 = w2_c37_a5_v7) (w2_c44_a0_hv5 : p1 >>> ((0 : Int32) &&& 63).toInt64 = w2_c44_a0_v5) (w2_c44_a0_hv6 : Int64.toInt32 w2_c44_a0_v5 = w2_c44_a0_v6) (w2_c44_a0_hv7 : (Int32.toInt8 w2_c44_a0_v6).toInt32 = w2_c44_a0_v7) (w2_c51_a1_hv5 : p1 >>> ((8 : Int32) &&& 63).toInt64 = w2_c51_a1_v5) (w2_c51_a1_hv6 : Int64.toInt32 w2_c51_a1_v5 = w2_c51_a1_v6) (w2_c51_a1_hv7 : (Int32.toInt8 w2_c51_a1_v6).toInt32 = w2_c51_a1_v7) (w2_c58_a2_hv5 : p1 >>> ((16 : Int32) &&& 63).toInt64 = w2_c58_a2_v5) (w2_c58_a2_hv6 : Int64.toInt32 w2_c58_a2_v5 = w2_c58_a2_v6) (w2_c58_a2_hv7 : (Int32.toInt8 w2_c58_a2_v6).toInt32 = w2_c58_a2_v7) (w2_c65_a3_hv5 : p1 >>> ((24 : Int32) &&& 63).toInt64 = w2_c65_a3_v5) (w2_c65_a3_hv6 : Int64.toInt32 w2_c65_a3_v5 = w2_c65_a3_v6) (w2_c65_a3_hv7 : (Int32.toInt8 w2_c65_a3_v6).toInt32 = w2_c65_a3_v7) (w2_c72_a4_hv5 : p1 >>> ((32 : Int32) &&& 63).toInt64 = w2_c72_a4_v5) (w2_c72_a4_hv6 : Int64.toInt32 w2_c72_a4_v5 = w2_c72_a4_v6) (w2_c72_a4_hv7 : (Int32.toInt8 w2_c72_a4_v6).toInt32 = w2_c72_a4_v7) (w2_c79_a5_hv5 : p1 >>> ((40 : Int32) &&& 63).toInt64 = w2_c79_a5_v5) (w2_c79_a5_hv6 : Int64.toInt32 w2_c79_a5_v5 = w2_c79_a5_v6) (w2_c79_a5_hv7 : (Int32.toInt8 w2_c79_a5_v6).toInt32 = w2_c79_a5_v7) (w2_hv172 : p2 &&& (2147483647 : Int32) = w2_v172) (w2_hv174 : w2_v172 % (3 : Int32) = (2 : Int32)) (w2_c545_c2_hn71 : Jvm.Free.Fl.NoNaN64 (FP.dmul (FP.i2d w2_c2_a0_v7) (FP.i2d w2_c44_a0_v7))) (w2_c545_c2_hv71 : FP.dmul (FP.i2d w2_c2_a0_v7) (FP.i2d w2_c44_a0_v7) = w2_c545_c2_v71) (w2_c545_c2_hn72 : Jvm.Free.Fl.NoNaN64 (FP.dadd 0 w2_c545_c2_v71)) (w2_c545_c2_hv72 : FP.dadd 0 w2_c545_c2_v71 = w2_c545_c2_v72) (w2_c545_c2_hn71_2 : Jvm.Free.Fl.NoNaN64 (FP.dmul (FP.i2d w2_c9_a1_v7) (FP.i2d w2_c51_a1_v7))) (w2_c545_c2_hv71_2 : FP.dmul (FP.i2d w2_c9_a1_v7) (FP.i2d w2_c51_a1_v7) = w2_c545_c2_v71_2) (w2_c545_c2_hn72_2 : Jvm.Free.Fl.NoNaN64 (FP.dadd w2_c545_c2_v72 w2_c545_c2_v71_2)) (w2_c545_c2_hv72_2 : FP.dadd w2_c545_c2_v72 w2_c545_c2_v71_2 = w2_c545_c2_v72_2) (w2_c545_c2_hn71_3 : Jvm.Free.Fl.NoNaN64 (FP.dmul (FP.i2d w2_c16_a2_v7) (FP.i2d w2_c58_a2_v7))) (w2_c545_c2_hv71_3 : FP.dmul (FP.i2d w2_c16_a2_v7) (FP.i2d w2_c58_a2_v7) = w2_c545_c2_v71_3) (w2_c545_c2_hn72_3 : Jvm.Free.Fl.NoNaN64 (FP.dadd w2_c545_c2_v72_2 w2_c545_c2_v71_3)) (w2_c545_c2_hv72_3 : FP.dadd w2_c545_c2_v72_2 w2_c545_c2_v71_3 = w2_c545_c2_v72_3) (w2_c545_c2_hn71_4 : Jvm.Free.Fl.NoNaN64 (FP.dmul (FP.i2d w2_c23_a3_v7) (FP.i2d w2_c65_a3_v7))) (w2_c545_c2_hv71_4 : FP.dmul (FP.i2d w2_c23_a3_v7) (FP.i2d w2_c65_a3_v7) = w2_c545_c2_v71_4) (w2_c545_c2_hn72_4 : Jvm.Free.Fl.NoNaN64 (FP.dadd w2_c545_c2_v72_3 w2_c545_c2_v71_4)) (w2_c545_c2_hv72_4 : FP.dadd w2_c545_c2_v72_3 w2_c545_c2_v71_4 = w2_c545_c2_v72_4) (w2_c545_c2_hn71_5 : Jvm.Free.Fl.NoNaN64 (FP.dmul (FP.i2d w2_c30_a4_v7) (FP.i2d w2_c72_a4_v7))) (w2_c545_c2_hv71_5 : FP.dmul (FP.i2d w2_c30_a4_v7) (FP.i2d w2_c72_a4_v7) = w2_c545_c2_v71_5) (w2_c545_c2_hn72_5 : Jvm.Free.Fl.NoNaN64 (FP.dadd w2_c545_c2_v72_4 w2_c545_c2_v71_5)) (w2_c545_c2_hv72_5 : FP.dadd w2_c545_c2_v72_4 w2_c545_c2_v71_5 = w2_c545_c2_v72_5) (w2_c545_c2_hn71_6 : Jvm.Free.Fl.NoNaN64 (FP.dmul (FP.i2d w2_c37_a5_v7) (FP.i2d w2_c79_a5_v7))) (w2_c545_c2_hv71_6 : FP.dmul (FP.i2d w2_c37_a5_v7) (FP.i2d w2_c79_a5_v7) = w2_c545_c2_v71_6) (w2_c545_c2_hn72_6 : Jvm.Free.Fl.NoNaN64 (FP.dadd w2_c545_c2_v72_5 w2_c545_c2_v71_6)) (w2_c545_c2_hv72_6 : FP.dadd w2_c545_c2_v72_5 w2_c545_c2_v71_6 = w2_c545_c2_v72_6) (w2_hv567 : w2_c2_a0_v7 * w2_c44_a0_v7 = w2_v567) (w2_hv572 : w2_c9_a1_v7 * w2_c51_a1_v7 = w2_v572) (w2_hv573 : w2_v567 + w2_v572 = w2_v573) (w2_hv578 : w2_c16_a2_v7 * w2_c58_a2_v7 = w2_v578) (w2_hv579 : w2_v573 + w2_v578 = w2_v579) (w2_hv584 : w2_c23_a3_v7 * w2_c65_a3_v7 = w2_v584) (w2_hv585 : w2_v579 + w2_v584 = w2_v585) (w2_hv590 : w2_c30_a4_v7 * w2_c72_a4_v7 = w2_v590) (w2_hv591 : w2_v585 + w2_v590 = w2_v591) (w2_hv596 : w2_c37_a5_v7 * w2_c79_a5_v7 = w2_v596) (w2_hv597 : w2_v591 + w2_v596 = w2_v597) (w2_c598_same_h1 : Op.cmpValue (FP.dcmp w2_c545_c2_v72_6 (FP.i2d w2_v597)) .l = (0 : Int32)) (w2_c598_same_h2 : w2_v597 = 0 → w2_c545_c2_v72_6 = 0) :
    MetFree l x (head1 (Jvm.Cond.code x code maxLocals ret :: ws) room_1) (fun a U => a = #[(.long p0), (.long p1), (.int p2)] ∧ Z.Warmed39 U.vm ∧ U.heap = h0) (fun _ _ _ _ _ => True) (fun _ U o U' => ∃ v L, o = .returned v ∧ own_Q0 n0 v U'.heap L ∧ FrameEnd U o U' L room_1.cells room_1.slots) := by
  refine MetFree.of_bodySF (plainFor_of_name own_pn_com_example_pintrinsic_pintrinsic_MatricesProductPinLaw) hisR ?_
  intro p e s m args below meth c s₁ Bd hml0 hP hK
  obtain ⟨rfl, hZ, hh⟩ := hP
  have hx := Bd.exec
  have hby := Bd.bytes
  have hml : c.maxLocals = 21 := hml0
  have hown : s.vm.findClass "com/example/pintrinsic/pintrinsic/MatricesProductPinLaw" = some m.cls := findClass_of_methodNamed Bd.named
  have hnm := (name_of_methodNamed Bd.named Bd.method).1
  have X0 : Stand p l e room_1 s m #[(.long p0), (.long p1), (.int p2)] below meth c s₁ [] 0 0 := Stand.of_body Bd
  have e0 : s₁.heap = h0 := by rw [← hh, Bd.state]; rfl
  have N0 := Fr.nil n0
  have pre0 : ∀ t, Steps p.tables e below (s₁.setTop (mkF m 0 #[.val (.long p0), .second, .val (.long p1), .second, .val (.int p2), .unset, .unset, .unset, .unset, .unset, .unset, .unset, .unset, .unset, .unset, .unset, .unset, .unset, .unset, .unset, .unset] [])) t → Steps p.tables e below (s₁.setTop (entryFrame m #[(.long p0), (.long p1), (.int p2)] maxLocals)) t := fun t k => castTop (own_ef_w2 m p0 p1 p2) k
  obtain ⟨_, _, ⟨Tw21, Lw21, kw21, nw21⟩, -, Xw21, ⟨Lcw21, hQw21, lw21, yw21, zw21⟩, stw21⟩ := Jvm.LawKit.callS X0 hx (y := (⟨"com/example/pintrinsic/pintrinsic/MatricesProductPinLaw", "at", "(JI)I"⟩ : MethodName)) hown (mvT hZ (hw _ (List.mem_of_getElem? (i := 0) rfl))) (mvT hZ (hw _ (List.mem_of_getElem? (i := 1) rfl))) (mvT hZ (hw _ (List.mem_of_getElem? (i := 2) rfl))) (mvT hZ (hw _ (List.mem_of_getElem? (i := 3) rfl))) (by decide) (backOf (W := 0) (own_rm_a0 l Z a0 hw [] p0 h0 n0 Z0 w2_c2_a0_hv5 w2_c2_a0_hv6 w2_c2_a0_hv7) hZ (hw _ (List.mem_of_getElem? (i := 3) rfl)) (hw _ (List.mem_of_getElem? (i := 2) rfl)) (by decide) (by decide)) (g := (mkF m 2 #[.val (.long p0), .second, .val (.long p1), .second, .val (.int p2), .unset, .unset, .unset, .unset, .unset, .unset, .unset, .unset, .unset, .unset, .unset, .unset, .unset, .unset, .unset, .unset] [(.int (0 : Int32)), (.long p0)])) rfl (by rw [hml]; rfl) (argsL := [(.long p0), (.int (0 : Int32))]) (rest := []) (lenOf own_pd_28JI29I rfl) rfl (by show 2 * 0 + _ ≤ _; exact Nat.le_of_eq rfl) (hb hby at_2) (fun _ _ => ⟨rfl, e0, (by decide : 0 + 0 ≤ _), (by decide : 0 + 0 ≤ _)⟩)
  dsimp only [Pt.U, Pt.locs, Pt.cells, Pt.slots] at Xw21 lw21 yw21 zw21 stw21 hQw21
  rw [lw21, yw21, zw21] at Xw21
  obtain ⟨rfl, Nw21q, ew21⟩ := hQw21
  have Nw21 := Fr.app N0 Nw21q
  obtain ⟨_, _, ⟨Tw22, Lw22, kw22, nw22⟩, -, Xw22, ⟨Lcw22, hQw22, lw22, yw22, zw22⟩, stw22⟩ := Jvm.LawKit.callS Xw21 hx (y := (⟨"com/example/pintrinsic/pintrinsic/MatricesProductPinLaw", "at", "(JI)I"⟩ : MethodName)) hown (mvT hZ (hw _ (List.mem_of_getElem? (i := 0) rfl))) (mvT hZ (hw _ (List.mem_of_getElem? (i := 1) rfl))) (mvT hZ (hw _ (List.mem_of_getElem? (i := 2) rfl))) (mvT hZ (hw _ (List.mem_of_getElem? (i := 3) rfl))) (by decide) (backOf (W := 0) (own_rm_a1 l Z a0 hw [] p0 h0 n0 Z0 w2_c9_a1_hv5 w2_c9_a1_hv6 w2_c9_a1_hv7) hZ (hw _ (List.mem_of_getElem? (i := 3) rfl)) (hw _ (List.mem_of_getElem? (i := 2) rfl)) (by decide) (by decide)) (g := (mkF m 9 #[.val (.long p0), .second, .val (.long p1), .second, .val (.int p2), .val (.int w2_c2_a0_v7), .unset, .unset, .unset, .unset, .unset, .unset, .unset, .unset, .unset, .unset, .unset, .unset, .unset, .unset, .unset] [(.int (1 : Int32)), (.long p0)])) rfl (by rw [hml]; rfl) (argsL := [(.long p0), (.int (1 : Int32))]) (rest := []) (lenOf own_pd_28JI29I rfl) rfl (by show 2 * 0 + _ ≤ _; exact Nat.le_of_eq rfl) (hb hby at_9) (fun _ _ => ⟨rfl, ew21, (by decide : 0 + 0 ≤ _), (by decide : 0 + 0 ≤ _)⟩)
  dsimp only [Pt.U, Pt.locs, Pt.cells, Pt.slots] at Xw22 lw22 yw22 zw22 stw22 hQw22
  rw [lw22, yw22, zw22] at Xw22
  obtain ⟨rfl, Nw22q, ew22⟩ := hQw22
  have Nw22 := Fr.app Nw21 Nw22q
  obtain ⟨_, _, ⟨Tw23, Lw23, kw23, nw23⟩, -, Xw23, ⟨Lcw23, hQw23, lw23, yw23, zw23⟩, stw23⟩ := Jvm.LawKit.callS Xw22 hx (y := (⟨"com/example/pintrinsic/pintrinsic/MatricesProductPinLaw", "at", "(JI)I"⟩ : MethodName)) hown (mvT hZ (hw _ (List.mem_of_getElem? (i := 0) rfl))) (mvT hZ (hw _ (List.mem_of_getElem? (i := 1) rfl))) (mvT hZ (hw _ (List.mem_of_getElem? (i := 2) rfl))) (mvT hZ (hw _ (List.mem_of_getElem? (i := 3) rfl))) (by decide) (backOf (W := 0) (own_rm_a2 l Z a0 hw [] p0 h0 n0 Z0 w2_c16_a2_hv5 w2_c16_a2_hv6 w2_c16_a2_hv7) hZ (hw _ (List.mem_of_getElem? (i := 3) rfl)) (hw _ (List.mem_of_getElem? (i := 2) rfl)) (by decide) (by decide)) (g := (mkF m 16 #[.val (.long p0), .second, .val (.long p1), .second, .val (.int p2), .val (.int w2_c2_a0_v7), .val (.int w2_c9_a1_v7), .unset, .unset, .unset, .unset, .unset, .unset, .unset, .unset, .unset, .unset, .unset, .unset, .unset, .unset] [(.int (2 : Int32)), (.long p0)])) rfl (by rw [hml]; rfl) (argsL := [(.long p0), (.int (2 : Int32))]) (rest := []) (lenOf own_pd_28JI29I rfl) rfl (by show 2 * 0 + _ ≤ _; exact Nat.le_of_eq rfl) (hb hby at_16) (fun _ _ => ⟨rfl, ew22, (by decide : 0 + 0 ≤ _), (by decide : 0 + 0 ≤ _)⟩)
  dsimp only [Pt.U, Pt.locs, Pt.cells, Pt.slots] at Xw23 lw23 yw23 zw23 stw23 hQw23
  rw [lw23, yw23, zw23] at Xw23
  obtain ⟨rfl, Nw23q, ew23⟩ := hQw23
  have Nw23 := Fr.app Nw22 Nw23q
  obtain ⟨_, _, ⟨Tw24, Lw24, kw24, nw24⟩, -, Xw24, ⟨Lcw24, hQw24, lw24, yw24, zw24⟩, stw24⟩ := Jvm.LawKit.callS Xw23 hx (y := (⟨"com/example/pintrinsic/pintrinsic/MatricesProductPinLaw", "at", "(JI)I"⟩ : MethodName)) hown (mvT hZ (hw _ (List.mem_of_getElem? (i := 0) rfl))) (mvT hZ (hw _ (List.mem_of_getElem? (i := 1) rfl))) (mvT hZ (hw _ (List.mem_of_getElem? (i := 2) rfl))) (mvT hZ (hw _ (List.mem_of_getElem? (i := 3) rfl))) (by decide) (backOf (W := 0) (own_rm_a3 l Z a0 hw [] p0 h0 n0 Z0 w2_c23_a3_hv5 w2_c23_a3_hv6 w2_c23_a3_hv7) hZ (hw _ (List.mem_of_getElem? (i := 3) rfl)) (hw _ (List.mem_of_getElem? (i := 2) rfl)) (by decide) (by decide)) (g := (mkF m 23 #[.val (.long p0), .second, .val (.long p1), .second, .val (.int p2), .val (.int w2_c2_a0_v7), .val (.int w2_c9_a1_v7), .val (.int w2_c16_a2_v7), .unset, .unset, .unset, .unset, .unset, .unset, .unset, .unset, .unset, .unset, .unset, .unset, .unset] [(.int (3 : Int32)), (.long p0)])) rfl (by rw [hml]; rfl) (argsL := [(.long p0), (.int (3 : Int32))]) (rest := []) (lenOf own_pd_28JI29I rfl) rfl (by show 2 * 0 + _ ≤ _; exact Nat.le_of_eq rfl) (hb hby at_23) (fun _ _ => ⟨rfl, ew23, (by decide : 0 + 0 ≤ _), (by decide : 0 + 0 ≤ _)⟩)
  dsimp only [Pt.U, Pt.locs, Pt.cells, Pt.slots] at Xw24 lw24 yw24 zw24 stw24 hQw24
  rw [lw24, yw24, zw24] at Xw24
  obtain ⟨rfl, Nw24q, ew24⟩ := hQw24
  have Nw24 := Fr.app Nw23 Nw24q
  obtain ⟨_, _, ⟨Tw25, Lw25, kw25, nw25⟩, -, Xw25, ⟨Lcw25, hQw25, lw25, yw25, zw25⟩, stw25⟩ := Jvm.LawKit.callS Xw24 hx (y := (⟨"com/example/pintrinsic/pintrinsic/MatricesProductPinLaw", "at", "(JI)I"⟩ : MethodName)) hown (mvT hZ (hw _ (List.mem_of_getElem? (i := 0) rfl))) (mvT hZ (hw _ (List.mem_of_getElem? (i := 1) rfl))) (mvT hZ (hw _ (List.mem_of_getElem? (i := 2) rfl))) (mvT hZ (hw _ (List.mem_of_getElem? (i := 3) rfl))) (by decide) (backOf (W := 0) (own_rm_a4 l Z a0 hw [] p0 h0 n0 Z0 w2_c30_a4_hv5 w2_c30_a4_hv6 w2_c30_a4_hv7) hZ (hw _ (List.mem_of_getElem? (i := 3) rfl)) (hw _ (List.mem_of_getElem? (i := 2) rfl)) (by decide) (by decide)) (g := (mkF m 30 #[.val (.long p0), .second, .val (.long p1), .second, .val (.int p2), .val (.int w2_c2_a0_v7), .val (.int w2_c9_a1_v7), .val (.int w2_c16_a2_v7), .val (.int w2_c23_a3_v7), .unset, .unset, .unset, .unset, .unset, .unset, .unset, .unset, .unset, .unset, .unset, .unset] [(.int (4 : Int32)), (.long p0)])) rfl (by rw [hml]; rfl) (argsL := [(.long p0), (.int (4 : Int32))]) (rest := []) (lenOf own_pd_28JI29I rfl) rfl (by show 2 * 0 + _ ≤ _; exact Nat.le_of_eq rfl) (hb hby at_30) (fun _ _ => ⟨rfl, ew24, (by decide : 0 + 0 ≤ _), (by decide : 0 + 0 ≤ _)⟩)
  dsimp only [Pt.U, Pt.locs, Pt.cells, Pt.slots] at Xw25 lw25 yw25 zw25 stw25 hQw25
  rw [lw25, yw25, zw25] at Xw25
  obtain ⟨rfl, Nw25q, ew25⟩ := hQw25
  have Nw25 := Fr.app Nw24 Nw25q
  obtain ⟨_, _, ⟨Tw26, Lw26, kw26, nw26⟩, -, Xw26, ⟨Lcw26, hQw26, lw26, yw26, zw26⟩, stw26⟩ := Jvm.LawKit.callS Xw25 hx (y := (⟨"com/example/pintrinsic/pintrinsic/MatricesProductPinLaw", "at", "(JI)I"⟩ : MethodName)) hown (mvT hZ (hw _ (List.mem_of_getElem? (i := 0) rfl))) (mvT hZ (hw _ (List.mem_of_getElem? (i := 1) rfl))) (mvT hZ (hw _ (List.mem_of_getElem? (i := 2) rfl))) (mvT hZ (hw _ (List.mem_of_getElem? (i := 3) rfl))) (by decide) (backOf (W := 0) (own_rm_a5 l Z a0 hw [] p0 h0 n0 Z0 w2_c37_a5_hv5 w2_c37_a5_hv6 w2_c37_a5_hv7) hZ (hw _ (List.mem_of_getElem? (i := 3) rfl)) (hw _ (List.mem_of_getElem? (i := 2) rfl)) (by decide) (by decide)) (g := (mkF m 37 #[.val (.long p0), .second, .val (.long p1), .second, .val (.int p2), .val (.int w2_c2_a0_v7), .val (.int w2_c9_a1_v7), .val (.int w2_c16_a2_v7), .val (.int w2_c23_a3_v7), .val (.int w2_c30_a4_v7), .unset, .unset, .unset, .unset, .unset, .unset, .unset, .unset, .unset, .unset, .unset] [(.int (5 : Int32)), (.long p0)])) rfl (by rw [hml]; rfl) (argsL := [(.long p0), (.int (5 : Int32))]) (rest := []) (lenOf own_pd_28JI29I rfl) rfl (by show 2 * 0 + _ ≤ _; exact Nat.le_of_eq rfl) (hb hby at_37) (fun _ _ => ⟨rfl, ew25, (by decide : 0 + 0 ≤ _), (by decide : 0 + 0 ≤ _)⟩)
  dsimp only [Pt.U, Pt.locs, Pt.cells, Pt.slots] at Xw26 lw26 yw26 zw26 stw26 hQw26
  rw [lw26, yw26, zw26] at Xw26
  obtain ⟨rfl, Nw26q, ew26⟩ := hQw26
  have Nw26 := Fr.app Nw25 Nw26q
  obtain ⟨_, _, ⟨Tw27, Lw27, kw27, nw27⟩, -, Xw27, ⟨Lcw27, hQw27, lw27, yw27, zw27⟩, stw27⟩ := Jvm.LawKit.callS Xw26 hx (y := (⟨"com/example/pintrinsic/pintrinsic/MatricesProductPinLaw", "at", "(JI)I"⟩ : MethodName)) hown (mvT hZ (hw _ (List.mem_of_getElem? (i := 0) rfl))) (mvT hZ (hw _ (List.mem_of_getElem? (i := 1) rfl))) (mvT hZ (hw _ (List.mem_of_getElem? (i := 2) rfl))) (mvT hZ (hw _ (List.mem_of_getElem? (i := 3) rfl))) (by decide) (backOf (W := 0) (own_rm_a0 l Z a0 hw [] p1 h0 n0 Z0 w2_c44_a0_hv5 w2_c44_a0_hv6 w2_c44_a0_hv7) hZ (hw _ (List.mem_of_getElem? (i := 3) rfl)) (hw _ (List.mem_of_getElem? (i := 2) rfl)) (by decide) (by decide)) (g := (mkF m 44 #[.val (.long p0), .second, .val (.long p1), .second, .val (.int p2), .val (.int w2_c2_a0_v7), .val (.int w2_c9_a1_v7), .val (.int w2_c16_a2_v7), .val (.int w2_c23_a3_v7), .val (.int w2_c30_a4_v7), .val (.int w2_c37_a5_v7), .unset, .unset, .unset, .unset, .unset, .unset, .unset, .unset, .unset, .unset] [(.int (0 : Int32)), (.long p1)])) rfl (by rw [hml]; rfl) (argsL := [(.long p1), (.int (0 : Int32))]) (rest := []) (lenOf own_pd_28JI29I rfl) rfl (by show 2 * 0 + _ ≤ _; exact Nat.le_of_eq rfl) (hb hby at_44) (fun _ _ => ⟨rfl, ew26, (by decide : 0 + 0 ≤ _), (by decide : 0 + 0 ≤ _)⟩)
  dsimp only [Pt.U, Pt.locs, Pt.cells, Pt.slots] at Xw27 lw27 yw27 zw27 stw27 hQw27
  rw [lw27, yw27, zw27] at Xw27
  obtain ⟨rfl, Nw27q, ew27⟩ := hQw27
  have Nw27 := Fr.app Nw26 Nw27q
  obtain ⟨_, _, ⟨Tw28, Lw28, kw28, nw28⟩, -, Xw28, ⟨Lcw28, hQw28, lw28, yw28, zw28⟩, stw28⟩ := Jvm.LawKit.callS Xw27 hx (y := (⟨"com/example/pintrinsic/pintrinsic/MatricesProductPinLaw", "at", "(JI)I"⟩ : MethodName)) hown (mvT hZ (hw _ (List.mem_of_getElem? (i := 0) rfl))) (mvT hZ (hw _ (List.mem_of_getElem? (i := 1) rfl))) (mvT hZ (hw _ (List.mem_of_getElem? (i := 2) rfl))) (mvT hZ (hw _ (List.mem_of_getElem? (i := 3) rfl))) (by decide) (backOf (W := 0) (own_rm_a1 l Z a0 hw [] p1 h0 n0 Z0 w2_c51_a1_hv5 w2_c51_a1_hv6 w2_c51_a1_hv7) hZ (hw _ (List.mem_of_getElem? (i := 3) rfl)) (hw _ (List.mem_of_getElem? (i := 2) rfl)) (by decide) (by decide)) (g := (mkF m 51 #[.val (.long p0), .second, .val (.long p1), .second, .val (.int p2), .val (.int w2_c2_a0_v7), .val (.int w2_c9_a1_v7), .val (.int w2_c16_a2_v7), .val (.int w2_c23_a3_v7), .val (.int w2_c30_a4_v7), .val (.int w2_c37_a5_v7), .val (.int w2_c44_a0_v7), .unset, .unset, .unset, .unset, .unset, .unset, .unset, .unset, .unset] [(.int (1 : Int32)), (.long p1)])) rfl (by rw [hml]; rfl) (argsL := [(.long p1), (.int (1 : Int32))]) (rest := []) (lenOf own_pd_28JI29I rfl) rfl (by show 2 * 0 + _ ≤ _; exact Nat.le_of_eq rfl) (hb hby at_51) (fun _ _ => ⟨rfl, ew27, (by decide : 0 + 0 ≤ _), (by decide : 0 + 0 ≤ _)⟩)
  dsimp only [Pt.U, Pt.locs, Pt.cells, Pt.slots] at Xw28 lw28 yw28 zw28 stw28 hQw28
  rw [lw28, yw28, zw28] at Xw28
  obtain ⟨rfl, Nw28q, ew28⟩ := hQw28
  have Nw28 := Fr.app Nw27 Nw28q
  obtain ⟨_, _, ⟨Tw29, Lw29, kw29, nw29⟩, -, Xw29, ⟨Lcw29, hQw29, lw29, yw29, zw29⟩, stw29⟩ := Jvm.LawKit.callS Xw28 hx (y := (⟨"com/example/pintrinsic/pintrinsic/MatricesProductPinLaw", "at", "(JI)I"⟩ : MethodName)) hown (mvT hZ (hw _ (List.mem_of_getElem? (i := 0) rfl))) (mvT hZ (hw _ (List.mem_of_getElem? (i := 1) rfl))) (mvT hZ (hw _ (List.mem_of_getElem? (i := 2) rfl))) (mvT hZ (hw _ (List.mem_of_getElem? (i := 3) rfl))) (by decide) (backOf (W := 0) (own_rm_a2 l Z a0 hw [] p1 h0 n0 Z0 w2_c58_a2_hv5 w2_c58_a2_hv6 w2_c58_a2_hv7) hZ (hw _ (List.mem_of_getElem? (i := 3) rfl)) (hw _ (List.mem_of_getElem? (i := 2) rfl)) (by decide) (by decide)) (g := (mkF m 58 #[.val (.long p0), .second, .val (.long p1), .second, .val (.int p2), .val (.int w2_c2_a0_v7), .val (.int w2_c9_a1_v7), .val (.int w2_c16_a2_v7), .val (.int w2_c23_a3_v7), .val (.int w2_c30_a4_v7), .val (.int w2_c37_a5_v7), .val (.int w2_c44_a0_v7), .val (.int w2_c51_a1_v7), .unset, .unset, .unset, .unset, .unset, .unset, .unset, .unset] [(.int (2 : Int32)), (.long p1)])) rfl (by rw [hml]; rfl) (argsL := [(.long p1), (.int (2 : Int32))]) (rest := []) (lenOf own_pd_28JI29I rfl) rfl (by show 2 * 0 + _ ≤ _; exact Nat.le_of_eq rfl) (hb hby at_58) (fun _ _ => ⟨rfl, ew28, (by decide : 0 + 0 ≤ _), (by decide : 0 + 0 ≤ _)⟩)
  dsimp only [Pt.U, Pt.locs, Pt.cells, Pt.slots] at Xw29 lw29 yw29 zw29 stw29 hQw29
  rw [lw29, yw29, zw29] at Xw29
  obtain ⟨rfl, Nw29q, ew29⟩ := hQw29
  have Nw29 := Fr.app Nw28 Nw29q
  obtain ⟨_, _, ⟨Tw210, Lw210, kw210, nw210⟩, -, Xw210, ⟨Lcw210, hQw210, lw210, yw210, zw210⟩, stw210⟩ := Jvm.LawKit.callS Xw29 hx (y := (⟨"com/example/pintrinsic/pintrinsic/MatricesProductPinLaw", "at", "(JI)I"⟩ : MethodName)) hown (mvT hZ (hw _ (List.mem_of_getElem? (i := 0) rfl))) (mvT hZ (hw _ (List.mem_of_getElem? (i := 1) rfl))) (mvT hZ (hw _ (List.mem_of_getElem? (i := 2) rfl))) (mvT hZ (hw _ (List.mem_of_getElem? (i := 3) rfl))) (by decide) (backOf (W := 0) (own_rm_a3 l Z a0 hw [] p1 h0 n0 Z0 w2_c65_a3_hv5 w2_c65_a3_hv6 w2_c65_a3_hv7) hZ (hw _ (List.mem_of_getElem? (i := 3) rfl)) (hw _ (List.mem_of_getElem? (i := 2) rfl)) (by decide) (by decide)) (g := (mkF m 65 #[.val (.long p0), .second, .val (.long p1), .second, .val (.int p2), .val (.int w2_c2_a0_v7), .val (.int w2_c9_a1_v7), .val (.int w2_c16_a2_v7), .val (.int w2_c23_a3_v7), .val (.int w2_c30_a4_v7), .val (.int w2_c37_a5_v7), .val (.int w2_c44_a0_v7), .val (.int w2_c51_a1_v7), .val (.int w2_c58_a2_v7), .unset, .unset, .unset, .unset, .unset, .unset, .unset] [(.int (3 : Int32)), (.long p1)])) rfl (by rw [hml]; rfl) (argsL := [(.long p1), (.int (3 : Int32))]) (rest := []) (lenOf own_pd_28JI29I rfl) rfl (by show 2 * 0 + _ ≤ _; exact Nat.le_of_eq rfl) (hb hby at_65) (fun _ _ => ⟨rfl, ew29, (by decide : 0 + 0 ≤ _), (by decide : 0 + 0 ≤ _)⟩)
  dsimp only [Pt.U, Pt.locs, Pt.cells, Pt.slots] at Xw210 lw210 yw210 zw210 stw210 hQw210
  rw [lw210, yw210, zw210] at Xw210
  obtain ⟨rfl, Nw210q, ew210⟩ := hQw210
  have Nw210 := Fr.app Nw29 Nw210q
  obtain ⟨_, _, ⟨Tw211, Lw211, kw211, nw211⟩, -, Xw211, ⟨Lcw211, hQw211, lw211, yw211, zw211⟩, stw211⟩ := Jvm.LawKit.callS Xw210 hx (y := (⟨"com/example/pintrinsic/pintrinsic/MatricesProductPinLaw", "at", "(JI)I"⟩ : MethodName)) hown (mvT hZ (hw _ (List.mem_of_getElem? (i := 0) rfl))) (mvT hZ (hw _ (List.mem_of_getElem? (i := 1) rfl))) (mvT hZ (hw _ (List.mem_of_getElem? (i := 2) rfl))) (mvT hZ (hw _ (List.mem_of_getElem? (i := 3) rfl))) (by decide) (backOf (W := 0) (own_rm_a4 l Z a0 hw [] p1 h0 n0 Z0 w2_c72_a4_hv5 w2_c72_a4_hv6 w2_c72_a4_hv7) hZ (hw _ (List.mem_of_getElem? (i := 3) rfl)) (hw _ (List.mem_of_getElem? (i := 2) rfl)) (by decide) (by decide)) (g := (mkF m 72 #[.val (.long p0), .second, .val (.long p1), .second, .val (.int p2), .val (.int w2_c2_a0_v7), .val (.int w2_c9_a1_v7), .val (.int w2_c16_a2_v7), .val (.int w2_c23_a3_v7), .val (.int w2_c30_a4_v7), .val (.int w2_c37_a5_v7), .val (.int w2_c44_a0_v7), .val (.int w2_c51_a1_v7), .val (.int w2_c58_a2_v7), .val (.int w2_c65_a3_v7), .unset, .unset, .unset, .unset, .unset, .unset] [(.int (4 : Int32)), (.long p1)])) rfl (by rw [hml]; rfl) (argsL := [(.long p1), (.int (4 : Int32))]) (rest := []) (lenOf own_pd_28JI29I rfl) rfl (by show 2 * 0 + _ ≤ _; exact Nat.le_of_eq rfl) (hb hby at_72) (fun _ _ => ⟨rfl, ew210, (by decide : 0 + 0 ≤ _), (by decide : 0 + 0 ≤ _)⟩)
  dsimp only [Pt.U, Pt.locs, Pt.cells, Pt.slots] at Xw211 lw211 yw211 zw211 stw211 hQw211
  rw [lw211, yw211, zw211] at Xw211
  obtain ⟨rfl, Nw211q, ew211⟩ := hQw211
  have Nw211 := Fr.app Nw210 Nw211q
  obtain ⟨_, _, ⟨Tw212, Lw212, kw212, nw212⟩, -, Xw212, ⟨Lcw212, hQw212, lw212, yw212, zw212⟩, stw212⟩ := Jvm.LawKit.callS Xw211 hx (y := (⟨"com/example/pintrinsic/pintrinsic/MatricesProductPinLaw", "at", "(JI)I"⟩ : MethodName)) hown (mvT hZ (hw _ (List.mem_of_getElem? (i := 0) rfl))) (mvT hZ (hw _ (List.mem_of_getElem? (i := 1) rfl))) (mvT hZ (hw _ (List.mem_of_getElem? (i := 2) rfl))) (mvT hZ (hw _ (List.mem_of_getElem? (i := 3) rfl))) (by decide) (backOf (W := 0) (own_rm_a5 l Z a0 hw [] p1 h0 n0 Z0 w2_c79_a5_hv5 w2_c79_a5_hv6 w2_c79_a5_hv7) hZ (hw _ (List.mem_of_getElem? (i := 3) rfl)) (hw _ (List.mem_of_getElem? (i := 2) rfl)) (by decide) (by decide)) (g := (mkF m 79 #[.val (.long p0), .second, .val (.long p1), .second, .val (.int p2), .val (.int w2_c2_a0_v7), .val (.int w2_c9_a1_v7), .val (.int w2_c16_a2_v7), .val (.int w2_c23_a3_v7), .val (.int w2_c30_a4_v7), .val (.int w2_c37_a5_v7), .val (.int w2_c44_a0_v7), .val (.int w2_c51_a1_v7), .val (.int w2_c58_a2_v7), .val (.int w2_c65_a3_v7), .val (.int w2_c72_a4_v7), .unset, .unset, .unset, .unset, .unset] [(.int (5 : Int32)), (.long p1)])) rfl (by rw [hml]; rfl) (argsL := [(.long p1), (.int (5 : Int32))]) (rest := []) (lenOf own_pd_28JI29I rfl) rfl (by show 2 * 0 + _ ≤ _; exact Nat.le_of_eq rfl) (hb hby at_79) (fun _ _ => ⟨rfl, ew211, (by decide : 0 + 0 ≤ _), (by decide : 0 + 0 ≤ _)⟩)
  dsimp only [Pt.U, Pt.locs, Pt.cells, Pt.slots] at Xw212 lw212 yw212 zw212 stw212 hQw212
  rw [lw212, yw212, zw212] at Xw212
  obtain ⟨rfl, Nw212q, ew212⟩ := hQw212
  have Nw212 := Fr.app Nw211 Nw212q
  obtain ⟨Tw213, hw213, kw213, bw213, Xw213, ew213, Ew213, Gw213, Vw213, stw213⟩ := own_newD (L := #[.val (.long p0), .second, .val (.long p1), .second, .val (.int p2), .val (.int w2_c2_a0_v7), .val (.int w2_c9_a1_v7), .val (.int w2_c16_a2_v7), .val (.int w2_c23_a3_v7), .val (.int w2_c30_a4_v7), .val (.int w2_c37_a5_v7), .val (.int w2_c44_a0_v7), .val (.int w2_c51_a1_v7), .val (.int w2_c58_a2_v7), .val (.int w2_c65_a3_v7), .val (.int w2_c72_a4_v7), .val (.int w2_c79_a5_v7), .unset, .unset, .unset, .unset]) (S := []) Xw212 hx hZ (hw _ (List.mem_of_getElem? (i := 4) rfl)) ew212 (z := (6 : Int32)) 6 (by decide) (by decide) (by decide) (by decide) (by decide) (hb hby at_86) (pc' := 88) rfl
  have g_bw213 : n0 ≤ bw213 := Nat.le_trans Z0 (Nat.le_of_eq Gw213.symm)
  have sz_bw213 : h0.size ≤ bw213 := Nat.le_trans (Keep.refl h0 []).1 (Nat.le_of_eq Gw213.symm)
  have Zw213 : n0 ≤ hw213.size := Nat.le_trans Z0 Ew213.1
  have KKw213 := (Keep.refl h0 []).ext Ew213
  have V_bw213 : Arv Z hw213 bw213 kw213 .double (6 : Int32) [(.double 0), (.double 0), (.double 0), (.double 0), (.double 0), (.double 0)] (.double 0) := Vw213
  obtain ⟨Tw214, hw214, Xw214, ew214, Ww214, Vw214, stw214⟩ := own_stD (L := #[.val (.long p0), .second, .val (.long p1), .second, .val (.int p2), .val (.int w2_c2_a0_v7), .val (.int w2_c9_a1_v7), .val (.int w2_c16_a2_v7), .val (.int w2_c23_a3_v7), .val (.int w2_c30_a4_v7), .val (.int w2_c37_a5_v7), .val (.int w2_c44_a0_v7), .val (.int w2_c51_a1_v7), .val (.int w2_c58_a2_v7), .val (.int w2_c65_a3_v7), .val (.int w2_c72_a4_v7), .val (.int w2_c79_a5_v7), .unset, .unset, .unset, .unset]) (S := [(.ref bw213)]) Xw213 hx hZ ew213 V_bw213 (j := (0 : Int32)) (x := (FP.i2d w2_c2_a0_v7)) (by decide) 0 (by decide) (Nat.le_of_ble_eq_true rfl) (hb hby at_93) (pc' := 94) rfl
  have Zw214 : n0 ≤ hw214.size := Nat.le_trans Zw213 (Nat.le_of_eq Ww214.size.symm)
  have KKw214 := KKw213.wr Ww214 (Or.inr sz_bw213)
  have V_bw213_w214 : Arv Z hw214 bw213 kw213 .double (6 : Int32) [(.double (FP.i2d w2_c2_a0_v7)), (.double 0), (.double 0), (.double 0), (.double 0), (.double 0)] (.double 0) := Vw214
  have Nw214 := Fr.snoc Xw214 Nw212 g_bw213
  obtain ⟨Tw215, hw215, Xw215, ew215, Ww215, Vw215, stw215⟩ := own_stD (L := #[.val (.long p0), .second, .val (.long p1), .second, .val (.int p2), .val (.int w2_c2_a0_v7), .val (.int w2_c9_a1_v7), .val (.int w2_c16_a2_v7), .val (.int w2_c23_a3_v7), .val (.int w2_c30_a4_v7), .val (.int w2_c37_a5_v7), .val (.int w2_c44_a0_v7), .val (.int w2_c51_a1_v7), .val (.int w2_c58_a2_v7), .val (.int w2_c65_a3_v7), .val (.int w2_c72_a4_v7), .val (.int w2_c79_a5_v7), .unset, .unset, .unset, .unset]) (S := [(.ref bw213)]) Xw214 hx hZ ew214 V_bw213_w214 (j := (1 : Int32)) (x := (FP.i2d w2_c9_a1_v7)) (by decide) 1 (by decide) (Nat.le_of_ble_eq_true rfl) (hb hby at_99) (pc' := 100) rfl
  have Zw215 : n0 ≤ hw215.size := Nat.le_trans Zw214 (Nat.le_of_eq Ww215.size.symm)
  have KKw215 := KKw214.wr Ww215 (Or.inr sz_bw213)
  have V_bw213_w215 : Arv Z hw215 bw213 kw213 .double (6 : Int32) [(.double (FP.i2d w2_c2_a0_v7)), (.double (FP.i2d w2_c9_a1_v7)), (.double 0), (.double 0), (.double 0), (.double 0)] (.double 0) := Vw215
  have Nw215 := Fr.snoc Xw215 Nw214 g_bw213
  obtain ⟨Tw216, hw216, Xw216, ew216, Ww216, Vw216, stw216⟩ := own_stD (L := #[.val (.long p0), .second, .val (.long p1), .second, .val (.int p2), .val (.int w2_c2_a0_v7), .val (.int w2_c9_a1_v7), .val (.int w2_c16_a2_v7), .val (.int w2_c23_a3_v7), .val (.int w2_c30_a4_v7), .val (.int w2_c37_a5_v7), .val (.int w2_c44_a0_v7), .val (.int w2_c51_a1_v7), .val (.int w2_c58_a2_v7), .val (.int w2_c65_a3_v7), .val (.int w2_c72_a4_v7), .val (.int w2_c79_a5_v7), .unset, .unset, .unset, .unset]) (S := [(.ref bw213)]) Xw215 hx hZ ew215 V_bw213_w215 (j := (2 : Int32)) (x := (FP.i2d w2_c16_a2_v7)) (by decide) 2 (by decide) (Nat.le_of_ble_eq_true rfl) (hb hby at_105) (pc' := 106) rfl
  have Zw216 : n0 ≤ hw216.size := Nat.le_trans Zw215 (Nat.le_of_eq Ww216.size.symm)
  have KKw216 := KKw215.wr Ww216 (Or.inr sz_bw213)
  have V_bw213_w216 : Arv Z hw216 bw213 kw213 .double (6 : Int32) [(.double (FP.i2d w2_c2_a0_v7)), (.double (FP.i2d w2_c9_a1_v7)), (.double (FP.i2d w2_c16_a2_v7)), (.double 0), (.double 0), (.double 0)] (.double 0) := Vw216
  have Nw216 := Fr.snoc Xw216 Nw215 g_bw213
  obtain ⟨Tw217, hw217, Xw217, ew217, Ww217, Vw217, stw217⟩ := own_stD (L := #[.val (.long p0), .second, .val (.long p1), .second, .val (.int p2), .val (.int w2_c2_a0_v7), .val (.int w2_c9_a1_v7), .val (.int w2_c16_a2_v7), .val (.int w2_c23_a3_v7), .val (.int w2_c30_a4_v7), .val (.int w2_c37_a5_v7), .val (.int w2_c44_a0_v7), .val (.int w2_c51_a1_v7), .val (.int w2_c58_a2_v7), .val (.int w2_c65_a3_v7), .val (.int w2_c72_a4_v7), .val (.int w2_c79_a5_v7), .unset, .unset, .unset, .unset]) (S := [(.ref bw213)]) Xw216 hx hZ ew216 V_bw213_w216 (j := (3 : Int32)) (x := (FP.i2d w2_c23_a3_v7)) (by decide) 3 (by decide) (Nat.le_of_ble_eq_true rfl) (hb hby at_111) (pc' := 112) rfl
  have Zw217 : n0 ≤ hw217.size := Nat.le_trans Zw216 (Nat.le_of_eq Ww217.size.symm)
  have KKw217 := KKw216.wr Ww217 (Or.inr sz_bw213)
  have V_bw213_w217 : Arv Z hw217 bw213 kw213 .double (6 : Int32) [(.double (FP.i2d w2_c2_a0_v7)), (.double (FP.i2d w2_c9_a1_v7)), (.double (FP.i2d w2_c16_a2_v7)), (.double (FP.i2d w2_c23_a3_v7)), (.double 0), (.double 0)] (.double 0) := Vw217
  have Nw217 := Fr.snoc Xw217 Nw216 g_bw213
  obtain ⟨Tw218, hw218, Xw218, ew218, Ww218, Vw218, stw218⟩ := own_stD (L := #[.val (.long p0), .second, .val (.long p1), .second, .val (.int p2), .val (.int w2_c2_a0_v7), .val (.int w2_c9_a1_v7), .val (.int w2_c16_a2_v7), .val (.int w2_c23_a3_v7), .val (.int w2_c30_a4_v7), .val (.int w2_c37_a5_v7), .val (.int w2_c44_a0_v7), .val (.int w2_c51_a1_v7), .val (.int w2_c58_a2_v7), .val (.int w2_c65_a3_v7), .val (.int w2_c72_a4_v7), .val (.int w2_c79_a5_v7), .unset, .unset, .unset, .unset]) (S := [(.ref bw213)]) Xw217 hx hZ ew217 V_bw213_w217 (j := (4 : Int32)) (x := (FP.i2d w2_c30_a4_v7)) (by decide) 4 (by decide) (Nat.le_of_ble_eq_true rfl) (hb hby at_117) (pc' := 118) rfl
  have Zw218 : n0 ≤ hw218.size := Nat.le_trans Zw217 (Nat.le_of_eq Ww218.size.symm)
  have KKw218 := KKw217.wr Ww218 (Or.inr sz_bw213)
  have V_bw213_w218 : Arv Z hw218 bw213 kw213 .double (6 : Int32) [(.double (FP.i2d w2_c2_a0_v7)), (.double (FP.i2d w2_c9_a1_v7)), (.double (FP.i2d w2_c16_a2_v7)), (.double (FP.i2d w2_c23_a3_v7)), (.double (FP.i2d w2_c30_a4_v7)), (.double 0)] (.double 0) := Vw218
  have Nw218 := Fr.snoc Xw218 Nw217 g_bw213
  obtain ⟨Tw219, hw219, Xw219, ew219, Ww219, Vw219, stw219⟩ := own_stD (L := #[.val (.long p0), .second, .val (.long p1), .second, .val (.int p2), .val (.int w2_c2_a0_v7), .val (.int w2_c9_a1_v7), .val (.int w2_c16_a2_v7), .val (.int w2_c23_a3_v7), .val (.int w2_c30_a4_v7), .val (.int w2_c37_a5_v7), .val (.int w2_c44_a0_v7), .val (.int w2_c51_a1_v7), .val (.int w2_c58_a2_v7), .val (.int w2_c65_a3_v7), .val (.int w2_c72_a4_v7), .val (.int w2_c79_a5_v7), .unset, .unset, .unset, .unset]) (S := [(.ref bw213)]) Xw218 hx hZ ew218 V_bw213_w218 (j := (5 : Int32)) (x := (FP.i2d w2_c37_a5_v7)) (by decide) 5 (by decide) (Nat.le_of_ble_eq_true rfl) (hb hby at_123) (pc' := 124) rfl
  have Zw219 : n0 ≤ hw219.size := Nat.le_trans Zw218 (Nat.le_of_eq Ww219.size.symm)
  have KKw219 := KKw218.wr Ww219 (Or.inr sz_bw213)
  have V_bw213_w219 : Arv Z hw219 bw213 kw213 .double (6 : Int32) [(.double (FP.i2d w2_c2_a0_v7)), (.double (FP.i2d w2_c9_a1_v7)), (.double (FP.i2d w2_c16_a2_v7)), (.double (FP.i2d w2_c23_a3_v7)), (.double (FP.i2d w2_c30_a4_v7)), (.double (FP.i2d w2_c37_a5_v7))] (.double 0) := Vw219
  have Nw219 := Fr.snoc Xw219 Nw218 g_bw213
  obtain ⟨Tw220, hw220, kw220, bw220, Xw220, ew220, Ew220, Gw220, Vw220, stw220⟩ := own_newD (L := #[.val (.long p0), .second, .val (.long p1), .second, .val (.int p2), .val (.int w2_c2_a0_v7), .val (.int w2_c9_a1_v7), .val (.int w2_c16_a2_v7), .val (.int w2_c23_a3_v7), .val (.int w2_c30_a4_v7), .val (.int w2_c37_a5_v7), .val (.int w2_c44_a0_v7), .val (.int w2_c51_a1_v7), .val (.int w2_c58_a2_v7), .val (.int w2_c65_a3_v7), .val (.int w2_c72_a4_v7), .val (.int w2_c79_a5_v7), .val (.ref bw213), .unset, .unset, .unset]) (S := []) Xw219 hx hZ (hw _ (List.mem_of_getElem? (i := 4) rfl)) ew219 (z := (6 : Int32)) 6 (by decide) (by decide) (by decide) (by decide) (by decide) (hb hby at_128) (pc' := 130) rfl
  have ne_bw213_bw220 : bw213 ≠ bw220 := Nat.ne_of_lt (Nat.lt_of_lt_of_le V_bw213_w219.lt (Nat.le_of_eq Gw220.symm))
  have ne_bw220_bw213 : bw220 ≠ bw213 := Ne.symm ne_bw213_bw220
  have g_bw220 : n0 ≤ bw220 := Nat.le_trans Zw219 (Nat.le_of_eq Gw220.symm)
  have sz_bw220 : h0.size ≤ bw220 := Nat.le_trans KKw219.1 (Nat.le_of_eq Gw220.symm)
  have V_bw213_w220 := V_bw213_w219.ext Ew220
  have Zw220 : n0 ≤ hw220.size := Nat.le_trans Zw219 Ew220.1
  have KKw220 := KKw219.ext Ew220
  have V_bw220 : Arv Z hw220 bw220 kw220 .double (6 : Int32) [(.double 0), (.double 0), (.double 0), (.double 0), (.double 0), (.double 0)] (.double 0) := Vw220
  obtain ⟨Tw221, hw221, Xw221, ew221, Ww221, Vw221, stw221⟩ := own_stD (L := #[.val (.long p0), .second, .val (.long p1), .second, .val (.int p2), .val (.int w2_c2_a0_v7), .val (.int w2_c9_a1_v7), .val (.int w2_c16_a2_v7), .val (.int w2_c23_a3_v7), .val (.int w2_c30_a4_v7), .val (.int w2_c37_a5_v7), .val (.int w2_c44_a0_v7), .val (.int w2_c51_a1_v7), .val (.int w2_c58_a2_v7), .val (.int w2_c65_a3_v7), .val (.int w2_c72_a4_v7), .val (.int w2_c79_a5_v7), .val (.ref bw213), .unset, .unset, .unset]) (S := [(.ref bw220)]) Xw220 hx hZ ew220 V_bw220 (j := (0 : Int32)) (x := (FP.i2d w2_c44_a0_v7)) (by decide) 0 (by decide) (Nat.le_of_ble_eq_true rfl) (hb hby at_135) (pc' := 136) rfl
  have V_bw213_w221 := V_bw213_w220.other Ww221 ne_bw213_bw220
  have Zw221 : n0 ≤ hw221.size := Nat.le_trans Zw220 (Nat.le_of_eq Ww221.size.symm)
  have KKw221 := KKw220.wr Ww221 (Or.inr sz_bw220)
  have V_bw220_w221 : Arv Z hw221 bw220 kw220 .double (6 : Int32) [(.double (FP.i2d w2_c44_a0_v7)), (.double 0), (.double 0), (.double 0), (.double 0), (.double 0)] (.double 0) := Vw221
  have Nw221 := Fr.snoc Xw221 Nw219 g_bw220
  obtain ⟨Tw222, hw222, Xw222, ew222, Ww222, Vw222, stw222⟩ := own_stD (L := #[.val (.long p0), .second, .val (.long p1), .second, .val (.int p2), .val (.int w2_c2_a0_v7), .val (.int w2_c9_a1_v7), .val (.int w2_c16_a2_v7), .val (.int w2_c23_a3_v7), .val (.int w2_c30_a4_v7), .val (.int w2_c37_a5_v7), .val (.int w2_c44_a0_v7), .val (.int w2_c51_a1_v7), .val (.int w2_c58_a2_v7), .val (.int w2_c65_a3_v7), .val (.int w2_c72_a4_v7), .val (.int w2_c79_a5_v7), .val (.ref bw213), .unset, .unset, .unset]) (S := [(.ref bw220)]) Xw221 hx hZ ew221 V_bw220_w221 (j := (1 : Int32)) (x := (FP.i2d w2_c51_a1_v7)) (by decide) 1 (by decide) (Nat.le_of_ble_eq_true rfl) (hb hby at_141) (pc' := 142) rfl
  have V_bw213_w222 := V_bw213_w221.other Ww222 ne_bw213_bw220
  have Zw222 : n0 ≤ hw222.size := Nat.le_trans Zw221 (Nat.le_of_eq Ww222.size.symm)
  have KKw222 := KKw221.wr Ww222 (Or.inr sz_bw220)
  have V_bw220_w222 : Arv Z hw222 bw220 kw220 .double (6 : Int32) [(.double (FP.i2d w2_c44_a0_v7)), (.double (FP.i2d w2_c51_a1_v7)), (.double 0), (.double 0), (.double 0), (.double 0)] (.double 0) := Vw222
  have Nw222 := Fr.snoc Xw222 Nw221 g_bw220
  obtain ⟨Tw223, hw223, Xw223, ew223, Ww223, Vw223, stw223⟩ := own_stD (L := #[.val (.long p0), .second, .val (.long p1), .second, .val (.int p2), .val (.int w2_c2_a0_v7), .val (.int w2_c9_a1_v7), .val (.int w2_c16_a2_v7), .val (.int w2_c23_a3_v7), .val (.int w2_c30_a4_v7), .val (.int w2_c37_a5_v7), .val (.int w2_c44_a0_v7), .val (.int w2_c51_a1_v7), .val (.int w2_c58_a2_v7), .val (.int w2_c65_a3_v7), .val (.int w2_c72_a4_v7), .val (.int w2_c79_a5_v7), .val (.ref bw213), .unset, .unset, .unset]) (S := [(.ref bw220)]) Xw222 hx hZ ew222 V_bw220_w222 (j := (2 : Int32)) (x := (FP.i2d w2_c58_a2_v7)) (by decide) 2 (by decide) (Nat.le_of_ble_eq_true rfl) (hb hby at_147) (pc' := 148) rfl
  have V_bw213_w223 := V_bw213_w222.other Ww223 ne_bw213_bw220
  have Zw223 : n0 ≤ hw223.size := Nat.le_trans Zw222 (Nat.le_of_eq Ww223.size.symm)
  have KKw223 := KKw222.wr Ww223 (Or.inr sz_bw220)
  have V_bw220_w223 : Arv Z hw223 bw220 kw220 .double (6 : Int32) [(.double (FP.i2d w2_c44_a0_v7)), (.double (FP.i2d w2_c51_a1_v7)), (.double (FP.i2d w2_c58_a2_v7)), (.double 0), (.double 0), (.double 0)] (.double 0) := Vw223
  have Nw223 := Fr.snoc Xw223 Nw222 g_bw220
  obtain ⟨Tw224, hw224, Xw224, ew224, Ww224, Vw224, stw224⟩ := own_stD (L := #[.val (.long p0), .second, .val (.long p1), .second, .val (.int p2), .val (.int w2_c2_a0_v7), .val (.int w2_c9_a1_v7), .val (.int w2_c16_a2_v7), .val (.int w2_c23_a3_v7), .val (.int w2_c30_a4_v7), .val (.int w2_c37_a5_v7), .val (.int w2_c44_a0_v7), .val (.int w2_c51_a1_v7), .val (.int w2_c58_a2_v7), .val (.int w2_c65_a3_v7), .val (.int w2_c72_a4_v7), .val (.int w2_c79_a5_v7), .val (.ref bw213), .unset, .unset, .unset]) (S := [(.ref bw220)]) Xw223 hx hZ ew223 V_bw220_w223 (j := (3 : Int32)) (x := (FP.i2d w2_c65_a3_v7)) (by decide) 3 (by decide) (Nat.le_of_ble_eq_true rfl) (hb hby at_153) (pc' := 154) rfl
  have V_bw213_w224 := V_bw213_w223.other Ww224 ne_bw213_bw220
  have Zw224 : n0 ≤ hw224.size := Nat.le_trans Zw223 (Nat.le_of_eq Ww224.size.symm)
  have KKw224 := KKw223.wr Ww224 (Or.inr sz_bw220)
  have V_bw220_w224 : Arv Z hw224 bw220 kw220 .double (6 : Int32) [(.double (FP.i2d w2_c44_a0_v7)), (.double (FP.i2d w2_c51_a1_v7)), (.double (FP.i2d w2_c58_a2_v7)), (.double (FP.i2d w2_c65_a3_v7)), (.double 0), (.double 0)] (.double 0) := Vw224
  have Nw224 := Fr.snoc Xw224 Nw223 g_bw220
  obtain ⟨Tw225, hw225, Xw225, ew225, Ww225, Vw225, stw225⟩ := own_stD (L := #[.val (.long p0), .second, .val (.long p1), .second, .val (.int p2), .val (.int w2_c2_a0_v7), .val (.int w2_c9_a1_v7), .val (.int w2_c16_a2_v7), .val (.int w2_c23_a3_v7), .val (.int w2_c30_a4_v7), .val (.int w2_c37_a5_v7), .val (.int w2_c44_a0_v7), .val (.int w2_c51_a1_v7), .val (.int w2_c58_a2_v7), .val (.int w2_c65_a3_v7), .val (.int w2_c72_a4_v7), .val (.int w2_c79_a5_v7), .val (.ref bw213), .unset, .unset, .unset]) (S := [(.ref bw220)]) Xw224 hx hZ ew224 V_bw220_w224 (j := (4 : Int32)) (x := (FP.i2d w2_c72_a4_v7)) (by decide) 4 (by decide) (Nat.le_of_ble_eq_true rfl) (hb hby at_159) (pc' := 160) rfl
  have V_bw213_w225 := V_bw213_w224.other Ww225 ne_bw213_bw220
  have Zw225 : n0 ≤ hw225.size := Nat.le_trans Zw224 (Nat.le_of_eq Ww225.size.symm)
  have KKw225 := KKw224.wr Ww225 (Or.inr sz_bw220)
  have V_bw220_w225 : Arv Z hw225 bw220 kw220 .double (6 : Int32) [(.double (FP.i2d w2_c44_a0_v7)), (.double (FP.i2d w2_c51_a1_v7)), (.double (FP.i2d w2_c58_a2_v7)), (.double (FP.i2d w2_c65_a3_v7)), (.double (FP.i2d w2_c72_a4_v7)), (.double 0)] (.double 0) := Vw225
  have Nw225 := Fr.snoc Xw225 Nw224 g_bw220
  obtain ⟨Tw226, hw226, Xw226, ew226, Ww226, Vw226, stw226⟩ := own_stD (L := #[.val (.long p0), .second, .val (.long p1), .second, .val (.int p2), .val (.int w2_c2_a0_v7), .val (.int w2_c9_a1_v7), .val (.int w2_c16_a2_v7), .val (.int w2_c23_a3_v7), .val (.int w2_c30_a4_v7), .val (.int w2_c37_a5_v7), .val (.int w2_c44_a0_v7), .val (.int w2_c51_a1_v7), .val (.int w2_c58_a2_v7), .val (.int w2_c65_a3_v7), .val (.int w2_c72_a4_v7), .val (.int w2_c79_a5_v7), .val (.ref bw213), .unset, .unset, .unset]) (S := [(.ref bw220)]) Xw225 hx hZ ew225 V_bw220_w225 (j := (5 : Int32)) (x := (FP.i2d w2_c79_a5_v7)) (by decide) 5 (by decide) (Nat.le_of_ble_eq_true rfl) (hb hby at_165) (pc' := 166) rfl
  have V_bw213_w226 := V_bw213_w225.other Ww226 ne_bw213_bw220
  have Zw226 : n0 ≤ hw226.size := Nat.le_trans Zw225 (Nat.le_of_eq Ww226.size.symm)
  have KKw226 := KKw225.wr Ww226 (Or.inr sz_bw220)
  have V_bw220_w226 : Arv Z hw226 bw220 kw220 .double (6 : Int32) [(.double (FP.i2d w2_c44_a0_v7)), (.double (FP.i2d w2_c51_a1_v7)), (.double (FP.i2d w2_c58_a2_v7)), (.double (FP.i2d w2_c65_a3_v7)), (.double (FP.i2d w2_c72_a4_v7)), (.double (FP.i2d w2_c79_a5_v7))] (.double 0) := Vw226
  have Nw226 := Fr.snoc Xw226 Nw225 g_bw220
  obtain ⟨_, _, ⟨Tw227, Lw227, kw227, nw227⟩, -, Xw227, ⟨Lcw227, hQw227, lw227, yw227, zw227⟩, stw227⟩ := Jvm.LawKit.callS Xw226 hx (y := (⟨"com/example/pintrinsic/pintrinsic/Matrices", "product", "([D[DI)[D"⟩ : MethodName)) hown (mvT hZ (hw _ (List.mem_of_getElem? (i := 6) rfl))) (mvT hZ (hw _ (List.mem_of_getElem? (i := 7) rfl))) (mvT hZ (hw _ (List.mem_of_getElem? (i := 8) rfl))) (mvT hZ (hw _ (List.mem_of_getElem? (i := 9) rfl))) (by decide) (backOf (W := 0) (own_rm_c2 l Z a0 hw [] bw213 (FP.i2d w2_c2_a0_v7) (FP.i2d w2_c9_a1_v7) (FP.i2d w2_c16_a2_v7) (FP.i2d w2_c23_a3_v7) (FP.i2d w2_c30_a4_v7) (FP.i2d w2_c37_a5_v7) bw220 (FP.i2d w2_c44_a0_v7) (FP.i2d w2_c51_a1_v7) (FP.i2d w2_c58_a2_v7) (FP.i2d w2_c65_a3_v7) (FP.i2d w2_c72_a4_v7) (FP.i2d w2_c79_a5_v7) hw226 n0 Zw226 V_bw213_w226 V_bw220_w226 w2_c545_c2_hn71 w2_c545_c2_hv71 w2_c545_c2_hn72 w2_c545_c2_hv72 w2_c545_c2_hn71_2 w2_c545_c2_hv71_2 w2_c545_c2_hn72_2 w2_c545_c2_hv72_2 w2_c545_c2_hn71_3 w2_c545_c2_hv71_3 w2_c545_c2_hn72_3 w2_c545_c2_hv72_3 w2_c545_c2_hn71_4 w2_c545_c2_hv71_4 w2_c545_c2_hn72_4 w2_c545_c2_hv72_4 w2_c545_c2_hn71_5 w2_c545_c2_hv71_5 w2_c545_c2_hn72_5 w2_c545_c2_hv72_5 w2_c545_c2_hn71_6 w2_c545_c2_hv71_6 w2_c545_c2_hn72_6 w2_c545_c2_hv72_6) hZ (hw _ (List.mem_of_getElem? (i := 9) rfl)) (hw _ (List.mem_of_getElem? (i := 8) rfl)) (by decide) (by decide)) (g := (mkF m 545 #[.val (.long p0), .second, .val (.long p1), .second, .val (.int p2), .val (.int w2_c2_a0_v7), .val (.int w2_c9_a1_v7), .val (.int w2_c16_a2_v7), .val (.int w2_c23_a3_v7), .val (.int w2_c30_a4_v7), .val (.int w2_c37_a5_v7), .val (.int w2_c44_a0_v7), .val (.int w2_c51_a1_v7), .val (.int w2_c58_a2_v7), .val (.int w2_c65_a3_v7), .val (.int w2_c72_a4_v7), .val (.int w2_c79_a5_v7), .val (.ref bw213), .val (.ref bw220), .val (.int (2 : Int32)), .unset] [(.int (6 : Int32)), (.ref bw220), (.ref bw213)])) rfl (by rw [hml]; rfl) (argsL := [(.ref bw213), (.ref bw220), (.int (6 : Int32))]) (rest := []) (lenOf own_pd_285bD5bDI295bD rfl) rfl (by show 2 * 0 + _ ≤ _; exact Nat.le_of_eq rfl) (hb hby at_545) (fun _ _ => ⟨rfl, ew226, (by decide : 2 + 1 ≤ _), (by decide : 12 + 1 ≤ _)⟩)
  dsimp only [Pt.U, Pt.locs, Pt.cells, Pt.slots] at Xw227 lw227 yw227 zw227 stw227 hQw227
  rw [lw227, yw227, zw227] at Xw227
  obtain ⟨bw227, kw227a, rfl, Nw227q, Kw227, Gw227, qw227_0⟩ := hQw227
  have ne_bw213_bw227 : bw213 ≠ bw227 := Nat.ne_of_lt (Nat.lt_of_lt_of_le V_bw213_w226.lt Gw227)
  have ne_bw227_bw213 : bw227 ≠ bw213 := Ne.symm ne_bw213_bw227
  have ne_bw220_bw227 : bw220 ≠ bw227 := Nat.ne_of_lt (Nat.lt_of_lt_of_le V_bw220_w226.lt Gw227)
  have ne_bw227_bw220 : bw227 ≠ bw220 := Ne.symm ne_bw220_bw227
  have g_bw227 : n0 ≤ bw227 := Nat.le_trans Zw226 Gw227
  have sz_bw227 : h0.size ≤ bw227 := Nat.le_trans KKw226.1 Gw227
  have V_bw213_w227 := V_bw213_w226.keep Kw227 (List.not_mem_nil)
  have V_bw220_w227 := V_bw220_w226.keep Kw227 (List.not_mem_nil)
  have Zw227 : n0 ≤ Tw227.heap.size := Nat.le_trans Zw226 Kw227.1
  have KKw227 := KKw226.trans Kw227 (fun _ q => nomatch q)
  have Nw227 := Fr.app Nw226 Nw227q
  obtain ⟨_, _, ⟨Tw228, Lw228, kw228, nw228⟩, -, Xw228, ⟨Lcw228, hQw228, lw228, yw228, zw228⟩, stw228⟩ := Jvm.LawKit.callS Xw227 hx (y := (⟨"com/example/pintrinsic/pintrinsic/MatricesProductPinLaw", "same", "(DI)Z"⟩ : MethodName)) hown (mvT hZ (hw _ (List.mem_of_getElem? (i := 10) rfl))) (mvT hZ (hw _ (List.mem_of_getElem? (i := 11) rfl))) (mvT hZ (hw _ (List.mem_of_getElem? (i := 2) rfl))) (mvT hZ (hw _ (List.mem_of_getElem? (i := 12) rfl))) (by decide) (backOf (W := 0) (own_rm_same l Z a0 hw [] w2_c545_c2_v72_6 w2_v597 Tw227.heap n0 Zw227 w2_c598_same_h1 w2_c598_same_h2) hZ (hw _ (List.mem_of_getElem? (i := 12) rfl)) (hw _ (List.mem_of_getElem? (i := 2) rfl)) (by decide) (by decide)) (g := (mkF m 598 #[.val (.long p0), .second, .val (.long p1), .second, .val (.int p2), .val (.int w2_c2_a0_v7), .val (.int w2_c9_a1_v7), .val (.int w2_c16_a2_v7), .val (.int w2_c23_a3_v7), .val (.int w2_c30_a4_v7), .val (.int w2_c37_a5_v7), .val (.int w2_c44_a0_v7), .val (.int w2_c51_a1_v7), .val (.int w2_c58_a2_v7), .val (.int w2_c65_a3_v7), .val (.int w2_c72_a4_v7), .val (.int w2_c79_a5_v7), .val (.ref bw213), .val (.ref bw220), .val (.int (2 : Int32)), .val (.ref bw227)] [(.int w2_v597), (.double w2_c545_c2_v72_6)])) rfl (by rw [hml]; rfl) (argsL := [(.double w2_c545_c2_v72_6), (.int w2_v597)]) (rest := []) (lenOf own_pd_28DI29Z rfl) rfl (by show 2 * 0 + _ ≤ _; exact Nat.le_of_eq rfl) (hb hby at_598) (fun _ _ => ⟨rfl, rfl, (by decide : 3 + 0 ≤ _), (by decide : 13 + 0 ≤ _)⟩)
  dsimp only [Pt.U, Pt.locs, Pt.cells, Pt.slots] at Xw228 lw228 yw228 zw228 stw228 hQw228
  rw [lw228, yw228, zw228] at Xw228
  obtain ⟨rfl, Nw228q, ew228⟩ := hQw228
  have Nw228 := Fr.app Nw227 Nw228q
  obtain ⟨fs, hr, hrun, hended, hW, hsame⟩ := Xw228.leave (v := some (.int (1 : Int32))) (fun h => by rw [Bd.returns] at h; cases h)
  refine ⟨_, _, pre0 _ ?_, hrun, hended, _, _, rfl, ?_, ⟨_, rfl⟩, hW, hsame.mono (by decide) (by decide)⟩
  · refine own_s_lloadN X0.here hx (hb hby at_0) (pc' := 1) rfl rfl ?_
    refine own_s_iconst X0.here hx (hb hby at_1) (pc' := 2) rfl (v := (0 : Int32)) (by decide) ?_
    refine stw21 _ ?_
    show Steps p.tables e below (Tw21.setTop (mkF m 5 #[.val (.long p0), .second, .val (.long p1), .second, .val (.int p2), .unset, .unset, .unset, .unset, .unset, .unset, .unset, .unset, .unset, .unset, .unset, .unset, .unset, .unset, .unset, .unset] [(.int w2_c2_a0_v7)])) _
    refine own_s_istore Xw21.here hx (hb hby at_5) (pc' := 7) rfl (L' := #[.val (.long p0), .second, .val (.long p1), .second, .val (.int p2), .val (.int w2_c2_a0_v7), .unset, .unset, .unset, .unset, .unset, .unset, .unset, .unset, .unset, .unset, .unset, .unset, .unset, .unset, .unset]) rfl ?_
    refine own_s_lloadN Xw21.here hx (hb hby at_7) (pc' := 8) rfl rfl ?_
    refine own_s_iconst Xw21.here hx (hb hby at_8) (pc' := 9) rfl (v := (1 : Int32)) (by decide) ?_
    refine stw22 _ ?_
    show Steps p.tables e below (Tw22.setTop (mkF m 12 #[.val (.long p0), .second, .val (.long p1), .second, .val (.int p2), .val (.int w2_c2_a0_v7), .unset, .unset, .unset, .unset, .unset, .unset, .unset, .unset, .unset, .unset, .unset, .unset, .unset, .unset, .unset] [(.int w2_c9_a1_v7)])) _
    refine own_s_istore Xw22.here hx (hb hby at_12) (pc' := 14) rfl (L' := #[.val (.long p0), .second, .val (.long p1), .second, .val (.int p2), .val (.int w2_c2_a0_v7), .val (.int w2_c9_a1_v7), .unset, .unset, .unset, .unset, .unset, .unset, .unset, .unset, .unset, .unset, .unset, .unset, .unset, .unset]) rfl ?_
    refine own_s_lloadN Xw22.here hx (hb hby at_14) (pc' := 15) rfl rfl ?_
    refine own_s_iconst Xw22.here hx (hb hby at_15) (pc' := 16) rfl (v := (2 : Int32)) (by decide) ?_
    refine stw23 _ ?_
    show Steps p.tables e below (Tw23.setTop (mkF m 19 #[.val (.long p0), .second, .val (.long p1), .second, .val (.int p2), .val (.int w2_c2_a0_v7), .val (.int w2_c9_a1_v7), .unset, .unset, .unset, .unset, .unset, .unset, .unset, .unset, .unset, .unset, .unset, .unset, .unset, .unset] [(.int w2_c16_a2_v7)])) _
    refine own_s_istore Xw23.here hx (hb hby at_19) (pc' := 21) rfl (L' := #[.val (.long p0), .second, .val (.long p1), .second, .val (.int p2), .val (.int w2_c2_a0_v7), .val (.int w2_c9_a1_v7), .val (.int w2_c16_a2_v7), .unset, .unset, .unset, .unset, .unset, .unset, .unset, .unset, .unset, .unset, .unset, .unset, .unset]) rfl ?_
    refine own_s_lloadN Xw23.here hx (hb hby at_21) (pc' := 22) rfl rfl ?_
    refine own_s_iconst Xw23.here hx (hb hby at_22) (pc' := 23) rfl (v := (3 : Int32)) (by decide) ?_
    refine stw24 _ ?_
    show Steps p.tables e below (Tw24.setTop (mkF m 26 #[.val (.long p0), .second, .val (.long p1), .second, .val (.int p2), .val (.int w2_c2_a0_v7), .val (.int w2_c9_a1_v7), .val (.int w2_c16_a2_v7), .unset, .unset, .unset, .unset, .unset, .unset, .unset, .unset, .unset, .unset, .unset, .unset, .unset] [(.int w2_c23_a3_v7)])) _
    refine own_s_istore Xw24.here hx (hb hby at_26) (pc' := 28) rfl (L' := #[.val (.long p0), .second, .val (.long p1), .second, .val (.int p2), .val (.int w2_c2_a0_v7), .val (.int w2_c9_a1_v7), .val (.int w2_c16_a2_v7), .val (.int w2_c23_a3_v7), .unset, .unset, .unset, .unset, .unset, .unset, .unset, .unset, .unset, .unset, .unset, .unset]) rfl ?_
    refine own_s_lloadN Xw24.here hx (hb hby at_28) (pc' := 29) rfl rfl ?_
    refine own_s_iconst Xw24.here hx (hb hby at_29) (pc' := 30) rfl (v := (4 : Int32)) (by decide) ?_
    refine stw25 _ ?_
    show Steps p.tables e below (Tw25.setTop (mkF m 33 #[.val (.long p0), .second, .val (.long p1), .second, .val (.int p2), .val (.int w2_c2_a0_v7), .val (.int w2_c9_a1_v7), .val (.int w2_c16_a2_v7), .val (.int w2_c23_a3_v7), .unset, .unset, .unset, .unset, .unset, .unset, .unset, .unset, .unset, .unset, .unset, .unset] [(.int w2_c30_a4_v7)])) _
    refine own_s_istore Xw25.here hx (hb hby at_33) (pc' := 35) rfl (L' := #[.val (.long p0), .second, .val (.long p1), .second, .val (.int p2), .val (.int w2_c2_a0_v7), .val (.int w2_c9_a1_v7), .val (.int w2_c16_a2_v7), .val (.int w2_c23_a3_v7), .val (.int w2_c30_a4_v7), .unset, .unset, .unset, .unset, .unset, .unset, .unset, .unset, .unset, .unset, .unset]) rfl ?_
    refine own_s_lloadN Xw25.here hx (hb hby at_35) (pc' := 36) rfl rfl ?_
    refine own_s_iconst Xw25.here hx (hb hby at_36) (pc' := 37) rfl (v := (5 : Int32)) (by decide) ?_
    refine stw26 _ ?_
    show Steps p.tables e below (Tw26.setTop (mkF m 40 #[.val (.long p0), .second, .val (.long p1), .second, .val (.int p2), .val (.int w2_c2_a0_v7), .val (.int w2_c9_a1_v7), .val (.int w2_c16_a2_v7), .val (.int w2_c23_a3_v7), .val (.int w2_c30_a4_v7), .unset, .unset, .unset, .unset, .unset, .unset, .unset, .unset, .unset, .unset, .unset] [(.int w2_c37_a5_v7)])) _
    refine own_s_istore Xw26.here hx (hb hby at_40) (pc' := 42) rfl (L' := #[.val (.long p0), .second, .val (.long p1), .second, .val (.int p2), .val (.int w2_c2_a0_v7), .val (.int w2_c9_a1_v7), .val (.int w2_c16_a2_v7), .val (.int w2_c23_a3_v7), .val (.int w2_c30_a4_v7), .val (.int w2_c37_a5_v7), .unset, .unset, .unset, .unset, .unset, .unset, .unset, .unset, .unset, .unset]) rfl ?_
    refine own_s_lloadN Xw26.here hx (hb hby at_42) (pc' := 43) rfl rfl ?_
    refine own_s_iconst Xw26.here hx (hb hby at_43) (pc' := 44) rfl (v := (0 : Int32)) (by decide) ?_
    refine stw27 _ ?_
    show Steps p.tables e below (Tw27.setTop (mkF m 47 #[.val (.long p0), .second, .val (.long p1), .second, .val (.int p2), .val (.int w2_c2_a0_v7), .val (.int w2_c9_a1_v7), .val (.int w2_c16_a2_v7), .val (.int w2_c23_a3_v7), .val (.int w2_c30_a4_v7), .val (.int w2_c37_a5_v7), .unset, .unset, .unset, .unset, .unset, .unset, .unset, .unset, .unset, .unset] [(.int w2_c44_a0_v7)])) _
    refine own_s_istore Xw27.here hx (hb hby at_47) (pc' := 49) rfl (L' := #[.val (.long p0), .second, .val (.long p1), .second, .val (.int p2), .val (.int w2_c2_a0_v7), .val (.int w2_c9_a1_v7), .val (.int w2_c16_a2_v7), .val (.int w2_c23_a3_v7), .val (.int w2_c30_a4_v7), .val (.int w2_c37_a5_v7), .val (.int w2_c44_a0_v7), .unset, .unset, .unset, .unset, .unset, .unset, .unset, .unset, .unset]) rfl ?_
    refine own_s_lloadN Xw27.here hx (hb hby at_49) (pc' := 50) rfl rfl ?_
    refine own_s_iconst Xw27.here hx (hb hby at_50) (pc' := 51) rfl (v := (1 : Int32)) (by decide) ?_
    refine stw28 _ ?_
    show Steps p.tables e below (Tw28.setTop (mkF m 54 #[.val (.long p0), .second, .val (.long p1), .second, .val (.int p2), .val (.int w2_c2_a0_v7), .val (.int w2_c9_a1_v7), .val (.int w2_c16_a2_v7), .val (.int w2_c23_a3_v7), .val (.int w2_c30_a4_v7), .val (.int w2_c37_a5_v7), .val (.int w2_c44_a0_v7), .unset, .unset, .unset, .unset, .unset, .unset, .unset, .unset, .unset] [(.int w2_c51_a1_v7)])) _
    refine own_s_istore Xw28.here hx (hb hby at_54) (pc' := 56) rfl (L' := #[.val (.long p0), .second, .val (.long p1), .second, .val (.int p2), .val (.int w2_c2_a0_v7), .val (.int w2_c9_a1_v7), .val (.int w2_c16_a2_v7), .val (.int w2_c23_a3_v7), .val (.int w2_c30_a4_v7), .val (.int w2_c37_a5_v7), .val (.int w2_c44_a0_v7), .val (.int w2_c51_a1_v7), .unset, .unset, .unset, .unset, .unset, .unset, .unset, .unset]) rfl ?_
    refine own_s_lloadN Xw28.here hx (hb hby at_56) (pc' := 57) rfl rfl ?_
    refine own_s_iconst Xw28.here hx (hb hby at_57) (pc' := 58) rfl (v := (2 : Int32)) (by decide) ?_
    refine stw29 _ ?_
    show Steps p.tables e below (Tw29.setTop (mkF m 61 #[.val (.long p0), .second, .val (.long p1), .second, .val (.int p2), .val (.int w2_c2_a0_v7), .val (.int w2_c9_a1_v7), .val (.int w2_c16_a2_v7), .val (.int w2_c23_a3_v7), .val (.int w2_c30_a4_v7), .val (.int w2_c37_a5_v7), .val (.int w2_c44_a0_v7), .val (.int w2_c51_a1_v7), .unset, .unset, .unset, .unset, .unset, .unset, .unset, .unset] [(.int w2_c58_a2_v7)])) _
    refine own_s_istore Xw29.here hx (hb hby at_61) (pc' := 63) rfl (L' := #[.val (.long p0), .second, .val (.long p1), .second, .val (.int p2), .val (.int w2_c2_a0_v7), .val (.int w2_c9_a1_v7), .val (.int w2_c16_a2_v7), .val (.int w2_c23_a3_v7), .val (.int w2_c30_a4_v7), .val (.int w2_c37_a5_v7), .val (.int w2_c44_a0_v7), .val (.int w2_c51_a1_v7), .val (.int w2_c58_a2_v7), .unset, .unset, .unset, .unset, .unset, .unset, .unset]) rfl ?_
    refine own_s_lloadN Xw29.here hx (hb hby at_63) (pc' := 64) rfl rfl ?_
    refine own_s_iconst Xw29.here hx (hb hby at_64) (pc' := 65) rfl (v := (3 : Int32)) (by decide) ?_
    refine stw210 _ ?_
    show Steps p.tables e below (Tw210.setTop (mkF m 68 #[.val (.long p0), .second, .val (.long p1), .second, .val (.int p2), .val (.int w2_c2_a0_v7), .val (.int w2_c9_a1_v7), .val (.int w2_c16_a2_v7), .val (.int w2_c23_a3_v7), .val (.int w2_c30_a4_v7), .val (.int w2_c37_a5_v7), .val (.int w2_c44_a0_v7), .val (.int w2_c51_a1_v7), .val (.int w2_c58_a2_v7), .unset, .unset, .unset, .unset, .unset, .unset, .unset] [(.int w2_c65_a3_v7)])) _
    refine own_s_istore Xw210.here hx (hb hby at_68) (pc' := 70) rfl (L' := #[.val (.long p0), .second, .val (.long p1), .second, .val (.int p2), .val (.int w2_c2_a0_v7), .val (.int w2_c9_a1_v7), .val (.int w2_c16_a2_v7), .val (.int w2_c23_a3_v7), .val (.int w2_c30_a4_v7), .val (.int w2_c37_a5_v7), .val (.int w2_c44_a0_v7), .val (.int w2_c51_a1_v7), .val (.int w2_c58_a2_v7), .val (.int w2_c65_a3_v7), .unset, .unset, .unset, .unset, .unset, .unset]) rfl ?_
    refine own_s_lloadN Xw210.here hx (hb hby at_70) (pc' := 71) rfl rfl ?_
    refine own_s_iconst Xw210.here hx (hb hby at_71) (pc' := 72) rfl (v := (4 : Int32)) (by decide) ?_
    refine stw211 _ ?_
    show Steps p.tables e below (Tw211.setTop (mkF m 75 #[.val (.long p0), .second, .val (.long p1), .second, .val (.int p2), .val (.int w2_c2_a0_v7), .val (.int w2_c9_a1_v7), .val (.int w2_c16_a2_v7), .val (.int w2_c23_a3_v7), .val (.int w2_c30_a4_v7), .val (.int w2_c37_a5_v7), .val (.int w2_c44_a0_v7), .val (.int w2_c51_a1_v7), .val (.int w2_c58_a2_v7), .val (.int w2_c65_a3_v7), .unset, .unset, .unset, .unset, .unset, .unset] [(.int w2_c72_a4_v7)])) _
    refine own_s_istore Xw211.here hx (hb hby at_75) (pc' := 77) rfl (L' := #[.val (.long p0), .second, .val (.long p1), .second, .val (.int p2), .val (.int w2_c2_a0_v7), .val (.int w2_c9_a1_v7), .val (.int w2_c16_a2_v7), .val (.int w2_c23_a3_v7), .val (.int w2_c30_a4_v7), .val (.int w2_c37_a5_v7), .val (.int w2_c44_a0_v7), .val (.int w2_c51_a1_v7), .val (.int w2_c58_a2_v7), .val (.int w2_c65_a3_v7), .val (.int w2_c72_a4_v7), .unset, .unset, .unset, .unset, .unset]) rfl ?_
    refine own_s_lloadN Xw211.here hx (hb hby at_77) (pc' := 78) rfl rfl ?_
    refine own_s_iconst Xw211.here hx (hb hby at_78) (pc' := 79) rfl (v := (5 : Int32)) (by decide) ?_
    refine stw212 _ ?_
    show Steps p.tables e below (Tw212.setTop (mkF m 82 #[.val (.long p0), .second, .val (.long p1), .second, .val (.int p2), .val (.int w2_c2_a0_v7), .val (.int w2_c9_a1_v7), .val (.int w2_c16_a2_v7), .val (.int w2_c23_a3_v7), .val (.int w2_c30_a4_v7), .val (.int w2_c37_a5_v7), .val (.int w2_c44_a0_v7), .val (.int w2_c51_a1_v7), .val (.int w2_c58_a2_v7), .val (.int w2_c65_a3_v7), .val (.int w2_c72_a4_v7), .unset, .unset, .unset, .unset, .unset] [(.int w2_c79_a5_v7)])) _
    refine own_s_istore Xw212.here hx (hb hby at_82) (pc' := 84) rfl (L' := #[.val (.long p0), .second, .val (.long p1), .second, .val (.int p2), .val (.int w2_c2_a0_v7), .val (.int w2_c9_a1_v7), .val (.int w2_c16_a2_v7), .val (.int w2_c23_a3_v7), .val (.int w2_c30_a4_v7), .val (.int w2_c37_a5_v7), .val (.int w2_c44_a0_v7), .val (.int w2_c51_a1_v7), .val (.int w2_c58_a2_v7), .val (.int w2_c65_a3_v7), .val (.int w2_c72_a4_v7), .val (.int w2_c79_a5_v7), .unset, .unset, .unset, .unset]) rfl ?_
    refine own_s_bipush Xw212.here hx (hb hby at_84) (pc' := 86) rfl (v := (6 : Int32)) (by decide) ?_
    refine stw213 _ ?_
    refine own_s_dup Xw213.here hx (hb hby at_88) (pc' := 89) rfl rfl ?_
    refine own_s_iconst Xw213.here hx (hb hby at_89) (pc' := 90) rfl (v := (0 : Int32)) (by decide) ?_
    refine own_s_iload Xw213.here hx (hb hby at_90) (pc' := 92) rfl rfl ?_
    refine own_s_i2d Xw213.here hx (hb hby at_92) (pc' := 93) rfl (v := (FP.i2d w2_c2_a0_v7)) rfl ?_
    refine stw214 _ ?_
    refine own_s_dup Xw214.here hx (hb hby at_94) (pc' := 95) rfl rfl ?_
    refine own_s_iconst Xw214.here hx (hb hby at_95) (pc' := 96) rfl (v := (1 : Int32)) (by decide) ?_
    refine own_s_iload Xw214.here hx (hb hby at_96) (pc' := 98) rfl rfl ?_
    refine own_s_i2d Xw214.here hx (hb hby at_98) (pc' := 99) rfl (v := (FP.i2d w2_c9_a1_v7)) rfl ?_
    refine stw215 _ ?_
    refine own_s_dup Xw215.here hx (hb hby at_100) (pc' := 101) rfl rfl ?_
    refine own_s_iconst Xw215.here hx (hb hby at_101) (pc' := 102) rfl (v := (2 : Int32)) (by decide) ?_
    refine own_s_iload Xw215.here hx (hb hby at_102) (pc' := 104) rfl rfl ?_
    refine own_s_i2d Xw215.here hx (hb hby at_104) (pc' := 105) rfl (v := (FP.i2d w2_c16_a2_v7)) rfl ?_
    refine stw216 _ ?_
    refine own_s_dup Xw216.here hx (hb hby at_106) (pc' := 107) rfl rfl ?_
    refine own_s_iconst Xw216.here hx (hb hby at_107) (pc' := 108) rfl (v := (3 : Int32)) (by decide) ?_
    refine own_s_iload Xw216.here hx (hb hby at_108) (pc' := 110) rfl rfl ?_
    refine own_s_i2d Xw216.here hx (hb hby at_110) (pc' := 111) rfl (v := (FP.i2d w2_c23_a3_v7)) rfl ?_
    refine stw217 _ ?_
    refine own_s_dup Xw217.here hx (hb hby at_112) (pc' := 113) rfl rfl ?_
    refine own_s_iconst Xw217.here hx (hb hby at_113) (pc' := 114) rfl (v := (4 : Int32)) (by decide) ?_
    refine own_s_iload Xw217.here hx (hb hby at_114) (pc' := 116) rfl rfl ?_
    refine own_s_i2d Xw217.here hx (hb hby at_116) (pc' := 117) rfl (v := (FP.i2d w2_c30_a4_v7)) rfl ?_
    refine stw218 _ ?_
    refine own_s_dup Xw218.here hx (hb hby at_118) (pc' := 119) rfl rfl ?_
    refine own_s_iconst Xw218.here hx (hb hby at_119) (pc' := 120) rfl (v := (5 : Int32)) (by decide) ?_
    refine own_s_iload Xw218.here hx (hb hby at_120) (pc' := 122) rfl rfl ?_
    refine own_s_i2d Xw218.here hx (hb hby at_122) (pc' := 123) rfl (v := (FP.i2d w2_c37_a5_v7)) rfl ?_
    refine stw219 _ ?_
    refine own_s_astore Xw219.here hx (hb hby at_124) (pc' := 126) rfl rfl (L' := #[.val (.long p0), .second, .val (.long p1), .second, .val (.int p2), .val (.int w2_c2_a0_v7), .val (.int w2_c9_a1_v7), .val (.int w2_c16_a2_v7), .val (.int w2_c23_a3_v7), .val (.int w2_c30_a4_v7), .val (.int w2_c37_a5_v7), .val (.int w2_c44_a0_v7), .val (.int w2_c51_a1_v7), .val (.int w2_c58_a2_v7), .val (.int w2_c65_a3_v7), .val (.int w2_c72_a4_v7), .val (.int w2_c79_a5_v7), .val (.ref bw213), .unset, .unset, .unset]) rfl ?_
    refine own_s_bipush Xw219.here hx (hb hby at_126) (pc' := 128) rfl (v := (6 : Int32)) (by decide) ?_
    refine stw220 _ ?_
    refine own_s_dup Xw220.here hx (hb hby at_130) (pc' := 131) rfl rfl ?_
    refine own_s_iconst Xw220.here hx (hb hby at_131) (pc' := 132) rfl (v := (0 : Int32)) (by decide) ?_
    refine own_s_iload Xw220.here hx (hb hby at_132) (pc' := 134) rfl rfl ?_
    refine own_s_i2d Xw220.here hx (hb hby at_134) (pc' := 135) rfl (v := (FP.i2d w2_c44_a0_v7)) rfl ?_
    refine stw221 _ ?_
    refine own_s_dup Xw221.here hx (hb hby at_136) (pc' := 137) rfl rfl ?_
    refine own_s_iconst Xw221.here hx (hb hby at_137) (pc' := 138) rfl (v := (1 : Int32)) (by decide) ?_
    refine own_s_iload Xw221.here hx (hb hby at_138) (pc' := 140) rfl rfl ?_
    refine own_s_i2d Xw221.here hx (hb hby at_140) (pc' := 141) rfl (v := (FP.i2d w2_c51_a1_v7)) rfl ?_
    refine stw222 _ ?_
    refine own_s_dup Xw222.here hx (hb hby at_142) (pc' := 143) rfl rfl ?_
    refine own_s_iconst Xw222.here hx (hb hby at_143) (pc' := 144) rfl (v := (2 : Int32)) (by decide) ?_
    refine own_s_iload Xw222.here hx (hb hby at_144) (pc' := 146) rfl rfl ?_
    refine own_s_i2d Xw222.here hx (hb hby at_146) (pc' := 147) rfl (v := (FP.i2d w2_c58_a2_v7)) rfl ?_
    refine stw223 _ ?_
    refine own_s_dup Xw223.here hx (hb hby at_148) (pc' := 149) rfl rfl ?_
    refine own_s_iconst Xw223.here hx (hb hby at_149) (pc' := 150) rfl (v := (3 : Int32)) (by decide) ?_
    refine own_s_iload Xw223.here hx (hb hby at_150) (pc' := 152) rfl rfl ?_
    refine own_s_i2d Xw223.here hx (hb hby at_152) (pc' := 153) rfl (v := (FP.i2d w2_c65_a3_v7)) rfl ?_
    refine stw224 _ ?_
    refine own_s_dup Xw224.here hx (hb hby at_154) (pc' := 155) rfl rfl ?_
    refine own_s_iconst Xw224.here hx (hb hby at_155) (pc' := 156) rfl (v := (4 : Int32)) (by decide) ?_
    refine own_s_iload Xw224.here hx (hb hby at_156) (pc' := 158) rfl rfl ?_
    refine own_s_i2d Xw224.here hx (hb hby at_158) (pc' := 159) rfl (v := (FP.i2d w2_c72_a4_v7)) rfl ?_
    refine stw225 _ ?_
    refine own_s_dup Xw225.here hx (hb hby at_160) (pc' := 161) rfl rfl ?_
    refine own_s_iconst Xw225.here hx (hb hby at_161) (pc' := 162) rfl (v := (5 : Int32)) (by decide) ?_
    refine own_s_iload Xw225.here hx (hb hby at_162) (pc' := 164) rfl rfl ?_
    refine own_s_i2d Xw225.here hx (hb hby at_164) (pc' := 165) rfl (v := (FP.i2d w2_c79_a5_v7)) rfl ?_
    refine stw226 _ ?_
    refine own_s_astore Xw226.here hx (hb hby at_166) (pc' := 168) rfl rfl (L' := #[.val (.long p0), .second, .val (.long p1), .second, .val (.int p2), .val (.int w2_c2_a0_v7), .val (.int w2_c9_a1_v7), .val (.int w2_c16_a2_v7), .val (.int w2_c23_a3_v7), .val (.int w2_c30_a4_v7), .val (.int w2_c37_a5_v7), .val (.int w2_c44_a0_v7), .val (.int w2_c51_a1_v7), .val (.int w2_c58_a2_v7), .val (.int w2_c65_a3_v7), .val (.int w2_c72_a4_v7), .val (.int w2_c79_a5_v7), .val (.ref bw213), .val (.ref bw220), .unset, .unset]) rfl ?_
    refine own_s_iload Xw226.here hx (hb hby at_168) (pc' := 170) rfl rfl ?_
    refine Xw226.ldcInt hx hown (mvT hZ (hw _ (List.mem_of_getElem? (i := 5) rfl))) (g := (mkF m 170 #[.val (.long p0), .second, .val (.long p1), .second, .val (.int p2), .val (.int w2_c2_a0_v7), .val (.int w2_c9_a1_v7), .val (.int w2_c16_a2_v7), .val (.int w2_c23_a3_v7), .val (.int w2_c30_a4_v7), .val (.int w2_c37_a5_v7), .val (.int w2_c44_a0_v7), .val (.int w2_c51_a1_v7), .val (.int w2_c58_a2_v7), .val (.int w2_c65_a3_v7), .val (.int w2_c72_a4_v7), .val (.int w2_c79_a5_v7), .val (.ref bw213), .val (.ref bw220), .unset, .unset] [(.int p2)])) rfl (hb hby at_170) _ ?_
    show Steps p.tables e below (Tw226.setTop (mkF m 172 #[.val (.long p0), .second, .val (.long p1), .second, .val (.int p2), .val (.int w2_c2_a0_v7), .val (.int w2_c9_a1_v7), .val (.int w2_c16_a2_v7), .val (.int w2_c23_a3_v7), .val (.int w2_c30_a4_v7), .val (.int w2_c37_a5_v7), .val (.int w2_c44_a0_v7), .val (.int w2_c51_a1_v7), .val (.int w2_c58_a2_v7), .val (.int w2_c65_a3_v7), .val (.int w2_c72_a4_v7), .val (.int w2_c79_a5_v7), .val (.ref bw213), .val (.ref bw220), .unset, .unset] [(.int (2147483647 : Int32)), (.int p2)])) _
    refine own_s_iand Xw226.here hx (hb hby at_172) (pc' := 173) rfl (v := w2_v172) w2_hv172 ?_
    refine own_s_iconst Xw226.here hx (hb hby at_173) (pc' := 174) rfl (v := (3 : Int32)) (by decide) ?_
    refine own_s_irem Xw226.here hx (hb hby at_174) (pc' := 175) rfl (by decide) (v := (2 : Int32)) w2_hv174 ?_
    refine own_s_istore Xw226.here hx (hb hby at_175) (pc' := 177) rfl (L' := #[.val (.long p0), .second, .val (.long p1), .second, .val (.int p2), .val (.int w2_c2_a0_v7), .val (.int w2_c9_a1_v7), .val (.int w2_c16_a2_v7), .val (.int w2_c23_a3_v7), .val (.int w2_c30_a4_v7), .val (.int w2_c37_a5_v7), .val (.int w2_c44_a0_v7), .val (.int w2_c51_a1_v7), .val (.int w2_c58_a2_v7), .val (.int w2_c65_a3_v7), .val (.int w2_c72_a4_v7), .val (.int w2_c79_a5_v7), .val (.ref bw213), .val (.ref bw220), .val (.int (2 : Int32)), .unset]) rfl ?_
    refine own_s_iload Xw226.here hx (hb hby at_177) (pc' := 179) rfl rfl ?_
    refine own_s_ifYes Xw226.here hx (hb hby at_179) (by decide) (pc' := 400) (by decide) (by decide) ?_
    refine own_s_iload Xw226.here hx (hb hby at_400) (pc' := 402) rfl rfl ?_
    refine own_s_iconst Xw226.here hx (hb hby at_402) (pc' := 403) rfl (v := (1 : Int32)) (by decide) ?_
    refine own_s_icmpYes Xw226.here hx (hb hby at_403) (by decide) (pc' := 539) (by decide) (by decide) ?_
    refine own_s_aload Xw226.here hx (hb hby at_539) (pc' := 541) rfl rfl rfl ?_
    refine own_s_aload Xw226.here hx (hb hby at_541) (pc' := 543) rfl rfl rfl ?_
    refine own_s_bipush Xw226.here hx (hb hby at_543) (pc' := 545) rfl (v := (6 : Int32)) (by decide) ?_
    refine stw227 _ ?_
    show Steps p.tables e below (Tw227.setTop (mkF m 548 #[.val (.long p0), .second, .val (.long p1), .second, .val (.int p2), .val (.int w2_c2_a0_v7), .val (.int w2_c9_a1_v7), .val (.int w2_c16_a2_v7), .val (.int w2_c23_a3_v7), .val (.int w2_c30_a4_v7), .val (.int w2_c37_a5_v7), .val (.int w2_c44_a0_v7), .val (.int w2_c51_a1_v7), .val (.int w2_c58_a2_v7), .val (.int w2_c65_a3_v7), .val (.int w2_c72_a4_v7), .val (.int w2_c79_a5_v7), .val (.ref bw213), .val (.ref bw220), .val (.int (2 : Int32)), .unset] [(.ref bw227)])) _
    refine own_s_astore Xw227.here hx (hb hby at_548) (pc' := 550) rfl rfl (L' := #[.val (.long p0), .second, .val (.long p1), .second, .val (.int p2), .val (.int w2_c2_a0_v7), .val (.int w2_c9_a1_v7), .val (.int w2_c16_a2_v7), .val (.int w2_c23_a3_v7), .val (.int w2_c30_a4_v7), .val (.int w2_c37_a5_v7), .val (.int w2_c44_a0_v7), .val (.int w2_c51_a1_v7), .val (.int w2_c58_a2_v7), .val (.int w2_c65_a3_v7), .val (.int w2_c72_a4_v7), .val (.int w2_c79_a5_v7), .val (.ref bw213), .val (.ref bw220), .val (.int (2 : Int32)), .val (.ref bw227)]) rfl ?_
    refine own_s_aload Xw227.here hx (hb hby at_550) (pc' := 552) rfl rfl rfl ?_
    refine own_len Xw227 hx hZ rfl qw227_0 (hb hby at_552) (pc' := 553) rfl ?_
    refine own_s_iconst Xw227.here hx (hb hby at_553) (pc' := 554) rfl (v := (1 : Int32)) (by decide) ?_
    refine own_s_icmpYes Xw227.here hx (hb hby at_554) (by decide) (pc' := 559) (by decide) (by decide) ?_
    refine own_s_aload Xw227.here hx (hb hby at_559) (pc' := 561) rfl rfl rfl ?_
    refine own_s_iconst Xw227.here hx (hb hby at_561) (pc' := 562) rfl (v := (0 : Int32)) (by decide) ?_
    refine own_ldD Xw227 hx hZ rfl qw227_0 (j := (0 : Int32)) (x := w2_c545_c2_v72_6) (by decide) rfl (hb hby at_562) (pc' := 563) rfl ?_
    refine own_s_iload Xw227.here hx (hb hby at_563) (pc' := 565) rfl rfl ?_
    refine own_s_iload Xw227.here hx (hb hby at_565) (pc' := 567) rfl rfl ?_
    refine own_s_imul Xw227.here hx (hb hby at_567) (pc' := 568) rfl (v := w2_v567) w2_hv567 ?_
    refine own_s_iload Xw227.here hx (hb hby at_568) (pc' := 570) rfl rfl ?_
    refine own_s_iload Xw227.here hx (hb hby at_570) (pc' := 572) rfl rfl ?_
    refine own_s_imul Xw227.here hx (hb hby at_572) (pc' := 573) rfl (v := w2_v572) w2_hv572 ?_
    refine own_s_iadd Xw227.here hx (hb hby at_573) (pc' := 574) rfl (v := w2_v573) w2_hv573 ?_
    refine own_s_iload Xw227.here hx (hb hby at_574) (pc' := 576) rfl rfl ?_
    refine own_s_iload Xw227.here hx (hb hby at_576) (pc' := 578) rfl rfl ?_
    refine own_s_imul Xw227.here hx (hb hby at_578) (pc' := 579) rfl (v := w2_v578) w2_hv578 ?_
    refine own_s_iadd Xw227.here hx (hb hby at_579) (pc' := 580) rfl (v := w2_v579) w2_hv579 ?_
    refine own_s_iload Xw227.here hx (hb hby at_580) (pc' := 582) rfl rfl ?_
    refine own_s_iload Xw227.here hx (hb hby at_582) (pc' := 584) rfl rfl ?_
    refine own_s_imul Xw227.here hx (hb hby at_584) (pc' := 585) rfl (v := w2_v584) w2_hv584 ?_
    refine own_s_iadd Xw227.here hx (hb hby at_585) (pc' := 586) rfl (v := w2_v585) w2_hv585 ?_
    refine own_s_iload Xw227.here hx (hb hby at_586) (pc' := 588) rfl rfl ?_
    refine own_s_iload Xw227.here hx (hb hby at_588) (pc' := 590) rfl rfl ?_
    refine own_s_imul Xw227.here hx (hb hby at_590) (pc' := 591) rfl (v := w2_v590) w2_hv590 ?_
    refine own_s_iadd Xw227.here hx (hb hby at_591) (pc' := 592) rfl (v := w2_v591) w2_hv591 ?_
    refine own_s_iload Xw227.here hx (hb hby at_592) (pc' := 594) rfl rfl ?_
    refine own_s_iload Xw227.here hx (hb hby at_594) (pc' := 596) rfl rfl ?_
    refine own_s_imul Xw227.here hx (hb hby at_596) (pc' := 597) rfl (v := w2_v596) w2_hv596 ?_
    refine own_s_iadd Xw227.here hx (hb hby at_597) (pc' := 598) rfl (v := w2_v597) w2_hv597 ?_
    refine stw228 _ ?_
    show Steps p.tables e below (Tw228.setTop (mkF m 601 #[.val (.long p0), .second, .val (.long p1), .second, .val (.int p2), .val (.int w2_c2_a0_v7), .val (.int w2_c9_a1_v7), .val (.int w2_c16_a2_v7), .val (.int w2_c23_a3_v7), .val (.int w2_c30_a4_v7), .val (.int w2_c37_a5_v7), .val (.int w2_c44_a0_v7), .val (.int w2_c51_a1_v7), .val (.int w2_c58_a2_v7), .val (.int w2_c65_a3_v7), .val (.int w2_c72_a4_v7), .val (.int w2_c79_a5_v7), .val (.ref bw213), .val (.ref bw220), .val (.int (2 : Int32)), .val (.ref bw227)] [(.int (1 : Int32))])) _
    exact retN Xw228 hx (t := .boolean) Bd.returns (by simp) (hb hby at_601) hr
  · show own_Q0 n0 _ Tw228.heap _
    rw [ew228]
    exact ⟨rfl, Nw228⟩
theorem own_mod3 (x : Int32) : ∀ v, x &&& 2147483647 = v → v % 3 = 0 ∨ v % 3 = 1 ∨ v % 3 = 2 := by
  intro v hv
  have h1 := c_mask x 2147483647 31 (by decide) (by decide)
  rw [hv] at h1
  have h2 := (c_irem v 3 3 (by decide)).1 (by omega)
  have e : ∀ k : Int32, v % 3 = k ↔ (v % 3).toInt = k.toInt := fun k => Int32.toInt_inj.symm
  simp only [e, show (0 : Int32).toInt = 0 from rfl, show (1 : Int32).toInt = 1 from rfl, show (2 : Int32).toInt = 2 from rfl]
  omega
set_option maxRecDepth 65536 in
set_option maxHeartbeats 40000000 in
theorem own_rm0 (l : Launch) (Z : State) (a0 : Array Value) (hw : ∀ d ∈ tables_1, d.before a0 Z = true) (ws : List Jvm.Cond) (p0 : Int64) (p1 : Int64) (p2 : Int32) (h0 : Heap) (n0 : Nat) (Z0 : n0 ≤ h0.size)  :
    MetFree l x (head1 (Jvm.Cond.code x code maxLocals ret :: ws) room_1) (fun a U => a = #[(.long p0), (.long p1), (.int p2)] ∧ Z.Warmed39 U.vm ∧ U.heap = h0) (fun _ _ _ _ _ => True) (fun _ U o U' => ∃ v L, o = .returned v ∧ own_Q0 n0 v U'.heap L ∧ FrameEnd U o U' L room_1.cells room_1.slots) := by
  obtain ⟨v172, hs⟩ : ∃ v, p2 &&& 2147483647 = v := ⟨_, rfl⟩
  rcases own_mod3 p2 v172 hs with hn | hn | hn
  · obtain ⟨c2_a0_v5, c2_a0_hv5⟩ : ∃ v, p0 >>> ((0 : Int32) &&& 63).toInt64 = v := ⟨_, rfl⟩
    obtain ⟨c2_a0_v6, c2_a0_hv6⟩ : ∃ v, Int64.toInt32 c2_a0_v5 = v := ⟨_, rfl⟩
    obtain ⟨c2_a0_v7, c2_a0_hv7⟩ : ∃ v, (Int32.toInt8 c2_a0_v6).toInt32 = v := ⟨_, rfl⟩
    have L_c2_a0_v7 : own_I c2_a0_v7 c2_a0_v7.toInt 128 := by have := c_i2b c2_a0_v6; rw [c2_a0_hv7] at this; exact ⟨rfl, by omega, by omega⟩
    obtain ⟨c9_a1_v5, c9_a1_hv5⟩ : ∃ v, p0 >>> ((8 : Int32) &&& 63).toInt64 = v := ⟨_, rfl⟩
    obtain ⟨c9_a1_v6, c9_a1_hv6⟩ : ∃ v, Int64.toInt32 c9_a1_v5 = v := ⟨_, rfl⟩
    obtain ⟨c9_a1_v7, c9_a1_hv7⟩ : ∃ v, (Int32.toInt8 c9_a1_v6).toInt32 = v := ⟨_, rfl⟩
    have L_c9_a1_v7 : own_I c9_a1_v7 c9_a1_v7.toInt 128 := by have := c_i2b c9_a1_v6; rw [c9_a1_hv7] at this; exact ⟨rfl, by omega, by omega⟩
    obtain ⟨c16_a2_v5, c16_a2_hv5⟩ : ∃ v, p0 >>> ((16 : Int32) &&& 63).toInt64 = v := ⟨_, rfl⟩
    obtain ⟨c16_a2_v6, c16_a2_hv6⟩ : ∃ v, Int64.toInt32 c16_a2_v5 = v := ⟨_, rfl⟩
    obtain ⟨c16_a2_v7, c16_a2_hv7⟩ : ∃ v, (Int32.toInt8 c16_a2_v6).toInt32 = v := ⟨_, rfl⟩
    have L_c16_a2_v7 : own_I c16_a2_v7 c16_a2_v7.toInt 128 := by have := c_i2b c16_a2_v6; rw [c16_a2_hv7] at this; exact ⟨rfl, by omega, by omega⟩
    obtain ⟨c23_a3_v5, c23_a3_hv5⟩ : ∃ v, p0 >>> ((24 : Int32) &&& 63).toInt64 = v := ⟨_, rfl⟩
    obtain ⟨c23_a3_v6, c23_a3_hv6⟩ : ∃ v, Int64.toInt32 c23_a3_v5 = v := ⟨_, rfl⟩
    obtain ⟨c23_a3_v7, c23_a3_hv7⟩ : ∃ v, (Int32.toInt8 c23_a3_v6).toInt32 = v := ⟨_, rfl⟩
    have L_c23_a3_v7 : own_I c23_a3_v7 c23_a3_v7.toInt 128 := by have := c_i2b c23_a3_v6; rw [c23_a3_hv7] at this; exact ⟨rfl, by omega, by omega⟩
    obtain ⟨c30_a4_v5, c30_a4_hv5⟩ : ∃ v, p0 >>> ((32 : Int32) &&& 63).toInt64 = v := ⟨_, rfl⟩
    obtain ⟨c30_a4_v6, c30_a4_hv6⟩ : ∃ v, Int64.toInt32 c30_a4_v5 = v := ⟨_, rfl⟩
    obtain ⟨c30_a4_v7, c30_a4_hv7⟩ : ∃ v, (Int32.toInt8 c30_a4_v6).toInt32 = v := ⟨_, rfl⟩
    have L_c30_a4_v7 : own_I c30_a4_v7 c30_a4_v7.toInt 128 := by have := c_i2b c30_a4_v6; rw [c30_a4_hv7] at this; exact ⟨rfl, by omega, by omega⟩
    obtain ⟨c37_a5_v5, c37_a5_hv5⟩ : ∃ v, p0 >>> ((40 : Int32) &&& 63).toInt64 = v := ⟨_, rfl⟩
    obtain ⟨c37_a5_v6, c37_a5_hv6⟩ : ∃ v, Int64.toInt32 c37_a5_v5 = v := ⟨_, rfl⟩
    obtain ⟨c37_a5_v7, c37_a5_hv7⟩ : ∃ v, (Int32.toInt8 c37_a5_v6).toInt32 = v := ⟨_, rfl⟩
    have L_c37_a5_v7 : own_I c37_a5_v7 c37_a5_v7.toInt 128 := by have := c_i2b c37_a5_v6; rw [c37_a5_hv7] at this; exact ⟨rfl, by omega, by omega⟩
    obtain ⟨c44_a0_v5, c44_a0_hv5⟩ : ∃ v, p1 >>> ((0 : Int32) &&& 63).toInt64 = v := ⟨_, rfl⟩
    obtain ⟨c44_a0_v6, c44_a0_hv6⟩ : ∃ v, Int64.toInt32 c44_a0_v5 = v := ⟨_, rfl⟩
    obtain ⟨c44_a0_v7, c44_a0_hv7⟩ : ∃ v, (Int32.toInt8 c44_a0_v6).toInt32 = v := ⟨_, rfl⟩
    have L_c44_a0_v7 : own_I c44_a0_v7 c44_a0_v7.toInt 128 := by have := c_i2b c44_a0_v6; rw [c44_a0_hv7] at this; exact ⟨rfl, by omega, by omega⟩
    obtain ⟨c51_a1_v5, c51_a1_hv5⟩ : ∃ v, p1 >>> ((8 : Int32) &&& 63).toInt64 = v := ⟨_, rfl⟩
    obtain ⟨c51_a1_v6, c51_a1_hv6⟩ : ∃ v, Int64.toInt32 c51_a1_v5 = v := ⟨_, rfl⟩
    obtain ⟨c51_a1_v7, c51_a1_hv7⟩ : ∃ v, (Int32.toInt8 c51_a1_v6).toInt32 = v := ⟨_, rfl⟩
    have L_c51_a1_v7 : own_I c51_a1_v7 c51_a1_v7.toInt 128 := by have := c_i2b c51_a1_v6; rw [c51_a1_hv7] at this; exact ⟨rfl, by omega, by omega⟩
    obtain ⟨c58_a2_v5, c58_a2_hv5⟩ : ∃ v, p1 >>> ((16 : Int32) &&& 63).toInt64 = v := ⟨_, rfl⟩
    obtain ⟨c58_a2_v6, c58_a2_hv6⟩ : ∃ v, Int64.toInt32 c58_a2_v5 = v := ⟨_, rfl⟩
    obtain ⟨c58_a2_v7, c58_a2_hv7⟩ : ∃ v, (Int32.toInt8 c58_a2_v6).toInt32 = v := ⟨_, rfl⟩
    have L_c58_a2_v7 : own_I c58_a2_v7 c58_a2_v7.toInt 128 := by have := c_i2b c58_a2_v6; rw [c58_a2_hv7] at this; exact ⟨rfl, by omega, by omega⟩
    obtain ⟨c65_a3_v5, c65_a3_hv5⟩ : ∃ v, p1 >>> ((24 : Int32) &&& 63).toInt64 = v := ⟨_, rfl⟩
    obtain ⟨c65_a3_v6, c65_a3_hv6⟩ : ∃ v, Int64.toInt32 c65_a3_v5 = v := ⟨_, rfl⟩
    obtain ⟨c65_a3_v7, c65_a3_hv7⟩ : ∃ v, (Int32.toInt8 c65_a3_v6).toInt32 = v := ⟨_, rfl⟩
    have L_c65_a3_v7 : own_I c65_a3_v7 c65_a3_v7.toInt 128 := by have := c_i2b c65_a3_v6; rw [c65_a3_hv7] at this; exact ⟨rfl, by omega, by omega⟩
    obtain ⟨c72_a4_v5, c72_a4_hv5⟩ : ∃ v, p1 >>> ((32 : Int32) &&& 63).toInt64 = v := ⟨_, rfl⟩
    obtain ⟨c72_a4_v6, c72_a4_hv6⟩ : ∃ v, Int64.toInt32 c72_a4_v5 = v := ⟨_, rfl⟩
    obtain ⟨c72_a4_v7, c72_a4_hv7⟩ : ∃ v, (Int32.toInt8 c72_a4_v6).toInt32 = v := ⟨_, rfl⟩
    have L_c72_a4_v7 : own_I c72_a4_v7 c72_a4_v7.toInt 128 := by have := c_i2b c72_a4_v6; rw [c72_a4_hv7] at this; exact ⟨rfl, by omega, by omega⟩
    obtain ⟨c79_a5_v5, c79_a5_hv5⟩ : ∃ v, p1 >>> ((40 : Int32) &&& 63).toInt64 = v := ⟨_, rfl⟩
    obtain ⟨c79_a5_v6, c79_a5_hv6⟩ : ∃ v, Int64.toInt32 c79_a5_v5 = v := ⟨_, rfl⟩
    obtain ⟨c79_a5_v7, c79_a5_hv7⟩ : ∃ v, (Int32.toInt8 c79_a5_v6).toInt32 = v := ⟨_, rfl⟩
    have L_c79_a5_v7 : own_I c79_a5_v7 c79_a5_v7.toInt 128 := by have := c_i2b c79_a5_v6; rw [c79_a5_hv7] at this; exact ⟨rfl, by omega, by omega⟩
    obtain ⟨c187_c0_v71, c187_c0_hv71⟩ : ∃ v, FP.dmul (FP.i2d c2_a0_v7) (FP.i2d c44_a0_v7) = v := ⟨_, rfl⟩
    have Id1 : own_B (FP.i2d c2_a0_v7) (c2_a0_v7.toInt) 0 128 := own_Bi2d L_c2_a0_v7
    have Id2 : own_B (FP.i2d c44_a0_v7) (c44_a0_v7.toInt) 0 128 := own_Bi2d L_c44_a0_v7
    have J3 : own_B (FP.dmul (FP.i2d c2_a0_v7) (FP.i2d c44_a0_v7)) ((c2_a0_v7.toInt) * (c44_a0_v7.toInt)) (0) 16384 := own_Bcast (own_Bmul Id1 Id2 (by decide)) rfl (by decide) (by decide)
    have J3n := J3.nn
    rw [c187_c0_hv71] at J3
    obtain ⟨c187_c0_v72, c187_c0_hv72⟩ : ∃ v, FP.dadd 0 c187_c0_v71 = v := ⟨_, rfl⟩
    have Ic4 : own_B 0 (0) (0) 0 := ⟨⟨(Jvm.FP.Core.fin_bits _).mpr (by decide), by decide, by decide +kernel⟩, by decide, by decide⟩
    have J5 : own_B (FP.dadd 0 c187_c0_v71) ((0) + ((c2_a0_v7.toInt) * (c44_a0_v7.toInt))) (0) 16384 := own_Bcast (own_Badd Ic4 J3 (by decide)) rfl (by decide) (by decide)
    have J5n := J5.nn
    rw [c187_c0_hv72] at J5
    have Z_c187_c0_v72 := own_addz Ic4 J3 (by decide) (fun _ => rfl)
    rw [c187_c0_hv72] at Z_c187_c0_v72
    obtain ⟨c187_c0_v71_2, c187_c0_hv71_2⟩ : ∃ v, FP.dmul (FP.i2d c9_a1_v7) (FP.i2d c65_a3_v7) = v := ⟨_, rfl⟩
    have Id6 : own_B (FP.i2d c9_a1_v7) (c9_a1_v7.toInt) 0 128 := own_Bi2d L_c9_a1_v7
    have Id7 : own_B (FP.i2d c65_a3_v7) (c65_a3_v7.toInt) 0 128 := own_Bi2d L_c65_a3_v7
    have J8 : own_B (FP.dmul (FP.i2d c9_a1_v7) (FP.i2d c65_a3_v7)) ((c9_a1_v7.toInt) * (c65_a3_v7.toInt)) (0) 16384 := own_Bcast (own_Bmul Id6 Id7 (by decide)) rfl (by decide) (by decide)
    have J8n := J8.nn
    rw [c187_c0_hv71_2] at J8
    obtain ⟨c187_c0_v72_2, c187_c0_hv72_2⟩ : ∃ v, FP.dadd c187_c0_v72 c187_c0_v71_2 = v := ⟨_, rfl⟩
    have J9 : own_B (FP.dadd c187_c0_v72 c187_c0_v71_2) (((0) + ((c2_a0_v7.toInt) * (c44_a0_v7.toInt))) + ((c9_a1_v7.toInt) * (c65_a3_v7.toInt))) (0) 32768 := own_Bcast (own_Badd J5 J8 (by decide)) rfl (by decide) (by decide)
    have J9n := J9.nn
    rw [c187_c0_hv72_2] at J9
    have Z_c187_c0_v72_2 := own_addz J5 J8 (by decide) Z_c187_c0_v72
    rw [c187_c0_hv72_2] at Z_c187_c0_v72_2
    obtain ⟨c187_c0_v71_3, c187_c0_hv71_3⟩ : ∃ v, FP.dmul (FP.i2d c2_a0_v7) (FP.i2d c51_a1_v7) = v := ⟨_, rfl⟩
    have Id10 : own_B (FP.i2d c51_a1_v7) (c51_a1_v7.toInt) 0 128 := own_Bi2d L_c51_a1_v7
    have J11 : own_B (FP.dmul (FP.i2d c2_a0_v7) (FP.i2d c51_a1_v7)) ((c2_a0_v7.toInt) * (c51_a1_v7.toInt)) (0) 16384 := own_Bcast (own_Bmul Id1 Id10 (by decide)) rfl (by decide) (by decide)
    have J11n := J11.nn
    rw [c187_c0_hv71_3] at J11
    obtain ⟨c187_c0_v72_3, c187_c0_hv72_3⟩ : ∃ v, FP.dadd 0 c187_c0_v71_3 = v := ⟨_, rfl⟩
    have J12 : own_B (FP.dadd 0 c187_c0_v71_3) ((0) + ((c2_a0_v7.toInt) * (c51_a1_v7.toInt))) (0) 16384 := own_Bcast (own_Badd Ic4 J11 (by decide)) rfl (by decide) (by decide)
    have J12n := J12.nn
    rw [c187_c0_hv72_3] at J12
    have Z_c187_c0_v72_3 := own_addz Ic4 J11 (by decide) (fun _ => rfl)
    rw [c187_c0_hv72_3] at Z_c187_c0_v72_3
    obtain ⟨c187_c0_v71_4, c187_c0_hv71_4⟩ : ∃ v, FP.dmul (FP.i2d c9_a1_v7) (FP.i2d c72_a4_v7) = v := ⟨_, rfl⟩
    have Id13 : own_B (FP.i2d c72_a4_v7) (c72_a4_v7.toInt) 0 128 := own_Bi2d L_c72_a4_v7
    have J14 : own_B (FP.dmul (FP.i2d c9_a1_v7) (FP.i2d c72_a4_v7)) ((c9_a1_v7.toInt) * (c72_a4_v7.toInt)) (0) 16384 := own_Bcast (own_Bmul Id6 Id13 (by decide)) rfl (by decide) (by decide)
    have J14n := J14.nn
    rw [c187_c0_hv71_4] at J14
    obtain ⟨c187_c0_v72_4, c187_c0_hv72_4⟩ : ∃ v, FP.dadd c187_c0_v72_3 c187_c0_v71_4 = v := ⟨_, rfl⟩
    have J15 : own_B (FP.dadd c187_c0_v72_3 c187_c0_v71_4) (((0) + ((c2_a0_v7.toInt) * (c51_a1_v7.toInt))) + ((c9_a1_v7.toInt) * (c72_a4_v7.toInt))) (0) 32768 := own_Bcast (own_Badd J12 J14 (by decide)) rfl (by decide) (by decide)
    have J15n := J15.nn
    rw [c187_c0_hv72_4] at J15
    have Z_c187_c0_v72_4 := own_addz J12 J14 (by decide) Z_c187_c0_v72_3
    rw [c187_c0_hv72_4] at Z_c187_c0_v72_4
    obtain ⟨c187_c0_v71_5, c187_c0_hv71_5⟩ : ∃ v, FP.dmul (FP.i2d c2_a0_v7) (FP.i2d c58_a2_v7) = v := ⟨_, rfl⟩
    have Id16 : own_B (FP.i2d c58_a2_v7) (c58_a2_v7.toInt) 0 128 := own_Bi2d L_c58_a2_v7
    have J17 : own_B (FP.dmul (FP.i2d c2_a0_v7) (FP.i2d c58_a2_v7)) ((c2_a0_v7.toInt) * (c58_a2_v7.toInt)) (0) 16384 := own_Bcast (own_Bmul Id1 Id16 (by decide)) rfl (by decide) (by decide)
    have J17n := J17.nn
    rw [c187_c0_hv71_5] at J17
    obtain ⟨c187_c0_v72_5, c187_c0_hv72_5⟩ : ∃ v, FP.dadd 0 c187_c0_v71_5 = v := ⟨_, rfl⟩
    have J18 : own_B (FP.dadd 0 c187_c0_v71_5) ((0) + ((c2_a0_v7.toInt) * (c58_a2_v7.toInt))) (0) 16384 := own_Bcast (own_Badd Ic4 J17 (by decide)) rfl (by decide) (by decide)
    have J18n := J18.nn
    rw [c187_c0_hv72_5] at J18
    have Z_c187_c0_v72_5 := own_addz Ic4 J17 (by decide) (fun _ => rfl)
    rw [c187_c0_hv72_5] at Z_c187_c0_v72_5
    obtain ⟨c187_c0_v71_6, c187_c0_hv71_6⟩ : ∃ v, FP.dmul (FP.i2d c9_a1_v7) (FP.i2d c79_a5_v7) = v := ⟨_, rfl⟩
    have Id19 : own_B (FP.i2d c79_a5_v7) (c79_a5_v7.toInt) 0 128 := own_Bi2d L_c79_a5_v7
    have J20 : own_B (FP.dmul (FP.i2d c9_a1_v7) (FP.i2d c79_a5_v7)) ((c9_a1_v7.toInt) * (c79_a5_v7.toInt)) (0) 16384 := own_Bcast (own_Bmul Id6 Id19 (by decide)) rfl (by decide) (by decide)
    have J20n := J20.nn
    rw [c187_c0_hv71_6] at J20
    obtain ⟨c187_c0_v72_6, c187_c0_hv72_6⟩ : ∃ v, FP.dadd c187_c0_v72_5 c187_c0_v71_6 = v := ⟨_, rfl⟩
    have J21 : own_B (FP.dadd c187_c0_v72_5 c187_c0_v71_6) (((0) + ((c2_a0_v7.toInt) * (c58_a2_v7.toInt))) + ((c9_a1_v7.toInt) * (c79_a5_v7.toInt))) (0) 32768 := own_Bcast (own_Badd J18 J20 (by decide)) rfl (by decide) (by decide)
    have J21n := J21.nn
    rw [c187_c0_hv72_6] at J21
    have Z_c187_c0_v72_6 := own_addz J18 J20 (by decide) Z_c187_c0_v72_5
    rw [c187_c0_hv72_6] at Z_c187_c0_v72_6
    obtain ⟨c187_c0_v71_7, c187_c0_hv71_7⟩ : ∃ v, FP.dmul (FP.i2d c16_a2_v7) (FP.i2d c44_a0_v7) = v := ⟨_, rfl⟩
    have Id22 : own_B (FP.i2d c16_a2_v7) (c16_a2_v7.toInt) 0 128 := own_Bi2d L_c16_a2_v7
    have J23 : own_B (FP.dmul (FP.i2d c16_a2_v7) (FP.i2d c44_a0_v7)) ((c16_a2_v7.toInt) * (c44_a0_v7.toInt)) (0) 16384 := own_Bcast (own_Bmul Id22 Id2 (by decide)) rfl (by decide) (by decide)
    have J23n := J23.nn
    rw [c187_c0_hv71_7] at J23
    obtain ⟨c187_c0_v72_7, c187_c0_hv72_7⟩ : ∃ v, FP.dadd 0 c187_c0_v71_7 = v := ⟨_, rfl⟩
    have J24 : own_B (FP.dadd 0 c187_c0_v71_7) ((0) + ((c16_a2_v7.toInt) * (c44_a0_v7.toInt))) (0) 16384 := own_Bcast (own_Badd Ic4 J23 (by decide)) rfl (by decide) (by decide)
    have J24n := J24.nn
    rw [c187_c0_hv72_7] at J24
    have Z_c187_c0_v72_7 := own_addz Ic4 J23 (by decide) (fun _ => rfl)
    rw [c187_c0_hv72_7] at Z_c187_c0_v72_7
    obtain ⟨c187_c0_v71_8, c187_c0_hv71_8⟩ : ∃ v, FP.dmul (FP.i2d c23_a3_v7) (FP.i2d c65_a3_v7) = v := ⟨_, rfl⟩
    have Id25 : own_B (FP.i2d c23_a3_v7) (c23_a3_v7.toInt) 0 128 := own_Bi2d L_c23_a3_v7
    have J26 : own_B (FP.dmul (FP.i2d c23_a3_v7) (FP.i2d c65_a3_v7)) ((c23_a3_v7.toInt) * (c65_a3_v7.toInt)) (0) 16384 := own_Bcast (own_Bmul Id25 Id7 (by decide)) rfl (by decide) (by decide)
    have J26n := J26.nn
    rw [c187_c0_hv71_8] at J26
    obtain ⟨c187_c0_v72_8, c187_c0_hv72_8⟩ : ∃ v, FP.dadd c187_c0_v72_7 c187_c0_v71_8 = v := ⟨_, rfl⟩
    have J27 : own_B (FP.dadd c187_c0_v72_7 c187_c0_v71_8) (((0) + ((c16_a2_v7.toInt) * (c44_a0_v7.toInt))) + ((c23_a3_v7.toInt) * (c65_a3_v7.toInt))) (0) 32768 := own_Bcast (own_Badd J24 J26 (by decide)) rfl (by decide) (by decide)
    have J27n := J27.nn
    rw [c187_c0_hv72_8] at J27
    have Z_c187_c0_v72_8 := own_addz J24 J26 (by decide) Z_c187_c0_v72_7
    rw [c187_c0_hv72_8] at Z_c187_c0_v72_8
    obtain ⟨c187_c0_v71_9, c187_c0_hv71_9⟩ : ∃ v, FP.dmul (FP.i2d c16_a2_v7) (FP.i2d c51_a1_v7) = v := ⟨_, rfl⟩
    have J28 : own_B (FP.dmul (FP.i2d c16_a2_v7) (FP.i2d c51_a1_v7)) ((c16_a2_v7.toInt) * (c51_a1_v7.toInt)) (0) 16384 := own_Bcast (own_Bmul Id22 Id10 (by decide)) rfl (by decide) (by decide)
    have J28n := J28.nn
    rw [c187_c0_hv71_9] at J28
    obtain ⟨c187_c0_v72_9, c187_c0_hv72_9⟩ : ∃ v, FP.dadd 0 c187_c0_v71_9 = v := ⟨_, rfl⟩
    have J29 : own_B (FP.dadd 0 c187_c0_v71_9) ((0) + ((c16_a2_v7.toInt) * (c51_a1_v7.toInt))) (0) 16384 := own_Bcast (own_Badd Ic4 J28 (by decide)) rfl (by decide) (by decide)
    have J29n := J29.nn
    rw [c187_c0_hv72_9] at J29
    have Z_c187_c0_v72_9 := own_addz Ic4 J28 (by decide) (fun _ => rfl)
    rw [c187_c0_hv72_9] at Z_c187_c0_v72_9
    obtain ⟨c187_c0_v71_10, c187_c0_hv71_10⟩ : ∃ v, FP.dmul (FP.i2d c23_a3_v7) (FP.i2d c72_a4_v7) = v := ⟨_, rfl⟩
    have J30 : own_B (FP.dmul (FP.i2d c23_a3_v7) (FP.i2d c72_a4_v7)) ((c23_a3_v7.toInt) * (c72_a4_v7.toInt)) (0) 16384 := own_Bcast (own_Bmul Id25 Id13 (by decide)) rfl (by decide) (by decide)
    have J30n := J30.nn
    rw [c187_c0_hv71_10] at J30
    obtain ⟨c187_c0_v72_10, c187_c0_hv72_10⟩ : ∃ v, FP.dadd c187_c0_v72_9 c187_c0_v71_10 = v := ⟨_, rfl⟩
    have J31 : own_B (FP.dadd c187_c0_v72_9 c187_c0_v71_10) (((0) + ((c16_a2_v7.toInt) * (c51_a1_v7.toInt))) + ((c23_a3_v7.toInt) * (c72_a4_v7.toInt))) (0) 32768 := own_Bcast (own_Badd J29 J30 (by decide)) rfl (by decide) (by decide)
    have J31n := J31.nn
    rw [c187_c0_hv72_10] at J31
    have Z_c187_c0_v72_10 := own_addz J29 J30 (by decide) Z_c187_c0_v72_9
    rw [c187_c0_hv72_10] at Z_c187_c0_v72_10
    obtain ⟨c187_c0_v71_11, c187_c0_hv71_11⟩ : ∃ v, FP.dmul (FP.i2d c16_a2_v7) (FP.i2d c58_a2_v7) = v := ⟨_, rfl⟩
    have J32 : own_B (FP.dmul (FP.i2d c16_a2_v7) (FP.i2d c58_a2_v7)) ((c16_a2_v7.toInt) * (c58_a2_v7.toInt)) (0) 16384 := own_Bcast (own_Bmul Id22 Id16 (by decide)) rfl (by decide) (by decide)
    have J32n := J32.nn
    rw [c187_c0_hv71_11] at J32
    obtain ⟨c187_c0_v72_11, c187_c0_hv72_11⟩ : ∃ v, FP.dadd 0 c187_c0_v71_11 = v := ⟨_, rfl⟩
    have J33 : own_B (FP.dadd 0 c187_c0_v71_11) ((0) + ((c16_a2_v7.toInt) * (c58_a2_v7.toInt))) (0) 16384 := own_Bcast (own_Badd Ic4 J32 (by decide)) rfl (by decide) (by decide)
    have J33n := J33.nn
    rw [c187_c0_hv72_11] at J33
    have Z_c187_c0_v72_11 := own_addz Ic4 J32 (by decide) (fun _ => rfl)
    rw [c187_c0_hv72_11] at Z_c187_c0_v72_11
    obtain ⟨c187_c0_v71_12, c187_c0_hv71_12⟩ : ∃ v, FP.dmul (FP.i2d c23_a3_v7) (FP.i2d c79_a5_v7) = v := ⟨_, rfl⟩
    have J34 : own_B (FP.dmul (FP.i2d c23_a3_v7) (FP.i2d c79_a5_v7)) ((c23_a3_v7.toInt) * (c79_a5_v7.toInt)) (0) 16384 := own_Bcast (own_Bmul Id25 Id19 (by decide)) rfl (by decide) (by decide)
    have J34n := J34.nn
    rw [c187_c0_hv71_12] at J34
    obtain ⟨c187_c0_v72_12, c187_c0_hv72_12⟩ : ∃ v, FP.dadd c187_c0_v72_11 c187_c0_v71_12 = v := ⟨_, rfl⟩
    have J35 : own_B (FP.dadd c187_c0_v72_11 c187_c0_v71_12) (((0) + ((c16_a2_v7.toInt) * (c58_a2_v7.toInt))) + ((c23_a3_v7.toInt) * (c79_a5_v7.toInt))) (0) 32768 := own_Bcast (own_Badd J33 J34 (by decide)) rfl (by decide) (by decide)
    have J35n := J35.nn
    rw [c187_c0_hv72_12] at J35
    have Z_c187_c0_v72_12 := own_addz J33 J34 (by decide) Z_c187_c0_v72_11
    rw [c187_c0_hv72_12] at Z_c187_c0_v72_12
    obtain ⟨c187_c0_v71_13, c187_c0_hv71_13⟩ : ∃ v, FP.dmul (FP.i2d c30_a4_v7) (FP.i2d c44_a0_v7) = v := ⟨_, rfl⟩
    have Id36 : own_B (FP.i2d c30_a4_v7) (c30_a4_v7.toInt) 0 128 := own_Bi2d L_c30_a4_v7
    have J37 : own_B (FP.dmul (FP.i2d c30_a4_v7) (FP.i2d c44_a0_v7)) ((c30_a4_v7.toInt) * (c44_a0_v7.toInt)) (0) 16384 := own_Bcast (own_Bmul Id36 Id2 (by decide)) rfl (by decide) (by decide)
    have J37n := J37.nn
    rw [c187_c0_hv71_13] at J37
    obtain ⟨c187_c0_v72_13, c187_c0_hv72_13⟩ : ∃ v, FP.dadd 0 c187_c0_v71_13 = v := ⟨_, rfl⟩
    have J38 : own_B (FP.dadd 0 c187_c0_v71_13) ((0) + ((c30_a4_v7.toInt) * (c44_a0_v7.toInt))) (0) 16384 := own_Bcast (own_Badd Ic4 J37 (by decide)) rfl (by decide) (by decide)
    have J38n := J38.nn
    rw [c187_c0_hv72_13] at J38
    have Z_c187_c0_v72_13 := own_addz Ic4 J37 (by decide) (fun _ => rfl)
    rw [c187_c0_hv72_13] at Z_c187_c0_v72_13
    obtain ⟨c187_c0_v71_14, c187_c0_hv71_14⟩ : ∃ v, FP.dmul (FP.i2d c37_a5_v7) (FP.i2d c65_a3_v7) = v := ⟨_, rfl⟩
    have Id39 : own_B (FP.i2d c37_a5_v7) (c37_a5_v7.toInt) 0 128 := own_Bi2d L_c37_a5_v7
    have J40 : own_B (FP.dmul (FP.i2d c37_a5_v7) (FP.i2d c65_a3_v7)) ((c37_a5_v7.toInt) * (c65_a3_v7.toInt)) (0) 16384 := own_Bcast (own_Bmul Id39 Id7 (by decide)) rfl (by decide) (by decide)
    have J40n := J40.nn
    rw [c187_c0_hv71_14] at J40
    obtain ⟨c187_c0_v72_14, c187_c0_hv72_14⟩ : ∃ v, FP.dadd c187_c0_v72_13 c187_c0_v71_14 = v := ⟨_, rfl⟩
    have J41 : own_B (FP.dadd c187_c0_v72_13 c187_c0_v71_14) (((0) + ((c30_a4_v7.toInt) * (c44_a0_v7.toInt))) + ((c37_a5_v7.toInt) * (c65_a3_v7.toInt))) (0) 32768 := own_Bcast (own_Badd J38 J40 (by decide)) rfl (by decide) (by decide)
    have J41n := J41.nn
    rw [c187_c0_hv72_14] at J41
    have Z_c187_c0_v72_14 := own_addz J38 J40 (by decide) Z_c187_c0_v72_13
    rw [c187_c0_hv72_14] at Z_c187_c0_v72_14
    obtain ⟨c187_c0_v71_15, c187_c0_hv71_15⟩ : ∃ v, FP.dmul (FP.i2d c30_a4_v7) (FP.i2d c51_a1_v7) = v := ⟨_, rfl⟩
    have J42 : own_B (FP.dmul (FP.i2d c30_a4_v7) (FP.i2d c51_a1_v7)) ((c30_a4_v7.toInt) * (c51_a1_v7.toInt)) (0) 16384 := own_Bcast (own_Bmul Id36 Id10 (by decide)) rfl (by decide) (by decide)
    have J42n := J42.nn
    rw [c187_c0_hv71_15] at J42
    obtain ⟨c187_c0_v72_15, c187_c0_hv72_15⟩ : ∃ v, FP.dadd 0 c187_c0_v71_15 = v := ⟨_, rfl⟩
    have J43 : own_B (FP.dadd 0 c187_c0_v71_15) ((0) + ((c30_a4_v7.toInt) * (c51_a1_v7.toInt))) (0) 16384 := own_Bcast (own_Badd Ic4 J42 (by decide)) rfl (by decide) (by decide)
    have J43n := J43.nn
    rw [c187_c0_hv72_15] at J43
    have Z_c187_c0_v72_15 := own_addz Ic4 J42 (by decide) (fun _ => rfl)
    rw [c187_c0_hv72_15] at Z_c187_c0_v72_15
    obtain ⟨c187_c0_v71_16, c187_c0_hv71_16⟩ : ∃ v, FP.dmul (FP.i2d c37_a5_v7) (FP.i2d c72_a4_v7) = v := ⟨_, rfl⟩
    have J44 : own_B (FP.dmul (FP.i2d c37_a5_v7) (FP.i2d c72_a4_v7)) ((c37_a5_v7.toInt) * (c72_a4_v7.toInt)) (0) 16384 := own_Bcast (own_Bmul Id39 Id13 (by decide)) rfl (by decide) (by decide)
    have J44n := J44.nn
    rw [c187_c0_hv71_16] at J44
    obtain ⟨c187_c0_v72_16, c187_c0_hv72_16⟩ : ∃ v, FP.dadd c187_c0_v72_15 c187_c0_v71_16 = v := ⟨_, rfl⟩
    have J45 : own_B (FP.dadd c187_c0_v72_15 c187_c0_v71_16) (((0) + ((c30_a4_v7.toInt) * (c51_a1_v7.toInt))) + ((c37_a5_v7.toInt) * (c72_a4_v7.toInt))) (0) 32768 := own_Bcast (own_Badd J43 J44 (by decide)) rfl (by decide) (by decide)
    have J45n := J45.nn
    rw [c187_c0_hv72_16] at J45
    have Z_c187_c0_v72_16 := own_addz J43 J44 (by decide) Z_c187_c0_v72_15
    rw [c187_c0_hv72_16] at Z_c187_c0_v72_16
    obtain ⟨c187_c0_v71_17, c187_c0_hv71_17⟩ : ∃ v, FP.dmul (FP.i2d c30_a4_v7) (FP.i2d c58_a2_v7) = v := ⟨_, rfl⟩
    have J46 : own_B (FP.dmul (FP.i2d c30_a4_v7) (FP.i2d c58_a2_v7)) ((c30_a4_v7.toInt) * (c58_a2_v7.toInt)) (0) 16384 := own_Bcast (own_Bmul Id36 Id16 (by decide)) rfl (by decide) (by decide)
    have J46n := J46.nn
    rw [c187_c0_hv71_17] at J46
    obtain ⟨c187_c0_v72_17, c187_c0_hv72_17⟩ : ∃ v, FP.dadd 0 c187_c0_v71_17 = v := ⟨_, rfl⟩
    have J47 : own_B (FP.dadd 0 c187_c0_v71_17) ((0) + ((c30_a4_v7.toInt) * (c58_a2_v7.toInt))) (0) 16384 := own_Bcast (own_Badd Ic4 J46 (by decide)) rfl (by decide) (by decide)
    have J47n := J47.nn
    rw [c187_c0_hv72_17] at J47
    have Z_c187_c0_v72_17 := own_addz Ic4 J46 (by decide) (fun _ => rfl)
    rw [c187_c0_hv72_17] at Z_c187_c0_v72_17
    obtain ⟨c187_c0_v71_18, c187_c0_hv71_18⟩ : ∃ v, FP.dmul (FP.i2d c37_a5_v7) (FP.i2d c79_a5_v7) = v := ⟨_, rfl⟩
    have J48 : own_B (FP.dmul (FP.i2d c37_a5_v7) (FP.i2d c79_a5_v7)) ((c37_a5_v7.toInt) * (c79_a5_v7.toInt)) (0) 16384 := own_Bcast (own_Bmul Id39 Id19 (by decide)) rfl (by decide) (by decide)
    have J48n := J48.nn
    rw [c187_c0_hv71_18] at J48
    obtain ⟨c187_c0_v72_18, c187_c0_hv72_18⟩ : ∃ v, FP.dadd c187_c0_v72_17 c187_c0_v71_18 = v := ⟨_, rfl⟩
    have J49 : own_B (FP.dadd c187_c0_v72_17 c187_c0_v71_18) (((0) + ((c30_a4_v7.toInt) * (c58_a2_v7.toInt))) + ((c37_a5_v7.toInt) * (c79_a5_v7.toInt))) (0) 32768 := own_Bcast (own_Badd J47 J48 (by decide)) rfl (by decide) (by decide)
    have J49n := J49.nn
    rw [c187_c0_hv72_18] at J49
    have Z_c187_c0_v72_18 := own_addz J47 J48 (by decide) Z_c187_c0_v72_17
    rw [c187_c0_hv72_18] at Z_c187_c0_v72_18
    obtain ⟨v210, hv210⟩ : ∃ v, c2_a0_v7 * c44_a0_v7 = v := ⟨_, rfl⟩
    have L_v210 : own_I v210 ((c2_a0_v7.toInt) * (c44_a0_v7.toInt)) 16384 := own_Icast (own_Imul hv210 L_c2_a0_v7 L_c44_a0_v7 (by decide)) rfl (by decide)
    obtain ⟨v215, hv215⟩ : ∃ v, c9_a1_v7 * c65_a3_v7 = v := ⟨_, rfl⟩
    have L_v215 : own_I v215 ((c9_a1_v7.toInt) * (c65_a3_v7.toInt)) 16384 := own_Icast (own_Imul hv215 L_c9_a1_v7 L_c65_a3_v7 (by decide)) rfl (by decide)
    obtain ⟨v216, hv216⟩ : ∃ v, v210 + v215 = v := ⟨_, rfl⟩
    have L_v216 : own_I v216 ((((c2_a0_v7.toInt) * (c44_a0_v7.toInt))) + (((c9_a1_v7.toInt) * (c65_a3_v7.toInt)))) 32768 := own_Icast (own_Iadd hv216 L_v210 L_v215 (by decide)) rfl (by decide)
    obtain ⟨v231, hv231⟩ : ∃ v, c2_a0_v7 * c51_a1_v7 = v := ⟨_, rfl⟩
    have L_v231 : own_I v231 ((c2_a0_v7.toInt) * (c51_a1_v7.toInt)) 16384 := own_Icast (own_Imul hv231 L_c2_a0_v7 L_c51_a1_v7 (by decide)) rfl (by decide)
    obtain ⟨v236, hv236⟩ : ∃ v, c9_a1_v7 * c72_a4_v7 = v := ⟨_, rfl⟩
    have L_v236 : own_I v236 ((c9_a1_v7.toInt) * (c72_a4_v7.toInt)) 16384 := own_Icast (own_Imul hv236 L_c9_a1_v7 L_c72_a4_v7 (by decide)) rfl (by decide)
    obtain ⟨v237, hv237⟩ : ∃ v, v231 + v236 = v := ⟨_, rfl⟩
    have L_v237 : own_I v237 ((((c2_a0_v7.toInt) * (c51_a1_v7.toInt))) + (((c9_a1_v7.toInt) * (c72_a4_v7.toInt)))) 32768 := own_Icast (own_Iadd hv237 L_v231 L_v236 (by decide)) rfl (by decide)
    obtain ⟨v252, hv252⟩ : ∃ v, c2_a0_v7 * c58_a2_v7 = v := ⟨_, rfl⟩
    have L_v252 : own_I v252 ((c2_a0_v7.toInt) * (c58_a2_v7.toInt)) 16384 := own_Icast (own_Imul hv252 L_c2_a0_v7 L_c58_a2_v7 (by decide)) rfl (by decide)
    obtain ⟨v257, hv257⟩ : ∃ v, c9_a1_v7 * c79_a5_v7 = v := ⟨_, rfl⟩
    have L_v257 : own_I v257 ((c9_a1_v7.toInt) * (c79_a5_v7.toInt)) 16384 := own_Icast (own_Imul hv257 L_c9_a1_v7 L_c79_a5_v7 (by decide)) rfl (by decide)
    obtain ⟨v258, hv258⟩ : ∃ v, v252 + v257 = v := ⟨_, rfl⟩
    have L_v258 : own_I v258 ((((c2_a0_v7.toInt) * (c58_a2_v7.toInt))) + (((c9_a1_v7.toInt) * (c79_a5_v7.toInt)))) 32768 := own_Icast (own_Iadd hv258 L_v252 L_v257 (by decide)) rfl (by decide)
    obtain ⟨v273, hv273⟩ : ∃ v, c16_a2_v7 * c44_a0_v7 = v := ⟨_, rfl⟩
    have L_v273 : own_I v273 ((c16_a2_v7.toInt) * (c44_a0_v7.toInt)) 16384 := own_Icast (own_Imul hv273 L_c16_a2_v7 L_c44_a0_v7 (by decide)) rfl (by decide)
    obtain ⟨v278, hv278⟩ : ∃ v, c23_a3_v7 * c65_a3_v7 = v := ⟨_, rfl⟩
    have L_v278 : own_I v278 ((c23_a3_v7.toInt) * (c65_a3_v7.toInt)) 16384 := own_Icast (own_Imul hv278 L_c23_a3_v7 L_c65_a3_v7 (by decide)) rfl (by decide)
    obtain ⟨v279, hv279⟩ : ∃ v, v273 + v278 = v := ⟨_, rfl⟩
    have L_v279 : own_I v279 ((((c16_a2_v7.toInt) * (c44_a0_v7.toInt))) + (((c23_a3_v7.toInt) * (c65_a3_v7.toInt)))) 32768 := own_Icast (own_Iadd hv279 L_v273 L_v278 (by decide)) rfl (by decide)
    obtain ⟨v294, hv294⟩ : ∃ v, c16_a2_v7 * c51_a1_v7 = v := ⟨_, rfl⟩
    have L_v294 : own_I v294 ((c16_a2_v7.toInt) * (c51_a1_v7.toInt)) 16384 := own_Icast (own_Imul hv294 L_c16_a2_v7 L_c51_a1_v7 (by decide)) rfl (by decide)
    obtain ⟨v299, hv299⟩ : ∃ v, c23_a3_v7 * c72_a4_v7 = v := ⟨_, rfl⟩
    have L_v299 : own_I v299 ((c23_a3_v7.toInt) * (c72_a4_v7.toInt)) 16384 := own_Icast (own_Imul hv299 L_c23_a3_v7 L_c72_a4_v7 (by decide)) rfl (by decide)
    obtain ⟨v300, hv300⟩ : ∃ v, v294 + v299 = v := ⟨_, rfl⟩
    have L_v300 : own_I v300 ((((c16_a2_v7.toInt) * (c51_a1_v7.toInt))) + (((c23_a3_v7.toInt) * (c72_a4_v7.toInt)))) 32768 := own_Icast (own_Iadd hv300 L_v294 L_v299 (by decide)) rfl (by decide)
    obtain ⟨v315, hv315⟩ : ∃ v, c16_a2_v7 * c58_a2_v7 = v := ⟨_, rfl⟩
    have L_v315 : own_I v315 ((c16_a2_v7.toInt) * (c58_a2_v7.toInt)) 16384 := own_Icast (own_Imul hv315 L_c16_a2_v7 L_c58_a2_v7 (by decide)) rfl (by decide)
    obtain ⟨v320, hv320⟩ : ∃ v, c23_a3_v7 * c79_a5_v7 = v := ⟨_, rfl⟩
    have L_v320 : own_I v320 ((c23_a3_v7.toInt) * (c79_a5_v7.toInt)) 16384 := own_Icast (own_Imul hv320 L_c23_a3_v7 L_c79_a5_v7 (by decide)) rfl (by decide)
    obtain ⟨v321, hv321⟩ : ∃ v, v315 + v320 = v := ⟨_, rfl⟩
    have L_v321 : own_I v321 ((((c16_a2_v7.toInt) * (c58_a2_v7.toInt))) + (((c23_a3_v7.toInt) * (c79_a5_v7.toInt)))) 32768 := own_Icast (own_Iadd hv321 L_v315 L_v320 (by decide)) rfl (by decide)
    obtain ⟨v337, hv337⟩ : ∃ v, c30_a4_v7 * c44_a0_v7 = v := ⟨_, rfl⟩
    have L_v337 : own_I v337 ((c30_a4_v7.toInt) * (c44_a0_v7.toInt)) 16384 := own_Icast (own_Imul hv337 L_c30_a4_v7 L_c44_a0_v7 (by decide)) rfl (by decide)
    obtain ⟨v342, hv342⟩ : ∃ v, c37_a5_v7 * c65_a3_v7 = v := ⟨_, rfl⟩
    have L_v342 : own_I v342 ((c37_a5_v7.toInt) * (c65_a3_v7.toInt)) 16384 := own_Icast (own_Imul hv342 L_c37_a5_v7 L_c65_a3_v7 (by decide)) rfl (by decide)
    obtain ⟨v343, hv343⟩ : ∃ v, v337 + v342 = v := ⟨_, rfl⟩
    have L_v343 : own_I v343 ((((c30_a4_v7.toInt) * (c44_a0_v7.toInt))) + (((c37_a5_v7.toInt) * (c65_a3_v7.toInt)))) 32768 := own_Icast (own_Iadd hv343 L_v337 L_v342 (by decide)) rfl (by decide)
    obtain ⟨v359, hv359⟩ : ∃ v, c30_a4_v7 * c51_a1_v7 = v := ⟨_, rfl⟩
    have L_v359 : own_I v359 ((c30_a4_v7.toInt) * (c51_a1_v7.toInt)) 16384 := own_Icast (own_Imul hv359 L_c30_a4_v7 L_c51_a1_v7 (by decide)) rfl (by decide)
    obtain ⟨v364, hv364⟩ : ∃ v, c37_a5_v7 * c72_a4_v7 = v := ⟨_, rfl⟩
    have L_v364 : own_I v364 ((c37_a5_v7.toInt) * (c72_a4_v7.toInt)) 16384 := own_Icast (own_Imul hv364 L_c37_a5_v7 L_c72_a4_v7 (by decide)) rfl (by decide)
    obtain ⟨v365, hv365⟩ : ∃ v, v359 + v364 = v := ⟨_, rfl⟩
    have L_v365 : own_I v365 ((((c30_a4_v7.toInt) * (c51_a1_v7.toInt))) + (((c37_a5_v7.toInt) * (c72_a4_v7.toInt)))) 32768 := own_Icast (own_Iadd hv365 L_v359 L_v364 (by decide)) rfl (by decide)
    obtain ⟨v381, hv381⟩ : ∃ v, c30_a4_v7 * c58_a2_v7 = v := ⟨_, rfl⟩
    have L_v381 : own_I v381 ((c30_a4_v7.toInt) * (c58_a2_v7.toInt)) 16384 := own_Icast (own_Imul hv381 L_c30_a4_v7 L_c58_a2_v7 (by decide)) rfl (by decide)
    obtain ⟨v386, hv386⟩ : ∃ v, c37_a5_v7 * c79_a5_v7 = v := ⟨_, rfl⟩
    have L_v386 : own_I v386 ((c37_a5_v7.toInt) * (c79_a5_v7.toInt)) 16384 := own_Icast (own_Imul hv386 L_c37_a5_v7 L_c79_a5_v7 (by decide)) rfl (by decide)
    obtain ⟨v387, hv387⟩ : ∃ v, v381 + v386 = v := ⟨_, rfl⟩
    have L_v387 : own_I v387 ((((c30_a4_v7.toInt) * (c58_a2_v7.toInt))) + (((c37_a5_v7.toInt) * (c79_a5_v7.toInt)))) 32768 := own_Icast (own_Iadd hv387 L_v381 L_v386 (by decide)) rfl (by decide)
    have Id50 : own_B (FP.i2d v216) (((((c2_a0_v7.toInt) * (c44_a0_v7.toInt))) + (((c9_a1_v7.toInt) * (c65_a3_v7.toInt))))) 0 32768 := own_Bi2d L_v216
    have Id51 : own_B (FP.i2d v237) (((((c2_a0_v7.toInt) * (c51_a1_v7.toInt))) + (((c9_a1_v7.toInt) * (c72_a4_v7.toInt))))) 0 32768 := own_Bi2d L_v237
    have Id52 : own_B (FP.i2d v258) (((((c2_a0_v7.toInt) * (c58_a2_v7.toInt))) + (((c9_a1_v7.toInt) * (c79_a5_v7.toInt))))) 0 32768 := own_Bi2d L_v258
    have Id53 : own_B (FP.i2d v279) (((((c16_a2_v7.toInt) * (c44_a0_v7.toInt))) + (((c23_a3_v7.toInt) * (c65_a3_v7.toInt))))) 0 32768 := own_Bi2d L_v279
    have Id54 : own_B (FP.i2d v300) (((((c16_a2_v7.toInt) * (c51_a1_v7.toInt))) + (((c23_a3_v7.toInt) * (c72_a4_v7.toInt))))) 0 32768 := own_Bi2d L_v300
    have Id55 : own_B (FP.i2d v321) (((((c16_a2_v7.toInt) * (c58_a2_v7.toInt))) + (((c23_a3_v7.toInt) * (c79_a5_v7.toInt))))) 0 32768 := own_Bi2d L_v321
    have Id56 : own_B (FP.i2d v343) (((((c30_a4_v7.toInt) * (c44_a0_v7.toInt))) + (((c37_a5_v7.toInt) * (c65_a3_v7.toInt))))) 0 32768 := own_Bi2d L_v343
    have Id57 : own_B (FP.i2d v365) (((((c30_a4_v7.toInt) * (c51_a1_v7.toInt))) + (((c37_a5_v7.toInt) * (c72_a4_v7.toInt))))) 0 32768 := own_Bi2d L_v365
    have Id58 : own_B (FP.i2d v387) (((((c30_a4_v7.toInt) * (c58_a2_v7.toInt))) + (((c37_a5_v7.toInt) * (c79_a5_v7.toInt))))) 0 32768 := own_Bi2d L_v387
    exact own_rm_w0 l Z a0 hw ws p0 p1 p2 h0 n0 Z0 (w0_c2_a0_hv5 := c2_a0_hv5) (w0_c2_a0_hv6 := c2_a0_hv6) (w0_c2_a0_hv7 := c2_a0_hv7) (w0_c9_a1_hv5 := c9_a1_hv5) (w0_c9_a1_hv6 := c9_a1_hv6) (w0_c9_a1_hv7 := c9_a1_hv7) (w0_c16_a2_hv5 := c16_a2_hv5) (w0_c16_a2_hv6 := c16_a2_hv6) (w0_c16_a2_hv7 := c16_a2_hv7) (w0_c23_a3_hv5 := c23_a3_hv5) (w0_c23_a3_hv6 := c23_a3_hv6) (w0_c23_a3_hv7 := c23_a3_hv7) (w0_c30_a4_hv5 := c30_a4_hv5) (w0_c30_a4_hv6 := c30_a4_hv6) (w0_c30_a4_hv7 := c30_a4_hv7) (w0_c37_a5_hv5 := c37_a5_hv5) (w0_c37_a5_hv6 := c37_a5_hv6) (w0_c37_a5_hv7 := c37_a5_hv7) (w0_c44_a0_hv5 := c44_a0_hv5) (w0_c44_a0_hv6 := c44_a0_hv6) (w0_c44_a0_hv7 := c44_a0_hv7) (w0_c51_a1_hv5 := c51_a1_hv5) (w0_c51_a1_hv6 := c51_a1_hv6) (w0_c51_a1_hv7 := c51_a1_hv7) (w0_c58_a2_hv5 := c58_a2_hv5) (w0_c58_a2_hv6 := c58_a2_hv6) (w0_c58_a2_hv7 := c58_a2_hv7) (w0_c65_a3_hv5 := c65_a3_hv5) (w0_c65_a3_hv6 := c65_a3_hv6) (w0_c65_a3_hv7 := c65_a3_hv7) (w0_c72_a4_hv5 := c72_a4_hv5) (w0_c72_a4_hv6 := c72_a4_hv6) (w0_c72_a4_hv7 := c72_a4_hv7) (w0_c79_a5_hv5 := c79_a5_hv5) (w0_c79_a5_hv6 := c79_a5_hv6) (w0_c79_a5_hv7 := c79_a5_hv7) (w0_hv172 := hs) (w0_hv174 := hn) (w0_c187_c0_hn71 := J3n) (w0_c187_c0_hv71 := c187_c0_hv71) (w0_c187_c0_hn72 := J5n) (w0_c187_c0_hv72 := c187_c0_hv72) (w0_c187_c0_hn71_2 := J8n) (w0_c187_c0_hv71_2 := c187_c0_hv71_2) (w0_c187_c0_hn72_2 := J9n) (w0_c187_c0_hv72_2 := c187_c0_hv72_2) (w0_c187_c0_hn71_3 := J11n) (w0_c187_c0_hv71_3 := c187_c0_hv71_3) (w0_c187_c0_hn72_3 := J12n) (w0_c187_c0_hv72_3 := c187_c0_hv72_3) (w0_c187_c0_hn71_4 := J14n) (w0_c187_c0_hv71_4 := c187_c0_hv71_4) (w0_c187_c0_hn72_4 := J15n) (w0_c187_c0_hv72_4 := c187_c0_hv72_4) (w0_c187_c0_hn71_5 := J17n) (w0_c187_c0_hv71_5 := c187_c0_hv71_5) (w0_c187_c0_hn72_5 := J18n) (w0_c187_c0_hv72_5 := c187_c0_hv72_5) (w0_c187_c0_hn71_6 := J20n) (w0_c187_c0_hv71_6 := c187_c0_hv71_6) (w0_c187_c0_hn72_6 := J21n) (w0_c187_c0_hv72_6 := c187_c0_hv72_6) (w0_c187_c0_hn71_7 := J23n) (w0_c187_c0_hv71_7 := c187_c0_hv71_7) (w0_c187_c0_hn72_7 := J24n) (w0_c187_c0_hv72_7 := c187_c0_hv72_7) (w0_c187_c0_hn71_8 := J26n) (w0_c187_c0_hv71_8 := c187_c0_hv71_8) (w0_c187_c0_hn72_8 := J27n) (w0_c187_c0_hv72_8 := c187_c0_hv72_8) (w0_c187_c0_hn71_9 := J28n) (w0_c187_c0_hv71_9 := c187_c0_hv71_9) (w0_c187_c0_hn72_9 := J29n) (w0_c187_c0_hv72_9 := c187_c0_hv72_9) (w0_c187_c0_hn71_10 := J30n) (w0_c187_c0_hv71_10 := c187_c0_hv71_10) (w0_c187_c0_hn72_10 := J31n) (w0_c187_c0_hv72_10 := c187_c0_hv72_10) (w0_c187_c0_hn71_11 := J32n) (w0_c187_c0_hv71_11 := c187_c0_hv71_11) (w0_c187_c0_hn72_11 := J33n) (w0_c187_c0_hv72_11 := c187_c0_hv72_11) (w0_c187_c0_hn71_12 := J34n) (w0_c187_c0_hv71_12 := c187_c0_hv71_12) (w0_c187_c0_hn72_12 := J35n) (w0_c187_c0_hv72_12 := c187_c0_hv72_12) (w0_c187_c0_hn71_13 := J37n) (w0_c187_c0_hv71_13 := c187_c0_hv71_13) (w0_c187_c0_hn72_13 := J38n) (w0_c187_c0_hv72_13 := c187_c0_hv72_13) (w0_c187_c0_hn71_14 := J40n) (w0_c187_c0_hv71_14 := c187_c0_hv71_14) (w0_c187_c0_hn72_14 := J41n) (w0_c187_c0_hv72_14 := c187_c0_hv72_14) (w0_c187_c0_hn71_15 := J42n) (w0_c187_c0_hv71_15 := c187_c0_hv71_15) (w0_c187_c0_hn72_15 := J43n) (w0_c187_c0_hv72_15 := c187_c0_hv72_15) (w0_c187_c0_hn71_16 := J44n) (w0_c187_c0_hv71_16 := c187_c0_hv71_16) (w0_c187_c0_hn72_16 := J45n) (w0_c187_c0_hv72_16 := c187_c0_hv72_16) (w0_c187_c0_hn71_17 := J46n) (w0_c187_c0_hv71_17 := c187_c0_hv71_17) (w0_c187_c0_hn72_17 := J47n) (w0_c187_c0_hv72_17 := c187_c0_hv72_17) (w0_c187_c0_hn71_18 := J48n) (w0_c187_c0_hv71_18 := c187_c0_hv71_18) (w0_c187_c0_hn72_18 := J49n) (w0_c187_c0_hv72_18 := c187_c0_hv72_18) (w0_hv210 := hv210) (w0_hv215 := hv215) (w0_hv216 := hv216) (w0_c217_same_h1 := (own_eq0 J9.is Id50.is (by grind) _)) (w0_c217_same_h2 := (fun h => Z_c187_c0_v72_2 (by have h1 := L_v216.1; rw [h, show (0 : Int32).toInt = 0 from rfl] at h1; grind))) (w0_hv231 := hv231) (w0_hv236 := hv236) (w0_hv237 := hv237) (w0_c238_same_h1 := (own_eq0 J15.is Id51.is (by grind) _)) (w0_c238_same_h2 := (fun h => Z_c187_c0_v72_4 (by have h1 := L_v237.1; rw [h, show (0 : Int32).toInt = 0 from rfl] at h1; grind))) (w0_hv252 := hv252) (w0_hv257 := hv257) (w0_hv258 := hv258) (w0_c259_same_h1 := (own_eq0 J21.is Id52.is (by grind) _)) (w0_c259_same_h2 := (fun h => Z_c187_c0_v72_6 (by have h1 := L_v258.1; rw [h, show (0 : Int32).toInt = 0 from rfl] at h1; grind))) (w0_hv273 := hv273) (w0_hv278 := hv278) (w0_hv279 := hv279) (w0_c280_same_h1 := (own_eq0 J27.is Id53.is (by grind) _)) (w0_c280_same_h2 := (fun h => Z_c187_c0_v72_8 (by have h1 := L_v279.1; rw [h, show (0 : Int32).toInt = 0 from rfl] at h1; grind))) (w0_hv294 := hv294) (w0_hv299 := hv299) (w0_hv300 := hv300) (w0_c301_same_h1 := (own_eq0 J31.is Id54.is (by grind) _)) (w0_c301_same_h2 := (fun h => Z_c187_c0_v72_10 (by have h1 := L_v300.1; rw [h, show (0 : Int32).toInt = 0 from rfl] at h1; grind))) (w0_hv315 := hv315) (w0_hv320 := hv320) (w0_hv321 := hv321) (w0_c322_same_h1 := (own_eq0 J35.is Id55.is (by grind) _)) (w0_c322_same_h2 := (fun h => Z_c187_c0_v72_12 (by have h1 := L_v321.1; rw [h, show (0 : Int32).toInt = 0 from rfl] at h1; grind))) (w0_hv337 := hv337) (w0_hv342 := hv342) (w0_hv343 := hv343) (w0_c344_same_h1 := (own_eq0 J41.is Id56.is (by grind) _)) (w0_c344_same_h2 := (fun h => Z_c187_c0_v72_14 (by have h1 := L_v343.1; rw [h, show (0 : Int32).toInt = 0 from rfl] at h1; grind))) (w0_hv359 := hv359) (w0_hv364 := hv364) (w0_hv365 := hv365) (w0_c366_same_h1 := (own_eq0 J45.is Id57.is (by grind) _)) (w0_c366_same_h2 := (fun h => Z_c187_c0_v72_16 (by have h1 := L_v365.1; rw [h, show (0 : Int32).toInt = 0 from rfl] at h1; grind))) (w0_hv381 := hv381) (w0_hv386 := hv386) (w0_hv387 := hv387) (w0_c388_same_h1 := (own_eq0 J49.is Id58.is (by grind) _)) (w0_c388_same_h2 := (fun h => Z_c187_c0_v72_18 (by have h1 := L_v387.1; rw [h, show (0 : Int32).toInt = 0 from rfl] at h1; grind)))
  · obtain ⟨c2_a0_v5, c2_a0_hv5⟩ : ∃ v, p0 >>> ((0 : Int32) &&& 63).toInt64 = v := ⟨_, rfl⟩
    obtain ⟨c2_a0_v6, c2_a0_hv6⟩ : ∃ v, Int64.toInt32 c2_a0_v5 = v := ⟨_, rfl⟩
    obtain ⟨c2_a0_v7, c2_a0_hv7⟩ : ∃ v, (Int32.toInt8 c2_a0_v6).toInt32 = v := ⟨_, rfl⟩
    have L_c2_a0_v7 : own_I c2_a0_v7 c2_a0_v7.toInt 128 := by have := c_i2b c2_a0_v6; rw [c2_a0_hv7] at this; exact ⟨rfl, by omega, by omega⟩
    obtain ⟨c9_a1_v5, c9_a1_hv5⟩ : ∃ v, p0 >>> ((8 : Int32) &&& 63).toInt64 = v := ⟨_, rfl⟩
    obtain ⟨c9_a1_v6, c9_a1_hv6⟩ : ∃ v, Int64.toInt32 c9_a1_v5 = v := ⟨_, rfl⟩
    obtain ⟨c9_a1_v7, c9_a1_hv7⟩ : ∃ v, (Int32.toInt8 c9_a1_v6).toInt32 = v := ⟨_, rfl⟩
    have L_c9_a1_v7 : own_I c9_a1_v7 c9_a1_v7.toInt 128 := by have := c_i2b c9_a1_v6; rw [c9_a1_hv7] at this; exact ⟨rfl, by omega, by omega⟩
    obtain ⟨c16_a2_v5, c16_a2_hv5⟩ : ∃ v, p0 >>> ((16 : Int32) &&& 63).toInt64 = v := ⟨_, rfl⟩
    obtain ⟨c16_a2_v6, c16_a2_hv6⟩ : ∃ v, Int64.toInt32 c16_a2_v5 = v := ⟨_, rfl⟩
    obtain ⟨c16_a2_v7, c16_a2_hv7⟩ : ∃ v, (Int32.toInt8 c16_a2_v6).toInt32 = v := ⟨_, rfl⟩
    have L_c16_a2_v7 : own_I c16_a2_v7 c16_a2_v7.toInt 128 := by have := c_i2b c16_a2_v6; rw [c16_a2_hv7] at this; exact ⟨rfl, by omega, by omega⟩
    obtain ⟨c23_a3_v5, c23_a3_hv5⟩ : ∃ v, p0 >>> ((24 : Int32) &&& 63).toInt64 = v := ⟨_, rfl⟩
    obtain ⟨c23_a3_v6, c23_a3_hv6⟩ : ∃ v, Int64.toInt32 c23_a3_v5 = v := ⟨_, rfl⟩
    obtain ⟨c23_a3_v7, c23_a3_hv7⟩ : ∃ v, (Int32.toInt8 c23_a3_v6).toInt32 = v := ⟨_, rfl⟩
    have L_c23_a3_v7 : own_I c23_a3_v7 c23_a3_v7.toInt 128 := by have := c_i2b c23_a3_v6; rw [c23_a3_hv7] at this; exact ⟨rfl, by omega, by omega⟩
    obtain ⟨c30_a4_v5, c30_a4_hv5⟩ : ∃ v, p0 >>> ((32 : Int32) &&& 63).toInt64 = v := ⟨_, rfl⟩
    obtain ⟨c30_a4_v6, c30_a4_hv6⟩ : ∃ v, Int64.toInt32 c30_a4_v5 = v := ⟨_, rfl⟩
    obtain ⟨c30_a4_v7, c30_a4_hv7⟩ : ∃ v, (Int32.toInt8 c30_a4_v6).toInt32 = v := ⟨_, rfl⟩
    have L_c30_a4_v7 : own_I c30_a4_v7 c30_a4_v7.toInt 128 := by have := c_i2b c30_a4_v6; rw [c30_a4_hv7] at this; exact ⟨rfl, by omega, by omega⟩
    obtain ⟨c37_a5_v5, c37_a5_hv5⟩ : ∃ v, p0 >>> ((40 : Int32) &&& 63).toInt64 = v := ⟨_, rfl⟩
    obtain ⟨c37_a5_v6, c37_a5_hv6⟩ : ∃ v, Int64.toInt32 c37_a5_v5 = v := ⟨_, rfl⟩
    obtain ⟨c37_a5_v7, c37_a5_hv7⟩ : ∃ v, (Int32.toInt8 c37_a5_v6).toInt32 = v := ⟨_, rfl⟩
    have L_c37_a5_v7 : own_I c37_a5_v7 c37_a5_v7.toInt 128 := by have := c_i2b c37_a5_v6; rw [c37_a5_hv7] at this; exact ⟨rfl, by omega, by omega⟩
    obtain ⟨c44_a0_v5, c44_a0_hv5⟩ : ∃ v, p1 >>> ((0 : Int32) &&& 63).toInt64 = v := ⟨_, rfl⟩
    obtain ⟨c44_a0_v6, c44_a0_hv6⟩ : ∃ v, Int64.toInt32 c44_a0_v5 = v := ⟨_, rfl⟩
    obtain ⟨c44_a0_v7, c44_a0_hv7⟩ : ∃ v, (Int32.toInt8 c44_a0_v6).toInt32 = v := ⟨_, rfl⟩
    have L_c44_a0_v7 : own_I c44_a0_v7 c44_a0_v7.toInt 128 := by have := c_i2b c44_a0_v6; rw [c44_a0_hv7] at this; exact ⟨rfl, by omega, by omega⟩
    obtain ⟨c51_a1_v5, c51_a1_hv5⟩ : ∃ v, p1 >>> ((8 : Int32) &&& 63).toInt64 = v := ⟨_, rfl⟩
    obtain ⟨c51_a1_v6, c51_a1_hv6⟩ : ∃ v, Int64.toInt32 c51_a1_v5 = v := ⟨_, rfl⟩
    obtain ⟨c51_a1_v7, c51_a1_hv7⟩ : ∃ v, (Int32.toInt8 c51_a1_v6).toInt32 = v := ⟨_, rfl⟩
    have L_c51_a1_v7 : own_I c51_a1_v7 c51_a1_v7.toInt 128 := by have := c_i2b c51_a1_v6; rw [c51_a1_hv7] at this; exact ⟨rfl, by omega, by omega⟩
    obtain ⟨c58_a2_v5, c58_a2_hv5⟩ : ∃ v, p1 >>> ((16 : Int32) &&& 63).toInt64 = v := ⟨_, rfl⟩
    obtain ⟨c58_a2_v6, c58_a2_hv6⟩ : ∃ v, Int64.toInt32 c58_a2_v5 = v := ⟨_, rfl⟩
    obtain ⟨c58_a2_v7, c58_a2_hv7⟩ : ∃ v, (Int32.toInt8 c58_a2_v6).toInt32 = v := ⟨_, rfl⟩
    have L_c58_a2_v7 : own_I c58_a2_v7 c58_a2_v7.toInt 128 := by have := c_i2b c58_a2_v6; rw [c58_a2_hv7] at this; exact ⟨rfl, by omega, by omega⟩
    obtain ⟨c65_a3_v5, c65_a3_hv5⟩ : ∃ v, p1 >>> ((24 : Int32) &&& 63).toInt64 = v := ⟨_, rfl⟩
    obtain ⟨c65_a3_v6, c65_a3_hv6⟩ : ∃ v, Int64.toInt32 c65_a3_v5 = v := ⟨_, rfl⟩
    obtain ⟨c65_a3_v7, c65_a3_hv7⟩ : ∃ v, (Int32.toInt8 c65_a3_v6).toInt32 = v := ⟨_, rfl⟩
    have L_c65_a3_v7 : own_I c65_a3_v7 c65_a3_v7.toInt 128 := by have := c_i2b c65_a3_v6; rw [c65_a3_hv7] at this; exact ⟨rfl, by omega, by omega⟩
    obtain ⟨c72_a4_v5, c72_a4_hv5⟩ : ∃ v, p1 >>> ((32 : Int32) &&& 63).toInt64 = v := ⟨_, rfl⟩
    obtain ⟨c72_a4_v6, c72_a4_hv6⟩ : ∃ v, Int64.toInt32 c72_a4_v5 = v := ⟨_, rfl⟩
    obtain ⟨c72_a4_v7, c72_a4_hv7⟩ : ∃ v, (Int32.toInt8 c72_a4_v6).toInt32 = v := ⟨_, rfl⟩
    have L_c72_a4_v7 : own_I c72_a4_v7 c72_a4_v7.toInt 128 := by have := c_i2b c72_a4_v6; rw [c72_a4_hv7] at this; exact ⟨rfl, by omega, by omega⟩
    obtain ⟨c79_a5_v5, c79_a5_hv5⟩ : ∃ v, p1 >>> ((40 : Int32) &&& 63).toInt64 = v := ⟨_, rfl⟩
    obtain ⟨c79_a5_v6, c79_a5_hv6⟩ : ∃ v, Int64.toInt32 c79_a5_v5 = v := ⟨_, rfl⟩
    obtain ⟨c79_a5_v7, c79_a5_hv7⟩ : ∃ v, (Int32.toInt8 c79_a5_v6).toInt32 = v := ⟨_, rfl⟩
    have L_c79_a5_v7 : own_I c79_a5_v7 c79_a5_v7.toInt 128 := by have := c_i2b c79_a5_v6; rw [c79_a5_hv7] at this; exact ⟨rfl, by omega, by omega⟩
    obtain ⟨c411_c1_v71, c411_c1_hv71⟩ : ∃ v, FP.dmul (FP.i2d c2_a0_v7) (FP.i2d c44_a0_v7) = v := ⟨_, rfl⟩
    have Id1 : own_B (FP.i2d c2_a0_v7) (c2_a0_v7.toInt) 0 128 := own_Bi2d L_c2_a0_v7
    have Id2 : own_B (FP.i2d c44_a0_v7) (c44_a0_v7.toInt) 0 128 := own_Bi2d L_c44_a0_v7
    have J3 : own_B (FP.dmul (FP.i2d c2_a0_v7) (FP.i2d c44_a0_v7)) ((c2_a0_v7.toInt) * (c44_a0_v7.toInt)) (0) 16384 := own_Bcast (own_Bmul Id1 Id2 (by decide)) rfl (by decide) (by decide)
    have J3n := J3.nn
    rw [c411_c1_hv71] at J3
    obtain ⟨c411_c1_v72, c411_c1_hv72⟩ : ∃ v, FP.dadd 0 c411_c1_v71 = v := ⟨_, rfl⟩
    have Ic4 : own_B 0 (0) (0) 0 := ⟨⟨(Jvm.FP.Core.fin_bits _).mpr (by decide), by decide, by decide +kernel⟩, by decide, by decide⟩
    have J5 : own_B (FP.dadd 0 c411_c1_v71) ((0) + ((c2_a0_v7.toInt) * (c44_a0_v7.toInt))) (0) 16384 := own_Bcast (own_Badd Ic4 J3 (by decide)) rfl (by decide) (by decide)
    have J5n := J5.nn
    rw [c411_c1_hv72] at J5
    have Z_c411_c1_v72 := own_addz Ic4 J3 (by decide) (fun _ => rfl)
    rw [c411_c1_hv72] at Z_c411_c1_v72
    obtain ⟨c411_c1_v71_2, c411_c1_hv71_2⟩ : ∃ v, FP.dmul (FP.i2d c9_a1_v7) (FP.i2d c58_a2_v7) = v := ⟨_, rfl⟩
    have Id6 : own_B (FP.i2d c9_a1_v7) (c9_a1_v7.toInt) 0 128 := own_Bi2d L_c9_a1_v7
    have Id7 : own_B (FP.i2d c58_a2_v7) (c58_a2_v7.toInt) 0 128 := own_Bi2d L_c58_a2_v7
    have J8 : own_B (FP.dmul (FP.i2d c9_a1_v7) (FP.i2d c58_a2_v7)) ((c9_a1_v7.toInt) * (c58_a2_v7.toInt)) (0) 16384 := own_Bcast (own_Bmul Id6 Id7 (by decide)) rfl (by decide) (by decide)
    have J8n := J8.nn
    rw [c411_c1_hv71_2] at J8
    obtain ⟨c411_c1_v72_2, c411_c1_hv72_2⟩ : ∃ v, FP.dadd c411_c1_v72 c411_c1_v71_2 = v := ⟨_, rfl⟩
    have J9 : own_B (FP.dadd c411_c1_v72 c411_c1_v71_2) (((0) + ((c2_a0_v7.toInt) * (c44_a0_v7.toInt))) + ((c9_a1_v7.toInt) * (c58_a2_v7.toInt))) (0) 32768 := own_Bcast (own_Badd J5 J8 (by decide)) rfl (by decide) (by decide)
    have J9n := J9.nn
    rw [c411_c1_hv72_2] at J9
    have Z_c411_c1_v72_2 := own_addz J5 J8 (by decide) Z_c411_c1_v72
    rw [c411_c1_hv72_2] at Z_c411_c1_v72_2
    obtain ⟨c411_c1_v71_3, c411_c1_hv71_3⟩ : ∃ v, FP.dmul (FP.i2d c16_a2_v7) (FP.i2d c72_a4_v7) = v := ⟨_, rfl⟩
    have Id10 : own_B (FP.i2d c16_a2_v7) (c16_a2_v7.toInt) 0 128 := own_Bi2d L_c16_a2_v7
    have Id11 : own_B (FP.i2d c72_a4_v7) (c72_a4_v7.toInt) 0 128 := own_Bi2d L_c72_a4_v7
    have J12 : own_B (FP.dmul (FP.i2d c16_a2_v7) (FP.i2d c72_a4_v7)) ((c16_a2_v7.toInt) * (c72_a4_v7.toInt)) (0) 16384 := own_Bcast (own_Bmul Id10 Id11 (by decide)) rfl (by decide) (by decide)
    have J12n := J12.nn
    rw [c411_c1_hv71_3] at J12
    obtain ⟨c411_c1_v72_3, c411_c1_hv72_3⟩ : ∃ v, FP.dadd c411_c1_v72_2 c411_c1_v71_3 = v := ⟨_, rfl⟩
    have J13 : own_B (FP.dadd c411_c1_v72_2 c411_c1_v71_3) ((((0) + ((c2_a0_v7.toInt) * (c44_a0_v7.toInt))) + ((c9_a1_v7.toInt) * (c58_a2_v7.toInt))) + ((c16_a2_v7.toInt) * (c72_a4_v7.toInt))) (0) 49152 := own_Bcast (own_Badd J9 J12 (by decide)) rfl (by decide) (by decide)
    have J13n := J13.nn
    rw [c411_c1_hv72_3] at J13
    have Z_c411_c1_v72_3 := own_addz J9 J12 (by decide) Z_c411_c1_v72_2
    rw [c411_c1_hv72_3] at Z_c411_c1_v72_3
    obtain ⟨c411_c1_v71_4, c411_c1_hv71_4⟩ : ∃ v, FP.dmul (FP.i2d c2_a0_v7) (FP.i2d c51_a1_v7) = v := ⟨_, rfl⟩
    have Id14 : own_B (FP.i2d c51_a1_v7) (c51_a1_v7.toInt) 0 128 := own_Bi2d L_c51_a1_v7
    have J15 : own_B (FP.dmul (FP.i2d c2_a0_v7) (FP.i2d c51_a1_v7)) ((c2_a0_v7.toInt) * (c51_a1_v7.toInt)) (0) 16384 := own_Bcast (own_Bmul Id1 Id14 (by decide)) rfl (by decide) (by decide)
    have J15n := J15.nn
    rw [c411_c1_hv71_4] at J15
    obtain ⟨c411_c1_v72_4, c411_c1_hv72_4⟩ : ∃ v, FP.dadd 0 c411_c1_v71_4 = v := ⟨_, rfl⟩
    have J16 : own_B (FP.dadd 0 c411_c1_v71_4) ((0) + ((c2_a0_v7.toInt) * (c51_a1_v7.toInt))) (0) 16384 := own_Bcast (own_Badd Ic4 J15 (by decide)) rfl (by decide) (by decide)
    have J16n := J16.nn
    rw [c411_c1_hv72_4] at J16
    have Z_c411_c1_v72_4 := own_addz Ic4 J15 (by decide) (fun _ => rfl)
    rw [c411_c1_hv72_4] at Z_c411_c1_v72_4
    obtain ⟨c411_c1_v71_5, c411_c1_hv71_5⟩ : ∃ v, FP.dmul (FP.i2d c9_a1_v7) (FP.i2d c65_a3_v7) = v := ⟨_, rfl⟩
    have Id17 : own_B (FP.i2d c65_a3_v7) (c65_a3_v7.toInt) 0 128 := own_Bi2d L_c65_a3_v7
    have J18 : own_B (FP.dmul (FP.i2d c9_a1_v7) (FP.i2d c65_a3_v7)) ((c9_a1_v7.toInt) * (c65_a3_v7.toInt)) (0) 16384 := own_Bcast (own_Bmul Id6 Id17 (by decide)) rfl (by decide) (by decide)
    have J18n := J18.nn
    rw [c411_c1_hv71_5] at J18
    obtain ⟨c411_c1_v72_5, c411_c1_hv72_5⟩ : ∃ v, FP.dadd c411_c1_v72_4 c411_c1_v71_5 = v := ⟨_, rfl⟩
    have J19 : own_B (FP.dadd c411_c1_v72_4 c411_c1_v71_5) (((0) + ((c2_a0_v7.toInt) * (c51_a1_v7.toInt))) + ((c9_a1_v7.toInt) * (c65_a3_v7.toInt))) (0) 32768 := own_Bcast (own_Badd J16 J18 (by decide)) rfl (by decide) (by decide)
    have J19n := J19.nn
    rw [c411_c1_hv72_5] at J19
    have Z_c411_c1_v72_5 := own_addz J16 J18 (by decide) Z_c411_c1_v72_4
    rw [c411_c1_hv72_5] at Z_c411_c1_v72_5
    obtain ⟨c411_c1_v71_6, c411_c1_hv71_6⟩ : ∃ v, FP.dmul (FP.i2d c16_a2_v7) (FP.i2d c79_a5_v7) = v := ⟨_, rfl⟩
    have Id20 : own_B (FP.i2d c79_a5_v7) (c79_a5_v7.toInt) 0 128 := own_Bi2d L_c79_a5_v7
    have J21 : own_B (FP.dmul (FP.i2d c16_a2_v7) (FP.i2d c79_a5_v7)) ((c16_a2_v7.toInt) * (c79_a5_v7.toInt)) (0) 16384 := own_Bcast (own_Bmul Id10 Id20 (by decide)) rfl (by decide) (by decide)
    have J21n := J21.nn
    rw [c411_c1_hv71_6] at J21
    obtain ⟨c411_c1_v72_6, c411_c1_hv72_6⟩ : ∃ v, FP.dadd c411_c1_v72_5 c411_c1_v71_6 = v := ⟨_, rfl⟩
    have J22 : own_B (FP.dadd c411_c1_v72_5 c411_c1_v71_6) ((((0) + ((c2_a0_v7.toInt) * (c51_a1_v7.toInt))) + ((c9_a1_v7.toInt) * (c65_a3_v7.toInt))) + ((c16_a2_v7.toInt) * (c79_a5_v7.toInt))) (0) 49152 := own_Bcast (own_Badd J19 J21 (by decide)) rfl (by decide) (by decide)
    have J22n := J22.nn
    rw [c411_c1_hv72_6] at J22
    have Z_c411_c1_v72_6 := own_addz J19 J21 (by decide) Z_c411_c1_v72_5
    rw [c411_c1_hv72_6] at Z_c411_c1_v72_6
    obtain ⟨c411_c1_v71_7, c411_c1_hv71_7⟩ : ∃ v, FP.dmul (FP.i2d c23_a3_v7) (FP.i2d c44_a0_v7) = v := ⟨_, rfl⟩
    have Id23 : own_B (FP.i2d c23_a3_v7) (c23_a3_v7.toInt) 0 128 := own_Bi2d L_c23_a3_v7
    have J24 : own_B (FP.dmul (FP.i2d c23_a3_v7) (FP.i2d c44_a0_v7)) ((c23_a3_v7.toInt) * (c44_a0_v7.toInt)) (0) 16384 := own_Bcast (own_Bmul Id23 Id2 (by decide)) rfl (by decide) (by decide)
    have J24n := J24.nn
    rw [c411_c1_hv71_7] at J24
    obtain ⟨c411_c1_v72_7, c411_c1_hv72_7⟩ : ∃ v, FP.dadd 0 c411_c1_v71_7 = v := ⟨_, rfl⟩
    have J25 : own_B (FP.dadd 0 c411_c1_v71_7) ((0) + ((c23_a3_v7.toInt) * (c44_a0_v7.toInt))) (0) 16384 := own_Bcast (own_Badd Ic4 J24 (by decide)) rfl (by decide) (by decide)
    have J25n := J25.nn
    rw [c411_c1_hv72_7] at J25
    have Z_c411_c1_v72_7 := own_addz Ic4 J24 (by decide) (fun _ => rfl)
    rw [c411_c1_hv72_7] at Z_c411_c1_v72_7
    obtain ⟨c411_c1_v71_8, c411_c1_hv71_8⟩ : ∃ v, FP.dmul (FP.i2d c30_a4_v7) (FP.i2d c58_a2_v7) = v := ⟨_, rfl⟩
    have Id26 : own_B (FP.i2d c30_a4_v7) (c30_a4_v7.toInt) 0 128 := own_Bi2d L_c30_a4_v7
    have J27 : own_B (FP.dmul (FP.i2d c30_a4_v7) (FP.i2d c58_a2_v7)) ((c30_a4_v7.toInt) * (c58_a2_v7.toInt)) (0) 16384 := own_Bcast (own_Bmul Id26 Id7 (by decide)) rfl (by decide) (by decide)
    have J27n := J27.nn
    rw [c411_c1_hv71_8] at J27
    obtain ⟨c411_c1_v72_8, c411_c1_hv72_8⟩ : ∃ v, FP.dadd c411_c1_v72_7 c411_c1_v71_8 = v := ⟨_, rfl⟩
    have J28 : own_B (FP.dadd c411_c1_v72_7 c411_c1_v71_8) (((0) + ((c23_a3_v7.toInt) * (c44_a0_v7.toInt))) + ((c30_a4_v7.toInt) * (c58_a2_v7.toInt))) (0) 32768 := own_Bcast (own_Badd J25 J27 (by decide)) rfl (by decide) (by decide)
    have J28n := J28.nn
    rw [c411_c1_hv72_8] at J28
    have Z_c411_c1_v72_8 := own_addz J25 J27 (by decide) Z_c411_c1_v72_7
    rw [c411_c1_hv72_8] at Z_c411_c1_v72_8
    obtain ⟨c411_c1_v71_9, c411_c1_hv71_9⟩ : ∃ v, FP.dmul (FP.i2d c37_a5_v7) (FP.i2d c72_a4_v7) = v := ⟨_, rfl⟩
    have Id29 : own_B (FP.i2d c37_a5_v7) (c37_a5_v7.toInt) 0 128 := own_Bi2d L_c37_a5_v7
    have J30 : own_B (FP.dmul (FP.i2d c37_a5_v7) (FP.i2d c72_a4_v7)) ((c37_a5_v7.toInt) * (c72_a4_v7.toInt)) (0) 16384 := own_Bcast (own_Bmul Id29 Id11 (by decide)) rfl (by decide) (by decide)
    have J30n := J30.nn
    rw [c411_c1_hv71_9] at J30
    obtain ⟨c411_c1_v72_9, c411_c1_hv72_9⟩ : ∃ v, FP.dadd c411_c1_v72_8 c411_c1_v71_9 = v := ⟨_, rfl⟩
    have J31 : own_B (FP.dadd c411_c1_v72_8 c411_c1_v71_9) ((((0) + ((c23_a3_v7.toInt) * (c44_a0_v7.toInt))) + ((c30_a4_v7.toInt) * (c58_a2_v7.toInt))) + ((c37_a5_v7.toInt) * (c72_a4_v7.toInt))) (0) 49152 := own_Bcast (own_Badd J28 J30 (by decide)) rfl (by decide) (by decide)
    have J31n := J31.nn
    rw [c411_c1_hv72_9] at J31
    have Z_c411_c1_v72_9 := own_addz J28 J30 (by decide) Z_c411_c1_v72_8
    rw [c411_c1_hv72_9] at Z_c411_c1_v72_9
    obtain ⟨c411_c1_v71_10, c411_c1_hv71_10⟩ : ∃ v, FP.dmul (FP.i2d c23_a3_v7) (FP.i2d c51_a1_v7) = v := ⟨_, rfl⟩
    have J32 : own_B (FP.dmul (FP.i2d c23_a3_v7) (FP.i2d c51_a1_v7)) ((c23_a3_v7.toInt) * (c51_a1_v7.toInt)) (0) 16384 := own_Bcast (own_Bmul Id23 Id14 (by decide)) rfl (by decide) (by decide)
    have J32n := J32.nn
    rw [c411_c1_hv71_10] at J32
    obtain ⟨c411_c1_v72_10, c411_c1_hv72_10⟩ : ∃ v, FP.dadd 0 c411_c1_v71_10 = v := ⟨_, rfl⟩
    have J33 : own_B (FP.dadd 0 c411_c1_v71_10) ((0) + ((c23_a3_v7.toInt) * (c51_a1_v7.toInt))) (0) 16384 := own_Bcast (own_Badd Ic4 J32 (by decide)) rfl (by decide) (by decide)
    have J33n := J33.nn
    rw [c411_c1_hv72_10] at J33
    have Z_c411_c1_v72_10 := own_addz Ic4 J32 (by decide) (fun _ => rfl)
    rw [c411_c1_hv72_10] at Z_c411_c1_v72_10
    obtain ⟨c411_c1_v71_11, c411_c1_hv71_11⟩ : ∃ v, FP.dmul (FP.i2d c30_a4_v7) (FP.i2d c65_a3_v7) = v := ⟨_, rfl⟩
    have J34 : own_B (FP.dmul (FP.i2d c30_a4_v7) (FP.i2d c65_a3_v7)) ((c30_a4_v7.toInt) * (c65_a3_v7.toInt)) (0) 16384 := own_Bcast (own_Bmul Id26 Id17 (by decide)) rfl (by decide) (by decide)
    have J34n := J34.nn
    rw [c411_c1_hv71_11] at J34
    obtain ⟨c411_c1_v72_11, c411_c1_hv72_11⟩ : ∃ v, FP.dadd c411_c1_v72_10 c411_c1_v71_11 = v := ⟨_, rfl⟩
    have J35 : own_B (FP.dadd c411_c1_v72_10 c411_c1_v71_11) (((0) + ((c23_a3_v7.toInt) * (c51_a1_v7.toInt))) + ((c30_a4_v7.toInt) * (c65_a3_v7.toInt))) (0) 32768 := own_Bcast (own_Badd J33 J34 (by decide)) rfl (by decide) (by decide)
    have J35n := J35.nn
    rw [c411_c1_hv72_11] at J35
    have Z_c411_c1_v72_11 := own_addz J33 J34 (by decide) Z_c411_c1_v72_10
    rw [c411_c1_hv72_11] at Z_c411_c1_v72_11
    obtain ⟨c411_c1_v71_12, c411_c1_hv71_12⟩ : ∃ v, FP.dmul (FP.i2d c37_a5_v7) (FP.i2d c79_a5_v7) = v := ⟨_, rfl⟩
    have J36 : own_B (FP.dmul (FP.i2d c37_a5_v7) (FP.i2d c79_a5_v7)) ((c37_a5_v7.toInt) * (c79_a5_v7.toInt)) (0) 16384 := own_Bcast (own_Bmul Id29 Id20 (by decide)) rfl (by decide) (by decide)
    have J36n := J36.nn
    rw [c411_c1_hv71_12] at J36
    obtain ⟨c411_c1_v72_12, c411_c1_hv72_12⟩ : ∃ v, FP.dadd c411_c1_v72_11 c411_c1_v71_12 = v := ⟨_, rfl⟩
    have J37 : own_B (FP.dadd c411_c1_v72_11 c411_c1_v71_12) ((((0) + ((c23_a3_v7.toInt) * (c51_a1_v7.toInt))) + ((c30_a4_v7.toInt) * (c65_a3_v7.toInt))) + ((c37_a5_v7.toInt) * (c79_a5_v7.toInt))) (0) 49152 := own_Bcast (own_Badd J35 J36 (by decide)) rfl (by decide) (by decide)
    have J37n := J37.nn
    rw [c411_c1_hv72_12] at J37
    have Z_c411_c1_v72_12 := own_addz J35 J36 (by decide) Z_c411_c1_v72_11
    rw [c411_c1_hv72_12] at Z_c411_c1_v72_12
    obtain ⟨v433, hv433⟩ : ∃ v, c2_a0_v7 * c44_a0_v7 = v := ⟨_, rfl⟩
    have L_v433 : own_I v433 ((c2_a0_v7.toInt) * (c44_a0_v7.toInt)) 16384 := own_Icast (own_Imul hv433 L_c2_a0_v7 L_c44_a0_v7 (by decide)) rfl (by decide)
    obtain ⟨v438, hv438⟩ : ∃ v, c9_a1_v7 * c58_a2_v7 = v := ⟨_, rfl⟩
    have L_v438 : own_I v438 ((c9_a1_v7.toInt) * (c58_a2_v7.toInt)) 16384 := own_Icast (own_Imul hv438 L_c9_a1_v7 L_c58_a2_v7 (by decide)) rfl (by decide)
    obtain ⟨v439, hv439⟩ : ∃ v, v433 + v438 = v := ⟨_, rfl⟩
    have L_v439 : own_I v439 ((((c2_a0_v7.toInt) * (c44_a0_v7.toInt))) + (((c9_a1_v7.toInt) * (c58_a2_v7.toInt)))) 32768 := own_Icast (own_Iadd hv439 L_v433 L_v438 (by decide)) rfl (by decide)
    obtain ⟨v444, hv444⟩ : ∃ v, c16_a2_v7 * c72_a4_v7 = v := ⟨_, rfl⟩
    have L_v444 : own_I v444 ((c16_a2_v7.toInt) * (c72_a4_v7.toInt)) 16384 := own_Icast (own_Imul hv444 L_c16_a2_v7 L_c72_a4_v7 (by decide)) rfl (by decide)
    obtain ⟨v445, hv445⟩ : ∃ v, v439 + v444 = v := ⟨_, rfl⟩
    have L_v445 : own_I v445 ((((((c2_a0_v7.toInt) * (c44_a0_v7.toInt))) + (((c9_a1_v7.toInt) * (c58_a2_v7.toInt))))) + (((c16_a2_v7.toInt) * (c72_a4_v7.toInt)))) 49152 := own_Icast (own_Iadd hv445 L_v439 L_v444 (by decide)) rfl (by decide)
    obtain ⟨v460, hv460⟩ : ∃ v, c2_a0_v7 * c51_a1_v7 = v := ⟨_, rfl⟩
    have L_v460 : own_I v460 ((c2_a0_v7.toInt) * (c51_a1_v7.toInt)) 16384 := own_Icast (own_Imul hv460 L_c2_a0_v7 L_c51_a1_v7 (by decide)) rfl (by decide)
    obtain ⟨v465, hv465⟩ : ∃ v, c9_a1_v7 * c65_a3_v7 = v := ⟨_, rfl⟩
    have L_v465 : own_I v465 ((c9_a1_v7.toInt) * (c65_a3_v7.toInt)) 16384 := own_Icast (own_Imul hv465 L_c9_a1_v7 L_c65_a3_v7 (by decide)) rfl (by decide)
    obtain ⟨v466, hv466⟩ : ∃ v, v460 + v465 = v := ⟨_, rfl⟩
    have L_v466 : own_I v466 ((((c2_a0_v7.toInt) * (c51_a1_v7.toInt))) + (((c9_a1_v7.toInt) * (c65_a3_v7.toInt)))) 32768 := own_Icast (own_Iadd hv466 L_v460 L_v465 (by decide)) rfl (by decide)
    obtain ⟨v471, hv471⟩ : ∃ v, c16_a2_v7 * c79_a5_v7 = v := ⟨_, rfl⟩
    have L_v471 : own_I v471 ((c16_a2_v7.toInt) * (c79_a5_v7.toInt)) 16384 := own_Icast (own_Imul hv471 L_c16_a2_v7 L_c79_a5_v7 (by decide)) rfl (by decide)
    obtain ⟨v472, hv472⟩ : ∃ v, v466 + v471 = v := ⟨_, rfl⟩
    have L_v472 : own_I v472 ((((((c2_a0_v7.toInt) * (c51_a1_v7.toInt))) + (((c9_a1_v7.toInt) * (c65_a3_v7.toInt))))) + (((c16_a2_v7.toInt) * (c79_a5_v7.toInt)))) 49152 := own_Icast (own_Iadd hv472 L_v466 L_v471 (by decide)) rfl (by decide)
    obtain ⟨v487, hv487⟩ : ∃ v, c23_a3_v7 * c44_a0_v7 = v := ⟨_, rfl⟩
    have L_v487 : own_I v487 ((c23_a3_v7.toInt) * (c44_a0_v7.toInt)) 16384 := own_Icast (own_Imul hv487 L_c23_a3_v7 L_c44_a0_v7 (by decide)) rfl (by decide)
    obtain ⟨v492, hv492⟩ : ∃ v, c30_a4_v7 * c58_a2_v7 = v := ⟨_, rfl⟩
    have L_v492 : own_I v492 ((c30_a4_v7.toInt) * (c58_a2_v7.toInt)) 16384 := own_Icast (own_Imul hv492 L_c30_a4_v7 L_c58_a2_v7 (by decide)) rfl (by decide)
    obtain ⟨v493, hv493⟩ : ∃ v, v487 + v492 = v := ⟨_, rfl⟩
    have L_v493 : own_I v493 ((((c23_a3_v7.toInt) * (c44_a0_v7.toInt))) + (((c30_a4_v7.toInt) * (c58_a2_v7.toInt)))) 32768 := own_Icast (own_Iadd hv493 L_v487 L_v492 (by decide)) rfl (by decide)
    obtain ⟨v498, hv498⟩ : ∃ v, c37_a5_v7 * c72_a4_v7 = v := ⟨_, rfl⟩
    have L_v498 : own_I v498 ((c37_a5_v7.toInt) * (c72_a4_v7.toInt)) 16384 := own_Icast (own_Imul hv498 L_c37_a5_v7 L_c72_a4_v7 (by decide)) rfl (by decide)
    obtain ⟨v499, hv499⟩ : ∃ v, v493 + v498 = v := ⟨_, rfl⟩
    have L_v499 : own_I v499 ((((((c23_a3_v7.toInt) * (c44_a0_v7.toInt))) + (((c30_a4_v7.toInt) * (c58_a2_v7.toInt))))) + (((c37_a5_v7.toInt) * (c72_a4_v7.toInt)))) 49152 := own_Icast (own_Iadd hv499 L_v493 L_v498 (by decide)) rfl (by decide)
    obtain ⟨v514, hv514⟩ : ∃ v, c23_a3_v7 * c51_a1_v7 = v := ⟨_, rfl⟩
    have L_v514 : own_I v514 ((c23_a3_v7.toInt) * (c51_a1_v7.toInt)) 16384 := own_Icast (own_Imul hv514 L_c23_a3_v7 L_c51_a1_v7 (by decide)) rfl (by decide)
    obtain ⟨v519, hv519⟩ : ∃ v, c30_a4_v7 * c65_a3_v7 = v := ⟨_, rfl⟩
    have L_v519 : own_I v519 ((c30_a4_v7.toInt) * (c65_a3_v7.toInt)) 16384 := own_Icast (own_Imul hv519 L_c30_a4_v7 L_c65_a3_v7 (by decide)) rfl (by decide)
    obtain ⟨v520, hv520⟩ : ∃ v, v514 + v519 = v := ⟨_, rfl⟩
    have L_v520 : own_I v520 ((((c23_a3_v7.toInt) * (c51_a1_v7.toInt))) + (((c30_a4_v7.toInt) * (c65_a3_v7.toInt)))) 32768 := own_Icast (own_Iadd hv520 L_v514 L_v519 (by decide)) rfl (by decide)
    obtain ⟨v525, hv525⟩ : ∃ v, c37_a5_v7 * c79_a5_v7 = v := ⟨_, rfl⟩
    have L_v525 : own_I v525 ((c37_a5_v7.toInt) * (c79_a5_v7.toInt)) 16384 := own_Icast (own_Imul hv525 L_c37_a5_v7 L_c79_a5_v7 (by decide)) rfl (by decide)
    obtain ⟨v526, hv526⟩ : ∃ v, v520 + v525 = v := ⟨_, rfl⟩
    have L_v526 : own_I v526 ((((((c23_a3_v7.toInt) * (c51_a1_v7.toInt))) + (((c30_a4_v7.toInt) * (c65_a3_v7.toInt))))) + (((c37_a5_v7.toInt) * (c79_a5_v7.toInt)))) 49152 := own_Icast (own_Iadd hv526 L_v520 L_v525 (by decide)) rfl (by decide)
    have Id38 : own_B (FP.i2d v445) (((((((c2_a0_v7.toInt) * (c44_a0_v7.toInt))) + (((c9_a1_v7.toInt) * (c58_a2_v7.toInt))))) + (((c16_a2_v7.toInt) * (c72_a4_v7.toInt))))) 0 49152 := own_Bi2d L_v445
    have Id39 : own_B (FP.i2d v472) (((((((c2_a0_v7.toInt) * (c51_a1_v7.toInt))) + (((c9_a1_v7.toInt) * (c65_a3_v7.toInt))))) + (((c16_a2_v7.toInt) * (c79_a5_v7.toInt))))) 0 49152 := own_Bi2d L_v472
    have Id40 : own_B (FP.i2d v499) (((((((c23_a3_v7.toInt) * (c44_a0_v7.toInt))) + (((c30_a4_v7.toInt) * (c58_a2_v7.toInt))))) + (((c37_a5_v7.toInt) * (c72_a4_v7.toInt))))) 0 49152 := own_Bi2d L_v499
    have Id41 : own_B (FP.i2d v526) (((((((c23_a3_v7.toInt) * (c51_a1_v7.toInt))) + (((c30_a4_v7.toInt) * (c65_a3_v7.toInt))))) + (((c37_a5_v7.toInt) * (c79_a5_v7.toInt))))) 0 49152 := own_Bi2d L_v526
    exact own_rm_w1 l Z a0 hw ws p0 p1 p2 h0 n0 Z0 (w1_c2_a0_hv5 := c2_a0_hv5) (w1_c2_a0_hv6 := c2_a0_hv6) (w1_c2_a0_hv7 := c2_a0_hv7) (w1_c9_a1_hv5 := c9_a1_hv5) (w1_c9_a1_hv6 := c9_a1_hv6) (w1_c9_a1_hv7 := c9_a1_hv7) (w1_c16_a2_hv5 := c16_a2_hv5) (w1_c16_a2_hv6 := c16_a2_hv6) (w1_c16_a2_hv7 := c16_a2_hv7) (w1_c23_a3_hv5 := c23_a3_hv5) (w1_c23_a3_hv6 := c23_a3_hv6) (w1_c23_a3_hv7 := c23_a3_hv7) (w1_c30_a4_hv5 := c30_a4_hv5) (w1_c30_a4_hv6 := c30_a4_hv6) (w1_c30_a4_hv7 := c30_a4_hv7) (w1_c37_a5_hv5 := c37_a5_hv5) (w1_c37_a5_hv6 := c37_a5_hv6) (w1_c37_a5_hv7 := c37_a5_hv7) (w1_c44_a0_hv5 := c44_a0_hv5) (w1_c44_a0_hv6 := c44_a0_hv6) (w1_c44_a0_hv7 := c44_a0_hv7) (w1_c51_a1_hv5 := c51_a1_hv5) (w1_c51_a1_hv6 := c51_a1_hv6) (w1_c51_a1_hv7 := c51_a1_hv7) (w1_c58_a2_hv5 := c58_a2_hv5) (w1_c58_a2_hv6 := c58_a2_hv6) (w1_c58_a2_hv7 := c58_a2_hv7) (w1_c65_a3_hv5 := c65_a3_hv5) (w1_c65_a3_hv6 := c65_a3_hv6) (w1_c65_a3_hv7 := c65_a3_hv7) (w1_c72_a4_hv5 := c72_a4_hv5) (w1_c72_a4_hv6 := c72_a4_hv6) (w1_c72_a4_hv7 := c72_a4_hv7) (w1_c79_a5_hv5 := c79_a5_hv5) (w1_c79_a5_hv6 := c79_a5_hv6) (w1_c79_a5_hv7 := c79_a5_hv7) (w1_hv172 := hs) (w1_hv174 := hn) (w1_c411_c1_hn71 := J3n) (w1_c411_c1_hv71 := c411_c1_hv71) (w1_c411_c1_hn72 := J5n) (w1_c411_c1_hv72 := c411_c1_hv72) (w1_c411_c1_hn71_2 := J8n) (w1_c411_c1_hv71_2 := c411_c1_hv71_2) (w1_c411_c1_hn72_2 := J9n) (w1_c411_c1_hv72_2 := c411_c1_hv72_2) (w1_c411_c1_hn71_3 := J12n) (w1_c411_c1_hv71_3 := c411_c1_hv71_3) (w1_c411_c1_hn72_3 := J13n) (w1_c411_c1_hv72_3 := c411_c1_hv72_3) (w1_c411_c1_hn71_4 := J15n) (w1_c411_c1_hv71_4 := c411_c1_hv71_4) (w1_c411_c1_hn72_4 := J16n) (w1_c411_c1_hv72_4 := c411_c1_hv72_4) (w1_c411_c1_hn71_5 := J18n) (w1_c411_c1_hv71_5 := c411_c1_hv71_5) (w1_c411_c1_hn72_5 := J19n) (w1_c411_c1_hv72_5 := c411_c1_hv72_5) (w1_c411_c1_hn71_6 := J21n) (w1_c411_c1_hv71_6 := c411_c1_hv71_6) (w1_c411_c1_hn72_6 := J22n) (w1_c411_c1_hv72_6 := c411_c1_hv72_6) (w1_c411_c1_hn71_7 := J24n) (w1_c411_c1_hv71_7 := c411_c1_hv71_7) (w1_c411_c1_hn72_7 := J25n) (w1_c411_c1_hv72_7 := c411_c1_hv72_7) (w1_c411_c1_hn71_8 := J27n) (w1_c411_c1_hv71_8 := c411_c1_hv71_8) (w1_c411_c1_hn72_8 := J28n) (w1_c411_c1_hv72_8 := c411_c1_hv72_8) (w1_c411_c1_hn71_9 := J30n) (w1_c411_c1_hv71_9 := c411_c1_hv71_9) (w1_c411_c1_hn72_9 := J31n) (w1_c411_c1_hv72_9 := c411_c1_hv72_9) (w1_c411_c1_hn71_10 := J32n) (w1_c411_c1_hv71_10 := c411_c1_hv71_10) (w1_c411_c1_hn72_10 := J33n) (w1_c411_c1_hv72_10 := c411_c1_hv72_10) (w1_c411_c1_hn71_11 := J34n) (w1_c411_c1_hv71_11 := c411_c1_hv71_11) (w1_c411_c1_hn72_11 := J35n) (w1_c411_c1_hv72_11 := c411_c1_hv72_11) (w1_c411_c1_hn71_12 := J36n) (w1_c411_c1_hv71_12 := c411_c1_hv71_12) (w1_c411_c1_hn72_12 := J37n) (w1_c411_c1_hv72_12 := c411_c1_hv72_12) (w1_hv433 := hv433) (w1_hv438 := hv438) (w1_hv439 := hv439) (w1_hv444 := hv444) (w1_hv445 := hv445) (w1_c446_same_h1 := (own_eq0 J13.is Id38.is (by grind) _)) (w1_c446_same_h2 := (fun h => Z_c411_c1_v72_3 (by have h1 := L_v445.1; rw [h, show (0 : Int32).toInt = 0 from rfl] at h1; grind))) (w1_hv460 := hv460) (w1_hv465 := hv465) (w1_hv466 := hv466) (w1_hv471 := hv471) (w1_hv472 := hv472) (w1_c473_same_h1 := (own_eq0 J22.is Id39.is (by grind) _)) (w1_c473_same_h2 := (fun h => Z_c411_c1_v72_6 (by have h1 := L_v472.1; rw [h, show (0 : Int32).toInt = 0 from rfl] at h1; grind))) (w1_hv487 := hv487) (w1_hv492 := hv492) (w1_hv493 := hv493) (w1_hv498 := hv498) (w1_hv499 := hv499) (w1_c500_same_h1 := (own_eq0 J31.is Id40.is (by grind) _)) (w1_c500_same_h2 := (fun h => Z_c411_c1_v72_9 (by have h1 := L_v499.1; rw [h, show (0 : Int32).toInt = 0 from rfl] at h1; grind))) (w1_hv514 := hv514) (w1_hv519 := hv519) (w1_hv520 := hv520) (w1_hv525 := hv525) (w1_hv526 := hv526) (w1_c527_same_h1 := (own_eq0 J37.is Id41.is (by grind) _)) (w1_c527_same_h2 := (fun h => Z_c411_c1_v72_12 (by have h1 := L_v526.1; rw [h, show (0 : Int32).toInt = 0 from rfl] at h1; grind)))
  · obtain ⟨c2_a0_v5, c2_a0_hv5⟩ : ∃ v, p0 >>> ((0 : Int32) &&& 63).toInt64 = v := ⟨_, rfl⟩
    obtain ⟨c2_a0_v6, c2_a0_hv6⟩ : ∃ v, Int64.toInt32 c2_a0_v5 = v := ⟨_, rfl⟩
    obtain ⟨c2_a0_v7, c2_a0_hv7⟩ : ∃ v, (Int32.toInt8 c2_a0_v6).toInt32 = v := ⟨_, rfl⟩
    have L_c2_a0_v7 : own_I c2_a0_v7 c2_a0_v7.toInt 128 := by have := c_i2b c2_a0_v6; rw [c2_a0_hv7] at this; exact ⟨rfl, by omega, by omega⟩
    obtain ⟨c9_a1_v5, c9_a1_hv5⟩ : ∃ v, p0 >>> ((8 : Int32) &&& 63).toInt64 = v := ⟨_, rfl⟩
    obtain ⟨c9_a1_v6, c9_a1_hv6⟩ : ∃ v, Int64.toInt32 c9_a1_v5 = v := ⟨_, rfl⟩
    obtain ⟨c9_a1_v7, c9_a1_hv7⟩ : ∃ v, (Int32.toInt8 c9_a1_v6).toInt32 = v := ⟨_, rfl⟩
    have L_c9_a1_v7 : own_I c9_a1_v7 c9_a1_v7.toInt 128 := by have := c_i2b c9_a1_v6; rw [c9_a1_hv7] at this; exact ⟨rfl, by omega, by omega⟩
    obtain ⟨c16_a2_v5, c16_a2_hv5⟩ : ∃ v, p0 >>> ((16 : Int32) &&& 63).toInt64 = v := ⟨_, rfl⟩
    obtain ⟨c16_a2_v6, c16_a2_hv6⟩ : ∃ v, Int64.toInt32 c16_a2_v5 = v := ⟨_, rfl⟩
    obtain ⟨c16_a2_v7, c16_a2_hv7⟩ : ∃ v, (Int32.toInt8 c16_a2_v6).toInt32 = v := ⟨_, rfl⟩
    have L_c16_a2_v7 : own_I c16_a2_v7 c16_a2_v7.toInt 128 := by have := c_i2b c16_a2_v6; rw [c16_a2_hv7] at this; exact ⟨rfl, by omega, by omega⟩
    obtain ⟨c23_a3_v5, c23_a3_hv5⟩ : ∃ v, p0 >>> ((24 : Int32) &&& 63).toInt64 = v := ⟨_, rfl⟩
    obtain ⟨c23_a3_v6, c23_a3_hv6⟩ : ∃ v, Int64.toInt32 c23_a3_v5 = v := ⟨_, rfl⟩
    obtain ⟨c23_a3_v7, c23_a3_hv7⟩ : ∃ v, (Int32.toInt8 c23_a3_v6).toInt32 = v := ⟨_, rfl⟩
    have L_c23_a3_v7 : own_I c23_a3_v7 c23_a3_v7.toInt 128 := by have := c_i2b c23_a3_v6; rw [c23_a3_hv7] at this; exact ⟨rfl, by omega, by omega⟩
    obtain ⟨c30_a4_v5, c30_a4_hv5⟩ : ∃ v, p0 >>> ((32 : Int32) &&& 63).toInt64 = v := ⟨_, rfl⟩
    obtain ⟨c30_a4_v6, c30_a4_hv6⟩ : ∃ v, Int64.toInt32 c30_a4_v5 = v := ⟨_, rfl⟩
    obtain ⟨c30_a4_v7, c30_a4_hv7⟩ : ∃ v, (Int32.toInt8 c30_a4_v6).toInt32 = v := ⟨_, rfl⟩
    have L_c30_a4_v7 : own_I c30_a4_v7 c30_a4_v7.toInt 128 := by have := c_i2b c30_a4_v6; rw [c30_a4_hv7] at this; exact ⟨rfl, by omega, by omega⟩
    obtain ⟨c37_a5_v5, c37_a5_hv5⟩ : ∃ v, p0 >>> ((40 : Int32) &&& 63).toInt64 = v := ⟨_, rfl⟩
    obtain ⟨c37_a5_v6, c37_a5_hv6⟩ : ∃ v, Int64.toInt32 c37_a5_v5 = v := ⟨_, rfl⟩
    obtain ⟨c37_a5_v7, c37_a5_hv7⟩ : ∃ v, (Int32.toInt8 c37_a5_v6).toInt32 = v := ⟨_, rfl⟩
    have L_c37_a5_v7 : own_I c37_a5_v7 c37_a5_v7.toInt 128 := by have := c_i2b c37_a5_v6; rw [c37_a5_hv7] at this; exact ⟨rfl, by omega, by omega⟩
    obtain ⟨c44_a0_v5, c44_a0_hv5⟩ : ∃ v, p1 >>> ((0 : Int32) &&& 63).toInt64 = v := ⟨_, rfl⟩
    obtain ⟨c44_a0_v6, c44_a0_hv6⟩ : ∃ v, Int64.toInt32 c44_a0_v5 = v := ⟨_, rfl⟩
    obtain ⟨c44_a0_v7, c44_a0_hv7⟩ : ∃ v, (Int32.toInt8 c44_a0_v6).toInt32 = v := ⟨_, rfl⟩
    have L_c44_a0_v7 : own_I c44_a0_v7 c44_a0_v7.toInt 128 := by have := c_i2b c44_a0_v6; rw [c44_a0_hv7] at this; exact ⟨rfl, by omega, by omega⟩
    obtain ⟨c51_a1_v5, c51_a1_hv5⟩ : ∃ v, p1 >>> ((8 : Int32) &&& 63).toInt64 = v := ⟨_, rfl⟩
    obtain ⟨c51_a1_v6, c51_a1_hv6⟩ : ∃ v, Int64.toInt32 c51_a1_v5 = v := ⟨_, rfl⟩
    obtain ⟨c51_a1_v7, c51_a1_hv7⟩ : ∃ v, (Int32.toInt8 c51_a1_v6).toInt32 = v := ⟨_, rfl⟩
    have L_c51_a1_v7 : own_I c51_a1_v7 c51_a1_v7.toInt 128 := by have := c_i2b c51_a1_v6; rw [c51_a1_hv7] at this; exact ⟨rfl, by omega, by omega⟩
    obtain ⟨c58_a2_v5, c58_a2_hv5⟩ : ∃ v, p1 >>> ((16 : Int32) &&& 63).toInt64 = v := ⟨_, rfl⟩
    obtain ⟨c58_a2_v6, c58_a2_hv6⟩ : ∃ v, Int64.toInt32 c58_a2_v5 = v := ⟨_, rfl⟩
    obtain ⟨c58_a2_v7, c58_a2_hv7⟩ : ∃ v, (Int32.toInt8 c58_a2_v6).toInt32 = v := ⟨_, rfl⟩
    have L_c58_a2_v7 : own_I c58_a2_v7 c58_a2_v7.toInt 128 := by have := c_i2b c58_a2_v6; rw [c58_a2_hv7] at this; exact ⟨rfl, by omega, by omega⟩
    obtain ⟨c65_a3_v5, c65_a3_hv5⟩ : ∃ v, p1 >>> ((24 : Int32) &&& 63).toInt64 = v := ⟨_, rfl⟩
    obtain ⟨c65_a3_v6, c65_a3_hv6⟩ : ∃ v, Int64.toInt32 c65_a3_v5 = v := ⟨_, rfl⟩
    obtain ⟨c65_a3_v7, c65_a3_hv7⟩ : ∃ v, (Int32.toInt8 c65_a3_v6).toInt32 = v := ⟨_, rfl⟩
    have L_c65_a3_v7 : own_I c65_a3_v7 c65_a3_v7.toInt 128 := by have := c_i2b c65_a3_v6; rw [c65_a3_hv7] at this; exact ⟨rfl, by omega, by omega⟩
    obtain ⟨c72_a4_v5, c72_a4_hv5⟩ : ∃ v, p1 >>> ((32 : Int32) &&& 63).toInt64 = v := ⟨_, rfl⟩
    obtain ⟨c72_a4_v6, c72_a4_hv6⟩ : ∃ v, Int64.toInt32 c72_a4_v5 = v := ⟨_, rfl⟩
    obtain ⟨c72_a4_v7, c72_a4_hv7⟩ : ∃ v, (Int32.toInt8 c72_a4_v6).toInt32 = v := ⟨_, rfl⟩
    have L_c72_a4_v7 : own_I c72_a4_v7 c72_a4_v7.toInt 128 := by have := c_i2b c72_a4_v6; rw [c72_a4_hv7] at this; exact ⟨rfl, by omega, by omega⟩
    obtain ⟨c79_a5_v5, c79_a5_hv5⟩ : ∃ v, p1 >>> ((40 : Int32) &&& 63).toInt64 = v := ⟨_, rfl⟩
    obtain ⟨c79_a5_v6, c79_a5_hv6⟩ : ∃ v, Int64.toInt32 c79_a5_v5 = v := ⟨_, rfl⟩
    obtain ⟨c79_a5_v7, c79_a5_hv7⟩ : ∃ v, (Int32.toInt8 c79_a5_v6).toInt32 = v := ⟨_, rfl⟩
    have L_c79_a5_v7 : own_I c79_a5_v7 c79_a5_v7.toInt 128 := by have := c_i2b c79_a5_v6; rw [c79_a5_hv7] at this; exact ⟨rfl, by omega, by omega⟩
    obtain ⟨c545_c2_v71, c545_c2_hv71⟩ : ∃ v, FP.dmul (FP.i2d c2_a0_v7) (FP.i2d c44_a0_v7) = v := ⟨_, rfl⟩
    have Id1 : own_B (FP.i2d c2_a0_v7) (c2_a0_v7.toInt) 0 128 := own_Bi2d L_c2_a0_v7
    have Id2 : own_B (FP.i2d c44_a0_v7) (c44_a0_v7.toInt) 0 128 := own_Bi2d L_c44_a0_v7
    have J3 : own_B (FP.dmul (FP.i2d c2_a0_v7) (FP.i2d c44_a0_v7)) ((c2_a0_v7.toInt) * (c44_a0_v7.toInt)) (0) 16384 := own_Bcast (own_Bmul Id1 Id2 (by decide)) rfl (by decide) (by decide)
    have J3n := J3.nn
    rw [c545_c2_hv71] at J3
    obtain ⟨c545_c2_v72, c545_c2_hv72⟩ : ∃ v, FP.dadd 0 c545_c2_v71 = v := ⟨_, rfl⟩
    have Ic4 : own_B 0 (0) (0) 0 := ⟨⟨(Jvm.FP.Core.fin_bits _).mpr (by decide), by decide, by decide +kernel⟩, by decide, by decide⟩
    have J5 : own_B (FP.dadd 0 c545_c2_v71) ((0) + ((c2_a0_v7.toInt) * (c44_a0_v7.toInt))) (0) 16384 := own_Bcast (own_Badd Ic4 J3 (by decide)) rfl (by decide) (by decide)
    have J5n := J5.nn
    rw [c545_c2_hv72] at J5
    have Z_c545_c2_v72 := own_addz Ic4 J3 (by decide) (fun _ => rfl)
    rw [c545_c2_hv72] at Z_c545_c2_v72
    obtain ⟨c545_c2_v71_2, c545_c2_hv71_2⟩ : ∃ v, FP.dmul (FP.i2d c9_a1_v7) (FP.i2d c51_a1_v7) = v := ⟨_, rfl⟩
    have Id6 : own_B (FP.i2d c9_a1_v7) (c9_a1_v7.toInt) 0 128 := own_Bi2d L_c9_a1_v7
    have Id7 : own_B (FP.i2d c51_a1_v7) (c51_a1_v7.toInt) 0 128 := own_Bi2d L_c51_a1_v7
    have J8 : own_B (FP.dmul (FP.i2d c9_a1_v7) (FP.i2d c51_a1_v7)) ((c9_a1_v7.toInt) * (c51_a1_v7.toInt)) (0) 16384 := own_Bcast (own_Bmul Id6 Id7 (by decide)) rfl (by decide) (by decide)
    have J8n := J8.nn
    rw [c545_c2_hv71_2] at J8
    obtain ⟨c545_c2_v72_2, c545_c2_hv72_2⟩ : ∃ v, FP.dadd c545_c2_v72 c545_c2_v71_2 = v := ⟨_, rfl⟩
    have J9 : own_B (FP.dadd c545_c2_v72 c545_c2_v71_2) (((0) + ((c2_a0_v7.toInt) * (c44_a0_v7.toInt))) + ((c9_a1_v7.toInt) * (c51_a1_v7.toInt))) (0) 32768 := own_Bcast (own_Badd J5 J8 (by decide)) rfl (by decide) (by decide)
    have J9n := J9.nn
    rw [c545_c2_hv72_2] at J9
    have Z_c545_c2_v72_2 := own_addz J5 J8 (by decide) Z_c545_c2_v72
    rw [c545_c2_hv72_2] at Z_c545_c2_v72_2
    obtain ⟨c545_c2_v71_3, c545_c2_hv71_3⟩ : ∃ v, FP.dmul (FP.i2d c16_a2_v7) (FP.i2d c58_a2_v7) = v := ⟨_, rfl⟩
    have Id10 : own_B (FP.i2d c16_a2_v7) (c16_a2_v7.toInt) 0 128 := own_Bi2d L_c16_a2_v7
    have Id11 : own_B (FP.i2d c58_a2_v7) (c58_a2_v7.toInt) 0 128 := own_Bi2d L_c58_a2_v7
    have J12 : own_B (FP.dmul (FP.i2d c16_a2_v7) (FP.i2d c58_a2_v7)) ((c16_a2_v7.toInt) * (c58_a2_v7.toInt)) (0) 16384 := own_Bcast (own_Bmul Id10 Id11 (by decide)) rfl (by decide) (by decide)
    have J12n := J12.nn
    rw [c545_c2_hv71_3] at J12
    obtain ⟨c545_c2_v72_3, c545_c2_hv72_3⟩ : ∃ v, FP.dadd c545_c2_v72_2 c545_c2_v71_3 = v := ⟨_, rfl⟩
    have J13 : own_B (FP.dadd c545_c2_v72_2 c545_c2_v71_3) ((((0) + ((c2_a0_v7.toInt) * (c44_a0_v7.toInt))) + ((c9_a1_v7.toInt) * (c51_a1_v7.toInt))) + ((c16_a2_v7.toInt) * (c58_a2_v7.toInt))) (0) 49152 := own_Bcast (own_Badd J9 J12 (by decide)) rfl (by decide) (by decide)
    have J13n := J13.nn
    rw [c545_c2_hv72_3] at J13
    have Z_c545_c2_v72_3 := own_addz J9 J12 (by decide) Z_c545_c2_v72_2
    rw [c545_c2_hv72_3] at Z_c545_c2_v72_3
    obtain ⟨c545_c2_v71_4, c545_c2_hv71_4⟩ : ∃ v, FP.dmul (FP.i2d c23_a3_v7) (FP.i2d c65_a3_v7) = v := ⟨_, rfl⟩
    have Id14 : own_B (FP.i2d c23_a3_v7) (c23_a3_v7.toInt) 0 128 := own_Bi2d L_c23_a3_v7
    have Id15 : own_B (FP.i2d c65_a3_v7) (c65_a3_v7.toInt) 0 128 := own_Bi2d L_c65_a3_v7
    have J16 : own_B (FP.dmul (FP.i2d c23_a3_v7) (FP.i2d c65_a3_v7)) ((c23_a3_v7.toInt) * (c65_a3_v7.toInt)) (0) 16384 := own_Bcast (own_Bmul Id14 Id15 (by decide)) rfl (by decide) (by decide)
    have J16n := J16.nn
    rw [c545_c2_hv71_4] at J16
    obtain ⟨c545_c2_v72_4, c545_c2_hv72_4⟩ : ∃ v, FP.dadd c545_c2_v72_3 c545_c2_v71_4 = v := ⟨_, rfl⟩
    have J17 : own_B (FP.dadd c545_c2_v72_3 c545_c2_v71_4) (((((0) + ((c2_a0_v7.toInt) * (c44_a0_v7.toInt))) + ((c9_a1_v7.toInt) * (c51_a1_v7.toInt))) + ((c16_a2_v7.toInt) * (c58_a2_v7.toInt))) + ((c23_a3_v7.toInt) * (c65_a3_v7.toInt))) (0) 65536 := own_Bcast (own_Badd J13 J16 (by decide)) rfl (by decide) (by decide)
    have J17n := J17.nn
    rw [c545_c2_hv72_4] at J17
    have Z_c545_c2_v72_4 := own_addz J13 J16 (by decide) Z_c545_c2_v72_3
    rw [c545_c2_hv72_4] at Z_c545_c2_v72_4
    obtain ⟨c545_c2_v71_5, c545_c2_hv71_5⟩ : ∃ v, FP.dmul (FP.i2d c30_a4_v7) (FP.i2d c72_a4_v7) = v := ⟨_, rfl⟩
    have Id18 : own_B (FP.i2d c30_a4_v7) (c30_a4_v7.toInt) 0 128 := own_Bi2d L_c30_a4_v7
    have Id19 : own_B (FP.i2d c72_a4_v7) (c72_a4_v7.toInt) 0 128 := own_Bi2d L_c72_a4_v7
    have J20 : own_B (FP.dmul (FP.i2d c30_a4_v7) (FP.i2d c72_a4_v7)) ((c30_a4_v7.toInt) * (c72_a4_v7.toInt)) (0) 16384 := own_Bcast (own_Bmul Id18 Id19 (by decide)) rfl (by decide) (by decide)
    have J20n := J20.nn
    rw [c545_c2_hv71_5] at J20
    obtain ⟨c545_c2_v72_5, c545_c2_hv72_5⟩ : ∃ v, FP.dadd c545_c2_v72_4 c545_c2_v71_5 = v := ⟨_, rfl⟩
    have J21 : own_B (FP.dadd c545_c2_v72_4 c545_c2_v71_5) ((((((0) + ((c2_a0_v7.toInt) * (c44_a0_v7.toInt))) + ((c9_a1_v7.toInt) * (c51_a1_v7.toInt))) + ((c16_a2_v7.toInt) * (c58_a2_v7.toInt))) + ((c23_a3_v7.toInt) * (c65_a3_v7.toInt))) + ((c30_a4_v7.toInt) * (c72_a4_v7.toInt))) (0) 81920 := own_Bcast (own_Badd J17 J20 (by decide)) rfl (by decide) (by decide)
    have J21n := J21.nn
    rw [c545_c2_hv72_5] at J21
    have Z_c545_c2_v72_5 := own_addz J17 J20 (by decide) Z_c545_c2_v72_4
    rw [c545_c2_hv72_5] at Z_c545_c2_v72_5
    obtain ⟨c545_c2_v71_6, c545_c2_hv71_6⟩ : ∃ v, FP.dmul (FP.i2d c37_a5_v7) (FP.i2d c79_a5_v7) = v := ⟨_, rfl⟩
    have Id22 : own_B (FP.i2d c37_a5_v7) (c37_a5_v7.toInt) 0 128 := own_Bi2d L_c37_a5_v7
    have Id23 : own_B (FP.i2d c79_a5_v7) (c79_a5_v7.toInt) 0 128 := own_Bi2d L_c79_a5_v7
    have J24 : own_B (FP.dmul (FP.i2d c37_a5_v7) (FP.i2d c79_a5_v7)) ((c37_a5_v7.toInt) * (c79_a5_v7.toInt)) (0) 16384 := own_Bcast (own_Bmul Id22 Id23 (by decide)) rfl (by decide) (by decide)
    have J24n := J24.nn
    rw [c545_c2_hv71_6] at J24
    obtain ⟨c545_c2_v72_6, c545_c2_hv72_6⟩ : ∃ v, FP.dadd c545_c2_v72_5 c545_c2_v71_6 = v := ⟨_, rfl⟩
    have J25 : own_B (FP.dadd c545_c2_v72_5 c545_c2_v71_6) (((((((0) + ((c2_a0_v7.toInt) * (c44_a0_v7.toInt))) + ((c9_a1_v7.toInt) * (c51_a1_v7.toInt))) + ((c16_a2_v7.toInt) * (c58_a2_v7.toInt))) + ((c23_a3_v7.toInt) * (c65_a3_v7.toInt))) + ((c30_a4_v7.toInt) * (c72_a4_v7.toInt))) + ((c37_a5_v7.toInt) * (c79_a5_v7.toInt))) (0) 98304 := own_Bcast (own_Badd J21 J24 (by decide)) rfl (by decide) (by decide)
    have J25n := J25.nn
    rw [c545_c2_hv72_6] at J25
    have Z_c545_c2_v72_6 := own_addz J21 J24 (by decide) Z_c545_c2_v72_5
    rw [c545_c2_hv72_6] at Z_c545_c2_v72_6
    obtain ⟨v567, hv567⟩ : ∃ v, c2_a0_v7 * c44_a0_v7 = v := ⟨_, rfl⟩
    have L_v567 : own_I v567 ((c2_a0_v7.toInt) * (c44_a0_v7.toInt)) 16384 := own_Icast (own_Imul hv567 L_c2_a0_v7 L_c44_a0_v7 (by decide)) rfl (by decide)
    obtain ⟨v572, hv572⟩ : ∃ v, c9_a1_v7 * c51_a1_v7 = v := ⟨_, rfl⟩
    have L_v572 : own_I v572 ((c9_a1_v7.toInt) * (c51_a1_v7.toInt)) 16384 := own_Icast (own_Imul hv572 L_c9_a1_v7 L_c51_a1_v7 (by decide)) rfl (by decide)
    obtain ⟨v573, hv573⟩ : ∃ v, v567 + v572 = v := ⟨_, rfl⟩
    have L_v573 : own_I v573 ((((c2_a0_v7.toInt) * (c44_a0_v7.toInt))) + (((c9_a1_v7.toInt) * (c51_a1_v7.toInt)))) 32768 := own_Icast (own_Iadd hv573 L_v567 L_v572 (by decide)) rfl (by decide)
    obtain ⟨v578, hv578⟩ : ∃ v, c16_a2_v7 * c58_a2_v7 = v := ⟨_, rfl⟩
    have L_v578 : own_I v578 ((c16_a2_v7.toInt) * (c58_a2_v7.toInt)) 16384 := own_Icast (own_Imul hv578 L_c16_a2_v7 L_c58_a2_v7 (by decide)) rfl (by decide)
    obtain ⟨v579, hv579⟩ : ∃ v, v573 + v578 = v := ⟨_, rfl⟩
    have L_v579 : own_I v579 ((((((c2_a0_v7.toInt) * (c44_a0_v7.toInt))) + (((c9_a1_v7.toInt) * (c51_a1_v7.toInt))))) + (((c16_a2_v7.toInt) * (c58_a2_v7.toInt)))) 49152 := own_Icast (own_Iadd hv579 L_v573 L_v578 (by decide)) rfl (by decide)
    obtain ⟨v584, hv584⟩ : ∃ v, c23_a3_v7 * c65_a3_v7 = v := ⟨_, rfl⟩
    have L_v584 : own_I v584 ((c23_a3_v7.toInt) * (c65_a3_v7.toInt)) 16384 := own_Icast (own_Imul hv584 L_c23_a3_v7 L_c65_a3_v7 (by decide)) rfl (by decide)
    obtain ⟨v585, hv585⟩ : ∃ v, v579 + v584 = v := ⟨_, rfl⟩
    have L_v585 : own_I v585 ((((((((c2_a0_v7.toInt) * (c44_a0_v7.toInt))) + (((c9_a1_v7.toInt) * (c51_a1_v7.toInt))))) + (((c16_a2_v7.toInt) * (c58_a2_v7.toInt))))) + (((c23_a3_v7.toInt) * (c65_a3_v7.toInt)))) 65536 := own_Icast (own_Iadd hv585 L_v579 L_v584 (by decide)) rfl (by decide)
    obtain ⟨v590, hv590⟩ : ∃ v, c30_a4_v7 * c72_a4_v7 = v := ⟨_, rfl⟩
    have L_v590 : own_I v590 ((c30_a4_v7.toInt) * (c72_a4_v7.toInt)) 16384 := own_Icast (own_Imul hv590 L_c30_a4_v7 L_c72_a4_v7 (by decide)) rfl (by decide)
    obtain ⟨v591, hv591⟩ : ∃ v, v585 + v590 = v := ⟨_, rfl⟩
    have L_v591 : own_I v591 ((((((((((c2_a0_v7.toInt) * (c44_a0_v7.toInt))) + (((c9_a1_v7.toInt) * (c51_a1_v7.toInt))))) + (((c16_a2_v7.toInt) * (c58_a2_v7.toInt))))) + (((c23_a3_v7.toInt) * (c65_a3_v7.toInt))))) + (((c30_a4_v7.toInt) * (c72_a4_v7.toInt)))) 81920 := own_Icast (own_Iadd hv591 L_v585 L_v590 (by decide)) rfl (by decide)
    obtain ⟨v596, hv596⟩ : ∃ v, c37_a5_v7 * c79_a5_v7 = v := ⟨_, rfl⟩
    have L_v596 : own_I v596 ((c37_a5_v7.toInt) * (c79_a5_v7.toInt)) 16384 := own_Icast (own_Imul hv596 L_c37_a5_v7 L_c79_a5_v7 (by decide)) rfl (by decide)
    obtain ⟨v597, hv597⟩ : ∃ v, v591 + v596 = v := ⟨_, rfl⟩
    have L_v597 : own_I v597 ((((((((((((c2_a0_v7.toInt) * (c44_a0_v7.toInt))) + (((c9_a1_v7.toInt) * (c51_a1_v7.toInt))))) + (((c16_a2_v7.toInt) * (c58_a2_v7.toInt))))) + (((c23_a3_v7.toInt) * (c65_a3_v7.toInt))))) + (((c30_a4_v7.toInt) * (c72_a4_v7.toInt))))) + (((c37_a5_v7.toInt) * (c79_a5_v7.toInt)))) 98304 := own_Icast (own_Iadd hv597 L_v591 L_v596 (by decide)) rfl (by decide)
    have Id26 : own_B (FP.i2d v597) (((((((((((((c2_a0_v7.toInt) * (c44_a0_v7.toInt))) + (((c9_a1_v7.toInt) * (c51_a1_v7.toInt))))) + (((c16_a2_v7.toInt) * (c58_a2_v7.toInt))))) + (((c23_a3_v7.toInt) * (c65_a3_v7.toInt))))) + (((c30_a4_v7.toInt) * (c72_a4_v7.toInt))))) + (((c37_a5_v7.toInt) * (c79_a5_v7.toInt))))) 0 98304 := own_Bi2d L_v597
    exact own_rm_w2 l Z a0 hw ws p0 p1 p2 h0 n0 Z0 (w2_c2_a0_hv5 := c2_a0_hv5) (w2_c2_a0_hv6 := c2_a0_hv6) (w2_c2_a0_hv7 := c2_a0_hv7) (w2_c9_a1_hv5 := c9_a1_hv5) (w2_c9_a1_hv6 := c9_a1_hv6) (w2_c9_a1_hv7 := c9_a1_hv7) (w2_c16_a2_hv5 := c16_a2_hv5) (w2_c16_a2_hv6 := c16_a2_hv6) (w2_c16_a2_hv7 := c16_a2_hv7) (w2_c23_a3_hv5 := c23_a3_hv5) (w2_c23_a3_hv6 := c23_a3_hv6) (w2_c23_a3_hv7 := c23_a3_hv7) (w2_c30_a4_hv5 := c30_a4_hv5) (w2_c30_a4_hv6 := c30_a4_hv6) (w2_c30_a4_hv7 := c30_a4_hv7) (w2_c37_a5_hv5 := c37_a5_hv5) (w2_c37_a5_hv6 := c37_a5_hv6) (w2_c37_a5_hv7 := c37_a5_hv7) (w2_c44_a0_hv5 := c44_a0_hv5) (w2_c44_a0_hv6 := c44_a0_hv6) (w2_c44_a0_hv7 := c44_a0_hv7) (w2_c51_a1_hv5 := c51_a1_hv5) (w2_c51_a1_hv6 := c51_a1_hv6) (w2_c51_a1_hv7 := c51_a1_hv7) (w2_c58_a2_hv5 := c58_a2_hv5) (w2_c58_a2_hv6 := c58_a2_hv6) (w2_c58_a2_hv7 := c58_a2_hv7) (w2_c65_a3_hv5 := c65_a3_hv5) (w2_c65_a3_hv6 := c65_a3_hv6) (w2_c65_a3_hv7 := c65_a3_hv7) (w2_c72_a4_hv5 := c72_a4_hv5) (w2_c72_a4_hv6 := c72_a4_hv6) (w2_c72_a4_hv7 := c72_a4_hv7) (w2_c79_a5_hv5 := c79_a5_hv5) (w2_c79_a5_hv6 := c79_a5_hv6) (w2_c79_a5_hv7 := c79_a5_hv7) (w2_hv172 := hs) (w2_hv174 := hn) (w2_c545_c2_hn71 := J3n) (w2_c545_c2_hv71 := c545_c2_hv71) (w2_c545_c2_hn72 := J5n) (w2_c545_c2_hv72 := c545_c2_hv72) (w2_c545_c2_hn71_2 := J8n) (w2_c545_c2_hv71_2 := c545_c2_hv71_2) (w2_c545_c2_hn72_2 := J9n) (w2_c545_c2_hv72_2 := c545_c2_hv72_2) (w2_c545_c2_hn71_3 := J12n) (w2_c545_c2_hv71_3 := c545_c2_hv71_3) (w2_c545_c2_hn72_3 := J13n) (w2_c545_c2_hv72_3 := c545_c2_hv72_3) (w2_c545_c2_hn71_4 := J16n) (w2_c545_c2_hv71_4 := c545_c2_hv71_4) (w2_c545_c2_hn72_4 := J17n) (w2_c545_c2_hv72_4 := c545_c2_hv72_4) (w2_c545_c2_hn71_5 := J20n) (w2_c545_c2_hv71_5 := c545_c2_hv71_5) (w2_c545_c2_hn72_5 := J21n) (w2_c545_c2_hv72_5 := c545_c2_hv72_5) (w2_c545_c2_hn71_6 := J24n) (w2_c545_c2_hv71_6 := c545_c2_hv71_6) (w2_c545_c2_hn72_6 := J25n) (w2_c545_c2_hv72_6 := c545_c2_hv72_6) (w2_hv567 := hv567) (w2_hv572 := hv572) (w2_hv573 := hv573) (w2_hv578 := hv578) (w2_hv579 := hv579) (w2_hv584 := hv584) (w2_hv585 := hv585) (w2_hv590 := hv590) (w2_hv591 := hv591) (w2_hv596 := hv596) (w2_hv597 := hv597) (w2_c598_same_h1 := (own_eq0 J25.is Id26.is (by grind) _)) (w2_c598_same_h2 := (fun h => Z_c545_c2_v72_6 (by have h1 := L_v597.1; rw [h, show (0 : Int32).toInt = 0 from rfl] at h1; grind)))
set_option maxRecDepth 65536 in
set_option maxHeartbeats 40000000 in
theorem comes_1 {Post : Tables → Env → Array Value → State → Outcome → State → Prop} (hpost : ∀ tb e args s v u, (limb_1_1.after args s (.returned v) u = true ∧ limb_1_2.after args s (.returned v) u = true ∧ True) → FrameEnd s (.returned v) u (Jvm.fieldLocs frame_1_writes args s ++ Jvm.arrayLocs frame_1_arrays args s ++ Jvm.staticLocs frame_1_statics s) 16 128 → Post tb e args s (.returned v) u) :
    ArmFor flags0 classFile x code maxLocals ret World_1 tables_1 room_1 Calls_1 rest_1 Pre_1 Post := by
  intro l hfl _ _ p e ha hc hk s m args below hf hA hF happ hP
  obtain ⟨hcalls, hrest, hpre⟩ := hP
  obtain ⟨-, -, -, hnamed, -, -, -, hat⟩ := (Spec.applies_iff hf).mp happ
  obtain ⟨hg, hn⟩ := and_e (Cond.before_iff.mp (show (Jvm.Cond.and given_1 narrow_1).before args s = true from hpre))
  obtain ⟨hcount, g0⟩ := and_e hg
  obtain ⟨a0, g1⟩ := and_e g0
  obtain ⟨a1, g2⟩ := and_e g1
  have a2 := g2
  obtain ⟨w0, w1, w2, rfl⟩ : ∃ w0 w1 w2 : Value, args = #[w0, w1, w2] := by
    have hs : args.size = 3 := by simpa [Cond.value, given_1] using hcount
    obtain ⟨L⟩ := args
    match L, hs with
    | [w0, w1, w2], _ => exact ⟨w0, w1, w2, rfl⟩
  have hw := fun d (hd : d ∈ tables_1) => atoms_spec (ws := Jvm.Cond.code x code maxLocals ret :: tables_1) hat d (List.mem_cons_of_mem _ hd)
  obtain ⟨i0, ei0⟩ := isL_v a0
  obtain rfl : w0 = (.long i0) := Option.some.inj ei0
  obtain ⟨i1, ei1⟩ := isL_v a1
  obtain rfl : w1 = (.long i1) := Option.some.inj ei1
  obtain ⟨i2, ei2⟩ := is_v a2
  obtain rfl : w2 = (.int i2) := Option.some.inj ei2
  obtain ⟨n, o, h1, h2, h3, _, L, rfl, ⟨rfl, N⟩, hq⟩ := own_rm0 l s _ hw tables_1 i0 i1 i2 s.heap s.heap.size (Nat.le_refl _)  p e ha hc hk s m _ below hf ((Spec.applies_iff_loose hf).mp happ).1 ⟨rfl, State.Warmed39.refl s, rfl⟩ trivial
  refine ⟨n, _, h1, h2, h3, hpost _ _ _ _ _ _ ⟨Cond.after_iff.mpr rfl, Cond.after_iff.mpr (eq_i res_at (Term.int_eval (1)) rfl), trivial⟩ ⟨hq.1, hq.2.1, (hq.2.2.sift fun y hy => Or.inr (N y hy)).mono (by decide) (by decide)⟩⟩
theorem main_1_1 : Claimed_1_1 := comes_1 fun _ _ _ _ _ _ h hF => ⟨h.1, hF⟩
theorem main_1_2 : Claimed_1_2 := comes_1 fun _ _ _ _ _ _ h hF => ⟨h.2.1, hF⟩
end Jvm.Pilot.@@N@@
namespace Jvm.Pilot.@@N@@
open Jvm Jvm.ClassFile Sem Op Lib Jvm.Free Jvm.Stand Jvm.Pilot.@@N@@.Jvm.D
/-! MADE BY PROGRAM (witnessworld.py) out of the Statement's table words and the real class files: 11 classes; the members and pool entries that the words name. The judged class is class 1, her method 3. -/
namespace start1
open Jvm.ClassFile
def u (s : String) : CpInfo := .utf8 (stringToUtf16 s)
/-- a pool by its gaps: so many unusable entries, then the entry; so many at the end -/
def gap : Nat → List CpInfo → List CpInfo
  | 0, r => r
  | n + 1, r => .unusable :: gap n r
def poolList (es : List (Nat × CpInfo)) (last : Nat) : List CpInfo := es.foldr (fun e r => gap e.1 (e.2 :: r)) (gap last [])
def pool (es : List (Nat × CpInfo)) (last : Nat) : Array CpInfo := ⟨poolList es last⟩
def fileOf (pool : Array CpInfo) (this : Nat) (attrs : Array Attribute := #[]) (ms : Array MethodInfo := #[]) (fl : Nat := 33) (sup : Nat := 0) (ifs : Array Nat := #[]) (fds : Array FieldInfo := #[]) : ClassFile where
  minorVersion := 0
  majorVersion := 65
  constantPool := pool
  accessFlags := fl
  thisClass := this
  superClass := sup
  interfaces := ifs
  fields := fds
  methods := ms
  attributes := attrs
def plain (name : String) (sup : Option ClassId) : Class where
  name := name
  kind := .ordinary
  loader := none
  accessFlags := 33
  super := sup
  interfaces := #[]
  cf := none
  fields := #[]
  methods := #[]
  instanceTypes := #[]
  staticTypes := #[]
  resolved := #[]
  callSites := []
  init := .initialized
  statics := none
  mirror := none

def pool0 : Array CpInfo := pool [(5, u "<init>"), (0, u "()V"), (1, .class_ 10), (1, u "java/lang/Object")] 113

def k0m0 : Method := { name := "<init>", desc := "()V", sig := { parameters := [], returnType := none }, accessFlags := 1, code := none }
/-- java/lang/Object -/
def k0 : Class := { plain "java/lang/Object" none with
  accessFlags := 33
  interfaces := #[]
  cf := some (fileOf pool0 8 #[] #[{ accessFlags := 1, nameIndex := 5, descriptorIndex := 6, attributes := #[] }] 33 0 #[] #[])
  fields := #[]
  methods := #[k0m0]
  instanceTypes := #[]
  staticTypes := #[]
  resolved := Array.replicate 124 none
  statics := none }

def pool1 : Array CpInfo := pool [(2, .class_ 4), (1, u "java/lang/Object"), (0, u "<init>"), (0, u "()V"), (0, .methodref 8 9), (0, .class_ 10), (0, .nameAndType 11 12), (0, u "com/example/pintrinsic/pintrinsic/MatricesProductPinLaw"), (0, u "at"), (0, u "(JI)I"), (0, .integer 2147483647), (0, .methodref 15 16), (0, .class_ 17), (0, .nameAndType 18 19), (0, u "com/example/pintrinsic/pintrinsic/Matrices"), (0, u "product"), (0, u "([D[DI)[D"), (0, .methodref 8 21), (0, .nameAndType 22 23), (0, u "same"), (0, u "(DI)Z"), (3, u "law"), (0, u "(JJI)Z")] 4

def k1m0 : Method := { name := "<init>", desc := "()V", sig := { parameters := [], returnType := none }, accessFlags := 2, code := none }
def k1c1 : Code := { maxStack := 4, maxLocals := 3, code := method_2_code, exceptionTable := #[], attributes := #[] }
def k1m1 : Method := { name := "at", desc := "(JI)I", sig := { parameters := [.long, .int], returnType := some .int }, accessFlags := 10, code := some k1c1 }
def k1c2 : Code := { maxStack := 4, maxLocals := 3, code := method_3_code, exceptionTable := #[], attributes := #[] }
def k1m2 : Method := { name := "same", desc := "(DI)Z", sig := { parameters := [.double, .int], returnType := some .boolean }, accessFlags := 10, code := some k1c2 }
def k1c3 : Code := { maxStack := 5, maxLocals := 21, code := code, exceptionTable := #[], attributes := #[] }
def k1m3 : Method := { name := "law", desc := "(JJI)Z", sig := { parameters := [.long, .long, .int], returnType := some .boolean }, accessFlags := 9, code := some k1c3 }
/-- com/example/pintrinsic/pintrinsic/MatricesProductPinLaw -/
def k1 : Class := { plain "com/example/pintrinsic/pintrinsic/MatricesProductPinLaw" (some 0) with
  accessFlags := 49
  interfaces := #[]
  cf := some (fileOf pool1 8 #[] #[{ accessFlags := 2, nameIndex := 5, descriptorIndex := 6, attributes := #[] }, { accessFlags := 10, nameIndex := 11, descriptorIndex := 12, attributes := #[] }, { accessFlags := 10, nameIndex := 22, descriptorIndex := 23, attributes := #[] }, { accessFlags := 9, nameIndex := 27, descriptorIndex := 28, attributes := #[] }] 49 2 #[] #[])
  fields := #[]
  methods := #[k1m0, k1m1, k1m2, k1m3]
  instanceTypes := #[]
  staticTypes := #[]
  resolved := Array.replicate 33 none
  statics := none }

def pool2 : Array CpInfo := pool [(2, .class_ 4), (1, u "java/lang/Object"), (0, u "<init>"), (0, u "()V"), (1, .class_ 10), (1, u "com/example/pintrinsic/pintrinsic/Matrices"), (4, u "product"), (0, u "([D[DI)[D")] 10

def k2m0 : Method := { name := "<init>", desc := "()V", sig := { parameters := [], returnType := none }, accessFlags := 2, code := none }
def k2c1 : Code := { maxStack := 7, maxLocals := 11, code := prog_10_method_2_code, exceptionTable := #[], attributes := #[] }
def k2m1 : Method := { name := "product", desc := "([D[DI)[D", sig := { parameters := [(.array .double), (.array .double), .int], returnType := some (.array .double) }, accessFlags := 8, code := some k2c1 }
/-- com/example/pintrinsic/pintrinsic/Matrices -/
def k2 : Class := { plain "com/example/pintrinsic/pintrinsic/Matrices" (some 0) with
  accessFlags := 48
  interfaces := #[]
  cf := some (fileOf pool2 8 #[] #[{ accessFlags := 2, nameIndex := 5, descriptorIndex := 6, attributes := #[] }, { accessFlags := 8, nameIndex := 15, descriptorIndex := 16, attributes := #[] }] 48 2 #[] #[])
  fields := #[]
  methods := #[k2m0, k2m1]
  instanceTypes := #[]
  staticTypes := #[]
  resolved := Array.replicate 27 none
  statics := none }

def pool3 : Array CpInfo := pool [(1, u "java/lang/Cloneable"), (0, .class_ 1), (0, u "java/lang/Object"), (0, .class_ 3)] 3

/-- java/lang/Cloneable -/
def k3 : Class := { plain "java/lang/Cloneable" (some 0) with
  accessFlags := 1537
  interfaces := #[]
  cf := some (fileOf pool3 2 #[] #[] 1537 4 #[] #[])
  fields := #[]
  methods := #[]
  instanceTypes := #[]
  staticTypes := #[]
  resolved := Array.replicate 8 none
  statics := none }

def pool4 : Array CpInfo := pool [(1, u "java/io/Serializable"), (0, .class_ 1), (0, u "java/lang/Object"), (0, .class_ 3)] 3

/-- java/io/Serializable -/
def k4 : Class := { plain "java/io/Serializable" (some 0) with
  accessFlags := 1537
  interfaces := #[]
  cf := some (fileOf pool4 2 #[] #[] 1537 4 #[] #[])
  fields := #[]
  methods := #[]
  instanceTypes := #[]
  staticTypes := #[]
  resolved := Array.replicate 8 none
  statics := none }

/-- the primitive byte -/
def k5 : Class := { plain "byte" none with kind := .primitive 'B', accessFlags := 0x411 }
/-- [B -/
def k6 : Class := { plain "[B" (some 0) with kind := .array 5 .byte, interfaces := #[3, 4], accessFlags := 1041 }

/-- the primitive double -/
def k7 : Class := { plain "double" none with kind := .primitive 'D', accessFlags := 0x411 }
/-- [D -/
def k8 : Class := { plain "[D" (some 0) with kind := .array 7 .double, interfaces := #[3, 4], accessFlags := 1041 }

/-- the primitive int -/
def k9 : Class := { plain "int" none with kind := .primitive 'I', accessFlags := 0x411 }
/-- [I -/
def k10 : Class := { plain "[I" (some 0) with kind := .array 9 .int, interfaces := #[3, 4], accessFlags := 1041 }

def heap : Heap := #[]
def classes : Array Class := #[k0, k1, k2, k3, k4, k5, k6, k7, k8, k9, k10]
def interned : List (Array UInt16 × Addr) := []
def slotsUsed : Nat := 0
def theMethod : MethodId := ⟨1, 3⟩
def args0 : Array Value := #[.long 3, .long 4, .int 5]
def aboutOver (below : List Frame) : State where
  vm := { classes := classes, interned := interned.toArray }
  heap := heap
  slotsUsed := slotsUsed
  threads := #[{ frames := .invoking theMethod args0 :: below }]
def below0 : List Frame := [.native { method := ⟨0, 0⟩, args := #[] }]
def about1 : State := aboutOver below0
def p0 : Program := .bare "" "" ""
def e0 : Env := launch0.env 0 0 0
theorem w_frames : about1.frames = Frame.invoking theMethod args0 :: below0 := rfl
set_option maxRecDepth 65536 in
theorem w_args : argsFit about1.vm theMethod args0 = true := by decide +kernel
set_option maxRecDepth 65536 in
theorem w_heap : heapFits about1 = true := by decide +kernel
set_option maxRecDepth 65536 in
theorem w_runnable : about1.curStatus? = some .runnable := by decide +kernel
set_option maxRecDepth 65536 in
theorem w_alone : about1.alone = true := by decide +kernel
set_option maxRecDepth 65536 in
theorem w_named : about1.methodNamed? x = some theMethod := by decide +kernel
set_option maxRecDepth 65536 in
theorem w_hears : about1.hears theMethod below0 = true := by decide +kernel
set_option maxRecDepth 65536 in
theorem w_ripe : about1.ripe theMethod args0 below0 = true := by decide +kernel
theorem w_running : about1.status = .running := rfl
set_option maxRecDepth 65536 in
theorem w_room : about1.hasRoom e0.platform room_1 = true :=
  launch0.hasRoom_least _ room_1 (by decide +kernel) (by decide +kernel) (by decide +kernel) (by decide +kernel) (by decide +kernel) (by decide +kernel)
theorem allAtoms_all (ts : List Jvm.Cond) (a : Array Jvm.Value) (st : Jvm.State) : (allAtoms ts).before a st = ts.all (fun c => c.before a st) := by
  induction ts with
  | nil => rfl
  | cons c t ih =>
    show (Jvm.Cond.and c (allAtoms t)).before a st = _
    rw [Jvm.Cond.before_and, ih, List.all_cons]
def words1 : List Jvm.Cond := Jvm.Cond.code x code maxLocals ret :: tables_1
/-- a 'code' word, met by the world's own term for the bytes: nothing is compared byte by byte -/
theorem code_word {y : MethodName} {bytes : ByteArray} {mx : Nat} {rt : Option FieldType} {a : Array Value} {s : State} {m : MethodId} {meth : Method} {c : Code} (h1 : s.methodNamed? y = some m) (h2 : s.vm.method? m = some meth) (h3 : meth.code = some c) (h4 : c.code = bytes)
    (h5 : (c.maxLocals == mx && c.exceptionTable.isEmpty && decide (c.maxStack ≤ mostOperands) && decide (meth.sig.returnType = rt) && !meth.locks && decide (parseMethodDescriptor y.desc = some meth.sig)) = true) : (Jvm.Cond.code y bytes mx rt).before a s = true := by
  simp only [Bool.and_eq_true, beq_iff_eq, Bool.not_eq_true', decide_eq_true_eq] at h5
  obtain ⟨⟨⟨⟨⟨g1, g2⟩, g3⟩, g4⟩, g5⟩, g6⟩ := h5
  simp [Cond.before, Cond.holds, Cond.value, h1, h2, h3, h4, g1, g2, g3, g4, g5, g6]
def isCode : Jvm.Cond → Bool
  | .code _ _ _ _ => true
  | _ => false
theorem all_split {L : List Jvm.Cond} {P : Jvm.Cond → Bool} (h1 : L.all (fun c => isCode c || P c) = true) (h2 : ∀ c ∈ L.filter isCode, P c = true) : L.all P = true := by
  refine List.all_eq_true.mpr fun c hc => ?_
  have h := List.all_eq_true.mp h1 c hc
  rcases Bool.eq_false_or_eq_true (isCode c) with hi | hi
  · exact h2 c (List.mem_filter.mpr ⟨hc, hi⟩)
  · simpa [hi] using h
set_option maxRecDepth 65536 in
theorem w_c0 : (Jvm.Cond.code x code maxLocals ret).before args0 about1 = true := code_word (m := ⟨1, 3⟩) (meth := k1m3) (c := k1c3) (by decide +kernel) rfl rfl rfl (by decide +kernel)
set_option maxRecDepth 65536 in
theorem w_c1 : (Jvm.Cond.code ({ cls := "com/example/pintrinsic/pintrinsic/MatricesProductPinLaw", name := "at", desc := "(JI)I" } : Jvm.MethodName) method_2_code (3 : Nat) (Option.some Jvm.ClassFile.FieldType.int)).before args0 about1 = true := code_word (m := ⟨1, 1⟩) (meth := k1m1) (c := k1c1) (by decide +kernel) rfl rfl rfl (by decide +kernel)
set_option maxRecDepth 65536 in
theorem w_c2 : (Jvm.Cond.code ({ cls := "com/example/pintrinsic/pintrinsic/Matrices", name := "product", desc := "([D[DI)[D" } : Jvm.MethodName) prog_10_method_2_code (11 : Nat) (Option.some (Jvm.ClassFile.FieldType.array Jvm.ClassFile.FieldType.double))).before args0 about1 = true := code_word (m := ⟨2, 1⟩) (meth := k2m1) (c := k2c1) (by decide +kernel) rfl rfl rfl (by decide +kernel)
set_option maxRecDepth 65536 in
theorem w_c3 : (Jvm.Cond.code ({ cls := "com/example/pintrinsic/pintrinsic/MatricesProductPinLaw", name := "same", desc := "(DI)Z" } : Jvm.MethodName) method_3_code (3 : Nat) (Option.some Jvm.ClassFile.FieldType.boolean)).before args0 about1 = true := code_word (m := ⟨1, 2⟩) (meth := k1m2) (c := k1c2) (by decide +kernel) rfl rfl rfl (by decide +kernel)
def codes1 : List Jvm.Cond := [Jvm.Cond.code x code maxLocals ret, Jvm.Cond.code ({ cls := "com/example/pintrinsic/pintrinsic/MatricesProductPinLaw", name := "at", desc := "(JI)I" } : Jvm.MethodName) method_2_code (3 : Nat) (Option.some Jvm.ClassFile.FieldType.int), Jvm.Cond.code ({ cls := "com/example/pintrinsic/pintrinsic/Matrices", name := "product", desc := "([D[DI)[D" } : Jvm.MethodName) prog_10_method_2_code (11 : Nat) (Option.some (Jvm.ClassFile.FieldType.array Jvm.ClassFile.FieldType.double)), Jvm.Cond.code ({ cls := "com/example/pintrinsic/pintrinsic/MatricesProductPinLaw", name := "same", desc := "(DI)Z" } : Jvm.MethodName) method_3_code (3 : Nat) (Option.some Jvm.ClassFile.FieldType.boolean)]
set_option maxRecDepth 65536 in
theorem codes_eq : words1.filter isCode = codes1 := rfl
theorem w_codes : ∀ c ∈ words1.filter isCode, c.before args0 about1 = true := by
  rw [codes_eq]
  intro c hc
  simp only [codes1, List.mem_cons, List.not_mem_nil, or_false] at hc
  rcases hc with rfl | rfl | rfl | rfl
  · exact w_c0
  · exact w_c1
  · exact w_c2
  · exact w_c3
set_option maxRecDepth 65536 in
theorem w_t1 : words1.all (fun c => isCode c || c.before args0 about1) = true := by decide +kernel
theorem w_tables : (allAtoms (Jvm.Cond.code x code maxLocals ret :: tables_1)).before args0 about1 = true := by
  rw [allAtoms_all]
  show words1.all (fun c => c.before args0 about1) = true
  refine all_split ?_ w_codes
  rw [w_t1]
set_option maxRecDepth 65536 in
theorem w_case : (Jvm.Cond.and given_1 narrow_1).before args0 about1 = true := by decide +kernel
theorem w_applies : (headSpec (Jvm.Cond.code x code maxLocals ret :: tables_1) room_1).applies x e0.platform about1 = true :=
  (Spec.applies_iff w_frames).mpr ⟨w_running, w_runnable, w_alone, w_named, w_hears, w_ripe, w_room, w_tables⟩
theorem atStart : AtStart classFile x code maxLocals ret World_1 tables_1 room_1 Calls_1 rest_1 Pre_1 launch0 p0 e0 about1 theMethod args0 below0 :=
  ⟨lists_1, trivial, launch0.admits_env _ _ _, launch0.least_env, fairChoices_fair.cas, fairChoices_fair.clock, w_frames, w_args, w_heap, w_applies, trivial, trivial, w_case⟩
end start1
theorem witness_1 : WitnessClaimed_1 := ⟨start1.p0, start1.e0, start1.about1, start1.theMethod, start1.args0, start1.below0, start1.atStart⟩
end Jvm.Pilot.@@N@@
