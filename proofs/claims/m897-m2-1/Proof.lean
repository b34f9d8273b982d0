import JvmDerived
import JvmDerived.Pilot.@@N@@Statement
import JvmDerived.Pilot.@@N@@Code
set_option linter.unusedVariables false
set_option linter.unusedSimpArgs false
namespace Jvm.Pilot.@@N@@
section OwnFP
open Jvm.FP.Core
/-! Exact doubles: own_Is x n e says that the double x is finite and worth n * 2^e. -/
def own_Is (x : UInt64) (n : Int) (e : Int) : Prop := DFin x ∧ -1074 ≤ e ∧ zval b64 (val64 x) = n * ((2 ^ (e + 1074).toNat : Nat) : Int)
theorem own_qmax : b64.qmax = 971 := by decide
theorem own_pp : b64.p = 53 := rfl
theorem own_powc {a b u v : Nat} (h : a * 2 ^ u = b * 2 ^ v) {w : Int} (hw : w = (u : Int) - v) : a * 2 ^ w.toNat = b * 2 ^ (-w).toNat := by
  subst hw
  have hu : u = ((u : Int) - v).toNat + min u v := by omega
  have hv : v = (-((u : Int) - v)).toNat + min u v := by omega
  have h2 : a * 2 ^ (((u : Int) - v).toNat + min u v) = b * 2 ^ ((-((u : Int) - v)).toNat + min u v) := by rw [← hu, ← hv]; exact h
  rw [Nat.pow_add, Nat.pow_add, ← Nat.mul_assoc, ← Nat.mul_assoc] at h2
  exact Nat.eq_of_mul_eq_mul_right (Nat.two_pow_pos _) h2
theorem own_signed_abs (s : Bool) (c : Nat) : (signed s c).natAbs = c := by cases s <;> simp [signed]
theorem own_signed_mul (s t : Bool) (c d : Nat) : signed (s != t) (c * d) = signed s c * signed t d := by
  cases s <;> cases t <;> simp [signed, Int.natCast_mul, Int.neg_mul, Int.mul_neg]
theorem own_signed_scale (s : Bool) (c d : Nat) : signed s (c * d) = signed s c * (d : Int) := by cases s <;> simp [signed, Int.natCast_mul, Int.neg_mul]
theorem own_round {s : Bool} {c : Nat} {q : Int} {M : Nat} {e : Int} (h2 : -2148 ≤ q) (hM : M < 9007199254740992) (he1 : -1074 ≤ e) (he2 : e ≤ 971) (h : inUnits c q (-2148) = M * 2 ^ (e + 2148).toNat) :
    ∃ c' q', round b64 (.fin s c q) = .fin s c' q' ∧ inUnits c' q' b64.qmin = M * 2 ^ (e + 1074).toNat := by
  have hq : b64.qmin = -1074 := qmin_b64
  obtain ⟨c', q', h1, h3⟩ := round_exact good_b64 s (c := M) (q := e) (show M < 2 ^ 53 from hM) (by rw [hq]; omega) (by rw [own_qmax]; omega)
  refine ⟨c', q', ?_, ?_⟩
  · rw [← h1]
    show roundRatio b64 s c 1 q = roundRatio b64 s M 1 e
    refine roundRatio_congr (by decide) (by decide) ?_
    unfold inUnits at h
    have h4 := own_powc (u := (q - -2148).toNat) (v := (e + 2148).toNat) h (w := q - e) (by omega)
    rw [Nat.mul_one, Nat.mul_one, h4, show -(q - e) = e - q by omega]
  · rw [h3]; unfold inUnits; rw [hq, show e - -1074 = e + 1074 by omega]
theorem own_fin_split {x : UInt64} {n e : Int} (h : own_Is x n e) : ∃ s c q, val64 x = .fin s c q ∧ Jvm.FP.Core.fits b64 (.fin s c q) ∧ signed s (inUnits c q b64.qmin) = n * ((2 ^ (e + 1074).toNat : Nat) : Int) ∧ -1074 ≤ q := by
  obtain ⟨⟨s, c, q, hv⟩, he, hz⟩ := h
  have hf := val64_fits x
  rw [hv] at hf hz
  have := hf.2.1
  rw [qmin_b64] at this
  exact ⟨s, c, q, hv, hf, hz, this⟩
theorem own_Is_of {x : UInt64} {s : Bool} {c : Nat} {q n e : Int} (hv : val64 x = .fin s c q) (he : -1074 ≤ e) (h : signed s (inUnits c q b64.qmin) = n * ((2 ^ (e + 1074).toNat : Nat) : Int)) : own_Is x n e :=
  ⟨⟨s, c, q, hv⟩, he, by rw [hv]; exact h⟩
theorem own_sum {s : Bool} {c : Nat} {q n e : Int} (hq : -1074 ≤ q) (hn : n.natAbs < 9007199254740992) (he1 : -1074 ≤ e) (he2 : e ≤ 971) (h : signed s (inUnits c q b64.qmin) = n * ((2 ^ (e + 1074).toNat : Nat) : Int)) :
    ∃ c' q', round b64 (.fin s c q) = .fin s c' q' ∧ signed s (inUnits c' q' b64.qmin) = n * ((2 ^ (e + 1074).toNat : Nat) : Int) := by
  have h1 : inUnits c q b64.qmin = n.natAbs * 2 ^ (e + 1074).toNat := by
    rw [← own_signed_abs s (inUnits c q b64.qmin), h, Int.natAbs_mul, Int.natAbs_natCast]
  have h2 : inUnits c q (-2148) = n.natAbs * 2 ^ (e + 2148).toNat := by
    rw [inUnits_move c (r := b64.qmin) (by rw [qmin_b64]; omega) (by rw [qmin_b64]; omega), h1, qmin_b64, Nat.mul_assoc, ← Nat.pow_add]
    congr 2; omega
  obtain ⟨c', q', h3, h4⟩ := own_round (s := s) (by omega) hn he1 he2 h2
  exact ⟨c', q', h3, by rw [h4, ← h1, h]⟩
theorem own_add {x y : UInt64} {m n e : Int} (hx : own_Is x m e) (hy : own_Is y n e) (he : e ≤ 971) (hb : (m + n).natAbs < 9007199254740992) : own_Is (dadd x y) (m + n) e := by
  have he1 := hx.2.1
  obtain ⟨s, c, q, vx, fx, zx, -⟩ := own_fin_split hx
  obtain ⟨t, d, r, vy, fy, zy, -⟩ := own_fin_split hy
  obtain ⟨sg, N, E, h1, h2, h3⟩ := sum_units fx fy
  have h4 : signed sg (inUnits N E b64.qmin) = (m + n) * ((2 ^ (e + 1074).toNat : Nat) : Int) := by
    rw [h3, Int.add_mul, ← zx, ← zy]; rfl
  obtain ⟨c', q', h5, h6⟩ := own_sum (by rw [qmin_b64] at h2; exact h2) hb he1 he h4
  exact own_Is_of (by rw [val64_dadd, vx, vy, h1, h5]) he1 h6
theorem own_sub {x y : UInt64} {m n e : Int} (hx : own_Is x m e) (hy : own_Is y n e) (he : e ≤ 971) (hb : (m - n).natAbs < 9007199254740992) : own_Is (dsub x y) (m - n) e := by
  have he1 := hx.2.1
  obtain ⟨s, c, q, vx, fx, zx, -⟩ := own_fin_split hx
  obtain ⟨t, d, r, vy, fy, zy, -⟩ := own_fin_split hy
  have fy' : Jvm.FP.Core.fits b64 (.fin (!t) d r) := fy
  obtain ⟨sg, N, E, h1, h2, h3⟩ := sum_units (t := !t) fx fy'
  have h4 : signed sg (inUnits N E b64.qmin) = (m - n) * ((2 ^ (e + 1074).toNat : Nat) : Int) := by
    rw [h3, Int.sub_mul, ← zx, ← zy]
    show signed s (inUnits c q b64.qmin) + signed (!t) (inUnits d r b64.qmin) = _
    rw [signed_not]; omega
  obtain ⟨c', q', h5, h6⟩ := own_sum (by rw [qmin_b64] at h2; exact h2) hb he1 he h4
  refine own_Is_of (s := sg) (c := c') (q := q') ?_ he1 h6
  rw [val64_dsub, vx, vy]
  show round b64 (exactSum (.fin s c q) (.fin (!t) d r)) = _
  rw [h1, h5]
theorem own_mul {x y : UInt64} {m n e1 e2 e : Int} (hx : own_Is x m e1) (hy : own_Is y n e2) (hee : e1 + e2 = e) (he1 : -1074 ≤ e) (he2 : e ≤ 971) (hb : (m * n).natAbs < 9007199254740992) : own_Is (dmul x y) (m * n) e := by
  subst hee
  have hx1 := hx.2.1
  have hy1 := hy.2.1
  obtain ⟨s, c, q, vx, fx, zx, qx⟩ := own_fin_split hx
  obtain ⟨t, d, r, vy, fy, zy, qy⟩ := own_fin_split hy
  obtain ⟨h1, h2, h3⟩ := product_units fx fy
  have hs : signed (s != t) (inUnits (c * d) (q + r) (-2148)) = (m * n) * ((2 ^ (e1 + e2 + 2148).toNat : Nat) : Int) := by
    have h4 : inUnits (c * d) (q + r) (-2148) = inUnits c q b64.qmin * inUnits d r b64.qmin := by
      have := h3
      rw [qmin_b64] at this ⊢
      exact this
    rw [h4, own_signed_mul, zx, zy, show (e1 + e2 + 2148).toNat = (e1 + 1074).toNat + (e2 + 1074).toNat by omega, Nat.pow_add, Int.natCast_mul]
    simp only [Int.mul_assoc, Int.mul_left_comm, Int.mul_comm]
  have h5 : inUnits (c * d) (q + r) (-2148) = (m * n).natAbs * 2 ^ (e1 + e2 + 2148).toNat := by
    rw [← own_signed_abs (s != t) (inUnits (c * d) (q + r) (-2148)), hs, Int.natAbs_mul, Int.natAbs_natCast]
  obtain ⟨c', q', h6, h7⟩ := own_round (s := (s != t)) (by omega) hb he1 he2 h5
  refine own_Is_of (s := (s != t)) (c := c') (q := q') (by rw [val64_dmul, vx, vy, h1, h6]) he1 ?_
  rw [h5, own_signed_scale] at hs
  have h8 : signed (s != t) (m * n).natAbs = m * n := Int.eq_of_mul_eq_mul_right (by have := Nat.two_pow_pos (e1 + e2 + 2148).toNat; omega) hs
  rw [h7, own_signed_scale, h8]
/-- the quotient of two exact doubles is the rounded ratio of their numbers -/
theorem own_divR {x y : UInt64} {m n e1 e2 : Int} (hx : own_Is x m e1) (hy : own_Is y n e2) (hn : n ≠ 0) :
    val64 (ddiv x y) = roundRatio b64 (sgn (val64 x) != sgn (val64 y)) m.natAbs n.natAbs (e1 - e2) ∧ signed (sgn (val64 x)) m.natAbs = m ∧ signed (sgn (val64 y)) n.natAbs = n := by
  have hx1 := hx.2.1
  have hy1 := hy.2.1
  obtain ⟨s, c, q, vx, fx, zx, qx⟩ := own_fin_split hx
  obtain ⟨t, d, r, vy, fy, zy, qy⟩ := own_fin_split hy
  have ax : inUnits c q b64.qmin = m.natAbs * 2 ^ (e1 + 1074).toNat := by
    rw [← own_signed_abs s (inUnits c q b64.qmin), zx, Int.natAbs_mul, Int.natAbs_natCast]
  have ay : inUnits d r b64.qmin = n.natAbs * 2 ^ (e2 + 1074).toNat := by
    rw [← own_signed_abs t (inUnits d r b64.qmin), zy, Int.natAbs_mul, Int.natAbs_natCast]
  have sx : signed s m.natAbs = m := by
    rw [ax, own_signed_scale] at zx
    exact Int.eq_of_mul_eq_mul_right (by have := Nat.two_pow_pos (e1 + 1074).toNat; omega) zx
  have sy : signed t n.natAbs = n := by
    rw [ay, own_signed_scale] at zy
    exact Int.eq_of_mul_eq_mul_right (by have := Nat.two_pow_pos (e2 + 1074).toNat; omega) zy
  have nn : n.natAbs ≠ 0 := by omega
  have hd : d ≠ 0 := by
    rintro rfl
    have : n.natAbs * 2 ^ (e2 + 1074).toNat = 0 := by rw [← ay]; unfold inUnits; simp
    rcases Nat.mul_eq_zero.mp this with h | h
    · exact nn h
    · have := Nat.two_pow_pos (e2 + 1074).toNat; omega
  refine ⟨?_, by rw [vx]; exact sx, by rw [vy]; exact sy⟩
  rw [val64_ddiv, vx, vy]
  show (if d = 0 then _ else roundRatio b64 (s != t) c d (q - r)) = roundRatio b64 (s != t) _ _ _
  rw [if_neg hd]
  refine roundRatio_congr (by omega) (by omega) ?_
  unfold inUnits at ax ay
  rw [qmin_b64] at ax ay
  have key : c * n.natAbs * 2 ^ ((q - -1074).toNat + (e2 + 1074).toNat) = m.natAbs * d * 2 ^ ((e1 + 1074).toNat + (r - -1074).toNat) := by
    have e3 : c * n.natAbs * 2 ^ ((q - -1074).toNat + (e2 + 1074).toNat) = (c * 2 ^ (q - -1074).toNat) * (n.natAbs * 2 ^ (e2 + 1074).toNat) := by
      rw [Nat.pow_add]; simp only [Nat.mul_assoc, Nat.mul_left_comm, Nat.mul_comm]
    rw [e3, ax, ← ay, Nat.pow_add]
    simp only [Nat.mul_assoc, Nat.mul_left_comm, Nat.mul_comm]
  have h4 := own_powc key (w := (q - r) - (e1 - e2)) (by omega)
  rw [h4, show -((q - r) - (e1 - e2)) = (e1 - e2) - (q - r) by omega]
theorem own_div {x y : UInt64} {m n N e1 e2 e : Int} (hx : own_Is x m e1) (hy : own_Is y n e2) (hn : n ≠ 0) (hm : m = N * n) (hee : e1 - e2 = e) (he1 : -1074 ≤ e) (he2 : e ≤ 971) (hb : N.natAbs < 9007199254740992) : own_Is (ddiv x y) N e := by
  subst hee
  obtain ⟨h1, h2, h3⟩ := own_divR hx hy hn
  have hq : b64.qmin = -1074 := qmin_b64
  obtain ⟨c', q', h5, h6⟩ := round_exact good_b64 (sgn (val64 x) != sgn (val64 y)) (c := N.natAbs) (q := e1 - e2) (show _ < 2 ^ 53 from hb) (by rw [hq]; omega) (by rw [own_qmax]; omega)
  refine own_Is_of (s := (sgn (val64 x) != sgn (val64 y))) (c := c') (q := q') ?_ he1 ?_
  · rw [h1, ← h5]
    show roundRatio _ _ _ _ _ = roundRatio b64 (sgn (val64 x) != sgn (val64 y)) N.natAbs 1 (e1 - e2)
    refine roundRatio_congr (by omega) (by decide) ?_
    rw [hm, Int.natAbs_mul]; simp
  · rw [h6]; unfold inUnits
    rw [hq, show e1 - e2 - -1074 = e1 - e2 + 1074 by omega, own_signed_scale]
    congr 1
    have h7 := own_signed_mul (sgn (val64 x)) (sgn (val64 y)) N.natAbs (n.natAbs * n.natAbs)
    have h8 : signed (sgn (val64 x) != sgn (val64 y)) (m.natAbs * n.natAbs) = m * n := by rw [own_signed_mul, h2, h3]
    rw [hm, Int.natAbs_mul, Nat.mul_assoc, own_signed_scale] at h8
    have h9 : ((n.natAbs * n.natAbs : Nat) : Int) = n * n := Int.natAbs_mul_self
    rw [h9, Int.mul_assoc] at h8
    refine Int.eq_of_mul_eq_mul_right ?_ h8
    intro h0
    rcases Int.mul_eq_zero.mp h0 with h | h <;> exact hn h
theorem own_shift {x : UInt64} {n e e' : Int} (j : Nat) (hx : own_Is x n e) (hj : e' = e - j) (he : -1074 ≤ e') : own_Is x (n * (2 ^ j : Nat)) e' := by
  subst hj
  refine ⟨hx.1, he, ?_⟩
  rw [hx.2.2, show (e + 1074).toNat = j + (e - j + 1074).toNat by omega, Nat.pow_add, Int.natCast_mul, ← Int.mul_assoc]
theorem own_nn {x : UInt64} {n e : Int} (h : own_Is x n e) : Jvm.Free.Fl.NoNaN64 x := Jvm.Free.Fl.noNaN64_no.mpr h.1.notNaN
theorem own_cmp {x y : UInt64} {m n e : Int} (hx : own_Is x m e) (hy : own_Is y n e) : dcmp x y = some (compare m n) := by
  rw [dcmp_zval hx.1.ne_nan hy.1.ne_nan, hx.2.2, hy.2.2]
  have hp : (0 : Int) < ((2 ^ (e + 1074).toNat : Nat) : Int) := by have := Nat.two_pow_pos (e + 1074).toNat; omega
  congr 1
  refine compare_congr ⟨fun h => Int.lt_of_mul_lt_mul_right h (Int.le_of_lt hp), fun h => Int.mul_lt_mul_of_pos_right h hp⟩ ⟨fun h => Int.eq_of_mul_eq_mul_right (Int.ne_of_gt hp) h, fun h => by rw [h]⟩
theorem own_i2d (a : Int32) : own_Is (i2d a) a.toInt 0 := by
  have h := i2d_int a
  refine ⟨?_, by decide, ?_⟩
  · rw [i2d_l2d]; exact l2d_fin _
  · rw [DInt_zval h]; rfl
theorem own_l2d {a : Int64} (h : a.toInt.natAbs ≤ 9007199254740992) : own_Is (l2d a) a.toInt 0 := by
  have h := l2d_int (a := a) h
  exact ⟨l2d_fin _, by decide, by rw [DInt_zval h]; rfl⟩
/-- with a bound on the number -/
def own_B (x : UInt64) (n e B : Int) : Prop := own_Is x n e ∧ -B ≤ n ∧ n ≤ B
theorem own_B.is {x : UInt64} {n e B : Int} (h : own_B x n e B) : own_Is x n e := h.1
theorem own_B.nn {x : UInt64} {n e B : Int} (h : own_B x n e B) : Jvm.Free.Fl.NoNaN64 x := own_nn h.1
theorem own_Badd {x y : UInt64} {m n e A B : Int} (hx : own_B x m e A) (hy : own_B y n e B) (h : (decide (e ≤ 971) && decide (A + B < 9007199254740992)) = true) : own_B (dadd x y) (m + n) e (A + B) := by
  simp only [Bool.and_eq_true, decide_eq_true_eq] at h
  have := hx.2; have := hy.2
  exact ⟨own_add hx.1 hy.1 h.1 (by omega), by omega, by omega⟩
theorem own_Bsub {x y : UInt64} {m n e A B : Int} (hx : own_B x m e A) (hy : own_B y n e B) (h : (decide (e ≤ 971) && decide (A + B < 9007199254740992)) = true) : own_B (dsub x y) (m - n) e (A + B) := by
  simp only [Bool.and_eq_true, decide_eq_true_eq] at h
  have := hx.2; have := hy.2
  exact ⟨own_sub hx.1 hy.1 h.1 (by omega), by omega, by omega⟩
theorem own_bmul {m n A B : Int} (hm : -A ≤ m ∧ m ≤ A) (hn : -B ≤ n ∧ n ≤ B) : -(A * B) ≤ m * n ∧ m * n ≤ A * B := by
  have h : (m * n).natAbs ≤ A.toNat * B.toNat := by rw [Int.natAbs_mul]; exact Nat.mul_le_mul (by omega) (by omega)
  have h2 : ((A.toNat * B.toNat : Nat) : Int) = A * B := by rw [Int.natCast_mul, Int.toNat_of_nonneg (by omega), Int.toNat_of_nonneg (by omega)]
  omega
theorem own_Bmul {x y : UInt64} {m n e1 e2 A B : Int} (hx : own_B x m e1 A) (hy : own_B y n e2 B) (h : (decide (-1074 ≤ e1 + e2) && decide (e1 + e2 ≤ 971) && decide (A * B < 9007199254740992)) = true) : own_B (dmul x y) (m * n) (e1 + e2) (A * B) := by
  simp only [Bool.and_eq_true, decide_eq_true_eq] at h
  have hb := own_bmul hx.2 hy.2
  exact ⟨own_mul hx.1 hy.1 rfl h.1.1 h.1.2 (by omega), hb⟩
/-- an exact quotient by a power of two (n = 1 in y = 1 * 2^e2) -/
theorem own_Bdiv {x y : UInt64} {m e1 e2 A : Int} (hx : own_B x m e1 A) (hy : own_Is y 1 e2) (h : (decide (-1074 ≤ e1 - e2) && decide (e1 - e2 ≤ 971) && decide (A < 9007199254740992)) = true) : own_B (ddiv x y) m (e1 - e2) A := by
  simp only [Bool.and_eq_true, decide_eq_true_eq] at h
  have := hx.2
  exact ⟨own_div hx.1 hy (by decide) (Int.mul_one _).symm rfl h.1.1 h.1.2 (by omega), hx.2⟩
theorem own_Bshift {x : UInt64} {n e A : Int} (j : Nat) (P : Int) (hx : own_B x n e A) (h : (decide (-1074 ≤ e - j) && decide (((2 ^ j : Nat) : Int) = P)) = true) : own_B x (n * P) (e - j) (A * P) := by
  simp only [Bool.and_eq_true, decide_eq_true_eq] at h
  obtain ⟨h, rfl⟩ := h
  refine ⟨own_shift j hx.1 rfl h, ?_⟩
  have hp : (0 : Int) ≤ (2 ^ j : Nat) := Int.natCast_nonneg _
  have := hx.2
  constructor
  · rw [← Int.neg_mul]; exact Int.mul_le_mul_of_nonneg_right this.1 hp
  · exact Int.mul_le_mul_of_nonneg_right this.2 hp
theorem own_Bcast {x : UInt64} {n n' e e' A A' : Int} (h : own_B x n e A) (hn : n = n') (he : e = e') (hA : A ≤ A') : own_B x n' e' A' := by
  subst hn he; exact ⟨h.1, by have := h.2; omega, by have := h.2; omega⟩
theorem own_eq0 {x y : UInt64} {m n e : Int} (hx : own_Is x m e) (hy : own_Is y n e) (h : m = n) (o : ClassFile.CmpOp) : Op.cmpValue (Jvm.FP.dcmp x y) o = 0 := by
  show Op.cmpValue (dcmp x y) o = 0
  subst h
  rw [own_cmp hx hy, show compare m m = .eq from (compare_eq_iff m m).mpr rfl]; cases o <;> rfl
theorem own_cmpv {x y : UInt64} {m n e : Int} (hx : own_Is x m e) (hy : own_Is y n e) (o : ClassFile.CmpOp) : (m < n → Op.cmpValue (Jvm.FP.dcmp x y) o = -1) ∧ (m = n → Op.cmpValue (Jvm.FP.dcmp x y) o = 0) ∧ (n < m → Op.cmpValue (Jvm.FP.dcmp x y) o = 1) := by
  refine ⟨fun h => ?_, fun h => own_eq0 hx hy h o, fun h => ?_⟩
  · show Op.cmpValue (dcmp x y) o = -1
    rw [own_cmp hx hy, (compare_lt_iff m n).mpr h]; cases o <;> rfl
  · show Op.cmpValue (dcmp x y) o = 1
    rw [own_cmp hx hy, (compare_gt_iff m n).mpr h]; cases o <;> rfl
theorem own_one : own_Is 4607182418800017408 1 0 := ⟨(fin_bits _).mpr (by decide), by decide, by decide +kernel⟩
theorem own_zero : own_Is 0 0 0 := ⟨(fin_bits _).mpr (by decide), by decide, by decide +kernel⟩
/-! ints and longs with their numbers and bounds -/
def own_I (v : Int32) (n B : Int) : Prop := v.toInt = n ∧ -B ≤ n ∧ n ≤ B
def own_L (v : Int64) (n B : Int) : Prop := v.toInt = n ∧ -B ≤ n ∧ n ≤ B
theorem own_Iadd {a b v : Int32} {m n A B : Int} (hv : a + b = v) (ha : own_I a m A) (hb : own_I b n B) (h : decide (A + B < 2147483648) = true) : own_I v (m + n) (A + B) := by
  subst hv; simp only [decide_eq_true_eq] at h; obtain ⟨rfl, h1, h2⟩ := ha; obtain ⟨rfl, h3, h4⟩ := hb
  exact ⟨by rw [Int32.toInt_add]; exact Int.bmod_eq_of_le (by omega) (by omega), by omega, by omega⟩
theorem own_Isub {a b v : Int32} {m n A B : Int} (hv : a - b = v) (ha : own_I a m A) (hb : own_I b n B) (h : decide (A + B < 2147483648) = true) : own_I v (m - n) (A + B) := by
  subst hv; simp only [decide_eq_true_eq] at h; obtain ⟨rfl, h1, h2⟩ := ha; obtain ⟨rfl, h3, h4⟩ := hb
  exact ⟨by rw [Int32.toInt_sub]; exact Int.bmod_eq_of_le (by omega) (by omega), by omega, by omega⟩
theorem own_Imul {a b v : Int32} {m n A B : Int} (hv : a * b = v) (ha : own_I a m A) (hb : own_I b n B) (h : decide (A * B < 2147483648) = true) : own_I v (m * n) (A * B) := by
  subst hv; simp only [decide_eq_true_eq] at h; obtain ⟨rfl, h1⟩ := ha; obtain ⟨rfl, h3⟩ := hb
  have hb := own_bmul h1 h3
  exact ⟨by rw [Int32.toInt_mul]; exact Int.bmod_eq_of_le (by omega) (by omega), hb⟩
theorem own_Ladd {a b v : Int64} {m n A B : Int} (hv : a + b = v) (ha : own_L a m A) (hb : own_L b n B) (h : decide (A + B < 9223372036854775808) = true) : own_L v (m + n) (A + B) := by
  subst hv; simp only [decide_eq_true_eq] at h; obtain ⟨rfl, h1, h2⟩ := ha; obtain ⟨rfl, h3, h4⟩ := hb
  exact ⟨by rw [Int64.toInt_add]; exact Int.bmod_eq_of_le (by omega) (by omega), by omega, by omega⟩
theorem own_Lsub {a b v : Int64} {m n A B : Int} (hv : a - b = v) (ha : own_L a m A) (hb : own_L b n B) (h : decide (A + B < 9223372036854775808) = true) : own_L v (m - n) (A + B) := by
  subst hv; simp only [decide_eq_true_eq] at h; obtain ⟨rfl, h1, h2⟩ := ha; obtain ⟨rfl, h3, h4⟩ := hb
  exact ⟨by rw [Int64.toInt_sub]; exact Int.bmod_eq_of_le (by omega) (by omega), by omega, by omega⟩
theorem own_Lmul {a b v : Int64} {m n A B : Int} (hv : a * b = v) (ha : own_L a m A) (hb : own_L b n B) (h : decide (A * B < 9223372036854775808) = true) : own_L v (m * n) (A * B) := by
  subst hv; simp only [decide_eq_true_eq] at h; obtain ⟨rfl, h1⟩ := ha; obtain ⟨rfl, h3⟩ := hb
  have hb := own_bmul h1 h3
  exact ⟨by rw [Int64.toInt_mul]; exact Int.bmod_eq_of_le (by omega) (by omega), hb⟩
theorem own_Ii2l {a : Int32} {v : Int64} {m A : Int} (hv : Int32.toInt64 a = v) (ha : own_I a m A) : own_L v m A := by
  subst hv; exact ⟨by rw [Int32.toInt_toInt64]; exact ha.1, ha.2⟩
theorem own_Icast {v : Int32} {n n' A A' : Int} (h : own_I v n A) (hn : n = n') (hA : A ≤ A') : own_I v n' A' := by
  subst hn; exact ⟨h.1, by have := h.2; omega, by have := h.2; omega⟩
theorem own_Lcast {v : Int64} {n n' A A' : Int} (h : own_L v n A) (hn : n = n') (hA : A ≤ A') : own_L v n' A' := by
  subst hn; exact ⟨h.1, by have := h.2; omega, by have := h.2; omega⟩
theorem own_Bi2d {v : Int32} {n A : Int} (h : own_I v n A) : own_B (i2d v) n 0 A := by
  obtain ⟨rfl, h1⟩ := h; exact ⟨own_i2d v, h1⟩
theorem own_Bl2d {v : Int64} {n A : Int} (h : own_L v n A) (hA : decide (A ≤ 9007199254740992) = true) : own_B (l2d v) n 0 A := by
  simp only [decide_eq_true_eq] at hA; obtain ⟨rfl, h1⟩ := h; exact ⟨own_l2d (by omega), h1⟩
theorem own_Irng (v : Int32) : own_I v v.toInt 2147483648 := ⟨rfl, by have := Jvm.RoadKit.rng32 v; omega, by have := Jvm.RoadKit.rng32 v; omega⟩
theorem own_Iand {x m v : Int32} {B : Int} (hv : x &&& m = v) (hB : m.toInt = B) (h0 : 0 ≤ B) : own_I v v.toInt B := by
  have := Jvm.RoadKit.c_and x m (by omega); rw [hv] at this; exact ⟨rfl, by omega, by omega⟩
end OwnFP
section OwnStep
open Jvm Jvm.ClassFile Sem Op Lib Jvm.Free Jvm.Stand Jvm.LawKit Jvm.RoadKit
variable {tb : Tables} [Ours tb] {e : Env} {below : List Frame} {T target : State} {m : MethodId} {c : Code} {pc pc' : Nat} {L : Array Slot} {S : List Value}
theorem own_s_iadd (h : At T m c below) (hx : tb.exec = Jvm.exec) {x y v : Int32} (hd : decode c.code pc = .ok (.iadd, 1)) (hp : pc + 1 = pc') (hv : x + y = v)
    (hr : Steps tb e below (T.setTop (mkF m pc' L (.int v :: S))) target) : Steps tb e below (T.setTop (mkF m pc L (.int y :: .int x :: S))) target := by
  subst hv hp; exact XS.iadd h hx rfl hd rfl hr
theorem own_s_ladd (h : At T m c below) (hx : tb.exec = Jvm.exec) {x y v : Int64} (hd : decode c.code pc = .ok (.ladd, 1)) (hp : pc + 1 = pc') (hv : x + y = v)
    (hr : Steps tb e below (T.setTop (mkF m pc' L (.long v :: S))) target) : Steps tb e below (T.setTop (mkF m pc L (.long y :: .long x :: S))) target := by
  subst hv hp; exact XS.ladd h hx rfl hd rfl hr
theorem own_s_isub (h : At T m c below) (hx : tb.exec = Jvm.exec) {x y v : Int32} (hd : decode c.code pc = .ok (.isub, 1)) (hp : pc + 1 = pc') (hv : x - y = v)
    (hr : Steps tb e below (T.setTop (mkF m pc' L (.int v :: S))) target) : Steps tb e below (T.setTop (mkF m pc L (.int y :: .int x :: S))) target := by
  subst hv hp; exact XS.isub h hx rfl hd rfl hr
theorem own_s_lsub (h : At T m c below) (hx : tb.exec = Jvm.exec) {x y v : Int64} (hd : decode c.code pc = .ok (.lsub, 1)) (hp : pc + 1 = pc') (hv : x - y = v)
    (hr : Steps tb e below (T.setTop (mkF m pc' L (.long v :: S))) target) : Steps tb e below (T.setTop (mkF m pc L (.long y :: .long x :: S))) target := by
  subst hv hp; exact XS.lsub h hx rfl hd rfl hr
theorem own_s_imul (h : At T m c below) (hx : tb.exec = Jvm.exec) {x y v : Int32} (hd : decode c.code pc = .ok (.imul, 1)) (hp : pc + 1 = pc') (hv : x * y = v)
    (hr : Steps tb e below (T.setTop (mkF m pc' L (.int v :: S))) target) : Steps tb e below (T.setTop (mkF m pc L (.int y :: .int x :: S))) target := by
  subst hv hp; exact XS.imul h hx rfl hd rfl hr
theorem own_s_lmul (h : At T m c below) (hx : tb.exec = Jvm.exec) {x y v : Int64} (hd : decode c.code pc = .ok (.lmul, 1)) (hp : pc + 1 = pc') (hv : x * y = v)
    (hr : Steps tb e below (T.setTop (mkF m pc' L (.long v :: S))) target) : Steps tb e below (T.setTop (mkF m pc L (.long y :: .long x :: S))) target := by
  subst hv hp; exact XS.lmul h hx rfl hd rfl hr
theorem own_s_iand (h : At T m c below) (hx : tb.exec = Jvm.exec) {x y v : Int32} (hd : decode c.code pc = .ok (.iand, 1)) (hp : pc + 1 = pc') (hv : x &&& y = v)
    (hr : Steps tb e below (T.setTop (mkF m pc' L (.int v :: S))) target) : Steps tb e below (T.setTop (mkF m pc L (.int y :: .int x :: S))) target := by
  subst hv hp; exact XS.iand h hx rfl hd rfl hr
theorem own_s_land (h : At T m c below) (hx : tb.exec = Jvm.exec) {x y v : Int64} (hd : decode c.code pc = .ok (.land, 1)) (hp : pc + 1 = pc') (hv : x &&& y = v)
    (hr : Steps tb e below (T.setTop (mkF m pc' L (.long v :: S))) target) : Steps tb e below (T.setTop (mkF m pc L (.long y :: .long x :: S))) target := by
  subst hv hp; exact XS.land h hx rfl hd rfl hr
theorem own_s_ior (h : At T m c below) (hx : tb.exec = Jvm.exec) {x y v : Int32} (hd : decode c.code pc = .ok (.ior, 1)) (hp : pc + 1 = pc') (hv : x ||| y = v)
    (hr : Steps tb e below (T.setTop (mkF m pc' L (.int v :: S))) target) : Steps tb e below (T.setTop (mkF m pc L (.int y :: .int x :: S))) target := by
  subst hv hp; exact XS.ior h hx rfl hd rfl hr
theorem own_s_lor (h : At T m c below) (hx : tb.exec = Jvm.exec) {x y v : Int64} (hd : decode c.code pc = .ok (.lor, 1)) (hp : pc + 1 = pc') (hv : x ||| y = v)
    (hr : Steps tb e below (T.setTop (mkF m pc' L (.long v :: S))) target) : Steps tb e below (T.setTop (mkF m pc L (.long y :: .long x :: S))) target := by
  subst hv hp; exact XS.lor h hx rfl hd rfl hr
theorem own_s_ixor (h : At T m c below) (hx : tb.exec = Jvm.exec) {x y v : Int32} (hd : decode c.code pc = .ok (.ixor, 1)) (hp : pc + 1 = pc') (hv : x ^^^ y = v)
    (hr : Steps tb e below (T.setTop (mkF m pc' L (.int v :: S))) target) : Steps tb e below (T.setTop (mkF m pc L (.int y :: .int x :: S))) target := by
  subst hv hp; exact XS.ixor h hx rfl hd rfl hr
theorem own_s_lxor (h : At T m c below) (hx : tb.exec = Jvm.exec) {x y v : Int64} (hd : decode c.code pc = .ok (.lxor, 1)) (hp : pc + 1 = pc') (hv : x ^^^ y = v)
    (hr : Steps tb e below (T.setTop (mkF m pc' L (.long v :: S))) target) : Steps tb e below (T.setTop (mkF m pc L (.long y :: .long x :: S))) target := by
  subst hv hp; exact XS.lxor h hx rfl hd rfl hr
theorem own_s_idiv (h : At T m c below) (hx : tb.exec = Jvm.exec) {x y v : Int32} (hd : decode c.code pc = .ok (.idiv, 1)) (hp : pc + 1 = pc') (hy : y ≠ 0) (hv : x / y = v)
    (hr : Steps tb e below (T.setTop (mkF m pc' L (.int v :: S))) target) : Steps tb e below (T.setTop (mkF m pc L (.int y :: .int x :: S))) target := by
  subst hv hp; exact XS.idiv h hx rfl hd rfl hy hr
theorem own_s_irem (h : At T m c below) (hx : tb.exec = Jvm.exec) {x y v : Int32} (hd : decode c.code pc = .ok (.irem, 1)) (hp : pc + 1 = pc') (hy : y ≠ 0) (hv : x % y = v)
    (hr : Steps tb e below (T.setTop (mkF m pc' L (.int v :: S))) target) : Steps tb e below (T.setTop (mkF m pc L (.int y :: .int x :: S))) target := by
  subst hv hp; rw [← irem_eq_mod] at hr; exact XS.irem h hx rfl hd rfl hy hr
theorem own_s_ldiv (h : At T m c below) (hx : tb.exec = Jvm.exec) {x y v : Int64} (hd : decode c.code pc = .ok (.ldiv, 1)) (hp : pc + 1 = pc') (hy : y ≠ 0) (hv : x / y = v)
    (hr : Steps tb e below (T.setTop (mkF m pc' L (.long v :: S))) target) : Steps tb e below (T.setTop (mkF m pc L (.long y :: .long x :: S))) target := by
  subst hv hp; exact XS.ldiv h hx rfl hd rfl hy hr
theorem own_s_lrem (h : At T m c below) (hx : tb.exec = Jvm.exec) {x y v : Int64} (hd : decode c.code pc = .ok (.lrem, 1)) (hp : pc + 1 = pc') (hy : y ≠ 0) (hv : x % y = v)
    (hr : Steps tb e below (T.setTop (mkF m pc' L (.long v :: S))) target) : Steps tb e below (T.setTop (mkF m pc L (.long y :: .long x :: S))) target := by
  subst hv hp; rw [← lrem_mod] at hr; exact XS.lrem h hx rfl hd rfl hy hr
theorem own_s_ishl (h : At T m c below) (hx : tb.exec = Jvm.exec) {x y v : Int32} (hd : decode c.code pc = .ok (.ishl, 1)) (hp : pc + 1 = pc') (hv : x <<< (y &&& 31) = v)
    (hr : Steps tb e below (T.setTop (mkF m pc' L (.int v :: S))) target) : Steps tb e below (T.setTop (mkF m pc L (.int y :: .int x :: S))) target := by
  subst hv hp; exact XS.ishl h hx rfl hd rfl hr
theorem own_s_ishr (h : At T m c below) (hx : tb.exec = Jvm.exec) {x y v : Int32} (hd : decode c.code pc = .ok (.ishr, 1)) (hp : pc + 1 = pc') (hv : x >>> (y &&& 31) = v)
    (hr : Steps tb e below (T.setTop (mkF m pc' L (.int v :: S))) target) : Steps tb e below (T.setTop (mkF m pc L (.int y :: .int x :: S))) target := by
  subst hv hp; exact XS.ishr h hx rfl hd rfl hr
theorem own_s_iushr (h : At T m c below) (hx : tb.exec = Jvm.exec) {x y v : Int32} (hd : decode c.code pc = .ok (.iushr, 1)) (hp : pc + 1 = pc') (hv : (x.toUInt32 >>> (y &&& 31).toUInt32).toInt32 = v)
    (hr : Steps tb e below (T.setTop (mkF m pc' L (.int v :: S))) target) : Steps tb e below (T.setTop (mkF m pc L (.int y :: .int x :: S))) target := by
  subst hv hp; exact XS.iushr h hx rfl hd rfl hr
theorem own_s_lshl (h : At T m c below) (hx : tb.exec = Jvm.exec) {x v : Int64} {y : Int32} (hd : decode c.code pc = .ok (.lshl, 1)) (hp : pc + 1 = pc') (hv : x <<< (y &&& 63).toInt64 = v)
    (hr : Steps tb e below (T.setTop (mkF m pc' L (.long v :: S))) target) : Steps tb e below (T.setTop (mkF m pc L (.int y :: .long x :: S))) target := by
  subst hv hp; exact XS.lshl h hx rfl hd rfl hr
theorem own_s_lshr (h : At T m c below) (hx : tb.exec = Jvm.exec) {x v : Int64} {y : Int32} (hd : decode c.code pc = .ok (.lshr, 1)) (hp : pc + 1 = pc') (hv : x >>> (y &&& 63).toInt64 = v)
    (hr : Steps tb e below (T.setTop (mkF m pc' L (.long v :: S))) target) : Steps tb e below (T.setTop (mkF m pc L (.int y :: .long x :: S))) target := by
  subst hv hp; exact XS.lshr h hx rfl hd rfl hr
theorem own_s_lushr (h : At T m c below) (hx : tb.exec = Jvm.exec) {x v : Int64} {y : Int32} (hd : decode c.code pc = .ok (.lushr, 1)) (hp : pc + 1 = pc') (hv : (x.toUInt64 >>> (y &&& 63).toInt64.toUInt64).toInt64 = v)
    (hr : Steps tb e below (T.setTop (mkF m pc' L (.long v :: S))) target) : Steps tb e below (T.setTop (mkF m pc L (.int y :: .long x :: S))) target := by
  subst hv hp; exact XS.lushr h hx rfl hd rfl hr
theorem own_s_i2l (h : At T m c below) (hx : tb.exec = Jvm.exec) {x : Int32} {v : Int64} (hd : decode c.code pc = .ok (.i2l, 1)) (hp : pc + 1 = pc') (hv : x.toInt64 = v)
    (hr : Steps tb e below (T.setTop (mkF m pc' L (.long v :: S))) target) : Steps tb e below (T.setTop (mkF m pc L (.int x :: S))) target := by
  subst hv hp; exact XS.i2l h hx rfl hd rfl hr
theorem own_s_l2i (h : At T m c below) (hx : tb.exec = Jvm.exec) {x : Int64} {v : Int32} (hd : decode c.code pc = .ok (.l2i, 1)) (hp : pc + 1 = pc') (hv : x.toInt32 = v)
    (hr : Steps tb e below (T.setTop (mkF m pc' L (.int v :: S))) target) : Steps tb e below (T.setTop (mkF m pc L (.long x :: S))) target := by
  subst hv hp; exact XS.l2i h hx rfl hd rfl hr
theorem own_s_i2b (h : At T m c below) (hx : tb.exec = Jvm.exec) {x : Int32} {v : Int32} (hd : decode c.code pc = .ok (.i2b, 1)) (hp : pc + 1 = pc') (hv : x.toInt8.toInt32 = v)
    (hr : Steps tb e below (T.setTop (mkF m pc' L (.int v :: S))) target) : Steps tb e below (T.setTop (mkF m pc L (.int x :: S))) target := by
  subst hv hp; exact XS.i2b h hx rfl hd rfl hr
theorem own_s_i2s (h : At T m c below) (hx : tb.exec = Jvm.exec) {x : Int32} {v : Int32} (hd : decode c.code pc = .ok (.i2s, 1)) (hp : pc + 1 = pc') (hv : x.toInt16.toInt32 = v)
    (hr : Steps tb e below (T.setTop (mkF m pc' L (.int v :: S))) target) : Steps tb e below (T.setTop (mkF m pc L (.int x :: S))) target := by
  subst hv hp; exact XS.i2s h hx rfl hd rfl hr
theorem own_s_ineg (h : At T m c below) (hx : tb.exec = Jvm.exec) {x : Int32} {v : Int32} (hd : decode c.code pc = .ok (.ineg, 1)) (hp : pc + 1 = pc') (hv : -x = v)
    (hr : Steps tb e below (T.setTop (mkF m pc' L (.int v :: S))) target) : Steps tb e below (T.setTop (mkF m pc L (.int x :: S))) target := by
  subst hv hp; exact XS.ineg h hx rfl hd rfl hr
theorem own_s_lneg (h : At T m c below) (hx : tb.exec = Jvm.exec) {x : Int64} {v : Int64} (hd : decode c.code pc = .ok (.lneg, 1)) (hp : pc + 1 = pc') (hv : -x = v)
    (hr : Steps tb e below (T.setTop (mkF m pc' L (.long v :: S))) target) : Steps tb e below (T.setTop (mkF m pc L (.long x :: S))) target := by
  subst hv hp; exact XS.lneg h hx rfl hd rfl hr
theorem own_s_i2d (h : At T m c below) (hx : tb.exec = Jvm.exec) {x : Int32} {v : UInt64} (hd : decode c.code pc = .ok (.i2d, 1)) (hp : pc + 1 = pc') (hv : FP.i2d x = v)
    (hr : Steps tb e below (T.setTop (mkF m pc' L (.double v :: S))) target) : Steps tb e below (T.setTop (mkF m pc L (.int x :: S))) target := by
  subst hv hp; exact XS.i2dS h hx rfl hd rfl rfl hr
theorem own_s_l2d (h : At T m c below) (hx : tb.exec = Jvm.exec) {x : Int64} {v : UInt64} (hd : decode c.code pc = .ok (.l2d, 1)) (hp : pc + 1 = pc') (hv : FP.l2d x = v)
    (hr : Steps tb e below (T.setTop (mkF m pc' L (.double v :: S))) target) : Steps tb e below (T.setTop (mkF m pc L (.long x :: S))) target := by
  subst hv hp; exact XS.l2dS h hx rfl hd rfl rfl hr
theorem own_s_dneg (h : At T m c below) (hx : tb.exec = Jvm.exec) {x : UInt64} {v : UInt64} (hd : decode c.code pc = .ok (.dneg, 1)) (hp : pc + 1 = pc') (hv : FP.dneg x = v)
    (hr : Steps tb e below (T.setTop (mkF m pc' L (.double v :: S))) target) : Steps tb e below (T.setTop (mkF m pc L (.double x :: S))) target := by
  subst hv hp; exact XS.dnegS h hx rfl hd rfl rfl hr
theorem own_s_dadd (h : At T m c below) (hx : tb.exec = Jvm.exec) {x y v : UInt64} (hd : decode c.code pc = .ok (.dadd, 1)) (hp : pc + 1 = pc') (hn : Jvm.Free.Fl.NoNaN64 (FP.dadd x y)) (hv : FP.dadd x y = v)
    (hr : Steps tb e below (T.setTop (mkF m pc' L (.double v :: S))) target) : Steps tb e below (T.setTop (mkF m pc L (.double y :: .double x :: S))) target := by
  subst hv hp; exact XS.daddS h hx rfl hd rfl hn rfl hr
theorem own_s_dsub (h : At T m c below) (hx : tb.exec = Jvm.exec) {x y v : UInt64} (hd : decode c.code pc = .ok (.dsub, 1)) (hp : pc + 1 = pc') (hn : Jvm.Free.Fl.NoNaN64 (FP.dsub x y)) (hv : FP.dsub x y = v)
    (hr : Steps tb e below (T.setTop (mkF m pc' L (.double v :: S))) target) : Steps tb e below (T.setTop (mkF m pc L (.double y :: .double x :: S))) target := by
  subst hv hp; exact XS.dsubS h hx rfl hd rfl hn rfl hr
theorem own_s_dmul (h : At T m c below) (hx : tb.exec = Jvm.exec) {x y v : UInt64} (hd : decode c.code pc = .ok (.dmul, 1)) (hp : pc + 1 = pc') (hn : Jvm.Free.Fl.NoNaN64 (FP.dmul x y)) (hv : FP.dmul x y = v)
    (hr : Steps tb e below (T.setTop (mkF m pc' L (.double v :: S))) target) : Steps tb e below (T.setTop (mkF m pc L (.double y :: .double x :: S))) target := by
  subst hv hp; exact XS.dmulS h hx rfl hd rfl hn rfl hr
theorem own_s_ddiv (h : At T m c below) (hx : tb.exec = Jvm.exec) {x y v : UInt64} (hd : decode c.code pc = .ok (.ddiv, 1)) (hp : pc + 1 = pc') (hn : Jvm.Free.Fl.NoNaN64 (FP.ddiv x y)) (hv : FP.ddiv x y = v)
    (hr : Steps tb e below (T.setTop (mkF m pc' L (.double v :: S))) target) : Steps tb e below (T.setTop (mkF m pc L (.double y :: .double x :: S))) target := by
  subst hv hp; exact XS.ddivS h hx rfl hd rfl hn rfl hr
theorem own_s_dcmp (h : At T m c below) (hx : tb.exec = Jvm.exec) {o : CmpOp} {x y : UInt64} {v : Int32} (hd : decode c.code pc = .ok (.dcmp o, 1)) (hp : pc + 1 = pc') (hv : Op.cmpValue (FP.dcmp x y) o = v)
    (hr : Steps tb e below (T.setTop (mkF m pc' L (.int v :: S))) target) : Steps tb e below (T.setTop (mkF m pc L (.double y :: .double x :: S))) target := by
  subst hv hp; exact XS.dcmpS h hx rfl hd rfl rfl hr
theorem own_s_lcmp (h : At T m c below) (hx : tb.exec = Jvm.exec) {x y : Int64} {v : Int32} (hd : decode c.code pc = .ok (.lcmp, 1)) (hp : pc + 1 = pc') (hv : lcmpW x y = v)
    (hr : Steps tb e below (T.setTop (mkF m pc' L (.int v :: S))) target) : Steps tb e below (T.setTop (mkF m pc L (.long y :: .long x :: S))) target := by
  subst hv hp; exact XS.lcmp h hx rfl hd rfl hr
theorem own_s_iconst (h : At T m c below) (hx : tb.exec = Jvm.exec) {i : Int} {v : Int32} (hd : decode c.code pc = .ok (.iconst i, 1)) (hp : pc + 1 = pc') (hv : Int32.ofInt i = v)
    (hr : Steps tb e below (T.setTop (mkF m pc' L (.int v :: S))) target) : Steps tb e below (T.setTop (mkF m pc L S)) target := by
  subst hv hp; exact XS.iconst h hx rfl hd hr
theorem own_s_bipush (h : At T m c below) (hx : tb.exec = Jvm.exec) {i : Int} {v : Int32} (hd : decode c.code pc = .ok (.bipush i, 2)) (hp : pc + 2 = pc') (hv : (Int8.ofInt i).toInt32 = v)
    (hr : Steps tb e below (T.setTop (mkF m pc' L (.int v :: S))) target) : Steps tb e below (T.setTop (mkF m pc L S)) target := by
  subst hv hp; exact XS.bipush h hx rfl hd hr
theorem own_s_sipush (h : At T m c below) (hx : tb.exec = Jvm.exec) {i : Int} {v : Int32} (hd : decode c.code pc = .ok (.sipush i, 3)) (hp : pc + 3 = pc') (hv : (Int16.ofInt i).toInt32 = v)
    (hr : Steps tb e below (T.setTop (mkF m pc' L (.int v :: S))) target) : Steps tb e below (T.setTop (mkF m pc L S)) target := by
  subst hv hp; exact XS.sipush h hx rfl hd hr
theorem own_s_lconst (h : At T m c below) (hx : tb.exec = Jvm.exec) {k : Fin 2} {v : Int64} (hd : decode c.code pc = .ok (.lconst k, 1)) (hp : pc + 1 = pc') (hv : Int64.ofNat k = v)
    (hr : Steps tb e below (T.setTop (mkF m pc' L (.long v :: S))) target) : Steps tb e below (T.setTop (mkF m pc L S)) target := by
  subst hv hp; exact XS.lconst h hx rfl hd hr
theorem own_s_dconst0 (h : At T m c below) (hx : tb.exec = Jvm.exec)  (hd : decode c.code pc = .ok (.dconst 0, 1)) (hp : pc + 1 = pc') 
    (hr : Steps tb e below (T.setTop (mkF m pc' L (.double 0 :: S))) target) : Steps tb e below (T.setTop (mkF m pc L S)) target := by
  subst hp; exact XS.dconst0 h hx rfl hd rfl hr
theorem own_s_dconst1 (h : At T m c below) (hx : tb.exec = Jvm.exec)  (hd : decode c.code pc = .ok (.dconst 1, 1)) (hp : pc + 1 = pc') 
    (hr : Steps tb e below (T.setTop (mkF m pc' L (.double 4607182418800017408 :: S))) target) : Steps tb e below (T.setTop (mkF m pc L S)) target := by
  subst hp; exact XS.dconst1 h hx rfl hd rfl hr
theorem own_s_aconst_null (h : At T m c below) (hx : tb.exec = Jvm.exec)  (hd : decode c.code pc = .ok (.aconst_null, 1)) (hp : pc + 1 = pc') 
    (hr : Steps tb e below (T.setTop (mkF m pc' L (.null :: S))) target) : Steps tb e below (T.setTop (mkF m pc L S)) target := by
  subst hp; exact XS.aconstNull h hx rfl hd hr
theorem own_s_dup (h : At T m c below) (hx : tb.exec = Jvm.exec) {x : Value} (hd : decode c.code pc = .ok (.dup, 1)) (hp : pc + 1 = pc') (hc : x.category = 1)
    (hr : Steps tb e below (T.setTop (mkF m pc' L (x :: x :: S))) target) : Steps tb e below (T.setTop (mkF m pc L (x :: S))) target := by
  subst hp; exact XS.dup h hx rfl hd rfl hc hr
theorem own_s_dupX1 (h : At T m c below) (hx : tb.exec = Jvm.exec) {x y : Value} (hd : decode c.code pc = .ok (.dup_x1, 1)) (hp : pc + 1 = pc') (hc : x.category = 1) (hc' : y.category = 1)
    (hr : Steps tb e below (T.setTop (mkF m pc' L (x :: y :: x :: S))) target) : Steps tb e below (T.setTop (mkF m pc L (x :: y :: S))) target := by
  subst hp; exact XS.dupX1 h hx rfl hd rfl hc hc' hr
theorem own_s_pop (h : At T m c below) (hx : tb.exec = Jvm.exec) {x : Value} (hd : decode c.code pc = .ok (.pop, 1)) (hp : pc + 1 = pc') (hc : x.category = 1)
    (hr : Steps tb e below (T.setTop (mkF m pc' L S)) target) : Steps tb e below (T.setTop (mkF m pc L (x :: S))) target := by
  subst hp; exact XS.pop h hx rfl hd rfl hc hr
theorem own_s_iloadN (h : At T m c below) (hx : tb.exec = Jvm.exec) {k : Fin 4} {v : Int32} (hd : decode c.code pc = .ok (.iload_n k, 1)) (hp : pc + 1 = pc') (hl : L[k.val]? = some (.val (.int v)))
    (hr : Steps tb e below (T.setTop (mkF m pc' L (.int v :: S))) target) : Steps tb e below (T.setTop (mkF m pc L S)) target := by
  subst hp; exact XS.iloadN h hx rfl hd hl hr
theorem own_s_iload (h : At T m c below) (hx : tb.exec = Jvm.exec) {k : Nat} {v : Int32} (hd : decode c.code pc = .ok (.iload k, 2)) (hp : pc + 2 = pc') (hl : L[k]? = some (.val (.int v)))
    (hr : Steps tb e below (T.setTop (mkF m pc' L (.int v :: S))) target) : Steps tb e below (T.setTop (mkF m pc L S)) target := by
  subst hp; exact XS.iload h hx rfl hd hl hr
theorem own_s_istoreN (h : At T m c below) (hx : tb.exec = Jvm.exec) {k : Fin 4} {v : Int32} {L' : Array Slot} (hd : decode c.code pc = .ok (.istore_n k, 1)) (hp : pc + 1 = pc') (hl : storeLocals L k.val (.int v) = some L')
    (hr : Steps tb e below (T.setTop (mkF m pc' L' S)) target) : Steps tb e below (T.setTop (mkF m pc L (.int v :: S))) target := by
  subst hp; exact XS.istoreN h hx rfl hd rfl hl hr
theorem own_s_istore (h : At T m c below) (hx : tb.exec = Jvm.exec) {k : Nat} {v : Int32} {L' : Array Slot} (hd : decode c.code pc = .ok (.istore k, 2)) (hp : pc + 2 = pc') (hl : storeLocals L k (.int v) = some L')
    (hr : Steps tb e below (T.setTop (mkF m pc' L' S)) target) : Steps tb e below (T.setTop (mkF m pc L (.int v :: S))) target := by
  subst hp; exact XS.istore h hx rfl hd rfl hl hr
theorem own_s_lloadN (h : At T m c below) (hx : tb.exec = Jvm.exec) {k : Fin 4} {v : Int64} (hd : decode c.code pc = .ok (.lload_n k, 1)) (hp : pc + 1 = pc') (hl : L[k.val]? = some (.val (.long v)))
    (hr : Steps tb e below (T.setTop (mkF m pc' L (.long v :: S))) target) : Steps tb e below (T.setTop (mkF m pc L S)) target := by
  subst hp; exact XS.lloadN h hx rfl hd hl hr
theorem own_s_lload (h : At T m c below) (hx : tb.exec = Jvm.exec) {k : Nat} {v : Int64} (hd : decode c.code pc = .ok (.lload k, 2)) (hp : pc + 2 = pc') (hl : L[k]? = some (.val (.long v)))
    (hr : Steps tb e below (T.setTop (mkF m pc' L (.long v :: S))) target) : Steps tb e below (T.setTop (mkF m pc L S)) target := by
  subst hp; exact XS.lload h hx rfl hd hl hr
theorem own_s_lstoreN (h : At T m c below) (hx : tb.exec = Jvm.exec) {k : Fin 4} {v : Int64} {L' : Array Slot} (hd : decode c.code pc = .ok (.lstore_n k, 1)) (hp : pc + 1 = pc') (hl : storeLocals L k.val (.long v) = some L')
    (hr : Steps tb e below (T.setTop (mkF m pc' L' S)) target) : Steps tb e below (T.setTop (mkF m pc L (.long v :: S))) target := by
  subst hp; exact XS.lstoreN h hx rfl hd rfl hl hr
theorem own_s_lstore (h : At T m c below) (hx : tb.exec = Jvm.exec) {k : Nat} {v : Int64} {L' : Array Slot} (hd : decode c.code pc = .ok (.lstore k, 2)) (hp : pc + 2 = pc') (hl : storeLocals L k (.long v) = some L')
    (hr : Steps tb e below (T.setTop (mkF m pc' L' S)) target) : Steps tb e below (T.setTop (mkF m pc L (.long v :: S))) target := by
  subst hp; exact XS.lstore h hx rfl hd rfl hl hr
theorem own_s_dloadN (h : At T m c below) (hx : tb.exec = Jvm.exec) {k : Fin 4} {v : UInt64} (hd : decode c.code pc = .ok (.dload_n k, 1)) (hp : pc + 1 = pc') (hl : L[k.val]? = some (.val (.double v)))
    (hr : Steps tb e below (T.setTop (mkF m pc' L (.double v :: S))) target) : Steps tb e below (T.setTop (mkF m pc L S)) target := by
  subst hp; exact XS.dloadN h hx rfl hd hl hr
theorem own_s_dload (h : At T m c below) (hx : tb.exec = Jvm.exec) {k : Nat} {v : UInt64} (hd : decode c.code pc = .ok (.dload k, 2)) (hp : pc + 2 = pc') (hl : L[k]? = some (.val (.double v)))
    (hr : Steps tb e below (T.setTop (mkF m pc' L (.double v :: S))) target) : Steps tb e below (T.setTop (mkF m pc L S)) target := by
  subst hp; exact XS.dload h hx rfl hd hl hr
theorem own_s_dstoreN (h : At T m c below) (hx : tb.exec = Jvm.exec) {k : Fin 4} {v : UInt64} {L' : Array Slot} (hd : decode c.code pc = .ok (.dstore_n k, 1)) (hp : pc + 1 = pc') (hl : storeLocals L k.val (.double v) = some L')
    (hr : Steps tb e below (T.setTop (mkF m pc' L' S)) target) : Steps tb e below (T.setTop (mkF m pc L (.double v :: S))) target := by
  subst hp; exact XS.dstoreN h hx rfl hd rfl hl hr
theorem own_s_dstore (h : At T m c below) (hx : tb.exec = Jvm.exec) {k : Nat} {v : UInt64} {L' : Array Slot} (hd : decode c.code pc = .ok (.dstore k, 2)) (hp : pc + 2 = pc') (hl : storeLocals L k (.double v) = some L')
    (hr : Steps tb e below (T.setTop (mkF m pc' L' S)) target) : Steps tb e below (T.setTop (mkF m pc L (.double v :: S))) target := by
  subst hp; exact XS.dstore h hx rfl hd rfl hl hr
theorem own_s_aloadN (h : At T m c below) (hx : tb.exec = Jvm.exec) {k : Fin 4} {v : Value} (hd : decode c.code pc = .ok (.aload_n k, 1)) (hp : pc + 1 = pc') (hl : L[k.val]? = some (.val v)) (hr0 : v.isRef = true)
    (hr : Steps tb e below (T.setTop (mkF m pc' L (v :: S))) target) : Steps tb e below (T.setTop (mkF m pc L S)) target := by
  subst hp; exact XS.aloadN h hx rfl hd hl hr0 hr
theorem own_s_aload (h : At T m c below) (hx : tb.exec = Jvm.exec) {k : Nat} {v : Value} (hd : decode c.code pc = .ok (.aload k, 2)) (hp : pc + 2 = pc') (hl : L[k]? = some (.val v)) (hr0 : v.isRef = true)
    (hr : Steps tb e below (T.setTop (mkF m pc' L (v :: S))) target) : Steps tb e below (T.setTop (mkF m pc L S)) target := by
  subst hp; exact XS.aload h hx rfl hd hl hr0 hr
theorem own_s_astoreN (h : At T m c below) (hx : tb.exec = Jvm.exec) {k : Fin 4} {v : Value} {L' : Array Slot} (hd : decode c.code pc = .ok (.astore_n k, 1)) (hp : pc + 1 = pc') (hr0 : v.isRef = true) (hl : storeLocals L k.val v = some L')
    (hr : Steps tb e below (T.setTop (mkF m pc' L' S)) target) : Steps tb e below (T.setTop (mkF m pc L (v :: S))) target := by
  subst hp; exact XS.astoreN h hx rfl hd rfl hr0 hl hr
theorem own_s_astore (h : At T m c below) (hx : tb.exec = Jvm.exec) {k : Nat} {v : Value} {L' : Array Slot} (hd : decode c.code pc = .ok (.astore k, 2)) (hp : pc + 2 = pc') (hr0 : v.isRef = true) (hl : storeLocals L k v = some L')
    (hr : Steps tb e below (T.setTop (mkF m pc' L' S)) target) : Steps tb e below (T.setTop (mkF m pc L (v :: S))) target := by
  subst hp; exact XS.astore h hx rfl hd rfl hr0 hl hr
theorem own_s_iinc (h : At T m c below) (hx : tb.exec = Jvm.exec) {k : Nat} {cst : Int} {x v : Int32} {L' : Array Slot} (hd : decode c.code pc = .ok (.iinc k cst, 3)) (hp : pc + 3 = pc') (hl : L[k]? = some (.val (.int x))) (hv : x + Int32.ofInt cst = v) (hl' : storeLocals L k (.int v) = some L')
    (hr : Steps tb e below (T.setTop (mkF m pc' L' S)) target) : Steps tb e below (T.setTop (mkF m pc L S)) target := by
  subst hv hp; exact XS.iinc h hx rfl hd hl hl' hr
theorem own_s_goto (h : At T m c below) (hx : tb.exec = Jvm.exec)  {o : Int} (hd : decode c.code pc = .ok (.goto o, 3)) (ho : 0 ≤ (pc : Int) + o) (hp : ((pc : Int) + o).toNat = pc') 
    (hr : Steps tb e below (T.setTop (mkF m pc' L S)) target) : Steps tb e below (T.setTop (mkF m pc L S)) target := by
  exact XS.goto h hx rfl rfl hd ho hp hr
theorem own_s_ifYes (h : At T m c below) (hx : tb.exec = Jvm.exec) {cd : ClassFile.Cond} {x : Int32} {o : Int} (hd : decode c.code pc = .ok (.ifCond cd o, 3)) (ho : 0 ≤ (pc : Int) + o) (hp : ((pc : Int) + o).toNat = pc') (hc : ifCond.holds cd x = true)
    (hr : Steps tb e below (T.setTop (mkF m pc' L S)) target) : Steps tb e below (T.setTop (mkF m pc L (.int x :: S))) target := by
  exact XS.ifYes h hx rfl rfl hd rfl hc ho hp hr
theorem own_s_icmpYes (h : At T m c below) (hx : tb.exec = Jvm.exec) {cd : ClassFile.Cond} {x y : Int32} {o : Int} (hd : decode c.code pc = .ok (.if_icmp cd o, 3)) (ho : 0 ≤ (pc : Int) + o) (hp : ((pc : Int) + o).toNat = pc') (hc : if_icmp.holds cd x y = true)
    (hr : Steps tb e below (T.setTop (mkF m pc' L S)) target) : Steps tb e below (T.setTop (mkF m pc L (.int y :: .int x :: S))) target := by
  exact XS.icmpYes h hx rfl rfl hd rfl hc ho hp hr
theorem own_s_ifNo (h : At T m c below) (hx : tb.exec = Jvm.exec) {cd : ClassFile.Cond} {o : Int} {x : Int32} (hd : decode c.code pc = .ok (.ifCond cd o, 3)) (hp : pc + 3 = pc') (hc : ifCond.holds cd x = false)
    (hr : Steps tb e below (T.setTop (mkF m pc' L S)) target) : Steps tb e below (T.setTop (mkF m pc L (.int x :: S))) target := by
  subst hp; exact XS.ifNo h hx rfl hd rfl hc hr
theorem own_s_icmpNo (h : At T m c below) (hx : tb.exec = Jvm.exec) {cd : ClassFile.Cond} {o : Int} {x y : Int32} (hd : decode c.code pc = .ok (.if_icmp cd o, 3)) (hp : pc + 3 = pc') (hc : if_icmp.holds cd x y = false)
    (hr : Steps tb e below (T.setTop (mkF m pc' L S)) target) : Steps tb e below (T.setTop (mkF m pc L (.int y :: .int x :: S))) target := by
  subst hp; exact XS.icmpNo h hx rfl hd rfl hc hr
theorem own_s_ifnullYes (h : At T m c below) (hx : tb.exec = Jvm.exec)  {o : Int} (hd : decode c.code pc = .ok (.ifnull o, 3)) (ho : 0 ≤ (pc : Int) + o) (hp : ((pc : Int) + o).toNat = pc') 
    (hr : Steps tb e below (T.setTop (mkF m pc' L S)) target) : Steps tb e below (T.setTop (mkF m pc L (.null :: S))) target := by
  exact XS.ifnullYes h hx rfl rfl hd rfl ho hp hr
theorem own_s_ifnullNo (h : At T m c below) (hx : tb.exec = Jvm.exec) {o : Int} {b : Addr} (hd : decode c.code pc = .ok (.ifnull o, 3)) (hp : pc + 3 = pc') 
    (hr : Steps tb e below (T.setTop (mkF m pc' L S)) target) : Steps tb e below (T.setTop (mkF m pc L (.ref b :: S))) target := by
  subst hp; exact XS.ifnullNo h hx rfl hd rfl hr
theorem own_s_ifnonnullYes (h : At T m c below) (hx : tb.exec = Jvm.exec) {b : Addr} {o : Int} (hd : decode c.code pc = .ok (.ifnonnull o, 3)) (ho : 0 ≤ (pc : Int) + o) (hp : ((pc : Int) + o).toNat = pc') 
    (hr : Steps tb e below (T.setTop (mkF m pc' L S)) target) : Steps tb e below (T.setTop (mkF m pc L (.ref b :: S))) target := by
  exact XS.ifnonnullYes h hx rfl rfl hd rfl ho hp hr
theorem own_s_ifnonnullNo (h : At T m c below) (hx : tb.exec = Jvm.exec) {o : Int} (hd : decode c.code pc = .ok (.ifnonnull o, 3)) (hp : pc + 3 = pc') 
    (hr : Steps tb e below (T.setTop (mkF m pc' L S)) target) : Steps tb e below (T.setTop (mkF m pc L (.null :: S))) target := by
  subst hp; exact XS.ifnonnullNo h hx rfl hd rfl hr
end OwnStep
section OwnHeap
open Jvm Jvm.ClassFile Sem Op Lib Jvm.Free Jvm.Stand Jvm.LawKit Jvm.RoadKit
variable {p : Program} {l : Launch} {e : Env} {R : Room} {s : State} {m : MethodId} {args : Array Value} {below : List Frame} {meth : Method} {c : Code} {T : State} {locs : List Loc} {cells slots : Nat} {Z : State} {a0 : Array Value} {h : Heap} {pc pc' : Nat} {L : Array Slot} {S : List Value} {a : Addr} {k : ClassId} {z : Int32} {vs : List Value} {dv : Value}
theorem own_newD (X : Stand p l e R s m args below meth c T locs cells slots) (hx : p.tables.exec = Jvm.exec) (hZ : Z.Warmed39 s.vm) (w : (Jvm.Cond.arrayClass .double).before a0 Z = true) (eT : T.heap = h) (n : Nat) (hz : z.toNatClampNeg = n) (hz0 : ¬ z < 0) (hb : n * 8 ≤ 536870912) (hc : cells + 1 ≤ R.cells) (hl : slots + n ≤ R.slots) (hd : decode c.code pc = .ok (.newarray .double, 2)) (hp : pc + 2 = pc') :
    ∃ T' h' k b, Stand p l e R s m args below meth c T' locs (cells + 1) (slots + n) ∧ T'.heap = h' ∧ Ext h h' ∧ b = h.size ∧ Arv Z h' b k .double z (List.replicate n (.double 0)) (.double 0) ∧ ∀ target, Steps p.tables e below (T'.setTop (mkF m pc' L (.ref b :: S))) target → Steps p.tables e below (T.setTop (mkF m pc L (.int z :: S))) target := by
  subst hp
  obtain ⟨T', h', k, X', e', E, A, st⟩ := newP X hx hZ (aty := .double) w eT (g := mkF m pc L (.int z :: S)) rfl hd rfl hz0 (cap := n) (Nat.le_of_eq hz) hb hc hl
  exact ⟨T', h', k, h.size, X', e', E, rfl, (Arv.new A hz0).pad (pad_rep [] (.double 0) n), st⟩
theorem own_newJ (X : Stand p l e R s m args below meth c T locs cells slots) (hx : p.tables.exec = Jvm.exec) (hZ : Z.Warmed39 s.vm) (w : (Jvm.Cond.arrayClass .long).before a0 Z = true) (eT : T.heap = h) (n : Nat) (hz : z.toNatClampNeg = n) (hz0 : ¬ z < 0) (hb : n * 8 ≤ 536870912) (hc : cells + 1 ≤ R.cells) (hl : slots + n ≤ R.slots) (hd : decode c.code pc = .ok (.newarray .long, 2)) (hp : pc + 2 = pc') :
    ∃ T' h' k b, Stand p l e R s m args below meth c T' locs (cells + 1) (slots + n) ∧ T'.heap = h' ∧ Ext h h' ∧ b = h.size ∧ Arv Z h' b k .long z (List.replicate n (.long 0)) (.long 0) ∧ ∀ target, Steps p.tables e below (T'.setTop (mkF m pc' L (.ref b :: S))) target → Steps p.tables e below (T.setTop (mkF m pc L (.int z :: S))) target := by
  subst hp
  obtain ⟨T', h', k, X', e', E, A, st⟩ := newP X hx hZ (aty := .long) w eT (g := mkF m pc L (.int z :: S)) rfl hd rfl hz0 (cap := n) (Nat.le_of_eq hz) hb hc hl
  exact ⟨T', h', k, h.size, X', e', E, rfl, (Arv.new A hz0).pad (pad_rep [] (.long 0) n), st⟩
theorem own_stD (X : Stand p l e R s m args below meth c T locs cells slots) (hx : p.tables.exec = Jvm.exec) (hZ : Z.Warmed39 s.vm) (eT : T.heap = h) (V : Arv Z h a k .double z vs dv) {j : Int32} {x : UInt64} (hj : ¬ j < 0 ∧ j < z) (i : Nat) (hi : j.toNatClampNeg = i) (hl : i < vs.length) (hd : decode c.code pc = .ok (.dastore, 1)) (hp : pc + 1 = pc') :
    ∃ T' h', Stand p l e R s m args below meth c T' (locs ++ [⟨a, j.toNatClampNeg⟩]) cells slots ∧ T'.heap = h' ∧ Wr h h' a j.toNatClampNeg (.double x) ∧ Arv Z h' a k .double z (vs.set i (.double x)) dv ∧ ∀ target, Steps p.tables e below (T'.setTop (mkF m pc' L S)) target → Steps p.tables e below (T.setTop (mkF m pc L (.double x :: .int j :: .ref a :: S))) target := by
  subst hp
  obtain ⟨cl, A, q1, S1, q3, H, G⟩ := V
  obtain ⟨T', h', X', e', W, st⟩ := stD X hx hZ eT A (j := j) (x := x) (inb_of S1 hj) (g := mkF m pc L (.double x :: .int j :: .ref a :: S)) rfl rfl hd
  exact ⟨T', h', X', e', W, Arv.set A q1 S1 q3 H G rfl W i hi hl, st⟩
theorem own_ldD (X : Stand p l e R s m args below meth c T locs cells slots) (hx : p.tables.exec = Jvm.exec) (hZ : Z.Warmed39 s.vm) (eT : T.heap = h) (V : Arv Z h a k .double z vs dv) {j : Int32} {x : UInt64} (hj : ¬ j < 0 ∧ j < z) (hv : vs.getD j.toNatClampNeg dv = .double x) (hd : decode c.code pc = .ok (.daload, 1)) (hp : pc + 1 = pc') {target : State}
    (hr : Steps p.tables e below (T.setTop (mkF m pc' L (.double x :: S))) target) : Steps p.tables e below (T.setTop (mkF m pc L (.int j :: .ref a :: S))) target := by
  subst hp
  obtain ⟨cl, A, q1, S1, q3, H, G⟩ := V
  exact X.daload hx (j := j) (v := .double x) (by rw [eT]; exact A.1) (State.isArrayOf_alike hZ.alike A.2.1) A.2.2 (inb_of S1 hj) (H.at (inb_of S1 hj) hv) (g := mkF m pc L (.int j :: .ref a :: S)) rfl rfl hd target hr
theorem own_len {ty : FieldType} (X : Stand p l e R s m args below meth c T locs cells slots) (hx : p.tables.exec = Jvm.exec) (hZ : Z.Warmed39 s.vm) (eT : T.heap = h) (V : Arv Z h a k ty z vs dv) (hd : decode c.code pc = .ok (.arraylength, 1)) (hp : pc + 1 = pc') {target : State}
    (hr : Steps p.tables e below (T.setTop (mkF m pc' L (.int z :: S))) target) : Steps p.tables e below (T.setTop (mkF m pc L (.ref a :: S))) target := by
  subst hp
  obtain ⟨cl, A, q1, S1, q3, H, G⟩ := V
  refine X.arraylength hx (by rw [eT]; exact A.1) (State.isArrayOf_alike hZ.alike A.2.1) (g := mkF m pc L (.ref a :: S)) rfl rfl hd target ?_
  rw [len_of S1 q3]
  exact hr
theorem own_retI (X : Stand p l e R s m args below meth c T locs cells slots) (hx : p.tables.exec = Jvm.exec) {x : Int32} (hret : meth.sig.returnType = some .int) (hd : decode c.code pc = .ok (.ireturn, 1)) {fs : List Frame}
    (hl : ∀ (f : JFrame) (acts : List Action), f.method = m → f.locked = none → f.entered = [] → (doReturn e (T.setTop f) acts (some (.int x))).1 = T.setFrames fs) : Steps p.tables e below (T.setTop (mkF m pc L (.int x :: S))) (T.setFrames fs) := by
  have hm' : T.vm.method? m = some meth := X.method'
  have hn : narrow .int (.int x) = .int x := rfl
  show Steps p.tables e below (T.setTop { method := m, pc := pc, locals := L, stack := _ :: S, locked := none }) _
  jvm_step X.here [X.here.top, hx, hd, hm', hret, hn]
  first | (intro acts; rw [hl _ acts rfl rfl rfl]) | rw [hl _ _ rfl rfl rfl]
  exact Steps.refl _
theorem own_retD (X : Stand p l e R s m args below meth c T locs cells slots) (hx : p.tables.exec = Jvm.exec) {x : UInt64} (hret : meth.sig.returnType = some .double) (hd : decode c.code pc = .ok (.dreturn, 1)) {fs : List Frame}
    (hl : ∀ (f : JFrame) (acts : List Action), f.method = m → f.locked = none → f.entered = [] → (doReturn e (T.setTop f) acts (some (.double x))).1 = T.setFrames fs) : Steps p.tables e below (T.setTop (mkF m pc L (.double x :: S))) (T.setFrames fs) := by
  have hm' : T.vm.method? m = some meth := X.method'
  show Steps p.tables e below (T.setTop { method := m, pc := pc, locals := L, stack := _ :: S, locked := none }) _
  jvm_step X.here [X.here.top, hx, hd, hm', hret, narrow]
  first | (intro acts; rw [hl _ acts rfl rfl rfl]) | rw [hl _ _ rfl rfl rfl]
  exact Steps.refl _
theorem own_retJ (X : Stand p l e R s m args below meth c T locs cells slots) (hx : p.tables.exec = Jvm.exec) {x : Int64} (hret : meth.sig.returnType = some .long) (hd : decode c.code pc = .ok (.lreturn, 1)) {fs : List Frame}
    (hl : ∀ (f : JFrame) (acts : List Action), f.method = m → f.locked = none → f.entered = [] → (doReturn e (T.setTop f) acts (some (.long x))).1 = T.setFrames fs) : Steps p.tables e below (T.setTop (mkF m pc L (.long x :: S))) (T.setFrames fs) := by
  have hm' : T.vm.method? m = some meth := X.method'
  show Steps p.tables e below (T.setTop { method := m, pc := pc, locals := L, stack := _ :: S, locked := none }) _
  jvm_step X.here [X.here.top, hx, hd, hm', hret, narrow]
  first | (intro acts; rw [hl _ acts rfl rfl rfl]) | rw [hl _ _ rfl rfl rfl]
  exact Steps.refl _
theorem own_retR (X : Stand p l e R s m args below meth c T locs cells slots) (hx : p.tables.exec = Jvm.exec) {b : Addr} {t : FieldType} (hret : meth.sig.returnType = some t) (ht : t.isReference = true) (hd : decode c.code pc = .ok (.areturn, 1)) {fs : List Frame}
    (hl : ∀ (f : JFrame) (acts : List Action), f.method = m → f.locked = none → f.entered = [] → (doReturn e (T.setTop f) acts (some (.ref b))).1 = T.setFrames fs) : Steps p.tables e below (T.setTop (mkF m pc L (.ref b :: S))) (T.setFrames fs) := by
  have hm' : T.vm.method? m = some meth := X.method'
  show Steps p.tables e below (T.setTop { method := m, pc := pc, locals := L, stack := _ :: S, locked := none }) _
  jvm_step X.here [X.here.top, hx, hd, hm', hret, Value.isRef, ht]
  first | (intro acts; rw [hl _ acts rfl rfl rfl]) | rw [hl _ _ rfl rfl rfl]
  exact Steps.refl _
end OwnHeap
open Jvm Jvm.ClassFile Sem Op Lib Jvm.Free Jvm.Stand Jvm.LawKit Jvm.RoadKit Bundle Jvm.Pilot.@@N@@.Jvm.D
def own_Q0 (n0 : Nat) (v : Option Value) (h : Heap) (L : List Loc) : Prop := v = some (.int 1) ∧ Fr n0 L
def own_QP (r : Option Value) (h0 : Heap) (n0 : Nat) (v : Option Value) (h : Heap) (L : List Loc) : Prop := v = r ∧ Fr n0 L ∧ h = h0
theorem own_d1_0 : decode prog_10_method_3_code 0 = .ok (.bipush 16, 2) := by decide +kernel
theorem own_d1_2 : decode prog_10_method_3_code 2 = .ok (.newarray .double, 2) := by decide +kernel
theorem own_d1_4 : decode prog_10_method_3_code 4 = .ok (.dup, 1) := by decide +kernel
theorem own_d1_5 : decode prog_10_method_3_code 5 = .ok (.iconst 0, 1) := by decide +kernel
theorem own_d1_6 : decode prog_10_method_3_code 6 = .ok (.aload_n 0, 1) := by decide +kernel
theorem own_d1_7 : decode prog_10_method_3_code 7 = .ok (.iconst 0, 1) := by decide +kernel
theorem own_d1_8 : decode prog_10_method_3_code 8 = .ok (.daload, 1) := by decide +kernel
theorem own_d1_9 : decode prog_10_method_3_code 9 = .ok (.dastore, 1) := by decide +kernel
theorem own_d1_10 : decode prog_10_method_3_code 10 = .ok (.dup, 1) := by decide +kernel
theorem own_d1_11 : decode prog_10_method_3_code 11 = .ok (.iconst 1, 1) := by decide +kernel
theorem own_d1_12 : decode prog_10_method_3_code 12 = .ok (.aload_n 0, 1) := by decide +kernel
theorem own_d1_13 : decode prog_10_method_3_code 13 = .ok (.iconst 1, 1) := by decide +kernel
theorem own_d1_14 : decode prog_10_method_3_code 14 = .ok (.daload, 1) := by decide +kernel
theorem own_d1_15 : decode prog_10_method_3_code 15 = .ok (.dastore, 1) := by decide +kernel
theorem own_d1_16 : decode prog_10_method_3_code 16 = .ok (.dup, 1) := by decide +kernel
theorem own_d1_17 : decode prog_10_method_3_code 17 = .ok (.iconst 2, 1) := by decide +kernel
theorem own_d1_18 : decode prog_10_method_3_code 18 = .ok (.aload_n 0, 1) := by decide +kernel
theorem own_d1_19 : decode prog_10_method_3_code 19 = .ok (.iconst 2, 1) := by decide +kernel
theorem own_d1_20 : decode prog_10_method_3_code 20 = .ok (.daload, 1) := by decide +kernel
theorem own_d1_21 : decode prog_10_method_3_code 21 = .ok (.dastore, 1) := by decide +kernel
theorem own_d1_22 : decode prog_10_method_3_code 22 = .ok (.dup, 1) := by decide +kernel
theorem own_d1_23 : decode prog_10_method_3_code 23 = .ok (.iconst 3, 1) := by decide +kernel
theorem own_d1_24 : decode prog_10_method_3_code 24 = .ok (.dconst 0, 1) := by decide +kernel
theorem own_d1_25 : decode prog_10_method_3_code 25 = .ok (.dastore, 1) := by decide +kernel
theorem own_d1_26 : decode prog_10_method_3_code 26 = .ok (.dup, 1) := by decide +kernel
theorem own_d1_27 : decode prog_10_method_3_code 27 = .ok (.iconst 4, 1) := by decide +kernel
theorem own_d1_28 : decode prog_10_method_3_code 28 = .ok (.aload_n 0, 1) := by decide +kernel
theorem own_d1_29 : decode prog_10_method_3_code 29 = .ok (.iconst 3, 1) := by decide +kernel
theorem own_d1_30 : decode prog_10_method_3_code 30 = .ok (.daload, 1) := by decide +kernel
theorem own_d1_31 : decode prog_10_method_3_code 31 = .ok (.dastore, 1) := by decide +kernel
theorem own_d1_32 : decode prog_10_method_3_code 32 = .ok (.dup, 1) := by decide +kernel
theorem own_d1_33 : decode prog_10_method_3_code 33 = .ok (.iconst 5, 1) := by decide +kernel
theorem own_d1_34 : decode prog_10_method_3_code 34 = .ok (.aload_n 0, 1) := by decide +kernel
theorem own_d1_35 : decode prog_10_method_3_code 35 = .ok (.iconst 4, 1) := by decide +kernel
theorem own_d1_36 : decode prog_10_method_3_code 36 = .ok (.daload, 1) := by decide +kernel
theorem own_d1_37 : decode prog_10_method_3_code 37 = .ok (.dastore, 1) := by decide +kernel
theorem own_d1_38 : decode prog_10_method_3_code 38 = .ok (.dup, 1) := by decide +kernel
theorem own_d1_39 : decode prog_10_method_3_code 39 = .ok (.bipush 6, 2) := by decide +kernel
theorem own_d1_41 : decode prog_10_method_3_code 41 = .ok (.aload_n 0, 1) := by decide +kernel
theorem own_d1_42 : decode prog_10_method_3_code 42 = .ok (.iconst 5, 1) := by decide +kernel
theorem own_d1_43 : decode prog_10_method_3_code 43 = .ok (.daload, 1) := by decide +kernel
theorem own_d1_44 : decode prog_10_method_3_code 44 = .ok (.dastore, 1) := by decide +kernel
theorem own_d1_45 : decode prog_10_method_3_code 45 = .ok (.dup, 1) := by decide +kernel
theorem own_d1_46 : decode prog_10_method_3_code 46 = .ok (.bipush 7, 2) := by decide +kernel
theorem own_d1_48 : decode prog_10_method_3_code 48 = .ok (.dconst 0, 1) := by decide +kernel
theorem own_d1_49 : decode prog_10_method_3_code 49 = .ok (.dastore, 1) := by decide +kernel
theorem own_d1_50 : decode prog_10_method_3_code 50 = .ok (.dup, 1) := by decide +kernel
theorem own_d1_51 : decode prog_10_method_3_code 51 = .ok (.bipush 8, 2) := by decide +kernel
theorem own_d1_53 : decode prog_10_method_3_code 53 = .ok (.aload_n 0, 1) := by decide +kernel
theorem own_d1_54 : decode prog_10_method_3_code 54 = .ok (.bipush 6, 2) := by decide +kernel
theorem own_d1_56 : decode prog_10_method_3_code 56 = .ok (.daload, 1) := by decide +kernel
theorem own_d1_57 : decode prog_10_method_3_code 57 = .ok (.dastore, 1) := by decide +kernel
theorem own_d1_58 : decode prog_10_method_3_code 58 = .ok (.dup, 1) := by decide +kernel
theorem own_d1_59 : decode prog_10_method_3_code 59 = .ok (.bipush 9, 2) := by decide +kernel
theorem own_d1_61 : decode prog_10_method_3_code 61 = .ok (.aload_n 0, 1) := by decide +kernel
theorem own_d1_62 : decode prog_10_method_3_code 62 = .ok (.bipush 7, 2) := by decide +kernel
theorem own_d1_64 : decode prog_10_method_3_code 64 = .ok (.daload, 1) := by decide +kernel
theorem own_d1_65 : decode prog_10_method_3_code 65 = .ok (.dastore, 1) := by decide +kernel
theorem own_d1_66 : decode prog_10_method_3_code 66 = .ok (.dup, 1) := by decide +kernel
theorem own_d1_67 : decode prog_10_method_3_code 67 = .ok (.bipush 10, 2) := by decide +kernel
theorem own_d1_69 : decode prog_10_method_3_code 69 = .ok (.aload_n 0, 1) := by decide +kernel
theorem own_d1_70 : decode prog_10_method_3_code 70 = .ok (.bipush 8, 2) := by decide +kernel
theorem own_d1_72 : decode prog_10_method_3_code 72 = .ok (.daload, 1) := by decide +kernel
theorem own_d1_73 : decode prog_10_method_3_code 73 = .ok (.dastore, 1) := by decide +kernel
theorem own_d1_74 : decode prog_10_method_3_code 74 = .ok (.dup, 1) := by decide +kernel
theorem own_d1_75 : decode prog_10_method_3_code 75 = .ok (.bipush 11, 2) := by decide +kernel
theorem own_d1_77 : decode prog_10_method_3_code 77 = .ok (.dconst 0, 1) := by decide +kernel
theorem own_d1_78 : decode prog_10_method_3_code 78 = .ok (.dastore, 1) := by decide +kernel
theorem own_d1_79 : decode prog_10_method_3_code 79 = .ok (.dup, 1) := by decide +kernel
theorem own_d1_80 : decode prog_10_method_3_code 80 = .ok (.bipush 12, 2) := by decide +kernel
theorem own_d1_82 : decode prog_10_method_3_code 82 = .ok (.dconst 0, 1) := by decide +kernel
theorem own_d1_83 : decode prog_10_method_3_code 83 = .ok (.dastore, 1) := by decide +kernel
theorem own_d1_84 : decode prog_10_method_3_code 84 = .ok (.dup, 1) := by decide +kernel
theorem own_d1_85 : decode prog_10_method_3_code 85 = .ok (.bipush 13, 2) := by decide +kernel
theorem own_d1_87 : decode prog_10_method_3_code 87 = .ok (.dconst 0, 1) := by decide +kernel
theorem own_d1_88 : decode prog_10_method_3_code 88 = .ok (.dastore, 1) := by decide +kernel
theorem own_d1_89 : decode prog_10_method_3_code 89 = .ok (.dup, 1) := by decide +kernel
theorem own_d1_90 : decode prog_10_method_3_code 90 = .ok (.bipush 14, 2) := by decide +kernel
theorem own_d1_92 : decode prog_10_method_3_code 92 = .ok (.dconst 0, 1) := by decide +kernel
theorem own_d1_93 : decode prog_10_method_3_code 93 = .ok (.dastore, 1) := by decide +kernel
theorem own_d1_94 : decode prog_10_method_3_code 94 = .ok (.dup, 1) := by decide +kernel
theorem own_d1_95 : decode prog_10_method_3_code 95 = .ok (.bipush 15, 2) := by decide +kernel
theorem own_d1_97 : decode prog_10_method_3_code 97 = .ok (.dconst 1, 1) := by decide +kernel
theorem own_d1_98 : decode prog_10_method_3_code 98 = .ok (.dastore, 1) := by decide +kernel
theorem own_d1_99 : decode prog_10_method_3_code 99 = .ok (.areturn, 1) := by decide +kernel
theorem own_pn_com_example_pintrinsic_pintrinsic_Matrices : plainName "com/example/pintrinsic/pintrinsic/Matrices" = true := by first | (simp [plainName, overriddenIn]; done) | decide +kernel
theorem own_ef_h (m : MethodId) (q : Addr) : entryFrame m #[(.ref q)] 1 = mkF m 0 #[.val (.ref q)] [] := by first | (simp [entryFrame, mkF, argsToLocals, Value.category]; done) | rfl
def own_Q_h (Z : State) (q : Addr) (d0 : UInt64) (d1 : UInt64) (d2 : UInt64) (d3 : UInt64) (d4 : UInt64) (d5 : UInt64) (d6 : UInt64) (d7 : UInt64) (d8 : UInt64) (qk : ClassId) (h0 : Heap) (n0 : Nat) (v : Option Value) (h : Heap) (L : List Loc) : Prop := ∃ (bh1 : Addr) (kh1 : ClassId), v = some (.ref bh1) ∧ Fr n0 L ∧ Keep h0 h [] ∧ h0.size ≤ bh1 ∧ Arv Z h bh1 kh1 .double (16 : Int32) [(.double d0), (.double d1), (.double d2), (.double 0), (.double d3), (.double d4), (.double d5), (.double 0), (.double d6), (.double d7), (.double d8), (.double 0), (.double 0), (.double 0), (.double 0), (.double 4607182418800017408)] (.double 0)
set_option maxRecDepth 65536 in
set_option maxHeartbeats 40000000 in
theorem own_rm_h (l : Launch) (Z : State) (a0 : Array Value) (hw : ∀ d ∈ tables_1, d.before a0 Z = true) (ws : List Jvm.Cond) (q : Addr) (d0 : UInt64) (d1 : UInt64) (d2 : UInt64) (d3 : UInt64) (d4 : UInt64) (d5 : UInt64) (d6 : UInt64) (d7 : UInt64) (d8 : UInt64) {qk : ClassId} (h0 : Heap) (n0 : Nat) (Z0 : n0 ≤ h0.size) (V_q : Arv Z h0 q qk .double (9 : Int32) [(.double d0), (.double d1), (.double d2), (.double d3), (.double d4), (.double d5), (.double d6), (.double d7), (.double d8)] (.double 0))  :
    MetFree l (⟨"com/example/pintrinsic/pintrinsic/Matrices", "homogeneous", "([D)[D"⟩ : MethodName) (head1 (Jvm.Cond.code (⟨"com/example/pintrinsic/pintrinsic/Matrices", "homogeneous", "([D)[D"⟩ : MethodName) prog_10_method_3_code 1 (some (.array .double)) :: ws) ({ frames := 0, cells := 1, slots := 16, locals := 0 } : Room)) (fun a U => a = #[(.ref q)] ∧ Z.Warmed39 U.vm ∧ U.heap = h0) (fun _ _ _ _ _ => True) (fun _ U o U' => ∃ v L, o = .returned v ∧ own_Q_h Z q d0 d1 d2 d3 d4 d5 d6 d7 d8 qk h0 n0 v U'.heap L ∧ FrameEnd U o U' L ({ frames := 0, cells := 1, slots := 16, locals := 0 } : Room).cells ({ frames := 0, cells := 1, slots := 16, locals := 0 } : Room).slots) := by
  refine MetFree.of_bodySF (plainFor_of_name own_pn_com_example_pintrinsic_pintrinsic_Matrices) hisR ?_
  intro p e s m args below meth c s₁ Bd hml0 hP hK
  obtain ⟨rfl, hZ, hh⟩ := hP
  have hx := Bd.exec
  have hby := Bd.bytes
  have hml : c.maxLocals = 1 := hml0
  have hown : s.vm.findClass "com/example/pintrinsic/pintrinsic/Matrices" = some m.cls := findClass_of_methodNamed Bd.named
  have hnm := (name_of_methodNamed Bd.named Bd.method).1
  have X0 : Stand p l e ({ frames := 0, cells := 1, slots := 16, locals := 0 } : Room) s m #[(.ref q)] below meth c s₁ [] 0 0 := Stand.of_body Bd
  have e0 : s₁.heap = h0 := by rw [← hh, Bd.state]; rfl
  have N0 := Fr.nil n0
  have pre0 : ∀ t, Steps p.tables e below (s₁.setTop (mkF m 0 #[.val (.ref q)] [])) t → Steps p.tables e below (s₁.setTop (entryFrame m #[(.ref q)] 1)) t := fun t k => castTop (own_ef_h m q) k
  obtain ⟨Th1, hh1, kh1, bh1, Xh1, eh1, Eh1, Gh1, Vh1, sth1⟩ := own_newD (L := #[.val (.ref q)]) (S := []) X0 hx hZ (hw _ (List.mem_of_getElem? (i := 0) rfl)) e0 (z := (16 : Int32)) 16 (by decide) (by decide) (by decide) (by decide) (by decide) (hb hby own_d1_2) (pc' := 4) rfl
  have ne_q_bh1 : q ≠ bh1 := Nat.ne_of_lt (Nat.lt_of_lt_of_le V_q.lt (Nat.le_of_eq Gh1.symm))
  have ne_bh1_q : bh1 ≠ q := Ne.symm ne_q_bh1
  have g_bh1 : n0 ≤ bh1 := Nat.le_trans Z0 (Nat.le_of_eq Gh1.symm)
  have sz_bh1 : h0.size ≤ bh1 := Nat.le_trans (Keep.refl h0 []).1 (Nat.le_of_eq Gh1.symm)
  have V_q_h1 := V_q.ext Eh1
  have Zh1 : n0 ≤ hh1.size := Nat.le_trans Z0 Eh1.1
  have KKh1 := (Keep.refl h0 []).ext Eh1
  have V_bh1 : Arv Z hh1 bh1 kh1 .double (16 : Int32) [(.double 0), (.double 0), (.double 0), (.double 0), (.double 0), (.double 0), (.double 0), (.double 0), (.double 0), (.double 0), (.double 0), (.double 0), (.double 0), (.double 0), (.double 0), (.double 0)] (.double 0) := Vh1
  obtain ⟨Th2, hh2, Xh2, eh2, Wh2, Vh2, sth2⟩ := own_stD (L := #[.val (.ref q)]) (S := [(.ref bh1)]) Xh1 hx hZ eh1 V_bh1 (j := (0 : Int32)) (x := d0) (by decide) 0 (by decide) (Nat.le_of_ble_eq_true rfl) (hb hby own_d1_9) (pc' := 10) rfl
  have V_q_h2 := V_q_h1.other Wh2 ne_q_bh1
  have Zh2 : n0 ≤ hh2.size := Nat.le_trans Zh1 (Nat.le_of_eq Wh2.size.symm)
  have KKh2 := KKh1.wr Wh2 (Or.inr sz_bh1)
  have V_bh1_h2 : Arv Z hh2 bh1 kh1 .double (16 : Int32) [(.double d0), (.double 0), (.double 0), (.double 0), (.double 0), (.double 0), (.double 0), (.double 0), (.double 0), (.double 0), (.double 0), (.double 0), (.double 0), (.double 0), (.double 0), (.double 0)] (.double 0) := Vh2
  have Nh2 := Fr.snoc Xh2 N0 g_bh1
  obtain ⟨Th3, hh3, Xh3, eh3, Wh3, Vh3, sth3⟩ := own_stD (L := #[.val (.ref q)]) (S := [(.ref bh1)]) Xh2 hx hZ eh2 V_bh1_h2 (j := (1 : Int32)) (x := d1) (by decide) 1 (by decide) (Nat.le_of_ble_eq_true rfl) (hb hby own_d1_15) (pc' := 16) rfl
  have V_q_h3 := V_q_h2.other Wh3 ne_q_bh1
  have Zh3 : n0 ≤ hh3.size := Nat.le_trans Zh2 (Nat.le_of_eq Wh3.size.symm)
  have KKh3 := KKh2.wr Wh3 (Or.inr sz_bh1)
  have V_bh1_h3 : Arv Z hh3 bh1 kh1 .double (16 : Int32) [(.double d0), (.double d1), (.double 0), (.double 0), (.double 0), (.double 0), (.double 0), (.double 0), (.double 0), (.double 0), (.double 0), (.double 0), (.double 0), (.double 0), (.double 0), (.double 0)] (.double 0) := Vh3
  have Nh3 := Fr.snoc Xh3 Nh2 g_bh1
  obtain ⟨Th4, hh4, Xh4, eh4, Wh4, Vh4, sth4⟩ := own_stD (L := #[.val (.ref q)]) (S := [(.ref bh1)]) Xh3 hx hZ eh3 V_bh1_h3 (j := (2 : Int32)) (x := d2) (by decide) 2 (by decide) (Nat.le_of_ble_eq_true rfl) (hb hby own_d1_21) (pc' := 22) rfl
  have V_q_h4 := V_q_h3.other Wh4 ne_q_bh1
  have Zh4 : n0 ≤ hh4.size := Nat.le_trans Zh3 (Nat.le_of_eq Wh4.size.symm)
  have KKh4 := KKh3.wr Wh4 (Or.inr sz_bh1)
  have V_bh1_h4 : Arv Z hh4 bh1 kh1 .double (16 : Int32) [(.double d0), (.double d1), (.double d2), (.double 0), (.double 0), (.double 0), (.double 0), (.double 0), (.double 0), (.double 0), (.double 0), (.double 0), (.double 0), (.double 0), (.double 0), (.double 0)] (.double 0) := Vh4
  have Nh4 := Fr.snoc Xh4 Nh3 g_bh1
  obtain ⟨Th5, hh5, Xh5, eh5, Wh5, Vh5, sth5⟩ := own_stD (L := #[.val (.ref q)]) (S := [(.ref bh1)]) Xh4 hx hZ eh4 V_bh1_h4 (j := (3 : Int32)) (x := 0) (by decide) 3 (by decide) (Nat.le_of_ble_eq_true rfl) (hb hby own_d1_25) (pc' := 26) rfl
  have V_q_h5 := V_q_h4.other Wh5 ne_q_bh1
  have Zh5 : n0 ≤ hh5.size := Nat.le_trans Zh4 (Nat.le_of_eq Wh5.size.symm)
  have KKh5 := KKh4.wr Wh5 (Or.inr sz_bh1)
  have V_bh1_h5 : Arv Z hh5 bh1 kh1 .double (16 : Int32) [(.double d0), (.double d1), (.double d2), (.double 0), (.double 0), (.double 0), (.double 0), (.double 0), (.double 0), (.double 0), (.double 0), (.double 0), (.double 0), (.double 0), (.double 0), (.double 0)] (.double 0) := Vh5
  have Nh5 := Fr.snoc Xh5 Nh4 g_bh1
  obtain ⟨Th6, hh6, Xh6, eh6, Wh6, Vh6, sth6⟩ := own_stD (L := #[.val (.ref q)]) (S := [(.ref bh1)]) Xh5 hx hZ eh5 V_bh1_h5 (j := (4 : Int32)) (x := d3) (by decide) 4 (by decide) (Nat.le_of_ble_eq_true rfl) (hb hby own_d1_31) (pc' := 32) rfl
  have V_q_h6 := V_q_h5.other Wh6 ne_q_bh1
  have Zh6 : n0 ≤ hh6.size := Nat.le_trans Zh5 (Nat.le_of_eq Wh6.size.symm)
  have KKh6 := KKh5.wr Wh6 (Or.inr sz_bh1)
  have V_bh1_h6 : Arv Z hh6 bh1 kh1 .double (16 : Int32) [(.double d0), (.double d1), (.double d2), (.double 0), (.double d3), (.double 0), (.double 0), (.double 0), (.double 0), (.double 0), (.double 0), (.double 0), (.double 0), (.double 0), (.double 0), (.double 0)] (.double 0) := Vh6
  have Nh6 := Fr.snoc Xh6 Nh5 g_bh1
  obtain ⟨Th7, hh7, Xh7, eh7, Wh7, Vh7, sth7⟩ := own_stD (L := #[.val (.ref q)]) (S := [(.ref bh1)]) Xh6 hx hZ eh6 V_bh1_h6 (j := (5 : Int32)) (x := d4) (by decide) 5 (by decide) (Nat.le_of_ble_eq_true rfl) (hb hby own_d1_37) (pc' := 38) rfl
  have V_q_h7 := V_q_h6.other Wh7 ne_q_bh1
  have Zh7 : n0 ≤ hh7.size := Nat.le_trans Zh6 (Nat.le_of_eq Wh7.size.symm)
  have KKh7 := KKh6.wr Wh7 (Or.inr sz_bh1)
  have V_bh1_h7 : Arv Z hh7 bh1 kh1 .double (16 : Int32) [(.double d0), (.double d1), (.double d2), (.double 0), (.double d3), (.double d4), (.double 0), (.double 0), (.double 0), (.double 0), (.double 0), (.double 0), (.double 0), (.double 0), (.double 0), (.double 0)] (.double 0) := Vh7
  have Nh7 := Fr.snoc Xh7 Nh6 g_bh1
  obtain ⟨Th8, hh8, Xh8, eh8, Wh8, Vh8, sth8⟩ := own_stD (L := #[.val (.ref q)]) (S := [(.ref bh1)]) Xh7 hx hZ eh7 V_bh1_h7 (j := (6 : Int32)) (x := d5) (by decide) 6 (by decide) (Nat.le_of_ble_eq_true rfl) (hb hby own_d1_44) (pc' := 45) rfl
  have V_q_h8 := V_q_h7.other Wh8 ne_q_bh1
  have Zh8 : n0 ≤ hh8.size := Nat.le_trans Zh7 (Nat.le_of_eq Wh8.size.symm)
  have KKh8 := KKh7.wr Wh8 (Or.inr sz_bh1)
  have V_bh1_h8 : Arv Z hh8 bh1 kh1 .double (16 : Int32) [(.double d0), (.double d1), (.double d2), (.double 0), (.double d3), (.double d4), (.double d5), (.double 0), (.double 0), (.double 0), (.double 0), (.double 0), (.double 0), (.double 0), (.double 0), (.double 0)] (.double 0) := Vh8
  have Nh8 := Fr.snoc Xh8 Nh7 g_bh1
  obtain ⟨Th9, hh9, Xh9, eh9, Wh9, Vh9, sth9⟩ := own_stD (L := #[.val (.ref q)]) (S := [(.ref bh1)]) Xh8 hx hZ eh8 V_bh1_h8 (j := (7 : Int32)) (x := 0) (by decide) 7 (by decide) (Nat.le_of_ble_eq_true rfl) (hb hby own_d1_49) (pc' := 50) rfl
  have V_q_h9 := V_q_h8.other Wh9 ne_q_bh1
  have Zh9 : n0 ≤ hh9.size := Nat.le_trans Zh8 (Nat.le_of_eq Wh9.size.symm)
  have KKh9 := KKh8.wr Wh9 (Or.inr sz_bh1)
  have V_bh1_h9 : Arv Z hh9 bh1 kh1 .double (16 : Int32) [(.double d0), (.double d1), (.double d2), (.double 0), (.double d3), (.double d4), (.double d5), (.double 0), (.double 0), (.double 0), (.double 0), (.double 0), (.double 0), (.double 0), (.double 0), (.double 0)] (.double 0) := Vh9
  have Nh9 := Fr.snoc Xh9 Nh8 g_bh1
  obtain ⟨Th10, hh10, Xh10, eh10, Wh10, Vh10, sth10⟩ := own_stD (L := #[.val (.ref q)]) (S := [(.ref bh1)]) Xh9 hx hZ eh9 V_bh1_h9 (j := (8 : Int32)) (x := d6) (by decide) 8 (by decide) (Nat.le_of_ble_eq_true rfl) (hb hby own_d1_57) (pc' := 58) rfl
  have V_q_h10 := V_q_h9.other Wh10 ne_q_bh1
  have Zh10 : n0 ≤ hh10.size := Nat.le_trans Zh9 (Nat.le_of_eq Wh10.size.symm)
  have KKh10 := KKh9.wr Wh10 (Or.inr sz_bh1)
  have V_bh1_h10 : Arv Z hh10 bh1 kh1 .double (16 : Int32) [(.double d0), (.double d1), (.double d2), (.double 0), (.double d3), (.double d4), (.double d5), (.double 0), (.double d6), (.double 0), (.double 0), (.double 0), (.double 0), (.double 0), (.double 0), (.double 0)] (.double 0) := Vh10
  have Nh10 := Fr.snoc Xh10 Nh9 g_bh1
  obtain ⟨Th11, hh11, Xh11, eh11, Wh11, Vh11, sth11⟩ := own_stD (L := #[.val (.ref q)]) (S := [(.ref bh1)]) Xh10 hx hZ eh10 V_bh1_h10 (j := (9 : Int32)) (x := d7) (by decide) 9 (by decide) (Nat.le_of_ble_eq_true rfl) (hb hby own_d1_65) (pc' := 66) rfl
  have V_q_h11 := V_q_h10.other Wh11 ne_q_bh1
  have Zh11 : n0 ≤ hh11.size := Nat.le_trans Zh10 (Nat.le_of_eq Wh11.size.symm)
  have KKh11 := KKh10.wr Wh11 (Or.inr sz_bh1)
  have V_bh1_h11 : Arv Z hh11 bh1 kh1 .double (16 : Int32) [(.double d0), (.double d1), (.double d2), (.double 0), (.double d3), (.double d4), (.double d5), (.double 0), (.double d6), (.double d7), (.double 0), (.double 0), (.double 0), (.double 0), (.double 0), (.double 0)] (.double 0) := Vh11
  have Nh11 := Fr.snoc Xh11 Nh10 g_bh1
  obtain ⟨Th12, hh12, Xh12, eh12, Wh12, Vh12, sth12⟩ := own_stD (L := #[.val (.ref q)]) (S := [(.ref bh1)]) Xh11 hx hZ eh11 V_bh1_h11 (j := (10 : Int32)) (x := d8) (by decide) 10 (by decide) (Nat.le_of_ble_eq_true rfl) (hb hby own_d1_73) (pc' := 74) rfl
  have V_q_h12 := V_q_h11.other Wh12 ne_q_bh1
  have Zh12 : n0 ≤ hh12.size := Nat.le_trans Zh11 (Nat.le_of_eq Wh12.size.symm)
  have KKh12 := KKh11.wr Wh12 (Or.inr sz_bh1)
  have V_bh1_h12 : Arv Z hh12 bh1 kh1 .double (16 : Int32) [(.double d0), (.double d1), (.double d2), (.double 0), (.double d3), (.double d4), (.double d5), (.double 0), (.double d6), (.double d7), (.double d8), (.double 0), (.double 0), (.double 0), (.double 0), (.double 0)] (.double 0) := Vh12
  have Nh12 := Fr.snoc Xh12 Nh11 g_bh1
  obtain ⟨Th13, hh13, Xh13, eh13, Wh13, Vh13, sth13⟩ := own_stD (L := #[.val (.ref q)]) (S := [(.ref bh1)]) Xh12 hx hZ eh12 V_bh1_h12 (j := (11 : Int32)) (x := 0) (by decide) 11 (by decide) (Nat.le_of_ble_eq_true rfl) (hb hby own_d1_78) (pc' := 79) rfl
  have V_q_h13 := V_q_h12.other Wh13 ne_q_bh1
  have Zh13 : n0 ≤ hh13.size := Nat.le_trans Zh12 (Nat.le_of_eq Wh13.size.symm)
  have KKh13 := KKh12.wr Wh13 (Or.inr sz_bh1)
  have V_bh1_h13 : Arv Z hh13 bh1 kh1 .double (16 : Int32) [(.double d0), (.double d1), (.double d2), (.double 0), (.double d3), (.double d4), (.double d5), (.double 0), (.double d6), (.double d7), (.double d8), (.double 0), (.double 0), (.double 0), (.double 0), (.double 0)] (.double 0) := Vh13
  have Nh13 := Fr.snoc Xh13 Nh12 g_bh1
  obtain ⟨Th14, hh14, Xh14, eh14, Wh14, Vh14, sth14⟩ := own_stD (L := #[.val (.ref q)]) (S := [(.ref bh1)]) Xh13 hx hZ eh13 V_bh1_h13 (j := (12 : Int32)) (x := 0) (by decide) 12 (by decide) (Nat.le_of_ble_eq_true rfl) (hb hby own_d1_83) (pc' := 84) rfl
  have V_q_h14 := V_q_h13.other Wh14 ne_q_bh1
  have Zh14 : n0 ≤ hh14.size := Nat.le_trans Zh13 (Nat.le_of_eq Wh14.size.symm)
  have KKh14 := KKh13.wr Wh14 (Or.inr sz_bh1)
  have V_bh1_h14 : Arv Z hh14 bh1 kh1 .double (16 : Int32) [(.double d0), (.double d1), (.double d2), (.double 0), (.double d3), (.double d4), (.double d5), (.double 0), (.double d6), (.double d7), (.double d8), (.double 0), (.double 0), (.double 0), (.double 0), (.double 0)] (.double 0) := Vh14
  have Nh14 := Fr.snoc Xh14 Nh13 g_bh1
  obtain ⟨Th15, hh15, Xh15, eh15, Wh15, Vh15, sth15⟩ := own_stD (L := #[.val (.ref q)]) (S := [(.ref bh1)]) Xh14 hx hZ eh14 V_bh1_h14 (j := (13 : Int32)) (x := 0) (by decide) 13 (by decide) (Nat.le_of_ble_eq_true rfl) (hb hby own_d1_88) (pc' := 89) rfl
  have V_q_h15 := V_q_h14.other Wh15 ne_q_bh1
  have Zh15 : n0 ≤ hh15.size := Nat.le_trans Zh14 (Nat.le_of_eq Wh15.size.symm)
  have KKh15 := KKh14.wr Wh15 (Or.inr sz_bh1)
  have V_bh1_h15 : Arv Z hh15 bh1 kh1 .double (16 : Int32) [(.double d0), (.double d1), (.double d2), (.double 0), (.double d3), (.double d4), (.double d5), (.double 0), (.double d6), (.double d7), (.double d8), (.double 0), (.double 0), (.double 0), (.double 0), (.double 0)] (.double 0) := Vh15
  have Nh15 := Fr.snoc Xh15 Nh14 g_bh1
  obtain ⟨Th16, hh16, Xh16, eh16, Wh16, Vh16, sth16⟩ := own_stD (L := #[.val (.ref q)]) (S := [(.ref bh1)]) Xh15 hx hZ eh15 V_bh1_h15 (j := (14 : Int32)) (x := 0) (by decide) 14 (by decide) (Nat.le_of_ble_eq_true rfl) (hb hby own_d1_93) (pc' := 94) rfl
  have V_q_h16 := V_q_h15.other Wh16 ne_q_bh1
  have Zh16 : n0 ≤ hh16.size := Nat.le_trans Zh15 (Nat.le_of_eq Wh16.size.symm)
  have KKh16 := KKh15.wr Wh16 (Or.inr sz_bh1)
  have V_bh1_h16 : Arv Z hh16 bh1 kh1 .double (16 : Int32) [(.double d0), (.double d1), (.double d2), (.double 0), (.double d3), (.double d4), (.double d5), (.double 0), (.double d6), (.double d7), (.double d8), (.double 0), (.double 0), (.double 0), (.double 0), (.double 0)] (.double 0) := Vh16
  have Nh16 := Fr.snoc Xh16 Nh15 g_bh1
  obtain ⟨Th17, hh17, Xh17, eh17, Wh17, Vh17, sth17⟩ := own_stD (L := #[.val (.ref q)]) (S := [(.ref bh1)]) Xh16 hx hZ eh16 V_bh1_h16 (j := (15 : Int32)) (x := 4607182418800017408) (by decide) 15 (by decide) (Nat.le_of_ble_eq_true rfl) (hb hby own_d1_98) (pc' := 99) rfl
  have V_q_h17 := V_q_h16.other Wh17 ne_q_bh1
  have Zh17 : n0 ≤ hh17.size := Nat.le_trans Zh16 (Nat.le_of_eq Wh17.size.symm)
  have KKh17 := KKh16.wr Wh17 (Or.inr sz_bh1)
  have V_bh1_h17 : Arv Z hh17 bh1 kh1 .double (16 : Int32) [(.double d0), (.double d1), (.double d2), (.double 0), (.double d3), (.double d4), (.double d5), (.double 0), (.double d6), (.double d7), (.double d8), (.double 0), (.double 0), (.double 0), (.double 0), (.double 4607182418800017408)] (.double 0) := Vh17
  have Nh17 := Fr.snoc Xh17 Nh16 g_bh1
  obtain ⟨fs, hr, hrun, hended, hW, hsame⟩ := Xh17.leave (v := some (.ref bh1)) (fun h => by rw [Bd.returns] at h; cases h)
  refine ⟨_, _, pre0 _ ?_, hrun, hended, _, _, rfl, ?_, ⟨_, rfl⟩, hW, hsame.mono (by decide) (by decide)⟩
  · refine own_s_bipush X0.here hx (hb hby own_d1_0) (pc' := 2) rfl (v := (16 : Int32)) (by decide) ?_
    refine sth1 _ ?_
    refine own_s_dup Xh1.here hx (hb hby own_d1_4) (pc' := 5) rfl rfl ?_
    refine own_s_iconst Xh1.here hx (hb hby own_d1_5) (pc' := 6) rfl (v := (0 : Int32)) (by decide) ?_
    refine own_s_aloadN Xh1.here hx (hb hby own_d1_6) (pc' := 7) rfl rfl rfl ?_
    refine own_s_iconst Xh1.here hx (hb hby own_d1_7) (pc' := 8) rfl (v := (0 : Int32)) (by decide) ?_
    refine own_ldD Xh1 hx hZ eh1 V_q_h1 (j := (0 : Int32)) (x := d0) (by decide) rfl (hb hby own_d1_8) (pc' := 9) rfl ?_
    refine sth2 _ ?_
    refine own_s_dup Xh2.here hx (hb hby own_d1_10) (pc' := 11) rfl rfl ?_
    refine own_s_iconst Xh2.here hx (hb hby own_d1_11) (pc' := 12) rfl (v := (1 : Int32)) (by decide) ?_
    refine own_s_aloadN Xh2.here hx (hb hby own_d1_12) (pc' := 13) rfl rfl rfl ?_
    refine own_s_iconst Xh2.here hx (hb hby own_d1_13) (pc' := 14) rfl (v := (1 : Int32)) (by decide) ?_
    refine own_ldD Xh2 hx hZ eh2 V_q_h2 (j := (1 : Int32)) (x := d1) (by decide) rfl (hb hby own_d1_14) (pc' := 15) rfl ?_
    refine sth3 _ ?_
    refine own_s_dup Xh3.here hx (hb hby own_d1_16) (pc' := 17) rfl rfl ?_
    refine own_s_iconst Xh3.here hx (hb hby own_d1_17) (pc' := 18) rfl (v := (2 : Int32)) (by decide) ?_
    refine own_s_aloadN Xh3.here hx (hb hby own_d1_18) (pc' := 19) rfl rfl rfl ?_
    refine own_s_iconst Xh3.here hx (hb hby own_d1_19) (pc' := 20) rfl (v := (2 : Int32)) (by decide) ?_
    refine own_ldD Xh3 hx hZ eh3 V_q_h3 (j := (2 : Int32)) (x := d2) (by decide) rfl (hb hby own_d1_20) (pc' := 21) rfl ?_
    refine sth4 _ ?_
    refine own_s_dup Xh4.here hx (hb hby own_d1_22) (pc' := 23) rfl rfl ?_
    refine own_s_iconst Xh4.here hx (hb hby own_d1_23) (pc' := 24) rfl (v := (3 : Int32)) (by decide) ?_
    refine own_s_dconst0 Xh4.here hx (hb hby own_d1_24) (pc' := 25) rfl  ?_
    refine sth5 _ ?_
    refine own_s_dup Xh5.here hx (hb hby own_d1_26) (pc' := 27) rfl rfl ?_
    refine own_s_iconst Xh5.here hx (hb hby own_d1_27) (pc' := 28) rfl (v := (4 : Int32)) (by decide) ?_
    refine own_s_aloadN Xh5.here hx (hb hby own_d1_28) (pc' := 29) rfl rfl rfl ?_
    refine own_s_iconst Xh5.here hx (hb hby own_d1_29) (pc' := 30) rfl (v := (3 : Int32)) (by decide) ?_
    refine own_ldD Xh5 hx hZ eh5 V_q_h5 (j := (3 : Int32)) (x := d3) (by decide) rfl (hb hby own_d1_30) (pc' := 31) rfl ?_
    refine sth6 _ ?_
    refine own_s_dup Xh6.here hx (hb hby own_d1_32) (pc' := 33) rfl rfl ?_
    refine own_s_iconst Xh6.here hx (hb hby own_d1_33) (pc' := 34) rfl (v := (5 : Int32)) (by decide) ?_
    refine own_s_aloadN Xh6.here hx (hb hby own_d1_34) (pc' := 35) rfl rfl rfl ?_
    refine own_s_iconst Xh6.here hx (hb hby own_d1_35) (pc' := 36) rfl (v := (4 : Int32)) (by decide) ?_
    refine own_ldD Xh6 hx hZ eh6 V_q_h6 (j := (4 : Int32)) (x := d4) (by decide) rfl (hb hby own_d1_36) (pc' := 37) rfl ?_
    refine sth7 _ ?_
    refine own_s_dup Xh7.here hx (hb hby own_d1_38) (pc' := 39) rfl rfl ?_
    refine own_s_bipush Xh7.here hx (hb hby own_d1_39) (pc' := 41) rfl (v := (6 : Int32)) (by decide) ?_
    refine own_s_aloadN Xh7.here hx (hb hby own_d1_41) (pc' := 42) rfl rfl rfl ?_
    refine own_s_iconst Xh7.here hx (hb hby own_d1_42) (pc' := 43) rfl (v := (5 : Int32)) (by decide) ?_
    refine own_ldD Xh7 hx hZ eh7 V_q_h7 (j := (5 : Int32)) (x := d5) (by decide) rfl (hb hby own_d1_43) (pc' := 44) rfl ?_
    refine sth8 _ ?_
    refine own_s_dup Xh8.here hx (hb hby own_d1_45) (pc' := 46) rfl rfl ?_
    refine own_s_bipush Xh8.here hx (hb hby own_d1_46) (pc' := 48) rfl (v := (7 : Int32)) (by decide) ?_
    refine own_s_dconst0 Xh8.here hx (hb hby own_d1_48) (pc' := 49) rfl  ?_
    refine sth9 _ ?_
    refine own_s_dup Xh9.here hx (hb hby own_d1_50) (pc' := 51) rfl rfl ?_
    refine own_s_bipush Xh9.here hx (hb hby own_d1_51) (pc' := 53) rfl (v := (8 : Int32)) (by decide) ?_
    refine own_s_aloadN Xh9.here hx (hb hby own_d1_53) (pc' := 54) rfl rfl rfl ?_
    refine own_s_bipush Xh9.here hx (hb hby own_d1_54) (pc' := 56) rfl (v := (6 : Int32)) (by decide) ?_
    refine own_ldD Xh9 hx hZ eh9 V_q_h9 (j := (6 : Int32)) (x := d6) (by decide) rfl (hb hby own_d1_56) (pc' := 57) rfl ?_
    refine sth10 _ ?_
    refine own_s_dup Xh10.here hx (hb hby own_d1_58) (pc' := 59) rfl rfl ?_
    refine own_s_bipush Xh10.here hx (hb hby own_d1_59) (pc' := 61) rfl (v := (9 : Int32)) (by decide) ?_
    refine own_s_aloadN Xh10.here hx (hb hby own_d1_61) (pc' := 62) rfl rfl rfl ?_
    refine own_s_bipush Xh10.here hx (hb hby own_d1_62) (pc' := 64) rfl (v := (7 : Int32)) (by decide) ?_
    refine own_ldD Xh10 hx hZ eh10 V_q_h10 (j := (7 : Int32)) (x := d7) (by decide) rfl (hb hby own_d1_64) (pc' := 65) rfl ?_
    refine sth11 _ ?_
    refine own_s_dup Xh11.here hx (hb hby own_d1_66) (pc' := 67) rfl rfl ?_
    refine own_s_bipush Xh11.here hx (hb hby own_d1_67) (pc' := 69) rfl (v := (10 : Int32)) (by decide) ?_
    refine own_s_aloadN Xh11.here hx (hb hby own_d1_69) (pc' := 70) rfl rfl rfl ?_
    refine own_s_bipush Xh11.here hx (hb hby own_d1_70) (pc' := 72) rfl (v := (8 : Int32)) (by decide) ?_
    refine own_ldD Xh11 hx hZ eh11 V_q_h11 (j := (8 : Int32)) (x := d8) (by decide) rfl (hb hby own_d1_72) (pc' := 73) rfl ?_
    refine sth12 _ ?_
    refine own_s_dup Xh12.here hx (hb hby own_d1_74) (pc' := 75) rfl rfl ?_
    refine own_s_bipush Xh12.here hx (hb hby own_d1_75) (pc' := 77) rfl (v := (11 : Int32)) (by decide) ?_
    refine own_s_dconst0 Xh12.here hx (hb hby own_d1_77) (pc' := 78) rfl  ?_
    refine sth13 _ ?_
    refine own_s_dup Xh13.here hx (hb hby own_d1_79) (pc' := 80) rfl rfl ?_
    refine own_s_bipush Xh13.here hx (hb hby own_d1_80) (pc' := 82) rfl (v := (12 : Int32)) (by decide) ?_
    refine own_s_dconst0 Xh13.here hx (hb hby own_d1_82) (pc' := 83) rfl  ?_
    refine sth14 _ ?_
    refine own_s_dup Xh14.here hx (hb hby own_d1_84) (pc' := 85) rfl rfl ?_
    refine own_s_bipush Xh14.here hx (hb hby own_d1_85) (pc' := 87) rfl (v := (13 : Int32)) (by decide) ?_
    refine own_s_dconst0 Xh14.here hx (hb hby own_d1_87) (pc' := 88) rfl  ?_
    refine sth15 _ ?_
    refine own_s_dup Xh15.here hx (hb hby own_d1_89) (pc' := 90) rfl rfl ?_
    refine own_s_bipush Xh15.here hx (hb hby own_d1_90) (pc' := 92) rfl (v := (14 : Int32)) (by decide) ?_
    refine own_s_dconst0 Xh15.here hx (hb hby own_d1_92) (pc' := 93) rfl  ?_
    refine sth16 _ ?_
    refine own_s_dup Xh16.here hx (hb hby own_d1_94) (pc' := 95) rfl rfl ?_
    refine own_s_bipush Xh16.here hx (hb hby own_d1_95) (pc' := 97) rfl (v := (15 : Int32)) (by decide) ?_
    refine own_s_dconst1 Xh16.here hx (hb hby own_d1_97) (pc' := 98) rfl  ?_
    refine sth17 _ ?_
    exact own_retR Xh17 hx Bd.returns rfl (hb hby own_d1_99) hr
  · show own_Q_h Z q d0 d1 d2 d3 d4 d5 d6 d7 d8 qk h0 n0 _ Th17.heap _
    rw [eh17]
    exact ⟨bh1, kh1, rfl, Nh17, KKh17, sz_bh1, V_bh1_h17⟩
theorem own_d2_0 : decode method_3_code 0 = .ok (.iload_n 3, 1) := by decide +kernel
theorem own_d2_1 : decode method_3_code 1 = .ok (.i2d, 1) := by decide +kernel
theorem own_d2_2 : decode method_3_code 2 = .ok (.dstore 6, 2) := by decide +kernel
theorem own_d2_4 : decode method_3_code 4 = .ok (.iload 4, 2) := by decide +kernel
theorem own_d2_6 : decode method_3_code 6 = .ok (.i2d, 1) := by decide +kernel
theorem own_d2_7 : decode method_3_code 7 = .ok (.dstore 8, 2) := by decide +kernel
theorem own_d2_9 : decode method_3_code 9 = .ok (.iload 5, 2) := by decide +kernel
theorem own_d2_11 : decode method_3_code 11 = .ok (.i2d, 1) := by decide +kernel
theorem own_d2_12 : decode method_3_code 12 = .ok (.dstore 10, 2) := by decide +kernel
theorem own_d2_14 : decode method_3_code 14 = .ok (.aload_n 0, 1) := by decide +kernel
theorem own_d2_15 : decode method_3_code 15 = .ok (.iconst 4, 1) := by decide +kernel
theorem own_d2_16 : decode method_3_code 16 = .ok (.iload_n 2, 1) := by decide +kernel
theorem own_d2_17 : decode method_3_code 17 = .ok (.imul, 1) := by decide +kernel
theorem own_d2_18 : decode method_3_code 18 = .ok (.daload, 1) := by decide +kernel
theorem own_d2_19 : decode method_3_code 19 = .ok (.dload 6, 2) := by decide +kernel
theorem own_d2_21 : decode method_3_code 21 = .ok (.dcmp .l, 1) := by decide +kernel
theorem own_d2_22 : decode method_3_code 22 = .ok (.ifCond .ne 82, 3) := by decide +kernel
theorem own_d2_25 : decode method_3_code 25 = .ok (.aload_n 0, 1) := by decide +kernel
theorem own_d2_26 : decode method_3_code 26 = .ok (.iconst 4, 1) := by decide +kernel
theorem own_d2_27 : decode method_3_code 27 = .ok (.iload_n 2, 1) := by decide +kernel
theorem own_d2_28 : decode method_3_code 28 = .ok (.imul, 1) := by decide +kernel
theorem own_d2_29 : decode method_3_code 29 = .ok (.iconst 1, 1) := by decide +kernel
theorem own_d2_30 : decode method_3_code 30 = .ok (.iadd, 1) := by decide +kernel
theorem own_d2_31 : decode method_3_code 31 = .ok (.daload, 1) := by decide +kernel
theorem own_d2_32 : decode method_3_code 32 = .ok (.dload 8, 2) := by decide +kernel
theorem own_d2_34 : decode method_3_code 34 = .ok (.dcmp .l, 1) := by decide +kernel
theorem own_d2_35 : decode method_3_code 35 = .ok (.ifCond .ne 69, 3) := by decide +kernel
theorem own_d2_38 : decode method_3_code 38 = .ok (.aload_n 0, 1) := by decide +kernel
theorem own_d2_39 : decode method_3_code 39 = .ok (.iconst 4, 1) := by decide +kernel
theorem own_d2_40 : decode method_3_code 40 = .ok (.iload_n 2, 1) := by decide +kernel
theorem own_d2_41 : decode method_3_code 41 = .ok (.imul, 1) := by decide +kernel
theorem own_d2_42 : decode method_3_code 42 = .ok (.iconst 2, 1) := by decide +kernel
theorem own_d2_43 : decode method_3_code 43 = .ok (.iadd, 1) := by decide +kernel
theorem own_d2_44 : decode method_3_code 44 = .ok (.daload, 1) := by decide +kernel
theorem own_d2_45 : decode method_3_code 45 = .ok (.dload 10, 2) := by decide +kernel
theorem own_d2_47 : decode method_3_code 47 = .ok (.dcmp .l, 1) := by decide +kernel
theorem own_d2_48 : decode method_3_code 48 = .ok (.ifCond .ne 56, 3) := by decide +kernel
theorem own_d2_51 : decode method_3_code 51 = .ok (.aload_n 0, 1) := by decide +kernel
theorem own_d2_52 : decode method_3_code 52 = .ok (.iconst 4, 1) := by decide +kernel
theorem own_d2_53 : decode method_3_code 53 = .ok (.iload_n 2, 1) := by decide +kernel
theorem own_d2_54 : decode method_3_code 54 = .ok (.imul, 1) := by decide +kernel
theorem own_d2_55 : decode method_3_code 55 = .ok (.iconst 3, 1) := by decide +kernel
theorem own_d2_56 : decode method_3_code 56 = .ok (.iadd, 1) := by decide +kernel
theorem own_d2_57 : decode method_3_code 57 = .ok (.daload, 1) := by decide +kernel
theorem own_d2_58 : decode method_3_code 58 = .ok (.dconst 0, 1) := by decide +kernel
theorem own_d2_59 : decode method_3_code 59 = .ok (.dcmp .l, 1) := by decide +kernel
theorem own_d2_60 : decode method_3_code 60 = .ok (.ifCond .ne 44, 3) := by decide +kernel
theorem own_d2_63 : decode method_3_code 63 = .ok (.aload_n 1, 1) := by decide +kernel
theorem own_d2_64 : decode method_3_code 64 = .ok (.iconst 3, 1) := by decide +kernel
theorem own_d2_65 : decode method_3_code 65 = .ok (.iload_n 2, 1) := by decide +kernel
theorem own_d2_66 : decode method_3_code 66 = .ok (.imul, 1) := by decide +kernel
theorem own_d2_67 : decode method_3_code 67 = .ok (.daload, 1) := by decide +kernel
theorem own_d2_68 : decode method_3_code 68 = .ok (.dload 6, 2) := by decide +kernel
theorem own_d2_70 : decode method_3_code 70 = .ok (.dcmp .l, 1) := by decide +kernel
theorem own_d2_71 : decode method_3_code 71 = .ok (.ifCond .ne 33, 3) := by decide +kernel
theorem own_d2_74 : decode method_3_code 74 = .ok (.aload_n 1, 1) := by decide +kernel
theorem own_d2_75 : decode method_3_code 75 = .ok (.iconst 3, 1) := by decide +kernel
theorem own_d2_76 : decode method_3_code 76 = .ok (.iload_n 2, 1) := by decide +kernel
theorem own_d2_77 : decode method_3_code 77 = .ok (.imul, 1) := by decide +kernel
theorem own_d2_78 : decode method_3_code 78 = .ok (.iconst 1, 1) := by decide +kernel
theorem own_d2_79 : decode method_3_code 79 = .ok (.iadd, 1) := by decide +kernel
theorem own_d2_80 : decode method_3_code 80 = .ok (.daload, 1) := by decide +kernel
theorem own_d2_81 : decode method_3_code 81 = .ok (.dload 8, 2) := by decide +kernel
theorem own_d2_83 : decode method_3_code 83 = .ok (.dcmp .l, 1) := by decide +kernel
theorem own_d2_84 : decode method_3_code 84 = .ok (.ifCond .ne 20, 3) := by decide +kernel
theorem own_d2_87 : decode method_3_code 87 = .ok (.aload_n 1, 1) := by decide +kernel
theorem own_d2_88 : decode method_3_code 88 = .ok (.iconst 3, 1) := by decide +kernel
theorem own_d2_89 : decode method_3_code 89 = .ok (.iload_n 2, 1) := by decide +kernel
theorem own_d2_90 : decode method_3_code 90 = .ok (.imul, 1) := by decide +kernel
theorem own_d2_91 : decode method_3_code 91 = .ok (.iconst 2, 1) := by decide +kernel
theorem own_d2_92 : decode method_3_code 92 = .ok (.iadd, 1) := by decide +kernel
theorem own_d2_93 : decode method_3_code 93 = .ok (.daload, 1) := by decide +kernel
theorem own_d2_94 : decode method_3_code 94 = .ok (.dload 10, 2) := by decide +kernel
theorem own_d2_96 : decode method_3_code 96 = .ok (.dcmp .l, 1) := by decide +kernel
theorem own_d2_97 : decode method_3_code 97 = .ok (.ifCond .ne 7, 3) := by decide +kernel
theorem own_d2_100 : decode method_3_code 100 = .ok (.iconst 1, 1) := by decide +kernel
theorem own_d2_101 : decode method_3_code 101 = .ok (.goto 4, 3) := by decide +kernel
theorem own_d2_105 : decode method_3_code 105 = .ok (.ireturn, 1) := by decide +kernel
theorem own_pn_com_example_pintrinsic_pintrinsic_MatricesHomogeneousPinLaw : plainName "com/example/pintrinsic/pintrinsic/MatricesHomogeneousPinLaw" = true := by first | (simp [plainName, overriddenIn]; done) | decide +kernel
theorem own_ef_r0 (m : MethodId) (ra : Addr) (la : Addr) (x : Int32) (y : Int32) (z : Int32) : entryFrame m #[(.ref ra), (.ref la), (.int (0 : Int32)), (.int x), (.int y), (.int z)] 12 = mkF m 0 #[.val (.ref ra), .val (.ref la), .val (.int (0 : Int32)), .val (.int x), .val (.int y), .val (.int z), .unset, .unset, .unset, .unset, .unset, .unset] [] := by first | (simp [entryFrame, mkF, argsToLocals, Value.category]; done) | rfl
set_option maxRecDepth 65536 in
set_option maxHeartbeats 40000000 in
theorem own_rm_r0 (l : Launch) (Z : State) (a0 : Array Value) (hw : ∀ d ∈ tables_1, d.before a0 Z = true) (ws : List Jvm.Cond) (ra : Addr) (ee0 : UInt64) (ee1 : UInt64) (ee2 : UInt64) (ee3 : UInt64) (ee4 : UInt64) (ee5 : UInt64) (ee6 : UInt64) (ee7 : UInt64) (ee8 : UInt64) (ee9 : UInt64) (ee10 : UInt64) (ee11 : UInt64) (ee12 : UInt64) (ee13 : UInt64) (ee14 : UInt64) (ee15 : UInt64) (la : Addr) (d0 : UInt64) (d1 : UInt64) (d2 : UInt64) (d3 : UInt64) (d4 : UInt64) (d5 : UInt64) (d6 : UInt64) (d7 : UInt64) (d8 : UInt64) (x : Int32) (y : Int32) (z : Int32) {rak : ClassId} {lak : ClassId} (h0 : Heap) (n0 : Nat) (Z0 : n0 ≤ h0.size) (V_ra : Arv Z h0 ra rak .double (16 : Int32) [(.double ee0), (.double ee1), (.double ee2), (.double ee3), (.double ee4), (.double ee5), (.double ee6), (.double ee7), (.double ee8), (.double ee9), (.double ee10), (.double ee11), (.double ee12), (.double ee13), (.double ee14), (.double ee15)] (.double 0)) (V_la : Arv Z h0 la lak .double (9 : Int32) [(.double d0), (.double d1), (.double d2), (.double d3), (.double d4), (.double d5), (.double d6), (.double d7), (.double d8)] (.double 0)) (r0_hc21 : Op.cmpValue (FP.dcmp ee0 (FP.i2d x)) .l = (0 : Int32)) (r0_hc34 : Op.cmpValue (FP.dcmp ee1 (FP.i2d y)) .l = (0 : Int32)) (r0_hc47 : Op.cmpValue (FP.dcmp ee2 (FP.i2d z)) .l = (0 : Int32)) (r0_hc59 : Op.cmpValue (FP.dcmp ee3 0) .l = (0 : Int32)) (r0_hc70 : Op.cmpValue (FP.dcmp d0 (FP.i2d x)) .l = (0 : Int32)) (r0_hc83 : Op.cmpValue (FP.dcmp d1 (FP.i2d y)) .l = (0 : Int32)) (r0_hc96 : Op.cmpValue (FP.dcmp d2 (FP.i2d z)) .l = (0 : Int32)) :
    MetFree l (⟨"com/example/pintrinsic/pintrinsic/MatricesHomogeneousPinLaw", "row", "([D[DIIII)Z"⟩ : MethodName) (head1 (Jvm.Cond.code (⟨"com/example/pintrinsic/pintrinsic/MatricesHomogeneousPinLaw", "row", "([D[DIIII)Z"⟩ : MethodName) method_3_code 12 (some .boolean) :: ws) ({ frames := 0, cells := 0, slots := 0, locals := 0 } : Room)) (fun a U => a = #[(.ref ra), (.ref la), (.int (0 : Int32)), (.int x), (.int y), (.int z)] ∧ Z.Warmed39 U.vm ∧ U.heap = h0) (fun _ _ _ _ _ => True) (fun _ U o U' => ∃ v L, o = .returned v ∧ own_QP (some (.int (1 : Int32))) h0 n0 v U'.heap L ∧ FrameEnd U o U' L ({ frames := 0, cells := 0, slots := 0, locals := 0 } : Room).cells ({ frames := 0, cells := 0, slots := 0, locals := 0 } : Room).slots) := by
  refine MetFree.of_bodySF (plainFor_of_name own_pn_com_example_pintrinsic_pintrinsic_MatricesHomogeneousPinLaw) hisR ?_
  intro p e s m args below meth c s₁ Bd hml0 hP hK
  obtain ⟨rfl, hZ, hh⟩ := hP
  have hx := Bd.exec
  have hby := Bd.bytes
  have hml : c.maxLocals = 12 := hml0
  have hown : s.vm.findClass "com/example/pintrinsic/pintrinsic/MatricesHomogeneousPinLaw" = some m.cls := findClass_of_methodNamed Bd.named
  have hnm := (name_of_methodNamed Bd.named Bd.method).1
  have X0 : Stand p l e ({ frames := 0, cells := 0, slots := 0, locals := 0 } : Room) s m #[(.ref ra), (.ref la), (.int (0 : Int32)), (.int x), (.int y), (.int z)] below meth c s₁ [] 0 0 := Stand.of_body Bd
  have e0 : s₁.heap = h0 := by rw [← hh, Bd.state]; rfl
  have N0 := Fr.nil n0
  have pre0 : ∀ t, Steps p.tables e below (s₁.setTop (mkF m 0 #[.val (.ref ra), .val (.ref la), .val (.int (0 : Int32)), .val (.int x), .val (.int y), .val (.int z), .unset, .unset, .unset, .unset, .unset, .unset] [])) t → Steps p.tables e below (s₁.setTop (entryFrame m #[(.ref ra), (.ref la), (.int (0 : Int32)), (.int x), (.int y), (.int z)] 12)) t := fun t k => castTop (own_ef_r0 m ra la x y z) k
  obtain ⟨fs, hr, hrun, hended, hW, hsame⟩ := X0.leave (v := some (.int (1 : Int32))) (fun h => by rw [Bd.returns] at h; cases h)
  refine ⟨_, _, pre0 _ ?_, hrun, hended, _, _, rfl, ?_, ⟨_, rfl⟩, hW, hsame.mono (by decide) (by decide)⟩
  · refine own_s_iloadN X0.here hx (hb hby own_d2_0) (pc' := 1) rfl rfl ?_
    refine own_s_i2d X0.here hx (hb hby own_d2_1) (pc' := 2) rfl (v := (FP.i2d x)) rfl ?_
    refine own_s_dstore X0.here hx (hb hby own_d2_2) (pc' := 4) rfl (L' := #[.val (.ref ra), .val (.ref la), .val (.int (0 : Int32)), .val (.int x), .val (.int y), .val (.int z), .val (.double (FP.i2d x)), .second, .unset, .unset, .unset, .unset]) rfl ?_
    refine own_s_iload X0.here hx (hb hby own_d2_4) (pc' := 6) rfl rfl ?_
    refine own_s_i2d X0.here hx (hb hby own_d2_6) (pc' := 7) rfl (v := (FP.i2d y)) rfl ?_
    refine own_s_dstore X0.here hx (hb hby own_d2_7) (pc' := 9) rfl (L' := #[.val (.ref ra), .val (.ref la), .val (.int (0 : Int32)), .val (.int x), .val (.int y), .val (.int z), .val (.double (FP.i2d x)), .second, .val (.double (FP.i2d y)), .second, .unset, .unset]) rfl ?_
    refine own_s_iload X0.here hx (hb hby own_d2_9) (pc' := 11) rfl rfl ?_
    refine own_s_i2d X0.here hx (hb hby own_d2_11) (pc' := 12) rfl (v := (FP.i2d z)) rfl ?_
    refine own_s_dstore X0.here hx (hb hby own_d2_12) (pc' := 14) rfl (L' := #[.val (.ref ra), .val (.ref la), .val (.int (0 : Int32)), .val (.int x), .val (.int y), .val (.int z), .val (.double (FP.i2d x)), .second, .val (.double (FP.i2d y)), .second, .val (.double (FP.i2d z)), .second]) rfl ?_
    refine own_s_aloadN X0.here hx (hb hby own_d2_14) (pc' := 15) rfl rfl rfl ?_
    refine own_s_iconst X0.here hx (hb hby own_d2_15) (pc' := 16) rfl (v := (4 : Int32)) (by decide) ?_
    refine own_s_iloadN X0.here hx (hb hby own_d2_16) (pc' := 17) rfl rfl ?_
    refine own_s_imul X0.here hx (hb hby own_d2_17) (pc' := 18) rfl (v := (0 : Int32)) (by decide) ?_
    refine own_ldD X0 hx hZ e0 V_ra (j := (0 : Int32)) (x := ee0) (by decide) rfl (hb hby own_d2_18) (pc' := 19) rfl ?_
    refine own_s_dload X0.here hx (hb hby own_d2_19) (pc' := 21) rfl rfl ?_
    refine own_s_dcmp X0.here hx (hb hby own_d2_21) (pc' := 22) rfl (v := (0 : Int32)) r0_hc21 ?_
    refine own_s_ifNo X0.here hx (hb hby own_d2_22) (pc' := 25) rfl (by decide) ?_
    refine own_s_aloadN X0.here hx (hb hby own_d2_25) (pc' := 26) rfl rfl rfl ?_
    refine own_s_iconst X0.here hx (hb hby own_d2_26) (pc' := 27) rfl (v := (4 : Int32)) (by decide) ?_
    refine own_s_iloadN X0.here hx (hb hby own_d2_27) (pc' := 28) rfl rfl ?_
    refine own_s_imul X0.here hx (hb hby own_d2_28) (pc' := 29) rfl (v := (0 : Int32)) (by decide) ?_
    refine own_s_iconst X0.here hx (hb hby own_d2_29) (pc' := 30) rfl (v := (1 : Int32)) (by decide) ?_
    refine own_s_iadd X0.here hx (hb hby own_d2_30) (pc' := 31) rfl (v := (1 : Int32)) (by decide) ?_
    refine own_ldD X0 hx hZ e0 V_ra (j := (1 : Int32)) (x := ee1) (by decide) rfl (hb hby own_d2_31) (pc' := 32) rfl ?_
    refine own_s_dload X0.here hx (hb hby own_d2_32) (pc' := 34) rfl rfl ?_
    refine own_s_dcmp X0.here hx (hb hby own_d2_34) (pc' := 35) rfl (v := (0 : Int32)) r0_hc34 ?_
    refine own_s_ifNo X0.here hx (hb hby own_d2_35) (pc' := 38) rfl (by decide) ?_
    refine own_s_aloadN X0.here hx (hb hby own_d2_38) (pc' := 39) rfl rfl rfl ?_
    refine own_s_iconst X0.here hx (hb hby own_d2_39) (pc' := 40) rfl (v := (4 : Int32)) (by decide) ?_
    refine own_s_iloadN X0.here hx (hb hby own_d2_40) (pc' := 41) rfl rfl ?_
    refine own_s_imul X0.here hx (hb hby own_d2_41) (pc' := 42) rfl (v := (0 : Int32)) (by decide) ?_
    refine own_s_iconst X0.here hx (hb hby own_d2_42) (pc' := 43) rfl (v := (2 : Int32)) (by decide) ?_
    refine own_s_iadd X0.here hx (hb hby own_d2_43) (pc' := 44) rfl (v := (2 : Int32)) (by decide) ?_
    refine own_ldD X0 hx hZ e0 V_ra (j := (2 : Int32)) (x := ee2) (by decide) rfl (hb hby own_d2_44) (pc' := 45) rfl ?_
    refine own_s_dload X0.here hx (hb hby own_d2_45) (pc' := 47) rfl rfl ?_
    refine own_s_dcmp X0.here hx (hb hby own_d2_47) (pc' := 48) rfl (v := (0 : Int32)) r0_hc47 ?_
    refine own_s_ifNo X0.here hx (hb hby own_d2_48) (pc' := 51) rfl (by decide) ?_
    refine own_s_aloadN X0.here hx (hb hby own_d2_51) (pc' := 52) rfl rfl rfl ?_
    refine own_s_iconst X0.here hx (hb hby own_d2_52) (pc' := 53) rfl (v := (4 : Int32)) (by decide) ?_
    refine own_s_iloadN X0.here hx (hb hby own_d2_53) (pc' := 54) rfl rfl ?_
    refine own_s_imul X0.here hx (hb hby own_d2_54) (pc' := 55) rfl (v := (0 : Int32)) (by decide) ?_
    refine own_s_iconst X0.here hx (hb hby own_d2_55) (pc' := 56) rfl (v := (3 : Int32)) (by decide) ?_
    refine own_s_iadd X0.here hx (hb hby own_d2_56) (pc' := 57) rfl (v := (3 : Int32)) (by decide) ?_
    refine own_ldD X0 hx hZ e0 V_ra (j := (3 : Int32)) (x := ee3) (by decide) rfl (hb hby own_d2_57) (pc' := 58) rfl ?_
    refine own_s_dconst0 X0.here hx (hb hby own_d2_58) (pc' := 59) rfl  ?_
    refine own_s_dcmp X0.here hx (hb hby own_d2_59) (pc' := 60) rfl (v := (0 : Int32)) r0_hc59 ?_
    refine own_s_ifNo X0.here hx (hb hby own_d2_60) (pc' := 63) rfl (by decide) ?_
    refine own_s_aloadN X0.here hx (hb hby own_d2_63) (pc' := 64) rfl rfl rfl ?_
    refine own_s_iconst X0.here hx (hb hby own_d2_64) (pc' := 65) rfl (v := (3 : Int32)) (by decide) ?_
    refine own_s_iloadN X0.here hx (hb hby own_d2_65) (pc' := 66) rfl rfl ?_
    refine own_s_imul X0.here hx (hb hby own_d2_66) (pc' := 67) rfl (v := (0 : Int32)) (by decide) ?_
    refine own_ldD X0 hx hZ e0 V_la (j := (0 : Int32)) (x := d0) (by decide) rfl (hb hby own_d2_67) (pc' := 68) rfl ?_
    refine own_s_dload X0.here hx (hb hby own_d2_68) (pc' := 70) rfl rfl ?_
    refine own_s_dcmp X0.here hx (hb hby own_d2_70) (pc' := 71) rfl (v := (0 : Int32)) r0_hc70 ?_
    refine own_s_ifNo X0.here hx (hb hby own_d2_71) (pc' := 74) rfl (by decide) ?_
    refine own_s_aloadN X0.here hx (hb hby own_d2_74) (pc' := 75) rfl rfl rfl ?_
    refine own_s_iconst X0.here hx (hb hby own_d2_75) (pc' := 76) rfl (v := (3 : Int32)) (by decide) ?_
    refine own_s_iloadN X0.here hx (hb hby own_d2_76) (pc' := 77) rfl rfl ?_
    refine own_s_imul X0.here hx (hb hby own_d2_77) (pc' := 78) rfl (v := (0 : Int32)) (by decide) ?_
    refine own_s_iconst X0.here hx (hb hby own_d2_78) (pc' := 79) rfl (v := (1 : Int32)) (by decide) ?_
    refine own_s_iadd X0.here hx (hb hby own_d2_79) (pc' := 80) rfl (v := (1 : Int32)) (by decide) ?_
    refine own_ldD X0 hx hZ e0 V_la (j := (1 : Int32)) (x := d1) (by decide) rfl (hb hby own_d2_80) (pc' := 81) rfl ?_
    refine own_s_dload X0.here hx (hb hby own_d2_81) (pc' := 83) rfl rfl ?_
    refine own_s_dcmp X0.here hx (hb hby own_d2_83) (pc' := 84) rfl (v := (0 : Int32)) r0_hc83 ?_
    refine own_s_ifNo X0.here hx (hb hby own_d2_84) (pc' := 87) rfl (by decide) ?_
    refine own_s_aloadN X0.here hx (hb hby own_d2_87) (pc' := 88) rfl rfl rfl ?_
    refine own_s_iconst X0.here hx (hb hby own_d2_88) (pc' := 89) rfl (v := (3 : Int32)) (by decide) ?_
    refine own_s_iloadN X0.here hx (hb hby own_d2_89) (pc' := 90) rfl rfl ?_
    refine own_s_imul X0.here hx (hb hby own_d2_90) (pc' := 91) rfl (v := (0 : Int32)) (by decide) ?_
    refine own_s_iconst X0.here hx (hb hby own_d2_91) (pc' := 92) rfl (v := (2 : Int32)) (by decide) ?_
    refine own_s_iadd X0.here hx (hb hby own_d2_92) (pc' := 93) rfl (v := (2 : Int32)) (by decide) ?_
    refine own_ldD X0 hx hZ e0 V_la (j := (2 : Int32)) (x := d2) (by decide) rfl (hb hby own_d2_93) (pc' := 94) rfl ?_
    refine own_s_dload X0.here hx (hb hby own_d2_94) (pc' := 96) rfl rfl ?_
    refine own_s_dcmp X0.here hx (hb hby own_d2_96) (pc' := 97) rfl (v := (0 : Int32)) r0_hc96 ?_
    refine own_s_ifNo X0.here hx (hb hby own_d2_97) (pc' := 100) rfl (by decide) ?_
    refine own_s_iconst X0.here hx (hb hby own_d2_100) (pc' := 101) rfl (v := (1 : Int32)) (by decide) ?_
    refine own_s_goto X0.here hx (hb hby own_d2_101) (by decide) (pc' := 105) (by decide) ?_
    exact retN X0 hx (t := .boolean) Bd.returns (by simp) (hb hby own_d2_105) hr
  · show own_QP (some (.int (1 : Int32))) h0 n0 _ s₁.heap _
    rw [e0]
    exact ⟨rfl, N0, rfl⟩
theorem own_ef_r1 (m : MethodId) (ra : Addr) (la : Addr) (x : Int32) (y : Int32) (z : Int32) : entryFrame m #[(.ref ra), (.ref la), (.int (1 : Int32)), (.int x), (.int y), (.int z)] 12 = mkF m 0 #[.val (.ref ra), .val (.ref la), .val (.int (1 : Int32)), .val (.int x), .val (.int y), .val (.int z), .unset, .unset, .unset, .unset, .unset, .unset] [] := by first | (simp [entryFrame, mkF, argsToLocals, Value.category]; done) | rfl
set_option maxRecDepth 65536 in
set_option maxHeartbeats 40000000 in
theorem own_rm_r1 (l : Launch) (Z : State) (a0 : Array Value) (hw : ∀ d ∈ tables_1, d.before a0 Z = true) (ws : List Jvm.Cond) (ra : Addr) (ee0 : UInt64) (ee1 : UInt64) (ee2 : UInt64) (ee3 : UInt64) (ee4 : UInt64) (ee5 : UInt64) (ee6 : UInt64) (ee7 : UInt64) (ee8 : UInt64) (ee9 : UInt64) (ee10 : UInt64) (ee11 : UInt64) (ee12 : UInt64) (ee13 : UInt64) (ee14 : UInt64) (ee15 : UInt64) (la : Addr) (d0 : UInt64) (d1 : UInt64) (d2 : UInt64) (d3 : UInt64) (d4 : UInt64) (d5 : UInt64) (d6 : UInt64) (d7 : UInt64) (d8 : UInt64) (x : Int32) (y : Int32) (z : Int32) {rak : ClassId} {lak : ClassId} (h0 : Heap) (n0 : Nat) (Z0 : n0 ≤ h0.size) (V_ra : Arv Z h0 ra rak .double (16 : Int32) [(.double ee0), (.double ee1), (.double ee2), (.double ee3), (.double ee4), (.double ee5), (.double ee6), (.double ee7), (.double ee8), (.double ee9), (.double ee10), (.double ee11), (.double ee12), (.double ee13), (.double ee14), (.double ee15)] (.double 0)) (V_la : Arv Z h0 la lak .double (9 : Int32) [(.double d0), (.double d1), (.double d2), (.double d3), (.double d4), (.double d5), (.double d6), (.double d7), (.double d8)] (.double 0)) (r1_hc21 : Op.cmpValue (FP.dcmp ee4 (FP.i2d x)) .l = (0 : Int32)) (r1_hc34 : Op.cmpValue (FP.dcmp ee5 (FP.i2d y)) .l = (0 : Int32)) (r1_hc47 : Op.cmpValue (FP.dcmp ee6 (FP.i2d z)) .l = (0 : Int32)) (r1_hc59 : Op.cmpValue (FP.dcmp ee7 0) .l = (0 : Int32)) (r1_hc70 : Op.cmpValue (FP.dcmp d3 (FP.i2d x)) .l = (0 : Int32)) (r1_hc83 : Op.cmpValue (FP.dcmp d4 (FP.i2d y)) .l = (0 : Int32)) (r1_hc96 : Op.cmpValue (FP.dcmp d5 (FP.i2d z)) .l = (0 : Int32)) :
    MetFree l (⟨"com/example/pintrinsic/pintrinsic/MatricesHomogeneousPinLaw", "row", "([D[DIIII)Z"⟩ : MethodName) (head1 (Jvm.Cond.code (⟨"com/example/pintrinsic/pintrinsic/MatricesHomogeneousPinLaw", "row", "([D[DIIII)Z"⟩ : MethodName) method_3_code 12 (some .boolean) :: ws) ({ frames := 0, cells := 0, slots := 0, locals := 0 } : Room)) (fun a U => a = #[(.ref ra), (.ref la), (.int (1 : Int32)), (.int x), (.int y), (.int z)] ∧ Z.Warmed39 U.vm ∧ U.heap = h0) (fun _ _ _ _ _ => True) (fun _ U o U' => ∃ v L, o = .returned v ∧ own_QP (some (.int (1 : Int32))) h0 n0 v U'.heap L ∧ FrameEnd U o U' L ({ frames := 0, cells := 0, slots := 0, locals := 0 } : Room).cells ({ frames := 0, cells := 0, slots := 0, locals := 0 } : Room).slots) := by
  refine MetFree.of_bodySF (plainFor_of_name own_pn_com_example_pintrinsic_pintrinsic_MatricesHomogeneousPinLaw) hisR ?_
  intro p e s m args below meth c s₁ Bd hml0 hP hK
  obtain ⟨rfl, hZ, hh⟩ := hP
  have hx := Bd.exec
  have hby := Bd.bytes
  have hml : c.maxLocals = 12 := hml0
  have hown : s.vm.findClass "com/example/pintrinsic/pintrinsic/MatricesHomogeneousPinLaw" = some m.cls := findClass_of_methodNamed Bd.named
  have hnm := (name_of_methodNamed Bd.named Bd.method).1
  have X0 : Stand p l e ({ frames := 0, cells := 0, slots := 0, locals := 0 } : Room) s m #[(.ref ra), (.ref la), (.int (1 : Int32)), (.int x), (.int y), (.int z)] below meth c s₁ [] 0 0 := Stand.of_body Bd
  have e0 : s₁.heap = h0 := by rw [← hh, Bd.state]; rfl
  have N0 := Fr.nil n0
  have pre0 : ∀ t, Steps p.tables e below (s₁.setTop (mkF m 0 #[.val (.ref ra), .val (.ref la), .val (.int (1 : Int32)), .val (.int x), .val (.int y), .val (.int z), .unset, .unset, .unset, .unset, .unset, .unset] [])) t → Steps p.tables e below (s₁.setTop (entryFrame m #[(.ref ra), (.ref la), (.int (1 : Int32)), (.int x), (.int y), (.int z)] 12)) t := fun t k => castTop (own_ef_r1 m ra la x y z) k
  obtain ⟨fs, hr, hrun, hended, hW, hsame⟩ := X0.leave (v := some (.int (1 : Int32))) (fun h => by rw [Bd.returns] at h; cases h)
  refine ⟨_, _, pre0 _ ?_, hrun, hended, _, _, rfl, ?_, ⟨_, rfl⟩, hW, hsame.mono (by decide) (by decide)⟩
  · refine own_s_iloadN X0.here hx (hb hby own_d2_0) (pc' := 1) rfl rfl ?_
    refine own_s_i2d X0.here hx (hb hby own_d2_1) (pc' := 2) rfl (v := (FP.i2d x)) rfl ?_
    refine own_s_dstore X0.here hx (hb hby own_d2_2) (pc' := 4) rfl (L' := #[.val (.ref ra), .val (.ref la), .val (.int (1 : Int32)), .val (.int x), .val (.int y), .val (.int z), .val (.double (FP.i2d x)), .second, .unset, .unset, .unset, .unset]) rfl ?_
    refine own_s_iload X0.here hx (hb hby own_d2_4) (pc' := 6) rfl rfl ?_
    refine own_s_i2d X0.here hx (hb hby own_d2_6) (pc' := 7) rfl (v := (FP.i2d y)) rfl ?_
    refine own_s_dstore X0.here hx (hb hby own_d2_7) (pc' := 9) rfl (L' := #[.val (.ref ra), .val (.ref la), .val (.int (1 : Int32)), .val (.int x), .val (.int y), .val (.int z), .val (.double (FP.i2d x)), .second, .val (.double (FP.i2d y)), .second, .unset, .unset]) rfl ?_
    refine own_s_iload X0.here hx (hb hby own_d2_9) (pc' := 11) rfl rfl ?_
    refine own_s_i2d X0.here hx (hb hby own_d2_11) (pc' := 12) rfl (v := (FP.i2d z)) rfl ?_
    refine own_s_dstore X0.here hx (hb hby own_d2_12) (pc' := 14) rfl (L' := #[.val (.ref ra), .val (.ref la), .val (.int (1 : Int32)), .val (.int x), .val (.int y), .val (.int z), .val (.double (FP.i2d x)), .second, .val (.double (FP.i2d y)), .second, .val (.double (FP.i2d z)), .second]) rfl ?_
    refine own_s_aloadN X0.here hx (hb hby own_d2_14) (pc' := 15) rfl rfl rfl ?_
    refine own_s_iconst X0.here hx (hb hby own_d2_15) (pc' := 16) rfl (v := (4 : Int32)) (by decide) ?_
    refine own_s_iloadN X0.here hx (hb hby own_d2_16) (pc' := 17) rfl rfl ?_
    refine own_s_imul X0.here hx (hb hby own_d2_17) (pc' := 18) rfl (v := (4 : Int32)) (by decide) ?_
    refine own_ldD X0 hx hZ e0 V_ra (j := (4 : Int32)) (x := ee4) (by decide) rfl (hb hby own_d2_18) (pc' := 19) rfl ?_
    refine own_s_dload X0.here hx (hb hby own_d2_19) (pc' := 21) rfl rfl ?_
    refine own_s_dcmp X0.here hx (hb hby own_d2_21) (pc' := 22) rfl (v := (0 : Int32)) r1_hc21 ?_
    refine own_s_ifNo X0.here hx (hb hby own_d2_22) (pc' := 25) rfl (by decide) ?_
    refine own_s_aloadN X0.here hx (hb hby own_d2_25) (pc' := 26) rfl rfl rfl ?_
    refine own_s_iconst X0.here hx (hb hby own_d2_26) (pc' := 27) rfl (v := (4 : Int32)) (by decide) ?_
    refine own_s_iloadN X0.here hx (hb hby own_d2_27) (pc' := 28) rfl rfl ?_
    refine own_s_imul X0.here hx (hb hby own_d2_28) (pc' := 29) rfl (v := (4 : Int32)) (by decide) ?_
    refine own_s_iconst X0.here hx (hb hby own_d2_29) (pc' := 30) rfl (v := (1 : Int32)) (by decide) ?_
    refine own_s_iadd X0.here hx (hb hby own_d2_30) (pc' := 31) rfl (v := (5 : Int32)) (by decide) ?_
    refine own_ldD X0 hx hZ e0 V_ra (j := (5 : Int32)) (x := ee5) (by decide) rfl (hb hby own_d2_31) (pc' := 32) rfl ?_
    refine own_s_dload X0.here hx (hb hby own_d2_32) (pc' := 34) rfl rfl ?_
    refine own_s_dcmp X0.here hx (hb hby own_d2_34) (pc' := 35) rfl (v := (0 : Int32)) r1_hc34 ?_
    refine own_s_ifNo X0.here hx (hb hby own_d2_35) (pc' := 38) rfl (by decide) ?_
    refine own_s_aloadN X0.here hx (hb hby own_d2_38) (pc' := 39) rfl rfl rfl ?_
    refine own_s_iconst X0.here hx (hb hby own_d2_39) (pc' := 40) rfl (v := (4 : Int32)) (by decide) ?_
    refine own_s_iloadN X0.here hx (hb hby own_d2_40) (pc' := 41) rfl rfl ?_
    refine own_s_imul X0.here hx (hb hby own_d2_41) (pc' := 42) rfl (v := (4 : Int32)) (by decide) ?_
    refine own_s_iconst X0.here hx (hb hby own_d2_42) (pc' := 43) rfl (v := (2 : Int32)) (by decide) ?_
    refine own_s_iadd X0.here hx (hb hby own_d2_43) (pc' := 44) rfl (v := (6 : Int32)) (by decide) ?_
    refine own_ldD X0 hx hZ e0 V_ra (j := (6 : Int32)) (x := ee6) (by decide) rfl (hb hby own_d2_44) (pc' := 45) rfl ?_
    refine own_s_dload X0.here hx (hb hby own_d2_45) (pc' := 47) rfl rfl ?_
    refine own_s_dcmp X0.here hx (hb hby own_d2_47) (pc' := 48) rfl (v := (0 : Int32)) r1_hc47 ?_
    refine own_s_ifNo X0.here hx (hb hby own_d2_48) (pc' := 51) rfl (by decide) ?_
    refine own_s_aloadN X0.here hx (hb hby own_d2_51) (pc' := 52) rfl rfl rfl ?_
    refine own_s_iconst X0.here hx (hb hby own_d2_52) (pc' := 53) rfl (v := (4 : Int32)) (by decide) ?_
    refine own_s_iloadN X0.here hx (hb hby own_d2_53) (pc' := 54) rfl rfl ?_
    refine own_s_imul X0.here hx (hb hby own_d2_54) (pc' := 55) rfl (v := (4 : Int32)) (by decide) ?_
    refine own_s_iconst X0.here hx (hb hby own_d2_55) (pc' := 56) rfl (v := (3 : Int32)) (by decide) ?_
    refine own_s_iadd X0.here hx (hb hby own_d2_56) (pc' := 57) rfl (v := (7 : Int32)) (by decide) ?_
    refine own_ldD X0 hx hZ e0 V_ra (j := (7 : Int32)) (x := ee7) (by decide) rfl (hb hby own_d2_57) (pc' := 58) rfl ?_
    refine own_s_dconst0 X0.here hx (hb hby own_d2_58) (pc' := 59) rfl  ?_
    refine own_s_dcmp X0.here hx (hb hby own_d2_59) (pc' := 60) rfl (v := (0 : Int32)) r1_hc59 ?_
    refine own_s_ifNo X0.here hx (hb hby own_d2_60) (pc' := 63) rfl (by decide) ?_
    refine own_s_aloadN X0.here hx (hb hby own_d2_63) (pc' := 64) rfl rfl rfl ?_
    refine own_s_iconst X0.here hx (hb hby own_d2_64) (pc' := 65) rfl (v := (3 : Int32)) (by decide) ?_
    refine own_s_iloadN X0.here hx (hb hby own_d2_65) (pc' := 66) rfl rfl ?_
    refine own_s_imul X0.here hx (hb hby own_d2_66) (pc' := 67) rfl (v := (3 : Int32)) (by decide) ?_
    refine own_ldD X0 hx hZ e0 V_la (j := (3 : Int32)) (x := d3) (by decide) rfl (hb hby own_d2_67) (pc' := 68) rfl ?_
    refine own_s_dload X0.here hx (hb hby own_d2_68) (pc' := 70) rfl rfl ?_
    refine own_s_dcmp X0.here hx (hb hby own_d2_70) (pc' := 71) rfl (v := (0 : Int32)) r1_hc70 ?_
    refine own_s_ifNo X0.here hx (hb hby own_d2_71) (pc' := 74) rfl (by decide) ?_
    refine own_s_aloadN X0.here hx (hb hby own_d2_74) (pc' := 75) rfl rfl rfl ?_
    refine own_s_iconst X0.here hx (hb hby own_d2_75) (pc' := 76) rfl (v := (3 : Int32)) (by decide) ?_
    refine own_s_iloadN X0.here hx (hb hby own_d2_76) (pc' := 77) rfl rfl ?_
    refine own_s_imul X0.here hx (hb hby own_d2_77) (pc' := 78) rfl (v := (3 : Int32)) (by decide) ?_
    refine own_s_iconst X0.here hx (hb hby own_d2_78) (pc' := 79) rfl (v := (1 : Int32)) (by decide) ?_
    refine own_s_iadd X0.here hx (hb hby own_d2_79) (pc' := 80) rfl (v := (4 : Int32)) (by decide) ?_
    refine own_ldD X0 hx hZ e0 V_la (j := (4 : Int32)) (x := d4) (by decide) rfl (hb hby own_d2_80) (pc' := 81) rfl ?_
    refine own_s_dload X0.here hx (hb hby own_d2_81) (pc' := 83) rfl rfl ?_
    refine own_s_dcmp X0.here hx (hb hby own_d2_83) (pc' := 84) rfl (v := (0 : Int32)) r1_hc83 ?_
    refine own_s_ifNo X0.here hx (hb hby own_d2_84) (pc' := 87) rfl (by decide) ?_
    refine own_s_aloadN X0.here hx (hb hby own_d2_87) (pc' := 88) rfl rfl rfl ?_
    refine own_s_iconst X0.here hx (hb hby own_d2_88) (pc' := 89) rfl (v := (3 : Int32)) (by decide) ?_
    refine own_s_iloadN X0.here hx (hb hby own_d2_89) (pc' := 90) rfl rfl ?_
    refine own_s_imul X0.here hx (hb hby own_d2_90) (pc' := 91) rfl (v := (3 : Int32)) (by decide) ?_
    refine own_s_iconst X0.here hx (hb hby own_d2_91) (pc' := 92) rfl (v := (2 : Int32)) (by decide) ?_
    refine own_s_iadd X0.here hx (hb hby own_d2_92) (pc' := 93) rfl (v := (5 : Int32)) (by decide) ?_
    refine own_ldD X0 hx hZ e0 V_la (j := (5 : Int32)) (x := d5) (by decide) rfl (hb hby own_d2_93) (pc' := 94) rfl ?_
    refine own_s_dload X0.here hx (hb hby own_d2_94) (pc' := 96) rfl rfl ?_
    refine own_s_dcmp X0.here hx (hb hby own_d2_96) (pc' := 97) rfl (v := (0 : Int32)) r1_hc96 ?_
    refine own_s_ifNo X0.here hx (hb hby own_d2_97) (pc' := 100) rfl (by decide) ?_
    refine own_s_iconst X0.here hx (hb hby own_d2_100) (pc' := 101) rfl (v := (1 : Int32)) (by decide) ?_
    refine own_s_goto X0.here hx (hb hby own_d2_101) (by decide) (pc' := 105) (by decide) ?_
    exact retN X0 hx (t := .boolean) Bd.returns (by simp) (hb hby own_d2_105) hr
  · show own_QP (some (.int (1 : Int32))) h0 n0 _ s₁.heap _
    rw [e0]
    exact ⟨rfl, N0, rfl⟩
theorem own_ef_r2 (m : MethodId) (ra : Addr) (la : Addr) (x : Int32) (y : Int32) (z : Int32) : entryFrame m #[(.ref ra), (.ref la), (.int (2 : Int32)), (.int x), (.int y), (.int z)] 12 = mkF m 0 #[.val (.ref ra), .val (.ref la), .val (.int (2 : Int32)), .val (.int x), .val (.int y), .val (.int z), .unset, .unset, .unset, .unset, .unset, .unset] [] := by first | (simp [entryFrame, mkF, argsToLocals, Value.category]; done) | rfl
set_option maxRecDepth 65536 in
set_option maxHeartbeats 40000000 in
theorem own_rm_r2 (l : Launch) (Z : State) (a0 : Array Value) (hw : ∀ d ∈ tables_1, d.before a0 Z = true) (ws : List Jvm.Cond) (ra : Addr) (ee0 : UInt64) (ee1 : UInt64) (ee2 : UInt64) (ee3 : UInt64) (ee4 : UInt64) (ee5 : UInt64) (ee6 : UInt64) (ee7 : UInt64) (ee8 : UInt64) (ee9 : UInt64) (ee10 : UInt64) (ee11 : UInt64) (ee12 : UInt64) (ee13 : UInt64) (ee14 : UInt64) (ee15 : UInt64) (la : Addr) (d0 : UInt64) (d1 : UInt64) (d2 : UInt64) (d3 : UInt64) (d4 : UInt64) (d5 : UInt64) (d6 : UInt64) (d7 : UInt64) (d8 : UInt64) (x : Int32) (y : Int32) (z : Int32) {rak : ClassId} {lak : ClassId} (h0 : Heap) (n0 : Nat) (Z0 : n0 ≤ h0.size) (V_ra : Arv Z h0 ra rak .double (16 : Int32) [(.double ee0), (.double ee1), (.double ee2), (.double ee3), (.double ee4), (.double ee5), (.double ee6), (.double ee7), (.double ee8), (.double ee9), (.double ee10), (.double ee11), (.double ee12), (.double ee13), (.double ee14), (.double ee15)] (.double 0)) (V_la : Arv Z h0 la lak .double (9 : Int32) [(.double d0), (.double d1), (.double d2), (.double d3), (.double d4), (.double d5), (.double d6), (.double d7), (.double d8)] (.double 0)) (r2_hc21 : Op.cmpValue (FP.dcmp ee8 (FP.i2d x)) .l = (0 : Int32)) (r2_hc34 : Op.cmpValue (FP.dcmp ee9 (FP.i2d y)) .l = (0 : Int32)) (r2_hc47 : Op.cmpValue (FP.dcmp ee10 (FP.i2d z)) .l = (0 : Int32)) (r2_hc59 : Op.cmpValue (FP.dcmp ee11 0) .l = (0 : Int32)) (r2_hc70 : Op.cmpValue (FP.dcmp d6 (FP.i2d x)) .l = (0 : Int32)) (r2_hc83 : Op.cmpValue (FP.dcmp d7 (FP.i2d y)) .l = (0 : Int32)) (r2_hc96 : Op.cmpValue (FP.dcmp d8 (FP.i2d z)) .l = (0 : Int32)) :
    MetFree l (⟨"com/example/pintrinsic/pintrinsic/MatricesHomogeneousPinLaw", "row", "([D[DIIII)Z"⟩ : MethodName) (head1 (Jvm.Cond.code (⟨"com/example/pintrinsic/pintrinsic/MatricesHomogeneousPinLaw", "row", "([D[DIIII)Z"⟩ : MethodName) method_3_code 12 (some .boolean) :: ws) ({ frames := 0, cells := 0, slots := 0, locals := 0 } : Room)) (fun a U => a = #[(.ref ra), (.ref la), (.int (2 : Int32)), (.int x), (.int y), (.int z)] ∧ Z.Warmed39 U.vm ∧ U.heap = h0) (fun _ _ _ _ _ => True) (fun _ U o U' => ∃ v L, o = .returned v ∧ own_QP (some (.int (1 : Int32))) h0 n0 v U'.heap L ∧ FrameEnd U o U' L ({ frames := 0, cells := 0, slots := 0, locals := 0 } : Room).cells ({ frames := 0, cells := 0, slots := 0, locals := 0 } : Room).slots) := by
  refine MetFree.of_bodySF (plainFor_of_name own_pn_com_example_pintrinsic_pintrinsic_MatricesHomogeneousPinLaw) hisR ?_
  intro p e s m args below meth c s₁ Bd hml0 hP hK
  obtain ⟨rfl, hZ, hh⟩ := hP
  have hx := Bd.exec
  have hby := Bd.bytes
  have hml : c.maxLocals = 12 := hml0
  have hown : s.vm.findClass "com/example/pintrinsic/pintrinsic/MatricesHomogeneousPinLaw" = some m.cls := findClass_of_methodNamed Bd.named
  have hnm := (name_of_methodNamed Bd.named Bd.method).1
  have X0 : Stand p l e ({ frames := 0, cells := 0, slots := 0, locals := 0 } : Room) s m #[(.ref ra), (.ref la), (.int (2 : Int32)), (.int x), (.int y), (.int z)] below meth c s₁ [] 0 0 := Stand.of_body Bd
  have e0 : s₁.heap = h0 := by rw [← hh, Bd.state]; rfl
  have N0 := Fr.nil n0
  have pre0 : ∀ t, Steps p.tables e below (s₁.setTop (mkF m 0 #[.val (.ref ra), .val (.ref la), .val (.int (2 : Int32)), .val (.int x), .val (.int y), .val (.int z), .unset, .unset, .unset, .unset, .unset, .unset] [])) t → Steps p.tables e below (s₁.setTop (entryFrame m #[(.ref ra), (.ref la), (.int (2 : Int32)), (.int x), (.int y), (.int z)] 12)) t := fun t k => castTop (own_ef_r2 m ra la x y z) k
  obtain ⟨fs, hr, hrun, hended, hW, hsame⟩ := X0.leave (v := some (.int (1 : Int32))) (fun h => by rw [Bd.returns] at h; cases h)
  refine ⟨_, _, pre0 _ ?_, hrun, hended, _, _, rfl, ?_, ⟨_, rfl⟩, hW, hsame.mono (by decide) (by decide)⟩
  · refine own_s_iloadN X0.here hx (hb hby own_d2_0) (pc' := 1) rfl rfl ?_
    refine own_s_i2d X0.here hx (hb hby own_d2_1) (pc' := 2) rfl (v := (FP.i2d x)) rfl ?_
    refine own_s_dstore X0.here hx (hb hby own_d2_2) (pc' := 4) rfl (L' := #[.val (.ref ra), .val (.ref la), .val (.int (2 : Int32)), .val (.int x), .val (.int y), .val (.int z), .val (.double (FP.i2d x)), .second, .unset, .unset, .unset, .unset]) rfl ?_
    refine own_s_iload X0.here hx (hb hby own_d2_4) (pc' := 6) rfl rfl ?_
    refine own_s_i2d X0.here hx (hb hby own_d2_6) (pc' := 7) rfl (v := (FP.i2d y)) rfl ?_
    refine own_s_dstore X0.here hx (hb hby own_d2_7) (pc' := 9) rfl (L' := #[.val (.ref ra), .val (.ref la), .val (.int (2 : Int32)), .val (.int x), .val (.int y), .val (.int z), .val (.double (FP.i2d x)), .second, .val (.double (FP.i2d y)), .second, .unset, .unset]) rfl ?_
    refine own_s_iload X0.here hx (hb hby own_d2_9) (pc' := 11) rfl rfl ?_
    refine own_s_i2d X0.here hx (hb hby own_d2_11) (pc' := 12) rfl (v := (FP.i2d z)) rfl ?_
    refine own_s_dstore X0.here hx (hb hby own_d2_12) (pc' := 14) rfl (L' := #[.val (.ref ra), .val (.ref la), .val (.int (2 : Int32)), .val (.int x), .val (.int y), .val (.int z), .val (.double (FP.i2d x)), .second, .val (.double (FP.i2d y)), .second, .val (.double (FP.i2d z)), .second]) rfl ?_
    refine own_s_aloadN X0.here hx (hb hby own_d2_14) (pc' := 15) rfl rfl rfl ?_
    refine own_s_iconst X0.here hx (hb hby own_d2_15) (pc' := 16) rfl (v := (4 : Int32)) (by decide) ?_
    refine own_s_iloadN X0.here hx (hb hby own_d2_16) (pc' := 17) rfl rfl ?_
    refine own_s_imul X0.here hx (hb hby own_d2_17) (pc' := 18) rfl (v := (8 : Int32)) (by decide) ?_
    refine own_ldD X0 hx hZ e0 V_ra (j := (8 : Int32)) (x := ee8) (by decide) rfl (hb hby own_d2_18) (pc' := 19) rfl ?_
    refine own_s_dload X0.here hx (hb hby own_d2_19) (pc' := 21) rfl rfl ?_
    refine own_s_dcmp X0.here hx (hb hby own_d2_21) (pc' := 22) rfl (v := (0 : Int32)) r2_hc21 ?_
    refine own_s_ifNo X0.here hx (hb hby own_d2_22) (pc' := 25) rfl (by decide) ?_
    refine own_s_aloadN X0.here hx (hb hby own_d2_25) (pc' := 26) rfl rfl rfl ?_
    refine own_s_iconst X0.here hx (hb hby own_d2_26) (pc' := 27) rfl (v := (4 : Int32)) (by decide) ?_
    refine own_s_iloadN X0.here hx (hb hby own_d2_27) (pc' := 28) rfl rfl ?_
    refine own_s_imul X0.here hx (hb hby own_d2_28) (pc' := 29) rfl (v := (8 : Int32)) (by decide) ?_
    refine own_s_iconst X0.here hx (hb hby own_d2_29) (pc' := 30) rfl (v := (1 : Int32)) (by decide) ?_
    refine own_s_iadd X0.here hx (hb hby own_d2_30) (pc' := 31) rfl (v := (9 : Int32)) (by decide) ?_
    refine own_ldD X0 hx hZ e0 V_ra (j := (9 : Int32)) (x := ee9) (by decide) rfl (hb hby own_d2_31) (pc' := 32) rfl ?_
    refine own_s_dload X0.here hx (hb hby own_d2_32) (pc' := 34) rfl rfl ?_
    refine own_s_dcmp X0.here hx (hb hby own_d2_34) (pc' := 35) rfl (v := (0 : Int32)) r2_hc34 ?_
    refine own_s_ifNo X0.here hx (hb hby own_d2_35) (pc' := 38) rfl (by decide) ?_
    refine own_s_aloadN X0.here hx (hb hby own_d2_38) (pc' := 39) rfl rfl rfl ?_
    refine own_s_iconst X0.here hx (hb hby own_d2_39) (pc' := 40) rfl (v := (4 : Int32)) (by decide) ?_
    refine own_s_iloadN X0.here hx (hb hby own_d2_40) (pc' := 41) rfl rfl ?_
    refine own_s_imul X0.here hx (hb hby own_d2_41) (pc' := 42) rfl (v := (8 : Int32)) (by decide) ?_
    refine own_s_iconst X0.here hx (hb hby own_d2_42) (pc' := 43) rfl (v := (2 : Int32)) (by decide) ?_
    refine own_s_iadd X0.here hx (hb hby own_d2_43) (pc' := 44) rfl (v := (10 : Int32)) (by decide) ?_
    refine own_ldD X0 hx hZ e0 V_ra (j := (10 : Int32)) (x := ee10) (by decide) rfl (hb hby own_d2_44) (pc' := 45) rfl ?_
    refine own_s_dload X0.here hx (hb hby own_d2_45) (pc' := 47) rfl rfl ?_
    refine own_s_dcmp X0.here hx (hb hby own_d2_47) (pc' := 48) rfl (v := (0 : Int32)) r2_hc47 ?_
    refine own_s_ifNo X0.here hx (hb hby own_d2_48) (pc' := 51) rfl (by decide) ?_
    refine own_s_aloadN X0.here hx (hb hby own_d2_51) (pc' := 52) rfl rfl rfl ?_
    refine own_s_iconst X0.here hx (hb hby own_d2_52) (pc' := 53) rfl (v := (4 : Int32)) (by decide) ?_
    refine own_s_iloadN X0.here hx (hb hby own_d2_53) (pc' := 54) rfl rfl ?_
    refine own_s_imul X0.here hx (hb hby own_d2_54) (pc' := 55) rfl (v := (8 : Int32)) (by decide) ?_
    refine own_s_iconst X0.here hx (hb hby own_d2_55) (pc' := 56) rfl (v := (3 : Int32)) (by decide) ?_
    refine own_s_iadd X0.here hx (hb hby own_d2_56) (pc' := 57) rfl (v := (11 : Int32)) (by decide) ?_
    refine own_ldD X0 hx hZ e0 V_ra (j := (11 : Int32)) (x := ee11) (by decide) rfl (hb hby own_d2_57) (pc' := 58) rfl ?_
    refine own_s_dconst0 X0.here hx (hb hby own_d2_58) (pc' := 59) rfl  ?_
    refine own_s_dcmp X0.here hx (hb hby own_d2_59) (pc' := 60) rfl (v := (0 : Int32)) r2_hc59 ?_
    refine own_s_ifNo X0.here hx (hb hby own_d2_60) (pc' := 63) rfl (by decide) ?_
    refine own_s_aloadN X0.here hx (hb hby own_d2_63) (pc' := 64) rfl rfl rfl ?_
    refine own_s_iconst X0.here hx (hb hby own_d2_64) (pc' := 65) rfl (v := (3 : Int32)) (by decide) ?_
    refine own_s_iloadN X0.here hx (hb hby own_d2_65) (pc' := 66) rfl rfl ?_
    refine own_s_imul X0.here hx (hb hby own_d2_66) (pc' := 67) rfl (v := (6 : Int32)) (by decide) ?_
    refine own_ldD X0 hx hZ e0 V_la (j := (6 : Int32)) (x := d6) (by decide) rfl (hb hby own_d2_67) (pc' := 68) rfl ?_
    refine own_s_dload X0.here hx (hb hby own_d2_68) (pc' := 70) rfl rfl ?_
    refine own_s_dcmp X0.here hx (hb hby own_d2_70) (pc' := 71) rfl (v := (0 : Int32)) r2_hc70 ?_
    refine own_s_ifNo X0.here hx (hb hby own_d2_71) (pc' := 74) rfl (by decide) ?_
    refine own_s_aloadN X0.here hx (hb hby own_d2_74) (pc' := 75) rfl rfl rfl ?_
    refine own_s_iconst X0.here hx (hb hby own_d2_75) (pc' := 76) rfl (v := (3 : Int32)) (by decide) ?_
    refine own_s_iloadN X0.here hx (hb hby own_d2_76) (pc' := 77) rfl rfl ?_
    refine own_s_imul X0.here hx (hb hby own_d2_77) (pc' := 78) rfl (v := (6 : Int32)) (by decide) ?_
    refine own_s_iconst X0.here hx (hb hby own_d2_78) (pc' := 79) rfl (v := (1 : Int32)) (by decide) ?_
    refine own_s_iadd X0.here hx (hb hby own_d2_79) (pc' := 80) rfl (v := (7 : Int32)) (by decide) ?_
    refine own_ldD X0 hx hZ e0 V_la (j := (7 : Int32)) (x := d7) (by decide) rfl (hb hby own_d2_80) (pc' := 81) rfl ?_
    refine own_s_dload X0.here hx (hb hby own_d2_81) (pc' := 83) rfl rfl ?_
    refine own_s_dcmp X0.here hx (hb hby own_d2_83) (pc' := 84) rfl (v := (0 : Int32)) r2_hc83 ?_
    refine own_s_ifNo X0.here hx (hb hby own_d2_84) (pc' := 87) rfl (by decide) ?_
    refine own_s_aloadN X0.here hx (hb hby own_d2_87) (pc' := 88) rfl rfl rfl ?_
    refine own_s_iconst X0.here hx (hb hby own_d2_88) (pc' := 89) rfl (v := (3 : Int32)) (by decide) ?_
    refine own_s_iloadN X0.here hx (hb hby own_d2_89) (pc' := 90) rfl rfl ?_
    refine own_s_imul X0.here hx (hb hby own_d2_90) (pc' := 91) rfl (v := (6 : Int32)) (by decide) ?_
    refine own_s_iconst X0.here hx (hb hby own_d2_91) (pc' := 92) rfl (v := (2 : Int32)) (by decide) ?_
    refine own_s_iadd X0.here hx (hb hby own_d2_92) (pc' := 93) rfl (v := (8 : Int32)) (by decide) ?_
    refine own_ldD X0 hx hZ e0 V_la (j := (8 : Int32)) (x := d8) (by decide) rfl (hb hby own_d2_93) (pc' := 94) rfl ?_
    refine own_s_dload X0.here hx (hb hby own_d2_94) (pc' := 96) rfl rfl ?_
    refine own_s_dcmp X0.here hx (hb hby own_d2_96) (pc' := 97) rfl (v := (0 : Int32)) r2_hc96 ?_
    refine own_s_ifNo X0.here hx (hb hby own_d2_97) (pc' := 100) rfl (by decide) ?_
    refine own_s_iconst X0.here hx (hb hby own_d2_100) (pc' := 101) rfl (v := (1 : Int32)) (by decide) ?_
    refine own_s_goto X0.here hx (hb hby own_d2_101) (by decide) (pc' := 105) (by decide) ?_
    exact retN X0 hx (t := .boolean) Bd.returns (by simp) (hb hby own_d2_105) hr
  · show own_QP (some (.int (1 : Int32))) h0 n0 _ s₁.heap _
    rw [e0]
    exact ⟨rfl, N0, rfl⟩
theorem own_pd_285bD295bD : parseMethodDescriptor "([D)[D" = some ⟨[(.array .double)], some (.array .double)⟩ := by decide +kernel
theorem own_pd_285bD5bDIIII29Z : parseMethodDescriptor "([D[DIIII)Z" = some ⟨[(.array .double), (.array .double), .int, .int, .int, .int], some .boolean⟩ := by decide +kernel
theorem own_ef_w (m : MethodId) (p0 : Int32) (p1 : Int32) (p2 : Int32) (p3 : Int32) (p4 : Int32) (p5 : Int32) : entryFrame m #[(.int p0), (.int p1), (.int p2), (.int p3), (.int p4), (.int p5)] maxLocals = mkF m 0 #[.val (.int p0), .val (.int p1), .val (.int p2), .val (.int p3), .val (.int p4), .val (.int p5), .unset, .unset, .unset, .unset, .unset] [] := by first | (simp [entryFrame, mkF, argsToLocals, Value.category, maxLocals]; done) | rfl
set_option maxRecDepth 65536 in
set_option maxHeartbeats 40000000 in
theorem own_rm_w (l : Launch) (Z : State) (a0 : Array Value) (hw : ∀ d ∈ tables_1, d.before a0 Z = true) (ws : List Jvm.Cond) (p0 : Int32) (p1 : Int32) (p2 : Int32) (p3 : Int32) (p4 : Int32) (p5 : Int32) {w_v2 : Int32} {w_v7 : Int32} {w_v14 : Int32} (h0 : Heap) (n0 : Nat) (Z0 : n0 ≤ h0.size)  (w_hv2 : p0 ^^^ p1 = w_v2) (w_hv7 : p2 ^^^ p3 = w_v7) (w_hv14 : p4 ^^^ p5 = w_v14) (w_c115_r0_hc21 : Op.cmpValue (FP.dcmp (FP.i2d p0) (FP.i2d p0)) .l = (0 : Int32)) (w_c115_r0_hc34 : Op.cmpValue (FP.dcmp (FP.i2d p1) (FP.i2d p1)) .l = (0 : Int32)) (w_c115_r0_hc47 : Op.cmpValue (FP.dcmp (FP.i2d p2) (FP.i2d p2)) .l = (0 : Int32)) (w_c115_r0_hc59 : Op.cmpValue (FP.dcmp 0 0) .l = (0 : Int32)) (w_c115_r0_hc70 : Op.cmpValue (FP.dcmp (FP.i2d p0) (FP.i2d p0)) .l = (0 : Int32)) (w_c115_r0_hc83 : Op.cmpValue (FP.dcmp (FP.i2d p1) (FP.i2d p1)) .l = (0 : Int32)) (w_c115_r0_hc96 : Op.cmpValue (FP.dcmp (FP.i2d p2) (FP.i2d p2)) .l = (0 : Int32)) (w_c131_r1_hc21 : Op.cmpValue (FP.dcmp (FP.i2d p3) (FP.i2d p3)) .l = (0 : Int32)) (w_c131_r1_hc34 : Op.cmpValue (FP.dcmp (FP.i2d p4) (FP.i2d p4)) .l = (0 : Int32)) (w_c131_r1_hc47 : Op.cmpValue (FP.dcmp (FP.i2d p5) (FP.i2d p5)) .l = (0 : Int32)) (w_c131_r1_hc59 : Op.cmpValue (FP.dcmp 0 0) .l = (0 : Int32)) (w_c131_r1_hc70 : Op.cmpValue (FP.dcmp (FP.i2d p3) (FP.i2d p3)) .l = (0 : Int32)) (w_c131_r1_hc83 : Op.cmpValue (FP.dcmp (FP.i2d p4) (FP.i2d p4)) .l = (0 : Int32)) (w_c131_r1_hc96 : Op.cmpValue (FP.dcmp (FP.i2d p5) (FP.i2d p5)) .l = (0 : Int32)) (w_c148_r2_hc21 : Op.cmpValue (FP.dcmp (FP.i2d w_v2) (FP.i2d w_v2)) .l = (0 : Int32)) (w_c148_r2_hc34 : Op.cmpValue (FP.dcmp (FP.i2d w_v7) (FP.i2d w_v7)) .l = (0 : Int32)) (w_c148_r2_hc47 : Op.cmpValue (FP.dcmp (FP.i2d w_v14) (FP.i2d w_v14)) .l = (0 : Int32)) (w_c148_r2_hc59 : Op.cmpValue (FP.dcmp 0 0) .l = (0 : Int32)) (w_c148_r2_hc70 : Op.cmpValue (FP.dcmp (FP.i2d w_v2) (FP.i2d w_v2)) .l = (0 : Int32)) (w_c148_r2_hc83 : Op.cmpValue (FP.dcmp (FP.i2d w_v7) (FP.i2d w_v7)) .l = (0 : Int32)) (w_c148_r2_hc96 : Op.cmpValue (FP.dcmp (FP.i2d w_v14) (FP.i2d w_v14)) .l = (0 : Int32)) (w_hc160 : Op.cmpValue (FP.dcmp 0 0) .l = (0 : Int32)) (w_hc170 : Op.cmpValue (FP.dcmp 0 0) .l = (0 : Int32)) (w_hc180 : Op.cmpValue (FP.dcmp 0 0) .l = (0 : Int32)) (w_hc190 : Op.cmpValue (FP.dcmp 4607182418800017408 4607182418800017408) .l = (0 : Int32)) :
    MetFree l x (head1 (Jvm.Cond.code x code maxLocals ret :: ws) room_1) (fun a U => a = #[(.int p0), (.int p1), (.int p2), (.int p3), (.int p4), (.int p5)] ∧ Z.Warmed39 U.vm ∧ U.heap = h0) (fun _ _ _ _ _ => True) (fun _ U o U' => ∃ v L, o = .returned v ∧ own_Q0 n0 v U'.heap L ∧ FrameEnd U o U' L room_1.cells room_1.slots) := by
  refine MetFree.of_bodySF (plainFor_of_name own_pn_com_example_pintrinsic_pintrinsic_MatricesHomogeneousPinLaw) hisR ?_
  intro p e s m args below meth c s₁ Bd hml0 hP hK
  obtain ⟨rfl, hZ, hh⟩ := hP
  have hx := Bd.exec
  have hby := Bd.bytes
  have hml : c.maxLocals = 11 := hml0
  have hown : s.vm.findClass "com/example/pintrinsic/pintrinsic/MatricesHomogeneousPinLaw" = some m.cls := findClass_of_methodNamed Bd.named
  have hnm := (name_of_methodNamed Bd.named Bd.method).1
  have X0 : Stand p l e room_1 s m #[(.int p0), (.int p1), (.int p2), (.int p3), (.int p4), (.int p5)] below meth c s₁ [] 0 0 := Stand.of_body Bd
  have e0 : s₁.heap = h0 := by rw [← hh, Bd.state]; rfl
  have N0 := Fr.nil n0
  have pre0 : ∀ t, Steps p.tables e below (s₁.setTop (mkF m 0 #[.val (.int p0), .val (.int p1), .val (.int p2), .val (.int p3), .val (.int p4), .val (.int p5), .unset, .unset, .unset, .unset, .unset] [])) t → Steps p.tables e below (s₁.setTop (entryFrame m #[(.int p0), (.int p1), (.int p2), (.int p3), (.int p4), (.int p5)] maxLocals)) t := fun t k => castTop (own_ef_w m p0 p1 p2 p3 p4 p5) k
  obtain ⟨Tw1, hw1, kw1, bw1, Xw1, ew1, Ew1, Gw1, Vw1, stw1⟩ := own_newD (L := #[.val (.int p0), .val (.int p1), .val (.int p2), .val (.int p3), .val (.int p4), .val (.int p5), .val (.int w_v2), .val (.int w_v7), .val (.int w_v14), .unset, .unset]) (S := []) X0 hx hZ (hw _ (List.mem_of_getElem? (i := 0) rfl)) e0 (z := (9 : Int32)) 9 (by decide) (by decide) (by decide) (by decide) (by decide) (hb hby at_19) (pc' := 21) rfl
  have g_bw1 : n0 ≤ bw1 := Nat.le_trans Z0 (Nat.le_of_eq Gw1.symm)
  have sz_bw1 : h0.size ≤ bw1 := Nat.le_trans (Keep.refl h0 []).1 (Nat.le_of_eq Gw1.symm)
  have Zw1 : n0 ≤ hw1.size := Nat.le_trans Z0 Ew1.1
  have KKw1 := (Keep.refl h0 []).ext Ew1
  have V_bw1 : Arv Z hw1 bw1 kw1 .double (9 : Int32) [(.double 0), (.double 0), (.double 0), (.double 0), (.double 0), (.double 0), (.double 0), (.double 0), (.double 0)] (.double 0) := Vw1
  obtain ⟨Tw2, hw2, Xw2, ew2, Ww2, Vw2, stw2⟩ := own_stD (L := #[.val (.int p0), .val (.int p1), .val (.int p2), .val (.int p3), .val (.int p4), .val (.int p5), .val (.int w_v2), .val (.int w_v7), .val (.int w_v14), .val (.ref bw1), .unset]) (S := []) Xw1 hx hZ ew1 V_bw1 (j := (0 : Int32)) (x := (FP.i2d p0)) (by decide) 0 (by decide) (Nat.le_of_ble_eq_true rfl) (hb hby at_28) (pc' := 29) rfl
  have Zw2 : n0 ≤ hw2.size := Nat.le_trans Zw1 (Nat.le_of_eq Ww2.size.symm)
  have KKw2 := KKw1.wr Ww2 (Or.inr sz_bw1)
  have V_bw1_w2 : Arv Z hw2 bw1 kw1 .double (9 : Int32) [(.double (FP.i2d p0)), (.double 0), (.double 0), (.double 0), (.double 0), (.double 0), (.double 0), (.double 0), (.double 0)] (.double 0) := Vw2
  have Nw2 := Fr.snoc Xw2 N0 g_bw1
  obtain ⟨Tw3, hw3, Xw3, ew3, Ww3, Vw3, stw3⟩ := own_stD (L := #[.val (.int p0), .val (.int p1), .val (.int p2), .val (.int p3), .val (.int p4), .val (.int p5), .val (.int w_v2), .val (.int w_v7), .val (.int w_v14), .val (.ref bw1), .unset]) (S := []) Xw2 hx hZ ew2 V_bw1_w2 (j := (1 : Int32)) (x := (FP.i2d p1)) (by decide) 1 (by decide) (Nat.le_of_ble_eq_true rfl) (hb hby at_34) (pc' := 35) rfl
  have Zw3 : n0 ≤ hw3.size := Nat.le_trans Zw2 (Nat.le_of_eq Ww3.size.symm)
  have KKw3 := KKw2.wr Ww3 (Or.inr sz_bw1)
  have V_bw1_w3 : Arv Z hw3 bw1 kw1 .double (9 : Int32) [(.double (FP.i2d p0)), (.double (FP.i2d p1)), (.double 0), (.double 0), (.double 0), (.double 0), (.double 0), (.double 0), (.double 0)] (.double 0) := Vw3
  have Nw3 := Fr.snoc Xw3 Nw2 g_bw1
  obtain ⟨Tw4, hw4, Xw4, ew4, Ww4, Vw4, stw4⟩ := own_stD (L := #[.val (.int p0), .val (.int p1), .val (.int p2), .val (.int p3), .val (.int p4), .val (.int p5), .val (.int w_v2), .val (.int w_v7), .val (.int w_v14), .val (.ref bw1), .unset]) (S := []) Xw3 hx hZ ew3 V_bw1_w3 (j := (2 : Int32)) (x := (FP.i2d p2)) (by decide) 2 (by decide) (Nat.le_of_ble_eq_true rfl) (hb hby at_40) (pc' := 41) rfl
  have Zw4 : n0 ≤ hw4.size := Nat.le_trans Zw3 (Nat.le_of_eq Ww4.size.symm)
  have KKw4 := KKw3.wr Ww4 (Or.inr sz_bw1)
  have V_bw1_w4 : Arv Z hw4 bw1 kw1 .double (9 : Int32) [(.double (FP.i2d p0)), (.double (FP.i2d p1)), (.double (FP.i2d p2)), (.double 0), (.double 0), (.double 0), (.double 0), (.double 0), (.double 0)] (.double 0) := Vw4
  have Nw4 := Fr.snoc Xw4 Nw3 g_bw1
  obtain ⟨Tw5, hw5, Xw5, ew5, Ww5, Vw5, stw5⟩ := own_stD (L := #[.val (.int p0), .val (.int p1), .val (.int p2), .val (.int p3), .val (.int p4), .val (.int p5), .val (.int w_v2), .val (.int w_v7), .val (.int w_v14), .val (.ref bw1), .unset]) (S := []) Xw4 hx hZ ew4 V_bw1_w4 (j := (3 : Int32)) (x := (FP.i2d p3)) (by decide) 3 (by decide) (Nat.le_of_ble_eq_true rfl) (hb hby at_46) (pc' := 47) rfl
  have Zw5 : n0 ≤ hw5.size := Nat.le_trans Zw4 (Nat.le_of_eq Ww5.size.symm)
  have KKw5 := KKw4.wr Ww5 (Or.inr sz_bw1)
  have V_bw1_w5 : Arv Z hw5 bw1 kw1 .double (9 : Int32) [(.double (FP.i2d p0)), (.double (FP.i2d p1)), (.double (FP.i2d p2)), (.double (FP.i2d p3)), (.double 0), (.double 0), (.double 0), (.double 0), (.double 0)] (.double 0) := Vw5
  have Nw5 := Fr.snoc Xw5 Nw4 g_bw1
  obtain ⟨Tw6, hw6, Xw6, ew6, Ww6, Vw6, stw6⟩ := own_stD (L := #[.val (.int p0), .val (.int p1), .val (.int p2), .val (.int p3), .val (.int p4), .val (.int p5), .val (.int w_v2), .val (.int w_v7), .val (.int w_v14), .val (.ref bw1), .unset]) (S := []) Xw5 hx hZ ew5 V_bw1_w5 (j := (4 : Int32)) (x := (FP.i2d p4)) (by decide) 4 (by decide) (Nat.le_of_ble_eq_true rfl) (hb hby at_53) (pc' := 54) rfl
  have Zw6 : n0 ≤ hw6.size := Nat.le_trans Zw5 (Nat.le_of_eq Ww6.size.symm)
  have KKw6 := KKw5.wr Ww6 (Or.inr sz_bw1)
  have V_bw1_w6 : Arv Z hw6 bw1 kw1 .double (9 : Int32) [(.double (FP.i2d p0)), (.double (FP.i2d p1)), (.double (FP.i2d p2)), (.double (FP.i2d p3)), (.double (FP.i2d p4)), (.double 0), (.double 0), (.double 0), (.double 0)] (.double 0) := Vw6
  have Nw6 := Fr.snoc Xw6 Nw5 g_bw1
  obtain ⟨Tw7, hw7, Xw7, ew7, Ww7, Vw7, stw7⟩ := own_stD (L := #[.val (.int p0), .val (.int p1), .val (.int p2), .val (.int p3), .val (.int p4), .val (.int p5), .val (.int w_v2), .val (.int w_v7), .val (.int w_v14), .val (.ref bw1), .unset]) (S := []) Xw6 hx hZ ew6 V_bw1_w6 (j := (5 : Int32)) (x := (FP.i2d p5)) (by decide) 5 (by decide) (Nat.le_of_ble_eq_true rfl) (hb hby at_60) (pc' := 61) rfl
  have Zw7 : n0 ≤ hw7.size := Nat.le_trans Zw6 (Nat.le_of_eq Ww7.size.symm)
  have KKw7 := KKw6.wr Ww7 (Or.inr sz_bw1)
  have V_bw1_w7 : Arv Z hw7 bw1 kw1 .double (9 : Int32) [(.double (FP.i2d p0)), (.double (FP.i2d p1)), (.double (FP.i2d p2)), (.double (FP.i2d p3)), (.double (FP.i2d p4)), (.double (FP.i2d p5)), (.double 0), (.double 0), (.double 0)] (.double 0) := Vw7
  have Nw7 := Fr.snoc Xw7 Nw6 g_bw1
  obtain ⟨Tw8, hw8, Xw8, ew8, Ww8, Vw8, stw8⟩ := own_stD (L := #[.val (.int p0), .val (.int p1), .val (.int p2), .val (.int p3), .val (.int p4), .val (.int p5), .val (.int w_v2), .val (.int w_v7), .val (.int w_v14), .val (.ref bw1), .unset]) (S := []) Xw7 hx hZ ew7 V_bw1_w7 (j := (6 : Int32)) (x := (FP.i2d w_v2)) (by decide) 6 (by decide) (Nat.le_of_ble_eq_true rfl) (hb hby at_68) (pc' := 69) rfl
  have Zw8 : n0 ≤ hw8.size := Nat.le_trans Zw7 (Nat.le_of_eq Ww8.size.symm)
  have KKw8 := KKw7.wr Ww8 (Or.inr sz_bw1)
  have V_bw1_w8 : Arv Z hw8 bw1 kw1 .double (9 : Int32) [(.double (FP.i2d p0)), (.double (FP.i2d p1)), (.double (FP.i2d p2)), (.double (FP.i2d p3)), (.double (FP.i2d p4)), (.double (FP.i2d p5)), (.double (FP.i2d w_v2)), (.double 0), (.double 0)] (.double 0) := Vw8
  have Nw8 := Fr.snoc Xw8 Nw7 g_bw1
  obtain ⟨Tw9, hw9, Xw9, ew9, Ww9, Vw9, stw9⟩ := own_stD (L := #[.val (.int p0), .val (.int p1), .val (.int p2), .val (.int p3), .val (.int p4), .val (.int p5), .val (.int w_v2), .val (.int w_v7), .val (.int w_v14), .val (.ref bw1), .unset]) (S := []) Xw8 hx hZ ew8 V_bw1_w8 (j := (7 : Int32)) (x := (FP.i2d w_v7)) (by decide) 7 (by decide) (Nat.le_of_ble_eq_true rfl) (hb hby at_76) (pc' := 77) rfl
  have Zw9 : n0 ≤ hw9.size := Nat.le_trans Zw8 (Nat.le_of_eq Ww9.size.symm)
  have KKw9 := KKw8.wr Ww9 (Or.inr sz_bw1)
  have V_bw1_w9 : Arv Z hw9 bw1 kw1 .double (9 : Int32) [(.double (FP.i2d p0)), (.double (FP.i2d p1)), (.double (FP.i2d p2)), (.double (FP.i2d p3)), (.double (FP.i2d p4)), (.double (FP.i2d p5)), (.double (FP.i2d w_v2)), (.double (FP.i2d w_v7)), (.double 0)] (.double 0) := Vw9
  have Nw9 := Fr.snoc Xw9 Nw8 g_bw1
  obtain ⟨Tw10, hw10, Xw10, ew10, Ww10, Vw10, stw10⟩ := own_stD (L := #[.val (.int p0), .val (.int p1), .val (.int p2), .val (.int p3), .val (.int p4), .val (.int p5), .val (.int w_v2), .val (.int w_v7), .val (.int w_v14), .val (.ref bw1), .unset]) (S := []) Xw9 hx hZ ew9 V_bw1_w9 (j := (8 : Int32)) (x := (FP.i2d w_v14)) (by decide) 8 (by decide) (Nat.le_of_ble_eq_true rfl) (hb hby at_84) (pc' := 85) rfl
  have Zw10 : n0 ≤ hw10.size := Nat.le_trans Zw9 (Nat.le_of_eq Ww10.size.symm)
  have KKw10 := KKw9.wr Ww10 (Or.inr sz_bw1)
  have V_bw1_w10 : Arv Z hw10 bw1 kw1 .double (9 : Int32) [(.double (FP.i2d p0)), (.double (FP.i2d p1)), (.double (FP.i2d p2)), (.double (FP.i2d p3)), (.double (FP.i2d p4)), (.double (FP.i2d p5)), (.double (FP.i2d w_v2)), (.double (FP.i2d w_v7)), (.double (FP.i2d w_v14))] (.double 0) := Vw10
  have Nw10 := Fr.snoc Xw10 Nw9 g_bw1
  obtain ⟨_, _, ⟨Tw11, Lw11, kw11, nw11⟩, -, Xw11, ⟨Lcw11, hQw11, lw11, yw11, zw11⟩, stw11⟩ := Jvm.LawKit.callS Xw10 hx (y := (⟨"com/example/pintrinsic/pintrinsic/Matrices", "homogeneous", "([D)[D"⟩ : MethodName)) hown (mvT hZ (hw _ (List.mem_of_getElem? (i := 1) rfl))) (mvT hZ (hw _ (List.mem_of_getElem? (i := 2) rfl))) (mvT hZ (hw _ (List.mem_of_getElem? (i := 3) rfl))) (mvT hZ (hw _ (List.mem_of_getElem? (i := 4) rfl))) (by decide) (backOf (W := 0) (own_rm_h l Z a0 hw [] bw1 (FP.i2d p0) (FP.i2d p1) (FP.i2d p2) (FP.i2d p3) (FP.i2d p4) (FP.i2d p5) (FP.i2d w_v2) (FP.i2d w_v7) (FP.i2d w_v14) hw10 n0 Zw10 V_bw1_w10) hZ (hw _ (List.mem_of_getElem? (i := 4) rfl)) (hw _ (List.mem_of_getElem? (i := 3) rfl)) (by decide) (by decide)) (g := (mkF m 87 #[.val (.int p0), .val (.int p1), .val (.int p2), .val (.int p3), .val (.int p4), .val (.int p5), .val (.int w_v2), .val (.int w_v7), .val (.int w_v14), .val (.ref bw1), .unset] [(.ref bw1)])) rfl (by rw [hml]; rfl) (argsL := [(.ref bw1)]) (rest := []) (lenOf own_pd_285bD295bD rfl) rfl (by show 2 * 0 + _ ≤ _; exact Nat.le_of_eq rfl) (hb hby at_87) (fun _ _ => ⟨rfl, ew10, (by decide : 1 + 1 ≤ _), (by decide : 9 + 16 ≤ _)⟩)
  dsimp only [Pt.U, Pt.locs, Pt.cells, Pt.slots] at Xw11 lw11 yw11 zw11 stw11 hQw11
  subst lw11 yw11 zw11
  obtain ⟨bw11, kw11a, rfl, Nw11q, Kw11, Gw11, qw11_0⟩ := hQw11
  have ne_bw1_bw11 : bw1 ≠ bw11 := Nat.ne_of_lt (Nat.lt_of_lt_of_le V_bw1_w10.lt Gw11)
  have ne_bw11_bw1 : bw11 ≠ bw1 := Ne.symm ne_bw1_bw11
  have g_bw11 : n0 ≤ bw11 := Nat.le_trans Zw10 Gw11
  have sz_bw11 : h0.size ≤ bw11 := Nat.le_trans KKw10.1 Gw11
  have V_bw1_w11 := V_bw1_w10.keep Kw11 (List.not_mem_nil)
  have Zw11 : n0 ≤ Tw11.heap.size := Nat.le_trans Zw10 Kw11.1
  have KKw11 := KKw10.trans Kw11 (fun _ q => nomatch q)
  have Nw11 := Fr.app Nw10 Nw11q
  obtain ⟨_, _, ⟨Tw12, Lw12, kw12, nw12⟩, -, Xw12, ⟨Lcw12, hQw12, lw12, yw12, zw12⟩, stw12⟩ := Jvm.LawKit.callS Xw11 hx (y := (⟨"com/example/pintrinsic/pintrinsic/MatricesHomogeneousPinLaw", "row", "([D[DIIII)Z"⟩ : MethodName)) hown (mvT hZ (hw _ (List.mem_of_getElem? (i := 5) rfl))) (mvT hZ (hw _ (List.mem_of_getElem? (i := 6) rfl))) (mvT hZ (hw _ (List.mem_of_getElem? (i := 7) rfl))) (mvT hZ (hw _ (List.mem_of_getElem? (i := 8) rfl))) (by decide) (backOf (W := 0) (own_rm_r0 l Z a0 hw [] bw11 (FP.i2d p0) (FP.i2d p1) (FP.i2d p2) 0 (FP.i2d p3) (FP.i2d p4) (FP.i2d p5) 0 (FP.i2d w_v2) (FP.i2d w_v7) (FP.i2d w_v14) 0 0 0 0 4607182418800017408 bw1 (FP.i2d p0) (FP.i2d p1) (FP.i2d p2) (FP.i2d p3) (FP.i2d p4) (FP.i2d p5) (FP.i2d w_v2) (FP.i2d w_v7) (FP.i2d w_v14) p0 p1 p2 Tw11.heap n0 Zw11 qw11_0 V_bw1_w11 w_c115_r0_hc21 w_c115_r0_hc34 w_c115_r0_hc47 w_c115_r0_hc59 w_c115_r0_hc70 w_c115_r0_hc83 w_c115_r0_hc96) hZ (hw _ (List.mem_of_getElem? (i := 8) rfl)) (hw _ (List.mem_of_getElem? (i := 7) rfl)) (by decide) (by decide)) (g := (mkF m 115 #[.val (.int p0), .val (.int p1), .val (.int p2), .val (.int p3), .val (.int p4), .val (.int p5), .val (.int w_v2), .val (.int w_v7), .val (.int w_v14), .val (.ref bw1), .val (.ref bw11)] [(.int p2), (.int p1), (.int p0), (.int (0 : Int32)), (.ref bw1), (.ref bw11)])) rfl (by rw [hml]; rfl) (argsL := [(.ref bw11), (.ref bw1), (.int (0 : Int32)), (.int p0), (.int p1), (.int p2)]) (rest := []) (lenOf own_pd_285bD5bDIIII29Z rfl) rfl (by show 2 * 0 + _ ≤ _; exact Nat.le_of_eq rfl) (hb hby at_115) (fun _ _ => ⟨rfl, rfl, (by decide : 2 + 0 ≤ _), (by decide : 25 + 0 ≤ _)⟩)
  dsimp only [Pt.U, Pt.locs, Pt.cells, Pt.slots] at Xw12 lw12 yw12 zw12 stw12 hQw12
  subst lw12 yw12 zw12
  obtain ⟨rfl, Nw12q, ew12⟩ := hQw12
  have Nw12 := Fr.app Nw11 Nw12q
  obtain ⟨_, _, ⟨Tw13, Lw13, kw13, nw13⟩, -, Xw13, ⟨Lcw13, hQw13, lw13, yw13, zw13⟩, stw13⟩ := Jvm.LawKit.callS Xw12 hx (y := (⟨"com/example/pintrinsic/pintrinsic/MatricesHomogeneousPinLaw", "row", "([D[DIIII)Z"⟩ : MethodName)) hown (mvT hZ (hw _ (List.mem_of_getElem? (i := 5) rfl))) (mvT hZ (hw _ (List.mem_of_getElem? (i := 6) rfl))) (mvT hZ (hw _ (List.mem_of_getElem? (i := 7) rfl))) (mvT hZ (hw _ (List.mem_of_getElem? (i := 8) rfl))) (by decide) (backOf (W := 0) (own_rm_r1 l Z a0 hw [] bw11 (FP.i2d p0) (FP.i2d p1) (FP.i2d p2) 0 (FP.i2d p3) (FP.i2d p4) (FP.i2d p5) 0 (FP.i2d w_v2) (FP.i2d w_v7) (FP.i2d w_v14) 0 0 0 0 4607182418800017408 bw1 (FP.i2d p0) (FP.i2d p1) (FP.i2d p2) (FP.i2d p3) (FP.i2d p4) (FP.i2d p5) (FP.i2d w_v2) (FP.i2d w_v7) (FP.i2d w_v14) p3 p4 p5 Tw11.heap n0 Zw11 qw11_0 V_bw1_w11 w_c131_r1_hc21 w_c131_r1_hc34 w_c131_r1_hc47 w_c131_r1_hc59 w_c131_r1_hc70 w_c131_r1_hc83 w_c131_r1_hc96) hZ (hw _ (List.mem_of_getElem? (i := 8) rfl)) (hw _ (List.mem_of_getElem? (i := 7) rfl)) (by decide) (by decide)) (g := (mkF m 131 #[.val (.int p0), .val (.int p1), .val (.int p2), .val (.int p3), .val (.int p4), .val (.int p5), .val (.int w_v2), .val (.int w_v7), .val (.int w_v14), .val (.ref bw1), .val (.ref bw11)] [(.int p5), (.int p4), (.int p3), (.int (1 : Int32)), (.ref bw1), (.ref bw11)])) rfl (by rw [hml]; rfl) (argsL := [(.ref bw11), (.ref bw1), (.int (1 : Int32)), (.int p3), (.int p4), (.int p5)]) (rest := []) (lenOf own_pd_285bD5bDIIII29Z rfl) rfl (by show 2 * 0 + _ ≤ _; exact Nat.le_of_eq rfl) (hb hby at_131) (fun _ _ => ⟨rfl, ew12, (by decide : 2 + 0 ≤ _), (by decide : 25 + 0 ≤ _)⟩)
  dsimp only [Pt.U, Pt.locs, Pt.cells, Pt.slots] at Xw13 lw13 yw13 zw13 stw13 hQw13
  subst lw13 yw13 zw13
  obtain ⟨rfl, Nw13q, ew13⟩ := hQw13
  have Nw13 := Fr.app Nw12 Nw13q
  obtain ⟨_, _, ⟨Tw14, Lw14, kw14, nw14⟩, -, Xw14, ⟨Lcw14, hQw14, lw14, yw14, zw14⟩, stw14⟩ := Jvm.LawKit.callS Xw13 hx (y := (⟨"com/example/pintrinsic/pintrinsic/MatricesHomogeneousPinLaw", "row", "([D[DIIII)Z"⟩ : MethodName)) hown (mvT hZ (hw _ (List.mem_of_getElem? (i := 5) rfl))) (mvT hZ (hw _ (List.mem_of_getElem? (i := 6) rfl))) (mvT hZ (hw _ (List.mem_of_getElem? (i := 7) rfl))) (mvT hZ (hw _ (List.mem_of_getElem? (i := 8) rfl))) (by decide) (backOf (W := 0) (own_rm_r2 l Z a0 hw [] bw11 (FP.i2d p0) (FP.i2d p1) (FP.i2d p2) 0 (FP.i2d p3) (FP.i2d p4) (FP.i2d p5) 0 (FP.i2d w_v2) (FP.i2d w_v7) (FP.i2d w_v14) 0 0 0 0 4607182418800017408 bw1 (FP.i2d p0) (FP.i2d p1) (FP.i2d p2) (FP.i2d p3) (FP.i2d p4) (FP.i2d p5) (FP.i2d w_v2) (FP.i2d w_v7) (FP.i2d w_v14) w_v2 w_v7 w_v14 Tw11.heap n0 Zw11 qw11_0 V_bw1_w11 w_c148_r2_hc21 w_c148_r2_hc34 w_c148_r2_hc47 w_c148_r2_hc59 w_c148_r2_hc70 w_c148_r2_hc83 w_c148_r2_hc96) hZ (hw _ (List.mem_of_getElem? (i := 8) rfl)) (hw _ (List.mem_of_getElem? (i := 7) rfl)) (by decide) (by decide)) (g := (mkF m 148 #[.val (.int p0), .val (.int p1), .val (.int p2), .val (.int p3), .val (.int p4), .val (.int p5), .val (.int w_v2), .val (.int w_v7), .val (.int w_v14), .val (.ref bw1), .val (.ref bw11)] [(.int w_v14), (.int w_v7), (.int w_v2), (.int (2 : Int32)), (.ref bw1), (.ref bw11)])) rfl (by rw [hml]; rfl) (argsL := [(.ref bw11), (.ref bw1), (.int (2 : Int32)), (.int w_v2), (.int w_v7), (.int w_v14)]) (rest := []) (lenOf own_pd_285bD5bDIIII29Z rfl) rfl (by show 2 * 0 + _ ≤ _; exact Nat.le_of_eq rfl) (hb hby at_148) (fun _ _ => ⟨rfl, ew13, (by decide : 2 + 0 ≤ _), (by decide : 25 + 0 ≤ _)⟩)
  dsimp only [Pt.U, Pt.locs, Pt.cells, Pt.slots] at Xw14 lw14 yw14 zw14 stw14 hQw14
  subst lw14 yw14 zw14
  obtain ⟨rfl, Nw14q, ew14⟩ := hQw14
  have Nw14 := Fr.app Nw13 Nw14q
  obtain ⟨fs, hr, hrun, hended, hW, hsame⟩ := Xw14.leave (v := some (.int (1 : Int32))) (fun h => by rw [Bd.returns] at h; cases h)
  refine ⟨_, _, pre0 _ ?_, hrun, hended, _, _, rfl, ?_, ⟨_, rfl⟩, hW, hsame.mono (by decide) (by decide)⟩
  · refine own_s_iloadN X0.here hx (hb hby at_0) (pc' := 1) rfl rfl ?_
    refine own_s_iloadN X0.here hx (hb hby at_1) (pc' := 2) rfl rfl ?_
    refine own_s_ixor X0.here hx (hb hby at_2) (pc' := 3) rfl (v := w_v2) w_hv2 ?_
    refine own_s_istore X0.here hx (hb hby at_3) (pc' := 5) rfl (L' := #[.val (.int p0), .val (.int p1), .val (.int p2), .val (.int p3), .val (.int p4), .val (.int p5), .val (.int w_v2), .unset, .unset, .unset, .unset]) rfl ?_
    refine own_s_iloadN X0.here hx (hb hby at_5) (pc' := 6) rfl rfl ?_
    refine own_s_iloadN X0.here hx (hb hby at_6) (pc' := 7) rfl rfl ?_
    refine own_s_ixor X0.here hx (hb hby at_7) (pc' := 8) rfl (v := w_v7) w_hv7 ?_
    refine own_s_istore X0.here hx (hb hby at_8) (pc' := 10) rfl (L' := #[.val (.int p0), .val (.int p1), .val (.int p2), .val (.int p3), .val (.int p4), .val (.int p5), .val (.int w_v2), .val (.int w_v7), .unset, .unset, .unset]) rfl ?_
    refine own_s_iload X0.here hx (hb hby at_10) (pc' := 12) rfl rfl ?_
    refine own_s_iload X0.here hx (hb hby at_12) (pc' := 14) rfl rfl ?_
    refine own_s_ixor X0.here hx (hb hby at_14) (pc' := 15) rfl (v := w_v14) w_hv14 ?_
    refine own_s_istore X0.here hx (hb hby at_15) (pc' := 17) rfl (L' := #[.val (.int p0), .val (.int p1), .val (.int p2), .val (.int p3), .val (.int p4), .val (.int p5), .val (.int w_v2), .val (.int w_v7), .val (.int w_v14), .unset, .unset]) rfl ?_
    refine own_s_bipush X0.here hx (hb hby at_17) (pc' := 19) rfl (v := (9 : Int32)) (by decide) ?_
    refine stw1 _ ?_
    refine own_s_astore Xw1.here hx (hb hby at_21) (pc' := 23) rfl rfl (L' := #[.val (.int p0), .val (.int p1), .val (.int p2), .val (.int p3), .val (.int p4), .val (.int p5), .val (.int w_v2), .val (.int w_v7), .val (.int w_v14), .val (.ref bw1), .unset]) rfl ?_
    refine own_s_aload Xw1.here hx (hb hby at_23) (pc' := 25) rfl rfl rfl ?_
    refine own_s_iconst Xw1.here hx (hb hby at_25) (pc' := 26) rfl (v := (0 : Int32)) (by decide) ?_
    refine own_s_iloadN Xw1.here hx (hb hby at_26) (pc' := 27) rfl rfl ?_
    refine own_s_i2d Xw1.here hx (hb hby at_27) (pc' := 28) rfl (v := (FP.i2d p0)) rfl ?_
    refine stw2 _ ?_
    refine own_s_aload Xw2.here hx (hb hby at_29) (pc' := 31) rfl rfl rfl ?_
    refine own_s_iconst Xw2.here hx (hb hby at_31) (pc' := 32) rfl (v := (1 : Int32)) (by decide) ?_
    refine own_s_iloadN Xw2.here hx (hb hby at_32) (pc' := 33) rfl rfl ?_
    refine own_s_i2d Xw2.here hx (hb hby at_33) (pc' := 34) rfl (v := (FP.i2d p1)) rfl ?_
    refine stw3 _ ?_
    refine own_s_aload Xw3.here hx (hb hby at_35) (pc' := 37) rfl rfl rfl ?_
    refine own_s_iconst Xw3.here hx (hb hby at_37) (pc' := 38) rfl (v := (2 : Int32)) (by decide) ?_
    refine own_s_iloadN Xw3.here hx (hb hby at_38) (pc' := 39) rfl rfl ?_
    refine own_s_i2d Xw3.here hx (hb hby at_39) (pc' := 40) rfl (v := (FP.i2d p2)) rfl ?_
    refine stw4 _ ?_
    refine own_s_aload Xw4.here hx (hb hby at_41) (pc' := 43) rfl rfl rfl ?_
    refine own_s_iconst Xw4.here hx (hb hby at_43) (pc' := 44) rfl (v := (3 : Int32)) (by decide) ?_
    refine own_s_iloadN Xw4.here hx (hb hby at_44) (pc' := 45) rfl rfl ?_
    refine own_s_i2d Xw4.here hx (hb hby at_45) (pc' := 46) rfl (v := (FP.i2d p3)) rfl ?_
    refine stw5 _ ?_
    refine own_s_aload Xw5.here hx (hb hby at_47) (pc' := 49) rfl rfl rfl ?_
    refine own_s_iconst Xw5.here hx (hb hby at_49) (pc' := 50) rfl (v := (4 : Int32)) (by decide) ?_
    refine own_s_iload Xw5.here hx (hb hby at_50) (pc' := 52) rfl rfl ?_
    refine own_s_i2d Xw5.here hx (hb hby at_52) (pc' := 53) rfl (v := (FP.i2d p4)) rfl ?_
    refine stw6 _ ?_
    refine own_s_aload Xw6.here hx (hb hby at_54) (pc' := 56) rfl rfl rfl ?_
    refine own_s_iconst Xw6.here hx (hb hby at_56) (pc' := 57) rfl (v := (5 : Int32)) (by decide) ?_
    refine own_s_iload Xw6.here hx (hb hby at_57) (pc' := 59) rfl rfl ?_
    refine own_s_i2d Xw6.here hx (hb hby at_59) (pc' := 60) rfl (v := (FP.i2d p5)) rfl ?_
    refine stw7 _ ?_
    refine own_s_aload Xw7.here hx (hb hby at_61) (pc' := 63) rfl rfl rfl ?_
    refine own_s_bipush Xw7.here hx (hb hby at_63) (pc' := 65) rfl (v := (6 : Int32)) (by decide) ?_
    refine own_s_iload Xw7.here hx (hb hby at_65) (pc' := 67) rfl rfl ?_
    refine own_s_i2d Xw7.here hx (hb hby at_67) (pc' := 68) rfl (v := (FP.i2d w_v2)) rfl ?_
    refine stw8 _ ?_
    refine own_s_aload Xw8.here hx (hb hby at_69) (pc' := 71) rfl rfl rfl ?_
    refine own_s_bipush Xw8.here hx (hb hby at_71) (pc' := 73) rfl (v := (7 : Int32)) (by decide) ?_
    refine own_s_iload Xw8.here hx (hb hby at_73) (pc' := 75) rfl rfl ?_
    refine own_s_i2d Xw8.here hx (hb hby at_75) (pc' := 76) rfl (v := (FP.i2d w_v7)) rfl ?_
    refine stw9 _ ?_
    refine own_s_aload Xw9.here hx (hb hby at_77) (pc' := 79) rfl rfl rfl ?_
    refine own_s_bipush Xw9.here hx (hb hby at_79) (pc' := 81) rfl (v := (8 : Int32)) (by decide) ?_
    refine own_s_iload Xw9.here hx (hb hby at_81) (pc' := 83) rfl rfl ?_
    refine own_s_i2d Xw9.here hx (hb hby at_83) (pc' := 84) rfl (v := (FP.i2d w_v14)) rfl ?_
    refine stw10 _ ?_
    refine own_s_aload Xw10.here hx (hb hby at_85) (pc' := 87) rfl rfl rfl ?_
    refine stw11 _ ?_
    show Steps p.tables e below (Tw11.setTop (mkF m 90 #[.val (.int p0), .val (.int p1), .val (.int p2), .val (.int p3), .val (.int p4), .val (.int p5), .val (.int w_v2), .val (.int w_v7), .val (.int w_v14), .val (.ref bw1), .unset] [(.ref bw11)])) _
    refine own_s_astore Xw11.here hx (hb hby at_90) (pc' := 92) rfl rfl (L' := #[.val (.int p0), .val (.int p1), .val (.int p2), .val (.int p3), .val (.int p4), .val (.int p5), .val (.int w_v2), .val (.int w_v7), .val (.int w_v14), .val (.ref bw1), .val (.ref bw11)]) rfl ?_
    refine own_s_aload Xw11.here hx (hb hby at_92) (pc' := 94) rfl rfl rfl ?_
    refine own_s_ifnullNo Xw11.here hx (hb hby at_94) (pc' := 97) rfl  ?_
    refine own_s_aload Xw11.here hx (hb hby at_97) (pc' := 99) rfl rfl rfl ?_
    refine own_len Xw11 hx hZ rfl qw11_0 (hb hby at_99) (pc' := 100) rfl ?_
    refine own_s_bipush Xw11.here hx (hb hby at_100) (pc' := 102) rfl (v := (16 : Int32)) (by decide) ?_
    refine own_s_icmpYes Xw11.here hx (hb hby at_102) (by decide) (pc' := 107) (by decide) (by decide) ?_
    refine own_s_aload Xw11.here hx (hb hby at_107) (pc' := 109) rfl rfl rfl ?_
    refine own_s_aload Xw11.here hx (hb hby at_109) (pc' := 111) rfl rfl rfl ?_
    refine own_s_iconst Xw11.here hx (hb hby at_111) (pc' := 112) rfl (v := (0 : Int32)) (by decide) ?_
    refine own_s_iloadN Xw11.here hx (hb hby at_112) (pc' := 113) rfl rfl ?_
    refine own_s_iloadN Xw11.here hx (hb hby at_113) (pc' := 114) rfl rfl ?_
    refine own_s_iloadN Xw11.here hx (hb hby at_114) (pc' := 115) rfl rfl ?_
    refine stw12 _ ?_
    show Steps p.tables e below (Tw12.setTop (mkF m 118 #[.val (.int p0), .val (.int p1), .val (.int p2), .val (.int p3), .val (.int p4), .val (.int p5), .val (.int w_v2), .val (.int w_v7), .val (.int w_v14), .val (.ref bw1), .val (.ref bw11)] [(.int (1 : Int32))])) _
    refine own_s_ifNo Xw12.here hx (hb hby at_118) (pc' := 121) rfl (by decide) ?_
    refine own_s_aload Xw12.here hx (hb hby at_121) (pc' := 123) rfl rfl rfl ?_
    refine own_s_aload Xw12.here hx (hb hby at_123) (pc' := 125) rfl rfl rfl ?_
    refine own_s_iconst Xw12.here hx (hb hby at_125) (pc' := 126) rfl (v := (1 : Int32)) (by decide) ?_
    refine own_s_iloadN Xw12.here hx (hb hby at_126) (pc' := 127) rfl rfl ?_
    refine own_s_iload Xw12.here hx (hb hby at_127) (pc' := 129) rfl rfl ?_
    refine own_s_iload Xw12.here hx (hb hby at_129) (pc' := 131) rfl rfl ?_
    refine stw13 _ ?_
    show Steps p.tables e below (Tw13.setTop (mkF m 134 #[.val (.int p0), .val (.int p1), .val (.int p2), .val (.int p3), .val (.int p4), .val (.int p5), .val (.int w_v2), .val (.int w_v7), .val (.int w_v14), .val (.ref bw1), .val (.ref bw11)] [(.int (1 : Int32))])) _
    refine own_s_ifNo Xw13.here hx (hb hby at_134) (pc' := 137) rfl (by decide) ?_
    refine own_s_aload Xw13.here hx (hb hby at_137) (pc' := 139) rfl rfl rfl ?_
    refine own_s_aload Xw13.here hx (hb hby at_139) (pc' := 141) rfl rfl rfl ?_
    refine own_s_iconst Xw13.here hx (hb hby at_141) (pc' := 142) rfl (v := (2 : Int32)) (by decide) ?_
    refine own_s_iload Xw13.here hx (hb hby at_142) (pc' := 144) rfl rfl ?_
    refine own_s_iload Xw13.here hx (hb hby at_144) (pc' := 146) rfl rfl ?_
    refine own_s_iload Xw13.here hx (hb hby at_146) (pc' := 148) rfl rfl ?_
    refine stw14 _ ?_
    show Steps p.tables e below (Tw14.setTop (mkF m 151 #[.val (.int p0), .val (.int p1), .val (.int p2), .val (.int p3), .val (.int p4), .val (.int p5), .val (.int w_v2), .val (.int w_v7), .val (.int w_v14), .val (.ref bw1), .val (.ref bw11)] [(.int (1 : Int32))])) _
    refine own_s_ifNo Xw14.here hx (hb hby at_151) (pc' := 154) rfl (by decide) ?_
    refine own_s_aload Xw14.here hx (hb hby at_154) (pc' := 156) rfl rfl rfl ?_
    refine own_s_bipush Xw14.here hx (hb hby at_156) (pc' := 158) rfl (v := (12 : Int32)) (by decide) ?_
    refine own_ldD Xw14 hx hZ ew14 qw11_0 (j := (12 : Int32)) (x := 0) (by decide) rfl (hb hby at_158) (pc' := 159) rfl ?_
    refine own_s_dconst0 Xw14.here hx (hb hby at_159) (pc' := 160) rfl  ?_
    refine own_s_dcmp Xw14.here hx (hb hby at_160) (pc' := 161) rfl (v := (0 : Int32)) w_hc160 ?_
    refine own_s_ifNo Xw14.here hx (hb hby at_161) (pc' := 164) rfl (by decide) ?_
    refine own_s_aload Xw14.here hx (hb hby at_164) (pc' := 166) rfl rfl rfl ?_
    refine own_s_bipush Xw14.here hx (hb hby at_166) (pc' := 168) rfl (v := (13 : Int32)) (by decide) ?_
    refine own_ldD Xw14 hx hZ ew14 qw11_0 (j := (13 : Int32)) (x := 0) (by decide) rfl (hb hby at_168) (pc' := 169) rfl ?_
    refine own_s_dconst0 Xw14.here hx (hb hby at_169) (pc' := 170) rfl  ?_
    refine own_s_dcmp Xw14.here hx (hb hby at_170) (pc' := 171) rfl (v := (0 : Int32)) w_hc170 ?_
    refine own_s_ifNo Xw14.here hx (hb hby at_171) (pc' := 174) rfl (by decide) ?_
    refine own_s_aload Xw14.here hx (hb hby at_174) (pc' := 176) rfl rfl rfl ?_
    refine own_s_bipush Xw14.here hx (hb hby at_176) (pc' := 178) rfl (v := (14 : Int32)) (by decide) ?_
    refine own_ldD Xw14 hx hZ ew14 qw11_0 (j := (14 : Int32)) (x := 0) (by decide) rfl (hb hby at_178) (pc' := 179) rfl ?_
    refine own_s_dconst0 Xw14.here hx (hb hby at_179) (pc' := 180) rfl  ?_
    refine own_s_dcmp Xw14.here hx (hb hby at_180) (pc' := 181) rfl (v := (0 : Int32)) w_hc180 ?_
    refine own_s_ifNo Xw14.here hx (hb hby at_181) (pc' := 184) rfl (by decide) ?_
    refine own_s_aload Xw14.here hx (hb hby at_184) (pc' := 186) rfl rfl rfl ?_
    refine own_s_bipush Xw14.here hx (hb hby at_186) (pc' := 188) rfl (v := (15 : Int32)) (by decide) ?_
    refine own_ldD Xw14 hx hZ ew14 qw11_0 (j := (15 : Int32)) (x := 4607182418800017408) (by decide) rfl (hb hby at_188) (pc' := 189) rfl ?_
    refine own_s_dconst1 Xw14.here hx (hb hby at_189) (pc' := 190) rfl  ?_
    refine own_s_dcmp Xw14.here hx (hb hby at_190) (pc' := 191) rfl (v := (0 : Int32)) w_hc190 ?_
    refine own_s_ifNo Xw14.here hx (hb hby at_191) (pc' := 194) rfl (by decide) ?_
    refine own_s_iconst Xw14.here hx (hb hby at_194) (pc' := 195) rfl (v := (1 : Int32)) (by decide) ?_
    refine own_s_goto Xw14.here hx (hb hby at_195) (by decide) (pc' := 199) (by decide) ?_
    exact retN Xw14 hx (t := .boolean) Bd.returns (by simp) (hb hby at_199) hr
  · show own_Q0 n0 _ Tw14.heap _
    rw [ew14]
    exact ⟨rfl, Nw14⟩
set_option maxRecDepth 65536 in
set_option maxHeartbeats 40000000 in
theorem own_rm0 (l : Launch) (Z : State) (a0 : Array Value) (hw : ∀ d ∈ tables_1, d.before a0 Z = true) (ws : List Jvm.Cond) (p0 : Int32) (p1 : Int32) (p2 : Int32) (p3 : Int32) (p4 : Int32) (p5 : Int32) (h0 : Heap) (n0 : Nat) (Z0 : n0 ≤ h0.size)  :
    MetFree l x (head1 (Jvm.Cond.code x code maxLocals ret :: ws) room_1) (fun a U => a = #[(.int p0), (.int p1), (.int p2), (.int p3), (.int p4), (.int p5)] ∧ Z.Warmed39 U.vm ∧ U.heap = h0) (fun _ _ _ _ _ => True) (fun _ U o U' => ∃ v L, o = .returned v ∧ own_Q0 n0 v U'.heap L ∧ FrameEnd U o U' L room_1.cells room_1.slots) := by
  exact own_rm_w l Z a0 hw ws p0 p1 p2 p3 p4 p5 h0 n0 Z0 (w_hv2 := rfl) (w_hv7 := rfl) (w_hv14 := rfl) (w_c115_r0_hc21 := (own_eq0 (own_i2d _) (own_i2d _) rfl _)) (w_c115_r0_hc34 := (own_eq0 (own_i2d _) (own_i2d _) rfl _)) (w_c115_r0_hc47 := (own_eq0 (own_i2d _) (own_i2d _) rfl _)) (w_c115_r0_hc59 := (own_eq0 own_zero own_zero rfl _)) (w_c115_r0_hc70 := (own_eq0 (own_i2d _) (own_i2d _) rfl _)) (w_c115_r0_hc83 := (own_eq0 (own_i2d _) (own_i2d _) rfl _)) (w_c115_r0_hc96 := (own_eq0 (own_i2d _) (own_i2d _) rfl _)) (w_c131_r1_hc21 := (own_eq0 (own_i2d _) (own_i2d _) rfl _)) (w_c131_r1_hc34 := (own_eq0 (own_i2d _) (own_i2d _) rfl _)) (w_c131_r1_hc47 := (own_eq0 (own_i2d _) (own_i2d _) rfl _)) (w_c131_r1_hc59 := (own_eq0 own_zero own_zero rfl _)) (w_c131_r1_hc70 := (own_eq0 (own_i2d _) (own_i2d _) rfl _)) (w_c131_r1_hc83 := (own_eq0 (own_i2d _) (own_i2d _) rfl _)) (w_c131_r1_hc96 := (own_eq0 (own_i2d _) (own_i2d _) rfl _)) (w_c148_r2_hc21 := (own_eq0 (own_i2d _) (own_i2d _) rfl _)) (w_c148_r2_hc34 := (own_eq0 (own_i2d _) (own_i2d _) rfl _)) (w_c148_r2_hc47 := (own_eq0 (own_i2d _) (own_i2d _) rfl _)) (w_c148_r2_hc59 := (own_eq0 own_zero own_zero rfl _)) (w_c148_r2_hc70 := (own_eq0 (own_i2d _) (own_i2d _) rfl _)) (w_c148_r2_hc83 := (own_eq0 (own_i2d _) (own_i2d _) rfl _)) (w_c148_r2_hc96 := (own_eq0 (own_i2d _) (own_i2d _) rfl _)) (w_hc160 := (own_eq0 own_zero own_zero rfl _)) (w_hc170 := (own_eq0 own_zero own_zero rfl _)) (w_hc180 := (own_eq0 own_zero own_zero rfl _)) (w_hc190 := (own_eq0 own_one own_one rfl _))
set_option maxRecDepth 65536 in
set_option maxHeartbeats 40000000 in
theorem comes_1 {Post : Tables → Env → Array Value → State → Outcome → State → Prop} (hpost : ∀ tb e args s v u, (limb_1_1.after args s (.returned v) u = true ∧ limb_1_2.after args s (.returned v) u = true ∧ True) → FrameEnd s (.returned v) u (Jvm.fieldLocs frame_1_writes args s ++ Jvm.arrayLocs frame_1_arrays args s ++ Jvm.staticLocs frame_1_statics s) 16 128 → Post tb e args s (.returned v) u) :
    ArmFor flags0 classFile x code maxLocals ret World_1 tables_1 room_1 Calls_1 rest_1 Pre_1 Post := by
  intro l hfl _ _ p e ha hc hk s m args below hf hA hF happ hP
  obtain ⟨hcalls, hrest, hpre⟩ := hP
  obtain ⟨-, -, -, hnamed, -, -, -, hat⟩ := (Spec.applies_iff hf).mp happ
  obtain ⟨hg, hn⟩ := and_e (Cond.before_iff.mp (show (Jvm.Cond.and given_1 narrow_1).before args s = true from hpre))
  obtain ⟨hcount, g0⟩ := and_e hg
  obtain ⟨a0, g1⟩ := and_e g0
  obtain ⟨a1, g2⟩ := and_e g1
  obtain ⟨a2, g3⟩ := and_e g2
  obtain ⟨a3, g4⟩ := and_e g3
  obtain ⟨a4, g5⟩ := and_e g4
  have a5 := g5
  obtain ⟨w0, w1, w2, w3, w4, w5, rfl⟩ : ∃ w0 w1 w2 w3 w4 w5 : Value, args = #[w0, w1, w2, w3, w4, w5] := by
    have hs : args.size = 6 := by simpa [Cond.value, given_1] using hcount
    obtain ⟨L⟩ := args
    match L, hs with
    | [w0, w1, w2, w3, w4, w5], _ => exact ⟨w0, w1, w2, w3, w4, w5, rfl⟩
  have hw := fun d (hd : d ∈ tables_1) => atoms_spec (ws := Jvm.Cond.code x code maxLocals ret :: tables_1) hat d (List.mem_cons_of_mem _ hd)
  obtain ⟨i0, ei0⟩ := is_v a0
  obtain rfl : w0 = (.int i0) := Option.some.inj ei0
  obtain ⟨i1, ei1⟩ := is_v a1
  obtain rfl : w1 = (.int i1) := Option.some.inj ei1
  obtain ⟨i2, ei2⟩ := is_v a2
  obtain rfl : w2 = (.int i2) := Option.some.inj ei2
  obtain ⟨i3, ei3⟩ := is_v a3
  obtain rfl : w3 = (.int i3) := Option.some.inj ei3
  obtain ⟨i4, ei4⟩ := is_v a4
  obtain rfl : w4 = (.int i4) := Option.some.inj ei4
  obtain ⟨i5, ei5⟩ := is_v a5
  obtain rfl : w5 = (.int i5) := Option.some.inj ei5
  obtain ⟨n, o, h1, h2, h3, _, L, rfl, ⟨rfl, N⟩, hq⟩ := own_rm0 l s _ hw tables_1 i0 i1 i2 i3 i4 i5 s.heap s.heap.size (Nat.le_refl _)  p e ha hc hk s m _ below hf ((Spec.applies_iff_loose hf).mp happ).1 ⟨rfl, State.Warmed39.refl s, rfl⟩ trivial
  refine ⟨n, _, h1, h2, h3, hpost _ _ _ _ _ _ ⟨Cond.after_iff.mpr rfl, Cond.after_iff.mpr (eq_i res_at (Term.int_eval (1)) rfl), trivial⟩ ⟨hq.1, hq.2.1, (hq.2.2.sift fun y hy => Or.inr (N y hy)).mono (by decide) (by decide)⟩⟩
theorem main_1_1 : Claimed_1_1 := comes_1 fun _ _ _ _ _ _ h hF => ⟨h.1, hF⟩
theorem main_1_2 : Claimed_1_2 := comes_1 fun _ _ _ _ _ _ h hF => ⟨h.2.1, hF⟩
end Jvm.Pilot.@@N@@
namespace Jvm.Pilot.@@N@@
open Jvm Jvm.ClassFile Sem Op Lib Jvm.Free Jvm.Stand Jvm.Pilot.@@N@@.Jvm.D
/-! MADE BY PROGRAM (witnessworld.py) out of the Statement's table words and the real class files: 9 classes; the members and pool entries that the words name. The judged class is class 1, her method 1. -/
namespace start1
open Jvm.ClassFile
def u (s : String) : CpInfo := .utf8 (stringToUtf16 s)
/-- a pool by its gaps: so many unusable entries, then the entry; so many at the end -/
def gap : Nat → List CpInfo → List CpInfo
  | 0, r => r
  | n + 1, r => .unusable :: gap n r
def poolList (es : List (Nat × CpInfo)) (last : Nat) : List CpInfo := es.foldr (fun e r => gap e.1 (e.2 :: r)) (gap last [])
def pool (es : List (Nat × CpInfo)) (last : Nat) : Array CpInfo := ⟨poolList es last⟩
def fileOf (pool : Array CpInfo) (this : Nat) (attrs : Array Attribute := #[]) (ms : Array MethodInfo := #[]) (fl : Nat := 33) (sup : Nat := 0) (ifs : Array Nat := #[]) (fds : Array FieldInfo := #[]) : ClassFile where
  minorVersion := 0
  majorVersion := 65
  constantPool := pool
  accessFlags := fl
  thisClass := this
  superClass := sup
  interfaces := ifs
  fields := fds
  methods := ms
  attributes := attrs
def plain (name : String) (sup : Option ClassId) : Class where
  name := name
  kind := .ordinary
  loader := none
  accessFlags := 33
  super := sup
  interfaces := #[]
  cf := none
  fields := #[]
  methods := #[]
  instanceTypes := #[]
  staticTypes := #[]
  resolved := #[]
  callSites := []
  init := .initialized
  statics := none
  mirror := none

def pool0 : Array CpInfo := pool [(5, u "<init>"), (0, u "()V"), (1, .class_ 10), (1, u "java/lang/Object")] 113

def k0m0 : Method := { name := "<init>", desc := "()V", sig := { parameters := [], returnType := none }, accessFlags := 1, code := none }
/-- java/lang/Object -/
def k0 : Class := { plain "java/lang/Object" none with
  accessFlags := 33
  interfaces := #[]
  cf := some (fileOf pool0 8 #[] #[{ accessFlags := 1, nameIndex := 5, descriptorIndex := 6, attributes := #[] }] 33 0 #[] #[])
  fields := #[]
  methods := #[k0m0]
  instanceTypes := #[]
  staticTypes := #[]
  resolved := Array.replicate 124 none
  statics := none }

def pool1 : Array CpInfo := pool [(2, .class_ 4), (1, u "java/lang/Object"), (0, u "<init>"), (0, u "()V"), (0, .methodref 8 9), (0, .class_ 10), (0, .nameAndType 11 12), (0, u "com/example/pintrinsic/pintrinsic/Matrices"), (0, u "homogeneous"), (0, u "([D)[D"), (0, .methodref 14 15), (0, .class_ 16), (0, .nameAndType 17 18), (0, u "com/example/pintrinsic/pintrinsic/MatricesHomogeneousPinLaw"), (0, u "row"), (0, u "([D[DIIII)Z"), (2, u "law"), (0, u "(IIIIII)Z")] 5

def k1m0 : Method := { name := "<init>", desc := "()V", sig := { parameters := [], returnType := none }, accessFlags := 2, code := none }
def k1c1 : Code := { maxStack := 6, maxLocals := 11, code := code, exceptionTable := #[], attributes := #[] }
def k1m1 : Method := { name := "law", desc := "(IIIIII)Z", sig := { parameters := [.int, .int, .int, .int, .int, .int], returnType := some .boolean }, accessFlags := 9, code := some k1c1 }
def k1c2 : Code := { maxStack := 4, maxLocals := 12, code := method_3_code, exceptionTable := #[], attributes := #[] }
def k1m2 : Method := { name := "row", desc := "([D[DIIII)Z", sig := { parameters := [(.array .double), (.array .double), .int, .int, .int, .int], returnType := some .boolean }, accessFlags := 10, code := some k1c2 }
/-- com/example/pintrinsic/pintrinsic/MatricesHomogeneousPinLaw -/
def k1 : Class := { plain "com/example/pintrinsic/pintrinsic/MatricesHomogeneousPinLaw" (some 0) with
  accessFlags := 49
  interfaces := #[]
  cf := some (fileOf pool1 14 #[] #[{ accessFlags := 2, nameIndex := 5, descriptorIndex := 6, attributes := #[] }, { accessFlags := 9, nameIndex := 21, descriptorIndex := 22, attributes := #[] }, { accessFlags := 10, nameIndex := 17, descriptorIndex := 18, attributes := #[] }] 49 2 #[] #[])
  fields := #[]
  methods := #[k1m0, k1m1, k1m2]
  instanceTypes := #[]
  staticTypes := #[]
  resolved := Array.replicate 28 none
  statics := none }

def pool2 : Array CpInfo := pool [(2, .class_ 4), (1, u "java/lang/Object"), (0, u "<init>"), (0, u "()V"), (1, .class_ 10), (1, u "com/example/pintrinsic/pintrinsic/Matrices"), (9, u "homogeneous"), (0, u "([D)[D")] 5

def k2m0 : Method := { name := "<init>", desc := "()V", sig := { parameters := [], returnType := none }, accessFlags := 2, code := none }
def k2c1 : Code := { maxStack := 5, maxLocals := 1, code := prog_10_method_3_code, exceptionTable := #[], attributes := #[] }
def k2m1 : Method := { name := "homogeneous", desc := "([D)[D", sig := { parameters := [(.array .double)], returnType := some (.array .double) }, accessFlags := 8, code := some k2c1 }
/-- com/example/pintrinsic/pintrinsic/Matrices -/
def k2 : Class := { plain "com/example/pintrinsic/pintrinsic/Matrices" (some 0) with
  accessFlags := 48
  interfaces := #[]
  cf := some (fileOf pool2 8 #[] #[{ accessFlags := 2, nameIndex := 5, descriptorIndex := 6, attributes := #[] }, { accessFlags := 8, nameIndex := 20, descriptorIndex := 21, attributes := #[] }] 48 2 #[] #[])
  fields := #[]
  methods := #[k2m0, k2m1]
  instanceTypes := #[]
  staticTypes := #[]
  resolved := Array.replicate 27 none
  statics := none }

def pool3 : Array CpInfo := pool [(1, u "java/lang/Cloneable"), (0, .class_ 1), (0, u "java/lang/Object"), (0, .class_ 3)] 3

/-- java/lang/Cloneable -/
def k3 : Class := { plain "java/lang/Cloneable" (some 0) with
  accessFlags := 1537
  interfaces := #[]
  cf := some (fileOf pool3 2 #[] #[] 1537 4 #[] #[])
  fields := #[]
  methods := #[]
  instanceTypes := #[]
  staticTypes := #[]
  resolved := Array.replicate 8 none
  statics := none }

def pool4 : Array CpInfo := pool [(1, u "java/io/Serializable"), (0, .class_ 1), (0, u "java/lang/Object"), (0, .class_ 3)] 3

/-- java/io/Serializable -/
def k4 : Class := { plain "java/io/Serializable" (some 0) with
  accessFlags := 1537
  interfaces := #[]
  cf := some (fileOf pool4 2 #[] #[] 1537 4 #[] #[])
  fields := #[]
  methods := #[]
  instanceTypes := #[]
  staticTypes := #[]
  resolved := Array.replicate 8 none
  statics := none }

/-- the primitive byte -/
def k5 : Class := { plain "byte" none with kind := .primitive 'B', accessFlags := 0x411 }
/-- [B -/
def k6 : Class := { plain "[B" (some 0) with kind := .array 5 .byte, interfaces := #[3, 4], accessFlags := 1041 }

/-- the primitive int -/
def k7 : Class := { plain "int" none with kind := .primitive 'I', accessFlags := 0x411 }
/-- [I -/
def k8 : Class := { plain "[I" (some 0) with kind := .array 7 .int, interfaces := #[3, 4], accessFlags := 1041 }

/-- the primitive double -/
def k9 : Class := { plain "double" none with kind := .primitive 'D', accessFlags := 0x411 }
/-- [D -/
def k10 : Class := { plain "[D" (some 0) with kind := .array 9 .double, interfaces := #[3, 4], accessFlags := 1041 }

def heap : Heap := #[]
def classes : Array Class := #[k0, k1, k2, k3, k4, k5, k6, k7, k8, k9, k10]
def interned : List (Array UInt16 × Addr) := []
def slotsUsed : Nat := 0
def theMethod : MethodId := ⟨1, 1⟩
def args0 : Array Value := #[.int 3, .int 4, .int 5, .int 6, .int 7, .int 8]
def aboutOver (below : List Frame) : State where
  vm := { classes := classes, interned := interned.toArray }
  heap := heap
  slotsUsed := slotsUsed
  threads := #[{ frames := .invoking theMethod args0 :: below }]
def below0 : List Frame := [.native { method := ⟨0, 0⟩, args := #[] }]
def about1 : State := aboutOver below0
def p0 : Program := .bare "" "" ""
def e0 : Env := launch0.env 0 0 0
theorem w_frames : about1.frames = Frame.invoking theMethod args0 :: below0 := rfl
set_option maxRecDepth 65536 in
theorem w_args : argsFit about1.vm theMethod args0 = true := by decide +kernel
set_option maxRecDepth 65536 in
theorem w_heap : heapFits about1 = true := by decide +kernel
set_option maxRecDepth 65536 in
theorem w_runnable : about1.curStatus? = some .runnable := by decide +kernel
set_option maxRecDepth 65536 in
theorem w_alone : about1.alone = true := by decide +kernel
set_option maxRecDepth 65536 in
theorem w_named : about1.methodNamed? x = some theMethod := by decide +kernel
set_option maxRecDepth 65536 in
theorem w_hears : about1.hears theMethod below0 = true := by decide +kernel
set_option maxRecDepth 65536 in
theorem w_ripe : about1.ripe theMethod args0 below0 = true := by decide +kernel
theorem w_running : about1.status = .running := rfl
set_option maxRecDepth 65536 in
theorem w_room : about1.hasRoom e0.platform room_1 = true :=
  launch0.hasRoom_least _ room_1 (by decide +kernel) (by decide +kernel) (by decide +kernel) (by decide +kernel) (by decide +kernel) (by decide +kernel)
theorem allAtoms_all (ts : List Jvm.Cond) (a : Array Jvm.Value) (st : Jvm.State) : (allAtoms ts).before a st = ts.all (fun c => c.before a st) := by
  induction ts with
  | nil => rfl
  | cons c t ih =>
    show (Jvm.Cond.and c (allAtoms t)).before a st = _
    rw [Jvm.Cond.before_and, ih, List.all_cons]
def words1 : List Jvm.Cond := Jvm.Cond.code x code maxLocals ret :: tables_1
/-- a 'code' word, met by the world's own term for the bytes: nothing is compared byte by byte -/
theorem code_word {y : MethodName} {bytes : ByteArray} {mx : Nat} {rt : Option FieldType} {a : Array Value} {s : State} {m : MethodId} {meth : Method} {c : Code} (h1 : s.methodNamed? y = some m) (h2 : s.vm.method? m = some meth) (h3 : meth.code = some c) (h4 : c.code = bytes)
    (h5 : (c.maxLocals == mx && c.exceptionTable.isEmpty && decide (c.maxStack ≤ mostOperands) && decide (meth.sig.returnType = rt) && !meth.locks && decide (parseMethodDescriptor y.desc = some meth.sig)) = true) : (Jvm.Cond.code y bytes mx rt).before a s = true := by
  simp only [Bool.and_eq_true, beq_iff_eq, Bool.not_eq_true', decide_eq_true_eq] at h5
  obtain ⟨⟨⟨⟨⟨g1, g2⟩, g3⟩, g4⟩, g5⟩, g6⟩ := h5
  simp [Cond.before, Cond.holds, Cond.value, h1, h2, h3, h4, g1, g2, g3, g4, g5, g6]
def isCode : Jvm.Cond → Bool
  | .code _ _ _ _ => true
  | _ => false
theorem all_split {L : List Jvm.Cond} {P : Jvm.Cond → Bool} (h1 : L.all (fun c => isCode c || P c) = true) (h2 : ∀ c ∈ L.filter isCode, P c = true) : L.all P = true := by
  refine List.all_eq_true.mpr fun c hc => ?_
  have h := List.all_eq_true.mp h1 c hc
  rcases Bool.eq_false_or_eq_true (isCode c) with hi | hi
  · exact h2 c (List.mem_filter.mpr ⟨hc, hi⟩)
  · simpa [hi] using h
set_option maxRecDepth 65536 in
theorem w_c0 : (Jvm.Cond.code x code maxLocals ret).before args0 about1 = true := code_word (m := ⟨1, 1⟩) (meth := k1m1) (c := k1c1) (by decide +kernel) rfl rfl rfl (by decide +kernel)
set_option maxRecDepth 65536 in
theorem w_c1 : (Jvm.Cond.code ({ cls := "com/example/pintrinsic/pintrinsic/Matrices", name := "homogeneous", desc := "([D)[D" } : Jvm.MethodName) prog_10_method_3_code (1 : Nat) (Option.some (Jvm.ClassFile.FieldType.array Jvm.ClassFile.FieldType.double))).before args0 about1 = true := code_word (m := ⟨2, 1⟩) (meth := k2m1) (c := k2c1) (by decide +kernel) rfl rfl rfl (by decide +kernel)
set_option maxRecDepth 65536 in
theorem w_c2 : (Jvm.Cond.code ({ cls := "com/example/pintrinsic/pintrinsic/MatricesHomogeneousPinLaw", name := "row", desc := "([D[DIIII)Z" } : Jvm.MethodName) method_3_code (12 : Nat) (Option.some Jvm.ClassFile.FieldType.boolean)).before args0 about1 = true := code_word (m := ⟨1, 2⟩) (meth := k1m2) (c := k1c2) (by decide +kernel) rfl rfl rfl (by decide +kernel)
def codes1 : List Jvm.Cond := [Jvm.Cond.code x code maxLocals ret, Jvm.Cond.code ({ cls := "com/example/pintrinsic/pintrinsic/Matrices", name := "homogeneous", desc := "([D)[D" } : Jvm.MethodName) prog_10_method_3_code (1 : Nat) (Option.some (Jvm.ClassFile.FieldType.array Jvm.ClassFile.FieldType.double)), Jvm.Cond.code ({ cls := "com/example/pintrinsic/pintrinsic/MatricesHomogeneousPinLaw", name := "row", desc := "([D[DIIII)Z" } : Jvm.MethodName) method_3_code (12 : Nat) (Option.some Jvm.ClassFile.FieldType.boolean)]
set_option maxRecDepth 65536 in
theorem codes_eq : words1.filter isCode = codes1 := rfl
theorem w_codes : ∀ c ∈ words1.filter isCode, c.before args0 about1 = true := by
  rw [codes_eq]
  intro c hc
  simp only [codes1, List.mem_cons, List.not_mem_nil, or_false] at hc
  rcases hc with rfl | rfl | rfl
  · exact w_c0
  · exact w_c1
  · exact w_c2
set_option maxRecDepth 65536 in
theorem w_t1 : words1.all (fun c => isCode c || c.before args0 about1) = true := by decide +kernel
theorem w_tables : (allAtoms (Jvm.Cond.code x code maxLocals ret :: tables_1)).before args0 about1 = true := by
  rw [allAtoms_all]
  show words1.all (fun c => c.before args0 about1) = true
  refine all_split ?_ w_codes
  rw [w_t1]
set_option maxRecDepth 65536 in
theorem w_case : (Jvm.Cond.and given_1 narrow_1).before args0 about1 = true := by decide +kernel
theorem w_applies : (headSpec (Jvm.Cond.code x code maxLocals ret :: tables_1) room_1).applies x e0.platform about1 = true :=
  (Spec.applies_iff w_frames).mpr ⟨w_running, w_runnable, w_alone, w_named, w_hears, w_ripe, w_room, w_tables⟩
theorem atStart : AtStart classFile x code maxLocals ret World_1 tables_1 room_1 Calls_1 rest_1 Pre_1 launch0 p0 e0 about1 theMethod args0 below0 :=
  ⟨lists_1, trivial, launch0.admits_env _ _ _, launch0.least_env, fairChoices_fair.cas, fairChoices_fair.clock, w_frames, w_args, w_heap, w_applies, trivial, trivial, w_case⟩
end start1
theorem witness_1 : WitnessClaimed_1 := ⟨start1.p0, start1.e0, start1.about1, start1.theMethod, start1.args0, start1.below0, start1.atStart⟩
end Jvm.Pilot.@@N@@
