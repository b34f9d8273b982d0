import JvmDerived
import JvmDerived.Pilot.@@N@@Statement
import JvmDerived.Pilot.@@N@@Code
set_option linter.unusedVariables false
set_option linter.unusedSimpArgs false
namespace Jvm.Pilot.@@N@@
section OwnFP
open Jvm.FP.Core
/-! Exact doubles: own_Is x n e says that the double x is finite and worth n * 2^e. -/
def own_Is (x : UInt64) (n : Int) (e : Int) : Prop := DFin x ∧ -1074 ≤ e ∧ zval b64 (val64 x) = n * ((2 ^ (e + 1074).toNat : Nat) : Int)
theorem own_qmax : b64.qmax = 971 := by decide
theorem own_pp : b64.p = 53 := rfl
theorem own_powc {a b u v : Nat} (h : a * 2 ^ u = b * 2 ^ v) {w : Int} (hw : w = (u : Int) - v) : a * 2 ^ w.toNat = b * 2 ^ (-w).toNat := by
  subst hw
  have hu : u = ((u : Int) - v).toNat + min u v := by omega
  have hv : v = (-((u : Int) - v)).toNat + min u v := by omega
  have h2 : a * 2 ^ (((u : Int) - v).toNat + min u v) = b * 2 ^ ((-((u : Int) - v)).toNat + min u v) := by rw [← hu, ← hv]; exact h
  rw [Nat.pow_add, Nat.pow_add, ← Nat.mul_assoc, ← Nat.mul_assoc] at h2
  exact Nat.eq_of_mul_eq_mul_right (Nat.two_pow_pos _) h2
theorem own_signed_abs (s : Bool) (c : Nat) : (signed s c).natAbs = c := by cases s <;> simp [signed]
theorem own_signed_mul (s t : Bool) (c d : Nat) : signed (s != t) (c * d) = signed s c * signed t d := by
  cases s <;> cases t <;> simp [signed, Int.natCast_mul, Int.neg_mul, Int.mul_neg]
theorem own_signed_scale (s : Bool) (c d : Nat) : signed s (c * d) = signed s c * (d : Int) := by cases s <;> simp [signed, Int.natCast_mul, Int.neg_mul]
theorem own_round {s : Bool} {c : Nat} {q : Int} {M : Nat} {e : Int} (h2 : -2148 ≤ q) (hM : M < 9007199254740992) (he1 : -1074 ≤ e) (he2 : e ≤ 971) (h : inUnits c q (-2148) = M * 2 ^ (e + 2148).toNat) :
    ∃ c' q', round b64 (.fin s c q) = .fin s c' q' ∧ inUnits c' q' b64.qmin = M * 2 ^ (e + 1074).toNat := by
  have hq : b64.qmin = -1074 := qmin_b64
  obtain ⟨c', q', h1, h3⟩ := round_exact good_b64 s (c := M) (q := e) (show M < 2 ^ 53 from hM) (by rw [hq]; omega) (by rw [own_qmax]; omega)
  refine ⟨c', q', ?_, ?_⟩
  · rw [← h1]
    show roundRatio b64 s c 1 q = roundRatio b64 s M 1 e
    refine roundRatio_congr (by decide) (by decide) ?_
    unfold inUnits at h
    have h4 := own_powc (u := (q - -2148).toNat) (v := (e + 2148).toNat) h (w := q - e) (by omega)
    rw [Nat.mul_one, Nat.mul_one, h4, show -(q - e) = e - q by omega]
  · rw [h3]; unfold inUnits; rw [hq, show e - -1074 = e + 1074 by omega]
theorem own_fin_split {x : UInt64} {n e : Int} (h : own_Is x n e) : ∃ s c q, val64 x = .fin s c q ∧ Jvm.FP.Core.fits b64 (.fin s c q) ∧ signed s (inUnits c q b64.qmin) = n * ((2 ^ (e + 1074).toNat : Nat) : Int) ∧ -1074 ≤ q := by
  obtain ⟨⟨s, c, q, hv⟩, he, hz⟩ := h
  have hf := val64_fits x
  rw [hv] at hf hz
  have := hf.2.1
  rw [qmin_b64] at this
  exact ⟨s, c, q, hv, hf, hz, this⟩
theorem own_Is_of {x : UInt64} {s : Bool} {c : Nat} {q n e : Int} (hv : val64 x = .fin s c q) (he : -1074 ≤ e) (h : signed s (inUnits c q b64.qmin) = n * ((2 ^ (e + 1074).toNat : Nat) : Int)) : own_Is x n e :=
  ⟨⟨s, c, q, hv⟩, he, by rw [hv]; exact h⟩
theorem own_sum {s : Bool} {c : Nat} {q n e : Int} (hq : -1074 ≤ q) (hn : n.natAbs < 9007199254740992) (he1 : -1074 ≤ e) (he2 : e ≤ 971) (h : signed s (inUnits c q b64.qmin) = n * ((2 ^ (e + 1074).toNat : Nat) : Int)) :
    ∃ c' q', round b64 (.fin s c q) = .fin s c' q' ∧ signed s (inUnits c' q' b64.qmin) = n * ((2 ^ (e + 1074).toNat : Nat) : Int) := by
  have h1 : inUnits c q b64.qmin = n.natAbs * 2 ^ (e + 1074).toNat := by
    rw [← own_signed_abs s (inUnits c q b64.qmin), h, Int.natAbs_mul, Int.natAbs_natCast]
  have h2 : inUnits c q (-2148) = n.natAbs * 2 ^ (e + 2148).toNat := by
    rw [inUnits_move c (r := b64.qmin) (by rw [qmin_b64]; omega) (by rw [qmin_b64]; omega), h1, qmin_b64, Nat.mul_assoc, ← Nat.pow_add]
    congr 2; omega
  obtain ⟨c', q', h3, h4⟩ := own_round (s := s) (by omega) hn he1 he2 h2
  exact ⟨c', q', h3, by rw [h4, ← h1, h]⟩
theorem own_add {x y : UInt64} {m n e : Int} (hx : own_Is x m e) (hy : own_Is y n e) (he : e ≤ 971) (hb : (m + n).natAbs < 9007199254740992) : own_Is (dadd x y) (m + n) e := by
  have he1 := hx.2.1
  obtain ⟨s, c, q, vx, fx, zx, -⟩ := own_fin_split hx
  obtain ⟨t, d, r, vy, fy, zy, -⟩ := own_fin_split hy
  obtain ⟨sg, N, E, h1, h2, h3⟩ := sum_units fx fy
  have h4 : signed sg (inUnits N E b64.qmin) = (m + n) * ((2 ^ (e + 1074).toNat : Nat) : Int) := by
    rw [h3, Int.add_mul, ← zx, ← zy]; rfl
  obtain ⟨c', q', h5, h6⟩ := own_sum (by rw [qmin_b64] at h2; exact h2) hb he1 he h4
  exact own_Is_of (by rw [val64_dadd, vx, vy, h1, h5]) he1 h6
theorem own_sub {x y : UInt64} {m n e : Int} (hx : own_Is x m e) (hy : own_Is y n e) (he : e ≤ 971) (hb : (m - n).natAbs < 9007199254740992) : own_Is (dsub x y) (m - n) e := by
  have he1 := hx.2.1
  obtain ⟨s, c, q, vx, fx, zx, -⟩ := own_fin_split hx
  obtain ⟨t, d, r, vy, fy, zy, -⟩ := own_fin_split hy
  have fy' : Jvm.FP.Core.fits b64 (.fin (!t) d r) := fy
  obtain ⟨sg, N, E, h1, h2, h3⟩ := sum_units (t := !t) fx fy'
  have h4 : signed sg (inUnits N E b64.qmin) = (m - n) * ((2 ^ (e + 1074).toNat : Nat) : Int) := by
    rw [h3, Int.sub_mul, ← zx, ← zy]
    show signed s (inUnits c q b64.qmin) + signed (!t) (inUnits d r b64.qmin) = _
    rw [signed_not]; omega
  obtain ⟨c', q', h5, h6⟩ := own_sum (by rw [qmin_b64] at h2; exact h2) hb he1 he h4
  refine own_Is_of (s := sg) (c := c') (q := q') ?_ he1 h6
  rw [val64_dsub, vx, vy]
  show round b64 (exactSum (.fin s c q) (.fin (!t) d r)) = _
  rw [h1, h5]
theorem own_mul {x y : UInt64} {m n e1 e2 e : Int} (hx : own_Is x m e1) (hy : own_Is y n e2) (hee : e1 + e2 = e) (he1 : -1074 ≤ e) (he2 : e ≤ 971) (hb : (m * n).natAbs < 9007199254740992) : own_Is (dmul x y) (m * n) e := by
  subst hee
  have hx1 := hx.2.1
  have hy1 := hy.2.1
  obtain ⟨s, c, q, vx, fx, zx, qx⟩ := own_fin_split hx
  obtain ⟨t, d, r, vy, fy, zy, qy⟩ := own_fin_split hy
  obtain ⟨h1, h2, h3⟩ := product_units fx fy
  have hs : signed (s != t) (inUnits (c * d) (q + r) (-2148)) = (m * n) * ((2 ^ (e1 + e2 + 2148).toNat : Nat) : Int) := by
    have h4 : inUnits (c * d) (q + r) (-2148) = inUnits c q b64.qmin * inUnits d r b64.qmin := by
      have := h3
      rw [qmin_b64] at this ⊢
      exact this
    rw [h4, own_signed_mul, zx, zy, show (e1 + e2 + 2148).toNat = (e1 + 1074).toNat + (e2 + 1074).toNat by omega, Nat.pow_add, Int.natCast_mul]
    simp only [Int.mul_assoc, Int.mul_left_comm, Int.mul_comm]
  have h5 : inUnits (c * d) (q + r) (-2148) = (m * n).natAbs * 2 ^ (e1 + e2 + 2148).toNat := by
    rw [← own_signed_abs (s != t) (inUnits (c * d) (q + r) (-2148)), hs, Int.natAbs_mul, Int.natAbs_natCast]
  obtain ⟨c', q', h6, h7⟩ := own_round (s := (s != t)) (by omega) hb he1 he2 h5
  refine own_Is_of (s := (s != t)) (c := c') (q := q') (by rw [val64_dmul, vx, vy, h1, h6]) he1 ?_
  rw [h5, own_signed_scale] at hs
  have h8 : signed (s != t) (m * n).natAbs = m * n := Int.eq_of_mul_eq_mul_right (by have := Nat.two_pow_pos (e1 + e2 + 2148).toNat; omega) hs
  rw [h7, own_signed_scale, h8]
/-- the quotient of two exact doubles is the rounded ratio of their numbers -/
theorem own_divR {x y : UInt64} {m n e1 e2 : Int} (hx : own_Is x m e1) (hy : own_Is y n e2) (hn : n ≠ 0) :
    val64 (ddiv x y) = roundRatio b64 (sgn (val64 x) != sgn (val64 y)) m.natAbs n.natAbs (e1 - e2) ∧ signed (sgn (val64 x)) m.natAbs = m ∧ signed (sgn (val64 y)) n.natAbs = n := by
  have hx1 := hx.2.1
  have hy1 := hy.2.1
  obtain ⟨s, c, q, vx, fx, zx, qx⟩ := own_fin_split hx
  obtain ⟨t, d, r, vy, fy, zy, qy⟩ := own_fin_split hy
  have ax : inUnits c q b64.qmin = m.natAbs * 2 ^ (e1 + 1074).toNat := by
    rw [← own_signed_abs s (inUnits c q b64.qmin), zx, Int.natAbs_mul, Int.natAbs_natCast]
  have ay : inUnits d r b64.qmin = n.natAbs * 2 ^ (e2 + 1074).toNat := by
    rw [← own_signed_abs t (inUnits d r b64.qmin), zy, Int.natAbs_mul, Int.natAbs_natCast]
  have sx : signed s m.natAbs = m := by
    rw [ax, own_signed_scale] at zx
    exact Int.eq_of_mul_eq_mul_right (by have := Nat.two_pow_pos (e1 + 1074).toNat; omega) zx
  have sy : signed t n.natAbs = n := by
    rw [ay, own_signed_scale] at zy
    exact Int.eq_of_mul_eq_mul_right (by have := Nat.two_pow_pos (e2 + 1074).toNat; omega) zy
  have nn : n.natAbs ≠ 0 := by omega
  have hd : d ≠ 0 := by
    rintro rfl
    have : n.natAbs * 2 ^ (e2 + 1074).toNat = 0 := by rw [← ay]; unfold inUnits; simp
    rcases Nat.mul_eq_zero.mp this with h | h
    · exact nn h
    · have := Nat.two_pow_pos (e2 + 1074).toNat; omega
  refine ⟨?_, by rw [vx]; exact sx, by rw [vy]; exact sy⟩
  rw [val64_ddiv, vx, vy]
  show (if d = 0 then _ else roundRatio b64 (s != t) c d (q - r)) = roundRatio b64 (s != t) _ _ _
  rw [if_neg hd]
  refine roundRatio_congr (by omega) (by omega) ?_
  unfold inUnits at ax ay
  rw [qmin_b64] at ax ay
  have key : c * n.natAbs * 2 ^ ((q - -1074).toNat + (e2 + 1074).toNat) = m.natAbs * d * 2 ^ ((e1 + 1074).toNat + (r - -1074).toNat) := by
    have e3 : c * n.natAbs * 2 ^ ((q - -1074).toNat + (e2 + 1074).toNat) = (c * 2 ^ (q - -1074).toNat) * (n.natAbs * 2 ^ (e2 + 1074).toNat) := by
      rw [Nat.pow_add]; simp only [Nat.mul_assoc, Nat.mul_left_comm, Nat.mul_comm]
    rw [e3, ax, ← ay, Nat.pow_add]
    simp only [Nat.mul_assoc, Nat.mul_left_comm, Nat.mul_comm]
  have h4 := own_powc key (w := (q - r) - (e1 - e2)) (by omega)
  rw [h4, show -((q - r) - (e1 - e2)) = (e1 - e2) - (q - r) by omega]
theorem own_div {x y : UInt64} {m n N e1 e2 e : Int} (hx : own_Is x m e1) (hy : own_Is y n e2) (hn : n ≠ 0) (hm : m = N * n) (hee : e1 - e2 = e) (he1 : -1074 ≤ e) (he2 : e ≤ 971) (hb : N.natAbs < 9007199254740992) : own_Is (ddiv x y) N e := by
  subst hee
  obtain ⟨h1, h2, h3⟩ := own_divR hx hy hn
  have hq : b64.qmin = -1074 := qmin_b64
  obtain ⟨c', q', h5, h6⟩ := round_exact good_b64 (sgn (val64 x) != sgn (val64 y)) (c := N.natAbs) (q := e1 - e2) (show _ < 2 ^ 53 from hb) (by rw [hq]; omega) (by rw [own_qmax]; omega)
  refine own_Is_of (s := (sgn (val64 x) != sgn (val64 y))) (c := c') (q := q') ?_ he1 ?_
  · rw [h1, ← h5]
    show roundRatio _ _ _ _ _ = roundRatio b64 (sgn (val64 x) != sgn (val64 y)) N.natAbs 1 (e1 - e2)
    refine roundRatio_congr (by omega) (by decide) ?_
    rw [hm, Int.natAbs_mul]; simp
  · rw [h6]; unfold inUnits
    rw [hq, show e1 - e2 - -1074 = e1 - e2 + 1074 by omega, own_signed_scale]
    congr 1
    have h7 := own_signed_mul (sgn (val64 x)) (sgn (val64 y)) N.natAbs (n.natAbs * n.natAbs)
    have h8 : signed (sgn (val64 x) != sgn (val64 y)) (m.natAbs * n.natAbs) = m * n := by rw [own_signed_mul, h2, h3]
    rw [hm, Int.natAbs_mul, Nat.mul_assoc, own_signed_scale] at h8
    have h9 : ((n.natAbs * n.natAbs : Nat) : Int) = n * n := Int.natAbs_mul_self
    rw [h9, Int.mul_assoc] at h8
    refine Int.eq_of_mul_eq_mul_right ?_ h8
    intro h0
    rcases Int.mul_eq_zero.mp h0 with h | h <;> exact hn h
theorem own_shift {x : UInt64} {n e e' : Int} (j : Nat) (hx : own_Is x n e) (hj : e' = e - j) (he : -1074 ≤ e') : own_Is x (n * (2 ^ j : Nat)) e' := by
  subst hj
  refine ⟨hx.1, he, ?_⟩
  rw [hx.2.2, show (e + 1074).toNat = j + (e - j + 1074).toNat by omega, Nat.pow_add, Int.natCast_mul, ← Int.mul_assoc]
theorem own_nn {x : UInt64} {n e : Int} (h : own_Is x n e) : Jvm.Free.Fl.NoNaN64 x := Jvm.Free.Fl.noNaN64_no.mpr h.1.notNaN
theorem own_cmp {x y : UInt64} {m n e : Int} (hx : own_Is x m e) (hy : own_Is y n e) : dcmp x y = some (compare m n) := by
  rw [dcmp_zval hx.1.ne_nan hy.1.ne_nan, hx.2.2, hy.2.2]
  have hp : (0 : Int) < ((2 ^ (e + 1074).toNat : Nat) : Int) := by have := Nat.two_pow_pos (e + 1074).toNat; omega
  congr 1
  refine compare_congr ⟨fun h => Int.lt_of_mul_lt_mul_right h (Int.le_of_lt hp), fun h => Int.mul_lt_mul_of_pos_right h hp⟩ ⟨fun h => Int.eq_of_mul_eq_mul_right (Int.ne_of_gt hp) h, fun h => by rw [h]⟩
theorem own_i2d (a : Int32) : own_Is (i2d a) a.toInt 0 := by
  have h := i2d_int a
  refine ⟨?_, by decide, ?_⟩
  · rw [i2d_l2d]; exact l2d_fin _
  · rw [DInt_zval h]; rfl
theorem own_l2d {a : Int64} (h : a.toInt.natAbs ≤ 9007199254740992) : own_Is (l2d a) a.toInt 0 := by
  have h := l2d_int (a := a) h
  exact ⟨l2d_fin _, by decide, by rw [DInt_zval h]; rfl⟩
/-- with a bound on the number -/
def own_B (x : UInt64) (n e B : Int) : Prop := own_Is x n e ∧ -B ≤ n ∧ n ≤ B
theorem own_B.is {x : UInt64} {n e B : Int} (h : own_B x n e B) : own_Is x n e := h.1
theorem own_B.nn {x : UInt64} {n e B : Int} (h : own_B x n e B) : Jvm.Free.Fl.NoNaN64 x := own_nn h.1
theorem own_Badd {x y : UInt64} {m n e A B : Int} (hx : own_B x m e A) (hy : own_B y n e B) (h : (decide (e ≤ 971) && decide (A + B < 9007199254740992)) = true) : own_B (dadd x y) (m + n) e (A + B) := by
  simp only [Bool.and_eq_true, decide_eq_true_eq] at h
  have := hx.2; have := hy.2
  exact ⟨own_add hx.1 hy.1 h.1 (by omega), by omega, by omega⟩
theorem own_Bsub {x y : UInt64} {m n e A B : Int} (hx : own_B x m e A) (hy : own_B y n e B) (h : (decide (e ≤ 971) && decide (A + B < 9007199254740992)) = true) : own_B (dsub x y) (m - n) e (A + B) := by
  simp only [Bool.and_eq_true, decide_eq_true_eq] at h
  have := hx.2; have := hy.2
  exact ⟨own_sub hx.1 hy.1 h.1 (by omega), by omega, by omega⟩
theorem own_bmul {m n A B : Int} (hm : -A ≤ m ∧ m ≤ A) (hn : -B ≤ n ∧ n ≤ B) : -(A * B) ≤ m * n ∧ m * n ≤ A * B := by
  have h : (m * n).natAbs ≤ A.toNat * B.toNat := by rw [Int.natAbs_mul]; exact Nat.mul_le_mul (by omega) (by omega)
  have h2 : ((A.toNat * B.toNat : Nat) : Int) = A * B := by rw [Int.natCast_mul, Int.toNat_of_nonneg (by omega), Int.toNat_of_nonneg (by omega)]
  omega
theorem own_Bmul {x y : UInt64} {m n e1 e2 A B : Int} (hx : own_B x m e1 A) (hy : own_B y n e2 B) (h : (decide (-1074 ≤ e1 + e2) && decide (e1 + e2 ≤ 971) && decide (A * B < 9007199254740992)) = true) : own_B (dmul x y) (m * n) (e1 + e2) (A * B) := by
  simp only [Bool.and_eq_true, decide_eq_true_eq] at h
  have hb := own_bmul hx.2 hy.2
  exact ⟨own_mul hx.1 hy.1 rfl h.1.1 h.1.2 (by omega), hb⟩
/-- an exact quotient by a power of two (n = 1 in y = 1 * 2^e2) -/
theorem own_Bdiv {x y : UInt64} {m e1 e2 A : Int} (hx : own_B x m e1 A) (hy : own_Is y 1 e2) (h : (decide (-1074 ≤ e1 - e2) && decide (e1 - e2 ≤ 971) && decide (A < 9007199254740992)) = true) : own_B (ddiv x y) m (e1 - e2) A := by
  simp only [Bool.and_eq_true, decide_eq_true_eq] at h
  have := hx.2
  exact ⟨own_div hx.1 hy (by decide) (Int.mul_one _).symm rfl h.1.1 h.1.2 (by omega), hx.2⟩
theorem own_Bshift {x : UInt64} {n e A : Int} (j : Nat) (P : Int) (hx : own_B x n e A) (h : (decide (-1074 ≤ e - j) && decide (((2 ^ j : Nat) : Int) = P)) = true) : own_B x (n * P) (e - j) (A * P) := by
  simp only [Bool.and_eq_true, decide_eq_true_eq] at h
  obtain ⟨h, rfl⟩ := h
  refine ⟨own_shift j hx.1 rfl h, ?_⟩
  have hp : (0 : Int) ≤ (2 ^ j : Nat) := Int.natCast_nonneg _
  have := hx.2
  constructor
  · rw [← Int.neg_mul]; exact Int.mul_le_mul_of_nonneg_right this.1 hp
  · exact Int.mul_le_mul_of_nonneg_right this.2 hp
theorem own_Bcast {x : UInt64} {n n' e e' A A' : Int} (h : own_B x n e A) (hn : n = n') (he : e = e') (hA : A ≤ A') : own_B x n' e' A' := by
  subst hn he; exact ⟨h.1, by have := h.2; omega, by have := h.2; omega⟩
theorem own_eq0 {x y : UInt64} {m n e : Int} (hx : own_Is x m e) (hy : own_Is y n e) (h : m = n) (o : ClassFile.CmpOp) : Op.cmpValue (Jvm.FP.dcmp x y) o = 0 := by
  show Op.cmpValue (dcmp x y) o = 0
  subst h
  rw [own_cmp hx hy, show compare m m = .eq from (compare_eq_iff m m).mpr rfl]; cases o <;> rfl
theorem own_cmpv {x y : UInt64} {m n e : Int} (hx : own_Is x m e) (hy : own_Is y n e) (o : ClassFile.CmpOp) : (m < n → Op.cmpValue (Jvm.FP.dcmp x y) o = -1) ∧ (m = n → Op.cmpValue (Jvm.FP.dcmp x y) o = 0) ∧ (n < m → Op.cmpValue (Jvm.FP.dcmp x y) o = 1) := by
  refine ⟨fun h => ?_, fun h => own_eq0 hx hy h o, fun h => ?_⟩
  · show Op.cmpValue (dcmp x y) o = -1
    rw [own_cmp hx hy, (compare_lt_iff m n).mpr h]; cases o <;> rfl
  · show Op.cmpValue (dcmp x y) o = 1
    rw [own_cmp hx hy, (compare_gt_iff m n).mpr h]; cases o <;> rfl
theorem own_one : own_Is 4607182418800017408 1 0 := ⟨(fin_bits _).mpr (by decide), by decide, by decide +kernel⟩
theorem own_zero : own_Is 0 0 0 := ⟨(fin_bits _).mpr (by decide), by decide, by decide +kernel⟩
/-! ints and longs with their numbers and bounds -/
def own_I (v : Int32) (n B : Int) : Prop := v.toInt = n ∧ -B ≤ n ∧ n ≤ B
def own_L (v : Int64) (n B : Int) : Prop := v.toInt = n ∧ -B ≤ n ∧ n ≤ B
theorem own_Iadd {a b v : Int32} {m n A B : Int} (hv : a + b = v) (ha : own_I a m A) (hb : own_I b n B) (h : decide (A + B < 2147483648) = true) : own_I v (m + n) (A + B) := by
  subst hv; simp only [decide_eq_true_eq] at h; obtain ⟨rfl, h1, h2⟩ := ha; obtain ⟨rfl, h3, h4⟩ := hb
  exact ⟨by rw [Int32.toInt_add]; exact Int.bmod_eq_of_le (by omega) (by omega), by omega, by omega⟩
theorem own_Isub {a b v : Int32} {m n A B : Int} (hv : a - b = v) (ha : own_I a m A) (hb : own_I b n B) (h : decide (A + B < 2147483648) = true) : own_I v (m - n) (A + B) := by
  subst hv; simp only [decide_eq_true_eq] at h; obtain ⟨rfl, h1, h2⟩ := ha; obtain ⟨rfl, h3, h4⟩ := hb
  exact ⟨by rw [Int32.toInt_sub]; exact Int.bmod_eq_of_le (by omega) (by omega), by omega, by omega⟩
theorem own_Imul {a b v : Int32} {m n A B : Int} (hv : a * b = v) (ha : own_I a m A) (hb : own_I b n B) (h : decide (A * B < 2147483648) = true) : own_I v (m * n) (A * B) := by
  subst hv; simp only [decide_eq_true_eq] at h; obtain ⟨rfl, h1⟩ := ha; obtain ⟨rfl, h3⟩ := hb
  have hb := own_bmul h1 h3
  exact ⟨by rw [Int32.toInt_mul]; exact Int.bmod_eq_of_le (by omega) (by omega), hb⟩
theorem own_Ladd {a b v : Int64} {m n A B : Int} (hv : a + b = v) (ha : own_L a m A) (hb : own_L b n B) (h : decide (A + B < 9223372036854775808) = true) : own_L v (m + n) (A + B) := by
  subst hv; simp only [decide_eq_true_eq] at h; obtain ⟨rfl, h1, h2⟩ := ha; obtain ⟨rfl, h3, h4⟩ := hb
  exact ⟨by rw [Int64.toInt_add]; exact Int.bmod_eq_of_le (by omega) (by omega), by omega, by omega⟩
theorem own_Lsub {a b v : Int64} {m n A B : Int} (hv : a - b = v) (ha : own_L a m A) (hb : own_L b n B) (h : decide (A + B < 9223372036854775808) = true) : own_L v (m - n) (A + B) := by
  subst hv; simp only [decide_eq_true_eq] at h; obtain ⟨rfl, h1, h2⟩ := ha; obtain ⟨rfl, h3, h4⟩ := hb
  exact ⟨by rw [Int64.toInt_sub]; exact Int.bmod_eq_of_le (by omega) (by omega), by omega, by omega⟩
theorem own_Lmul {a b v : Int64} {m n A B : Int} (hv : a * b = v) (ha : own_L a m A) (hb : own_L b n B) (h : decide (A * B < 9223372036854775808) = true) : own_L v (m * n) (A * B) := by
  subst hv; simp only [decide_eq_true_eq] at h; obtain ⟨rfl, h1⟩ := ha; obtain ⟨rfl, h3⟩ := hb
  have hb := own_bmul h1 h3
  exact ⟨by rw [Int64.toInt_mul]; exact Int.bmod_eq_of_le (by omega) (by omega), hb⟩
theorem own_Ii2l {a : Int32} {v : Int64} {m A : Int} (hv : Int32.toInt64 a = v) (ha : own_I a m A) : own_L v m A := by
  subst hv; exact ⟨by rw [Int32.toInt_toInt64]; exact ha.1, ha.2⟩
theorem own_Icast {v : Int32} {n n' A A' : Int} (h : own_I v n A) (hn : n = n') (hA : A ≤ A') : own_I v n' A' := by
  subst hn; exact ⟨h.1, by have := h.2; omega, by have := h.2; omega⟩
theorem own_Lcast {v : Int64} {n n' A A' : Int} (h : own_L v n A) (hn : n = n') (hA : A ≤ A') : own_L v n' A' := by
  subst hn; exact ⟨h.1, by have := h.2; omega, by have := h.2; omega⟩
theorem own_Bi2d {v : Int32} {n A : Int} (h : own_I v n A) : own_B (i2d v) n 0 A := by
  obtain ⟨rfl, h1⟩ := h; exact ⟨own_i2d v, h1⟩
theorem own_Bl2d {v : Int64} {n A : Int} (h : own_L v n A) (hA : decide (A ≤ 9007199254740992) = true) : own_B (l2d v) n 0 A := by
  simp only [decide_eq_true_eq] at hA; obtain ⟨rfl, h1⟩ := h; exact ⟨own_l2d (by omega), h1⟩
theorem own_Irng (v : Int32) : own_I v v.toInt 2147483648 := ⟨rfl, by have := Jvm.RoadKit.rng32 v; omega, by have := Jvm.RoadKit.rng32 v; omega⟩
theorem own_Iand {x m v : Int32} {B : Int} (hv : x &&& m = v) (hB : m.toInt = B) (h0 : 0 ≤ B) : own_I v v.toInt B := by
  have := Jvm.RoadKit.c_and x m (by omega); rw [hv] at this; exact ⟨rfl, by omega, by omega⟩
end OwnFP
section OwnStep
open Jvm Jvm.ClassFile Sem Op Lib Jvm.Free Jvm.Stand Jvm.LawKit Jvm.RoadKit
variable {tb : Tables} [Ours tb] {e : Env} {below : List Frame} {T target : State} {m : MethodId} {c : Code} {pc pc' : Nat} {L : Array Slot} {S : List Value}
theorem own_s_iadd (h : At T m c below) (hx : tb.exec = Jvm.exec) {x y v : Int32} (hd : decode c.code pc = .ok (.iadd, 1)) (hp : pc + 1 = pc') (hv : x + y = v)
    (hr : Steps tb e below (T.setTop (mkF m pc' L (.int v :: S))) target) : Steps tb e below (T.setTop (mkF m pc L (.int y :: .int x :: S))) target := by
  subst hv hp; exact XS.iadd h hx rfl hd rfl hr
theorem own_s_ladd (h : At T m c below) (hx : tb.exec = Jvm.exec) {x y v : Int64} (hd : decode c.code pc = .ok (.ladd, 1)) (hp : pc + 1 = pc') (hv : x + y = v)
    (hr : Steps tb e below (T.setTop (mkF m pc' L (.long v :: S))) target) : Steps tb e below (T.setTop (mkF m pc L (.long y :: .long x :: S))) target := by
  subst hv hp; exact XS.ladd h hx rfl hd rfl hr
theorem own_s_isub (h : At T m c below) (hx : tb.exec = Jvm.exec) {x y v : Int32} (hd : decode c.code pc = .ok (.isub, 1)) (hp : pc + 1 = pc') (hv : x - y = v)
    (hr : Steps tb e below (T.setTop (mkF m pc' L (.int v :: S))) target) : Steps tb e below (T.setTop (mkF m pc L (.int y :: .int x :: S))) target := by
  subst hv hp; exact XS.isub h hx rfl hd rfl hr
theorem own_s_lsub (h : At T m c below) (hx : tb.exec = Jvm.exec) {x y v : Int64} (hd : decode c.code pc = .ok (.lsub, 1)) (hp : pc + 1 = pc') (hv : x - y = v)
    (hr : Steps tb e below (T.setTop (mkF m pc' L (.long v :: S))) target) : Steps tb e below (T.setTop (mkF m pc L (.long y :: .long x :: S))) target := by
  subst hv hp; exact XS.lsub h hx rfl hd rfl hr
theorem own_s_imul (h : At T m c below) (hx : tb.exec = Jvm.exec) {x y v : Int32} (hd : decode c.code pc = .ok (.imul, 1)) (hp : pc + 1 = pc') (hv : x * y = v)
    (hr : Steps tb e below (T.setTop (mkF m pc' L (.int v :: S))) target) : Steps tb e below (T.setTop (mkF m pc L (.int y :: .int x :: S))) target := by
  subst hv hp; exact XS.imul h hx rfl hd rfl hr
theorem own_s_lmul (h : At T m c below) (hx : tb.exec = Jvm.exec) {x y v : Int64} (hd : decode c.code pc = .ok (.lmul, 1)) (hp : pc + 1 = pc') (hv : x * y = v)
    (hr : Steps tb e below (T.setTop (mkF m pc' L (.long v :: S))) target) : Steps tb e below (T.setTop (mkF m pc L (.long y :: .long x :: S))) target := by
  subst hv hp; exact XS.lmul h hx rfl hd rfl hr
theorem own_s_iand (h : At T m c below) (hx : tb.exec = Jvm.exec) {x y v : Int32} (hd : decode c.code pc = .ok (.iand, 1)) (hp : pc + 1 = pc') (hv : x &&& y = v)
    (hr : Steps tb e below (T.setTop (mkF m pc' L (.int v :: S))) target) : Steps tb e below (T.setTop (mkF m pc L (.int y :: .int x :: S))) target := by
  subst hv hp; exact XS.iand h hx rfl hd rfl hr
theorem own_s_land (h : At T m c below) (hx : tb.exec = Jvm.exec) {x y v : Int64} (hd : decode c.code pc = .ok (.land, 1)) (hp : pc + 1 = pc') (hv : x &&& y = v)
    (hr : Steps tb e below (T.setTop (mkF m pc' L (.long v :: S))) target) : Steps tb e below (T.setTop (mkF m pc L (.long y :: .long x :: S))) target := by
  subst hv hp; exact XS.land h hx rfl hd rfl hr
theorem own_s_ior (h : At T m c below) (hx : tb.exec = Jvm.exec) {x y v : Int32} (hd : decode c.code pc = .ok (.ior, 1)) (hp : pc + 1 = pc') (hv : x ||| y = v)
    (hr : Steps tb e below (T.setTop (mkF m pc' L (.int v :: S))) target) : Steps tb e below (T.setTop (mkF m pc L (.int y :: .int x :: S))) target := by
  subst hv hp; exact XS.ior h hx rfl hd rfl hr
theorem own_s_lor (h : At T m c below) (hx : tb.exec = Jvm.exec) {x y v : Int64} (hd : decode c.code pc = .ok (.lor, 1)) (hp : pc + 1 = pc') (hv : x ||| y = v)
    (hr : Steps tb e below (T.setTop (mkF m pc' L (.long v :: S))) target) : Steps tb e below (T.setTop (mkF m pc L (.long y :: .long x :: S))) target := by
  subst hv hp; exact XS.lor h hx rfl hd rfl hr
theorem own_s_ixor (h : At T m c below) (hx : tb.exec = Jvm.exec) {x y v : Int32} (hd : decode c.code pc = .ok (.ixor, 1)) (hp : pc + 1 = pc') (hv : x ^^^ y = v)
    (hr : Steps tb e below (T.setTop (mkF m pc' L (.int v :: S))) target) : Steps tb e below (T.setTop (mkF m pc L (.int y :: .int x :: S))) target := by
  subst hv hp; exact XS.ixor h hx rfl hd rfl hr
theorem own_s_lxor (h : At T m c below) (hx : tb.exec = Jvm.exec) {x y v : Int64} (hd : decode c.code pc = .ok (.lxor, 1)) (hp : pc + 1 = pc') (hv : x ^^^ y = v)
    (hr : Steps tb e below (T.setTop (mkF m pc' L (.long v :: S))) target) : Steps tb e below (T.setTop (mkF m pc L (.long y :: .long x :: S))) target := by
  subst hv hp; exact XS.lxor h hx rfl hd rfl hr
theorem own_s_idiv (h : At T m c below) (hx : tb.exec = Jvm.exec) {x y v : Int32} (hd : decode c.code pc = .ok (.idiv, 1)) (hp : pc + 1 = pc') (hy : y ≠ 0) (hv : x / y = v)
    (hr : Steps tb e below (T.setTop (mkF m pc' L (.int v :: S))) target) : Steps tb e below (T.setTop (mkF m pc L (.int y :: .int x :: S))) target := by
  subst hv hp; exact XS.idiv h hx rfl hd rfl hy hr
theorem own_s_irem (h : At T m c below) (hx : tb.exec = Jvm.exec) {x y v : Int32} (hd : decode c.code pc = .ok (.irem, 1)) (hp : pc + 1 = pc') (hy : y ≠ 0) (hv : x % y = v)
    (hr : Steps tb e below (T.setTop (mkF m pc' L (.int v :: S))) target) : Steps tb e below (T.setTop (mkF m pc L (.int y :: .int x :: S))) target := by
  subst hv hp; rw [← irem_eq_mod] at hr; exact XS.irem h hx rfl hd rfl hy hr
theorem own_s_ldiv (h : At T m c below) (hx : tb.exec = Jvm.exec) {x y v : Int64} (hd : decode c.code pc = .ok (.ldiv, 1)) (hp : pc + 1 = pc') (hy : y ≠ 0) (hv : x / y = v)
    (hr : Steps tb e below (T.setTop (mkF m pc' L (.long v :: S))) target) : Steps tb e below (T.setTop (mkF m pc L (.long y :: .long x :: S))) target := by
  subst hv hp; exact XS.ldiv h hx rfl hd rfl hy hr
theorem own_s_lrem (h : At T m c below) (hx : tb.exec = Jvm.exec) {x y v : Int64} (hd : decode c.code pc = .ok (.lrem, 1)) (hp : pc + 1 = pc') (hy : y ≠ 0) (hv : x % y = v)
    (hr : Steps tb e below (T.setTop (mkF m pc' L (.long v :: S))) target) : Steps tb e below (T.setTop (mkF m pc L (.long y :: .long x :: S))) target := by
  subst hv hp; rw [← lrem_mod] at hr; exact XS.lrem h hx rfl hd rfl hy hr
theorem own_s_ishl (h : At T m c below) (hx : tb.exec = Jvm.exec) {x y v : Int32} (hd : decode c.code pc = .ok (.ishl, 1)) (hp : pc + 1 = pc') (hv : x <<< (y &&& 31) = v)
    (hr : Steps tb e below (T.setTop (mkF m pc' L (.int v :: S))) target) : Steps tb e below (T.setTop (mkF m pc L (.int y :: .int x :: S))) target := by
  subst hv hp; exact XS.ishl h hx rfl hd rfl hr
theorem own_s_ishr (h : At T m c below) (hx : tb.exec = Jvm.exec) {x y v : Int32} (hd : decode c.code pc = .ok (.ishr, 1)) (hp : pc + 1 = pc') (hv : x >>> (y &&& 31) = v)
    (hr : Steps tb e below (T.setTop (mkF m pc' L (.int v :: S))) target) : Steps tb e below (T.setTop (mkF m pc L (.int y :: .int x :: S))) target := by
  subst hv hp; exact XS.ishr h hx rfl hd rfl hr
theorem own_s_iushr (h : At T m c below) (hx : tb.exec = Jvm.exec) {x y v : Int32} (hd : decode c.code pc = .ok (.iushr, 1)) (hp : pc + 1 = pc') (hv : (x.toUInt32 >>> (y &&& 31).toUInt32).toInt32 = v)
    (hr : Steps tb e below (T.setTop (mkF m pc' L (.int v :: S))) target) : Steps tb e below (T.setTop (mkF m pc L (.int y :: .int x :: S))) target := by
  subst hv hp; exact XS.iushr h hx rfl hd rfl hr
theorem own_s_lshl (h : At T m c below) (hx : tb.exec = Jvm.exec) {x v : Int64} {y : Int32} (hd : decode c.code pc = .ok (.lshl, 1)) (hp : pc + 1 = pc') (hv : x <<< (y &&& 63).toInt64 = v)
    (hr : Steps tb e below (T.setTop (mkF m pc' L (.long v :: S))) target) : Steps tb e below (T.setTop (mkF m pc L (.int y :: .long x :: S))) target := by
  subst hv hp; exact XS.lshl h hx rfl hd rfl hr
theorem own_s_lshr (h : At T m c below) (hx : tb.exec = Jvm.exec) {x v : Int64} {y : Int32} (hd : decode c.code pc = .ok (.lshr, 1)) (hp : pc + 1 = pc') (hv : x >>> (y &&& 63).toInt64 = v)
    (hr : Steps tb e below (T.setTop (mkF m pc' L (.long v :: S))) target) : Steps tb e below (T.setTop (mkF m pc L (.int y :: .long x :: S))) target := by
  subst hv hp; exact XS.lshr h hx rfl hd rfl hr
theorem own_s_lushr (h : At T m c below) (hx : tb.exec = Jvm.exec) {x v : Int64} {y : Int32} (hd : decode c.code pc = .ok (.lushr, 1)) (hp : pc + 1 = pc') (hv : (x.toUInt64 >>> (y &&& 63).toInt64.toUInt64).toInt64 = v)
    (hr : Steps tb e below (T.setTop (mkF m pc' L (.long v :: S))) target) : Steps tb e below (T.setTop (mkF m pc L (.int y :: .long x :: S))) target := by
  subst hv hp; exact XS.lushr h hx rfl hd rfl hr
theorem own_s_i2l (h : At T m c below) (hx : tb.exec = Jvm.exec) {x : Int32} {v : Int64} (hd : decode c.code pc = .ok (.i2l, 1)) (hp : pc + 1 = pc') (hv : x.toInt64 = v)
    (hr : Steps tb e below (T.setTop (mkF m pc' L (.long v :: S))) target) : Steps tb e below (T.setTop (mkF m pc L (.int x :: S))) target := by
  subst hv hp; exact XS.i2l h hx rfl hd rfl hr
theorem own_s_l2i (h : At T m c below) (hx : tb.exec = Jvm.exec) {x : Int64} {v : Int32} (hd : decode c.code pc = .ok (.l2i, 1)) (hp : pc + 1 = pc') (hv : x.toInt32 = v)
    (hr : Steps tb e below (T.setTop (mkF m pc' L (.int v :: S))) target) : Steps tb e below (T.setTop (mkF m pc L (.long x :: S))) target := by
  subst hv hp; exact XS.l2i h hx rfl hd rfl hr
theorem own_s_i2b (h : At T m c below) (hx : tb.exec = Jvm.exec) {x : Int32} {v : Int32} (hd : decode c.code pc = .ok (.i2b, 1)) (hp : pc + 1 = pc') (hv : x.toInt8.toInt32 = v)
    (hr : Steps tb e below (T.setTop (mkF m pc' L (.int v :: S))) target) : Steps tb e below (T.setTop (mkF m pc L (.int x :: S))) target := by
  subst hv hp; exact XS.i2b h hx rfl hd rfl hr
theorem own_s_i2s (h : At T m c below) (hx : tb.exec = Jvm.exec) {x : Int32} {v : Int32} (hd : decode c.code pc = .ok (.i2s, 1)) (hp : pc + 1 = pc') (hv : x.toInt16.toInt32 = v)
    (hr : Steps tb e below (T.setTop (mkF m pc' L (.int v :: S))) target) : Steps tb e below (T.setTop (mkF m pc L (.int x :: S))) target := by
  subst hv hp; exact XS.i2s h hx rfl hd rfl hr
theorem own_s_ineg (h : At T m c below) (hx : tb.exec = Jvm.exec) {x : Int32} {v : Int32} (hd : decode c.code pc = .ok (.ineg, 1)) (hp : pc + 1 = pc') (hv : -x = v)
    (hr : Steps tb e below (T.setTop (mkF m pc' L (.int v :: S))) target) : Steps tb e below (T.setTop (mkF m pc L (.int x :: S))) target := by
  subst hv hp; exact XS.ineg h hx rfl hd rfl hr
theorem own_s_lneg (h : At T m c below) (hx : tb.exec = Jvm.exec) {x : Int64} {v : Int64} (hd : decode c.code pc = .ok (.lneg, 1)) (hp : pc + 1 = pc') (hv : -x = v)
    (hr : Steps tb e below (T.setTop (mkF m pc' L (.long v :: S))) target) : Steps tb e below (T.setTop (mkF m pc L (.long x :: S))) target := by
  subst hv hp; exact XS.lneg h hx rfl hd rfl hr
theorem own_s_i2d (h : At T m c below) (hx : tb.exec = Jvm.exec) {x : Int32} {v : UInt64} (hd : decode c.code pc = .ok (.i2d, 1)) (hp : pc + 1 = pc') (hv : FP.i2d x = v)
    (hr : Steps tb e below (T.setTop (mkF m pc' L (.double v :: S))) target) : Steps tb e below (T.setTop (mkF m pc L (.int x :: S))) target := by
  subst hv hp; exact XS.i2dS h hx rfl hd rfl rfl hr
theorem own_s_l2d (h : At T m c below) (hx : tb.exec = Jvm.exec) {x : Int64} {v : UInt64} (hd : decode c.code pc = .ok (.l2d, 1)) (hp : pc + 1 = pc') (hv : FP.l2d x = v)
    (hr : Steps tb e below (T.setTop (mkF m pc' L (.double v :: S))) target) : Steps tb e below (T.setTop (mkF m pc L (.long x :: S))) target := by
  subst hv hp; exact XS.l2dS h hx rfl hd rfl rfl hr
theorem own_s_dneg (h : At T m c below) (hx : tb.exec = Jvm.exec) {x : UInt64} {v : UInt64} (hd : decode c.code pc = .ok (.dneg, 1)) (hp : pc + 1 = pc') (hv : FP.dneg x = v)
    (hr : Steps tb e below (T.setTop (mkF m pc' L (.double v :: S))) target) : Steps tb e below (T.setTop (mkF m pc L (.double x :: S))) target := by
  subst hv hp; exact XS.dnegS h hx rfl hd rfl rfl hr
theorem own_s_dadd (h : At T m c below) (hx : tb.exec = Jvm.exec) {x y v : UInt64} (hd : decode c.code pc = .ok (.dadd, 1)) (hp : pc + 1 = pc') (hn : Jvm.Free.Fl.NoNaN64 (FP.dadd x y)) (hv : FP.dadd x y = v)
    (hr : Steps tb e below (T.setTop (mkF m pc' L (.double v :: S))) target) : Steps tb e below (T.setTop (mkF m pc L (.double y :: .double x :: S))) target := by
  subst hv hp; exact XS.daddS h hx rfl hd rfl hn rfl hr
theorem own_s_dsub (h : At T m c below) (hx : tb.exec = Jvm.exec) {x y v : UInt64} (hd : decode c.code pc = .ok (.dsub, 1)) (hp : pc + 1 = pc') (hn : Jvm.Free.Fl.NoNaN64 (FP.dsub x y)) (hv : FP.dsub x y = v)
    (hr : Steps tb e below (T.setTop (mkF m pc' L (.double v :: S))) target) : Steps tb e below (T.setTop (mkF m pc L (.double y :: .double x :: S))) target := by
  subst hv hp; exact XS.dsubS h hx rfl hd rfl hn rfl hr
theorem own_s_dmul (h : At T m c below) (hx : tb.exec = Jvm.exec) {x y v : UInt64} (hd : decode c.code pc = .ok (.dmul, 1)) (hp : pc + 1 = pc') (hn : Jvm.Free.Fl.NoNaN64 (FP.dmul x y)) (hv : FP.dmul x y = v)
    (hr : Steps tb e below (T.setTop (mkF m pc' L (.double v :: S))) target) : Steps tb e below (T.setTop (mkF m pc L (.double y :: .double x :: S))) target := by
  subst hv hp; exact XS.dmulS h hx rfl hd rfl hn rfl hr
theorem own_s_ddiv (h : At T m c below) (hx : tb.exec = Jvm.exec) {x y v : UInt64} (hd : decode c.code pc = .ok (.ddiv, 1)) (hp : pc + 1 = pc') (hn : Jvm.Free.Fl.NoNaN64 (FP.ddiv x y)) (hv : FP.ddiv x y = v)
    (hr : Steps tb e below (T.setTop (mkF m pc' L (.double v :: S))) target) : Steps tb e below (T.setTop (mkF m pc L (.double y :: .double x :: S))) target := by
  subst hv hp; exact XS.ddivS h hx rfl hd rfl hn rfl hr
theorem own_s_dcmp (h : At T m c below) (hx : tb.exec = Jvm.exec) {o : CmpOp} {x y : UInt64} {v : Int32} (hd : decode c.code pc = .ok (.dcmp o, 1)) (hp : pc + 1 = pc') (hv : Op.cmpValue (FP.dcmp x y) o = v)
    (hr : Steps tb e below (T.setTop (mkF m pc' L (.int v :: S))) target) : Steps tb e below (T.setTop (mkF m pc L (.double y :: .double x :: S))) target := by
  subst hv hp; exact XS.dcmpS h hx rfl hd rfl rfl hr
theorem own_s_lcmp (h : At T m c below) (hx : tb.exec = Jvm.exec) {x y : Int64} {v : Int32} (hd : decode c.code pc = .ok (.lcmp, 1)) (hp : pc + 1 = pc') (hv : lcmpW x y = v)
    (hr : Steps tb e below (T.setTop (mkF m pc' L (.int v :: S))) target) : Steps tb e below (T.setTop (mkF m pc L (.long y :: .long x :: S))) target := by
  subst hv hp; exact XS.lcmp h hx rfl hd rfl hr
theorem own_s_iconst (h : At T m c below) (hx : tb.exec = Jvm.exec) {i : Int} {v : Int32} (hd : decode c.code pc = .ok (.iconst i, 1)) (hp : pc + 1 = pc') (hv : Int32.ofInt i = v)
    (hr : Steps tb e below (T.setTop (mkF m pc' L (.int v :: S))) target) : Steps tb e below (T.setTop (mkF m pc L S)) target := by
  subst hv hp; exact XS.iconst h hx rfl hd hr
theorem own_s_bipush (h : At T m c below) (hx : tb.exec = Jvm.exec) {i : Int} {v : Int32} (hd : decode c.code pc = .ok (.bipush i, 2)) (hp : pc + 2 = pc') (hv : (Int8.ofInt i).toInt32 = v)
    (hr : Steps tb e below (T.setTop (mkF m pc' L (.int v :: S))) target) : Steps tb e below (T.setTop (mkF m pc L S)) target := by
  subst hv hp; exact XS.bipush h hx rfl hd hr
theorem own_s_sipush (h : At T m c below) (hx : tb.exec = Jvm.exec) {i : Int} {v : Int32} (hd : decode c.code pc = .ok (.sipush i, 3)) (hp : pc + 3 = pc') (hv : (Int16.ofInt i).toInt32 = v)
    (hr : Steps tb e below (T.setTop (mkF m pc' L (.int v :: S))) target) : Steps tb e below (T.setTop (mkF m pc L S)) target := by
  subst hv hp; exact XS.sipush h hx rfl hd hr
theorem own_s_lconst (h : At T m c below) (hx : tb.exec = Jvm.exec) {k : Fin 2} {v : Int64} (hd : decode c.code pc = .ok (.lconst k, 1)) (hp : pc + 1 = pc') (hv : Int64.ofNat k = v)
    (hr : Steps tb e below (T.setTop (mkF m pc' L (.long v :: S))) target) : Steps tb e below (T.setTop (mkF m pc L S)) target := by
  subst hv hp; exact XS.lconst h hx rfl hd hr
theorem own_s_dconst0 (h : At T m c below) (hx : tb.exec = Jvm.exec)  (hd : decode c.code pc = .ok (.dconst 0, 1)) (hp : pc + 1 = pc') 
    (hr : Steps tb e below (T.setTop (mkF m pc' L (.double 0 :: S))) target) : Steps tb e below (T.setTop (mkF m pc L S)) target := by
  subst hp; exact XS.dconst0 h hx rfl hd rfl hr
theorem own_s_dconst1 (h : At T m c below) (hx : tb.exec = Jvm.exec)  (hd : decode c.code pc = .ok (.dconst 1, 1)) (hp : pc + 1 = pc') 
    (hr : Steps tb e below (T.setTop (mkF m pc' L (.double 4607182418800017408 :: S))) target) : Steps tb e below (T.setTop (mkF m pc L S)) target := by
  subst hp; exact XS.dconst1 h hx rfl hd rfl hr
theorem own_s_aconst_null (h : At T m c below) (hx : tb.exec = Jvm.exec)  (hd : decode c.code pc = .ok (.aconst_null, 1)) (hp : pc + 1 = pc') 
    (hr : Steps tb e below (T.setTop (mkF m pc' L (.null :: S))) target) : Steps tb e below (T.setTop (mkF m pc L S)) target := by
  subst hp; exact XS.aconstNull h hx rfl hd hr
theorem own_s_dup (h : At T m c below) (hx : tb.exec = Jvm.exec) {x : Value} (hd : decode c.code pc = .ok (.dup, 1)) (hp : pc + 1 = pc') (hc : x.category = 1)
    (hr : Steps tb e below (T.setTop (mkF m pc' L (x :: x :: S))) target) : Steps tb e below (T.setTop (mkF m pc L (x :: S))) target := by
  subst hp; exact XS.dup h hx rfl hd rfl hc hr
theorem own_s_dupX1 (h : At T m c below) (hx : tb.exec = Jvm.exec) {x y : Value} (hd : decode c.code pc = .ok (.dup_x1, 1)) (hp : pc + 1 = pc') (hc : x.category = 1) (hc' : y.category = 1)
    (hr : Steps tb e below (T.setTop (mkF m pc' L (x :: y :: x :: S))) target) : Steps tb e below (T.setTop (mkF m pc L (x :: y :: S))) target := by
  subst hp; exact XS.dupX1 h hx rfl hd rfl hc hc' hr
theorem own_s_pop (h : At T m c below) (hx : tb.exec = Jvm.exec) {x : Value} (hd : decode c.code pc = .ok (.pop, 1)) (hp : pc + 1 = pc') (hc : x.category = 1)
    (hr : Steps tb e below (T.setTop (mkF m pc' L S)) target) : Steps tb e below (T.setTop (mkF m pc L (x :: S))) target := by
  subst hp; exact XS.pop h hx rfl hd rfl hc hr
theorem own_s_iloadN (h : At T m c below) (hx : tb.exec = Jvm.exec) {k : Fin 4} {v : Int32} (hd : decode c.code pc = .ok (.iload_n k, 1)) (hp : pc + 1 = pc') (hl : L[k.val]? = some (.val (.int v)))
    (hr : Steps tb e below (T.setTop (mkF m pc' L (.int v :: S))) target) : Steps tb e below (T.setTop (mkF m pc L S)) target := by
  subst hp; exact XS.iloadN h hx rfl hd hl hr
theorem own_s_iload (h : At T m c below) (hx : tb.exec = Jvm.exec) {k : Nat} {v : Int32} (hd : decode c.code pc = .ok (.iload k, 2)) (hp : pc + 2 = pc') (hl : L[k]? = some (.val (.int v)))
    (hr : Steps tb e below (T.setTop (mkF m pc' L (.int v :: S))) target) : Steps tb e below (T.setTop (mkF m pc L S)) target := by
  subst hp; exact XS.iload h hx rfl hd hl hr
theorem own_s_istoreN (h : At T m c below) (hx : tb.exec = Jvm.exec) {k : Fin 4} {v : Int32} {L' : Array Slot} (hd : decode c.code pc = .ok (.istore_n k, 1)) (hp : pc + 1 = pc') (hl : storeLocals L k.val (.int v) = some L')
    (hr : Steps tb e below (T.setTop (mkF m pc' L' S)) target) : Steps tb e below (T.setTop (mkF m pc L (.int v :: S))) target := by
  subst hp; exact XS.istoreN h hx rfl hd rfl hl hr
theorem own_s_istore (h : At T m c below) (hx : tb.exec = Jvm.exec) {k : Nat} {v : Int32} {L' : Array Slot} (hd : decode c.code pc = .ok (.istore k, 2)) (hp : pc + 2 = pc') (hl : storeLocals L k (.int v) = some L')
    (hr : Steps tb e below (T.setTop (mkF m pc' L' S)) target) : Steps tb e below (T.setTop (mkF m pc L (.int v :: S))) target := by
  subst hp; exact XS.istore h hx rfl hd rfl hl hr
theorem own_s_lloadN (h : At T m c below) (hx : tb.exec = Jvm.exec) {k : Fin 4} {v : Int64} (hd : decode c.code pc = .ok (.lload_n k, 1)) (hp : pc + 1 = pc') (hl : L[k.val]? = some (.val (.long v)))
    (hr : Steps tb e below (T.setTop (mkF m pc' L (.long v :: S))) target) : Steps tb e below (T.setTop (mkF m pc L S)) target := by
  subst hp; exact XS.lloadN h hx rfl hd hl hr
theorem own_s_lload (h : At T m c below) (hx : tb.exec = Jvm.exec) {k : Nat} {v : Int64} (hd : decode c.code pc = .ok (.lload k, 2)) (hp : pc + 2 = pc') (hl : L[k]? = some (.val (.long v)))
    (hr : Steps tb e below (T.setTop (mkF m pc' L (.long v :: S))) target) : Steps tb e below (T.setTop (mkF m pc L S)) target := by
  subst hp; exact XS.lload h hx rfl hd hl hr
theorem own_s_lstoreN (h : At T m c below) (hx : tb.exec = Jvm.exec) {k : Fin 4} {v : Int64} {L' : Array Slot} (hd : decode c.code pc = .ok (.lstore_n k, 1)) (hp : pc + 1 = pc') (hl : storeLocals L k.val (.long v) = some L')
    (hr : Steps tb e below (T.setTop (mkF m pc' L' S)) target) : Steps tb e below (T.setTop (mkF m pc L (.long v :: S))) target := by
  subst hp; exact XS.lstoreN h hx rfl hd rfl hl hr
theorem own_s_lstore (h : At T m c below) (hx : tb.exec = Jvm.exec) {k : Nat} {v : Int64} {L' : Array Slot} (hd : decode c.code pc = .ok (.lstore k, 2)) (hp : pc + 2 = pc') (hl : storeLocals L k (.long v) = some L')
    (hr : Steps tb e below (T.setTop (mkF m pc' L' S)) target) : Steps tb e below (T.setTop (mkF m pc L (.long v :: S))) target := by
  subst hp; exact XS.lstore h hx rfl hd rfl hl hr
theorem own_s_dloadN (h : At T m c below) (hx : tb.exec = Jvm.exec) {k : Fin 4} {v : UInt64} (hd : decode c.code pc = .ok (.dload_n k, 1)) (hp : pc + 1 = pc') (hl : L[k.val]? = some (.val (.double v)))
    (hr : Steps tb e below (T.setTop (mkF m pc' L (.double v :: S))) target) : Steps tb e below (T.setTop (mkF m pc L S)) target := by
  subst hp; exact XS.dloadN h hx rfl hd hl hr
theorem own_s_dload (h : At T m c below) (hx : tb.exec = Jvm.exec) {k : Nat} {v : UInt64} (hd : decode c.code pc = .ok (.dload k, 2)) (hp : pc + 2 = pc') (hl : L[k]? = some (.val (.double v)))
    (hr : Steps tb e below (T.setTop (mkF m pc' L (.double v :: S))) target) : Steps tb e below (T.setTop (mkF m pc L S)) target := by
  subst hp; exact XS.dload h hx rfl hd hl hr
theorem own_s_dstoreN (h : At T m c below) (hx : tb.exec = Jvm.exec) {k : Fin 4} {v : UInt64} {L' : Array Slot} (hd : decode c.code pc = .ok (.dstore_n k, 1)) (hp : pc + 1 = pc') (hl : storeLocals L k.val (.double v) = some L')
    (hr : Steps tb e below (T.setTop (mkF m pc' L' S)) target) : Steps tb e below (T.setTop (mkF m pc L (.double v :: S))) target := by
  subst hp; exact XS.dstoreN h hx rfl hd rfl hl hr
theorem own_s_dstore (h : At T m c below) (hx : tb.exec = Jvm.exec) {k : Nat} {v : UInt64} {L' : Array Slot} (hd : decode c.code pc = .ok (.dstore k, 2)) (hp : pc + 2 = pc') (hl : storeLocals L k (.double v) = some L')
    (hr : Steps tb e below (T.setTop (mkF m pc' L' S)) target) : Steps tb e below (T.setTop (mkF m pc L (.double v :: S))) target := by
  subst hp; exact XS.dstore h hx rfl hd rfl hl hr
theorem own_s_aloadN (h : At T m c below) (hx : tb.exec = Jvm.exec) {k : Fin 4} {v : Value} (hd : decode c.code pc = .ok (.aload_n k, 1)) (hp : pc + 1 = pc') (hl : L[k.val]? = some (.val v)) (hr0 : v.isRef = true)
    (hr : Steps tb e below (T.setTop (mkF m pc' L (v :: S))) target) : Steps tb e below (T.setTop (mkF m pc L S)) target := by
  subst hp; exact XS.aloadN h hx rfl hd hl hr0 hr
theorem own_s_aload (h : At T m c below) (hx : tb.exec = Jvm.exec) {k : Nat} {v : Value} (hd : decode c.code pc = .ok (.aload k, 2)) (hp : pc + 2 = pc') (hl : L[k]? = some (.val v)) (hr0 : v.isRef = true)
    (hr : Steps tb e below (T.setTop (mkF m pc' L (v :: S))) target) : Steps tb e below (T.setTop (mkF m pc L S)) target := by
  subst hp; exact XS.aload h hx rfl hd hl hr0 hr
theorem own_s_astoreN (h : At T m c below) (hx : tb.exec = Jvm.exec) {k : Fin 4} {v : Value} {L' : Array Slot} (hd : decode c.code pc = .ok (.astore_n k, 1)) (hp : pc + 1 = pc') (hr0 : v.isRef = true) (hl : storeLocals L k.val v = some L')
    (hr : Steps tb e below (T.setTop (mkF m pc' L' S)) target) : Steps tb e below (T.setTop (mkF m pc L (v :: S))) target := by
  subst hp; exact XS.astoreN h hx rfl hd rfl hr0 hl hr
theorem own_s_astore (h : At T m c below) (hx : tb.exec = Jvm.exec) {k : Nat} {v : Value} {L' : Array Slot} (hd : decode c.code pc = .ok (.astore k, 2)) (hp : pc + 2 = pc') (hr0 : v.isRef = true) (hl : storeLocals L k v = some L')
    (hr : Steps tb e below (T.setTop (mkF m pc' L' S)) target) : Steps tb e below (T.setTop (mkF m pc L (v :: S))) target := by
  subst hp; exact XS.astore h hx rfl hd rfl hr0 hl hr
theorem own_s_iinc (h : At T m c below) (hx : tb.exec = Jvm.exec) {k : Nat} {cst : Int} {x v : Int32} {L' : Array Slot} (hd : decode c.code pc = .ok (.iinc k cst, 3)) (hp : pc + 3 = pc') (hl : L[k]? = some (.val (.int x))) (hv : x + Int32.ofInt cst = v) (hl' : storeLocals L k (.int v) = some L')
    (hr : Steps tb e below (T.setTop (mkF m pc' L' S)) target) : Steps tb e below (T.setTop (mkF m pc L S)) target := by
  subst hv hp; exact XS.iinc h hx rfl hd hl hl' hr
theorem own_s_goto (h : At T m c below) (hx : tb.exec = Jvm.exec)  {o : Int} (hd : decode c.code pc = .ok (.goto o, 3)) (ho : 0 ≤ (pc : Int) + o) (hp : ((pc : Int) + o).toNat = pc') 
    (hr : Steps tb e below (T.setTop (mkF m pc' L S)) target) : Steps tb e below (T.setTop (mkF m pc L S)) target := by
  exact XS.goto h hx rfl rfl hd ho hp hr
theorem own_s_ifYes (h : At T m c below) (hx : tb.exec = Jvm.exec) {cd : ClassFile.Cond} {x : Int32} {o : Int} (hd : decode c.code pc = .ok (.ifCond cd o, 3)) (ho : 0 ≤ (pc : Int) + o) (hp : ((pc : Int) + o).toNat = pc') (hc : ifCond.holds cd x = true)
    (hr : Steps tb e below (T.setTop (mkF m pc' L S)) target) : Steps tb e below (T.setTop (mkF m pc L (.int x :: S))) target := by
  exact XS.ifYes h hx rfl rfl hd rfl hc ho hp hr
theorem own_s_icmpYes (h : At T m c below) (hx : tb.exec = Jvm.exec) {cd : ClassFile.Cond} {x y : Int32} {o : Int} (hd : decode c.code pc = .ok (.if_icmp cd o, 3)) (ho : 0 ≤ (pc : Int) + o) (hp : ((pc : Int) + o).toNat = pc') (hc : if_icmp.holds cd x y = true)
    (hr : Steps tb e below (T.setTop (mkF m pc' L S)) target) : Steps tb e below (T.setTop (mkF m pc L (.int y :: .int x :: S))) target := by
  exact XS.icmpYes h hx rfl rfl hd rfl hc ho hp hr
theorem own_s_ifNo (h : At T m c below) (hx : tb.exec = Jvm.exec) {cd : ClassFile.Cond} {o : Int} {x : Int32} (hd : decode c.code pc = .ok (.ifCond cd o, 3)) (hp : pc + 3 = pc') (hc : ifCond.holds cd x = false)
    (hr : Steps tb e below (T.setTop (mkF m pc' L S)) target) : Steps tb e below (T.setTop (mkF m pc L (.int x :: S))) target := by
  subst hp; exact XS.ifNo h hx rfl hd rfl hc hr
theorem own_s_icmpNo (h : At T m c below) (hx : tb.exec = Jvm.exec) {cd : ClassFile.Cond} {o : Int} {x y : Int32} (hd : decode c.code pc = .ok (.if_icmp cd o, 3)) (hp : pc + 3 = pc') (hc : if_icmp.holds cd x y = false)
    (hr : Steps tb e below (T.setTop (mkF m pc' L S)) target) : Steps tb e below (T.setTop (mkF m pc L (.int y :: .int x :: S))) target := by
  subst hp; exact XS.icmpNo h hx rfl hd rfl hc hr
theorem own_s_ifnullYes (h : At T m c below) (hx : tb.exec = Jvm.exec)  {o : Int} (hd : decode c.code pc = .ok (.ifnull o, 3)) (ho : 0 ≤ (pc : Int) + o) (hp : ((pc : Int) + o).toNat = pc') 
    (hr : Steps tb e below (T.setTop (mkF m pc' L S)) target) : Steps tb e below (T.setTop (mkF m pc L (.null :: S))) target := by
  exact XS.ifnullYes h hx rfl rfl hd rfl ho hp hr
theorem own_s_ifnullNo (h : At T m c below) (hx : tb.exec = Jvm.exec) {o : Int} {b : Addr} (hd : decode c.code pc = .ok (.ifnull o, 3)) (hp : pc + 3 = pc') 
    (hr : Steps tb e below (T.setTop (mkF m pc' L S)) target) : Steps tb e below (T.setTop (mkF m pc L (.ref b :: S))) target := by
  subst hp; exact XS.ifnullNo h hx rfl hd rfl hr
theorem own_s_ifnonnullYes (h : At T m c below) (hx : tb.exec = Jvm.exec) {b : Addr} {o : Int} (hd : decode c.code pc = .ok (.ifnonnull o, 3)) (ho : 0 ≤ (pc : Int) + o) (hp : ((pc : Int) + o).toNat = pc') 
    (hr : Steps tb e below (T.setTop (mkF m pc' L S)) target) : Steps tb e below (T.setTop (mkF m pc L (.ref b :: S))) target := by
  exact XS.ifnonnullYes h hx rfl rfl hd rfl ho hp hr
theorem own_s_ifnonnullNo (h : At T m c below) (hx : tb.exec = Jvm.exec) {o : Int} (hd : decode c.code pc = .ok (.ifnonnull o, 3)) (hp : pc + 3 = pc') 
    (hr : Steps tb e below (T.setTop (mkF m pc' L S)) target) : Steps tb e below (T.setTop (mkF m pc L (.null :: S))) target := by
  subst hp; exact XS.ifnonnullNo h hx rfl hd rfl hr
end OwnStep
section OwnHeap
open Jvm Jvm.ClassFile Sem Op Lib Jvm.Free Jvm.Stand Jvm.LawKit Jvm.RoadKit
variable {p : Program} {l : Launch} {e : Env} {R : Room} {s : State} {m : MethodId} {args : Array Value} {below : List Frame} {meth : Method} {c : Code} {T : State} {locs : List Loc} {cells slots : Nat} {Z : State} {a0 : Array Value} {h : Heap} {pc pc' : Nat} {L : Array Slot} {S : List Value} {a : Addr} {k : ClassId} {z : Int32} {vs : List Value} {dv : Value}
theorem own_newD (X : Stand p l e R s m args below meth c T locs cells slots) (hx : p.tables.exec = Jvm.exec) (hZ : Z.Warmed39 s.vm) (w : (Jvm.Cond.arrayClass .double).before a0 Z = true) (eT : T.heap = h) (n : Nat) (hz : z.toNatClampNeg = n) (hz0 : ¬ z < 0) (hb : n * 8 ≤ 536870912) (hc : cells + 1 ≤ R.cells) (hl : slots + n ≤ R.slots) (hd : decode c.code pc = .ok (.newarray .double, 2)) (hp : pc + 2 = pc') :
    ∃ T' h' k b, Stand p l e R s m args below meth c T' locs (cells + 1) (slots + n) ∧ T'.heap = h' ∧ Ext h h' ∧ b = h.size ∧ Arv Z h' b k .double z (List.replicate n (.double 0)) (.double 0) ∧ ∀ target, Steps p.tables e below (T'.setTop (mkF m pc' L (.ref b :: S))) target → Steps p.tables e below (T.setTop (mkF m pc L (.int z :: S))) target := by
  subst hp
  obtain ⟨T', h', k, X', e', E, A, st⟩ := newP X hx hZ (aty := .double) w eT (g := mkF m pc L (.int z :: S)) rfl hd rfl hz0 (cap := n) (Nat.le_of_eq hz) hb hc hl
  exact ⟨T', h', k, h.size, X', e', E, rfl, (Arv.new A hz0).pad (pad_rep [] (.double 0) n), st⟩
theorem own_newJ (X : Stand p l e R s m args below meth c T locs cells slots) (hx : p.tables.exec = Jvm.exec) (hZ : Z.Warmed39 s.vm) (w : (Jvm.Cond.arrayClass .long).before a0 Z = true) (eT : T.heap = h) (n : Nat) (hz : z.toNatClampNeg = n) (hz0 : ¬ z < 0) (hb : n * 8 ≤ 536870912) (hc : cells + 1 ≤ R.cells) (hl : slots + n ≤ R.slots) (hd : decode c.code pc = .ok (.newarray .long, 2)) (hp : pc + 2 = pc') :
    ∃ T' h' k b, Stand p l e R s m args below meth c T' locs (cells + 1) (slots + n) ∧ T'.heap = h' ∧ Ext h h' ∧ b = h.size ∧ Arv Z h' b k .long z (List.replicate n (.long 0)) (.long 0) ∧ ∀ target, Steps p.tables e below (T'.setTop (mkF m pc' L (.ref b :: S))) target → Steps p.tables e below (T.setTop (mkF m pc L (.int z :: S))) target := by
  subst hp
  obtain ⟨T', h', k, X', e', E, A, st⟩ := newP X hx hZ (aty := .long) w eT (g := mkF m pc L (.int z :: S)) rfl hd rfl hz0 (cap := n) (Nat.le_of_eq hz) hb hc hl
  exact ⟨T', h', k, h.size, X', e', E, rfl, (Arv.new A hz0).pad (pad_rep [] (.long 0) n), st⟩
theorem own_stD (X : Stand p l e R s m args below meth c T locs cells slots) (hx : p.tables.exec = Jvm.exec) (hZ : Z.Warmed39 s.vm) (eT : T.heap = h) (V : Arv Z h a k .double z vs dv) {j : Int32} {x : UInt64} (hj : ¬ j < 0 ∧ j < z) (i : Nat) (hi : j.toNatClampNeg = i) (hl : i < vs.length) (hd : decode c.code pc = .ok (.dastore, 1)) (hp : pc + 1 = pc') :
    ∃ T' h', Stand p l e R s m args below meth c T' (locs ++ [⟨a, j.toNatClampNeg⟩]) cells slots ∧ T'.heap = h' ∧ Wr h h' a j.toNatClampNeg (.double x) ∧ Arv Z h' a k .double z (vs.set i (.double x)) dv ∧ ∀ target, Steps p.tables e below (T'.setTop (mkF m pc' L S)) target → Steps p.tables e below (T.setTop (mkF m pc L (.double x :: .int j :: .ref a :: S))) target := by
  subst hp
  obtain ⟨cl, A, q1, S1, q3, H, G⟩ := V
  obtain ⟨T', h', X', e', W, st⟩ := stD X hx hZ eT A (j := j) (x := x) (inb_of S1 hj) (g := mkF m pc L (.double x :: .int j :: .ref a :: S)) rfl rfl hd
  exact ⟨T', h', X', e', W, Arv.set A q1 S1 q3 H G rfl W i hi hl, st⟩
theorem own_ldD (X : Stand p l e R s m args below meth c T locs cells slots) (hx : p.tables.exec = Jvm.exec) (hZ : Z.Warmed39 s.vm) (eT : T.heap = h) (V : Arv Z h a k .double z vs dv) {j : Int32} {x : UInt64} (hj : ¬ j < 0 ∧ j < z) (hv : vs.getD j.toNatClampNeg dv = .double x) (hd : decode c.code pc = .ok (.daload, 1)) (hp : pc + 1 = pc') {target : State}
    (hr : Steps p.tables e below (T.setTop (mkF m pc' L (.double x :: S))) target) : Steps p.tables e below (T.setTop (mkF m pc L (.int j :: .ref a :: S))) target := by
  subst hp
  obtain ⟨cl, A, q1, S1, q3, H, G⟩ := V
  exact X.daload hx (j := j) (v := .double x) (by rw [eT]; exact A.1) (State.isArrayOf_alike hZ.alike A.2.1) A.2.2 (inb_of S1 hj) (H.at (inb_of S1 hj) hv) (g := mkF m pc L (.int j :: .ref a :: S)) rfl rfl hd target hr
theorem own_len {ty : FieldType} (X : Stand p l e R s m args below meth c T locs cells slots) (hx : p.tables.exec = Jvm.exec) (hZ : Z.Warmed39 s.vm) (eT : T.heap = h) (V : Arv Z h a k ty z vs dv) (hd : decode c.code pc = .ok (.arraylength, 1)) (hp : pc + 1 = pc') {target : State}
    (hr : Steps p.tables e below (T.setTop (mkF m pc' L (.int z :: S))) target) : Steps p.tables e below (T.setTop (mkF m pc L (.ref a :: S))) target := by
  subst hp
  obtain ⟨cl, A, q1, S1, q3, H, G⟩ := V
  refine X.arraylength hx (by rw [eT]; exact A.1) (State.isArrayOf_alike hZ.alike A.2.1) (g := mkF m pc L (.ref a :: S)) rfl rfl hd target ?_
  rw [len_of S1 q3]
  exact hr
theorem own_retI (X : Stand p l e R s m args below meth c T locs cells slots) (hx : p.tables.exec = Jvm.exec) {x : Int32} (hret : meth.sig.returnType = some .int) (hd : decode c.code pc = .ok (.ireturn, 1)) {fs : List Frame}
    (hl : ∀ (f : JFrame) (acts : List Action), f.method = m → f.locked = none → f.entered = [] → (doReturn e (T.setTop f) acts (some (.int x))).1 = T.setFrames fs) : Steps p.tables e below (T.setTop (mkF m pc L (.int x :: S))) (T.setFrames fs) := by
  have hm' : T.vm.method? m = some meth := X.method'
  have hn : narrow .int (.int x) = .int x := rfl
  show Steps p.tables e below (T.setTop { method := m, pc := pc, locals := L, stack := _ :: S, locked := none }) _
  jvm_step X.here [X.here.top, hx, hd, hm', hret, hn]
  first | (intro acts; rw [hl _ acts rfl rfl rfl]) | rw [hl _ _ rfl rfl rfl]
  exact Steps.refl _
theorem own_retD (X : Stand p l e R s m args below meth c T locs cells slots) (hx : p.tables.exec = Jvm.exec) {x : UInt64} (hret : meth.sig.returnType = some .double) (hd : decode c.code pc = .ok (.dreturn, 1)) {fs : List Frame}
    (hl : ∀ (f : JFrame) (acts : List Action), f.method = m → f.locked = none → f.entered = [] → (doReturn e (T.setTop f) acts (some (.double x))).1 = T.setFrames fs) : Steps p.tables e below (T.setTop (mkF m pc L (.double x :: S))) (T.setFrames fs) := by
  have hm' : T.vm.method? m = some meth := X.method'
  show Steps p.tables e below (T.setTop { method := m, pc := pc, locals := L, stack := _ :: S, locked := none }) _
  jvm_step X.here [X.here.top, hx, hd, hm', hret, narrow]
  first | (intro acts; rw [hl _ acts rfl rfl rfl]) | rw [hl _ _ rfl rfl rfl]
  exact Steps.refl _
theorem own_retJ (X : Stand p l e R s m args below meth c T locs cells slots) (hx : p.tables.exec = Jvm.exec) {x : Int64} (hret : meth.sig.returnType = some .long) (hd : decode c.code pc = .ok (.lreturn, 1)) {fs : List Frame}
    (hl : ∀ (f : JFrame) (acts : List Action), f.method = m → f.locked = none → f.entered = [] → (doReturn e (T.setTop f) acts (some (.long x))).1 = T.setFrames fs) : Steps p.tables e below (T.setTop (mkF m pc L (.long x :: S))) (T.setFrames fs) := by
  have hm' : T.vm.method? m = some meth := X.method'
  show Steps p.tables e below (T.setTop { method := m, pc := pc, locals := L, stack := _ :: S, locked := none }) _
  jvm_step X.here [X.here.top, hx, hd, hm', hret, narrow]
  first | (intro acts; rw [hl _ acts rfl rfl rfl]) | rw [hl _ _ rfl rfl rfl]
  exact Steps.refl _
theorem own_retR (X : Stand p l e R s m args below meth c T locs cells slots) (hx : p.tables.exec = Jvm.exec) {b : Addr} {t : FieldType} (hret : meth.sig.returnType = some t) (ht : t.isReference = true) (hd : decode c.code pc = .ok (.areturn, 1)) {fs : List Frame}
    (hl : ∀ (f : JFrame) (acts : List Action), f.method = m → f.locked = none → f.entered = [] → (doReturn e (T.setTop f) acts (some (.ref b))).1 = T.setFrames fs) : Steps p.tables e below (T.setTop (mkF m pc L (.ref b :: S))) (T.setFrames fs) := by
  have hm' : T.vm.method? m = some meth := X.method'
  show Steps p.tables e below (T.setTop { method := m, pc := pc, locals := L, stack := _ :: S, locked := none }) _
  jvm_step X.here [X.here.top, hx, hd, hm', hret, Value.isRef, ht]
  first | (intro acts; rw [hl _ acts rfl rfl rfl]) | rw [hl _ _ rfl rfl rfl]
  exact Steps.refl _
end OwnHeap
open Jvm Jvm.ClassFile Sem Op Lib Jvm.Free Jvm.Stand Jvm.LawKit Jvm.RoadKit Bundle Jvm.Pilot.@@N@@.Jvm.D
def own_Q0 (n0 : Nat) (v : Option Value) (h : Heap) (L : List Loc) : Prop := v = some (.int 1) ∧ Fr n0 L
def own_QP (r : Option Value) (h0 : Heap) (n0 : Nat) (v : Option Value) (h : Heap) (L : List Loc) : Prop := v = r ∧ Fr n0 L ∧ h = h0
theorem own_d1_0 : decode prog_10_method_4_code 0 = .ok (.aload_n 0, 1) := by decide +kernel
theorem own_d1_1 : decode prog_10_method_4_code 1 = .ok (.iconst 0, 1) := by decide +kernel
theorem own_d1_2 : decode prog_10_method_4_code 2 = .ok (.daload, 1) := by decide +kernel
theorem own_d1_3 : decode prog_10_method_4_code 3 = .ok (.aload_n 0, 1) := by decide +kernel
theorem own_d1_4 : decode prog_10_method_4_code 4 = .ok (.iconst 4, 1) := by decide +kernel
theorem own_d1_5 : decode prog_10_method_4_code 5 = .ok (.daload, 1) := by decide +kernel
theorem own_d1_6 : decode prog_10_method_4_code 6 = .ok (.aload_n 0, 1) := by decide +kernel
theorem own_d1_7 : decode prog_10_method_4_code 7 = .ok (.bipush 8, 2) := by decide +kernel
theorem own_d1_9 : decode prog_10_method_4_code 9 = .ok (.daload, 1) := by decide +kernel
theorem own_d1_10 : decode prog_10_method_4_code 10 = .ok (.dmul, 1) := by decide +kernel
theorem own_d1_11 : decode prog_10_method_4_code 11 = .ok (.aload_n 0, 1) := by decide +kernel
theorem own_d1_12 : decode prog_10_method_4_code 12 = .ok (.iconst 5, 1) := by decide +kernel
theorem own_d1_13 : decode prog_10_method_4_code 13 = .ok (.daload, 1) := by decide +kernel
theorem own_d1_14 : decode prog_10_method_4_code 14 = .ok (.aload_n 0, 1) := by decide +kernel
theorem own_d1_15 : decode prog_10_method_4_code 15 = .ok (.bipush 7, 2) := by decide +kernel
theorem own_d1_17 : decode prog_10_method_4_code 17 = .ok (.daload, 1) := by decide +kernel
theorem own_d1_18 : decode prog_10_method_4_code 18 = .ok (.dmul, 1) := by decide +kernel
theorem own_d1_19 : decode prog_10_method_4_code 19 = .ok (.dsub, 1) := by decide +kernel
theorem own_d1_20 : decode prog_10_method_4_code 20 = .ok (.dmul, 1) := by decide +kernel
theorem own_d1_21 : decode prog_10_method_4_code 21 = .ok (.aload_n 0, 1) := by decide +kernel
theorem own_d1_22 : decode prog_10_method_4_code 22 = .ok (.iconst 1, 1) := by decide +kernel
theorem own_d1_23 : decode prog_10_method_4_code 23 = .ok (.daload, 1) := by decide +kernel
theorem own_d1_24 : decode prog_10_method_4_code 24 = .ok (.aload_n 0, 1) := by decide +kernel
theorem own_d1_25 : decode prog_10_method_4_code 25 = .ok (.iconst 3, 1) := by decide +kernel
theorem own_d1_26 : decode prog_10_method_4_code 26 = .ok (.daload, 1) := by decide +kernel
theorem own_d1_27 : decode prog_10_method_4_code 27 = .ok (.aload_n 0, 1) := by decide +kernel
theorem own_d1_28 : decode prog_10_method_4_code 28 = .ok (.bipush 8, 2) := by decide +kernel
theorem own_d1_30 : decode prog_10_method_4_code 30 = .ok (.daload, 1) := by decide +kernel
theorem own_d1_31 : decode prog_10_method_4_code 31 = .ok (.dmul, 1) := by decide +kernel
theorem own_d1_32 : decode prog_10_method_4_code 32 = .ok (.aload_n 0, 1) := by decide +kernel
theorem own_d1_33 : decode prog_10_method_4_code 33 = .ok (.iconst 5, 1) := by decide +kernel
theorem own_d1_34 : decode prog_10_method_4_code 34 = .ok (.daload, 1) := by decide +kernel
theorem own_d1_35 : decode prog_10_method_4_code 35 = .ok (.aload_n 0, 1) := by decide +kernel
theorem own_d1_36 : decode prog_10_method_4_code 36 = .ok (.bipush 6, 2) := by decide +kernel
theorem own_d1_38 : decode prog_10_method_4_code 38 = .ok (.daload, 1) := by decide +kernel
theorem own_d1_39 : decode prog_10_method_4_code 39 = .ok (.dmul, 1) := by decide +kernel
theorem own_d1_40 : decode prog_10_method_4_code 40 = .ok (.dsub, 1) := by decide +kernel
theorem own_d1_41 : decode prog_10_method_4_code 41 = .ok (.dmul, 1) := by decide +kernel
theorem own_d1_42 : decode prog_10_method_4_code 42 = .ok (.dsub, 1) := by decide +kernel
theorem own_d1_43 : decode prog_10_method_4_code 43 = .ok (.aload_n 0, 1) := by decide +kernel
theorem own_d1_44 : decode prog_10_method_4_code 44 = .ok (.iconst 2, 1) := by decide +kernel
theorem own_d1_45 : decode prog_10_method_4_code 45 = .ok (.daload, 1) := by decide +kernel
theorem own_d1_46 : decode prog_10_method_4_code 46 = .ok (.aload_n 0, 1) := by decide +kernel
theorem own_d1_47 : decode prog_10_method_4_code 47 = .ok (.iconst 3, 1) := by decide +kernel
theorem own_d1_48 : decode prog_10_method_4_code 48 = .ok (.daload, 1) := by decide +kernel
theorem own_d1_49 : decode prog_10_method_4_code 49 = .ok (.aload_n 0, 1) := by decide +kernel
theorem own_d1_50 : decode prog_10_method_4_code 50 = .ok (.bipush 7, 2) := by decide +kernel
theorem own_d1_52 : decode prog_10_method_4_code 52 = .ok (.daload, 1) := by decide +kernel
theorem own_d1_53 : decode prog_10_method_4_code 53 = .ok (.dmul, 1) := by decide +kernel
theorem own_d1_54 : decode prog_10_method_4_code 54 = .ok (.aload_n 0, 1) := by decide +kernel
theorem own_d1_55 : decode prog_10_method_4_code 55 = .ok (.iconst 4, 1) := by decide +kernel
theorem own_d1_56 : decode prog_10_method_4_code 56 = .ok (.daload, 1) := by decide +kernel
theorem own_d1_57 : decode prog_10_method_4_code 57 = .ok (.aload_n 0, 1) := by decide +kernel
theorem own_d1_58 : decode prog_10_method_4_code 58 = .ok (.bipush 6, 2) := by decide +kernel
theorem own_d1_60 : decode prog_10_method_4_code 60 = .ok (.daload, 1) := by decide +kernel
theorem own_d1_61 : decode prog_10_method_4_code 61 = .ok (.dmul, 1) := by decide +kernel
theorem own_d1_62 : decode prog_10_method_4_code 62 = .ok (.dsub, 1) := by decide +kernel
theorem own_d1_63 : decode prog_10_method_4_code 63 = .ok (.dmul, 1) := by decide +kernel
theorem own_d1_64 : decode prog_10_method_4_code 64 = .ok (.dadd, 1) := by decide +kernel
theorem own_d1_65 : decode prog_10_method_4_code 65 = .ok (.dreturn, 1) := by decide +kernel
theorem own_pn_com_example_pintrinsic_pintrinsic_Matrices : plainName "com/example/pintrinsic/pintrinsic/Matrices" = true := by first | (simp [plainName, overriddenIn]; done) | decide +kernel
theorem own_ef_c (m : MethodId) (q : Addr) : entryFrame m #[(.ref q)] 1 = mkF m 0 #[.val (.ref q)] [] := by first | (simp [entryFrame, mkF, argsToLocals, Value.category]; done) | rfl
set_option maxRecDepth 65536 in
set_option maxHeartbeats 40000000 in
theorem own_rm_c (l : Launch) (Z : State) (a0 : Array Value) (hw : ∀ d ∈ tables_1, d.before a0 Z = true) (ws : List Jvm.Cond) (q : Addr) (d0 : UInt64) (d1 : UInt64) (d2 : UInt64) (d3 : UInt64) (d4 : UInt64) (d5 : UInt64) (d6 : UInt64) (d7 : UInt64) (d8 : UInt64) {qk : ClassId} {c_v10 : UInt64} {c_v18 : UInt64} {c_v19 : UInt64} {c_v20 : UInt64} {c_v31 : UInt64} {c_v39 : UInt64} {c_v40 : UInt64} {c_v41 : UInt64} {c_v42 : UInt64} {c_v53 : UInt64} {c_v61 : UInt64} {c_v62 : UInt64} {c_v63 : UInt64} {c_v64 : UInt64} (h0 : Heap) (n0 : Nat) (Z0 : n0 ≤ h0.size) (V_q : Arv Z h0 q qk .double (9 : Int32) [(.double d0), (.double d1), (.double d2), (.double d3), (.double d4), (.double d5), (.double d6), (.double d7), (.double d8)] (.double 0)) (c_hn10 : Jvm.Free.Fl.NoNaN64 (FP.dmul d4 d8)) (c_hv10 : FP.dmul d4 d8 = c_v10) (c_hn18 : Jvm.Free.Fl.NoNaN64 (FP.dmul d5 d7)) (c_hv18 : FP.dmul d5 d7 = c_v18) (c_hn19 : Jvm.Free.Fl.NoNaN64 (FP.dsub c_v10 c_v18)) (c_hv19 : FP.dsub c_v10 c_v18 = c_v19) (c_hn20 : Jvm.Free.Fl.NoNaN64 (FP.dmul d0 c_v19)) (c_hv20 : FP.dmul d0 c_v19 = c_v20) (c_hn31 : Jvm.Free.Fl.NoNaN64 (FP.dmul d3 d8)) (c_hv31 : FP.dmul d3 d8 = c_v31) (c_hn39 : Jvm.Free.Fl.NoNaN64 (FP.dmul d5 d6)) (c_hv39 : FP.dmul d5 d6 = c_v39) (c_hn40 : Jvm.Free.Fl.NoNaN64 (FP.dsub c_v31 c_v39)) (c_hv40 : FP.dsub c_v31 c_v39 = c_v40) (c_hn41 : Jvm.Free.Fl.NoNaN64 (FP.dmul d1 c_v40)) (c_hv41 : FP.dmul d1 c_v40 = c_v41) (c_hn42 : Jvm.Free.Fl.NoNaN64 (FP.dsub c_v20 c_v41)) (c_hv42 : FP.dsub c_v20 c_v41 = c_v42) (c_hn53 : Jvm.Free.Fl.NoNaN64 (FP.dmul d3 d7)) (c_hv53 : FP.dmul d3 d7 = c_v53) (c_hn61 : Jvm.Free.Fl.NoNaN64 (FP.dmul d4 d6)) (c_hv61 : FP.dmul d4 d6 = c_v61) (c_hn62 : Jvm.Free.Fl.NoNaN64 (FP.dsub c_v53 c_v61)) (c_hv62 : FP.dsub c_v53 c_v61 = c_v62) (c_hn63 : Jvm.Free.Fl.NoNaN64 (FP.dmul d2 c_v62)) (c_hv63 : FP.dmul d2 c_v62 = c_v63) (c_hn64 : Jvm.Free.Fl.NoNaN64 (FP.dadd c_v42 c_v63)) (c_hv64 : FP.dadd c_v42 c_v63 = c_v64) :
    MetFree l (⟨"com/example/pintrinsic/pintrinsic/Matrices", "determinant", "([D)D"⟩ : MethodName) (head1 (Jvm.Cond.code (⟨"com/example/pintrinsic/pintrinsic/Matrices", "determinant", "([D)D"⟩ : MethodName) prog_10_method_4_code 1 (some .double) :: ws) ({ frames := 0, cells := 0, slots := 0, locals := 0 } : Room)) (fun a U => a = #[(.ref q)] ∧ Z.Warmed39 U.vm ∧ U.heap = h0) (fun _ _ _ _ _ => True) (fun _ U o U' => ∃ v L, o = .returned v ∧ own_QP (some (.double c_v64)) h0 n0 v U'.heap L ∧ FrameEnd U o U' L ({ frames := 0, cells := 0, slots := 0, locals := 0 } : Room).cells ({ frames := 0, cells := 0, slots := 0, locals := 0 } : Room).slots) := by
  refine MetFree.of_bodySF (plainFor_of_name own_pn_com_example_pintrinsic_pintrinsic_Matrices) hisR ?_
  intro p e s m args below meth c s₁ Bd hml0 hP hK
  obtain ⟨rfl, hZ, hh⟩ := hP
  have hx := Bd.exec
  have hby := Bd.bytes
  have hml : c.maxLocals = 1 := hml0
  have hown : s.vm.findClass "com/example/pintrinsic/pintrinsic/Matrices" = some m.cls := findClass_of_methodNamed Bd.named
  have hnm := (name_of_methodNamed Bd.named Bd.method).1
  have X0 : Stand p l e ({ frames := 0, cells := 0, slots := 0, locals := 0 } : Room) s m #[(.ref q)] below meth c s₁ [] 0 0 := Stand.of_body Bd
  have e0 : s₁.heap = h0 := by rw [← hh, Bd.state]; rfl
  have N0 := Fr.nil n0
  have pre0 : ∀ t, Steps p.tables e below (s₁.setTop (mkF m 0 #[.val (.ref q)] [])) t → Steps p.tables e below (s₁.setTop (entryFrame m #[(.ref q)] 1)) t := fun t k => castTop (own_ef_c m q) k
  obtain ⟨fs, hr, hrun, hended, hW, hsame⟩ := X0.leave (v := some (.double c_v64)) (fun h => by rw [Bd.returns] at h; cases h)
  refine ⟨_, _, pre0 _ ?_, hrun, hended, _, _, rfl, ?_, ⟨_, rfl⟩, hW, hsame.mono (by decide) (by decide)⟩
  · refine own_s_aloadN X0.here hx (hb hby own_d1_0) (pc' := 1) rfl rfl rfl ?_
    refine own_s_iconst X0.here hx (hb hby own_d1_1) (pc' := 2) rfl (v := (0 : Int32)) (by decide) ?_
    refine own_ldD X0 hx hZ e0 V_q (j := (0 : Int32)) (x := d0) (by decide) rfl (hb hby own_d1_2) (pc' := 3) rfl ?_
    refine own_s_aloadN X0.here hx (hb hby own_d1_3) (pc' := 4) rfl rfl rfl ?_
    refine own_s_iconst X0.here hx (hb hby own_d1_4) (pc' := 5) rfl (v := (4 : Int32)) (by decide) ?_
    refine own_ldD X0 hx hZ e0 V_q (j := (4 : Int32)) (x := d4) (by decide) rfl (hb hby own_d1_5) (pc' := 6) rfl ?_
    refine own_s_aloadN X0.here hx (hb hby own_d1_6) (pc' := 7) rfl rfl rfl ?_
    refine own_s_bipush X0.here hx (hb hby own_d1_7) (pc' := 9) rfl (v := (8 : Int32)) (by decide) ?_
    refine own_ldD X0 hx hZ e0 V_q (j := (8 : Int32)) (x := d8) (by decide) rfl (hb hby own_d1_9) (pc' := 10) rfl ?_
    refine own_s_dmul X0.here hx (hb hby own_d1_10) (pc' := 11) rfl c_hn10 (v := c_v10) c_hv10 ?_
    refine own_s_aloadN X0.here hx (hb hby own_d1_11) (pc' := 12) rfl rfl rfl ?_
    refine own_s_iconst X0.here hx (hb hby own_d1_12) (pc' := 13) rfl (v := (5 : Int32)) (by decide) ?_
    refine own_ldD X0 hx hZ e0 V_q (j := (5 : Int32)) (x := d5) (by decide) rfl (hb hby own_d1_13) (pc' := 14) rfl ?_
    refine own_s_aloadN X0.here hx (hb hby own_d1_14) (pc' := 15) rfl rfl rfl ?_
    refine own_s_bipush X0.here hx (hb hby own_d1_15) (pc' := 17) rfl (v := (7 : Int32)) (by decide) ?_
    refine own_ldD X0 hx hZ e0 V_q (j := (7 : Int32)) (x := d7) (by decide) rfl (hb hby own_d1_17) (pc' := 18) rfl ?_
    refine own_s_dmul X0.here hx (hb hby own_d1_18) (pc' := 19) rfl c_hn18 (v := c_v18) c_hv18 ?_
    refine own_s_dsub X0.here hx (hb hby own_d1_19) (pc' := 20) rfl c_hn19 (v := c_v19) c_hv19 ?_
    refine own_s_dmul X0.here hx (hb hby own_d1_20) (pc' := 21) rfl c_hn20 (v := c_v20) c_hv20 ?_
    refine own_s_aloadN X0.here hx (hb hby own_d1_21) (pc' := 22) rfl rfl rfl ?_
    refine own_s_iconst X0.here hx (hb hby own_d1_22) (pc' := 23) rfl (v := (1 : Int32)) (by decide) ?_
    refine own_ldD X0 hx hZ e0 V_q (j := (1 : Int32)) (x := d1) (by decide) rfl (hb hby own_d1_23) (pc' := 24) rfl ?_
    refine own_s_aloadN X0.here hx (hb hby own_d1_24) (pc' := 25) rfl rfl rfl ?_
    refine own_s_iconst X0.here hx (hb hby own_d1_25) (pc' := 26) rfl (v := (3 : Int32)) (by decide) ?_
    refine own_ldD X0 hx hZ e0 V_q (j := (3 : Int32)) (x := d3) (by decide) rfl (hb hby own_d1_26) (pc' := 27) rfl ?_
    refine own_s_aloadN X0.here hx (hb hby own_d1_27) (pc' := 28) rfl rfl rfl ?_
    refine own_s_bipush X0.here hx (hb hby own_d1_28) (pc' := 30) rfl (v := (8 : Int32)) (by decide) ?_
    refine own_ldD X0 hx hZ e0 V_q (j := (8 : Int32)) (x := d8) (by decide) rfl (hb hby own_d1_30) (pc' := 31) rfl ?_
    refine own_s_dmul X0.here hx (hb hby own_d1_31) (pc' := 32) rfl c_hn31 (v := c_v31) c_hv31 ?_
    refine own_s_aloadN X0.here hx (hb hby own_d1_32) (pc' := 33) rfl rfl rfl ?_
    refine own_s_iconst X0.here hx (hb hby own_d1_33) (pc' := 34) rfl (v := (5 : Int32)) (by decide) ?_
    refine own_ldD X0 hx hZ e0 V_q (j := (5 : Int32)) (x := d5) (by decide) rfl (hb hby own_d1_34) (pc' := 35) rfl ?_
    refine own_s_aloadN X0.here hx (hb hby own_d1_35) (pc' := 36) rfl rfl rfl ?_
    refine own_s_bipush X0.here hx (hb hby own_d1_36) (pc' := 38) rfl (v := (6 : Int32)) (by decide) ?_
    refine own_ldD X0 hx hZ e0 V_q (j := (6 : Int32)) (x := d6) (by decide) rfl (hb hby own_d1_38) (pc' := 39) rfl ?_
    refine own_s_dmul X0.here hx (hb hby own_d1_39) (pc' := 40) rfl c_hn39 (v := c_v39) c_hv39 ?_
    refine own_s_dsub X0.here hx (hb hby own_d1_40) (pc' := 41) rfl c_hn40 (v := c_v40) c_hv40 ?_
    refine own_s_dmul X0.here hx (hb hby own_d1_41) (pc' := 42) rfl c_hn41 (v := c_v41) c_hv41 ?_
    refine own_s_dsub X0.here hx (hb hby own_d1_42) (pc' := 43) rfl c_hn42 (v := c_v42) c_hv42 ?_
    refine own_s_aloadN X0.here hx (hb hby own_d1_43) (pc' := 44) rfl rfl rfl ?_
    refine own_s_iconst X0.here hx (hb hby own_d1_44) (pc' := 45) rfl (v := (2 : Int32)) (by decide) ?_
    refine own_ldD X0 hx hZ e0 V_q (j := (2 : Int32)) (x := d2) (by decide) rfl (hb hby own_d1_45) (pc' := 46) rfl ?_
    refine own_s_aloadN X0.here hx (hb hby own_d1_46) (pc' := 47) rfl rfl rfl ?_
    refine own_s_iconst X0.here hx (hb hby own_d1_47) (pc' := 48) rfl (v := (3 : Int32)) (by decide) ?_
    refine own_ldD X0 hx hZ e0 V_q (j := (3 : Int32)) (x := d3) (by decide) rfl (hb hby own_d1_48) (pc' := 49) rfl ?_
    refine own_s_aloadN X0.here hx (hb hby own_d1_49) (pc' := 50) rfl rfl rfl ?_
    refine own_s_bipush X0.here hx (hb hby own_d1_50) (pc' := 52) rfl (v := (7 : Int32)) (by decide) ?_
    refine own_ldD X0 hx hZ e0 V_q (j := (7 : Int32)) (x := d7) (by decide) rfl (hb hby own_d1_52) (pc' := 53) rfl ?_
    refine own_s_dmul X0.here hx (hb hby own_d1_53) (pc' := 54) rfl c_hn53 (v := c_v53) c_hv53 ?_
    refine own_s_aloadN X0.here hx (hb hby own_d1_54) (pc' := 55) rfl rfl rfl ?_
    refine own_s_iconst X0.here hx (hb hby own_d1_55) (pc' := 56) rfl (v := (4 : Int32)) (by decide) ?_
    refine own_ldD X0 hx hZ e0 V_q (j := (4 : Int32)) (x := d4) (by decide) rfl (hb hby own_d1_56) (pc' := 57) rfl ?_
    refine own_s_aloadN X0.here hx (hb hby own_d1_57) (pc' := 58) rfl rfl rfl ?_
    refine own_s_bipush X0.here hx (hb hby own_d1_58) (pc' := 60) rfl (v := (6 : Int32)) (by decide) ?_
    refine own_ldD X0 hx hZ e0 V_q (j := (6 : Int32)) (x := d6) (by decide) rfl (hb hby own_d1_60) (pc' := 61) rfl ?_
    refine own_s_dmul X0.here hx (hb hby own_d1_61) (pc' := 62) rfl c_hn61 (v := c_v61) c_hv61 ?_
    refine own_s_dsub X0.here hx (hb hby own_d1_62) (pc' := 63) rfl c_hn62 (v := c_v62) c_hv62 ?_
    refine own_s_dmul X0.here hx (hb hby own_d1_63) (pc' := 64) rfl c_hn63 (v := c_v63) c_hv63 ?_
    refine own_s_dadd X0.here hx (hb hby own_d1_64) (pc' := 65) rfl c_hn64 (v := c_v64) c_hv64 ?_
    exact own_retD X0 hx Bd.returns (hb hby own_d1_65) hr
  · show own_QP (some (.double c_v64)) h0 n0 _ s₁.heap _
    rw [e0]
    exact ⟨rfl, N0, rfl⟩
theorem own_pd_285bD29D : parseMethodDescriptor "([D)D" = some ⟨[(.array .double)], some .double⟩ := by decide +kernel
theorem own_pn_com_example_pintrinsic_pintrinsic_MatricesDeterminantPinLaw : plainName "com/example/pintrinsic/pintrinsic/MatricesDeterminantPinLaw" = true := by first | (simp [plainName, overriddenIn]; done) | decide +kernel
theorem own_ef_w (m : MethodId) (p0 : Int64) (p1 : Int64) (p2 : Int64) : entryFrame m #[(.long p0), (.long p1), (.long p2)] maxLocals = mkF m 0 #[.val (.long p0), .second, .val (.long p1), .second, .val (.long p2), .second, .unset, .unset, .unset, .unset, .unset, .unset, .unset, .unset, .unset, .unset, .unset, .unset, .unset, .unset, .unset, .unset, .unset, .unset, .unset, .unset, .unset, .unset, .unset] [] := by first | (simp [entryFrame, mkF, argsToLocals, Value.category, maxLocals]; done) | rfl
set_option maxRecDepth 65536 in
set_option maxHeartbeats 40000000 in
theorem own_rm_w (l : Launch) (Z : State) (a0 : Array Value) (hw : ∀ d ∈ tables_1, d.before a0 Z = true) (ws : List Jvm.Cond) (p0 : Int64) (p1 : Int64) (p2 : Int64) {w_v1 : Int32} {w_v2 : Int32} {w_v3 : Int64} {w_v9 : Int64} {w_v10 : Int32} {w_v11 : Int32} {w_v12 : Int64} {w_v18 : Int64} {w_v19 : Int32} {w_v20 : Int32} {w_v21 : Int64} {w_v25 : Int32} {w_v26 : Int32} {w_v27 : Int64} {w_v33 : Int64} {w_v34 : Int32} {w_v35 : Int32} {w_v36 : Int64} {w_v42 : Int64} {w_v43 : Int32} {w_v44 : Int32} {w_v45 : Int64} {w_v50 : Int32} {w_v51 : Int32} {w_v52 : Int64} {w_v59 : Int64} {w_v60 : Int32} {w_v61 : Int32} {w_v62 : Int64} {w_v69 : Int64} {w_v70 : Int32} {w_v71 : Int32} {w_v72 : Int64} {w_c140_c_v10 : UInt64} {w_c140_c_v18 : UInt64} {w_c140_c_v19 : UInt64} {w_c140_c_v20 : UInt64} {w_c140_c_v31 : UInt64} {w_c140_c_v39 : UInt64} {w_c140_c_v40 : UInt64} {w_c140_c_v41 : UInt64} {w_c140_c_v42 : UInt64} {w_c140_c_v53 : UInt64} {w_c140_c_v61 : UInt64} {w_c140_c_v62 : UInt64} {w_c140_c_v63 : UInt64} {w_c140_c_v64 : UInt64} {w_v149 : Int64} {w_v152 : Int64} {w_v157 : Int64} {w_v160 : Int64} {w_v161 : Int64} {w_v166 : Int64} {w_v169 : Int64} {w_v170 : Int64} {w_v175 : Int64} {w_v178 : Int64} {w_v179 : Int64} {w_v184 : Int64} {w_v187 : Int64} {w_v188 : Int64} {w_v193 : Int64} {w_v196 : Int64} {w_v197 : Int64} (h0 : Heap) (n0 : Nat) (Z0 : n0 ≤ h0.size)  (w_hv1 : Int64.toInt32 p0 = w_v1) (w_hv2 : (Int32.toInt16 w_v1).toInt32 = w_v2) (w_hv3 : Int32.toInt64 w_v2 = w_v3) (w_hv9 : (Int64.toUInt64 p0 >>> ((16 : Int32) &&& 63).toInt64.toUInt64).toInt64 = w_v9) (w_hv10 : Int64.toInt32 w_v9 = w_v10) (w_hv11 : (Int32.toInt16 w_v10).toInt32 = w_v11) (w_hv12 : Int32.toInt64 w_v11 = w_v12) (w_hv18 : (Int64.toUInt64 p0 >>> ((32 : Int32) &&& 63).toInt64.toUInt64).toInt64 = w_v18) (w_hv19 : Int64.toInt32 w_v18 = w_v19) (w_hv20 : (Int32.toInt16 w_v19).toInt32 = w_v20) (w_hv21 : Int32.toInt64 w_v20 = w_v21) (w_hv25 : Int64.toInt32 p1 = w_v25) (w_hv26 : (Int32.toInt16 w_v25).toInt32 = w_v26) (w_hv27 : Int32.toInt64 w_v26 = w_v27) (w_hv33 : (Int64.toUInt64 p1 >>> ((16 : Int32) &&& 63).toInt64.toUInt64).toInt64 = w_v33) (w_hv34 : Int64.toInt32 w_v33 = w_v34) (w_hv35 : (Int32.toInt16 w_v34).toInt32 = w_v35) (w_hv36 : Int32.toInt64 w_v35 = w_v36) (w_hv42 : (Int64.toUInt64 p1 >>> ((32 : Int32) &&& 63).toInt64.toUInt64).toInt64 = w_v42) (w_hv43 : Int64.toInt32 w_v42 = w_v43) (w_hv44 : (Int32.toInt16 w_v43).toInt32 = w_v44) (w_hv45 : Int32.toInt64 w_v44 = w_v45) (w_hv50 : Int64.toInt32 p2 = w_v50) (w_hv51 : (Int32.toInt16 w_v50).toInt32 = w_v51) (w_hv52 : Int32.toInt64 w_v51 = w_v52) (w_hv59 : (Int64.toUInt64 p2 >>> ((16 : Int32) &&& 63).toInt64.toUInt64).toInt64 = w_v59) (w_hv60 : Int64.toInt32 w_v59 = w_v60) (w_hv61 : (Int32.toInt16 w_v60).toInt32 = w_v61) (w_hv62 : Int32.toInt64 w_v61 = w_v62) (w_hv69 : (Int64.toUInt64 p2 >>> ((32 : Int32) &&& 63).toInt64.toUInt64).toInt64 = w_v69) (w_hv70 : Int64.toInt32 w_v69 = w_v70) (w_hv71 : (Int32.toInt16 w_v70).toInt32 = w_v71) (w_hv72 : Int32.toInt64 w_v71 = w_v72) (w_c140_c_hn10 : Jvm.Free.Fl.NoNaN64 (FP.dmul (FP.l2d w_v36) (FP.l2d w_v72))) (w_c140_c_hv10 : FP.dmul (FP.l2d w_v36) (FP.l2d w_v72) = w_c140_c_v10) (w_c140_c_hn18 : Jvm.Free.Fl.NoNaN64 (FP.dmul (FP.l2d w_v45) (FP.l2d w_v62))) (w_c140_c_hv18 : FP.dmul (FP.l2d w_v45) (FP.l2d w_v62) = w_c140_c_v18) (w_c140_c_hn19 : Jvm.Free.Fl.NoNaN64 (FP.dsub w_c140_c_v10 w_c140_c_v18)) (w_c140_c_hv19 : FP.dsub w_c140_c_v10 w_c140_c_v18 = w_c140_c_v19) (w_c140_c_hn20 : Jvm.Free.Fl.NoNaN64 (FP.dmul (FP.l2d w_v3) w_c140_c_v19)) (w_c140_c_hv20 : FP.dmul (FP.l2d w_v3) w_c140_c_v19 = w_c140_c_v20) (w_c140_c_hn31 : Jvm.Free.Fl.NoNaN64 (FP.dmul (FP.l2d w_v27) (FP.l2d w_v72))) (w_c140_c_hv31 : FP.dmul (FP.l2d w_v27) (FP.l2d w_v72) = w_c140_c_v31) (w_c140_c_hn39 : Jvm.Free.Fl.NoNaN64 (FP.dmul (FP.l2d w_v45) (FP.l2d w_v52))) (w_c140_c_hv39 : FP.dmul (FP.l2d w_v45) (FP.l2d w_v52) = w_c140_c_v39) (w_c140_c_hn40 : Jvm.Free.Fl.NoNaN64 (FP.dsub w_c140_c_v31 w_c140_c_v39)) (w_c140_c_hv40 : FP.dsub w_c140_c_v31 w_c140_c_v39 = w_c140_c_v40) (w_c140_c_hn41 : Jvm.Free.Fl.NoNaN64 (FP.dmul (FP.l2d w_v12) w_c140_c_v40)) (w_c140_c_hv41 : FP.dmul (FP.l2d w_v12) w_c140_c_v40 = w_c140_c_v41) (w_c140_c_hn42 : Jvm.Free.Fl.NoNaN64 (FP.dsub w_c140_c_v20 w_c140_c_v41)) (w_c140_c_hv42 : FP.dsub w_c140_c_v20 w_c140_c_v41 = w_c140_c_v42) (w_c140_c_hn53 : Jvm.Free.Fl.NoNaN64 (FP.dmul (FP.l2d w_v27) (FP.l2d w_v62))) (w_c140_c_hv53 : FP.dmul (FP.l2d w_v27) (FP.l2d w_v62) = w_c140_c_v53) (w_c140_c_hn61 : Jvm.Free.Fl.NoNaN64 (FP.dmul (FP.l2d w_v36) (FP.l2d w_v52))) (w_c140_c_hv61 : FP.dmul (FP.l2d w_v36) (FP.l2d w_v52) = w_c140_c_v61) (w_c140_c_hn62 : Jvm.Free.Fl.NoNaN64 (FP.dsub w_c140_c_v53 w_c140_c_v61)) (w_c140_c_hv62 : FP.dsub w_c140_c_v53 w_c140_c_v61 = w_c140_c_v62) (w_c140_c_hn63 : Jvm.Free.Fl.NoNaN64 (FP.dmul (FP.l2d w_v21) w_c140_c_v62)) (w_c140_c_hv63 : FP.dmul (FP.l2d w_v21) w_c140_c_v62 = w_c140_c_v63) (w_c140_c_hn64 : Jvm.Free.Fl.NoNaN64 (FP.dadd w_c140_c_v42 w_c140_c_v63)) (w_c140_c_hv64 : FP.dadd w_c140_c_v42 w_c140_c_v63 = w_c140_c_v64) (w_hv149 : w_v3 * w_v36 = w_v149) (w_hv152 : w_v149 * w_v72 = w_v152) (w_hv157 : w_v12 * w_v45 = w_v157) (w_hv160 : w_v157 * w_v52 = w_v160) (w_hv161 : w_v152 + w_v160 = w_v161) (w_hv166 : w_v21 * w_v27 = w_v166) (w_hv169 : w_v166 * w_v62 = w_v169) (w_hv170 : w_v161 + w_v169 = w_v170) (w_hv175 : w_v21 * w_v36 = w_v175) (w_hv178 : w_v175 * w_v52 = w_v178) (w_hv179 : w_v170 - w_v178 = w_v179) (w_hv184 : w_v12 * w_v27 = w_v184) (w_hv187 : w_v184 * w_v72 = w_v187) (w_hv188 : w_v179 - w_v187 = w_v188) (w_hv193 : w_v3 * w_v45 = w_v193) (w_hv196 : w_v193 * w_v62 = w_v196) (w_hv197 : w_v188 - w_v196 = w_v197) (w_hc205 : Op.cmpValue (FP.dcmp w_c140_c_v64 (FP.l2d w_v197)) .l = (0 : Int32)) :
    MetFree l x (head1 (Jvm.Cond.code x code maxLocals ret :: ws) room_1) (fun a U => a = #[(.long p0), (.long p1), (.long p2)] ∧ Z.Warmed39 U.vm ∧ U.heap = h0) (fun _ _ _ _ _ => True) (fun _ U o U' => ∃ v L, o = .returned v ∧ own_Q0 n0 v U'.heap L ∧ FrameEnd U o U' L room_1.cells room_1.slots) := by
  refine MetFree.of_bodySF (plainFor_of_name own_pn_com_example_pintrinsic_pintrinsic_MatricesDeterminantPinLaw) hisR ?_
  intro p e s m args below meth c s₁ Bd hml0 hP hK
  obtain ⟨rfl, hZ, hh⟩ := hP
  have hx := Bd.exec
  have hby := Bd.bytes
  have hml : c.maxLocals = 29 := hml0
  have hown : s.vm.findClass "com/example/pintrinsic/pintrinsic/MatricesDeterminantPinLaw" = some m.cls := findClass_of_methodNamed Bd.named
  have hnm := (name_of_methodNamed Bd.named Bd.method).1
  have X0 : Stand p l e room_1 s m #[(.long p0), (.long p1), (.long p2)] below meth c s₁ [] 0 0 := Stand.of_body Bd
  have e0 : s₁.heap = h0 := by rw [← hh, Bd.state]; rfl
  have N0 := Fr.nil n0
  have pre0 : ∀ t, Steps p.tables e below (s₁.setTop (mkF m 0 #[.val (.long p0), .second, .val (.long p1), .second, .val (.long p2), .second, .unset, .unset, .unset, .unset, .unset, .unset, .unset, .unset, .unset, .unset, .unset, .unset, .unset, .unset, .unset, .unset, .unset, .unset, .unset, .unset, .unset, .unset, .unset] [])) t → Steps p.tables e below (s₁.setTop (entryFrame m #[(.long p0), (.long p1), (.long p2)] maxLocals)) t := fun t k => castTop (own_ef_w m p0 p1 p2) k
  obtain ⟨Tw1, hw1, kw1, bw1, Xw1, ew1, Ew1, Gw1, Vw1, stw1⟩ := own_newD (L := #[.val (.long p0), .second, .val (.long p1), .second, .val (.long p2), .second, .val (.long w_v3), .second, .val (.long w_v12), .second, .val (.long w_v21), .second, .val (.long w_v27), .second, .val (.long w_v36), .second, .val (.long w_v45), .second, .val (.long w_v52), .second, .val (.long w_v62), .second, .val (.long w_v72), .second, .unset, .unset, .unset, .unset, .unset]) (S := []) X0 hx hZ (hw _ (List.mem_of_getElem? (i := 0) rfl)) e0 (z := (9 : Int32)) 9 (by decide) (by decide) (by decide) (by decide) (by decide) (hb hby at_77) (pc' := 79) rfl
  have g_bw1 : n0 ≤ bw1 := Nat.le_trans Z0 (Nat.le_of_eq Gw1.symm)
  have sz_bw1 : h0.size ≤ bw1 := Nat.le_trans (Keep.refl h0 []).1 (Nat.le_of_eq Gw1.symm)
  have Zw1 : n0 ≤ hw1.size := Nat.le_trans Z0 Ew1.1
  have KKw1 := (Keep.refl h0 []).ext Ew1
  have V_bw1 : Arv Z hw1 bw1 kw1 .double (9 : Int32) [(.double 0), (.double 0), (.double 0), (.double 0), (.double 0), (.double 0), (.double 0), (.double 0), (.double 0)] (.double 0) := Vw1
  obtain ⟨Tw2, hw2, Xw2, ew2, Ww2, Vw2, stw2⟩ := own_stD (L := #[.val (.long p0), .second, .val (.long p1), .second, .val (.long p2), .second, .val (.long w_v3), .second, .val (.long w_v12), .second, .val (.long w_v21), .second, .val (.long w_v27), .second, .val (.long w_v36), .second, .val (.long w_v45), .second, .val (.long w_v52), .second, .val (.long w_v62), .second, .val (.long w_v72), .second, .unset, .unset, .unset, .unset, .unset]) (S := [(.ref bw1)]) Xw1 hx hZ ew1 V_bw1 (j := (0 : Int32)) (x := (FP.l2d w_v3)) (by decide) 0 (by decide) (Nat.le_of_ble_eq_true rfl) (hb hby at_84) (pc' := 85) rfl
  have Zw2 : n0 ≤ hw2.size := Nat.le_trans Zw1 (Nat.le_of_eq Ww2.size.symm)
  have KKw2 := KKw1.wr Ww2 (Or.inr sz_bw1)
  have V_bw1_w2 : Arv Z hw2 bw1 kw1 .double (9 : Int32) [(.double (FP.l2d w_v3)), (.double 0), (.double 0), (.double 0), (.double 0), (.double 0), (.double 0), (.double 0), (.double 0)] (.double 0) := Vw2
  have Nw2 := Fr.snoc Xw2 N0 g_bw1
  obtain ⟨Tw3, hw3, Xw3, ew3, Ww3, Vw3, stw3⟩ := own_stD (L := #[.val (.long p0), .second, .val (.long p1), .second, .val (.long p2), .second, .val (.long w_v3), .second, .val (.long w_v12), .second, .val (.long w_v21), .second, .val (.long w_v27), .second, .val (.long w_v36), .second, .val (.long w_v45), .second, .val (.long w_v52), .second, .val (.long w_v62), .second, .val (.long w_v72), .second, .unset, .unset, .unset, .unset, .unset]) (S := [(.ref bw1)]) Xw2 hx hZ ew2 V_bw1_w2 (j := (1 : Int32)) (x := (FP.l2d w_v12)) (by decide) 1 (by decide) (Nat.le_of_ble_eq_true rfl) (hb hby at_90) (pc' := 91) rfl
  have Zw3 : n0 ≤ hw3.size := Nat.le_trans Zw2 (Nat.le_of_eq Ww3.size.symm)
  have KKw3 := KKw2.wr Ww3 (Or.inr sz_bw1)
  have V_bw1_w3 : Arv Z hw3 bw1 kw1 .double (9 : Int32) [(.double (FP.l2d w_v3)), (.double (FP.l2d w_v12)), (.double 0), (.double 0), (.double 0), (.double 0), (.double 0), (.double 0), (.double 0)] (.double 0) := Vw3
  have Nw3 := Fr.snoc Xw3 Nw2 g_bw1
  obtain ⟨Tw4, hw4, Xw4, ew4, Ww4, Vw4, stw4⟩ := own_stD (L := #[.val (.long p0), .second, .val (.long p1), .second, .val (.long p2), .second, .val (.long w_v3), .second, .val (.long w_v12), .second, .val (.long w_v21), .second, .val (.long w_v27), .second, .val (.long w_v36), .second, .val (.long w_v45), .second, .val (.long w_v52), .second, .val (.long w_v62), .second, .val (.long w_v72), .second, .unset, .unset, .unset, .unset, .unset]) (S := [(.ref bw1)]) Xw3 hx hZ ew3 V_bw1_w3 (j := (2 : Int32)) (x := (FP.l2d w_v21)) (by decide) 2 (by decide) (Nat.le_of_ble_eq_true rfl) (hb hby at_96) (pc' := 97) rfl
  have Zw4 : n0 ≤ hw4.size := Nat.le_trans Zw3 (Nat.le_of_eq Ww4.size.symm)
  have KKw4 := KKw3.wr Ww4 (Or.inr sz_bw1)
  have V_bw1_w4 : Arv Z hw4 bw1 kw1 .double (9 : Int32) [(.double (FP.l2d w_v3)), (.double (FP.l2d w_v12)), (.double (FP.l2d w_v21)), (.double 0), (.double 0), (.double 0), (.double 0), (.double 0), (.double 0)] (.double 0) := Vw4
  have Nw4 := Fr.snoc Xw4 Nw3 g_bw1
  obtain ⟨Tw5, hw5, Xw5, ew5, Ww5, Vw5, stw5⟩ := own_stD (L := #[.val (.long p0), .second, .val (.long p1), .second, .val (.long p2), .second, .val (.long w_v3), .second, .val (.long w_v12), .second, .val (.long w_v21), .second, .val (.long w_v27), .second, .val (.long w_v36), .second, .val (.long w_v45), .second, .val (.long w_v52), .second, .val (.long w_v62), .second, .val (.long w_v72), .second, .unset, .unset, .unset, .unset, .unset]) (S := [(.ref bw1)]) Xw4 hx hZ ew4 V_bw1_w4 (j := (3 : Int32)) (x := (FP.l2d w_v27)) (by decide) 3 (by decide) (Nat.le_of_ble_eq_true rfl) (hb hby at_102) (pc' := 103) rfl
  have Zw5 : n0 ≤ hw5.size := Nat.le_trans Zw4 (Nat.le_of_eq Ww5.size.symm)
  have KKw5 := KKw4.wr Ww5 (Or.inr sz_bw1)
  have V_bw1_w5 : Arv Z hw5 bw1 kw1 .double (9 : Int32) [(.double (FP.l2d w_v3)), (.double (FP.l2d w_v12)), (.double (FP.l2d w_v21)), (.double (FP.l2d w_v27)), (.double 0), (.double 0), (.double 0), (.double 0), (.double 0)] (.double 0) := Vw5
  have Nw5 := Fr.snoc Xw5 Nw4 g_bw1
  obtain ⟨Tw6, hw6, Xw6, ew6, Ww6, Vw6, stw6⟩ := own_stD (L := #[.val (.long p0), .second, .val (.long p1), .second, .val (.long p2), .second, .val (.long w_v3), .second, .val (.long w_v12), .second, .val (.long w_v21), .second, .val (.long w_v27), .second, .val (.long w_v36), .second, .val (.long w_v45), .second, .val (.long w_v52), .second, .val (.long w_v62), .second, .val (.long w_v72), .second, .unset, .unset, .unset, .unset, .unset]) (S := [(.ref bw1)]) Xw5 hx hZ ew5 V_bw1_w5 (j := (4 : Int32)) (x := (FP.l2d w_v36)) (by decide) 4 (by decide) (Nat.le_of_ble_eq_true rfl) (hb hby at_108) (pc' := 109) rfl
  have Zw6 : n0 ≤ hw6.size := Nat.le_trans Zw5 (Nat.le_of_eq Ww6.size.symm)
  have KKw6 := KKw5.wr Ww6 (Or.inr sz_bw1)
  have V_bw1_w6 : Arv Z hw6 bw1 kw1 .double (9 : Int32) [(.double (FP.l2d w_v3)), (.double (FP.l2d w_v12)), (.double (FP.l2d w_v21)), (.double (FP.l2d w_v27)), (.double (FP.l2d w_v36)), (.double 0), (.double 0), (.double 0), (.double 0)] (.double 0) := Vw6
  have Nw6 := Fr.snoc Xw6 Nw5 g_bw1
  obtain ⟨Tw7, hw7, Xw7, ew7, Ww7, Vw7, stw7⟩ := own_stD (L := #[.val (.long p0), .second, .val (.long p1), .second, .val (.long p2), .second, .val (.long w_v3), .second, .val (.long w_v12), .second, .val (.long w_v21), .second, .val (.long w_v27), .second, .val (.long w_v36), .second, .val (.long w_v45), .second, .val (.long w_v52), .second, .val (.long w_v62), .second, .val (.long w_v72), .second, .unset, .unset, .unset, .unset, .unset]) (S := [(.ref bw1)]) Xw6 hx hZ ew6 V_bw1_w6 (j := (5 : Int32)) (x := (FP.l2d w_v45)) (by decide) 5 (by decide) (Nat.le_of_ble_eq_true rfl) (hb hby at_114) (pc' := 115) rfl
  have Zw7 : n0 ≤ hw7.size := Nat.le_trans Zw6 (Nat.le_of_eq Ww7.size.symm)
  have KKw7 := KKw6.wr Ww7 (Or.inr sz_bw1)
  have V_bw1_w7 : Arv Z hw7 bw1 kw1 .double (9 : Int32) [(.double (FP.l2d w_v3)), (.double (FP.l2d w_v12)), (.double (FP.l2d w_v21)), (.double (FP.l2d w_v27)), (.double (FP.l2d w_v36)), (.double (FP.l2d w_v45)), (.double 0), (.double 0), (.double 0)] (.double 0) := Vw7
  have Nw7 := Fr.snoc Xw7 Nw6 g_bw1
  obtain ⟨Tw8, hw8, Xw8, ew8, Ww8, Vw8, stw8⟩ := own_stD (L := #[.val (.long p0), .second, .val (.long p1), .second, .val (.long p2), .second, .val (.long w_v3), .second, .val (.long w_v12), .second, .val (.long w_v21), .second, .val (.long w_v27), .second, .val (.long w_v36), .second, .val (.long w_v45), .second, .val (.long w_v52), .second, .val (.long w_v62), .second, .val (.long w_v72), .second, .unset, .unset, .unset, .unset, .unset]) (S := [(.ref bw1)]) Xw7 hx hZ ew7 V_bw1_w7 (j := (6 : Int32)) (x := (FP.l2d w_v52)) (by decide) 6 (by decide) (Nat.le_of_ble_eq_true rfl) (hb hby at_121) (pc' := 122) rfl
  have Zw8 : n0 ≤ hw8.size := Nat.le_trans Zw7 (Nat.le_of_eq Ww8.size.symm)
  have KKw8 := KKw7.wr Ww8 (Or.inr sz_bw1)
  have V_bw1_w8 : Arv Z hw8 bw1 kw1 .double (9 : Int32) [(.double (FP.l2d w_v3)), (.double (FP.l2d w_v12)), (.double (FP.l2d w_v21)), (.double (FP.l2d w_v27)), (.double (FP.l2d w_v36)), (.double (FP.l2d w_v45)), (.double (FP.l2d w_v52)), (.double 0), (.double 0)] (.double 0) := Vw8
  have Nw8 := Fr.snoc Xw8 Nw7 g_bw1
  obtain ⟨Tw9, hw9, Xw9, ew9, Ww9, Vw9, stw9⟩ := own_stD (L := #[.val (.long p0), .second, .val (.long p1), .second, .val (.long p2), .second, .val (.long w_v3), .second, .val (.long w_v12), .second, .val (.long w_v21), .second, .val (.long w_v27), .second, .val (.long w_v36), .second, .val (.long w_v45), .second, .val (.long w_v52), .second, .val (.long w_v62), .second, .val (.long w_v72), .second, .unset, .unset, .unset, .unset, .unset]) (S := [(.ref bw1)]) Xw8 hx hZ ew8 V_bw1_w8 (j := (7 : Int32)) (x := (FP.l2d w_v62)) (by decide) 7 (by decide) (Nat.le_of_ble_eq_true rfl) (hb hby at_128) (pc' := 129) rfl
  have Zw9 : n0 ≤ hw9.size := Nat.le_trans Zw8 (Nat.le_of_eq Ww9.size.symm)
  have KKw9 := KKw8.wr Ww9 (Or.inr sz_bw1)
  have V_bw1_w9 : Arv Z hw9 bw1 kw1 .double (9 : Int32) [(.double (FP.l2d w_v3)), (.double (FP.l2d w_v12)), (.double (FP.l2d w_v21)), (.double (FP.l2d w_v27)), (.double (FP.l2d w_v36)), (.double (FP.l2d w_v45)), (.double (FP.l2d w_v52)), (.double (FP.l2d w_v62)), (.double 0)] (.double 0) := Vw9
  have Nw9 := Fr.snoc Xw9 Nw8 g_bw1
  obtain ⟨Tw10, hw10, Xw10, ew10, Ww10, Vw10, stw10⟩ := own_stD (L := #[.val (.long p0), .second, .val (.long p1), .second, .val (.long p2), .second, .val (.long w_v3), .second, .val (.long w_v12), .second, .val (.long w_v21), .second, .val (.long w_v27), .second, .val (.long w_v36), .second, .val (.long w_v45), .second, .val (.long w_v52), .second, .val (.long w_v62), .second, .val (.long w_v72), .second, .unset, .unset, .unset, .unset, .unset]) (S := [(.ref bw1)]) Xw9 hx hZ ew9 V_bw1_w9 (j := (8 : Int32)) (x := (FP.l2d w_v72)) (by decide) 8 (by decide) (Nat.le_of_ble_eq_true rfl) (hb hby at_135) (pc' := 136) rfl
  have Zw10 : n0 ≤ hw10.size := Nat.le_trans Zw9 (Nat.le_of_eq Ww10.size.symm)
  have KKw10 := KKw9.wr Ww10 (Or.inr sz_bw1)
  have V_bw1_w10 : Arv Z hw10 bw1 kw1 .double (9 : Int32) [(.double (FP.l2d w_v3)), (.double (FP.l2d w_v12)), (.double (FP.l2d w_v21)), (.double (FP.l2d w_v27)), (.double (FP.l2d w_v36)), (.double (FP.l2d w_v45)), (.double (FP.l2d w_v52)), (.double (FP.l2d w_v62)), (.double (FP.l2d w_v72))] (.double 0) := Vw10
  have Nw10 := Fr.snoc Xw10 Nw9 g_bw1
  obtain ⟨_, _, ⟨Tw11, Lw11, kw11, nw11⟩, -, Xw11, ⟨Lcw11, hQw11, lw11, yw11, zw11⟩, stw11⟩ := Jvm.LawKit.callS Xw10 hx (y := (⟨"com/example/pintrinsic/pintrinsic/Matrices", "determinant", "([D)D"⟩ : MethodName)) hown (mvT hZ (hw _ (List.mem_of_getElem? (i := 1) rfl))) (mvT hZ (hw _ (List.mem_of_getElem? (i := 2) rfl))) (mvT hZ (hw _ (List.mem_of_getElem? (i := 3) rfl))) (mvT hZ (hw _ (List.mem_of_getElem? (i := 4) rfl))) (by decide) (backOf (W := 0) (own_rm_c l Z a0 hw [] bw1 (FP.l2d w_v3) (FP.l2d w_v12) (FP.l2d w_v21) (FP.l2d w_v27) (FP.l2d w_v36) (FP.l2d w_v45) (FP.l2d w_v52) (FP.l2d w_v62) (FP.l2d w_v72) hw10 n0 Zw10 V_bw1_w10 w_c140_c_hn10 w_c140_c_hv10 w_c140_c_hn18 w_c140_c_hv18 w_c140_c_hn19 w_c140_c_hv19 w_c140_c_hn20 w_c140_c_hv20 w_c140_c_hn31 w_c140_c_hv31 w_c140_c_hn39 w_c140_c_hv39 w_c140_c_hn40 w_c140_c_hv40 w_c140_c_hn41 w_c140_c_hv41 w_c140_c_hn42 w_c140_c_hv42 w_c140_c_hn53 w_c140_c_hv53 w_c140_c_hn61 w_c140_c_hv61 w_c140_c_hn62 w_c140_c_hv62 w_c140_c_hn63 w_c140_c_hv63 w_c140_c_hn64 w_c140_c_hv64) hZ (hw _ (List.mem_of_getElem? (i := 4) rfl)) (hw _ (List.mem_of_getElem? (i := 3) rfl)) (by decide) (by decide)) (g := (mkF m 140 #[.val (.long p0), .second, .val (.long p1), .second, .val (.long p2), .second, .val (.long w_v3), .second, .val (.long w_v12), .second, .val (.long w_v21), .second, .val (.long w_v27), .second, .val (.long w_v36), .second, .val (.long w_v45), .second, .val (.long w_v52), .second, .val (.long w_v62), .second, .val (.long w_v72), .second, .val (.ref bw1), .unset, .unset, .unset, .unset] [(.ref bw1)])) rfl (by rw [hml]; rfl) (argsL := [(.ref bw1)]) (rest := []) (lenOf own_pd_285bD29D rfl) rfl (by show 2 * 0 + _ ≤ _; exact Nat.le_of_eq rfl) (hb hby at_140) (fun _ _ => ⟨rfl, ew10, (by decide : 1 + 0 ≤ _), (by decide : 9 + 0 ≤ _)⟩)
  dsimp only [Pt.U, Pt.locs, Pt.cells, Pt.slots] at Xw11 lw11 yw11 zw11 stw11 hQw11
  subst lw11 yw11 zw11
  obtain ⟨rfl, Nw11q, ew11⟩ := hQw11
  have Nw11 := Fr.app Nw10 Nw11q
  obtain ⟨fs, hr, hrun, hended, hW, hsame⟩ := Xw11.leave (v := some (.int (1 : Int32))) (fun h => by rw [Bd.returns] at h; cases h)
  refine ⟨_, _, pre0 _ ?_, hrun, hended, _, _, rfl, ?_, ⟨_, rfl⟩, hW, hsame.mono (by decide) (by decide)⟩
  · refine own_s_lloadN X0.here hx (hb hby at_0) (pc' := 1) rfl rfl ?_
    refine own_s_l2i X0.here hx (hb hby at_1) (pc' := 2) rfl (v := w_v1) w_hv1 ?_
    refine own_s_i2s X0.here hx (hb hby at_2) (pc' := 3) rfl (v := w_v2) w_hv2 ?_
    refine own_s_i2l X0.here hx (hb hby at_3) (pc' := 4) rfl (v := w_v3) w_hv3 ?_
    refine own_s_lstore X0.here hx (hb hby at_4) (pc' := 6) rfl (L' := #[.val (.long p0), .second, .val (.long p1), .second, .val (.long p2), .second, .val (.long w_v3), .second, .unset, .unset, .unset, .unset, .unset, .unset, .unset, .unset, .unset, .unset, .unset, .unset, .unset, .unset, .unset, .unset, .unset, .unset, .unset, .unset, .unset]) rfl ?_
    refine own_s_lloadN X0.here hx (hb hby at_6) (pc' := 7) rfl rfl ?_
    refine own_s_bipush X0.here hx (hb hby at_7) (pc' := 9) rfl (v := (16 : Int32)) (by decide) ?_
    refine own_s_lushr X0.here hx (hb hby at_9) (pc' := 10) rfl (v := w_v9) w_hv9 ?_
    refine own_s_l2i X0.here hx (hb hby at_10) (pc' := 11) rfl (v := w_v10) w_hv10 ?_
    refine own_s_i2s X0.here hx (hb hby at_11) (pc' := 12) rfl (v := w_v11) w_hv11 ?_
    refine own_s_i2l X0.here hx (hb hby at_12) (pc' := 13) rfl (v := w_v12) w_hv12 ?_
    refine own_s_lstore X0.here hx (hb hby at_13) (pc' := 15) rfl (L' := #[.val (.long p0), .second, .val (.long p1), .second, .val (.long p2), .second, .val (.long w_v3), .second, .val (.long w_v12), .second, .unset, .unset, .unset, .unset, .unset, .unset, .unset, .unset, .unset, .unset, .unset, .unset, .unset, .unset, .unset, .unset, .unset, .unset, .unset]) rfl ?_
    refine own_s_lloadN X0.here hx (hb hby at_15) (pc' := 16) rfl rfl ?_
    refine own_s_bipush X0.here hx (hb hby at_16) (pc' := 18) rfl (v := (32 : Int32)) (by decide) ?_
    refine own_s_lushr X0.here hx (hb hby at_18) (pc' := 19) rfl (v := w_v18) w_hv18 ?_
    refine own_s_l2i X0.here hx (hb hby at_19) (pc' := 20) rfl (v := w_v19) w_hv19 ?_
    refine own_s_i2s X0.here hx (hb hby at_20) (pc' := 21) rfl (v := w_v20) w_hv20 ?_
    refine own_s_i2l X0.here hx (hb hby at_21) (pc' := 22) rfl (v := w_v21) w_hv21 ?_
    refine own_s_lstore X0.here hx (hb hby at_22) (pc' := 24) rfl (L' := #[.val (.long p0), .second, .val (.long p1), .second, .val (.long p2), .second, .val (.long w_v3), .second, .val (.long w_v12), .second, .val (.long w_v21), .second, .unset, .unset, .unset, .unset, .unset, .unset, .unset, .unset, .unset, .unset, .unset, .unset, .unset, .unset, .unset, .unset, .unset]) rfl ?_
    refine own_s_lloadN X0.here hx (hb hby at_24) (pc' := 25) rfl rfl ?_
    refine own_s_l2i X0.here hx (hb hby at_25) (pc' := 26) rfl (v := w_v25) w_hv25 ?_
    refine own_s_i2s X0.here hx (hb hby at_26) (pc' := 27) rfl (v := w_v26) w_hv26 ?_
    refine own_s_i2l X0.here hx (hb hby at_27) (pc' := 28) rfl (v := w_v27) w_hv27 ?_
    refine own_s_lstore X0.here hx (hb hby at_28) (pc' := 30) rfl (L' := #[.val (.long p0), .second, .val (.long p1), .second, .val (.long p2), .second, .val (.long w_v3), .second, .val (.long w_v12), .second, .val (.long w_v21), .second, .val (.long w_v27), .second, .unset, .unset, .unset, .unset, .unset, .unset, .unset, .unset, .unset, .unset, .unset, .unset, .unset, .unset, .unset]) rfl ?_
    refine own_s_lloadN X0.here hx (hb hby at_30) (pc' := 31) rfl rfl ?_
    refine own_s_bipush X0.here hx (hb hby at_31) (pc' := 33) rfl (v := (16 : Int32)) (by decide) ?_
    refine own_s_lushr X0.here hx (hb hby at_33) (pc' := 34) rfl (v := w_v33) w_hv33 ?_
    refine own_s_l2i X0.here hx (hb hby at_34) (pc' := 35) rfl (v := w_v34) w_hv34 ?_
    refine own_s_i2s X0.here hx (hb hby at_35) (pc' := 36) rfl (v := w_v35) w_hv35 ?_
    refine own_s_i2l X0.here hx (hb hby at_36) (pc' := 37) rfl (v := w_v36) w_hv36 ?_
    refine own_s_lstore X0.here hx (hb hby at_37) (pc' := 39) rfl (L' := #[.val (.long p0), .second, .val (.long p1), .second, .val (.long p2), .second, .val (.long w_v3), .second, .val (.long w_v12), .second, .val (.long w_v21), .second, .val (.long w_v27), .second, .val (.long w_v36), .second, .unset, .unset, .unset, .unset, .unset, .unset, .unset, .unset, .unset, .unset, .unset, .unset, .unset]) rfl ?_
    refine own_s_lloadN X0.here hx (hb hby at_39) (pc' := 40) rfl rfl ?_
    refine own_s_bipush X0.here hx (hb hby at_40) (pc' := 42) rfl (v := (32 : Int32)) (by decide) ?_
    refine own_s_lushr X0.here hx (hb hby at_42) (pc' := 43) rfl (v := w_v42) w_hv42 ?_
    refine own_s_l2i X0.here hx (hb hby at_43) (pc' := 44) rfl (v := w_v43) w_hv43 ?_
    refine own_s_i2s X0.here hx (hb hby at_44) (pc' := 45) rfl (v := w_v44) w_hv44 ?_
    refine own_s_i2l X0.here hx (hb hby at_45) (pc' := 46) rfl (v := w_v45) w_hv45 ?_
    refine own_s_lstore X0.here hx (hb hby at_46) (pc' := 48) rfl (L' := #[.val (.long p0), .second, .val (.long p1), .second, .val (.long p2), .second, .val (.long w_v3), .second, .val (.long w_v12), .second, .val (.long w_v21), .second, .val (.long w_v27), .second, .val (.long w_v36), .second, .val (.long w_v45), .second, .unset, .unset, .unset, .unset, .unset, .unset, .unset, .unset, .unset, .unset, .unset]) rfl ?_
    refine own_s_lload X0.here hx (hb hby at_48) (pc' := 50) rfl rfl ?_
    refine own_s_l2i X0.here hx (hb hby at_50) (pc' := 51) rfl (v := w_v50) w_hv50 ?_
    refine own_s_i2s X0.here hx (hb hby at_51) (pc' := 52) rfl (v := w_v51) w_hv51 ?_
    refine own_s_i2l X0.here hx (hb hby at_52) (pc' := 53) rfl (v := w_v52) w_hv52 ?_
    refine own_s_lstore X0.here hx (hb hby at_53) (pc' := 55) rfl (L' := #[.val (.long p0), .second, .val (.long p1), .second, .val (.long p2), .second, .val (.long w_v3), .second, .val (.long w_v12), .second, .val (.long w_v21), .second, .val (.long w_v27), .second, .val (.long w_v36), .second, .val (.long w_v45), .second, .val (.long w_v52), .second, .unset, .unset, .unset, .unset, .unset, .unset, .unset, .unset, .unset]) rfl ?_
    refine own_s_lload X0.here hx (hb hby at_55) (pc' := 57) rfl rfl ?_
    refine own_s_bipush X0.here hx (hb hby at_57) (pc' := 59) rfl (v := (16 : Int32)) (by decide) ?_
    refine own_s_lushr X0.here hx (hb hby at_59) (pc' := 60) rfl (v := w_v59) w_hv59 ?_
    refine own_s_l2i X0.here hx (hb hby at_60) (pc' := 61) rfl (v := w_v60) w_hv60 ?_
    refine own_s_i2s X0.here hx (hb hby at_61) (pc' := 62) rfl (v := w_v61) w_hv61 ?_
    refine own_s_i2l X0.here hx (hb hby at_62) (pc' := 63) rfl (v := w_v62) w_hv62 ?_
    refine own_s_lstore X0.here hx (hb hby at_63) (pc' := 65) rfl (L' := #[.val (.long p0), .second, .val (.long p1), .second, .val (.long p2), .second, .val (.long w_v3), .second, .val (.long w_v12), .second, .val (.long w_v21), .second, .val (.long w_v27), .second, .val (.long w_v36), .second, .val (.long w_v45), .second, .val (.long w_v52), .second, .val (.long w_v62), .second, .unset, .unset, .unset, .unset, .unset, .unset, .unset]) rfl ?_
    refine own_s_lload X0.here hx (hb hby at_65) (pc' := 67) rfl rfl ?_
    refine own_s_bipush X0.here hx (hb hby at_67) (pc' := 69) rfl (v := (32 : Int32)) (by decide) ?_
    refine own_s_lushr X0.here hx (hb hby at_69) (pc' := 70) rfl (v := w_v69) w_hv69 ?_
    refine own_s_l2i X0.here hx (hb hby at_70) (pc' := 71) rfl (v := w_v70) w_hv70 ?_
    refine own_s_i2s X0.here hx (hb hby at_71) (pc' := 72) rfl (v := w_v71) w_hv71 ?_
    refine own_s_i2l X0.here hx (hb hby at_72) (pc' := 73) rfl (v := w_v72) w_hv72 ?_
    refine own_s_lstore X0.here hx (hb hby at_73) (pc' := 75) rfl (L' := #[.val (.long p0), .second, .val (.long p1), .second, .val (.long p2), .second, .val (.long w_v3), .second, .val (.long w_v12), .second, .val (.long w_v21), .second, .val (.long w_v27), .second, .val (.long w_v36), .second, .val (.long w_v45), .second, .val (.long w_v52), .second, .val (.long w_v62), .second, .val (.long w_v72), .second, .unset, .unset, .unset, .unset, .unset]) rfl ?_
    refine own_s_bipush X0.here hx (hb hby at_75) (pc' := 77) rfl (v := (9 : Int32)) (by decide) ?_
    refine stw1 _ ?_
    refine own_s_dup Xw1.here hx (hb hby at_79) (pc' := 80) rfl rfl ?_
    refine own_s_iconst Xw1.here hx (hb hby at_80) (pc' := 81) rfl (v := (0 : Int32)) (by decide) ?_
    refine own_s_lload Xw1.here hx (hb hby at_81) (pc' := 83) rfl rfl ?_
    refine own_s_l2d Xw1.here hx (hb hby at_83) (pc' := 84) rfl (v := (FP.l2d w_v3)) rfl ?_
    refine stw2 _ ?_
    refine own_s_dup Xw2.here hx (hb hby at_85) (pc' := 86) rfl rfl ?_
    refine own_s_iconst Xw2.here hx (hb hby at_86) (pc' := 87) rfl (v := (1 : Int32)) (by decide) ?_
    refine own_s_lload Xw2.here hx (hb hby at_87) (pc' := 89) rfl rfl ?_
    refine own_s_l2d Xw2.here hx (hb hby at_89) (pc' := 90) rfl (v := (FP.l2d w_v12)) rfl ?_
    refine stw3 _ ?_
    refine own_s_dup Xw3.here hx (hb hby at_91) (pc' := 92) rfl rfl ?_
    refine own_s_iconst Xw3.here hx (hb hby at_92) (pc' := 93) rfl (v := (2 : Int32)) (by decide) ?_
    refine own_s_lload Xw3.here hx (hb hby at_93) (pc' := 95) rfl rfl ?_
    refine own_s_l2d Xw3.here hx (hb hby at_95) (pc' := 96) rfl (v := (FP.l2d w_v21)) rfl ?_
    refine stw4 _ ?_
    refine own_s_dup Xw4.here hx (hb hby at_97) (pc' := 98) rfl rfl ?_
    refine own_s_iconst Xw4.here hx (hb hby at_98) (pc' := 99) rfl (v := (3 : Int32)) (by decide) ?_
    refine own_s_lload Xw4.here hx (hb hby at_99) (pc' := 101) rfl rfl ?_
    refine own_s_l2d Xw4.here hx (hb hby at_101) (pc' := 102) rfl (v := (FP.l2d w_v27)) rfl ?_
    refine stw5 _ ?_
    refine own_s_dup Xw5.here hx (hb hby at_103) (pc' := 104) rfl rfl ?_
    refine own_s_iconst Xw5.here hx (hb hby at_104) (pc' := 105) rfl (v := (4 : Int32)) (by decide) ?_
    refine own_s_lload Xw5.here hx (hb hby at_105) (pc' := 107) rfl rfl ?_
    refine own_s_l2d Xw5.here hx (hb hby at_107) (pc' := 108) rfl (v := (FP.l2d w_v36)) rfl ?_
    refine stw6 _ ?_
    refine own_s_dup Xw6.here hx (hb hby at_109) (pc' := 110) rfl rfl ?_
    refine own_s_iconst Xw6.here hx (hb hby at_110) (pc' := 111) rfl (v := (5 : Int32)) (by decide) ?_
    refine own_s_lload Xw6.here hx (hb hby at_111) (pc' := 113) rfl rfl ?_
    refine own_s_l2d Xw6.here hx (hb hby at_113) (pc' := 114) rfl (v := (FP.l2d w_v45)) rfl ?_
    refine stw7 _ ?_
    refine own_s_dup Xw7.here hx (hb hby at_115) (pc' := 116) rfl rfl ?_
    refine own_s_bipush Xw7.here hx (hb hby at_116) (pc' := 118) rfl (v := (6 : Int32)) (by decide) ?_
    refine own_s_lload Xw7.here hx (hb hby at_118) (pc' := 120) rfl rfl ?_
    refine own_s_l2d Xw7.here hx (hb hby at_120) (pc' := 121) rfl (v := (FP.l2d w_v52)) rfl ?_
    refine stw8 _ ?_
    refine own_s_dup Xw8.here hx (hb hby at_122) (pc' := 123) rfl rfl ?_
    refine own_s_bipush Xw8.here hx (hb hby at_123) (pc' := 125) rfl (v := (7 : Int32)) (by decide) ?_
    refine own_s_lload Xw8.here hx (hb hby at_125) (pc' := 127) rfl rfl ?_
    refine own_s_l2d Xw8.here hx (hb hby at_127) (pc' := 128) rfl (v := (FP.l2d w_v62)) rfl ?_
    refine stw9 _ ?_
    refine own_s_dup Xw9.here hx (hb hby at_129) (pc' := 130) rfl rfl ?_
    refine own_s_bipush Xw9.here hx (hb hby at_130) (pc' := 132) rfl (v := (8 : Int32)) (by decide) ?_
    refine own_s_lload Xw9.here hx (hb hby at_132) (pc' := 134) rfl rfl ?_
    refine own_s_l2d Xw9.here hx (hb hby at_134) (pc' := 135) rfl (v := (FP.l2d w_v72)) rfl ?_
    refine stw10 _ ?_
    refine own_s_astore Xw10.here hx (hb hby at_136) (pc' := 138) rfl rfl (L' := #[.val (.long p0), .second, .val (.long p1), .second, .val (.long p2), .second, .val (.long w_v3), .second, .val (.long w_v12), .second, .val (.long w_v21), .second, .val (.long w_v27), .second, .val (.long w_v36), .second, .val (.long w_v45), .second, .val (.long w_v52), .second, .val (.long w_v62), .second, .val (.long w_v72), .second, .val (.ref bw1), .unset, .unset, .unset, .unset]) rfl ?_
    refine own_s_aload Xw10.here hx (hb hby at_138) (pc' := 140) rfl rfl rfl ?_
    refine stw11 _ ?_
    show Steps p.tables e below (Tw11.setTop (mkF m 143 #[.val (.long p0), .second, .val (.long p1), .second, .val (.long p2), .second, .val (.long w_v3), .second, .val (.long w_v12), .second, .val (.long w_v21), .second, .val (.long w_v27), .second, .val (.long w_v36), .second, .val (.long w_v45), .second, .val (.long w_v52), .second, .val (.long w_v62), .second, .val (.long w_v72), .second, .val (.ref bw1), .unset, .unset, .unset, .unset] [(.double w_c140_c_v64)])) _
    refine own_s_dstore Xw11.here hx (hb hby at_143) (pc' := 145) rfl (L' := #[.val (.long p0), .second, .val (.long p1), .second, .val (.long p2), .second, .val (.long w_v3), .second, .val (.long w_v12), .second, .val (.long w_v21), .second, .val (.long w_v27), .second, .val (.long w_v36), .second, .val (.long w_v45), .second, .val (.long w_v52), .second, .val (.long w_v62), .second, .val (.long w_v72), .second, .val (.ref bw1), .val (.double w_c140_c_v64), .second, .unset, .unset]) rfl ?_
    refine own_s_lload Xw11.here hx (hb hby at_145) (pc' := 147) rfl rfl ?_
    refine own_s_lload Xw11.here hx (hb hby at_147) (pc' := 149) rfl rfl ?_
    refine own_s_lmul Xw11.here hx (hb hby at_149) (pc' := 150) rfl (v := w_v149) w_hv149 ?_
    refine own_s_lload Xw11.here hx (hb hby at_150) (pc' := 152) rfl rfl ?_
    refine own_s_lmul Xw11.here hx (hb hby at_152) (pc' := 153) rfl (v := w_v152) w_hv152 ?_
    refine own_s_lload Xw11.here hx (hb hby at_153) (pc' := 155) rfl rfl ?_
    refine own_s_lload Xw11.here hx (hb hby at_155) (pc' := 157) rfl rfl ?_
    refine own_s_lmul Xw11.here hx (hb hby at_157) (pc' := 158) rfl (v := w_v157) w_hv157 ?_
    refine own_s_lload Xw11.here hx (hb hby at_158) (pc' := 160) rfl rfl ?_
    refine own_s_lmul Xw11.here hx (hb hby at_160) (pc' := 161) rfl (v := w_v160) w_hv160 ?_
    refine own_s_ladd Xw11.here hx (hb hby at_161) (pc' := 162) rfl (v := w_v161) w_hv161 ?_
    refine own_s_lload Xw11.here hx (hb hby at_162) (pc' := 164) rfl rfl ?_
    refine own_s_lload Xw11.here hx (hb hby at_164) (pc' := 166) rfl rfl ?_
    refine own_s_lmul Xw11.here hx (hb hby at_166) (pc' := 167) rfl (v := w_v166) w_hv166 ?_
    refine own_s_lload Xw11.here hx (hb hby at_167) (pc' := 169) rfl rfl ?_
    refine own_s_lmul Xw11.here hx (hb hby at_169) (pc' := 170) rfl (v := w_v169) w_hv169 ?_
    refine own_s_ladd Xw11.here hx (hb hby at_170) (pc' := 171) rfl (v := w_v170) w_hv170 ?_
    refine own_s_lload Xw11.here hx (hb hby at_171) (pc' := 173) rfl rfl ?_
    refine own_s_lload Xw11.here hx (hb hby at_173) (pc' := 175) rfl rfl ?_
    refine own_s_lmul Xw11.here hx (hb hby at_175) (pc' := 176) rfl (v := w_v175) w_hv175 ?_
    refine own_s_lload Xw11.here hx (hb hby at_176) (pc' := 178) rfl rfl ?_
    refine own_s_lmul Xw11.here hx (hb hby at_178) (pc' := 179) rfl (v := w_v178) w_hv178 ?_
    refine own_s_lsub Xw11.here hx (hb hby at_179) (pc' := 180) rfl (v := w_v179) w_hv179 ?_
    refine own_s_lload Xw11.here hx (hb hby at_180) (pc' := 182) rfl rfl ?_
    refine own_s_lload Xw11.here hx (hb hby at_182) (pc' := 184) rfl rfl ?_
    refine own_s_lmul Xw11.here hx (hb hby at_184) (pc' := 185) rfl (v := w_v184) w_hv184 ?_
    refine own_s_lload Xw11.here hx (hb hby at_185) (pc' := 187) rfl rfl ?_
    refine own_s_lmul Xw11.here hx (hb hby at_187) (pc' := 188) rfl (v := w_v187) w_hv187 ?_
    refine own_s_lsub Xw11.here hx (hb hby at_188) (pc' := 189) rfl (v := w_v188) w_hv188 ?_
    refine own_s_lload Xw11.here hx (hb hby at_189) (pc' := 191) rfl rfl ?_
    refine own_s_lload Xw11.here hx (hb hby at_191) (pc' := 193) rfl rfl ?_
    refine own_s_lmul Xw11.here hx (hb hby at_193) (pc' := 194) rfl (v := w_v193) w_hv193 ?_
    refine own_s_lload Xw11.here hx (hb hby at_194) (pc' := 196) rfl rfl ?_
    refine own_s_lmul Xw11.here hx (hb hby at_196) (pc' := 197) rfl (v := w_v196) w_hv196 ?_
    refine own_s_lsub Xw11.here hx (hb hby at_197) (pc' := 198) rfl (v := w_v197) w_hv197 ?_
    refine own_s_lstore Xw11.here hx (hb hby at_198) (pc' := 200) rfl (L' := #[.val (.long p0), .second, .val (.long p1), .second, .val (.long p2), .second, .val (.long w_v3), .second, .val (.long w_v12), .second, .val (.long w_v21), .second, .val (.long w_v27), .second, .val (.long w_v36), .second, .val (.long w_v45), .second, .val (.long w_v52), .second, .val (.long w_v62), .second, .val (.long w_v72), .second, .val (.ref bw1), .val (.double w_c140_c_v64), .second, .val (.long w_v197), .second]) rfl ?_
    refine own_s_dload Xw11.here hx (hb hby at_200) (pc' := 202) rfl rfl ?_
    refine own_s_lload Xw11.here hx (hb hby at_202) (pc' := 204) rfl rfl ?_
    refine own_s_l2d Xw11.here hx (hb hby at_204) (pc' := 205) rfl (v := (FP.l2d w_v197)) rfl ?_
    refine own_s_dcmp Xw11.here hx (hb hby at_205) (pc' := 206) rfl (v := (0 : Int32)) w_hc205 ?_
    refine own_s_ifNo Xw11.here hx (hb hby at_206) (pc' := 209) rfl (by decide) ?_
    refine own_s_iconst Xw11.here hx (hb hby at_209) (pc' := 210) rfl (v := (1 : Int32)) (by decide) ?_
    refine own_s_goto Xw11.here hx (hb hby at_210) (by decide) (pc' := 214) (by decide) ?_
    exact retN Xw11 hx (t := .boolean) Bd.returns (by simp) (hb hby at_214) hr
  · show own_Q0 n0 _ Tw11.heap _
    rw [ew11]
    exact ⟨rfl, Nw11⟩
set_option maxRecDepth 65536 in
set_option maxHeartbeats 40000000 in
theorem own_rm0 (l : Launch) (Z : State) (a0 : Array Value) (hw : ∀ d ∈ tables_1, d.before a0 Z = true) (ws : List Jvm.Cond) (p0 : Int64) (p1 : Int64) (p2 : Int64) (h0 : Heap) (n0 : Nat) (Z0 : n0 ≤ h0.size)  :
    MetFree l x (head1 (Jvm.Cond.code x code maxLocals ret :: ws) room_1) (fun a U => a = #[(.long p0), (.long p1), (.long p2)] ∧ Z.Warmed39 U.vm ∧ U.heap = h0) (fun _ _ _ _ _ => True) (fun _ U o U' => ∃ v L, o = .returned v ∧ own_Q0 n0 v U'.heap L ∧ FrameEnd U o U' L room_1.cells room_1.slots) := by
  obtain ⟨v1, hv1⟩ : ∃ v, Int64.toInt32 p0 = v := ⟨_, rfl⟩
  obtain ⟨v2, hv2⟩ : ∃ v, (Int32.toInt16 v1).toInt32 = v := ⟨_, rfl⟩
  have L_v2 : own_I v2 v2.toInt 32768 := by have := c_i2s v1; rw [hv2] at this; exact ⟨rfl, by omega, by omega⟩
  obtain ⟨v3, hv3⟩ : ∃ v, Int32.toInt64 v2 = v := ⟨_, rfl⟩
  have L_v3 := own_Ii2l hv3 L_v2
  obtain ⟨v9, hv9⟩ : ∃ v, (Int64.toUInt64 p0 >>> ((16 : Int32) &&& 63).toInt64.toUInt64).toInt64 = v := ⟨_, rfl⟩
  obtain ⟨v10, hv10⟩ : ∃ v, Int64.toInt32 v9 = v := ⟨_, rfl⟩
  obtain ⟨v11, hv11⟩ : ∃ v, (Int32.toInt16 v10).toInt32 = v := ⟨_, rfl⟩
  have L_v11 : own_I v11 v11.toInt 32768 := by have := c_i2s v10; rw [hv11] at this; exact ⟨rfl, by omega, by omega⟩
  obtain ⟨v12, hv12⟩ : ∃ v, Int32.toInt64 v11 = v := ⟨_, rfl⟩
  have L_v12 := own_Ii2l hv12 L_v11
  obtain ⟨v18, hv18⟩ : ∃ v, (Int64.toUInt64 p0 >>> ((32 : Int32) &&& 63).toInt64.toUInt64).toInt64 = v := ⟨_, rfl⟩
  obtain ⟨v19, hv19⟩ : ∃ v, Int64.toInt32 v18 = v := ⟨_, rfl⟩
  obtain ⟨v20, hv20⟩ : ∃ v, (Int32.toInt16 v19).toInt32 = v := ⟨_, rfl⟩
  have L_v20 : own_I v20 v20.toInt 32768 := by have := c_i2s v19; rw [hv20] at this; exact ⟨rfl, by omega, by omega⟩
  obtain ⟨v21, hv21⟩ : ∃ v, Int32.toInt64 v20 = v := ⟨_, rfl⟩
  have L_v21 := own_Ii2l hv21 L_v20
  obtain ⟨v25, hv25⟩ : ∃ v, Int64.toInt32 p1 = v := ⟨_, rfl⟩
  obtain ⟨v26, hv26⟩ : ∃ v, (Int32.toInt16 v25).toInt32 = v := ⟨_, rfl⟩
  have L_v26 : own_I v26 v26.toInt 32768 := by have := c_i2s v25; rw [hv26] at this; exact ⟨rfl, by omega, by omega⟩
  obtain ⟨v27, hv27⟩ : ∃ v, Int32.toInt64 v26 = v := ⟨_, rfl⟩
  have L_v27 := own_Ii2l hv27 L_v26
  obtain ⟨v33, hv33⟩ : ∃ v, (Int64.toUInt64 p1 >>> ((16 : Int32) &&& 63).toInt64.toUInt64).toInt64 = v := ⟨_, rfl⟩
  obtain ⟨v34, hv34⟩ : ∃ v, Int64.toInt32 v33 = v := ⟨_, rfl⟩
  obtain ⟨v35, hv35⟩ : ∃ v, (Int32.toInt16 v34).toInt32 = v := ⟨_, rfl⟩
  have L_v35 : own_I v35 v35.toInt 32768 := by have := c_i2s v34; rw [hv35] at this; exact ⟨rfl, by omega, by omega⟩
  obtain ⟨v36, hv36⟩ : ∃ v, Int32.toInt64 v35 = v := ⟨_, rfl⟩
  have L_v36 := own_Ii2l hv36 L_v35
  obtain ⟨v42, hv42⟩ : ∃ v, (Int64.toUInt64 p1 >>> ((32 : Int32) &&& 63).toInt64.toUInt64).toInt64 = v := ⟨_, rfl⟩
  obtain ⟨v43, hv43⟩ : ∃ v, Int64.toInt32 v42 = v := ⟨_, rfl⟩
  obtain ⟨v44, hv44⟩ : ∃ v, (Int32.toInt16 v43).toInt32 = v := ⟨_, rfl⟩
  have L_v44 : own_I v44 v44.toInt 32768 := by have := c_i2s v43; rw [hv44] at this; exact ⟨rfl, by omega, by omega⟩
  obtain ⟨v45, hv45⟩ : ∃ v, Int32.toInt64 v44 = v := ⟨_, rfl⟩
  have L_v45 := own_Ii2l hv45 L_v44
  obtain ⟨v50, hv50⟩ : ∃ v, Int64.toInt32 p2 = v := ⟨_, rfl⟩
  obtain ⟨v51, hv51⟩ : ∃ v, (Int32.toInt16 v50).toInt32 = v := ⟨_, rfl⟩
  have L_v51 : own_I v51 v51.toInt 32768 := by have := c_i2s v50; rw [hv51] at this; exact ⟨rfl, by omega, by omega⟩
  obtain ⟨v52, hv52⟩ : ∃ v, Int32.toInt64 v51 = v := ⟨_, rfl⟩
  have L_v52 := own_Ii2l hv52 L_v51
  obtain ⟨v59, hv59⟩ : ∃ v, (Int64.toUInt64 p2 >>> ((16 : Int32) &&& 63).toInt64.toUInt64).toInt64 = v := ⟨_, rfl⟩
  obtain ⟨v60, hv60⟩ : ∃ v, Int64.toInt32 v59 = v := ⟨_, rfl⟩
  obtain ⟨v61, hv61⟩ : ∃ v, (Int32.toInt16 v60).toInt32 = v := ⟨_, rfl⟩
  have L_v61 : own_I v61 v61.toInt 32768 := by have := c_i2s v60; rw [hv61] at this; exact ⟨rfl, by omega, by omega⟩
  obtain ⟨v62, hv62⟩ : ∃ v, Int32.toInt64 v61 = v := ⟨_, rfl⟩
  have L_v62 := own_Ii2l hv62 L_v61
  obtain ⟨v69, hv69⟩ : ∃ v, (Int64.toUInt64 p2 >>> ((32 : Int32) &&& 63).toInt64.toUInt64).toInt64 = v := ⟨_, rfl⟩
  obtain ⟨v70, hv70⟩ : ∃ v, Int64.toInt32 v69 = v := ⟨_, rfl⟩
  obtain ⟨v71, hv71⟩ : ∃ v, (Int32.toInt16 v70).toInt32 = v := ⟨_, rfl⟩
  have L_v71 : own_I v71 v71.toInt 32768 := by have := c_i2s v70; rw [hv71] at this; exact ⟨rfl, by omega, by omega⟩
  obtain ⟨v72, hv72⟩ : ∃ v, Int32.toInt64 v71 = v := ⟨_, rfl⟩
  have L_v72 := own_Ii2l hv72 L_v71
  obtain ⟨c140_c_v10, c140_c_hv10⟩ : ∃ v, FP.dmul (FP.l2d v36) (FP.l2d v72) = v := ⟨_, rfl⟩
  have Id1 : own_B (FP.l2d v36) (v35.toInt) 0 32768 := own_Bl2d L_v36 (by decide)
  have Id2 : own_B (FP.l2d v72) (v71.toInt) 0 32768 := own_Bl2d L_v72 (by decide)
  have J3 : own_B (FP.dmul (FP.l2d v36) (FP.l2d v72)) ((v35.toInt) * (v71.toInt)) (0) 1073741824 := own_Bcast (own_Bmul Id1 Id2 (by decide)) rfl (by decide) (by decide)
  have J3n := J3.nn
  rw [c140_c_hv10] at J3
  obtain ⟨c140_c_v18, c140_c_hv18⟩ : ∃ v, FP.dmul (FP.l2d v45) (FP.l2d v62) = v := ⟨_, rfl⟩
  have Id4 : own_B (FP.l2d v45) (v44.toInt) 0 32768 := own_Bl2d L_v45 (by decide)
  have Id5 : own_B (FP.l2d v62) (v61.toInt) 0 32768 := own_Bl2d L_v62 (by decide)
  have J6 : own_B (FP.dmul (FP.l2d v45) (FP.l2d v62)) ((v44.toInt) * (v61.toInt)) (0) 1073741824 := own_Bcast (own_Bmul Id4 Id5 (by decide)) rfl (by decide) (by decide)
  have J6n := J6.nn
  rw [c140_c_hv18] at J6
  obtain ⟨c140_c_v19, c140_c_hv19⟩ : ∃ v, FP.dsub c140_c_v10 c140_c_v18 = v := ⟨_, rfl⟩
  have J7 : own_B (FP.dsub c140_c_v10 c140_c_v18) (((v35.toInt) * (v71.toInt)) - (((v44.toInt) * (v61.toInt)))) (0) 2147483648 := own_Bcast (own_Bsub J3 J6 (by decide)) rfl (by decide) (by decide)
  have J7n := J7.nn
  rw [c140_c_hv19] at J7
  obtain ⟨c140_c_v20, c140_c_hv20⟩ : ∃ v, FP.dmul (FP.l2d v3) c140_c_v19 = v := ⟨_, rfl⟩
  have Id8 : own_B (FP.l2d v3) (v2.toInt) 0 32768 := own_Bl2d L_v3 (by decide)
  have J9 : own_B (FP.dmul (FP.l2d v3) c140_c_v19) ((v2.toInt) * ((((v35.toInt) * (v71.toInt)) - (((v44.toInt) * (v61.toInt)))))) (0) 70368744177664 := own_Bcast (own_Bmul Id8 J7 (by decide)) rfl (by decide) (by decide)
  have J9n := J9.nn
  rw [c140_c_hv20] at J9
  obtain ⟨c140_c_v31, c140_c_hv31⟩ : ∃ v, FP.dmul (FP.l2d v27) (FP.l2d v72) = v := ⟨_, rfl⟩
  have Id10 : own_B (FP.l2d v27) (v26.toInt) 0 32768 := own_Bl2d L_v27 (by decide)
  have J11 : own_B (FP.dmul (FP.l2d v27) (FP.l2d v72)) ((v26.toInt) * (v71.toInt)) (0) 1073741824 := own_Bcast (own_Bmul Id10 Id2 (by decide)) rfl (by decide) (by decide)
  have J11n := J11.nn
  rw [c140_c_hv31] at J11
  obtain ⟨c140_c_v39, c140_c_hv39⟩ : ∃ v, FP.dmul (FP.l2d v45) (FP.l2d v52) = v := ⟨_, rfl⟩
  have Id12 : own_B (FP.l2d v52) (v51.toInt) 0 32768 := own_Bl2d L_v52 (by decide)
  have J13 : own_B (FP.dmul (FP.l2d v45) (FP.l2d v52)) ((v44.toInt) * (v51.toInt)) (0) 1073741824 := own_Bcast (own_Bmul Id4 Id12 (by decide)) rfl (by decide) (by decide)
  have J13n := J13.nn
  rw [c140_c_hv39] at J13
  obtain ⟨c140_c_v40, c140_c_hv40⟩ : ∃ v, FP.dsub c140_c_v31 c140_c_v39 = v := ⟨_, rfl⟩
  have J14 : own_B (FP.dsub c140_c_v31 c140_c_v39) (((v26.toInt) * (v71.toInt)) - (((v44.toInt) * (v51.toInt)))) (0) 2147483648 := own_Bcast (own_Bsub J11 J13 (by decide)) rfl (by decide) (by decide)
  have J14n := J14.nn
  rw [c140_c_hv40] at J14
  obtain ⟨c140_c_v41, c140_c_hv41⟩ : ∃ v, FP.dmul (FP.l2d v12) c140_c_v40 = v := ⟨_, rfl⟩
  have Id15 : own_B (FP.l2d v12) (v11.toInt) 0 32768 := own_Bl2d L_v12 (by decide)
  have J16 : own_B (FP.dmul (FP.l2d v12) c140_c_v40) ((v11.toInt) * ((((v26.toInt) * (v71.toInt)) - (((v44.toInt) * (v51.toInt)))))) (0) 70368744177664 := own_Bcast (own_Bmul Id15 J14 (by decide)) rfl (by decide) (by decide)
  have J16n := J16.nn
  rw [c140_c_hv41] at J16
  obtain ⟨c140_c_v42, c140_c_hv42⟩ : ∃ v, FP.dsub c140_c_v20 c140_c_v41 = v := ⟨_, rfl⟩
  have J17 : own_B (FP.dsub c140_c_v20 c140_c_v41) (((v2.toInt) * ((((v35.toInt) * (v71.toInt)) - (((v44.toInt) * (v61.toInt)))))) - (((v11.toInt) * ((((v26.toInt) * (v71.toInt)) - (((v44.toInt) * (v51.toInt)))))))) (0) 140737488355328 := own_Bcast (own_Bsub J9 J16 (by decide)) rfl (by decide) (by decide)
  have J17n := J17.nn
  rw [c140_c_hv42] at J17
  obtain ⟨c140_c_v53, c140_c_hv53⟩ : ∃ v, FP.dmul (FP.l2d v27) (FP.l2d v62) = v := ⟨_, rfl⟩
  have J18 : own_B (FP.dmul (FP.l2d v27) (FP.l2d v62)) ((v26.toInt) * (v61.toInt)) (0) 1073741824 := own_Bcast (own_Bmul Id10 Id5 (by decide)) rfl (by decide) (by decide)
  have J18n := J18.nn
  rw [c140_c_hv53] at J18
  obtain ⟨c140_c_v61, c140_c_hv61⟩ : ∃ v, FP.dmul (FP.l2d v36) (FP.l2d v52) = v := ⟨_, rfl⟩
  have J19 : own_B (FP.dmul (FP.l2d v36) (FP.l2d v52)) ((v35.toInt) * (v51.toInt)) (0) 1073741824 := own_Bcast (own_Bmul Id1 Id12 (by decide)) rfl (by decide) (by decide)
  have J19n := J19.nn
  rw [c140_c_hv61] at J19
  obtain ⟨c140_c_v62, c140_c_hv62⟩ : ∃ v, FP.dsub c140_c_v53 c140_c_v61 = v := ⟨_, rfl⟩
  have J20 : own_B (FP.dsub c140_c_v53 c140_c_v61) (((v26.toInt) * (v61.toInt)) - (((v35.toInt) * (v51.toInt)))) (0) 2147483648 := own_Bcast (own_Bsub J18 J19 (by decide)) rfl (by decide) (by decide)
  have J20n := J20.nn
  rw [c140_c_hv62] at J20
  obtain ⟨c140_c_v63, c140_c_hv63⟩ : ∃ v, FP.dmul (FP.l2d v21) c140_c_v62 = v := ⟨_, rfl⟩
  have Id21 : own_B (FP.l2d v21) (v20.toInt) 0 32768 := own_Bl2d L_v21 (by decide)
  have J22 : own_B (FP.dmul (FP.l2d v21) c140_c_v62) ((v20.toInt) * ((((v26.toInt) * (v61.toInt)) - (((v35.toInt) * (v51.toInt)))))) (0) 70368744177664 := own_Bcast (own_Bmul Id21 J20 (by decide)) rfl (by decide) (by decide)
  have J22n := J22.nn
  rw [c140_c_hv63] at J22
  obtain ⟨c140_c_v64, c140_c_hv64⟩ : ∃ v, FP.dadd c140_c_v42 c140_c_v63 = v := ⟨_, rfl⟩
  have J23 : own_B (FP.dadd c140_c_v42 c140_c_v63) ((((v2.toInt) * ((((v35.toInt) * (v71.toInt)) - (((v44.toInt) * (v61.toInt)))))) - (((v11.toInt) * ((((v26.toInt) * (v71.toInt)) - (((v44.toInt) * (v51.toInt)))))))) + ((v20.toInt) * ((((v26.toInt) * (v61.toInt)) - (((v35.toInt) * (v51.toInt))))))) (0) 211106232532992 := own_Bcast (own_Badd J17 J22 (by decide)) rfl (by decide) (by decide)
  have J23n := J23.nn
  rw [c140_c_hv64] at J23
  obtain ⟨v149, hv149⟩ : ∃ v, v3 * v36 = v := ⟨_, rfl⟩
  have L_v149 : own_L v149 ((v2.toInt) * (v35.toInt)) 1073741824 := own_Lcast (own_Lmul hv149 L_v3 L_v36 (by decide)) rfl (by decide)
  obtain ⟨v152, hv152⟩ : ∃ v, v149 * v72 = v := ⟨_, rfl⟩
  have L_v152 : own_L v152 ((((v2.toInt) * (v35.toInt))) * (v71.toInt)) 35184372088832 := own_Lcast (own_Lmul hv152 L_v149 L_v72 (by decide)) rfl (by decide)
  obtain ⟨v157, hv157⟩ : ∃ v, v12 * v45 = v := ⟨_, rfl⟩
  have L_v157 : own_L v157 ((v11.toInt) * (v44.toInt)) 1073741824 := own_Lcast (own_Lmul hv157 L_v12 L_v45 (by decide)) rfl (by decide)
  obtain ⟨v160, hv160⟩ : ∃ v, v157 * v52 = v := ⟨_, rfl⟩
  have L_v160 : own_L v160 ((((v11.toInt) * (v44.toInt))) * (v51.toInt)) 35184372088832 := own_Lcast (own_Lmul hv160 L_v157 L_v52 (by decide)) rfl (by decide)
  obtain ⟨v161, hv161⟩ : ∃ v, v152 + v160 = v := ⟨_, rfl⟩
  have L_v161 : own_L v161 ((((((v2.toInt) * (v35.toInt))) * (v71.toInt))) + (((((v11.toInt) * (v44.toInt))) * (v51.toInt)))) 70368744177664 := own_Lcast (own_Ladd hv161 L_v152 L_v160 (by decide)) rfl (by decide)
  obtain ⟨v166, hv166⟩ : ∃ v, v21 * v27 = v := ⟨_, rfl⟩
  have L_v166 : own_L v166 ((v20.toInt) * (v26.toInt)) 1073741824 := own_Lcast (own_Lmul hv166 L_v21 L_v27 (by decide)) rfl (by decide)
  obtain ⟨v169, hv169⟩ : ∃ v, v166 * v62 = v := ⟨_, rfl⟩
  have L_v169 : own_L v169 ((((v20.toInt) * (v26.toInt))) * (v61.toInt)) 35184372088832 := own_Lcast (own_Lmul hv169 L_v166 L_v62 (by decide)) rfl (by decide)
  obtain ⟨v170, hv170⟩ : ∃ v, v161 + v169 = v := ⟨_, rfl⟩
  have L_v170 : own_L v170 ((((((((v2.toInt) * (v35.toInt))) * (v71.toInt))) + (((((v11.toInt) * (v44.toInt))) * (v51.toInt))))) + (((((v20.toInt) * (v26.toInt))) * (v61.toInt)))) 105553116266496 := own_Lcast (own_Ladd hv170 L_v161 L_v169 (by decide)) rfl (by decide)
  obtain ⟨v175, hv175⟩ : ∃ v, v21 * v36 = v := ⟨_, rfl⟩
  have L_v175 : own_L v175 ((v20.toInt) * (v35.toInt)) 1073741824 := own_Lcast (own_Lmul hv175 L_v21 L_v36 (by decide)) rfl (by decide)
  obtain ⟨v178, hv178⟩ : ∃ v, v175 * v52 = v := ⟨_, rfl⟩
  have L_v178 : own_L v178 ((((v20.toInt) * (v35.toInt))) * (v51.toInt)) 35184372088832 := own_Lcast (own_Lmul hv178 L_v175 L_v52 (by decide)) rfl (by decide)
  obtain ⟨v179, hv179⟩ : ∃ v, v170 - v178 = v := ⟨_, rfl⟩
  have L_v179 : own_L v179 ((((((((((v2.toInt) * (v35.toInt))) * (v71.toInt))) + (((((v11.toInt) * (v44.toInt))) * (v51.toInt))))) + (((((v20.toInt) * (v26.toInt))) * (v61.toInt))))) - (((((v20.toInt) * (v35.toInt))) * (v51.toInt)))) 140737488355328 := own_Lcast (own_Lsub hv179 L_v170 L_v178 (by decide)) rfl (by decide)
  obtain ⟨v184, hv184⟩ : ∃ v, v12 * v27 = v := ⟨_, rfl⟩
  have L_v184 : own_L v184 ((v11.toInt) * (v26.toInt)) 1073741824 := own_Lcast (own_Lmul hv184 L_v12 L_v27 (by decide)) rfl (by decide)
  obtain ⟨v187, hv187⟩ : ∃ v, v184 * v72 = v := ⟨_, rfl⟩
  have L_v187 : own_L v187 ((((v11.toInt) * (v26.toInt))) * (v71.toInt)) 35184372088832 := own_Lcast (own_Lmul hv187 L_v184 L_v72 (by decide)) rfl (by decide)
  obtain ⟨v188, hv188⟩ : ∃ v, v179 - v187 = v := ⟨_, rfl⟩
  have L_v188 : own_L v188 ((((((((((((v2.toInt) * (v35.toInt))) * (v71.toInt))) + (((((v11.toInt) * (v44.toInt))) * (v51.toInt))))) + (((((v20.toInt) * (v26.toInt))) * (v61.toInt))))) - (((((v20.toInt) * (v35.toInt))) * (v51.toInt))))) - (((((v11.toInt) * (v26.toInt))) * (v71.toInt)))) 175921860444160 := own_Lcast (own_Lsub hv188 L_v179 L_v187 (by decide)) rfl (by decide)
  obtain ⟨v193, hv193⟩ : ∃ v, v3 * v45 = v := ⟨_, rfl⟩
  have L_v193 : own_L v193 ((v2.toInt) * (v44.toInt)) 1073741824 := own_Lcast (own_Lmul hv193 L_v3 L_v45 (by decide)) rfl (by decide)
  obtain ⟨v196, hv196⟩ : ∃ v, v193 * v62 = v := ⟨_, rfl⟩
  have L_v196 : own_L v196 ((((v2.toInt) * (v44.toInt))) * (v61.toInt)) 35184372088832 := own_Lcast (own_Lmul hv196 L_v193 L_v62 (by decide)) rfl (by decide)
  obtain ⟨v197, hv197⟩ : ∃ v, v188 - v196 = v := ⟨_, rfl⟩
  have L_v197 : own_L v197 ((((((((((((((v2.toInt) * (v35.toInt))) * (v71.toInt))) + (((((v11.toInt) * (v44.toInt))) * (v51.toInt))))) + (((((v20.toInt) * (v26.toInt))) * (v61.toInt))))) - (((((v20.toInt) * (v35.toInt))) * (v51.toInt))))) - (((((v11.toInt) * (v26.toInt))) * (v71.toInt))))) - (((((v2.toInt) * (v44.toInt))) * (v61.toInt)))) 211106232532992 := own_Lcast (own_Lsub hv197 L_v188 L_v196 (by decide)) rfl (by decide)
  have Id24 : own_B (FP.l2d v197) (((((((((((((((v2.toInt) * (v35.toInt))) * (v71.toInt))) + (((((v11.toInt) * (v44.toInt))) * (v51.toInt))))) + (((((v20.toInt) * (v26.toInt))) * (v61.toInt))))) - (((((v20.toInt) * (v35.toInt))) * (v51.toInt))))) - (((((v11.toInt) * (v26.toInt))) * (v71.toInt))))) - (((((v2.toInt) * (v44.toInt))) * (v61.toInt))))) 0 211106232532992 := own_Bl2d L_v197 (by decide)
  exact own_rm_w l Z a0 hw ws p0 p1 p2 h0 n0 Z0 (w_hv1 := hv1) (w_hv2 := hv2) (w_hv3 := hv3) (w_hv9 := hv9) (w_hv10 := hv10) (w_hv11 := hv11) (w_hv12 := hv12) (w_hv18 := hv18) (w_hv19 := hv19) (w_hv20 := hv20) (w_hv21 := hv21) (w_hv25 := hv25) (w_hv26 := hv26) (w_hv27 := hv27) (w_hv33 := hv33) (w_hv34 := hv34) (w_hv35 := hv35) (w_hv36 := hv36) (w_hv42 := hv42) (w_hv43 := hv43) (w_hv44 := hv44) (w_hv45 := hv45) (w_hv50 := hv50) (w_hv51 := hv51) (w_hv52 := hv52) (w_hv59 := hv59) (w_hv60 := hv60) (w_hv61 := hv61) (w_hv62 := hv62) (w_hv69 := hv69) (w_hv70 := hv70) (w_hv71 := hv71) (w_hv72 := hv72) (w_c140_c_hn10 := J3n) (w_c140_c_hv10 := c140_c_hv10) (w_c140_c_hn18 := J6n) (w_c140_c_hv18 := c140_c_hv18) (w_c140_c_hn19 := J7n) (w_c140_c_hv19 := c140_c_hv19) (w_c140_c_hn20 := J9n) (w_c140_c_hv20 := c140_c_hv20) (w_c140_c_hn31 := J11n) (w_c140_c_hv31 := c140_c_hv31) (w_c140_c_hn39 := J13n) (w_c140_c_hv39 := c140_c_hv39) (w_c140_c_hn40 := J14n) (w_c140_c_hv40 := c140_c_hv40) (w_c140_c_hn41 := J16n) (w_c140_c_hv41 := c140_c_hv41) (w_c140_c_hn42 := J17n) (w_c140_c_hv42 := c140_c_hv42) (w_c140_c_hn53 := J18n) (w_c140_c_hv53 := c140_c_hv53) (w_c140_c_hn61 := J19n) (w_c140_c_hv61 := c140_c_hv61) (w_c140_c_hn62 := J20n) (w_c140_c_hv62 := c140_c_hv62) (w_c140_c_hn63 := J22n) (w_c140_c_hv63 := c140_c_hv63) (w_c140_c_hn64 := J23n) (w_c140_c_hv64 := c140_c_hv64) (w_hv149 := hv149) (w_hv152 := hv152) (w_hv157 := hv157) (w_hv160 := hv160) (w_hv161 := hv161) (w_hv166 := hv166) (w_hv169 := hv169) (w_hv170 := hv170) (w_hv175 := hv175) (w_hv178 := hv178) (w_hv179 := hv179) (w_hv184 := hv184) (w_hv187 := hv187) (w_hv188 := hv188) (w_hv193 := hv193) (w_hv196 := hv196) (w_hv197 := hv197) (w_hc205 := (own_eq0 J23.is Id24.is (by grind) _))
set_option maxRecDepth 65536 in
set_option maxHeartbeats 40000000 in
theorem comes_1 {Post : Tables → Env → Array Value → State → Outcome → State → Prop} (hpost : ∀ tb e args s v u, (limb_1_1.after args s (.returned v) u = true ∧ limb_1_2.after args s (.returned v) u = true ∧ True) → FrameEnd s (.returned v) u (Jvm.fieldLocs frame_1_writes args s ++ Jvm.arrayLocs frame_1_arrays args s ++ Jvm.staticLocs frame_1_statics s) 16 128 → Post tb e args s (.returned v) u) :
    ArmFor flags0 classFile x code maxLocals ret World_1 tables_1 room_1 Calls_1 rest_1 Pre_1 Post := by
  intro l hfl _ _ p e ha hc hk s m args below hf hA hF happ hP
  obtain ⟨hcalls, hrest, hpre⟩ := hP
  obtain ⟨-, -, -, hnamed, -, -, -, hat⟩ := (Spec.applies_iff hf).mp happ
  obtain ⟨hg, hn⟩ := and_e (Cond.before_iff.mp (show (Jvm.Cond.and given_1 narrow_1).before args s = true from hpre))
  obtain ⟨hcount, g0⟩ := and_e hg
  obtain ⟨a0, g1⟩ := and_e g0
  obtain ⟨a1, g2⟩ := and_e g1
  have a2 := g2
  obtain ⟨w0, w1, w2, rfl⟩ : ∃ w0 w1 w2 : Value, args = #[w0, w1, w2] := by
    have hs : args.size = 3 := by simpa [Cond.value, given_1] using hcount
    obtain ⟨L⟩ := args
    match L, hs with
    | [w0, w1, w2], _ => exact ⟨w0, w1, w2, rfl⟩
  have hw := fun d (hd : d ∈ tables_1) => atoms_spec (ws := Jvm.Cond.code x code maxLocals ret :: tables_1) hat d (List.mem_cons_of_mem _ hd)
  obtain ⟨i0, ei0⟩ := isL_v a0
  obtain rfl : w0 = (.long i0) := Option.some.inj ei0
  obtain ⟨i1, ei1⟩ := isL_v a1
  obtain rfl : w1 = (.long i1) := Option.some.inj ei1
  obtain ⟨i2, ei2⟩ := isL_v a2
  obtain rfl : w2 = (.long i2) := Option.some.inj ei2
  obtain ⟨n, o, h1, h2, h3, _, L, rfl, ⟨rfl, N⟩, hq⟩ := own_rm0 l s _ hw tables_1 i0 i1 i2 s.heap s.heap.size (Nat.le_refl _)  p e ha hc hk s m _ below hf ((Spec.applies_iff_loose hf).mp happ).1 ⟨rfl, State.Warmed39.refl s, rfl⟩ trivial
  refine ⟨n, _, h1, h2, h3, hpost _ _ _ _ _ _ ⟨Cond.after_iff.mpr rfl, Cond.after_iff.mpr (eq_i res_at (Term.int_eval (1)) rfl), trivial⟩ ⟨hq.1, hq.2.1, (hq.2.2.sift fun y hy => Or.inr (N y hy)).mono (by decide) (by decide)⟩⟩
theorem main_1_1 : Claimed_1_1 := comes_1 fun _ _ _ _ _ _ h hF => ⟨h.1, hF⟩
theorem main_1_2 : Claimed_1_2 := comes_1 fun _ _ _ _ _ _ h hF => ⟨h.2.1, hF⟩
end Jvm.Pilot.@@N@@
namespace Jvm.Pilot.@@N@@
open Jvm Jvm.ClassFile Sem Op Lib Jvm.Free Jvm.Stand Jvm.Pilot.@@N@@.Jvm.D
/-! MADE BY PROGRAM (witnessworld.py) out of the Statement's table words and the real class files: 9 classes; the members and pool entries that the words name. The judged class is class 1, her method 1. -/
namespace start1
open Jvm.ClassFile
def u (s : String) : CpInfo := .utf8 (stringToUtf16 s)
/-- a pool by its gaps: so many unusable entries, then the entry; so many at the end -/
def gap : Nat → List CpInfo → List CpInfo
  | 0, r => r
  | n + 1, r => .unusable :: gap n r
def poolList (es : List (Nat × CpInfo)) (last : Nat) : List CpInfo := es.foldr (fun e r => gap e.1 (e.2 :: r)) (gap last [])
def pool (es : List (Nat × CpInfo)) (last : Nat) : Array CpInfo := ⟨poolList es last⟩
def fileOf (pool : Array CpInfo) (this : Nat) (attrs : Array Attribute := #[]) (ms : Array MethodInfo := #[]) (fl : Nat := 33) (sup : Nat := 0) (ifs : Array Nat := #[]) (fds : Array FieldInfo := #[]) : ClassFile where
  minorVersion := 0
  majorVersion := 65
  constantPool := pool
  accessFlags := fl
  thisClass := this
  superClass := sup
  interfaces := ifs
  fields := fds
  methods := ms
  attributes := attrs
def plain (name : String) (sup : Option ClassId) : Class where
  name := name
  kind := .ordinary
  loader := none
  accessFlags := 33
  super := sup
  interfaces := #[]
  cf := none
  fields := #[]
  methods := #[]
  instanceTypes := #[]
  staticTypes := #[]
  resolved := #[]
  callSites := []
  init := .initialized
  statics := none
  mirror := none

def pool0 : Array CpInfo := pool [(5, u "<init>"), (0, u "()V"), (1, .class_ 10), (1, u "java/lang/Object")] 113

def k0m0 : Method := { name := "<init>", desc := "()V", sig := { parameters := [], returnType := none }, accessFlags := 1, code := none }
/-- java/lang/Object -/
def k0 : Class := { plain "java/lang/Object" none with
  accessFlags := 33
  interfaces := #[]
  cf := some (fileOf pool0 8 #[] #[{ accessFlags := 1, nameIndex := 5, descriptorIndex := 6, attributes := #[] }] 33 0 #[] #[])
  fields := #[]
  methods := #[k0m0]
  instanceTypes := #[]
  staticTypes := #[]
  resolved := Array.replicate 124 none
  statics := none }

def pool1 : Array CpInfo := pool [(2, .class_ 4), (1, u "java/lang/Object"), (0, u "<init>"), (0, u "()V"), (0, .methodref 8 9), (0, .class_ 10), (0, .nameAndType 11 12), (0, u "com/example/pintrinsic/pintrinsic/Matrices"), (0, u "determinant"), (0, u "([D)D"), (0, .class_ 14), (0, u "com/example/pintrinsic/pintrinsic/MatricesDeterminantPinLaw"), (2, u "law"), (0, u "(JJJ)Z")] 5

def k1m0 : Method := { name := "<init>", desc := "()V", sig := { parameters := [], returnType := none }, accessFlags := 2, code := none }
def k1c1 : Code := { maxStack := 6, maxLocals := 29, code := code, exceptionTable := #[], attributes := #[] }
def k1m1 : Method := { name := "law", desc := "(JJJ)Z", sig := { parameters := [.long, .long, .long], returnType := some .boolean }, accessFlags := 9, code := some k1c1 }
/-- com/example/pintrinsic/pintrinsic/MatricesDeterminantPinLaw -/
def k1 : Class := { plain "com/example/pintrinsic/pintrinsic/MatricesDeterminantPinLaw" (some 0) with
  accessFlags := 49
  interfaces := #[]
  cf := some (fileOf pool1 13 #[] #[{ accessFlags := 2, nameIndex := 5, descriptorIndex := 6, attributes := #[] }, { accessFlags := 9, nameIndex := 17, descriptorIndex := 18, attributes := #[] }] 49 2 #[] #[])
  fields := #[]
  methods := #[k1m0, k1m1]
  instanceTypes := #[]
  staticTypes := #[]
  resolved := Array.replicate 24 none
  statics := none }

def pool2 : Array CpInfo := pool [(2, .class_ 4), (1, u "java/lang/Object"), (0, u "<init>"), (0, u "()V"), (1, .class_ 10), (1, u "com/example/pintrinsic/pintrinsic/Matrices"), (0, u "determinant"), (0, u "([D)D")] 14

def k2m0 : Method := { name := "<init>", desc := "()V", sig := { parameters := [], returnType := none }, accessFlags := 2, code := none }
def k2c1 : Code := { maxStack := 10, maxLocals := 1, code := prog_10_method_4_code, exceptionTable := #[], attributes := #[] }
def k2m1 : Method := { name := "determinant", desc := "([D)D", sig := { parameters := [(.array .double)], returnType := some .double }, accessFlags := 8, code := some k2c1 }
/-- com/example/pintrinsic/pintrinsic/Matrices -/
def k2 : Class := { plain "com/example/pintrinsic/pintrinsic/Matrices" (some 0) with
  accessFlags := 48
  interfaces := #[]
  cf := some (fileOf pool2 8 #[] #[{ accessFlags := 2, nameIndex := 5, descriptorIndex := 6, attributes := #[] }, { accessFlags := 8, nameIndex := 11, descriptorIndex := 12, attributes := #[] }] 48 2 #[] #[])
  fields := #[]
  methods := #[k2m0, k2m1]
  instanceTypes := #[]
  staticTypes := #[]
  resolved := Array.replicate 27 none
  statics := none }

def pool3 : Array CpInfo := pool [(1, u "java/lang/Cloneable"), (0, .class_ 1), (0, u "java/lang/Object"), (0, .class_ 3)] 3

/-- java/lang/Cloneable -/
def k3 : Class := { plain "java/lang/Cloneable" (some 0) with
  accessFlags := 1537
  interfaces := #[]
  cf := some (fileOf pool3 2 #[] #[] 1537 4 #[] #[])
  fields := #[]
  methods := #[]
  instanceTypes := #[]
  staticTypes := #[]
  resolved := Array.replicate 8 none
  statics := none }

def pool4 : Array CpInfo := pool [(1, u "java/io/Serializable"), (0, .class_ 1), (0, u "java/lang/Object"), (0, .class_ 3)] 3

/-- java/io/Serializable -/
def k4 : Class := { plain "java/io/Serializable" (some 0) with
  accessFlags := 1537
  interfaces := #[]
  cf := some (fileOf pool4 2 #[] #[] 1537 4 #[] #[])
  fields := #[]
  methods := #[]
  instanceTypes := #[]
  staticTypes := #[]
  resolved := Array.replicate 8 none
  statics := none }

/-- the primitive byte -/
def k5 : Class := { plain "byte" none with kind := .primitive 'B', accessFlags := 0x411 }
/-- [B -/
def k6 : Class := { plain "[B" (some 0) with kind := .array 5 .byte, interfaces := #[3, 4], accessFlags := 1041 }

/-- the primitive int -/
def k7 : Class := { plain "int" none with kind := .primitive 'I', accessFlags := 0x411 }
/-- [I -/
def k8 : Class := { plain "[I" (some 0) with kind := .array 7 .int, interfaces := #[3, 4], accessFlags := 1041 }

/-- the primitive double -/
def k9 : Class := { plain "double" none with kind := .primitive 'D', accessFlags := 0x411 }
/-- [D -/
def k10 : Class := { plain "[D" (some 0) with kind := .array 9 .double, interfaces := #[3, 4], accessFlags := 1041 }

def heap : Heap := #[]
def classes : Array Class := #[k0, k1, k2, k3, k4, k5, k6, k7, k8, k9, k10]
def interned : List (Array UInt16 × Addr) := []
def slotsUsed : Nat := 0
def theMethod : MethodId := ⟨1, 1⟩
def args0 : Array Value := #[.long 5, .long 7, .long 9]
def aboutOver (below : List Frame) : State where
  vm := { classes := classes, interned := interned.toArray }
  heap := heap
  slotsUsed := slotsUsed
  threads := #[{ frames := .invoking theMethod args0 :: below }]
def below0 : List Frame := [.native { method := ⟨0, 0⟩, args := #[] }]
def about1 : State := aboutOver below0
def p0 : Program := .bare "" "" ""
def e0 : Env := launch0.env 0 0 0
theorem w_frames : about1.frames = Frame.invoking theMethod args0 :: below0 := rfl
set_option maxRecDepth 65536 in
theorem w_args : argsFit about1.vm theMethod args0 = true := by decide +kernel
set_option maxRecDepth 65536 in
theorem w_heap : heapFits about1 = true := by decide +kernel
set_option maxRecDepth 65536 in
theorem w_runnable : about1.curStatus? = some .runnable := by decide +kernel
set_option maxRecDepth 65536 in
theorem w_alone : about1.alone = true := by decide +kernel
set_option maxRecDepth 65536 in
theorem w_named : about1.methodNamed? x = some theMethod := by decide +kernel
set_option maxRecDepth 65536 in
theorem w_hears : about1.hears theMethod below0 = true := by decide +kernel
set_option maxRecDepth 65536 in
theorem w_ripe : about1.ripe theMethod args0 below0 = true := by decide +kernel
theorem w_running : about1.status = .running := rfl
set_option maxRecDepth 65536 in
theorem w_room : about1.hasRoom e0.platform room_1 = true :=
  launch0.hasRoom_least _ room_1 (by decide +kernel) (by decide +kernel) (by decide +kernel) (by decide +kernel) (by decide +kernel) (by decide +kernel)
theorem allAtoms_all (ts : List Jvm.Cond) (a : Array Jvm.Value) (st : Jvm.State) : (allAtoms ts).before a st = ts.all (fun c => c.before a st) := by
  induction ts with
  | nil => rfl
  | cons c t ih =>
    show (Jvm.Cond.and c (allAtoms t)).before a st = _
    rw [Jvm.Cond.before_and, ih, List.all_cons]
def words1 : List Jvm.Cond := Jvm.Cond.code x code maxLocals ret :: tables_1
/-- a 'code' word, met by the world's own term for the bytes: nothing is compared byte by byte -/
theorem code_word {y : MethodName} {bytes : ByteArray} {mx : Nat} {rt : Option FieldType} {a : Array Value} {s : State} {m : MethodId} {meth : Method} {c : Code} (h1 : s.methodNamed? y = some m) (h2 : s.vm.method? m = some meth) (h3 : meth.code = some c) (h4 : c.code = bytes)
    (h5 : (c.maxLocals == mx && c.exceptionTable.isEmpty && decide (c.maxStack ≤ mostOperands) && decide (meth.sig.returnType = rt) && !meth.locks && decide (parseMethodDescriptor y.desc = some meth.sig)) = true) : (Jvm.Cond.code y bytes mx rt).before a s = true := by
  simp only [Bool.and_eq_true, beq_iff_eq, Bool.not_eq_true', decide_eq_true_eq] at h5
  obtain ⟨⟨⟨⟨⟨g1, g2⟩, g3⟩, g4⟩, g5⟩, g6⟩ := h5
  simp [Cond.before, Cond.holds, Cond.value, h1, h2, h3, h4, g1, g2, g3, g4, g5, g6]
def isCode : Jvm.Cond → Bool
  | .code _ _ _ _ => true
  | _ => false
theorem all_split {L : List Jvm.Cond} {P : Jvm.Cond → Bool} (h1 : L.all (fun c => isCode c || P c) = true) (h2 : ∀ c ∈ L.filter isCode, P c = true) : L.all P = true := by
  refine List.all_eq_true.mpr fun c hc => ?_
  have h := List.all_eq_true.mp h1 c hc
  rcases Bool.eq_false_or_eq_true (isCode c) with hi | hi
  · exact h2 c (List.mem_filter.mpr ⟨hc, hi⟩)
  · simpa [hi] using h
set_option maxRecDepth 65536 in
theorem w_c0 : (Jvm.Cond.code x code maxLocals ret).before args0 about1 = true := code_word (m := ⟨1, 1⟩) (meth := k1m1) (c := k1c1) (by decide +kernel) rfl rfl rfl (by decide +kernel)
set_option maxRecDepth 65536 in
theorem w_c1 : (Jvm.Cond.code ({ cls := "com/example/pintrinsic/pintrinsic/Matrices", name := "determinant", desc := "([D)D" } : Jvm.MethodName) prog_10_method_4_code (1 : Nat) (Option.some Jvm.ClassFile.FieldType.double)).before args0 about1 = true := code_word (m := ⟨2, 1⟩) (meth := k2m1) (c := k2c1) (by decide +kernel) rfl rfl rfl (by decide +kernel)
def codes1 : List Jvm.Cond := [Jvm.Cond.code x code maxLocals ret, Jvm.Cond.code ({ cls := "com/example/pintrinsic/pintrinsic/Matrices", name := "determinant", desc := "([D)D" } : Jvm.MethodName) prog_10_method_4_code (1 : Nat) (Option.some Jvm.ClassFile.FieldType.double)]
set_option maxRecDepth 65536 in
theorem codes_eq : words1.filter isCode = codes1 := rfl
theorem w_codes : ∀ c ∈ words1.filter isCode, c.before args0 about1 = true := by
  rw [codes_eq]
  intro c hc
  simp only [codes1, List.mem_cons, List.not_mem_nil, or_false] at hc
  rcases hc with rfl | rfl
  · exact w_c0
  · exact w_c1
set_option maxRecDepth 65536 in
theorem w_t1 : words1.all (fun c => isCode c || c.before args0 about1) = true := by decide +kernel
theorem w_tables : (allAtoms (Jvm.Cond.code x code maxLocals ret :: tables_1)).before args0 about1 = true := by
  rw [allAtoms_all]
  show words1.all (fun c => c.before args0 about1) = true
  refine all_split ?_ w_codes
  rw [w_t1]
set_option maxRecDepth 65536 in
theorem w_case : (Jvm.Cond.and given_1 narrow_1).before args0 about1 = true := by decide +kernel
theorem w_applies : (headSpec (Jvm.Cond.code x code maxLocals ret :: tables_1) room_1).applies x e0.platform about1 = true :=
  (Spec.applies_iff w_frames).mpr ⟨w_running, w_runnable, w_alone, w_named, w_hears, w_ripe, w_room, w_tables⟩
theorem atStart : AtStart classFile x code maxLocals ret World_1 tables_1 room_1 Calls_1 rest_1 Pre_1 launch0 p0 e0 about1 theMethod args0 below0 :=
  ⟨lists_1, trivial, launch0.admits_env _ _ _, launch0.least_env, fairChoices_fair.cas, fairChoices_fair.clock, w_frames, w_args, w_heap, w_applies, trivial, trivial, w_case⟩
end start1
theorem witness_1 : WitnessClaimed_1 := ⟨start1.p0, start1.e0, start1.about1, start1.theMethod, start1.args0, start1.below0, start1.atStart⟩
end Jvm.Pilot.@@N@@
