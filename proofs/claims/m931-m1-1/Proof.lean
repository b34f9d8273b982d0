import JvmDerived
import JvmDerived.Pilot.@@N@@Statement
import JvmDerived.Pilot.@@N@@Code
set_option linter.unusedVariables false
set_option linter.unusedSimpArgs false
namespace Jvm.Pilot.@@N@@
section OwnFP
open Jvm.FP.Core
/-! Exact doubles: own_Is x n e says that the double x is finite and worth n * 2^e. -/
def own_Is (x : UInt64) (n : Int) (e : Int) : Prop := DFin x ∧ -1074 ≤ e ∧ zval b64 (val64 x) = n * ((2 ^ (e + 1074).toNat : Nat) : Int)
theorem own_qmax : b64.qmax = 971 := by decide
theorem own_pp : b64.p = 53 := rfl
theorem own_powc {a b u v : Nat} (h : a * 2 ^ u = b * 2 ^ v) {w : Int} (hw : w = (u : Int) - v) : a * 2 ^ w.toNat = b * 2 ^ (-w).toNat := by
  subst hw
  have hu : u = ((u : Int) - v).toNat + min u v := by omega
  have hv : v = (-((u : Int) - v)).toNat + min u v := by omega
  have h2 : a * 2 ^ (((u : Int) - v).toNat + min u v) = b * 2 ^ ((-((u : Int) - v)).toNat + min u v) := by rw [← hu, ← hv]; exact h
  rw [Nat.pow_add, Nat.pow_add, ← Nat.mul_assoc, ← Nat.mul_assoc] at h2
  exact Nat.eq_of_mul_eq_mul_right (Nat.two_pow_pos _) h2
theorem own_signed_abs (s : Bool) (c : Nat) : (signed s c).natAbs = c := by cases s <;> simp [signed]
theorem own_signed_mul (s t : Bool) (c d : Nat) : signed (s != t) (c * d) = signed s c * signed t d := by
  cases s <;> cases t <;> simp [signed, Int.natCast_mul, Int.neg_mul, Int.mul_neg]
theorem own_signed_scale (s : Bool) (c d : Nat) : signed s (c * d) = signed s c * (d : Int) := by cases s <;> simp [signed, Int.natCast_mul, Int.neg_mul]
theorem own_round {s : Bool} {c : Nat} {q : Int} {M : Nat} {e : Int} (h2 : -2148 ≤ q) (hM : M < 9007199254740992) (he1 : -1074 ≤ e) (he2 : e ≤ 971) (h : inUnits c q (-2148) = M * 2 ^ (e + 2148).toNat) :
    ∃ c' q', round b64 (.fin s c q) = .fin s c' q' ∧ inUnits c' q' b64.qmin = M * 2 ^ (e + 1074).toNat := by
  have hq : b64.qmin = -1074 := qmin_b64
  obtain ⟨c', q', h1, h3⟩ := round_exact good_b64 s (c := M) (q := e) (show M < 2 ^ 53 from hM) (by rw [hq]; omega) (by rw [own_qmax]; omega)
  refine ⟨c', q', ?_, ?_⟩
  · rw [← h1]
    show roundRatio b64 s c 1 q = roundRatio b64 s M 1 e
    refine roundRatio_congr (by decide) (by decide) ?_
    unfold inUnits at h
    have h4 := own_powc (u := (q - -2148).toNat) (v := (e + 2148).toNat) h (w := q - e) (by omega)
    rw [Nat.mul_one, Nat.mul_one, h4, show -(q - e) = e - q by omega]
  · rw [h3]; unfold inUnits; rw [hq, show e - -1074 = e + 1074 by omega]
theorem own_fin_split {x : UInt64} {n e : Int} (h : own_Is x n e) : ∃ s c q, val64 x = .fin s c q ∧ Jvm.FP.Core.fits b64 (.fin s c q) ∧ signed s (inUnits c q b64.qmin) = n * ((2 ^ (e + 1074).toNat : Nat) : Int) ∧ -1074 ≤ q := by
  obtain ⟨⟨s, c, q, hv⟩, he, hz⟩ := h
  have hf := val64_fits x
  rw [hv] at hf hz
  have := hf.2.1
  rw [qmin_b64] at this
  exact ⟨s, c, q, hv, hf, hz, this⟩
theorem own_Is_of {x : UInt64} {s : Bool} {c : Nat} {q n e : Int} (hv : val64 x = .fin s c q) (he : -1074 ≤ e) (h : signed s (inUnits c q b64.qmin) = n * ((2 ^ (e + 1074).toNat : Nat) : Int)) : own_Is x n e :=
  ⟨⟨s, c, q, hv⟩, he, by rw [hv]; exact h⟩
theorem own_sum {s : Bool} {c : Nat} {q n e : Int} (hq : -1074 ≤ q) (hn : n.natAbs < 9007199254740992) (he1 : -1074 ≤ e) (he2 : e ≤ 971) (h : signed s (inUnits c q b64.qmin) = n * ((2 ^ (e + 1074).toNat : Nat) : Int)) :
    ∃ c' q', round b64 (.fin s c q) = .fin s c' q' ∧ signed s (inUnits c' q' b64.qmin) = n * ((2 ^ (e + 1074).toNat : Nat) : Int) := by
  have h1 : inUnits c q b64.qmin = n.natAbs * 2 ^ (e + 1074).toNat := by
    rw [← own_signed_abs s (inUnits c q b64.qmin), h, Int.natAbs_mul, Int.natAbs_natCast]
  have h2 : inUnits c q (-2148) = n.natAbs * 2 ^ (e + 2148).toNat := by
    rw [inUnits_move c (r := b64.qmin) (by rw [qmin_b64]; omega) (by rw [qmin_b64]; omega), h1, qmin_b64, Nat.mul_assoc, ← Nat.pow_add]
    congr 2; omega
  obtain ⟨c', q', h3, h4⟩ := own_round (s := s) (by omega) hn he1 he2 h2
  exact ⟨c', q', h3, by rw [h4, ← h1, h]⟩
theorem own_add {x y : UInt64} {m n e : Int} (hx : own_Is x m e) (hy : own_Is y n e) (he : e ≤ 971) (hb : (m + n).natAbs < 9007199254740992) : own_Is (dadd x y) (m + n) e := by
  have he1 := hx.2.1
  obtain ⟨s, c, q, vx, fx, zx, -⟩ := own_fin_split hx
  obtain ⟨t, d, r, vy, fy, zy, -⟩ := own_fin_split hy
  obtain ⟨sg, N, E, h1, h2, h3⟩ := sum_units fx fy
  have h4 : signed sg (inUnits N E b64.qmin) = (m + n) * ((2 ^ (e + 1074).toNat : Nat) : Int) := by
    rw [h3, Int.add_mul, ← zx, ← zy]; rfl
  obtain ⟨c', q', h5, h6⟩ := own_sum (by rw [qmin_b64] at h2; exact h2) hb he1 he h4
  exact own_Is_of (by rw [val64_dadd, vx, vy, h1, h5]) he1 h6
theorem own_sub {x y : UInt64} {m n e : Int} (hx : own_Is x m e) (hy : own_Is y n e) (he : e ≤ 971) (hb : (m - n).natAbs < 9007199254740992) : own_Is (dsub x y) (m - n) e := by
  have he1 := hx.2.1
  obtain ⟨s, c, q, vx, fx, zx, -⟩ := own_fin_split hx
  obtain ⟨t, d, r, vy, fy, zy, -⟩ := own_fin_split hy
  have fy' : Jvm.FP.Core.fits b64 (.fin (!t) d r) := fy
  obtain ⟨sg, N, E, h1, h2, h3⟩ := sum_units (t := !t) fx fy'
  have h4 : signed sg (inUnits N E b64.qmin) = (m - n) * ((2 ^ (e + 1074).toNat : Nat) : Int) := by
    rw [h3, Int.sub_mul, ← zx, ← zy]
    show signed s (inUnits c q b64.qmin) + signed (!t) (inUnits d r b64.qmin) = _
    rw [signed_not]; omega
  obtain ⟨c', q', h5, h6⟩ := own_sum (by rw [qmin_b64] at h2; exact h2) hb he1 he h4
  refine own_Is_of (s := sg) (c := c') (q := q') ?_ he1 h6
  rw [val64_dsub, vx, vy]
  show round b64 (exactSum (.fin s c q) (.fin (!t) d r)) = _
  rw [h1, h5]
theorem own_mul {x y : UInt64} {m n e1 e2 e : Int} (hx : own_Is x m e1) (hy : own_Is y n e2) (hee : e1 + e2 = e) (he1 : -1074 ≤ e) (he2 : e ≤ 971) (hb : (m * n).natAbs < 9007199254740992) : own_Is (dmul x y) (m * n) e := by
  subst hee
  have hx1 := hx.2.1
  have hy1 := hy.2.1
  obtain ⟨s, c, q, vx, fx, zx, qx⟩ := own_fin_split hx
  obtain ⟨t, d, r, vy, fy, zy, qy⟩ := own_fin_split hy
  obtain ⟨h1, h2, h3⟩ := product_units fx fy
  have hs : signed (s != t) (inUnits (c * d) (q + r) (-2148)) = (m * n) * ((2 ^ (e1 + e2 + 2148).toNat : Nat) : Int) := by
    have h4 : inUnits (c * d) (q + r) (-2148) = inUnits c q b64.qmin * inUnits d r b64.qmin := by
      have := h3
      rw [qmin_b64] at this ⊢
      exact this
    rw [h4, own_signed_mul, zx, zy, show (e1 + e2 + 2148).toNat = (e1 + 1074).toNat + (e2 + 1074).toNat by omega, Nat.pow_add, Int.natCast_mul]
    simp only [Int.mul_assoc, Int.mul_left_comm, Int.mul_comm]
  have h5 : inUnits (c * d) (q + r) (-2148) = (m * n).natAbs * 2 ^ (e1 + e2 + 2148).toNat := by
    rw [← own_signed_abs (s != t) (inUnits (c * d) (q + r) (-2148)), hs, Int.natAbs_mul, Int.natAbs_natCast]
  obtain ⟨c', q', h6, h7⟩ := own_round (s := (s != t)) (by omega) hb he1 he2 h5
  refine own_Is_of (s := (s != t)) (c := c') (q := q') (by rw [val64_dmul, vx, vy, h1, h6]) he1 ?_
  rw [h5, own_signed_scale] at hs
  have h8 : signed (s != t) (m * n).natAbs = m * n := Int.eq_of_mul_eq_mul_right (by have := Nat.two_pow_pos (e1 + e2 + 2148).toNat; omega) hs
  rw [h7, own_signed_scale, h8]
/-- the quotient of two exact doubles is the rounded ratio of their numbers -/
theorem own_divR {x y : UInt64} {m n e1 e2 : Int} (hx : own_Is x m e1) (hy : own_Is y n e2) (hn : n ≠ 0) :
    val64 (ddiv x y) = roundRatio b64 (sgn (val64 x) != sgn (val64 y)) m.natAbs n.natAbs (e1 - e2) ∧ signed (sgn (val64 x)) m.natAbs = m ∧ signed (sgn (val64 y)) n.natAbs = n := by
  have hx1 := hx.2.1
  have hy1 := hy.2.1
  obtain ⟨s, c, q, vx, fx, zx, qx⟩ := own_fin_split hx
  obtain ⟨t, d, r, vy, fy, zy, qy⟩ := own_fin_split hy
  have ax : inUnits c q b64.qmin = m.natAbs * 2 ^ (e1 + 1074).toNat := by
    rw [← own_signed_abs s (inUnits c q b64.qmin), zx, Int.natAbs_mul, Int.natAbs_natCast]
  have ay : inUnits d r b64.qmin = n.natAbs * 2 ^ (e2 + 1074).toNat := by
    rw [← own_signed_abs t (inUnits d r b64.qmin), zy, Int.natAbs_mul, Int.natAbs_natCast]
  have sx : signed s m.natAbs = m := by
    rw [ax, own_signed_scale] at zx
    exact Int.eq_of_mul_eq_mul_right (by have := Nat.two_pow_pos (e1 + 1074).toNat; omega) zx
  have sy : signed t n.natAbs = n := by
    rw [ay, own_signed_scale] at zy
    exact Int.eq_of_mul_eq_mul_right (by have := Nat.two_pow_pos (e2 + 1074).toNat; omega) zy
  have nn : n.natAbs ≠ 0 := by omega
  have hd : d ≠ 0 := by
    rintro rfl
    have : n.natAbs * 2 ^ (e2 + 1074).toNat = 0 := by rw [← ay]; unfold inUnits; simp
    rcases Nat.mul_eq_zero.mp this with h | h
    · exact nn h
    · have := Nat.two_pow_pos (e2 + 1074).toNat; omega
  refine ⟨?_, by rw [vx]; exact sx, by rw [vy]; exact sy⟩
  rw [val64_ddiv, vx, vy]
  show (if d = 0 then _ else roundRatio b64 (s != t) c d (q - r)) = roundRatio b64 (s != t) _ _ _
  rw [if_neg hd]
  refine roundRatio_congr (by omega) (by omega) ?_
  unfold inUnits at ax ay
  rw [qmin_b64] at ax ay
  have key : c * n.natAbs * 2 ^ ((q - -1074).toNat + (e2 + 1074).toNat) = m.natAbs * d * 2 ^ ((e1 + 1074).toNat + (r - -1074).toNat) := by
    have e3 : c * n.natAbs * 2 ^ ((q - -1074).toNat + (e2 + 1074).toNat) = (c * 2 ^ (q - -1074).toNat) * (n.natAbs * 2 ^ (e2 + 1074).toNat) := by
      rw [Nat.pow_add]; simp only [Nat.mul_assoc, Nat.mul_left_comm, Nat.mul_comm]
    rw [e3, ax, ← ay, Nat.pow_add]
    simp only [Nat.mul_assoc, Nat.mul_left_comm, Nat.mul_comm]
  have h4 := own_powc key (w := (q - r) - (e1 - e2)) (by omega)
  rw [h4, show -((q - r) - (e1 - e2)) = (e1 - e2) - (q - r) by omega]
theorem own_div {x y : UInt64} {m n N e1 e2 e : Int} (hx : own_Is x m e1) (hy : own_Is y n e2) (hn : n ≠ 0) (hm : m = N * n) (hee : e1 - e2 = e) (he1 : -1074 ≤ e) (he2 : e ≤ 971) (hb : N.natAbs < 9007199254740992) : own_Is (ddiv x y) N e := by
  subst hee
  obtain ⟨h1, h2, h3⟩ := own_divR hx hy hn
  have hq : b64.qmin = -1074 := qmin_b64
  obtain ⟨c', q', h5, h6⟩ := round_exact good_b64 (sgn (val64 x) != sgn (val64 y)) (c := N.natAbs) (q := e1 - e2) (show _ < 2 ^ 53 from hb) (by rw [hq]; omega) (by rw [own_qmax]; omega)
  refine own_Is_of (s := (sgn (val64 x) != sgn (val64 y))) (c := c') (q := q') ?_ he1 ?_
  · rw [h1, ← h5]
    show roundRatio _ _ _ _ _ = roundRatio b64 (sgn (val64 x) != sgn (val64 y)) N.natAbs 1 (e1 - e2)
    refine roundRatio_congr (by omega) (by decide) ?_
    rw [hm, Int.natAbs_mul]; simp
  · rw [h6]; unfold inUnits
    rw [hq, show e1 - e2 - -1074 = e1 - e2 + 1074 by omega, own_signed_scale]
    congr 1
    have h7 := own_signed_mul (sgn (val64 x)) (sgn (val64 y)) N.natAbs (n.natAbs * n.natAbs)
    have h8 : signed (sgn (val64 x) != sgn (val64 y)) (m.natAbs * n.natAbs) = m * n := by rw [own_signed_mul, h2, h3]
    rw [hm, Int.natAbs_mul, Nat.mul_assoc, own_signed_scale] at h8
    have h9 : ((n.natAbs * n.natAbs : Nat) : Int) = n * n := Int.natAbs_mul_self
    rw [h9, Int.mul_assoc] at h8
    refine Int.eq_of_mul_eq_mul_right ?_ h8
    intro h0
    rcases Int.mul_eq_zero.mp h0 with h | h <;> exact hn h
theorem own_shift {x : UInt64} {n e e' : Int} (j : Nat) (hx : own_Is x n e) (hj : e' = e - j) (he : -1074 ≤ e') : own_Is x (n * (2 ^ j : Nat)) e' := by
  subst hj
  refine ⟨hx.1, he, ?_⟩
  rw [hx.2.2, show (e + 1074).toNat = j + (e - j + 1074).toNat by omega, Nat.pow_add, Int.natCast_mul, ← Int.mul_assoc]
theorem own_nn {x : UInt64} {n e : Int} (h : own_Is x n e) : Jvm.Free.Fl.NoNaN64 x := Jvm.Free.Fl.noNaN64_no.mpr h.1.notNaN
theorem own_cmp {x y : UInt64} {m n e : Int} (hx : own_Is x m e) (hy : own_Is y n e) : dcmp x y = some (compare m n) := by
  rw [dcmp_zval hx.1.ne_nan hy.1.ne_nan, hx.2.2, hy.2.2]
  have hp : (0 : Int) < ((2 ^ (e + 1074).toNat : Nat) : Int) := by have := Nat.two_pow_pos (e + 1074).toNat; omega
  congr 1
  refine compare_congr ⟨fun h => Int.lt_of_mul_lt_mul_right h (Int.le_of_lt hp), fun h => Int.mul_lt_mul_of_pos_right h hp⟩ ⟨fun h => Int.eq_of_mul_eq_mul_right (Int.ne_of_gt hp) h, fun h => by rw [h]⟩
theorem own_i2d (a : Int32) : own_Is (i2d a) a.toInt 0 := by
  have h := i2d_int a
  refine ⟨?_, by decide, ?_⟩
  · rw [i2d_l2d]; exact l2d_fin _
  · rw [DInt_zval h]; rfl
theorem own_l2d {a : Int64} (h : a.toInt.natAbs ≤ 9007199254740992) : own_Is (l2d a) a.toInt 0 := by
  have h := l2d_int (a := a) h
  exact ⟨l2d_fin _, by decide, by rw [DInt_zval h]; rfl⟩
/-- with a bound on the number -/
def own_B (x : UInt64) (n e B : Int) : Prop := own_Is x n e ∧ -B ≤ n ∧ n ≤ B
theorem own_B.is {x : UInt64} {n e B : Int} (h : own_B x n e B) : own_Is x n e := h.1
theorem own_B.nn {x : UInt64} {n e B : Int} (h : own_B x n e B) : Jvm.Free.Fl.NoNaN64 x := own_nn h.1
theorem own_Badd {x y : UInt64} {m n e A B : Int} (hx : own_B x m e A) (hy : own_B y n e B) (h : (decide (e ≤ 971) && decide (A + B < 9007199254740992)) = true) : own_B (dadd x y) (m + n) e (A + B) := by
  simp only [Bool.and_eq_true, decide_eq_true_eq] at h
  have := hx.2; have := hy.2
  exact ⟨own_add hx.1 hy.1 h.1 (by omega), by omega, by omega⟩
theorem own_Bsub {x y : UInt64} {m n e A B : Int} (hx : own_B x m e A) (hy : own_B y n e B) (h : (decide (e ≤ 971) && decide (A + B < 9007199254740992)) = true) : own_B (dsub x y) (m - n) e (A + B) := by
  simp only [Bool.and_eq_true, decide_eq_true_eq] at h
  have := hx.2; have := hy.2
  exact ⟨own_sub hx.1 hy.1 h.1 (by omega), by omega, by omega⟩
theorem own_bmul {m n A B : Int} (hm : -A ≤ m ∧ m ≤ A) (hn : -B ≤ n ∧ n ≤ B) : -(A * B) ≤ m * n ∧ m * n ≤ A * B := by
  have h : (m * n).natAbs ≤ A.toNat * B.toNat := by rw [Int.natAbs_mul]; exact Nat.mul_le_mul (by omega) (by omega)
  have h2 : ((A.toNat * B.toNat : Nat) : Int) = A * B := by rw [Int.natCast_mul, Int.toNat_of_nonneg (by omega), Int.toNat_of_nonneg (by omega)]
  omega
theorem own_Bmul {x y : UInt64} {m n e1 e2 A B : Int} (hx : own_B x m e1 A) (hy : own_B y n e2 B) (h : (decide (-1074 ≤ e1 + e2) && decide (e1 + e2 ≤ 971) && decide (A * B < 9007199254740992)) = true) : own_B (dmul x y) (m * n) (e1 + e2) (A * B) := by
  simp only [Bool.and_eq_true, decide_eq_true_eq] at h
  have hb := own_bmul hx.2 hy.2
  exact ⟨own_mul hx.1 hy.1 rfl h.1.1 h.1.2 (by omega), hb⟩
/-- an exact quotient by a power of two (n = 1 in y = 1 * 2^e2) -/
theorem own_Bdiv {x y : UInt64} {m e1 e2 A : Int} (hx : own_B x m e1 A) (hy : own_Is y 1 e2) (h : (decide (-1074 ≤ e1 - e2) && decide (e1 - e2 ≤ 971) && decide (A < 9007199254740992)) = true) : own_B (ddiv x y) m (e1 - e2) A := by
  simp only [Bool.and_eq_true, decide_eq_true_eq] at h
  have := hx.2
  exact ⟨own_div hx.1 hy (by decide) (Int.mul_one _).symm rfl h.1.1 h.1.2 (by omega), hx.2⟩
theorem own_Bshift {x : UInt64} {n e A : Int} (j : Nat) (P : Int) (hx : own_B x n e A) (h : (decide (-1074 ≤ e - j) && decide (((2 ^ j : Nat) : Int) = P)) = true) : own_B x (n * P) (e - j) (A * P) := by
  simp only [Bool.and_eq_true, decide_eq_true_eq] at h
  obtain ⟨h, rfl⟩ := h
  refine ⟨own_shift j hx.1 rfl h, ?_⟩
  have hp : (0 : Int) ≤ (2 ^ j : Nat) := Int.natCast_nonneg _
  have := hx.2
  constructor
  · rw [← Int.neg_mul]; exact Int.mul_le_mul_of_nonneg_right this.1 hp
  · exact Int.mul_le_mul_of_nonneg_right this.2 hp
theorem own_Bcast {x : UInt64} {n n' e e' A A' : Int} (h : own_B x n e A) (hn : n = n') (he : e = e') (hA : A ≤ A') : own_B x n' e' A' := by
  subst hn he; exact ⟨h.1, by have := h.2; omega, by have := h.2; omega⟩
theorem own_eq0 {x y : UInt64} {m n e : Int} (hx : own_Is x m e) (hy : own_Is y n e) (h : m = n) (o : ClassFile.CmpOp) : Op.cmpValue (Jvm.FP.dcmp x y) o = 0 := by
  show Op.cmpValue (dcmp x y) o = 0
  subst h
  rw [own_cmp hx hy, show compare m m = .eq from (compare_eq_iff m m).mpr rfl]; cases o <;> rfl
theorem own_cmpv {x y : UInt64} {m n e : Int} (hx : own_Is x m e) (hy : own_Is y n e) (o : ClassFile.CmpOp) : (m < n → Op.cmpValue (Jvm.FP.dcmp x y) o = -1) ∧ (m = n → Op.cmpValue (Jvm.FP.dcmp x y) o = 0) ∧ (n < m → Op.cmpValue (Jvm.FP.dcmp x y) o = 1) := by
  refine ⟨fun h => ?_, fun h => own_eq0 hx hy h o, fun h => ?_⟩
  · show Op.cmpValue (dcmp x y) o = -1
    rw [own_cmp hx hy, (compare_lt_iff m n).mpr h]; cases o <;> rfl
  · show Op.cmpValue (dcmp x y) o = 1
    rw [own_cmp hx hy, (compare_gt_iff m n).mpr h]; cases o <;> rfl
theorem own_one : own_Is 4607182418800017408 1 0 := ⟨(fin_bits _).mpr (by decide), by decide, by decide +kernel⟩
theorem own_zero : own_Is 0 0 0 := ⟨(fin_bits _).mpr (by decide), by decide, by decide +kernel⟩
/-! ints and longs with their numbers and bounds -/
def own_I (v : Int32) (n B : Int) : Prop := v.toInt = n ∧ -B ≤ n ∧ n ≤ B
def own_L (v : Int64) (n B : Int) : Prop := v.toInt = n ∧ -B ≤ n ∧ n ≤ B
theorem own_Iadd {a b v : Int32} {m n A B : Int} (hv : a + b = v) (ha : own_I a m A) (hb : own_I b n B) (h : decide (A + B < 2147483648) = true) : own_I v (m + n) (A + B) := by
  subst hv; simp only [decide_eq_true_eq] at h; obtain ⟨rfl, h1, h2⟩ := ha; obtain ⟨rfl, h3, h4⟩ := hb
  exact ⟨by rw [Int32.toInt_add]; exact Int.bmod_eq_of_le (by omega) (by omega), by omega, by omega⟩
theorem own_Isub {a b v : Int32} {m n A B : Int} (hv : a - b = v) (ha : own_I a m A) (hb : own_I b n B) (h : decide (A + B < 2147483648) = true) : own_I v (m - n) (A + B) := by
  subst hv; simp only [decide_eq_true_eq] at h; obtain ⟨rfl, h1, h2⟩ := ha; obtain ⟨rfl, h3, h4⟩ := hb
  exact ⟨by rw [Int32.toInt_sub]; exact Int.bmod_eq_of_le (by omega) (by omega), by omega, by omega⟩
theorem own_Imul {a b v : Int32} {m n A B : Int} (hv : a * b = v) (ha : own_I a m A) (hb : own_I b n B) (h : decide (A * B < 2147483648) = true) : own_I v (m * n) (A * B) := by
  subst hv; simp only [decide_eq_true_eq] at h; obtain ⟨rfl, h1⟩ := ha; obtain ⟨rfl, h3⟩ := hb
  have hb := own_bmul h1 h3
  exact ⟨by rw [Int32.toInt_mul]; exact Int.bmod_eq_of_le (by omega) (by omega), hb⟩
theorem own_Ladd {a b v : Int64} {m n A B : Int} (hv : a + b = v) (ha : own_L a m A) (hb : own_L b n B) (h : decide (A + B < 9223372036854775808) = true) : own_L v (m + n) (A + B) := by
  subst hv; simp only [decide_eq_true_eq] at h; obtain ⟨rfl, h1, h2⟩ := ha; obtain ⟨rfl, h3, h4⟩ := hb
  exact ⟨by rw [Int64.toInt_add]; exact Int.bmod_eq_of_le (by omega) (by omega), by omega, by omega⟩
theorem own_Lsub {a b v : Int64} {m n A B : Int} (hv : a - b = v) (ha : own_L a m A) (hb : own_L b n B) (h : decide (A + B < 9223372036854775808) = true) : own_L v (m - n) (A + B) := by
  subst hv; simp only [decide_eq_true_eq] at h; obtain ⟨rfl, h1, h2⟩ := ha; obtain ⟨rfl, h3, h4⟩ := hb
  exact ⟨by rw [Int64.toInt_sub]; exact Int.bmod_eq_of_le (by omega) (by omega), by omega, by omega⟩
theorem own_Lmul {a b v : Int64} {m n A B : Int} (hv : a * b = v) (ha : own_L a m A) (hb : own_L b n B) (h : decide (A * B < 9223372036854775808) = true) : own_L v (m * n) (A * B) := by
  subst hv; simp only [decide_eq_true_eq] at h; obtain ⟨rfl, h1⟩ := ha; obtain ⟨rfl, h3⟩ := hb
  have hb := own_bmul h1 h3
  exact ⟨by rw [Int64.toInt_mul]; exact Int.bmod_eq_of_le (by omega) (by omega), hb⟩
theorem own_Ii2l {a : Int32} {v : Int64} {m A : Int} (hv : Int32.toInt64 a = v) (ha : own_I a m A) : own_L v m A := by
  subst hv; exact ⟨by rw [Int32.toInt_toInt64]; exact ha.1, ha.2⟩
theorem own_Icast {v : Int32} {n n' A A' : Int} (h : own_I v n A) (hn : n = n') (hA : A ≤ A') : own_I v n' A' := by
  subst hn; exact ⟨h.1, by have := h.2; omega, by have := h.2; omega⟩
theorem own_Lcast {v : Int64} {n n' A A' : Int} (h : own_L v n A) (hn : n = n') (hA : A ≤ A') : own_L v n' A' := by
  subst hn; exact ⟨h.1, by have := h.2; omega, by have := h.2; omega⟩
theorem own_Bi2d {v : Int32} {n A : Int} (h : own_I v n A) : own_B (i2d v) n 0 A := by
  obtain ⟨rfl, h1⟩ := h; exact ⟨own_i2d v, h1⟩
theorem own_Bl2d {v : Int64} {n A : Int} (h : own_L v n A) (hA : decide (A ≤ 9007199254740992) = true) : own_B (l2d v) n 0 A := by
  simp only [decide_eq_true_eq] at hA; obtain ⟨rfl, h1⟩ := h; exact ⟨own_l2d (by omega), h1⟩
theorem own_Irng (v : Int32) : own_I v v.toInt 2147483648 := ⟨rfl, by have := Jvm.RoadKit.rng32 v; omega, by have := Jvm.RoadKit.rng32 v; omega⟩
theorem own_Iand {x m v : Int32} {B : Int} (hv : x &&& m = v) (hB : m.toInt = B) (h0 : 0 ≤ B) : own_I v v.toInt B := by
  have := Jvm.RoadKit.c_and x m (by omega); rw [hv] at this; exact ⟨rfl, by omega, by omega⟩
end OwnFP
section OwnStep
open Jvm Jvm.ClassFile Sem Op Lib Jvm.Free Jvm.Stand Jvm.LawKit Jvm.RoadKit
variable {tb : Tables} [Ours tb] {e : Env} {below : List Frame} {T target : State} {m : MethodId} {c : Code} {pc pc' : Nat} {L : Array Slot} {S : List Value}
theorem own_s_iadd (h : At T m c below) (hx : tb.exec = Jvm.exec) {x y v : Int32} (hd : decode c.code pc = .ok (.iadd, 1)) (hp : pc + 1 = pc') (hv : x + y = v)
    (hr : Steps tb e below (T.setTop (mkF m pc' L (.int v :: S))) target) : Steps tb e below (T.setTop (mkF m pc L (.int y :: .int x :: S))) target := by
  subst hv hp; exact XS.iadd h hx rfl hd rfl hr
theorem own_s_ladd (h : At T m c below) (hx : tb.exec = Jvm.exec) {x y v : Int64} (hd : decode c.code pc = .ok (.ladd, 1)) (hp : pc + 1 = pc') (hv : x + y = v)
    (hr : Steps tb e below (T.setTop (mkF m pc' L (.long v :: S))) target) : Steps tb e below (T.setTop (mkF m pc L (.long y :: .long x :: S))) target := by
  subst hv hp; exact XS.ladd h hx rfl hd rfl hr
theorem own_s_isub (h : At T m c below) (hx : tb.exec = Jvm.exec) {x y v : Int32} (hd : decode c.code pc = .ok (.isub, 1)) (hp : pc + 1 = pc') (hv : x - y = v)
    (hr : Steps tb e below (T.setTop (mkF m pc' L (.int v :: S))) target) : Steps tb e below (T.setTop (mkF m pc L (.int y :: .int x :: S))) target := by
  subst hv hp; exact XS.isub h hx rfl hd rfl hr
theorem own_s_lsub (h : At T m c below) (hx : tb.exec = Jvm.exec) {x y v : Int64} (hd : decode c.code pc = .ok (.lsub, 1)) (hp : pc + 1 = pc') (hv : x - y = v)
    (hr : Steps tb e below (T.setTop (mkF m pc' L (.long v :: S))) target) : Steps tb e below (T.setTop (mkF m pc L (.long y :: .long x :: S))) target := by
  subst hv hp; exact XS.lsub h hx rfl hd rfl hr
theorem own_s_imul (h : At T m c below) (hx : tb.exec = Jvm.exec) {x y v : Int32} (hd : decode c.code pc = .ok (.imul, 1)) (hp : pc + 1 = pc') (hv : x * y = v)
    (hr : Steps tb e below (T.setTop (mkF m pc' L (.int v :: S))) target) : Steps tb e below (T.setTop (mkF m pc L (.int y :: .int x :: S))) target := by
  subst hv hp; exact XS.imul h hx rfl hd rfl hr
theorem own_s_lmul (h : At T m c below) (hx : tb.exec = Jvm.exec) {x y v : Int64} (hd : decode c.code pc = .ok (.lmul, 1)) (hp : pc + 1 = pc') (hv : x * y = v)
    (hr : Steps tb e below (T.setTop (mkF m pc' L (.long v :: S))) target) : Steps tb e below (T.setTop (mkF m pc L (.long y :: .long x :: S))) target := by
  subst hv hp; exact XS.lmul h hx rfl hd rfl hr
theorem own_s_iand (h : At T m c below) (hx : tb.exec = Jvm.exec) {x y v : Int32} (hd : decode c.code pc = .ok (.iand, 1)) (hp : pc + 1 = pc') (hv : x &&& y = v)
    (hr : Steps tb e below (T.setTop (mkF m pc' L (.int v :: S))) target) : Steps tb e below (T.setTop (mkF m pc L (.int y :: .int x :: S))) target := by
  subst hv hp; exact XS.iand h hx rfl hd rfl hr
theorem own_s_land (h : At T m c below) (hx : tb.exec = Jvm.exec) {x y v : Int64} (hd : decode c.code pc = .ok (.land, 1)) (hp : pc + 1 = pc') (hv : x &&& y = v)
    (hr : Steps tb e below (T.setTop (mkF m pc' L (.long v :: S))) target) : Steps tb e below (T.setTop (mkF m pc L (.long y :: .long x :: S))) target := by
  subst hv hp; exact XS.land h hx rfl hd rfl hr
theorem own_s_ior (h : At T m c below) (hx : tb.exec = Jvm.exec) {x y v : Int32} (hd : decode c.code pc = .ok (.ior, 1)) (hp : pc + 1 = pc') (hv : x ||| y = v)
    (hr : Steps tb e below (T.setTop (mkF m pc' L (.int v :: S))) target) : Steps tb e below (T.setTop (mkF m pc L (.int y :: .int x :: S))) target := by
  subst hv hp; exact XS.ior h hx rfl hd rfl hr
theorem own_s_lor (h : At T m c below) (hx : tb.exec = Jvm.exec) {x y v : Int64} (hd : decode c.code pc = .ok (.lor, 1)) (hp : pc + 1 = pc') (hv : x ||| y = v)
    (hr : Steps tb e below (T.setTop (mkF m pc' L (.long v :: S))) target) : Steps tb e below (T.setTop (mkF m pc L (.long y :: .long x :: S))) target := by
  subst hv hp; exact XS.lor h hx rfl hd rfl hr
theorem own_s_ixor (h : At T m c below) (hx : tb.exec = Jvm.exec) {x y v : Int32} (hd : decode c.code pc = .ok (.ixor, 1)) (hp : pc + 1 = pc') (hv : x ^^^ y = v)
    (hr : Steps tb e below (T.setTop (mkF m pc' L (.int v :: S))) target) : Steps tb e below (T.setTop (mkF m pc L (.int y :: .int x :: S))) target := by
  subst hv hp; exact XS.ixor h hx rfl hd rfl hr
theorem own_s_lxor (h : At T m c below) (hx : tb.exec = Jvm.exec) {x y v : Int64} (hd : decode c.code pc = .ok (.lxor, 1)) (hp : pc + 1 = pc') (hv : x ^^^ y = v)
    (hr : Steps tb e below (T.setTop (mkF m pc' L (.long v :: S))) target) : Steps tb e below (T.setTop (mkF m pc L (.long y :: .long x :: S))) target := by
  subst hv hp; exact XS.lxor h hx rfl hd rfl hr
theorem own_s_idiv (h : At T m c below) (hx : tb.exec = Jvm.exec) {x y v : Int32} (hd : decode c.code pc = .ok (.idiv, 1)) (hp : pc + 1 = pc') (hy : y ≠ 0) (hv : x / y = v)
    (hr : Steps tb e below (T.setTop (mkF m pc' L (.int v :: S))) target) : Steps tb e below (T.setTop (mkF m pc L (.int y :: .int x :: S))) target := by
  subst hv hp; exact XS.idiv h hx rfl hd rfl hy hr
theorem own_s_irem (h : At T m c below) (hx : tb.exec = Jvm.exec) {x y v : Int32} (hd : decode c.code pc = .ok (.irem, 1)) (hp : pc + 1 = pc') (hy : y ≠ 0) (hv : x % y = v)
    (hr : Steps tb e below (T.setTop (mkF m pc' L (.int v :: S))) target) : Steps tb e below (T.setTop (mkF m pc L (.int y :: .int x :: S))) target := by
  subst hv hp; rw [← irem_eq_mod] at hr; exact XS.irem h hx rfl hd rfl hy hr
theorem own_s_ldiv (h : At T m c below) (hx : tb.exec = Jvm.exec) {x y v : Int64} (hd : decode c.code pc = .ok (.ldiv, 1)) (hp : pc + 1 = pc') (hy : y ≠ 0) (hv : x / y = v)
    (hr : Steps tb e below (T.setTop (mkF m pc' L (.long v :: S))) target) : Steps tb e below (T.setTop (mkF m pc L (.long y :: .long x :: S))) target := by
  subst hv hp; exact XS.ldiv h hx rfl hd rfl hy hr
theorem own_s_lrem (h : At T m c below) (hx : tb.exec = Jvm.exec) {x y v : Int64} (hd : decode c.code pc = .ok (.lrem, 1)) (hp : pc + 1 = pc') (hy : y ≠ 0) (hv : x % y = v)
    (hr : Steps tb e below (T.setTop (mkF m pc' L (.long v :: S))) target) : Steps tb e below (T.setTop (mkF m pc L (.long y :: .long x :: S))) target := by
  subst hv hp; rw [← lrem_mod] at hr; exact XS.lrem h hx rfl hd rfl hy hr
theorem own_s_ishl (h : At T m c below) (hx : tb.exec = Jvm.exec) {x y v : Int32} (hd : decode c.code pc = .ok (.ishl, 1)) (hp : pc + 1 = pc') (hv : x <<< (y &&& 31) = v)
    (hr : Steps tb e below (T.setTop (mkF m pc' L (.int v :: S))) target) : Steps tb e below (T.setTop (mkF m pc L (.int y :: .int x :: S))) target := by
  subst hv hp; exact XS.ishl h hx rfl hd rfl hr
theorem own_s_ishr (h : At T m c below) (hx : tb.exec = Jvm.exec) {x y v : Int32} (hd : decode c.code pc = .ok (.ishr, 1)) (hp : pc + 1 = pc') (hv : x >>> (y &&& 31) = v)
    (hr : Steps tb e below (T.setTop (mkF m pc' L (.int v :: S))) target) : Steps tb e below (T.setTop (mkF m pc L (.int y :: .int x :: S))) target := by
  subst hv hp; exact XS.ishr h hx rfl hd rfl hr
theorem own_s_iushr (h : At T m c below) (hx : tb.exec = Jvm.exec) {x y v : Int32} (hd : decode c.code pc = .ok (.iushr, 1)) (hp : pc + 1 = pc') (hv : (x.toUInt32 >>> (y &&& 31).toUInt32).toInt32 = v)
    (hr : Steps tb e below (T.setTop (mkF m pc' L (.int v :: S))) target) : Steps tb e below (T.setTop (mkF m pc L (.int y :: .int x :: S))) target := by
  subst hv hp; exact XS.iushr h hx rfl hd rfl hr
theorem own_s_lshl (h : At T m c below) (hx : tb.exec = Jvm.exec) {x v : Int64} {y : Int32} (hd : decode c.code pc = .ok (.lshl, 1)) (hp : pc + 1 = pc') (hv : x <<< (y &&& 63).toInt64 = v)
    (hr : Steps tb e below (T.setTop (mkF m pc' L (.long v :: S))) target) : Steps tb e below (T.setTop (mkF m pc L (.int y :: .long x :: S))) target := by
  subst hv hp; exact XS.lshl h hx rfl hd rfl hr
theorem own_s_lshr (h : At T m c below) (hx : tb.exec = Jvm.exec) {x v : Int64} {y : Int32} (hd : decode c.code pc = .ok (.lshr, 1)) (hp : pc + 1 = pc') (hv : x >>> (y &&& 63).toInt64 = v)
    (hr : Steps tb e below (T.setTop (mkF m pc' L (.long v :: S))) target) : Steps tb e below (T.setTop (mkF m pc L (.int y :: .long x :: S))) target := by
  subst hv hp; exact XS.lshr h hx rfl hd rfl hr
theorem own_s_lushr (h : At T m c below) (hx : tb.exec = Jvm.exec) {x v : Int64} {y : Int32} (hd : decode c.code pc = .ok (.lushr, 1)) (hp : pc + 1 = pc') (hv : (x.toUInt64 >>> (y &&& 63).toInt64.toUInt64).toInt64 = v)
    (hr : Steps tb e below (T.setTop (mkF m pc' L (.long v :: S))) target) : Steps tb e below (T.setTop (mkF m pc L (.int y :: .long x :: S))) target := by
  subst hv hp; exact XS.lushr h hx rfl hd rfl hr
theorem own_s_i2l (h : At T m c below) (hx : tb.exec = Jvm.exec) {x : Int32} {v : Int64} (hd : decode c.code pc = .ok (.i2l, 1)) (hp : pc + 1 = pc') (hv : x.toInt64 = v)
    (hr : Steps tb e below (T.setTop (mkF m pc' L (.long v :: S))) target) : Steps tb e below (T.setTop (mkF m pc L (.int x :: S))) target := by
  subst hv hp; exact XS.i2l h hx rfl hd rfl hr
theorem own_s_l2i (h : At T m c below) (hx : tb.exec = Jvm.exec) {x : Int64} {v : Int32} (hd : decode c.code pc = .ok (.l2i, 1)) (hp : pc + 1 = pc') (hv : x.toInt32 = v)
    (hr : Steps tb e below (T.setTop (mkF m pc' L (.int v :: S))) target) : Steps tb e below (T.setTop (mkF m pc L (.long x :: S))) target := by
  subst hv hp; exact XS.l2i h hx rfl hd rfl hr
theorem own_s_i2b (h : At T m c below) (hx : tb.exec = Jvm.exec) {x : Int32} {v : Int32} (hd : decode c.code pc = .ok (.i2b, 1)) (hp : pc + 1 = pc') (hv : x.toInt8.toInt32 = v)
    (hr : Steps tb e below (T.setTop (mkF m pc' L (.int v :: S))) target) : Steps tb e below (T.setTop (mkF m pc L (.int x :: S))) target := by
  subst hv hp; exact XS.i2b h hx rfl hd rfl hr
theorem own_s_i2s (h : At T m c below) (hx : tb.exec = Jvm.exec) {x : Int32} {v : Int32} (hd : decode c.code pc = .ok (.i2s, 1)) (hp : pc + 1 = pc') (hv : x.toInt16.toInt32 = v)
    (hr : Steps tb e below (T.setTop (mkF m pc' L (.int v :: S))) target) : Steps tb e below (T.setTop (mkF m pc L (.int x :: S))) target := by
  subst hv hp; exact XS.i2s h hx rfl hd rfl hr
theorem own_s_ineg (h : At T m c below) (hx : tb.exec = Jvm.exec) {x : Int32} {v : Int32} (hd : decode c.code pc = .ok (.ineg, 1)) (hp : pc + 1 = pc') (hv : -x = v)
    (hr : Steps tb e below (T.setTop (mkF m pc' L (.int v :: S))) target) : Steps tb e below (T.setTop (mkF m pc L (.int x :: S))) target := by
  subst hv hp; exact XS.ineg h hx rfl hd rfl hr
theorem own_s_lneg (h : At T m c below) (hx : tb.exec = Jvm.exec) {x : Int64} {v : Int64} (hd : decode c.code pc = .ok (.lneg, 1)) (hp : pc + 1 = pc') (hv : -x = v)
    (hr : Steps tb e below (T.setTop (mkF m pc' L (.long v :: S))) target) : Steps tb e below (T.setTop (mkF m pc L (.long x :: S))) target := by
  subst hv hp; exact XS.lneg h hx rfl hd rfl hr
theorem own_s_i2d (h : At T m c below) (hx : tb.exec = Jvm.exec) {x : Int32} {v : UInt64} (hd : decode c.code pc = .ok (.i2d, 1)) (hp : pc + 1 = pc') (hv : FP.i2d x = v)
    (hr : Steps tb e below (T.setTop (mkF m pc' L (.double v :: S))) target) : Steps tb e below (T.setTop (mkF m pc L (.int x :: S))) target := by
  subst hv hp; exact XS.i2dS h hx rfl hd rfl rfl hr
theorem own_s_l2d (h : At T m c below) (hx : tb.exec = Jvm.exec) {x : Int64} {v : UInt64} (hd : decode c.code pc = .ok (.l2d, 1)) (hp : pc + 1 = pc') (hv : FP.l2d x = v)
    (hr : Steps tb e below (T.setTop (mkF m pc' L (.double v :: S))) target) : Steps tb e below (T.setTop (mkF m pc L (.long x :: S))) target := by
  subst hv hp; exact XS.l2dS h hx rfl hd rfl rfl hr
theorem own_s_dneg (h : At T m c below) (hx : tb.exec = Jvm.exec) {x : UInt64} {v : UInt64} (hd : decode c.code pc = .ok (.dneg, 1)) (hp : pc + 1 = pc') (hv : FP.dneg x = v)
    (hr : Steps tb e below (T.setTop (mkF m pc' L (.double v :: S))) target) : Steps tb e below (T.setTop (mkF m pc L (.double x :: S))) target := by
  subst hv hp; exact XS.dnegS h hx rfl hd rfl rfl hr
theorem own_s_dadd (h : At T m c below) (hx : tb.exec = Jvm.exec) {x y v : UInt64} (hd : decode c.code pc = .ok (.dadd, 1)) (hp : pc + 1 = pc') (hn : Jvm.Free.Fl.NoNaN64 (FP.dadd x y)) (hv : FP.dadd x y = v)
    (hr : Steps tb e below (T.setTop (mkF m pc' L (.double v :: S))) target) : Steps tb e below (T.setTop (mkF m pc L (.double y :: .double x :: S))) target := by
  subst hv hp; exact XS.daddS h hx rfl hd rfl hn rfl hr
theorem own_s_dsub (h : At T m c below) (hx : tb.exec = Jvm.exec) {x y v : UInt64} (hd : decode c.code pc = .ok (.dsub, 1)) (hp : pc + 1 = pc') (hn : Jvm.Free.Fl.NoNaN64 (FP.dsub x y)) (hv : FP.dsub x y = v)
    (hr : Steps tb e below (T.setTop (mkF m pc' L (.double v :: S))) target) : Steps tb e below (T.setTop (mkF m pc L (.double y :: .double x :: S))) target := by
  subst hv hp; exact XS.dsubS h hx rfl hd rfl hn rfl hr
theorem own_s_dmul (h : At T m c below) (hx : tb.exec = Jvm.exec) {x y v : UInt64} (hd : decode c.code pc = .ok (.dmul, 1)) (hp : pc + 1 = pc') (hn : Jvm.Free.Fl.NoNaN64 (FP.dmul x y)) (hv : FP.dmul x y = v)
    (hr : Steps tb e below (T.setTop (mkF m pc' L (.double v :: S))) target) : Steps tb e below (T.setTop (mkF m pc L (.double y :: .double x :: S))) target := by
  subst hv hp; exact XS.dmulS h hx rfl hd rfl hn rfl hr
theorem own_s_ddiv (h : At T m c below) (hx : tb.exec = Jvm.exec) {x y v : UInt64} (hd : decode c.code pc = .ok (.ddiv, 1)) (hp : pc + 1 = pc') (hn : Jvm.Free.Fl.NoNaN64 (FP.ddiv x y)) (hv : FP.ddiv x y = v)
    (hr : Steps tb e below (T.setTop (mkF m pc' L (.double v :: S))) target) : Steps tb e below (T.setTop (mkF m pc L (.double y :: .double x :: S))) target := by
  subst hv hp; exact XS.ddivS h hx rfl hd rfl hn rfl hr
theorem own_s_dcmp (h : At T m c below) (hx : tb.exec = Jvm.exec) {o : CmpOp} {x y : UInt64} {v : Int32} (hd : decode c.code pc = .ok (.dcmp o, 1)) (hp : pc + 1 = pc') (hv : Op.cmpValue (FP.dcmp x y) o = v)
    (hr : Steps tb e below (T.setTop (mkF m pc' L (.int v :: S))) target) : Steps tb e below (T.setTop (mkF m pc L (.double y :: .double x :: S))) target := by
  subst hv hp; exact XS.dcmpS h hx rfl hd rfl rfl hr
theorem own_s_lcmp (h : At T m c below) (hx : tb.exec = Jvm.exec) {x y : Int64} {v : Int32} (hd : decode c.code pc = .ok (.lcmp, 1)) (hp : pc + 1 = pc') (hv : lcmpW x y = v)
    (hr : Steps tb e below (T.setTop (mkF m pc' L (.int v :: S))) target) : Steps tb e below (T.setTop (mkF m pc L (.long y :: .long x :: S))) target := by
  subst hv hp; exact XS.lcmp h hx rfl hd rfl hr
theorem own_s_iconst (h : At T m c below) (hx : tb.exec = Jvm.exec) {i : Int} {v : Int32} (hd : decode c.code pc = .ok (.iconst i, 1)) (hp : pc + 1 = pc') (hv : Int32.ofInt i = v)
    (hr : Steps tb e below (T.setTop (mkF m pc' L (.int v :: S))) target) : Steps tb e below (T.setTop (mkF m pc L S)) target := by
  subst hv hp; exact XS.iconst h hx rfl hd hr
theorem own_s_bipush (h : At T m c below) (hx : tb.exec = Jvm.exec) {i : Int} {v : Int32} (hd : decode c.code pc = .ok (.bipush i, 2)) (hp : pc + 2 = pc') (hv : (Int8.ofInt i).toInt32 = v)
    (hr : Steps tb e below (T.setTop (mkF m pc' L (.int v :: S))) target) : Steps tb e below (T.setTop (mkF m pc L S)) target := by
  subst hv hp; exact XS.bipush h hx rfl hd hr
theorem own_s_sipush (h : At T m c below) (hx : tb.exec = Jvm.exec) {i : Int} {v : Int32} (hd : decode c.code pc = .ok (.sipush i, 3)) (hp : pc + 3 = pc') (hv : (Int16.ofInt i).toInt32 = v)
    (hr : Steps tb e below (T.setTop (mkF m pc' L (.int v :: S))) target) : Steps tb e below (T.setTop (mkF m pc L S)) target := by
  subst hv hp; exact XS.sipush h hx rfl hd hr
theorem own_s_lconst (h : At T m c below) (hx : tb.exec = Jvm.exec) {k : Fin 2} {v : Int64} (hd : decode c.code pc = .ok (.lconst k, 1)) (hp : pc + 1 = pc') (hv : Int64.ofNat k = v)
    (hr : Steps tb e below (T.setTop (mkF m pc' L (.long v :: S))) target) : Steps tb e below (T.setTop (mkF m pc L S)) target := by
  subst hv hp; exact XS.lconst h hx rfl hd hr
theorem own_s_dconst0 (h : At T m c below) (hx : tb.exec = Jvm.exec)  (hd : decode c.code pc = .ok (.dconst 0, 1)) (hp : pc + 1 = pc') 
    (hr : Steps tb e below (T.setTop (mkF m pc' L (.double 0 :: S))) target) : Steps tb e below (T.setTop (mkF m pc L S)) target := by
  subst hp; exact XS.dconst0 h hx rfl hd rfl hr
theorem own_s_dconst1 (h : At T m c below) (hx : tb.exec = Jvm.exec)  (hd : decode c.code pc = .ok (.dconst 1, 1)) (hp : pc + 1 = pc') 
    (hr : Steps tb e below (T.setTop (mkF m pc' L (.double 4607182418800017408 :: S))) target) : Steps tb e below (T.setTop (mkF m pc L S)) target := by
  subst hp; exact XS.dconst1 h hx rfl hd rfl hr
theorem own_s_aconst_null (h : At T m c below) (hx : tb.exec = Jvm.exec)  (hd : decode c.code pc = .ok (.aconst_null, 1)) (hp : pc + 1 = pc') 
    (hr : Steps tb e below (T.setTop (mkF m pc' L (.null :: S))) target) : Steps tb e below (T.setTop (mkF m pc L S)) target := by
  subst hp; exact XS.aconstNull h hx rfl hd hr
theorem own_s_dup (h : At T m c below) (hx : tb.exec = Jvm.exec) {x : Value} (hd : decode c.code pc = .ok (.dup, 1)) (hp : pc + 1 = pc') (hc : x.category = 1)
    (hr : Steps tb e below (T.setTop (mkF m pc' L (x :: x :: S))) target) : Steps tb e below (T.setTop (mkF m pc L (x :: S))) target := by
  subst hp; exact XS.dup h hx rfl hd rfl hc hr
theorem own_s_dupX1 (h : At T m c below) (hx : tb.exec = Jvm.exec) {x y : Value} (hd : decode c.code pc = .ok (.dup_x1, 1)) (hp : pc + 1 = pc') (hc : x.category = 1) (hc' : y.category = 1)
    (hr : Steps tb e below (T.setTop (mkF m pc' L (x :: y :: x :: S))) target) : Steps tb e below (T.setTop (mkF m pc L (x :: y :: S))) target := by
  subst hp; exact XS.dupX1 h hx rfl hd rfl hc hc' hr
theorem own_s_pop (h : At T m c below) (hx : tb.exec = Jvm.exec) {x : Value} (hd : decode c.code pc = .ok (.pop, 1)) (hp : pc + 1 = pc') (hc : x.category = 1)
    (hr : Steps tb e below (T.setTop (mkF m pc' L S)) target) : Steps tb e below (T.setTop (mkF m pc L (x :: S))) target := by
  subst hp; exact XS.pop h hx rfl hd rfl hc hr
theorem own_s_iloadN (h : At T m c below) (hx : tb.exec = Jvm.exec) {k : Fin 4} {v : Int32} (hd : decode c.code pc = .ok (.iload_n k, 1)) (hp : pc + 1 = pc') (hl : L[k.val]? = some (.val (.int v)))
    (hr : Steps tb e below (T.setTop (mkF m pc' L (.int v :: S))) target) : Steps tb e below (T.setTop (mkF m pc L S)) target := by
  subst hp; exact XS.iloadN h hx rfl hd hl hr
theorem own_s_iload (h : At T m c below) (hx : tb.exec = Jvm.exec) {k : Nat} {v : Int32} (hd : decode c.code pc = .ok (.iload k, 2)) (hp : pc + 2 = pc') (hl : L[k]? = some (.val (.int v)))
    (hr : Steps tb e below (T.setTop (mkF m pc' L (.int v :: S))) target) : Steps tb e below (T.setTop (mkF m pc L S)) target := by
  subst hp; exact XS.iload h hx rfl hd hl hr
theorem own_s_istoreN (h : At T m c below) (hx : tb.exec = Jvm.exec) {k : Fin 4} {v : Int32} {L' : Array Slot} (hd : decode c.code pc = .ok (.istore_n k, 1)) (hp : pc + 1 = pc') (hl : storeLocals L k.val (.int v) = some L')
    (hr : Steps tb e below (T.setTop (mkF m pc' L' S)) target) : Steps tb e below (T.setTop (mkF m pc L (.int v :: S))) target := by
  subst hp; exact XS.istoreN h hx rfl hd rfl hl hr
theorem own_s_istore (h : At T m c below) (hx : tb.exec = Jvm.exec) {k : Nat} {v : Int32} {L' : Array Slot} (hd : decode c.code pc = .ok (.istore k, 2)) (hp : pc + 2 = pc') (hl : storeLocals L k (.int v) = some L')
    (hr : Steps tb e below (T.setTop (mkF m pc' L' S)) target) : Steps tb e below (T.setTop (mkF m pc L (.int v :: S))) target := by
  subst hp; exact XS.istore h hx rfl hd rfl hl hr
theorem own_s_lloadN (h : At T m c below) (hx : tb.exec = Jvm.exec) {k : Fin 4} {v : Int64} (hd : decode c.code pc = .ok (.lload_n k, 1)) (hp : pc + 1 = pc') (hl : L[k.val]? = some (.val (.long v)))
    (hr : Steps tb e below (T.setTop (mkF m pc' L (.long v :: S))) target) : Steps tb e below (T.setTop (mkF m pc L S)) target := by
  subst hp; exact XS.lloadN h hx rfl hd hl hr
theorem own_s_lload (h : At T m c below) (hx : tb.exec = Jvm.exec) {k : Nat} {v : Int64} (hd : decode c.code pc = .ok (.lload k, 2)) (hp : pc + 2 = pc') (hl : L[k]? = some (.val (.long v)))
    (hr : Steps tb e below (T.setTop (mkF m pc' L (.long v :: S))) target) : Steps tb e below (T.setTop (mkF m pc L S)) target := by
  subst hp; exact XS.lload h hx rfl hd hl hr
theorem own_s_lstoreN (h : At T m c below) (hx : tb.exec = Jvm.exec) {k : Fin 4} {v : Int64} {L' : Array Slot} (hd : decode c.code pc = .ok (.lstore_n k, 1)) (hp : pc + 1 = pc') (hl : storeLocals L k.val (.long v) = some L')
    (hr : Steps tb e below (T.setTop (mkF m pc' L' S)) target) : Steps tb e below (T.setTop (mkF m pc L (.long v :: S))) target := by
  subst hp; exact XS.lstoreN h hx rfl hd rfl hl hr
theorem own_s_lstore (h : At T m c below) (hx : tb.exec = Jvm.exec) {k : Nat} {v : Int64} {L' : Array Slot} (hd : decode c.code pc = .ok (.lstore k, 2)) (hp : pc + 2 = pc') (hl : storeLocals L k (.long v) = some L')
    (hr : Steps tb e below (T.setTop (mkF m pc' L' S)) target) : Steps tb e below (T.setTop (mkF m pc L (.long v :: S))) target := by
  subst hp; exact XS.lstore h hx rfl hd rfl hl hr
theorem own_s_dloadN (h : At T m c below) (hx : tb.exec = Jvm.exec) {k : Fin 4} {v : UInt64} (hd : decode c.code pc = .ok (.dload_n k, 1)) (hp : pc + 1 = pc') (hl : L[k.val]? = some (.val (.double v)))
    (hr : Steps tb e below (T.setTop (mkF m pc' L (.double v :: S))) target) : Steps tb e below (T.setTop (mkF m pc L S)) target := by
  subst hp; exact XS.dloadN h hx rfl hd hl hr
theorem own_s_dload (h : At T m c below) (hx : tb.exec = Jvm.exec) {k : Nat} {v : UInt64} (hd : decode c.code pc = .ok (.dload k, 2)) (hp : pc + 2 = pc') (hl : L[k]? = some (.val (.double v)))
    (hr : Steps tb e below (T.setTop (mkF m pc' L (.double v :: S))) target) : Steps tb e below (T.setTop (mkF m pc L S)) target := by
  subst hp; exact XS.dload h hx rfl hd hl hr
theorem own_s_dstoreN (h : At T m c below) (hx : tb.exec = Jvm.exec) {k : Fin 4} {v : UInt64} {L' : Array Slot} (hd : decode c.code pc = .ok (.dstore_n k, 1)) (hp : pc + 1 = pc') (hl : storeLocals L k.val (.double v) = some L')
    (hr : Steps tb e below (T.setTop (mkF m pc' L' S)) target) : Steps tb e below (T.setTop (mkF m pc L (.double v :: S))) target := by
  subst hp; exact XS.dstoreN h hx rfl hd rfl hl hr
theorem own_s_dstore (h : At T m c below) (hx : tb.exec = Jvm.exec) {k : Nat} {v : UInt64} {L' : Array Slot} (hd : decode c.code pc = .ok (.dstore k, 2)) (hp : pc + 2 = pc') (hl : storeLocals L k (.double v) = some L')
    (hr : Steps tb e below (T.setTop (mkF m pc' L' S)) target) : Steps tb e below (T.setTop (mkF m pc L (.double v :: S))) target := by
  subst hp; exact XS.dstore h hx rfl hd rfl hl hr
theorem own_s_aloadN (h : At T m c below) (hx : tb.exec = Jvm.exec) {k : Fin 4} {v : Value} (hd : decode c.code pc = .ok (.aload_n k, 1)) (hp : pc + 1 = pc') (hl : L[k.val]? = some (.val v)) (hr0 : v.isRef = true)
    (hr : Steps tb e below (T.setTop (mkF m pc' L (v :: S))) target) : Steps tb e below (T.setTop (mkF m pc L S)) target := by
  subst hp; exact XS.aloadN h hx rfl hd hl hr0 hr
theorem own_s_aload (h : At T m c below) (hx : tb.exec = Jvm.exec) {k : Nat} {v : Value} (hd : decode c.code pc = .ok (.aload k, 2)) (hp : pc + 2 = pc') (hl : L[k]? = some (.val v)) (hr0 : v.isRef = true)
    (hr : Steps tb e below (T.setTop (mkF m pc' L (v :: S))) target) : Steps tb e below (T.setTop (mkF m pc L S)) target := by
  subst hp; exact XS.aload h hx rfl hd hl hr0 hr
theorem own_s_astoreN (h : At T m c below) (hx : tb.exec = Jvm.exec) {k : Fin 4} {v : Value} {L' : Array Slot} (hd : decode c.code pc = .ok (.astore_n k, 1)) (hp : pc + 1 = pc') (hr0 : v.isRef = true) (hl : storeLocals L k.val v = some L')
    (hr : Steps tb e below (T.setTop (mkF m pc' L' S)) target) : Steps tb e below (T.setTop (mkF m pc L (v :: S))) target := by
  subst hp; exact XS.astoreN h hx rfl hd rfl hr0 hl hr
theorem own_s_astore (h : At T m c below) (hx : tb.exec = Jvm.exec) {k : Nat} {v : Value} {L' : Array Slot} (hd : decode c.code pc = .ok (.astore k, 2)) (hp : pc + 2 = pc') (hr0 : v.isRef = true) (hl : storeLocals L k v = some L')
    (hr : Steps tb e below (T.setTop (mkF m pc' L' S)) target) : Steps tb e below (T.setTop (mkF m pc L (v :: S))) target := by
  subst hp; exact XS.astore h hx rfl hd rfl hr0 hl hr
theorem own_s_iinc (h : At T m c below) (hx : tb.exec = Jvm.exec) {k : Nat} {cst : Int} {x v : Int32} {L' : Array Slot} (hd : decode c.code pc = .ok (.iinc k cst, 3)) (hp : pc + 3 = pc') (hl : L[k]? = some (.val (.int x))) (hv : x + Int32.ofInt cst = v) (hl' : storeLocals L k (.int v) = some L')
    (hr : Steps tb e below (T.setTop (mkF m pc' L' S)) target) : Steps tb e below (T.setTop (mkF m pc L S)) target := by
  subst hv hp; exact XS.iinc h hx rfl hd hl hl' hr
theorem own_s_goto (h : At T m c below) (hx : tb.exec = Jvm.exec)  {o : Int} (hd : decode c.code pc = .ok (.goto o, 3)) (ho : 0 ≤ (pc : Int) + o) (hp : ((pc : Int) + o).toNat = pc') 
    (hr : Steps tb e below (T.setTop (mkF m pc' L S)) target) : Steps tb e below (T.setTop (mkF m pc L S)) target := by
  exact XS.goto h hx rfl rfl hd ho hp hr
theorem own_s_ifYes (h : At T m c below) (hx : tb.exec = Jvm.exec) {cd : ClassFile.Cond} {x : Int32} {o : Int} (hd : decode c.code pc = .ok (.ifCond cd o, 3)) (ho : 0 ≤ (pc : Int) + o) (hp : ((pc : Int) + o).toNat = pc') (hc : ifCond.holds cd x = true)
    (hr : Steps tb e below (T.setTop (mkF m pc' L S)) target) : Steps tb e below (T.setTop (mkF m pc L (.int x :: S))) target := by
  exact XS.ifYes h hx rfl rfl hd rfl hc ho hp hr
theorem own_s_icmpYes (h : At T m c below) (hx : tb.exec = Jvm.exec) {cd : ClassFile.Cond} {x y : Int32} {o : Int} (hd : decode c.code pc = .ok (.if_icmp cd o, 3)) (ho : 0 ≤ (pc : Int) + o) (hp : ((pc : Int) + o).toNat = pc') (hc : if_icmp.holds cd x y = true)
    (hr : Steps tb e below (T.setTop (mkF m pc' L S)) target) : Steps tb e below (T.setTop (mkF m pc L (.int y :: .int x :: S))) target := by
  exact XS.icmpYes h hx rfl rfl hd rfl hc ho hp hr
theorem own_s_ifNo (h : At T m c below) (hx : tb.exec = Jvm.exec) {cd : ClassFile.Cond} {o : Int} {x : Int32} (hd : decode c.code pc = .ok (.ifCond cd o, 3)) (hp : pc + 3 = pc') (hc : ifCond.holds cd x = false)
    (hr : Steps tb e below (T.setTop (mkF m pc' L S)) target) : Steps tb e below (T.setTop (mkF m pc L (.int x :: S))) target := by
  subst hp; exact XS.ifNo h hx rfl hd rfl hc hr
theorem own_s_icmpNo (h : At T m c below) (hx : tb.exec = Jvm.exec) {cd : ClassFile.Cond} {o : Int} {x y : Int32} (hd : decode c.code pc = .ok (.if_icmp cd o, 3)) (hp : pc + 3 = pc') (hc : if_icmp.holds cd x y = false)
    (hr : Steps tb e below (T.setTop (mkF m pc' L S)) target) : Steps tb e below (T.setTop (mkF m pc L (.int y :: .int x :: S))) target := by
  subst hp; exact XS.icmpNo h hx rfl hd rfl hc hr
theorem own_s_ifnullYes (h : At T m c below) (hx : tb.exec = Jvm.exec)  {o : Int} (hd : decode c.code pc = .ok (.ifnull o, 3)) (ho : 0 ≤ (pc : Int) + o) (hp : ((pc : Int) + o).toNat = pc') 
    (hr : Steps tb e below (T.setTop (mkF m pc' L S)) target) : Steps tb e below (T.setTop (mkF m pc L (.null :: S))) target := by
  exact XS.ifnullYes h hx rfl rfl hd rfl ho hp hr
theorem own_s_ifnullNo (h : At T m c below) (hx : tb.exec = Jvm.exec) {o : Int} {b : Addr} (hd : decode c.code pc = .ok (.ifnull o, 3)) (hp : pc + 3 = pc') 
    (hr : Steps tb e below (T.setTop (mkF m pc' L S)) target) : Steps tb e below (T.setTop (mkF m pc L (.ref b :: S))) target := by
  subst hp; exact XS.ifnullNo h hx rfl hd rfl hr
theorem own_s_ifnonnullYes (h : At T m c below) (hx : tb.exec = Jvm.exec) {b : Addr} {o : Int} (hd : decode c.code pc = .ok (.ifnonnull o, 3)) (ho : 0 ≤ (pc : Int) + o) (hp : ((pc : Int) + o).toNat = pc') 
    (hr : Steps tb e below (T.setTop (mkF m pc' L S)) target) : Steps tb e below (T.setTop (mkF m pc L (.ref b :: S))) target := by
  exact XS.ifnonnullYes h hx rfl rfl hd rfl ho hp hr
theorem own_s_ifnonnullNo (h : At T m c below) (hx : tb.exec = Jvm.exec) {o : Int} (hd : decode c.code pc = .ok (.ifnonnull o, 3)) (hp : pc + 3 = pc') 
    (hr : Steps tb e below (T.setTop (mkF m pc' L S)) target) : Steps tb e below (T.setTop (mkF m pc L (.null :: S))) target := by
  subst hp; exact XS.ifnonnullNo h hx rfl hd rfl hr
end OwnStep
section OwnHeap
open Jvm Jvm.ClassFile Sem Op Lib Jvm.Free Jvm.Stand Jvm.LawKit Jvm.RoadKit
variable {p : Program} {l : Launch} {e : Env} {R : Room} {s : State} {m : MethodId} {args : Array Value} {below : List Frame} {meth : Method} {c : Code} {T : State} {locs : List Loc} {cells slots : Nat} {Z : State} {a0 : Array Value} {h : Heap} {pc pc' : Nat} {L : Array Slot} {S : List Value} {a : Addr} {k : ClassId} {z : Int32} {vs : List Value} {dv : Value}
theorem own_newD (X : Stand p l e R s m args below meth c T locs cells slots) (hx : p.tables.exec = Jvm.exec) (hZ : Z.Warmed39 s.vm) (w : (Jvm.Cond.arrayClass .double).before a0 Z = true) (eT : T.heap = h) (n : Nat) (hz : z.toNatClampNeg = n) (hz0 : ¬ z < 0) (hb : n * 8 ≤ 536870912) (hc : cells + 1 ≤ R.cells) (hl : slots + n ≤ R.slots) (hd : decode c.code pc = .ok (.newarray .double, 2)) (hp : pc + 2 = pc') :
    ∃ T' h' k b, Stand p l e R s m args below meth c T' locs (cells + 1) (slots + n) ∧ T'.heap = h' ∧ Ext h h' ∧ b = h.size ∧ Arv Z h' b k .double z (List.replicate n (.double 0)) (.double 0) ∧ ∀ target, Steps p.tables e below (T'.setTop (mkF m pc' L (.ref b :: S))) target → Steps p.tables e below (T.setTop (mkF m pc L (.int z :: S))) target := by
  subst hp
  obtain ⟨T', h', k, X', e', E, A, st⟩ := newP X hx hZ (aty := .double) w eT (g := mkF m pc L (.int z :: S)) rfl hd rfl hz0 (cap := n) (Nat.le_of_eq hz) hb hc hl
  exact ⟨T', h', k, h.size, X', e', E, rfl, (Arv.new A hz0).pad (pad_rep [] (.double 0) n), st⟩
theorem own_newJ (X : Stand p l e R s m args below meth c T locs cells slots) (hx : p.tables.exec = Jvm.exec) (hZ : Z.Warmed39 s.vm) (w : (Jvm.Cond.arrayClass .long).before a0 Z = true) (eT : T.heap = h) (n : Nat) (hz : z.toNatClampNeg = n) (hz0 : ¬ z < 0) (hb : n * 8 ≤ 536870912) (hc : cells + 1 ≤ R.cells) (hl : slots + n ≤ R.slots) (hd : decode c.code pc = .ok (.newarray .long, 2)) (hp : pc + 2 = pc') :
    ∃ T' h' k b, Stand p l e R s m args below meth c T' locs (cells + 1) (slots + n) ∧ T'.heap = h' ∧ Ext h h' ∧ b = h.size ∧ Arv Z h' b k .long z (List.replicate n (.long 0)) (.long 0) ∧ ∀ target, Steps p.tables e below (T'.setTop (mkF m pc' L (.ref b :: S))) target → Steps p.tables e below (T.setTop (mkF m pc L (.int z :: S))) target := by
  subst hp
  obtain ⟨T', h', k, X', e', E, A, st⟩ := newP X hx hZ (aty := .long) w eT (g := mkF m pc L (.int z :: S)) rfl hd rfl hz0 (cap := n) (Nat.le_of_eq hz) hb hc hl
  exact ⟨T', h', k, h.size, X', e', E, rfl, (Arv.new A hz0).pad (pad_rep [] (.long 0) n), st⟩
theorem own_stD (X : Stand p l e R s m args below meth c T locs cells slots) (hx : p.tables.exec = Jvm.exec) (hZ : Z.Warmed39 s.vm) (eT : T.heap = h) (V : Arv Z h a k .double z vs dv) {j : Int32} {x : UInt64} (hj : ¬ j < 0 ∧ j < z) (i : Nat) (hi : j.toNatClampNeg = i) (hl : i < vs.length) (hd : decode c.code pc = .ok (.dastore, 1)) (hp : pc + 1 = pc') :
    ∃ T' h', Stand p l e R s m args below meth c T' (locs ++ [⟨a, j.toNatClampNeg⟩]) cells slots ∧ T'.heap = h' ∧ Wr h h' a j.toNatClampNeg (.double x) ∧ Arv Z h' a k .double z (vs.set i (.double x)) dv ∧ ∀ target, Steps p.tables e below (T'.setTop (mkF m pc' L S)) target → Steps p.tables e below (T.setTop (mkF m pc L (.double x :: .int j :: .ref a :: S))) target := by
  subst hp
  obtain ⟨cl, A, q1, S1, q3, H, G⟩ := V
  obtain ⟨T', h', X', e', W, st⟩ := stD X hx hZ eT A (j := j) (x := x) (inb_of S1 hj) (g := mkF m pc L (.double x :: .int j :: .ref a :: S)) rfl rfl hd
  exact ⟨T', h', X', e', W, Arv.set A q1 S1 q3 H G rfl W i hi hl, st⟩
theorem own_ldD (X : Stand p l e R s m args below meth c T locs cells slots) (hx : p.tables.exec = Jvm.exec) (hZ : Z.Warmed39 s.vm) (eT : T.heap = h) (V : Arv Z h a k .double z vs dv) {j : Int32} {x : UInt64} (hj : ¬ j < 0 ∧ j < z) (hv : vs.getD j.toNatClampNeg dv = .double x) (hd : decode c.code pc = .ok (.daload, 1)) (hp : pc + 1 = pc') {target : State}
    (hr : Steps p.tables e below (T.setTop (mkF m pc' L (.double x :: S))) target) : Steps p.tables e below (T.setTop (mkF m pc L (.int j :: .ref a :: S))) target := by
  subst hp
  obtain ⟨cl, A, q1, S1, q3, H, G⟩ := V
  exact X.daload hx (j := j) (v := .double x) (by rw [eT]; exact A.1) (State.isArrayOf_alike hZ.alike A.2.1) A.2.2 (inb_of S1 hj) (H.at (inb_of S1 hj) hv) (g := mkF m pc L (.int j :: .ref a :: S)) rfl rfl hd target hr
theorem own_len {ty : FieldType} (X : Stand p l e R s m args below meth c T locs cells slots) (hx : p.tables.exec = Jvm.exec) (hZ : Z.Warmed39 s.vm) (eT : T.heap = h) (V : Arv Z h a k ty z vs dv) (hd : decode c.code pc = .ok (.arraylength, 1)) (hp : pc + 1 = pc') {target : State}
    (hr : Steps p.tables e below (T.setTop (mkF m pc' L (.int z :: S))) target) : Steps p.tables e below (T.setTop (mkF m pc L (.ref a :: S))) target := by
  subst hp
  obtain ⟨cl, A, q1, S1, q3, H, G⟩ := V
  refine X.arraylength hx (by rw [eT]; exact A.1) (State.isArrayOf_alike hZ.alike A.2.1) (g := mkF m pc L (.ref a :: S)) rfl rfl hd target ?_
  rw [len_of S1 q3]
  exact hr
theorem own_retI (X : Stand p l e R s m args below meth c T locs cells slots) (hx : p.tables.exec = Jvm.exec) {x : Int32} (hret : meth.sig.returnType = some .int) (hd : decode c.code pc = .ok (.ireturn, 1)) {fs : List Frame}
    (hl : ∀ (f : JFrame) (acts : List Action), f.method = m → f.locked = none → f.entered = [] → (doReturn e (T.setTop f) acts (some (.int x))).1 = T.setFrames fs) : Steps p.tables e below (T.setTop (mkF m pc L (.int x :: S))) (T.setFrames fs) := by
  have hm' : T.vm.method? m = some meth := X.method'
  have hn : narrow .int (.int x) = .int x := rfl
  show Steps p.tables e below (T.setTop { method := m, pc := pc, locals := L, stack := _ :: S, locked := none }) _
  jvm_step X.here [X.here.top, hx, hd, hm', hret, hn]
  first | (intro acts; rw [hl _ acts rfl rfl rfl]) | rw [hl _ _ rfl rfl rfl]
  exact Steps.refl _
theorem own_retD (X : Stand p l e R s m args below meth c T locs cells slots) (hx : p.tables.exec = Jvm.exec) {x : UInt64} (hret : meth.sig.returnType = some .double) (hd : decode c.code pc = .ok (.dreturn, 1)) {fs : List Frame}
    (hl : ∀ (f : JFrame) (acts : List Action), f.method = m → f.locked = none → f.entered = [] → (doReturn e (T.setTop f) acts (some (.double x))).1 = T.setFrames fs) : Steps p.tables e below (T.setTop (mkF m pc L (.double x :: S))) (T.setFrames fs) := by
  have hm' : T.vm.method? m = some meth := X.method'
  show Steps p.tables e below (T.setTop { method := m, pc := pc, locals := L, stack := _ :: S, locked := none }) _
  jvm_step X.here [X.here.top, hx, hd, hm', hret, narrow]
  first | (intro acts; rw [hl _ acts rfl rfl rfl]) | rw [hl _ _ rfl rfl rfl]
  exact Steps.refl _
theorem own_retJ (X : Stand p l e R s m args below meth c T locs cells slots) (hx : p.tables.exec = Jvm.exec) {x : Int64} (hret : meth.sig.returnType = some .long) (hd : decode c.code pc = .ok (.lreturn, 1)) {fs : List Frame}
    (hl : ∀ (f : JFrame) (acts : List Action), f.method = m → f.locked = none → f.entered = [] → (doReturn e (T.setTop f) acts (some (.long x))).1 = T.setFrames fs) : Steps p.tables e below (T.setTop (mkF m pc L (.long x :: S))) (T.setFrames fs) := by
  have hm' : T.vm.method? m = some meth := X.method'
  show Steps p.tables e below (T.setTop { method := m, pc := pc, locals := L, stack := _ :: S, locked := none }) _
  jvm_step X.here [X.here.top, hx, hd, hm', hret, narrow]
  first | (intro acts; rw [hl _ acts rfl rfl rfl]) | rw [hl _ _ rfl rfl rfl]
  exact Steps.refl _
theorem own_retR (X : Stand p l e R s m args below meth c T locs cells slots) (hx : p.tables.exec = Jvm.exec) {b : Addr} {t : FieldType} (hret : meth.sig.returnType = some t) (ht : t.isReference = true) (hd : decode c.code pc = .ok (.areturn, 1)) {fs : List Frame}
    (hl : ∀ (f : JFrame) (acts : List Action), f.method = m → f.locked = none → f.entered = [] → (doReturn e (T.setTop f) acts (some (.ref b))).1 = T.setFrames fs) : Steps p.tables e below (T.setTop (mkF m pc L (.ref b :: S))) (T.setFrames fs) := by
  have hm' : T.vm.method? m = some meth := X.method'
  show Steps p.tables e below (T.setTop { method := m, pc := pc, locals := L, stack := _ :: S, locked := none }) _
  jvm_step X.here [X.here.top, hx, hd, hm', hret, Value.isRef, ht]
  first | (intro acts; rw [hl _ acts rfl rfl rfl]) | rw [hl _ _ rfl rfl rfl]
  exact Steps.refl _
end OwnHeap
open Jvm Jvm.ClassFile Sem Op Lib Jvm.Free Jvm.Stand Jvm.LawKit Jvm.RoadKit Bundle Jvm.Pilot.@@N@@.Jvm.D
def own_Q0 (n0 : Nat) (v : Option Value) (h : Heap) (L : List Loc) : Prop := v = some (.int 1) ∧ Fr n0 L
def own_QP (r : Option Value) (h0 : Heap) (n0 : Nat) (v : Option Value) (h : Heap) (L : List Loc) : Prop := v = r ∧ Fr n0 L ∧ h = h0
section OwnBal
open Jvm.FP.Core
def own_z (x : UInt64) : Int := zval b64 (val64 x)
theorem own_cz {x y : UInt64} (hx : val64 x ≠ .nan) (hy : val64 y ≠ .nan) (o : ClassFile.CmpOp) : Op.ifCond.holds .gt (Op.cmpValue (Jvm.FP.dcmp x y) o) = decide (own_z y < own_z x) ∧ Op.ifCond.holds .le (Op.cmpValue (Jvm.FP.dcmp x y) o) = decide (own_z x ≤ own_z y) ∧ Op.ifCond.holds .ge (Op.cmpValue (Jvm.FP.dcmp x y) o) = decide (own_z y ≤ own_z x) := by
  show Op.ifCond.holds .gt (Op.cmpValue (dcmp x y) o) = _ ∧ Op.ifCond.holds .le (Op.cmpValue (dcmp x y) o) = _ ∧ Op.ifCond.holds .ge (Op.cmpValue (dcmp x y) o) = _
  rw [dcmp_zval hx hy]
  unfold own_z
  rcases Int.lt_trichotomy (zval b64 (val64 x)) (zval b64 (val64 y)) with h | h | h
  · rw [(compare_lt_iff _ _).mpr h]; simp only [show zval b64 (val64 x) ≤ zval b64 (val64 y) by omega, show ¬ zval b64 (val64 y) < zval b64 (val64 x) by omega, show ¬ zval b64 (val64 y) ≤ zval b64 (val64 x) by omega]; cases o <;> decide
  · rw [(compare_eq_iff _ _).mpr h]; simp only [show zval b64 (val64 x) ≤ zval b64 (val64 y) by omega, show ¬ zval b64 (val64 y) < zval b64 (val64 x) by omega, show zval b64 (val64 y) ≤ zval b64 (val64 x) by omega]; cases o <;> decide
  · rw [(compare_gt_iff _ _).mpr h]; simp only [show ¬ zval b64 (val64 x) ≤ zval b64 (val64 y) by omega, show zval b64 (val64 y) < zval b64 (val64 x) by omega, show zval b64 (val64 y) ≤ zval b64 (val64 x) by omega]; cases o <;> decide
def own_el (d0 d1 d2 d3 : UInt64) (k : Int) : UInt64 := if k = 0 then d0 else if k = 1 then d1 else if k = 2 then d2 else d3
def own_fst (f : Int → Int) : Nat → Int → Int → Int
  | 0, lg, _ => lg
  | n + 1, lg, i => if f i ≤ f lg then own_fst f n lg (i + 1) else own_fst f n i (i + 1)
theorem own_fst_spec (f : Int → Int) (a : Int) : ∀ (n : Nat) (lg i : Int), a ≤ lg → lg < i → (∀ k, a ≤ k → k < i → f k ≤ f lg) → (∀ k, a ≤ k → k < lg → f k < f lg) →
    a ≤ own_fst f n lg i ∧ own_fst f n lg i < i + n ∧ (∀ k, a ≤ k → k < i + n → f k ≤ f (own_fst f n lg i)) ∧ (∀ k, a ≤ k → k < own_fst f n lg i → f k < f (own_fst f n lg i))
  | 0, lg, i, h1, h2, h3, h4 => by
    simp only [own_fst]
    exact ⟨h1, by omega, fun k g1 g2 => h3 k g1 (by omega), h4⟩
  | n + 1, lg, i, h1, h2, h3, h4 => by
    simp only [own_fst]
    by_cases h : f i ≤ f lg
    · rw [if_pos h]
      have := own_fst_spec f a n lg (i + 1) h1 (by omega) (fun k g1 g2 => by by_cases e : k = i; · subst e; exact h
                                                                             · exact h3 k g1 (by omega)) h4
      refine ⟨this.1, by omega, fun k g1 g2 => this.2.2.1 k g1 (by omega), this.2.2.2⟩
    · rw [if_neg h]
      have h' : f lg < f i := by omega
      have := own_fst_spec f a n i (i + 1) (by omega) (by omega) (fun k g1 g2 => by by_cases e : k = i; · subst e; exact Int.le_refl _
                                                                                    · have := h3 k g1 (by omega); omega) (fun k g1 g2 => by have := h3 k g1 g2; omega)
      refine ⟨this.1, by omega, fun k g1 g2 => this.2.2.1 k g1 (by omega), this.2.2.2⟩
end OwnBal
theorem own_getD (d0 d1 d2 d3 : UInt64) {j : Int32} (h : 0 ≤ j.toInt ∧ j.toInt < 4) : ([(.double d0), (.double d1), (.double d2), (.double d3)] : List Value).getD (Int32.toNatClampNeg j) (.double 0) = .double (own_el d0 d1 d2 d3 j.toInt) := by
  have hj : Int32.toNatClampNeg j = j.toInt.toNat := rfl
  rw [hj]
  have : j.toInt = 0 ∨ j.toInt = 1 ∨ j.toInt = 2 ∨ j.toInt = 3 := by omega
  rcases this with e | e | e | e <;> rw [e] <;> rfl
theorem own_inb {j : Int32} (h : 0 ≤ j.toInt ∧ j.toInt < 4) : ¬ j < 0 ∧ j < 4 := ⟨fun q => by have q1 := Int32.lt_iff_toInt_lt.mp q; rw [show (0 : Int32).toInt = 0 from rfl] at q1; omega, Int32.lt_iff_toInt_lt.mpr (by rw [show (4 : Int32).toInt = 4 from rfl]; omega)⟩
theorem own_d1_8 : decode prog_57_method_9_code 8 = .ok (.iload 6, 2) := by decide +kernel
theorem own_d1_10 : decode prog_57_method_9_code 10 = .ok (.iload_n 2, 1) := by decide +kernel
theorem own_d1_11 : decode prog_57_method_9_code 11 = .ok (.if_icmp .ge 25, 3) := by decide +kernel
theorem own_d1_14 : decode prog_57_method_9_code 14 = .ok (.aload_n 0, 1) := by decide +kernel
theorem own_d1_15 : decode prog_57_method_9_code 15 = .ok (.iload 6, 2) := by decide +kernel
theorem own_d1_17 : decode prog_57_method_9_code 17 = .ok (.daload, 1) := by decide +kernel
theorem own_d1_18 : decode prog_57_method_9_code 18 = .ok (.aload_n 0, 1) := by decide +kernel
theorem own_d1_19 : decode prog_57_method_9_code 19 = .ok (.iload 5, 2) := by decide +kernel
theorem own_d1_21 : decode prog_57_method_9_code 21 = .ok (.daload, 1) := by decide +kernel
theorem own_d1_22 : decode prog_57_method_9_code 22 = .ok (.dcmp .l, 1) := by decide +kernel
theorem own_d1_23 : decode prog_57_method_9_code 23 = .ok (.ifCond .le 7, 3) := by decide +kernel
theorem own_d1_30 : decode prog_57_method_9_code 30 = .ok (.iinc 6 1, 3) := by decide +kernel
theorem own_d1_33 : decode prog_57_method_9_code 33 = .ok (.goto (-25), 3) := by decide +kernel
set_option maxRecDepth 65536 in
set_option maxHeartbeats 40000000 in
theorem own_seg_tk {p : Program} {l : Launch} {e : Env} {R : Room} {s : State} {m : MethodId} {args : Array Value} {below : List Frame} {meth : Method} {c : Code} {T0 : State} {locs : List Loc} {cells slots : Nat} {Z : State} {a0 : Array Value} {h0 : Heap} (q : Addr) (d0 : UInt64) (d1 : UInt64) (d2 : UInt64) (d3 : UInt64) (frm : Int32) (to : Int32) (sum : UInt64) (lg : Int32) (i : Int32) {qk : ClassId} {tk_v17 : UInt64} {tk_v21 : UInt64} {tk_v30 : Int32}
    (X0 : Stand p l e R s m args below meth c T0 locs cells slots) (hx : p.tables.exec = Jvm.exec) (hZ : Z.Warmed39 s.vm) (hw : ∀ d ∈ tables_1, d.before a0 Z = true) (hby : c.code = prog_57_method_9_code) (hml : c.maxLocals = 7) (hown : s.vm.findClass "com/example/libcredal/libcredal/core/OutwardRounding" = some m.cls) (e0 : T0.heap = h0) (V_q : Arv Z h0 q qk .double (4 : Int32) [(.double d0), (.double d1), (.double d2), (.double d3)] (.double 0)) (tk_hb11 : if_icmp.holds .ge i to = false) (tk_hin17 : ¬ i < 0 ∧ i < (4 : Int32)) (tk_hel17 : ([(.double d0), (.double d1), (.double d2), (.double d3)] : List Value).getD (Int32.toNatClampNeg i) (.double 0) = (.double tk_v17)) (tk_hin21 : ¬ lg < 0 ∧ lg < (4 : Int32)) (tk_hel21 : ([(.double d0), (.double d1), (.double d2), (.double d3)] : List Value).getD (Int32.toNatClampNeg lg) (.double 0) = (.double tk_v21)) (tk_hb23 : ifCond.holds .le (Op.cmpValue (FP.dcmp tk_v17 tk_v21) .l) = true) (tk_hv30 : i + Int32.ofInt 1 = tk_v30) :
    ∃ (T' : State), Stand p l e R s m args below meth c T' locs cells slots ∧ T'.heap = h0 ∧ ∀ target, Steps p.tables e below (T'.setTop (mkF m 8 #[.val (.ref q), .val (.int frm), .val (.int to), .val (.double sum), .second, .val (.int lg), .val (.int tk_v30)] [])) target → Steps p.tables e below (T0.setTop (mkF m 8 #[.val (.ref q), .val (.int frm), .val (.int to), .val (.double sum), .second, .val (.int lg), .val (.int i)] [])) target := by
  refine ⟨T0, X0, e0, fun target kt => ?_⟩
  refine own_s_iload X0.here hx (hb hby own_d1_8) (pc' := 10) rfl rfl ?_
  refine own_s_iloadN X0.here hx (hb hby own_d1_10) (pc' := 11) rfl rfl ?_
  refine own_s_icmpNo X0.here hx (hb hby own_d1_11) (pc' := 14) rfl tk_hb11 ?_
  refine own_s_aloadN X0.here hx (hb hby own_d1_14) (pc' := 15) rfl rfl rfl ?_
  refine own_s_iload X0.here hx (hb hby own_d1_15) (pc' := 17) rfl rfl ?_
  refine own_ldD X0 hx hZ e0 V_q (j := i) (x := tk_v17) tk_hin17 tk_hel17 (hb hby own_d1_17) (pc' := 18) rfl ?_
  refine own_s_aloadN X0.here hx (hb hby own_d1_18) (pc' := 19) rfl rfl rfl ?_
  refine own_s_iload X0.here hx (hb hby own_d1_19) (pc' := 21) rfl rfl ?_
  refine own_ldD X0 hx hZ e0 V_q (j := lg) (x := tk_v21) tk_hin21 tk_hel21 (hb hby own_d1_21) (pc' := 22) rfl ?_
  refine own_s_dcmp X0.here hx (hb hby own_d1_22) (pc' := 23) rfl (v := (Op.cmpValue (FP.dcmp tk_v17 tk_v21) .l)) rfl ?_
  refine own_s_ifYes X0.here hx (hb hby own_d1_23) (by decide) (pc' := 30) (by decide) tk_hb23 ?_
  refine own_s_iinc X0.here hx (hb hby own_d1_30) (pc' := 33) rfl rfl (v := tk_v30) tk_hv30 (L' := #[.val (.ref q), .val (.int frm), .val (.int to), .val (.double sum), .second, .val (.int lg), .val (.int tk_v30)]) rfl ?_
  refine own_s_goto X0.here hx (hb hby own_d1_33) (by decide) (pc' := 8) (by decide) ?_
  exact kt
theorem own_d1_26 : decode prog_57_method_9_code 26 = .ok (.iload 6, 2) := by decide +kernel
theorem own_d1_28 : decode prog_57_method_9_code 28 = .ok (.istore 5, 2) := by decide +kernel
set_option maxRecDepth 65536 in
set_option maxHeartbeats 40000000 in
theorem own_seg_tg {p : Program} {l : Launch} {e : Env} {R : Room} {s : State} {m : MethodId} {args : Array Value} {below : List Frame} {meth : Method} {c : Code} {T0 : State} {locs : List Loc} {cells slots : Nat} {Z : State} {a0 : Array Value} {h0 : Heap} (q : Addr) (d0 : UInt64) (d1 : UInt64) (d2 : UInt64) (d3 : UInt64) (frm : Int32) (to : Int32) (sum : UInt64) (lg : Int32) (i : Int32) {qk : ClassId} {tg_v17 : UInt64} {tg_v21 : UInt64} {tg_v30 : Int32}
    (X0 : Stand p l e R s m args below meth c T0 locs cells slots) (hx : p.tables.exec = Jvm.exec) (hZ : Z.Warmed39 s.vm) (hw : ∀ d ∈ tables_1, d.before a0 Z = true) (hby : c.code = prog_57_method_9_code) (hml : c.maxLocals = 7) (hown : s.vm.findClass "com/example/libcredal/libcredal/core/OutwardRounding" = some m.cls) (e0 : T0.heap = h0) (V_q : Arv Z h0 q qk .double (4 : Int32) [(.double d0), (.double d1), (.double d2), (.double d3)] (.double 0)) (tg_hb11 : if_icmp.holds .ge i to = false) (tg_hin17 : ¬ i < 0 ∧ i < (4 : Int32)) (tg_hel17 : ([(.double d0), (.double d1), (.double d2), (.double d3)] : List Value).getD (Int32.toNatClampNeg i) (.double 0) = (.double tg_v17)) (tg_hin21 : ¬ lg < 0 ∧ lg < (4 : Int32)) (tg_hel21 : ([(.double d0), (.double d1), (.double d2), (.double d3)] : List Value).getD (Int32.toNatClampNeg lg) (.double 0) = (.double tg_v21)) (tg_hb23 : ifCond.holds .le (Op.cmpValue (FP.dcmp tg_v17 tg_v21) .l) = false) (tg_hv30 : i + Int32.ofInt 1 = tg_v30) :
    ∃ (T' : State), Stand p l e R s m args below meth c T' locs cells slots ∧ T'.heap = h0 ∧ ∀ target, Steps p.tables e below (T'.setTop (mkF m 8 #[.val (.ref q), .val (.int frm), .val (.int to), .val (.double sum), .second, .val (.int i), .val (.int tg_v30)] [])) target → Steps p.tables e below (T0.setTop (mkF m 8 #[.val (.ref q), .val (.int frm), .val (.int to), .val (.double sum), .second, .val (.int lg), .val (.int i)] [])) target := by
  refine ⟨T0, X0, e0, fun target kt => ?_⟩
  refine own_s_iload X0.here hx (hb hby own_d1_8) (pc' := 10) rfl rfl ?_
  refine own_s_iloadN X0.here hx (hb hby own_d1_10) (pc' := 11) rfl rfl ?_
  refine own_s_icmpNo X0.here hx (hb hby own_d1_11) (pc' := 14) rfl tg_hb11 ?_
  refine own_s_aloadN X0.here hx (hb hby own_d1_14) (pc' := 15) rfl rfl rfl ?_
  refine own_s_iload X0.here hx (hb hby own_d1_15) (pc' := 17) rfl rfl ?_
  refine own_ldD X0 hx hZ e0 V_q (j := i) (x := tg_v17) tg_hin17 tg_hel17 (hb hby own_d1_17) (pc' := 18) rfl ?_
  refine own_s_aloadN X0.here hx (hb hby own_d1_18) (pc' := 19) rfl rfl rfl ?_
  refine own_s_iload X0.here hx (hb hby own_d1_19) (pc' := 21) rfl rfl ?_
  refine own_ldD X0 hx hZ e0 V_q (j := lg) (x := tg_v21) tg_hin21 tg_hel21 (hb hby own_d1_21) (pc' := 22) rfl ?_
  refine own_s_dcmp X0.here hx (hb hby own_d1_22) (pc' := 23) rfl (v := (Op.cmpValue (FP.dcmp tg_v17 tg_v21) .l)) rfl ?_
  refine own_s_ifNo X0.here hx (hb hby own_d1_23) (pc' := 26) rfl tg_hb23 ?_
  refine own_s_iload X0.here hx (hb hby own_d1_26) (pc' := 28) rfl rfl ?_
  refine own_s_istore X0.here hx (hb hby own_d1_28) (pc' := 30) rfl (L' := #[.val (.ref q), .val (.int frm), .val (.int to), .val (.double sum), .second, .val (.int i), .val (.int i)]) rfl ?_
  refine own_s_iinc X0.here hx (hb hby own_d1_30) (pc' := 33) rfl rfl (v := tg_v30) tg_hv30 (L' := #[.val (.ref q), .val (.int frm), .val (.int to), .val (.double sum), .second, .val (.int i), .val (.int tg_v30)]) rfl ?_
  refine own_s_goto X0.here hx (hb hby own_d1_33) (by decide) (pc' := 8) (by decide) ?_
  exact kt
set_option maxRecDepth 65536 in
set_option maxHeartbeats 40000000 in
theorem own_seg_tx {p : Program} {l : Launch} {e : Env} {R : Room} {s : State} {m : MethodId} {args : Array Value} {below : List Frame} {meth : Method} {c : Code} {T0 : State} {locs : List Loc} {cells slots : Nat} {Z : State} {a0 : Array Value} {h0 : Heap} (q : Addr) (d0 : UInt64) (d1 : UInt64) (d2 : UInt64) (d3 : UInt64) (frm : Int32) (to : Int32) (sum : UInt64) (lg : Int32) (i : Int32) {qk : ClassId}
    (X0 : Stand p l e R s m args below meth c T0 locs cells slots) (hx : p.tables.exec = Jvm.exec) (hZ : Z.Warmed39 s.vm) (hw : ∀ d ∈ tables_1, d.before a0 Z = true) (hby : c.code = prog_57_method_9_code) (hml : c.maxLocals = 7) (hown : s.vm.findClass "com/example/libcredal/libcredal/core/OutwardRounding" = some m.cls) (e0 : T0.heap = h0) (V_q : Arv Z h0 q qk .double (4 : Int32) [(.double d0), (.double d1), (.double d2), (.double d3)] (.double 0)) (tx_hb11 : if_icmp.holds .ge i to = true) :
    ∃ (T' : State), Stand p l e R s m args below meth c T' locs cells slots ∧ T'.heap = h0 ∧ ∀ target, Steps p.tables e below (T'.setTop (mkF m 36 #[.val (.ref q), .val (.int frm), .val (.int to), .val (.double sum), .second, .val (.int lg), .val (.int i)] [])) target → Steps p.tables e below (T0.setTop (mkF m 8 #[.val (.ref q), .val (.int frm), .val (.int to), .val (.double sum), .second, .val (.int lg), .val (.int i)] [])) target := by
  refine ⟨T0, X0, e0, fun target kt => ?_⟩
  refine own_s_iload X0.here hx (hb hby own_d1_8) (pc' := 10) rfl rfl ?_
  refine own_s_iloadN X0.here hx (hb hby own_d1_10) (pc' := 11) rfl rfl ?_
  refine own_s_icmpYes X0.here hx (hb hby own_d1_11) (by decide) (pc' := 36) (by decide) tx_hb11 ?_
  exact kt
set_option maxRecDepth 65536 in
set_option maxHeartbeats 40000000 in
theorem own_loop {p : Program} {l : Launch} {e : Env} {R : Room} {s : State} {m : MethodId} {args : Array Value} {below : List Frame} {meth : Method} {c : Code} {locs : List Loc} {cells slots : Nat} {Z : State} {a0 : Array Value} {h0 : Heap} {q : Addr} {qk : ClassId} {d0 d1 d2 d3 : UInt64} {frm to : Int32} {sum : UInt64}
    (hx : p.tables.exec = Jvm.exec) (hZ : Z.Warmed39 s.vm) (hw : ∀ d ∈ tables_1, d.before a0 Z = true) (hby : c.code = prog_57_method_9_code) (hml : c.maxLocals = 7) (hown : s.vm.findClass "com/example/libcredal/libcredal/core/OutwardRounding" = some m.cls) (V_q : Arv Z h0 q qk .double (4 : Int32) [(.double d0), (.double d1), (.double d2), (.double d3)] (.double 0))
    (hto : to.toInt ≤ 4) (hnn : ∀ k, Jvm.FP.Core.val64 (own_el d0 d1 d2 d3 k) ≠ .nan) :
    ∀ (n : Nat) (lg i : Int32) (T0 : State), 0 ≤ lg.toInt → lg.toInt < i.toInt → i.toInt + n = to.toInt → Stand p l e R s m args below meth c T0 locs cells slots → T0.heap = h0 →
      ∃ (T' : State), Stand p l e R s m args below meth c T' locs cells slots ∧ T'.heap = h0 ∧ ∀ target, Steps p.tables e below (T'.setTop (mkF m 36 #[.val (.ref q), .val (.int frm), .val (.int to), .val (.double sum), .second, .val (.int (Int32.ofInt (own_fst (fun k => own_z (own_el d0 d1 d2 d3 k)) n lg.toInt i.toInt))), .val (.int to)] [])) target → Steps p.tables e below (T0.setTop (mkF m 8 #[.val (.ref q), .val (.int frm), .val (.int to), .val (.double sum), .second, .val (.int lg), .val (.int i)] [])) target
  | 0, lg, i, T0, g1, g2, g3, X0, e0 => by
    have hit : i = to := Int32.toInt_inj.mp (by omega)
    subst hit
    obtain ⟨T', X', e', st⟩ := own_seg_tx q d0 d1 d2 d3 frm i sum lg i X0 hx hZ hw hby hml hown e0 V_q (XT.ii_ge_t (fun h => by have := Int32.lt_iff_toInt_lt.mp h; omega))
    refine ⟨T', X', e', fun target kt => st target ?_⟩
    simp only [own_fst, Int32.ofInt_toInt] at kt
    exact kt
  | n + 1, lg, i, T0, g1, g2, g3, X0, e0 => by
    have hb11 : if_icmp.holds .ge i to = false := XT.ii_ge_f (Int32.lt_iff_toInt_lt.mpr (by omega))
    have bi : 0 ≤ i.toInt ∧ i.toInt < 4 := by omega
    have bl : 0 ≤ lg.toInt ∧ lg.toInt < 4 := by omega
    have hi1 : (i + Int32.ofInt 1).toInt = i.toInt + 1 := by rw [Int32.toInt_add, show (Int32.ofInt 1).toInt = 1 by decide]; exact Int.bmod_eq_of_le (by omega) (by omega)
    have cz := (own_cz (hnn i.toInt) (hnn lg.toInt) .l).2.1
    by_cases h : own_z (own_el d0 d1 d2 d3 i.toInt) ≤ own_z (own_el d0 d1 d2 d3 lg.toInt)
    · obtain ⟨T1, X1, e1, st1⟩ := own_seg_tk q d0 d1 d2 d3 frm to sum lg i X0 hx hZ hw hby hml hown e0 V_q hb11 (own_inb bi) (own_getD d0 d1 d2 d3 bi) (own_inb bl) (own_getD d0 d1 d2 d3 bl) (by rw [cz]; exact decide_eq_true h) rfl
      obtain ⟨T', X', e', st⟩ := own_loop hx hZ hw hby hml hown V_q hto hnn n lg (i + Int32.ofInt 1) T1 g1 (by omega) (by omega) X1 e1
      refine ⟨T', X', e', fun target kt => st1 target (st target ?_)⟩
      simp only [own_fst] at kt
      rw [if_pos h] at kt
      rw [hi1]
      exact kt
    · obtain ⟨T1, X1, e1, st1⟩ := own_seg_tg q d0 d1 d2 d3 frm to sum lg i X0 hx hZ hw hby hml hown e0 V_q hb11 (own_inb bi) (own_getD d0 d1 d2 d3 bi) (own_inb bl) (own_getD d0 d1 d2 d3 bl) (by rw [cz]; exact decide_eq_false h) rfl
      obtain ⟨T', X', e', st⟩ := own_loop hx hZ hw hby hml hown V_q hto hnn n i (i + Int32.ofInt 1) T1 bi.1 (by omega) (by omega) X1 e1
      refine ⟨T', X', e', fun target kt => st1 target (st target ?_)⟩
      simp only [own_fst] at kt
      rw [if_neg h] at kt
      rw [hi1]
      exact kt
def own_r (d0 d1 d2 d3 : UInt64) (frm to : Int32) (s1 : UInt64) : Int32 := if own_z (own_el d0 d1 d2 d3 (own_fst (fun k => own_z (own_el d0 d1 d2 d3 k)) (to.toInt - frm.toInt - 1).toNat frm.toInt (frm.toInt + 1))) ≤ own_z s1 then -1 else Int32.ofInt (own_fst (fun k => own_z (own_el d0 d1 d2 d3 k)) (to.toInt - frm.toInt - 1).toNat frm.toInt (frm.toInt + 1))
theorem own_G (d0 d1 d2 d3 : UInt64) {frm to : Int32} (h : 0 ≤ frm.toInt ∧ frm.toInt < to.toInt ∧ to.toInt ≤ 4) : (frm.toInt ≤ (own_fst (fun k => own_z (own_el d0 d1 d2 d3 k)) (to.toInt - frm.toInt - 1).toNat frm.toInt (frm.toInt + 1)) ∧ (own_fst (fun k => own_z (own_el d0 d1 d2 d3 k)) (to.toInt - frm.toInt - 1).toNat frm.toInt (frm.toInt + 1)) < to.toInt) ∧ (Int32.ofInt (own_fst (fun k => own_z (own_el d0 d1 d2 d3 k)) (to.toInt - frm.toInt - 1).toNat frm.toInt (frm.toInt + 1))).toInt = (own_fst (fun k => own_z (own_el d0 d1 d2 d3 k)) (to.toInt - frm.toInt - 1).toNat frm.toInt (frm.toInt + 1)) ∧ (∀ k, frm.toInt ≤ k → k < to.toInt → own_z (own_el d0 d1 d2 d3 k) ≤ own_z (own_el d0 d1 d2 d3 (own_fst (fun k => own_z (own_el d0 d1 d2 d3 k)) (to.toInt - frm.toInt - 1).toNat frm.toInt (frm.toInt + 1)))) ∧ (∀ k, frm.toInt ≤ k → k < (own_fst (fun k => own_z (own_el d0 d1 d2 d3 k)) (to.toInt - frm.toInt - 1).toNat frm.toInt (frm.toInt + 1)) → own_z (own_el d0 d1 d2 d3 k) < own_z (own_el d0 d1 d2 d3 (own_fst (fun k => own_z (own_el d0 d1 d2 d3 k)) (to.toInt - frm.toInt - 1).toNat frm.toInt (frm.toInt + 1)))) := by
  have b1 : ∀ k : Int, frm.toInt ≤ k → k < frm.toInt + 1 → own_z (own_el d0 d1 d2 d3 k) ≤ own_z (own_el d0 d1 d2 d3 frm.toInt) := by
    intro k h1 h2
    have hk : k = frm.toInt := by omega
    rw [hk]; exact Int.le_refl _
  have g := own_fst_spec (fun k => own_z (own_el d0 d1 d2 d3 k)) frm.toInt (to.toInt - frm.toInt - 1).toNat frm.toInt (frm.toInt + 1) (Int.le_refl _) (by omega) b1 (fun k h1 h2 => by omega)
  obtain ⟨g1, g2, g3, g4⟩ := g
  refine ⟨⟨g1, by omega⟩, ?_, fun k h1 h2 => g3 k h1 (by omega), g4⟩
  rw [Int32.toInt_ofInt, show Int32.size = 4294967296 from rfl]; exact Int.bmod_eq_of_le (by omega) (by omega)
theorem own_d1_0 : decode prog_57_method_9_code 0 = .ok (.iload_n 1, 1) := by decide +kernel
theorem own_d1_1 : decode prog_57_method_9_code 1 = .ok (.istore 5, 2) := by decide +kernel
theorem own_d1_3 : decode prog_57_method_9_code 3 = .ok (.iload_n 1, 1) := by decide +kernel
theorem own_d1_4 : decode prog_57_method_9_code 4 = .ok (.iconst 1, 1) := by decide +kernel
theorem own_d1_5 : decode prog_57_method_9_code 5 = .ok (.iadd, 1) := by decide +kernel
theorem own_d1_6 : decode prog_57_method_9_code 6 = .ok (.istore 6, 2) := by decide +kernel
theorem own_d1_36 : decode prog_57_method_9_code 36 = .ok (.aload_n 0, 1) := by decide +kernel
theorem own_d1_37 : decode prog_57_method_9_code 37 = .ok (.iload 5, 2) := by decide +kernel
theorem own_d1_39 : decode prog_57_method_9_code 39 = .ok (.daload, 1) := by decide +kernel
theorem own_d1_40 : decode prog_57_method_9_code 40 = .ok (.dload_n 3, 1) := by decide +kernel
theorem own_d1_41 : decode prog_57_method_9_code 41 = .ok (.dconst 1, 1) := by decide +kernel
theorem own_d1_42 : decode prog_57_method_9_code 42 = .ok (.dsub, 1) := by decide +kernel
theorem own_d1_43 : decode prog_57_method_9_code 43 = .ok (.dcmp .l, 1) := by decide +kernel
theorem own_d1_44 : decode prog_57_method_9_code 44 = .ok (.ifCond .le 8, 3) := by decide +kernel
theorem own_d1_52 : decode prog_57_method_9_code 52 = .ok (.iconst (-1), 1) := by decide +kernel
theorem own_d1_53 : decode prog_57_method_9_code 53 = .ok (.ireturn, 1) := by decide +kernel
theorem own_pn_com_example_libcredal_libcredal_core_OutwardRounding : plainName "com/example/libcredal/libcredal/core/OutwardRounding" = true := by first | (simp [plainName, overriddenIn]; done) | decide +kernel
theorem own_ef_bt (m : MethodId) (q : Addr) (frm : Int32) (to : Int32) (sum : UInt64) : entryFrame m #[(.ref q), (.int frm), (.int to), (.double sum)] 7 = mkF m 0 #[.val (.ref q), .val (.int frm), .val (.int to), .val (.double sum), .second, .unset, .unset] [] := by first | (simp [entryFrame, mkF, argsToLocals, Value.category]; done) | rfl
set_option maxRecDepth 65536 in
set_option maxHeartbeats 40000000 in
theorem own_rm_bt (l : Launch) (Z : State) (a0 : Array Value) (hw : ∀ d ∈ tables_1, d.before a0 Z = true) (ws : List Jvm.Cond) (q : Addr) (d0 : UInt64) (d1 : UInt64) (d2 : UInt64) (d3 : UInt64) (frm : Int32) (to : Int32) (sum : UInt64) {qk : ClassId} {bt_v5 : Int32} {bt_v39 : UInt64} {bt_v42 : UInt64} (h0 : Heap) (n0 : Nat) (Z0 : n0 ≤ h0.size) (V_q : Arv Z h0 q qk .double (4 : Int32) [(.double d0), (.double d1), (.double d2), (.double d3)] (.double 0)) (bt_hv5 : frm + (1 : Int32) = bt_v5) (bt_hlo : 0 ≤ frm.toInt ∧ frm.toInt < to.toInt ∧ to.toInt ≤ 4) (bt_hnn : ∀ k, Jvm.FP.Core.val64 (own_el d0 d1 d2 d3 k) ≠ .nan) (bt_hin39 : ¬ (Int32.ofInt (own_fst (fun k => own_z (own_el d0 d1 d2 d3 k)) (to.toInt - frm.toInt - 1).toNat frm.toInt (frm.toInt + 1))) < 0 ∧ (Int32.ofInt (own_fst (fun k => own_z (own_el d0 d1 d2 d3 k)) (to.toInt - frm.toInt - 1).toNat frm.toInt (frm.toInt + 1))) < (4 : Int32)) (bt_hel39 : ([(.double d0), (.double d1), (.double d2), (.double d3)] : List Value).getD (Int32.toNatClampNeg (Int32.ofInt (own_fst (fun k => own_z (own_el d0 d1 d2 d3 k)) (to.toInt - frm.toInt - 1).toNat frm.toInt (frm.toInt + 1)))) (.double 0) = (.double bt_v39)) (bt_hn42 : Jvm.Free.Fl.NoNaN64 (FP.dsub sum 4607182418800017408)) (bt_hv42 : FP.dsub sum 4607182418800017408 = bt_v42) (bt_hb44 : ifCond.holds .le (Op.cmpValue (FP.dcmp bt_v39 bt_v42) .l) = true) :
    MetFree l (⟨"com/example/libcredal/libcredal/core/OutwardRounding", "balancing", "([DIID)I"⟩ : MethodName) (head1 (Jvm.Cond.code (⟨"com/example/libcredal/libcredal/core/OutwardRounding", "balancing", "([DIID)I"⟩ : MethodName) prog_57_method_9_code 7 (some .int) :: ws) ({ frames := 0, cells := 0, slots := 0, locals := 0 } : Room)) (fun a U => a = #[(.ref q), (.int frm), (.int to), (.double sum)] ∧ Z.Warmed39 U.vm ∧ U.heap = h0) (fun _ _ _ _ _ => True) (fun _ U o U' => ∃ v L, o = .returned v ∧ own_QP (some (.int (-1 : Int32))) h0 n0 v U'.heap L ∧ FrameEnd U o U' L ({ frames := 0, cells := 0, slots := 0, locals := 0 } : Room).cells ({ frames := 0, cells := 0, slots := 0, locals := 0 } : Room).slots) := by
  refine MetFree.of_bodySF (plainFor_of_name own_pn_com_example_libcredal_libcredal_core_OutwardRounding) hisR ?_
  intro p e s m args below meth c s₁ Bd hml0 hP hK
  obtain ⟨rfl, hZ, hh⟩ := hP
  have hx := Bd.exec
  have hby := Bd.bytes
  have hml : c.maxLocals = 7 := hml0
  have hown : s.vm.findClass "com/example/libcredal/libcredal/core/OutwardRounding" = some m.cls := findClass_of_methodNamed Bd.named
  have hnm := (name_of_methodNamed Bd.named Bd.method).1
  have X0 : Stand p l e ({ frames := 0, cells := 0, slots := 0, locals := 0 } : Room) s m #[(.ref q), (.int frm), (.int to), (.double sum)] below meth c s₁ [] 0 0 := Stand.of_body Bd
  have e0 : s₁.heap = h0 := by rw [← hh, Bd.state]; rfl
  have N0 := Fr.nil n0
  have pre0 : ∀ t, Steps p.tables e below (s₁.setTop (mkF m 0 #[.val (.ref q), .val (.int frm), .val (.int to), .val (.double sum), .second, .unset, .unset] [])) t → Steps p.tables e below (s₁.setTop (entryFrame m #[(.ref q), (.int frm), (.int to), (.double sum)] 7)) t := fun t k => castTop (own_ef_bt m q frm to sum) k
  have hibt1 : (bt_v5).toInt = frm.toInt + 1 := by rw [← bt_hv5, Int32.toInt_add, show (1 : Int32).toInt = 1 from rfl]; exact Int.bmod_eq_of_le (by omega) (by omega)
  obtain ⟨Tbt1, Xbt1, ebt1, stbt1⟩ := own_loop (sum := sum) (frm := frm) hx hZ hw hby hml hown V_q bt_hlo.2.2 bt_hnn (to.toInt - frm.toInt - 1).toNat frm bt_v5 s₁ (by omega) (by omega) (by omega) X0 e0
  rw [hibt1] at stbt1
  obtain ⟨fs, hr, hrun, hended, hW, hsame⟩ := Xbt1.leave (v := some (.int (-1 : Int32))) (fun h => by rw [Bd.returns] at h; cases h)
  refine ⟨_, _, pre0 _ ?_, hrun, hended, _, _, rfl, ?_, ⟨_, rfl⟩, hW, hsame.mono (by decide) (by decide)⟩
  · refine own_s_iloadN X0.here hx (hb hby own_d1_0) (pc' := 1) rfl rfl ?_
    refine own_s_istore X0.here hx (hb hby own_d1_1) (pc' := 3) rfl (L' := #[.val (.ref q), .val (.int frm), .val (.int to), .val (.double sum), .second, .val (.int frm), .unset]) rfl ?_
    refine own_s_iloadN X0.here hx (hb hby own_d1_3) (pc' := 4) rfl rfl ?_
    refine own_s_iconst X0.here hx (hb hby own_d1_4) (pc' := 5) rfl (v := (1 : Int32)) (by decide) ?_
    refine own_s_iadd X0.here hx (hb hby own_d1_5) (pc' := 6) rfl (v := bt_v5) bt_hv5 ?_
    refine own_s_istore X0.here hx (hb hby own_d1_6) (pc' := 8) rfl (L' := #[.val (.ref q), .val (.int frm), .val (.int to), .val (.double sum), .second, .val (.int frm), .val (.int bt_v5)]) rfl ?_
    refine stbt1 _ ?_
    refine own_s_aloadN Xbt1.here hx (hb hby own_d1_36) (pc' := 37) rfl rfl rfl ?_
    refine own_s_iload Xbt1.here hx (hb hby own_d1_37) (pc' := 39) rfl rfl ?_
    refine own_ldD Xbt1 hx hZ ebt1 V_q (j := (Int32.ofInt (own_fst (fun k => own_z (own_el d0 d1 d2 d3 k)) (to.toInt - frm.toInt - 1).toNat frm.toInt (frm.toInt + 1)))) (x := bt_v39) bt_hin39 bt_hel39 (hb hby own_d1_39) (pc' := 40) rfl ?_
    refine own_s_dloadN Xbt1.here hx (hb hby own_d1_40) (pc' := 41) rfl rfl ?_
    refine own_s_dconst1 Xbt1.here hx (hb hby own_d1_41) (pc' := 42) rfl  ?_
    refine own_s_dsub Xbt1.here hx (hb hby own_d1_42) (pc' := 43) rfl bt_hn42 (v := bt_v42) bt_hv42 ?_
    refine own_s_dcmp Xbt1.here hx (hb hby own_d1_43) (pc' := 44) rfl (v := (Op.cmpValue (FP.dcmp bt_v39 bt_v42) .l)) rfl ?_
    refine own_s_ifYes Xbt1.here hx (hb hby own_d1_44) (by decide) (pc' := 52) (by decide) bt_hb44 ?_
    refine own_s_iconst Xbt1.here hx (hb hby own_d1_52) (pc' := 53) rfl (v := (-1 : Int32)) (by decide) ?_
    exact own_retI Xbt1 hx Bd.returns (hb hby own_d1_53) hr
  · show own_QP (some (.int (-1 : Int32))) h0 n0 _ Tbt1.heap _
    rw [ebt1]
    exact ⟨rfl, N0, rfl⟩
theorem own_d1_47 : decode prog_57_method_9_code 47 = .ok (.iload 5, 2) := by decide +kernel
theorem own_d1_49 : decode prog_57_method_9_code 49 = .ok (.goto 4, 3) := by decide +kernel
theorem own_ef_bf (m : MethodId) (q : Addr) (frm : Int32) (to : Int32) (sum : UInt64) : entryFrame m #[(.ref q), (.int frm), (.int to), (.double sum)] 7 = mkF m 0 #[.val (.ref q), .val (.int frm), .val (.int to), .val (.double sum), .second, .unset, .unset] [] := by first | (simp [entryFrame, mkF, argsToLocals, Value.category]; done) | rfl
set_option maxRecDepth 65536 in
set_option maxHeartbeats 40000000 in
theorem own_rm_bf (l : Launch) (Z : State) (a0 : Array Value) (hw : ∀ d ∈ tables_1, d.before a0 Z = true) (ws : List Jvm.Cond) (q : Addr) (d0 : UInt64) (d1 : UInt64) (d2 : UInt64) (d3 : UInt64) (frm : Int32) (to : Int32) (sum : UInt64) {qk : ClassId} {bf_v5 : Int32} {bf_v39 : UInt64} {bf_v42 : UInt64} (h0 : Heap) (n0 : Nat) (Z0 : n0 ≤ h0.size) (V_q : Arv Z h0 q qk .double (4 : Int32) [(.double d0), (.double d1), (.double d2), (.double d3)] (.double 0)) (bf_hv5 : frm + (1 : Int32) = bf_v5) (bf_hlo : 0 ≤ frm.toInt ∧ frm.toInt < to.toInt ∧ to.toInt ≤ 4) (bf_hnn : ∀ k, Jvm.FP.Core.val64 (own_el d0 d1 d2 d3 k) ≠ .nan) (bf_hin39 : ¬ (Int32.ofInt (own_fst (fun k => own_z (own_el d0 d1 d2 d3 k)) (to.toInt - frm.toInt - 1).toNat frm.toInt (frm.toInt + 1))) < 0 ∧ (Int32.ofInt (own_fst (fun k => own_z (own_el d0 d1 d2 d3 k)) (to.toInt - frm.toInt - 1).toNat frm.toInt (frm.toInt + 1))) < (4 : Int32)) (bf_hel39 : ([(.double d0), (.double d1), (.double d2), (.double d3)] : List Value).getD (Int32.toNatClampNeg (Int32.ofInt (own_fst (fun k => own_z (own_el d0 d1 d2 d3 k)) (to.toInt - frm.toInt - 1).toNat frm.toInt (frm.toInt + 1)))) (.double 0) = (.double bf_v39)) (bf_hn42 : Jvm.Free.Fl.NoNaN64 (FP.dsub sum 4607182418800017408)) (bf_hv42 : FP.dsub sum 4607182418800017408 = bf_v42) (bf_hb44 : ifCond.holds .le (Op.cmpValue (FP.dcmp bf_v39 bf_v42) .l) = false) :
    MetFree l (⟨"com/example/libcredal/libcredal/core/OutwardRounding", "balancing", "([DIID)I"⟩ : MethodName) (head1 (Jvm.Cond.code (⟨"com/example/libcredal/libcredal/core/OutwardRounding", "balancing", "([DIID)I"⟩ : MethodName) prog_57_method_9_code 7 (some .int) :: ws) ({ frames := 0, cells := 0, slots := 0, locals := 0 } : Room)) (fun a U => a = #[(.ref q), (.int frm), (.int to), (.double sum)] ∧ Z.Warmed39 U.vm ∧ U.heap = h0) (fun _ _ _ _ _ => True) (fun _ U o U' => ∃ v L, o = .returned v ∧ own_QP (some (.int (Int32.ofInt (own_fst (fun k => own_z (own_el d0 d1 d2 d3 k)) (to.toInt - frm.toInt - 1).toNat frm.toInt (frm.toInt + 1))))) h0 n0 v U'.heap L ∧ FrameEnd U o U' L ({ frames := 0, cells := 0, slots := 0, locals := 0 } : Room).cells ({ frames := 0, cells := 0, slots := 0, locals := 0 } : Room).slots) := by
  refine MetFree.of_bodySF (plainFor_of_name own_pn_com_example_libcredal_libcredal_core_OutwardRounding) hisR ?_
  intro p e s m args below meth c s₁ Bd hml0 hP hK
  obtain ⟨rfl, hZ, hh⟩ := hP
  have hx := Bd.exec
  have hby := Bd.bytes
  have hml : c.maxLocals = 7 := hml0
  have hown : s.vm.findClass "com/example/libcredal/libcredal/core/OutwardRounding" = some m.cls := findClass_of_methodNamed Bd.named
  have hnm := (name_of_methodNamed Bd.named Bd.method).1
  have X0 : Stand p l e ({ frames := 0, cells := 0, slots := 0, locals := 0 } : Room) s m #[(.ref q), (.int frm), (.int to), (.double sum)] below meth c s₁ [] 0 0 := Stand.of_body Bd
  have e0 : s₁.heap = h0 := by rw [← hh, Bd.state]; rfl
  have N0 := Fr.nil n0
  have pre0 : ∀ t, Steps p.tables e below (s₁.setTop (mkF m 0 #[.val (.ref q), .val (.int frm), .val (.int to), .val (.double sum), .second, .unset, .unset] [])) t → Steps p.tables e below (s₁.setTop (entryFrame m #[(.ref q), (.int frm), (.int to), (.double sum)] 7)) t := fun t k => castTop (own_ef_bf m q frm to sum) k
  have hibf1 : (bf_v5).toInt = frm.toInt + 1 := by rw [← bf_hv5, Int32.toInt_add, show (1 : Int32).toInt = 1 from rfl]; exact Int.bmod_eq_of_le (by omega) (by omega)
  obtain ⟨Tbf1, Xbf1, ebf1, stbf1⟩ := own_loop (sum := sum) (frm := frm) hx hZ hw hby hml hown V_q bf_hlo.2.2 bf_hnn (to.toInt - frm.toInt - 1).toNat frm bf_v5 s₁ (by omega) (by omega) (by omega) X0 e0
  rw [hibf1] at stbf1
  obtain ⟨fs, hr, hrun, hended, hW, hsame⟩ := Xbf1.leave (v := some (.int (Int32.ofInt (own_fst (fun k => own_z (own_el d0 d1 d2 d3 k)) (to.toInt - frm.toInt - 1).toNat frm.toInt (frm.toInt + 1))))) (fun h => by rw [Bd.returns] at h; cases h)
  refine ⟨_, _, pre0 _ ?_, hrun, hended, _, _, rfl, ?_, ⟨_, rfl⟩, hW, hsame.mono (by decide) (by decide)⟩
  · refine own_s_iloadN X0.here hx (hb hby own_d1_0) (pc' := 1) rfl rfl ?_
    refine own_s_istore X0.here hx (hb hby own_d1_1) (pc' := 3) rfl (L' := #[.val (.ref q), .val (.int frm), .val (.int to), .val (.double sum), .second, .val (.int frm), .unset]) rfl ?_
    refine own_s_iloadN X0.here hx (hb hby own_d1_3) (pc' := 4) rfl rfl ?_
    refine own_s_iconst X0.here hx (hb hby own_d1_4) (pc' := 5) rfl (v := (1 : Int32)) (by decide) ?_
    refine own_s_iadd X0.here hx (hb hby own_d1_5) (pc' := 6) rfl (v := bf_v5) bf_hv5 ?_
    refine own_s_istore X0.here hx (hb hby own_d1_6) (pc' := 8) rfl (L' := #[.val (.ref q), .val (.int frm), .val (.int to), .val (.double sum), .second, .val (.int frm), .val (.int bf_v5)]) rfl ?_
    refine stbf1 _ ?_
    refine own_s_aloadN Xbf1.here hx (hb hby own_d1_36) (pc' := 37) rfl rfl rfl ?_
    refine own_s_iload Xbf1.here hx (hb hby own_d1_37) (pc' := 39) rfl rfl ?_
    refine own_ldD Xbf1 hx hZ ebf1 V_q (j := (Int32.ofInt (own_fst (fun k => own_z (own_el d0 d1 d2 d3 k)) (to.toInt - frm.toInt - 1).toNat frm.toInt (frm.toInt + 1)))) (x := bf_v39) bf_hin39 bf_hel39 (hb hby own_d1_39) (pc' := 40) rfl ?_
    refine own_s_dloadN Xbf1.here hx (hb hby own_d1_40) (pc' := 41) rfl rfl ?_
    refine own_s_dconst1 Xbf1.here hx (hb hby own_d1_41) (pc' := 42) rfl  ?_
    refine own_s_dsub Xbf1.here hx (hb hby own_d1_42) (pc' := 43) rfl bf_hn42 (v := bf_v42) bf_hv42 ?_
    refine own_s_dcmp Xbf1.here hx (hb hby own_d1_43) (pc' := 44) rfl (v := (Op.cmpValue (FP.dcmp bf_v39 bf_v42) .l)) rfl ?_
    refine own_s_ifNo Xbf1.here hx (hb hby own_d1_44) (pc' := 47) rfl bf_hb44 ?_
    refine own_s_iload Xbf1.here hx (hb hby own_d1_47) (pc' := 49) rfl rfl ?_
    refine own_s_goto Xbf1.here hx (hb hby own_d1_49) (by decide) (pc' := 53) (by decide) ?_
    exact own_retI Xbf1 hx Bd.returns (hb hby own_d1_53) hr
  · show own_QP (some (.int (Int32.ofInt (own_fst (fun k => own_z (own_el d0 d1 d2 d3 k)) (to.toInt - frm.toInt - 1).toNat frm.toInt (frm.toInt + 1))))) h0 n0 _ Tbf1.heap _
    rw [ebf1]
    exact ⟨rfl, N0, rfl⟩
set_option maxRecDepth 65536 in
set_option maxHeartbeats 40000000 in
theorem own_rm_bal (l : Launch) (Z : State) (a0 : Array Value) (hw : ∀ d ∈ tables_1, d.before a0 Z = true) (ws : List Jvm.Cond) (q : Addr) (d0 : UInt64) (d1 : UInt64) (d2 : UInt64) (d3 : UInt64) (frm : Int32) (to : Int32) (sum : UInt64) {qk : ClassId} (h0 : Heap) (n0 : Nat) (Z0 : n0 ≤ h0.size) (V_q : Arv Z h0 q qk .double (4 : Int32) [(.double d0), (.double d1), (.double d2), (.double d3)] (.double 0)) (bal_hlo : 0 ≤ frm.toInt ∧ frm.toInt < to.toInt ∧ to.toInt ≤ 4) (bal_hnn : ∀ k, Jvm.FP.Core.val64 (own_el d0 d1 d2 d3 k) ≠ .nan) (bal_hs : Jvm.Free.Fl.NoNaN64 (FP.dsub sum 4607182418800017408)) :
    MetFree l (⟨"com/example/libcredal/libcredal/core/OutwardRounding", "balancing", "([DIID)I"⟩ : MethodName) (head1 (Jvm.Cond.code (⟨"com/example/libcredal/libcredal/core/OutwardRounding", "balancing", "([DIID)I"⟩ : MethodName) prog_57_method_9_code 7 (some .int) :: ws) ({ frames := 0, cells := 0, slots := 0, locals := 0 } : Room)) (fun a U => a = #[(.ref q), (.int frm), (.int to), (.double sum)] ∧ Z.Warmed39 U.vm ∧ U.heap = h0) (fun _ _ _ _ _ => True) (fun _ U o U' => ∃ v L, o = .returned v ∧ own_QP (some (.int (own_r d0 d1 d2 d3 frm to (FP.dsub sum 4607182418800017408)))) h0 n0 v U'.heap L ∧ FrameEnd U o U' L ({ frames := 0, cells := 0, slots := 0, locals := 0 } : Room).cells ({ frames := 0, cells := 0, slots := 0, locals := 0 } : Room).slots) := by
  obtain ⟨⟨g1, g2⟩, ge, g3, g4⟩ := own_G d0 d1 d2 d3 bal_hlo
  have vs : Jvm.FP.Core.val64 (FP.dsub sum 4607182418800017408) ≠ .nan := (Jvm.FP.Core.notNaN_iff _).mp (Jvm.Free.Fl.noNaN64_no.mp bal_hs)
  have cz := (own_cz (bal_hnn (own_fst (fun k => own_z (own_el d0 d1 d2 d3 k)) (to.toInt - frm.toInt - 1).toNat frm.toInt (frm.toInt + 1))) vs .l).2.1
  unfold own_r
  by_cases h : own_z (own_el d0 d1 d2 d3 (own_fst (fun k => own_z (own_el d0 d1 d2 d3 k)) (to.toInt - frm.toInt - 1).toNat frm.toInt (frm.toInt + 1))) ≤ own_z (FP.dsub sum 4607182418800017408)
  · rw [if_pos h]
    exact own_rm_bt l Z a0 hw ws q d0 d1 d2 d3 frm to sum h0 n0 Z0 V_q (bt_hv5 := rfl) (bt_hlo := bal_hlo) (bt_hnn := bal_hnn) (bt_hin39 := (own_inb (by rw [ge]; omega))) (bt_hel39 := (own_getD d0 d1 d2 d3 (by rw [ge]; omega))) (bt_hn42 := bal_hs) (bt_hv42 := rfl) (bt_hb44 := (by rw [ge, cz]; exact decide_eq_true h))
  · rw [if_neg h]
    exact own_rm_bf l Z a0 hw ws q d0 d1 d2 d3 frm to sum h0 n0 Z0 V_q (bf_hv5 := rfl) (bf_hlo := bal_hlo) (bf_hnn := bal_hnn) (bf_hin39 := (own_inb (by rw [ge]; omega))) (bf_hel39 := (own_getD d0 d1 d2 d3 (by rw [ge]; omega))) (bf_hn42 := bal_hs) (bf_hv42 := rfl) (bf_hb44 := (by rw [ge, cz]; exact decide_eq_false h))
theorem own_d2_0 : decode method_2_code 0 = .ok (.iload_n 1, 1) := by decide +kernel
theorem own_d2_1 : decode method_2_code 1 = .ok (.iload_n 2, 1) := by decide +kernel
theorem own_d2_2 : decode method_2_code 2 = .ok (.if_icmp .lt 8, 3) := by decide +kernel
theorem own_d2_10 : decode method_2_code 10 = .ok (.iconst 1, 1) := by decide +kernel
theorem own_d2_11 : decode method_2_code 11 = .ok (.ireturn, 1) := by decide +kernel
theorem own_pn_com_example_libcredal_libcredal_core_OutwardRoundingBalancingPinLaw : plainName "com/example/libcredal/libcredal/core/OutwardRoundingBalancingPinLaw" = true := by first | (simp [plainName, overriddenIn]; done) | decide +kernel
theorem own_ef_o0t (m : MethodId) (q : Addr) (frm : Int32) (to : Int32) (r : Int32) (sum : UInt64) : entryFrame m #[(.ref q), (.int (0 : Int32)), (.int frm), (.int to), (.int r), (.double sum)] 7 = mkF m 0 #[.val (.ref q), .val (.int (0 : Int32)), .val (.int frm), .val (.int to), .val (.int r), .val (.double sum), .second] [] := by first | (simp [entryFrame, mkF, argsToLocals, Value.category]; done) | rfl
set_option maxRecDepth 65536 in
set_option maxHeartbeats 40000000 in
theorem own_rm_o0t (l : Launch) (Z : State) (a0 : Array Value) (hw : ∀ d ∈ tables_1, d.before a0 Z = true) (ws : List Jvm.Cond) (q : Addr) (d0 : UInt64) (d1 : UInt64) (d2 : UInt64) (d3 : UInt64) (frm : Int32) (to : Int32) (r : Int32) (sum : UInt64) {qk : ClassId} (h0 : Heap) (n0 : Nat) (Z0 : n0 ≤ h0.size) (V_q : Arv Z h0 q qk .double (4 : Int32) [(.double d0), (.double d1), (.double d2), (.double d3)] (.double 0)) (o0t_hb2 : if_icmp.holds .lt (0 : Int32) frm = true) :
    MetFree l (⟨"com/example/libcredal/libcredal/core/OutwardRoundingBalancingPinLaw", "okAt", "([DIIIID)Z"⟩ : MethodName) (head1 (Jvm.Cond.code (⟨"com/example/libcredal/libcredal/core/OutwardRoundingBalancingPinLaw", "okAt", "([DIIIID)Z"⟩ : MethodName) method_2_code 7 (some .boolean) :: ws) ({ frames := 0, cells := 0, slots := 0, locals := 0 } : Room)) (fun a U => a = #[(.ref q), (.int (0 : Int32)), (.int frm), (.int to), (.int r), (.double sum)] ∧ Z.Warmed39 U.vm ∧ U.heap = h0) (fun _ _ _ _ _ => True) (fun _ U o U' => ∃ v L, o = .returned v ∧ own_QP (some (.int (1 : Int32))) h0 n0 v U'.heap L ∧ FrameEnd U o U' L ({ frames := 0, cells := 0, slots := 0, locals := 0 } : Room).cells ({ frames := 0, cells := 0, slots := 0, locals := 0 } : Room).slots) := by
  refine MetFree.of_bodySF (plainFor_of_name own_pn_com_example_libcredal_libcredal_core_OutwardRoundingBalancingPinLaw) hisR ?_
  intro p e s m args below meth c s₁ Bd hml0 hP hK
  obtain ⟨rfl, hZ, hh⟩ := hP
  have hx := Bd.exec
  have hby := Bd.bytes
  have hml : c.maxLocals = 7 := hml0
  have hown : s.vm.findClass "com/example/libcredal/libcredal/core/OutwardRoundingBalancingPinLaw" = some m.cls := findClass_of_methodNamed Bd.named
  have hnm := (name_of_methodNamed Bd.named Bd.method).1
  have X0 : Stand p l e ({ frames := 0, cells := 0, slots := 0, locals := 0 } : Room) s m #[(.ref q), (.int (0 : Int32)), (.int frm), (.int to), (.int r), (.double sum)] below meth c s₁ [] 0 0 := Stand.of_body Bd
  have e0 : s₁.heap = h0 := by rw [← hh, Bd.state]; rfl
  have N0 := Fr.nil n0
  have pre0 : ∀ t, Steps p.tables e below (s₁.setTop (mkF m 0 #[.val (.ref q), .val (.int (0 : Int32)), .val (.int frm), .val (.int to), .val (.int r), .val (.double sum), .second] [])) t → Steps p.tables e below (s₁.setTop (entryFrame m #[(.ref q), (.int (0 : Int32)), (.int frm), (.int to), (.int r), (.double sum)] 7)) t := fun t k => castTop (own_ef_o0t m q frm to r sum) k
  obtain ⟨fs, hr, hrun, hended, hW, hsame⟩ := X0.leave (v := some (.int (1 : Int32))) (fun h => by rw [Bd.returns] at h; cases h)
  refine ⟨_, _, pre0 _ ?_, hrun, hended, _, _, rfl, ?_, ⟨_, rfl⟩, hW, hsame.mono (by decide) (by decide)⟩
  · refine own_s_iloadN X0.here hx (hb hby own_d2_0) (pc' := 1) rfl rfl ?_
    refine own_s_iloadN X0.here hx (hb hby own_d2_1) (pc' := 2) rfl rfl ?_
    refine own_s_icmpYes X0.here hx (hb hby own_d2_2) (by decide) (pc' := 10) (by decide) o0t_hb2 ?_
    refine own_s_iconst X0.here hx (hb hby own_d2_10) (pc' := 11) rfl (v := (1 : Int32)) (by decide) ?_
    exact retN X0 hx (t := .boolean) Bd.returns (by simp) (hb hby own_d2_11) hr
  · show own_QP (some (.int (1 : Int32))) h0 n0 _ s₁.heap _
    rw [e0]
    exact ⟨rfl, N0, rfl⟩
theorem own_d2_5 : decode method_2_code 5 = .ok (.iload_n 1, 1) := by decide +kernel
theorem own_d2_6 : decode method_2_code 6 = .ok (.iload_n 3, 1) := by decide +kernel
theorem own_d2_7 : decode method_2_code 7 = .ok (.if_icmp .lt 5, 3) := by decide +kernel
theorem own_ef_o0ff (m : MethodId) (q : Addr) (frm : Int32) (to : Int32) (r : Int32) (sum : UInt64) : entryFrame m #[(.ref q), (.int (0 : Int32)), (.int frm), (.int to), (.int r), (.double sum)] 7 = mkF m 0 #[.val (.ref q), .val (.int (0 : Int32)), .val (.int frm), .val (.int to), .val (.int r), .val (.double sum), .second] [] := by first | (simp [entryFrame, mkF, argsToLocals, Value.category]; done) | rfl
set_option maxRecDepth 65536 in
set_option maxHeartbeats 40000000 in
theorem own_rm_o0ff (l : Launch) (Z : State) (a0 : Array Value) (hw : ∀ d ∈ tables_1, d.before a0 Z = true) (ws : List Jvm.Cond) (q : Addr) (d0 : UInt64) (d1 : UInt64) (d2 : UInt64) (d3 : UInt64) (frm : Int32) (to : Int32) (r : Int32) (sum : UInt64) {qk : ClassId} (h0 : Heap) (n0 : Nat) (Z0 : n0 ≤ h0.size) (V_q : Arv Z h0 q qk .double (4 : Int32) [(.double d0), (.double d1), (.double d2), (.double d3)] (.double 0)) (o0ff_hb2 : if_icmp.holds .lt (0 : Int32) frm = false) (o0ff_hb7 : if_icmp.holds .lt (0 : Int32) to = false) :
    MetFree l (⟨"com/example/libcredal/libcredal/core/OutwardRoundingBalancingPinLaw", "okAt", "([DIIIID)Z"⟩ : MethodName) (head1 (Jvm.Cond.code (⟨"com/example/libcredal/libcredal/core/OutwardRoundingBalancingPinLaw", "okAt", "([DIIIID)Z"⟩ : MethodName) method_2_code 7 (some .boolean) :: ws) ({ frames := 0, cells := 0, slots := 0, locals := 0 } : Room)) (fun a U => a = #[(.ref q), (.int (0 : Int32)), (.int frm), (.int to), (.int r), (.double sum)] ∧ Z.Warmed39 U.vm ∧ U.heap = h0) (fun _ _ _ _ _ => True) (fun _ U o U' => ∃ v L, o = .returned v ∧ own_QP (some (.int (1 : Int32))) h0 n0 v U'.heap L ∧ FrameEnd U o U' L ({ frames := 0, cells := 0, slots := 0, locals := 0 } : Room).cells ({ frames := 0, cells := 0, slots := 0, locals := 0 } : Room).slots) := by
  refine MetFree.of_bodySF (plainFor_of_name own_pn_com_example_libcredal_libcredal_core_OutwardRoundingBalancingPinLaw) hisR ?_
  intro p e s m args below meth c s₁ Bd hml0 hP hK
  obtain ⟨rfl, hZ, hh⟩ := hP
  have hx := Bd.exec
  have hby := Bd.bytes
  have hml : c.maxLocals = 7 := hml0
  have hown : s.vm.findClass "com/example/libcredal/libcredal/core/OutwardRoundingBalancingPinLaw" = some m.cls := findClass_of_methodNamed Bd.named
  have hnm := (name_of_methodNamed Bd.named Bd.method).1
  have X0 : Stand p l e ({ frames := 0, cells := 0, slots := 0, locals := 0 } : Room) s m #[(.ref q), (.int (0 : Int32)), (.int frm), (.int to), (.int r), (.double sum)] below meth c s₁ [] 0 0 := Stand.of_body Bd
  have e0 : s₁.heap = h0 := by rw [← hh, Bd.state]; rfl
  have N0 := Fr.nil n0
  have pre0 : ∀ t, Steps p.tables e below (s₁.setTop (mkF m 0 #[.val (.ref q), .val (.int (0 : Int32)), .val (.int frm), .val (.int to), .val (.int r), .val (.double sum), .second] [])) t → Steps p.tables e below (s₁.setTop (entryFrame m #[(.ref q), (.int (0 : Int32)), (.int frm), (.int to), (.int r), (.double sum)] 7)) t := fun t k => castTop (own_ef_o0ff m q frm to r sum) k
  obtain ⟨fs, hr, hrun, hended, hW, hsame⟩ := X0.leave (v := some (.int (1 : Int32))) (fun h => by rw [Bd.returns] at h; cases h)
  refine ⟨_, _, pre0 _ ?_, hrun, hended, _, _, rfl, ?_, ⟨_, rfl⟩, hW, hsame.mono (by decide) (by decide)⟩
  · refine own_s_iloadN X0.here hx (hb hby own_d2_0) (pc' := 1) rfl rfl ?_
    refine own_s_iloadN X0.here hx (hb hby own_d2_1) (pc' := 2) rfl rfl ?_
    refine own_s_icmpNo X0.here hx (hb hby own_d2_2) (pc' := 5) rfl o0ff_hb2 ?_
    refine own_s_iloadN X0.here hx (hb hby own_d2_5) (pc' := 6) rfl rfl ?_
    refine own_s_iloadN X0.here hx (hb hby own_d2_6) (pc' := 7) rfl rfl ?_
    refine own_s_icmpNo X0.here hx (hb hby own_d2_7) (pc' := 10) rfl o0ff_hb7 ?_
    refine own_s_iconst X0.here hx (hb hby own_d2_10) (pc' := 11) rfl (v := (1 : Int32)) (by decide) ?_
    exact retN X0 hx (t := .boolean) Bd.returns (by simp) (hb hby own_d2_11) hr
  · show own_QP (some (.int (1 : Int32))) h0 n0 _ s₁.heap _
    rw [e0]
    exact ⟨rfl, N0, rfl⟩
theorem own_d2_12 : decode method_2_code 12 = .ok (.iload 4, 2) := by decide +kernel
theorem own_d2_14 : decode method_2_code 14 = .ok (.iconst (-1), 1) := by decide +kernel
theorem own_d2_15 : decode method_2_code 15 = .ok (.if_icmp .ne 20, 3) := by decide +kernel
theorem own_d2_18 : decode method_2_code 18 = .ok (.aload_n 0, 1) := by decide +kernel
theorem own_d2_19 : decode method_2_code 19 = .ok (.iload_n 1, 1) := by decide +kernel
theorem own_d2_20 : decode method_2_code 20 = .ok (.daload, 1) := by decide +kernel
theorem own_d2_21 : decode method_2_code 21 = .ok (.dload 5, 2) := by decide +kernel
theorem own_d2_23 : decode method_2_code 23 = .ok (.dconst 1, 1) := by decide +kernel
theorem own_d2_24 : decode method_2_code 24 = .ok (.dsub, 1) := by decide +kernel
theorem own_d2_25 : decode method_2_code 25 = .ok (.dcmp .g, 1) := by decide +kernel
theorem own_d2_26 : decode method_2_code 26 = .ok (.ifCond .gt 7, 3) := by decide +kernel
theorem own_d2_29 : decode method_2_code 29 = .ok (.iconst 1, 1) := by decide +kernel
theorem own_d2_30 : decode method_2_code 30 = .ok (.goto 4, 3) := by decide +kernel
theorem own_d2_34 : decode method_2_code 34 = .ok (.ireturn, 1) := by decide +kernel
theorem own_ef_o0ftff (m : MethodId) (q : Addr) (frm : Int32) (to : Int32) (r : Int32) (sum : UInt64) : entryFrame m #[(.ref q), (.int (0 : Int32)), (.int frm), (.int to), (.int r), (.double sum)] 7 = mkF m 0 #[.val (.ref q), .val (.int (0 : Int32)), .val (.int frm), .val (.int to), .val (.int r), .val (.double sum), .second] [] := by first | (simp [entryFrame, mkF, argsToLocals, Value.category]; done) | rfl
set_option maxRecDepth 65536 in
set_option maxHeartbeats 40000000 in
theorem own_rm_o0ftff (l : Launch) (Z : State) (a0 : Array Value) (hw : ∀ d ∈ tables_1, d.before a0 Z = true) (ws : List Jvm.Cond) (q : Addr) (d0 : UInt64) (d1 : UInt64) (d2 : UInt64) (d3 : UInt64) (frm : Int32) (to : Int32) (r : Int32) (sum : UInt64) {qk : ClassId} {o0ftff_v24 : UInt64} (h0 : Heap) (n0 : Nat) (Z0 : n0 ≤ h0.size) (V_q : Arv Z h0 q qk .double (4 : Int32) [(.double d0), (.double d1), (.double d2), (.double d3)] (.double 0)) (o0ftff_hb2 : if_icmp.holds .lt (0 : Int32) frm = false) (o0ftff_hb7 : if_icmp.holds .lt (0 : Int32) to = true) (o0ftff_hb15 : if_icmp.holds .ne r (-1 : Int32) = false) (o0ftff_hn24 : Jvm.Free.Fl.NoNaN64 (FP.dsub sum 4607182418800017408)) (o0ftff_hv24 : FP.dsub sum 4607182418800017408 = o0ftff_v24) (o0ftff_hb26 : ifCond.holds .gt (Op.cmpValue (FP.dcmp d0 o0ftff_v24) .g) = false) :
    MetFree l (⟨"com/example/libcredal/libcredal/core/OutwardRoundingBalancingPinLaw", "okAt", "([DIIIID)Z"⟩ : MethodName) (head1 (Jvm.Cond.code (⟨"com/example/libcredal/libcredal/core/OutwardRoundingBalancingPinLaw", "okAt", "([DIIIID)Z"⟩ : MethodName) method_2_code 7 (some .boolean) :: ws) ({ frames := 0, cells := 0, slots := 0, locals := 0 } : Room)) (fun a U => a = #[(.ref q), (.int (0 : Int32)), (.int frm), (.int to), (.int r), (.double sum)] ∧ Z.Warmed39 U.vm ∧ U.heap = h0) (fun _ _ _ _ _ => True) (fun _ U o U' => ∃ v L, o = .returned v ∧ own_QP (some (.int (1 : Int32))) h0 n0 v U'.heap L ∧ FrameEnd U o U' L ({ frames := 0, cells := 0, slots := 0, locals := 0 } : Room).cells ({ frames := 0, cells := 0, slots := 0, locals := 0 } : Room).slots) := by
  refine MetFree.of_bodySF (plainFor_of_name own_pn_com_example_libcredal_libcredal_core_OutwardRoundingBalancingPinLaw) hisR ?_
  intro p e s m args below meth c s₁ Bd hml0 hP hK
  obtain ⟨rfl, hZ, hh⟩ := hP
  have hx := Bd.exec
  have hby := Bd.bytes
  have hml : c.maxLocals = 7 := hml0
  have hown : s.vm.findClass "com/example/libcredal/libcredal/core/OutwardRoundingBalancingPinLaw" = some m.cls := findClass_of_methodNamed Bd.named
  have hnm := (name_of_methodNamed Bd.named Bd.method).1
  have X0 : Stand p l e ({ frames := 0, cells := 0, slots := 0, locals := 0 } : Room) s m #[(.ref q), (.int (0 : Int32)), (.int frm), (.int to), (.int r), (.double sum)] below meth c s₁ [] 0 0 := Stand.of_body Bd
  have e0 : s₁.heap = h0 := by rw [← hh, Bd.state]; rfl
  have N0 := Fr.nil n0
  have pre0 : ∀ t, Steps p.tables e below (s₁.setTop (mkF m 0 #[.val (.ref q), .val (.int (0 : Int32)), .val (.int frm), .val (.int to), .val (.int r), .val (.double sum), .second] [])) t → Steps p.tables e below (s₁.setTop (entryFrame m #[(.ref q), (.int (0 : Int32)), (.int frm), (.int to), (.int r), (.double sum)] 7)) t := fun t k => castTop (own_ef_o0ftff m q frm to r sum) k
  obtain ⟨fs, hr, hrun, hended, hW, hsame⟩ := X0.leave (v := some (.int (1 : Int32))) (fun h => by rw [Bd.returns] at h; cases h)
  refine ⟨_, _, pre0 _ ?_, hrun, hended, _, _, rfl, ?_, ⟨_, rfl⟩, hW, hsame.mono (by decide) (by decide)⟩
  · refine own_s_iloadN X0.here hx (hb hby own_d2_0) (pc' := 1) rfl rfl ?_
    refine own_s_iloadN X0.here hx (hb hby own_d2_1) (pc' := 2) rfl rfl ?_
    refine own_s_icmpNo X0.here hx (hb hby own_d2_2) (pc' := 5) rfl o0ftff_hb2 ?_
    refine own_s_iloadN X0.here hx (hb hby own_d2_5) (pc' := 6) rfl rfl ?_
    refine own_s_iloadN X0.here hx (hb hby own_d2_6) (pc' := 7) rfl rfl ?_
    refine own_s_icmpYes X0.here hx (hb hby own_d2_7) (by decide) (pc' := 12) (by decide) o0ftff_hb7 ?_
    refine own_s_iload X0.here hx (hb hby own_d2_12) (pc' := 14) rfl rfl ?_
    refine own_s_iconst X0.here hx (hb hby own_d2_14) (pc' := 15) rfl (v := (-1 : Int32)) (by decide) ?_
    refine own_s_icmpNo X0.here hx (hb hby own_d2_15) (pc' := 18) rfl o0ftff_hb15 ?_
    refine own_s_aloadN X0.here hx (hb hby own_d2_18) (pc' := 19) rfl rfl rfl ?_
    refine own_s_iloadN X0.here hx (hb hby own_d2_19) (pc' := 20) rfl rfl ?_
    refine own_ldD X0 hx hZ e0 V_q (j := (0 : Int32)) (x := d0) (by decide) rfl (hb hby own_d2_20) (pc' := 21) rfl ?_
    refine own_s_dload X0.here hx (hb hby own_d2_21) (pc' := 23) rfl rfl ?_
    refine own_s_dconst1 X0.here hx (hb hby own_d2_23) (pc' := 24) rfl  ?_
    refine own_s_dsub X0.here hx (hb hby own_d2_24) (pc' := 25) rfl o0ftff_hn24 (v := o0ftff_v24) o0ftff_hv24 ?_
    refine own_s_dcmp X0.here hx (hb hby own_d2_25) (pc' := 26) rfl (v := (Op.cmpValue (FP.dcmp d0 o0ftff_v24) .g)) rfl ?_
    refine own_s_ifNo X0.here hx (hb hby own_d2_26) (pc' := 29) rfl o0ftff_hb26 ?_
    refine own_s_iconst X0.here hx (hb hby own_d2_29) (pc' := 30) rfl (v := (1 : Int32)) (by decide) ?_
    refine own_s_goto X0.here hx (hb hby own_d2_30) (by decide) (pc' := 34) (by decide) ?_
    exact retN X0 hx (t := .boolean) Bd.returns (by simp) (hb hby own_d2_34) hr
  · show own_QP (some (.int (1 : Int32))) h0 n0 _ s₁.heap _
    rw [e0]
    exact ⟨rfl, N0, rfl⟩
theorem own_d2_35 : decode method_2_code 35 = .ok (.aload_n 0, 1) := by decide +kernel
theorem own_d2_36 : decode method_2_code 36 = .ok (.iload_n 1, 1) := by decide +kernel
theorem own_d2_37 : decode method_2_code 37 = .ok (.daload, 1) := by decide +kernel
theorem own_d2_38 : decode method_2_code 38 = .ok (.aload_n 0, 1) := by decide +kernel
theorem own_d2_39 : decode method_2_code 39 = .ok (.iload 4, 2) := by decide +kernel
theorem own_d2_41 : decode method_2_code 41 = .ok (.daload, 1) := by decide +kernel
theorem own_d2_42 : decode method_2_code 42 = .ok (.dcmp .g, 1) := by decide +kernel
theorem own_d2_43 : decode method_2_code 43 = .ok (.ifCond .gt 24, 3) := by decide +kernel
theorem own_d2_46 : decode method_2_code 46 = .ok (.iload_n 1, 1) := by decide +kernel
theorem own_d2_47 : decode method_2_code 47 = .ok (.iload 4, 2) := by decide +kernel
theorem own_d2_49 : decode method_2_code 49 = .ok (.if_icmp .ge 14, 3) := by decide +kernel
theorem own_d2_63 : decode method_2_code 63 = .ok (.iconst 1, 1) := by decide +kernel
theorem own_d2_64 : decode method_2_code 64 = .ok (.goto 4, 3) := by decide +kernel
theorem own_d2_68 : decode method_2_code 68 = .ok (.ireturn, 1) := by decide +kernel
theorem own_ef_o0fttft (m : MethodId) (q : Addr) (frm : Int32) (to : Int32) (r : Int32) (sum : UInt64) : entryFrame m #[(.ref q), (.int (0 : Int32)), (.int frm), (.int to), (.int r), (.double sum)] 7 = mkF m 0 #[.val (.ref q), .val (.int (0 : Int32)), .val (.int frm), .val (.int to), .val (.int r), .val (.double sum), .second] [] := by first | (simp [entryFrame, mkF, argsToLocals, Value.category]; done) | rfl
set_option maxRecDepth 65536 in
set_option maxHeartbeats 40000000 in
theorem own_rm_o0fttft (l : Launch) (Z : State) (a0 : Array Value) (hw : ∀ d ∈ tables_1, d.before a0 Z = true) (ws : List Jvm.Cond) (q : Addr) (d0 : UInt64) (d1 : UInt64) (d2 : UInt64) (d3 : UInt64) (frm : Int32) (to : Int32) (r : Int32) (sum : UInt64) {qk : ClassId} {o0fttft_v41 : UInt64} (h0 : Heap) (n0 : Nat) (Z0 : n0 ≤ h0.size) (V_q : Arv Z h0 q qk .double (4 : Int32) [(.double d0), (.double d1), (.double d2), (.double d3)] (.double 0)) (o0fttft_hb2 : if_icmp.holds .lt (0 : Int32) frm = false) (o0fttft_hb7 : if_icmp.holds .lt (0 : Int32) to = true) (o0fttft_hb15 : if_icmp.holds .ne r (-1 : Int32) = true) (o0fttft_hin41 : ¬ r < 0 ∧ r < (4 : Int32)) (o0fttft_hel41 : ([(.double d0), (.double d1), (.double d2), (.double d3)] : List Value).getD (Int32.toNatClampNeg r) (.double 0) = (.double o0fttft_v41)) (o0fttft_hb43 : ifCond.holds .gt (Op.cmpValue (FP.dcmp d0 o0fttft_v41) .g) = false) (o0fttft_hb49 : if_icmp.holds .ge (0 : Int32) r = true) :
    MetFree l (⟨"com/example/libcredal/libcredal/core/OutwardRoundingBalancingPinLaw", "okAt", "([DIIIID)Z"⟩ : MethodName) (head1 (Jvm.Cond.code (⟨"com/example/libcredal/libcredal/core/OutwardRoundingBalancingPinLaw", "okAt", "([DIIIID)Z"⟩ : MethodName) method_2_code 7 (some .boolean) :: ws) ({ frames := 0, cells := 0, slots := 0, locals := 0 } : Room)) (fun a U => a = #[(.ref q), (.int (0 : Int32)), (.int frm), (.int to), (.int r), (.double sum)] ∧ Z.Warmed39 U.vm ∧ U.heap = h0) (fun _ _ _ _ _ => True) (fun _ U o U' => ∃ v L, o = .returned v ∧ own_QP (some (.int (1 : Int32))) h0 n0 v U'.heap L ∧ FrameEnd U o U' L ({ frames := 0, cells := 0, slots := 0, locals := 0 } : Room).cells ({ frames := 0, cells := 0, slots := 0, locals := 0 } : Room).slots) := by
  refine MetFree.of_bodySF (plainFor_of_name own_pn_com_example_libcredal_libcredal_core_OutwardRoundingBalancingPinLaw) hisR ?_
  intro p e s m args below meth c s₁ Bd hml0 hP hK
  obtain ⟨rfl, hZ, hh⟩ := hP
  have hx := Bd.exec
  have hby := Bd.bytes
  have hml : c.maxLocals = 7 := hml0
  have hown : s.vm.findClass "com/example/libcredal/libcredal/core/OutwardRoundingBalancingPinLaw" = some m.cls := findClass_of_methodNamed Bd.named
  have hnm := (name_of_methodNamed Bd.named Bd.method).1
  have X0 : Stand p l e ({ frames := 0, cells := 0, slots := 0, locals := 0 } : Room) s m #[(.ref q), (.int (0 : Int32)), (.int frm), (.int to), (.int r), (.double sum)] below meth c s₁ [] 0 0 := Stand.of_body Bd
  have e0 : s₁.heap = h0 := by rw [← hh, Bd.state]; rfl
  have N0 := Fr.nil n0
  have pre0 : ∀ t, Steps p.tables e below (s₁.setTop (mkF m 0 #[.val (.ref q), .val (.int (0 : Int32)), .val (.int frm), .val (.int to), .val (.int r), .val (.double sum), .second] [])) t → Steps p.tables e below (s₁.setTop (entryFrame m #[(.ref q), (.int (0 : Int32)), (.int frm), (.int to), (.int r), (.double sum)] 7)) t := fun t k => castTop (own_ef_o0fttft m q frm to r sum) k
  obtain ⟨fs, hr, hrun, hended, hW, hsame⟩ := X0.leave (v := some (.int (1 : Int32))) (fun h => by rw [Bd.returns] at h; cases h)
  refine ⟨_, _, pre0 _ ?_, hrun, hended, _, _, rfl, ?_, ⟨_, rfl⟩, hW, hsame.mono (by decide) (by decide)⟩
  · refine own_s_iloadN X0.here hx (hb hby own_d2_0) (pc' := 1) rfl rfl ?_
    refine own_s_iloadN X0.here hx (hb hby own_d2_1) (pc' := 2) rfl rfl ?_
    refine own_s_icmpNo X0.here hx (hb hby own_d2_2) (pc' := 5) rfl o0fttft_hb2 ?_
    refine own_s_iloadN X0.here hx (hb hby own_d2_5) (pc' := 6) rfl rfl ?_
    refine own_s_iloadN X0.here hx (hb hby own_d2_6) (pc' := 7) rfl rfl ?_
    refine own_s_icmpYes X0.here hx (hb hby own_d2_7) (by decide) (pc' := 12) (by decide) o0fttft_hb7 ?_
    refine own_s_iload X0.here hx (hb hby own_d2_12) (pc' := 14) rfl rfl ?_
    refine own_s_iconst X0.here hx (hb hby own_d2_14) (pc' := 15) rfl (v := (-1 : Int32)) (by decide) ?_
    refine own_s_icmpYes X0.here hx (hb hby own_d2_15) (by decide) (pc' := 35) (by decide) o0fttft_hb15 ?_
    refine own_s_aloadN X0.here hx (hb hby own_d2_35) (pc' := 36) rfl rfl rfl ?_
    refine own_s_iloadN X0.here hx (hb hby own_d2_36) (pc' := 37) rfl rfl ?_
    refine own_ldD X0 hx hZ e0 V_q (j := (0 : Int32)) (x := d0) (by decide) rfl (hb hby own_d2_37) (pc' := 38) rfl ?_
    refine own_s_aloadN X0.here hx (hb hby own_d2_38) (pc' := 39) rfl rfl rfl ?_
    refine own_s_iload X0.here hx (hb hby own_d2_39) (pc' := 41) rfl rfl ?_
    refine own_ldD X0 hx hZ e0 V_q (j := r) (x := o0fttft_v41) o0fttft_hin41 o0fttft_hel41 (hb hby own_d2_41) (pc' := 42) rfl ?_
    refine own_s_dcmp X0.here hx (hb hby own_d2_42) (pc' := 43) rfl (v := (Op.cmpValue (FP.dcmp d0 o0fttft_v41) .g)) rfl ?_
    refine own_s_ifNo X0.here hx (hb hby own_d2_43) (pc' := 46) rfl o0fttft_hb43 ?_
    refine own_s_iloadN X0.here hx (hb hby own_d2_46) (pc' := 47) rfl rfl ?_
    refine own_s_iload X0.here hx (hb hby own_d2_47) (pc' := 49) rfl rfl ?_
    refine own_s_icmpYes X0.here hx (hb hby own_d2_49) (by decide) (pc' := 63) (by decide) o0fttft_hb49 ?_
    refine own_s_iconst X0.here hx (hb hby own_d2_63) (pc' := 64) rfl (v := (1 : Int32)) (by decide) ?_
    refine own_s_goto X0.here hx (hb hby own_d2_64) (by decide) (pc' := 68) (by decide) ?_
    exact retN X0 hx (t := .boolean) Bd.returns (by simp) (hb hby own_d2_68) hr
  · show own_QP (some (.int (1 : Int32))) h0 n0 _ s₁.heap _
    rw [e0]
    exact ⟨rfl, N0, rfl⟩
theorem own_d2_52 : decode method_2_code 52 = .ok (.aload_n 0, 1) := by decide +kernel
theorem own_d2_53 : decode method_2_code 53 = .ok (.iload_n 1, 1) := by decide +kernel
theorem own_d2_54 : decode method_2_code 54 = .ok (.daload, 1) := by decide +kernel
theorem own_d2_55 : decode method_2_code 55 = .ok (.aload_n 0, 1) := by decide +kernel
theorem own_d2_56 : decode method_2_code 56 = .ok (.iload 4, 2) := by decide +kernel
theorem own_d2_58 : decode method_2_code 58 = .ok (.daload, 1) := by decide +kernel
theorem own_d2_59 : decode method_2_code 59 = .ok (.dcmp .g, 1) := by decide +kernel
theorem own_d2_60 : decode method_2_code 60 = .ok (.ifCond .ge 7, 3) := by decide +kernel
theorem own_ef_o0fttfff (m : MethodId) (q : Addr) (frm : Int32) (to : Int32) (r : Int32) (sum : UInt64) : entryFrame m #[(.ref q), (.int (0 : Int32)), (.int frm), (.int to), (.int r), (.double sum)] 7 = mkF m 0 #[.val (.ref q), .val (.int (0 : Int32)), .val (.int frm), .val (.int to), .val (.int r), .val (.double sum), .second] [] := by first | (simp [entryFrame, mkF, argsToLocals, Value.category]; done) | rfl
set_option maxRecDepth 65536 in
set_option maxHeartbeats 40000000 in
theorem own_rm_o0fttfff (l : Launch) (Z : State) (a0 : Array Value) (hw : ∀ d ∈ tables_1, d.before a0 Z = true) (ws : List Jvm.Cond) (q : Addr) (d0 : UInt64) (d1 : UInt64) (d2 : UInt64) (d3 : UInt64) (frm : Int32) (to : Int32) (r : Int32) (sum : UInt64) {qk : ClassId} {o0fttfff_v41 : UInt64} {o0fttfff_v58 : UInt64} (h0 : Heap) (n0 : Nat) (Z0 : n0 ≤ h0.size) (V_q : Arv Z h0 q qk .double (4 : Int32) [(.double d0), (.double d1), (.double d2), (.double d3)] (.double 0)) (o0fttfff_hb2 : if_icmp.holds .lt (0 : Int32) frm = false) (o0fttfff_hb7 : if_icmp.holds .lt (0 : Int32) to = true) (o0fttfff_hb15 : if_icmp.holds .ne r (-1 : Int32) = true) (o0fttfff_hin41 : ¬ r < 0 ∧ r < (4 : Int32)) (o0fttfff_hel41 : ([(.double d0), (.double d1), (.double d2), (.double d3)] : List Value).getD (Int32.toNatClampNeg r) (.double 0) = (.double o0fttfff_v41)) (o0fttfff_hb43 : ifCond.holds .gt (Op.cmpValue (FP.dcmp d0 o0fttfff_v41) .g) = false) (o0fttfff_hb49 : if_icmp.holds .ge (0 : Int32) r = false) (o0fttfff_hin58 : ¬ r < 0 ∧ r < (4 : Int32)) (o0fttfff_hel58 : ([(.double d0), (.double d1), (.double d2), (.double d3)] : List Value).getD (Int32.toNatClampNeg r) (.double 0) = (.double o0fttfff_v58)) (o0fttfff_hb60 : ifCond.holds .ge (Op.cmpValue (FP.dcmp d0 o0fttfff_v58) .g) = false) :
    MetFree l (⟨"com/example/libcredal/libcredal/core/OutwardRoundingBalancingPinLaw", "okAt", "([DIIIID)Z"⟩ : MethodName) (head1 (Jvm.Cond.code (⟨"com/example/libcredal/libcredal/core/OutwardRoundingBalancingPinLaw", "okAt", "([DIIIID)Z"⟩ : MethodName) method_2_code 7 (some .boolean) :: ws) ({ frames := 0, cells := 0, slots := 0, locals := 0 } : Room)) (fun a U => a = #[(.ref q), (.int (0 : Int32)), (.int frm), (.int to), (.int r), (.double sum)] ∧ Z.Warmed39 U.vm ∧ U.heap = h0) (fun _ _ _ _ _ => True) (fun _ U o U' => ∃ v L, o = .returned v ∧ own_QP (some (.int (1 : Int32))) h0 n0 v U'.heap L ∧ FrameEnd U o U' L ({ frames := 0, cells := 0, slots := 0, locals := 0 } : Room).cells ({ frames := 0, cells := 0, slots := 0, locals := 0 } : Room).slots) := by
  refine MetFree.of_bodySF (plainFor_of_name own_pn_com_example_libcredal_libcredal_core_OutwardRoundingBalancingPinLaw) hisR ?_
  intro p e s m args below meth c s₁ Bd hml0 hP hK
  obtain ⟨rfl, hZ, hh⟩ := hP
  have hx := Bd.exec
  have hby := Bd.bytes
  have hml : c.maxLocals = 7 := hml0
  have hown : s.vm.findClass "com/example/libcredal/libcredal/core/OutwardRoundingBalancingPinLaw" = some m.cls := findClass_of_methodNamed Bd.named
  have hnm := (name_of_methodNamed Bd.named Bd.method).1
  have X0 : Stand p l e ({ frames := 0, cells := 0, slots := 0, locals := 0 } : Room) s m #[(.ref q), (.int (0 : Int32)), (.int frm), (.int to), (.int r), (.double sum)] below meth c s₁ [] 0 0 := Stand.of_body Bd
  have e0 : s₁.heap = h0 := by rw [← hh, Bd.state]; rfl
  have N0 := Fr.nil n0
  have pre0 : ∀ t, Steps p.tables e below (s₁.setTop (mkF m 0 #[.val (.ref q), .val (.int (0 : Int32)), .val (.int frm), .val (.int to), .val (.int r), .val (.double sum), .second] [])) t → Steps p.tables e below (s₁.setTop (entryFrame m #[(.ref q), (.int (0 : Int32)), (.int frm), (.int to), (.int r), (.double sum)] 7)) t := fun t k => castTop (own_ef_o0fttfff m q frm to r sum) k
  obtain ⟨fs, hr, hrun, hended, hW, hsame⟩ := X0.leave (v := some (.int (1 : Int32))) (fun h => by rw [Bd.returns] at h; cases h)
  refine ⟨_, _, pre0 _ ?_, hrun, hended, _, _, rfl, ?_, ⟨_, rfl⟩, hW, hsame.mono (by decide) (by decide)⟩
  · refine own_s_iloadN X0.here hx (hb hby own_d2_0) (pc' := 1) rfl rfl ?_
    refine own_s_iloadN X0.here hx (hb hby own_d2_1) (pc' := 2) rfl rfl ?_
    refine own_s_icmpNo X0.here hx (hb hby own_d2_2) (pc' := 5) rfl o0fttfff_hb2 ?_
    refine own_s_iloadN X0.here hx (hb hby own_d2_5) (pc' := 6) rfl rfl ?_
    refine own_s_iloadN X0.here hx (hb hby own_d2_6) (pc' := 7) rfl rfl ?_
    refine own_s_icmpYes X0.here hx (hb hby own_d2_7) (by decide) (pc' := 12) (by decide) o0fttfff_hb7 ?_
    refine own_s_iload X0.here hx (hb hby own_d2_12) (pc' := 14) rfl rfl ?_
    refine own_s_iconst X0.here hx (hb hby own_d2_14) (pc' := 15) rfl (v := (-1 : Int32)) (by decide) ?_
    refine own_s_icmpYes X0.here hx (hb hby own_d2_15) (by decide) (pc' := 35) (by decide) o0fttfff_hb15 ?_
    refine own_s_aloadN X0.here hx (hb hby own_d2_35) (pc' := 36) rfl rfl rfl ?_
    refine own_s_iloadN X0.here hx (hb hby own_d2_36) (pc' := 37) rfl rfl ?_
    refine own_ldD X0 hx hZ e0 V_q (j := (0 : Int32)) (x := d0) (by decide) rfl (hb hby own_d2_37) (pc' := 38) rfl ?_
    refine own_s_aloadN X0.here hx (hb hby own_d2_38) (pc' := 39) rfl rfl rfl ?_
    refine own_s_iload X0.here hx (hb hby own_d2_39) (pc' := 41) rfl rfl ?_
    refine own_ldD X0 hx hZ e0 V_q (j := r) (x := o0fttfff_v41) o0fttfff_hin41 o0fttfff_hel41 (hb hby own_d2_41) (pc' := 42) rfl ?_
    refine own_s_dcmp X0.here hx (hb hby own_d2_42) (pc' := 43) rfl (v := (Op.cmpValue (FP.dcmp d0 o0fttfff_v41) .g)) rfl ?_
    refine own_s_ifNo X0.here hx (hb hby own_d2_43) (pc' := 46) rfl o0fttfff_hb43 ?_
    refine own_s_iloadN X0.here hx (hb hby own_d2_46) (pc' := 47) rfl rfl ?_
    refine own_s_iload X0.here hx (hb hby own_d2_47) (pc' := 49) rfl rfl ?_
    refine own_s_icmpNo X0.here hx (hb hby own_d2_49) (pc' := 52) rfl o0fttfff_hb49 ?_
    refine own_s_aloadN X0.here hx (hb hby own_d2_52) (pc' := 53) rfl rfl rfl ?_
    refine own_s_iloadN X0.here hx (hb hby own_d2_53) (pc' := 54) rfl rfl ?_
    refine own_ldD X0 hx hZ e0 V_q (j := (0 : Int32)) (x := d0) (by decide) rfl (hb hby own_d2_54) (pc' := 55) rfl ?_
    refine own_s_aloadN X0.here hx (hb hby own_d2_55) (pc' := 56) rfl rfl rfl ?_
    refine own_s_iload X0.here hx (hb hby own_d2_56) (pc' := 58) rfl rfl ?_
    refine own_ldD X0 hx hZ e0 V_q (j := r) (x := o0fttfff_v58) o0fttfff_hin58 o0fttfff_hel58 (hb hby own_d2_58) (pc' := 59) rfl ?_
    refine own_s_dcmp X0.here hx (hb hby own_d2_59) (pc' := 60) rfl (v := (Op.cmpValue (FP.dcmp d0 o0fttfff_v58) .g)) rfl ?_
    refine own_s_ifNo X0.here hx (hb hby own_d2_60) (pc' := 63) rfl o0fttfff_hb60 ?_
    refine own_s_iconst X0.here hx (hb hby own_d2_63) (pc' := 64) rfl (v := (1 : Int32)) (by decide) ?_
    refine own_s_goto X0.here hx (hb hby own_d2_64) (by decide) (pc' := 68) (by decide) ?_
    exact retN X0 hx (t := .boolean) Bd.returns (by simp) (hb hby own_d2_68) hr
  · show own_QP (some (.int (1 : Int32))) h0 n0 _ s₁.heap _
    rw [e0]
    exact ⟨rfl, N0, rfl⟩
set_option maxRecDepth 65536 in
set_option maxHeartbeats 40000000 in
theorem own_rm_ok0 (l : Launch) (Z : State) (a0 : Array Value) (hw : ∀ d ∈ tables_1, d.before a0 Z = true) (ws : List Jvm.Cond) (q : Addr) (d0 : UInt64) (d1 : UInt64) (d2 : UInt64) (d3 : UInt64) (frm : Int32) (to : Int32) (r : Int32) (sum : UInt64) {qk : ClassId} (h0 : Heap) (n0 : Nat) (Z0 : n0 ≤ h0.size) (V_q : Arv Z h0 q qk .double (4 : Int32) [(.double d0), (.double d1), (.double d2), (.double d3)] (.double 0)) (ok0_hs : Jvm.Free.Fl.NoNaN64 (FP.dsub sum 4607182418800017408)) (ok0_hA : frm.toInt ≤ 0 → 0 < to.toInt → r = -1 → ifCond.holds .gt (Op.cmpValue (FP.dcmp d0 (FP.dsub sum 4607182418800017408)) .g) = false) (ok0_hR : r ≠ -1 → 0 ≤ r.toInt ∧ r.toInt < 4) (ok0_hB : frm.toInt ≤ 0 → 0 < to.toInt → r ≠ -1 → ifCond.holds .gt (Op.cmpValue (FP.dcmp d0 (own_el d0 d1 d2 d3 r.toInt)) .g) = false ∧ (0 < r.toInt → ifCond.holds .ge (Op.cmpValue (FP.dcmp d0 (own_el d0 d1 d2 d3 r.toInt)) .g) = false)) :
    MetFree l (⟨"com/example/libcredal/libcredal/core/OutwardRoundingBalancingPinLaw", "okAt", "([DIIIID)Z"⟩ : MethodName) (head1 (Jvm.Cond.code (⟨"com/example/libcredal/libcredal/core/OutwardRoundingBalancingPinLaw", "okAt", "([DIIIID)Z"⟩ : MethodName) method_2_code 7 (some .boolean) :: ws) ({ frames := 0, cells := 0, slots := 0, locals := 0 } : Room)) (fun a U => a = #[(.ref q), (.int (0 : Int32)), (.int frm), (.int to), (.int r), (.double sum)] ∧ Z.Warmed39 U.vm ∧ U.heap = h0) (fun _ _ _ _ _ => True) (fun _ U o U' => ∃ v L, o = .returned v ∧ own_QP (some (.int (1 : Int32))) h0 n0 v U'.heap L ∧ FrameEnd U o U' L ({ frames := 0, cells := 0, slots := 0, locals := 0 } : Room).cells ({ frames := 0, cells := 0, slots := 0, locals := 0 } : Room).slots) := by
  have ek : (0 : Int32).toInt = 0 := by decide
  by_cases a1 : (0 : Int32) < frm
  · exact own_rm_o0t l Z a0 hw ws q d0 d1 d2 d3 frm to r sum h0 n0 Z0 V_q (o0t_hb2 := (XT.ii_lt_t a1))
  · have b2 := XT.ii_lt_f a1
    have c1 : frm.toInt ≤ 0 := Int.le_of_not_gt fun q => a1 (Int32.lt_iff_toInt_lt.mpr (by omega))
    by_cases a2 : (0 : Int32) < to
    · have b7 := XT.ii_lt_t a2
      have c2 : 0 < to.toInt := by have := Int32.lt_iff_toInt_lt.mp a2; omega
      by_cases a3 : r = -1
      · exact own_rm_o0ftff l Z a0 hw ws q d0 d1 d2 d3 frm to r sum h0 n0 Z0 V_q (o0ftff_hb2 := b2) (o0ftff_hb7 := b7) (o0ftff_hb15 := (XT.ii_ne_f a3)) (o0ftff_hn24 := ok0_hs) (o0ftff_hv24 := rfl) (o0ftff_hb26 := (ok0_hA c1 c2 a3))
      · have c3 := ok0_hR a3
        obtain ⟨hb1, hb2⟩ := ok0_hB c1 c2 a3
        by_cases a4 : (0 : Int32) < r
        · exact own_rm_o0fttfff l Z a0 hw ws q d0 d1 d2 d3 frm to r sum h0 n0 Z0 V_q (o0fttfff_hb2 := b2) (o0fttfff_hb7 := b7) (o0fttfff_hb15 := (XT.ii_ne_t a3)) (o0fttfff_hin41 := (own_inb c3)) (o0fttfff_hel41 := (own_getD d0 d1 d2 d3 c3)) (o0fttfff_hb43 := hb1) (o0fttfff_hb49 := (XT.ii_ge_f a4)) (o0fttfff_hin58 := (own_inb c3)) (o0fttfff_hel58 := (own_getD d0 d1 d2 d3 c3)) (o0fttfff_hb60 := (hb2 (by have := Int32.lt_iff_toInt_lt.mp a4; omega)))
        · exact own_rm_o0fttft l Z a0 hw ws q d0 d1 d2 d3 frm to r sum h0 n0 Z0 V_q (o0fttft_hb2 := b2) (o0fttft_hb7 := b7) (o0fttft_hb15 := (XT.ii_ne_t a3)) (o0fttft_hin41 := (own_inb c3)) (o0fttft_hel41 := (own_getD d0 d1 d2 d3 c3)) (o0fttft_hb43 := hb1) (o0fttft_hb49 := (XT.ii_ge_t a4))
    · exact own_rm_o0ff l Z a0 hw ws q d0 d1 d2 d3 frm to r sum h0 n0 Z0 V_q (o0ff_hb2 := b2) (o0ff_hb7 := (XT.ii_lt_f a2))
theorem own_ef_o1t (m : MethodId) (q : Addr) (frm : Int32) (to : Int32) (r : Int32) (sum : UInt64) : entryFrame m #[(.ref q), (.int (1 : Int32)), (.int frm), (.int to), (.int r), (.double sum)] 7 = mkF m 0 #[.val (.ref q), .val (.int (1 : Int32)), .val (.int frm), .val (.int to), .val (.int r), .val (.double sum), .second] [] := by first | (simp [entryFrame, mkF, argsToLocals, Value.category]; done) | rfl
set_option maxRecDepth 65536 in
set_option maxHeartbeats 40000000 in
theorem own_rm_o1t (l : Launch) (Z : State) (a0 : Array Value) (hw : ∀ d ∈ tables_1, d.before a0 Z = true) (ws : List Jvm.Cond) (q : Addr) (d0 : UInt64) (d1 : UInt64) (d2 : UInt64) (d3 : UInt64) (frm : Int32) (to : Int32) (r : Int32) (sum : UInt64) {qk : ClassId} (h0 : Heap) (n0 : Nat) (Z0 : n0 ≤ h0.size) (V_q : Arv Z h0 q qk .double (4 : Int32) [(.double d0), (.double d1), (.double d2), (.double d3)] (.double 0)) (o1t_hb2 : if_icmp.holds .lt (1 : Int32) frm = true) :
    MetFree l (⟨"com/example/libcredal/libcredal/core/OutwardRoundingBalancingPinLaw", "okAt", "([DIIIID)Z"⟩ : MethodName) (head1 (Jvm.Cond.code (⟨"com/example/libcredal/libcredal/core/OutwardRoundingBalancingPinLaw", "okAt", "([DIIIID)Z"⟩ : MethodName) method_2_code 7 (some .boolean) :: ws) ({ frames := 0, cells := 0, slots := 0, locals := 0 } : Room)) (fun a U => a = #[(.ref q), (.int (1 : Int32)), (.int frm), (.int to), (.int r), (.double sum)] ∧ Z.Warmed39 U.vm ∧ U.heap = h0) (fun _ _ _ _ _ => True) (fun _ U o U' => ∃ v L, o = .returned v ∧ own_QP (some (.int (1 : Int32))) h0 n0 v U'.heap L ∧ FrameEnd U o U' L ({ frames := 0, cells := 0, slots := 0, locals := 0 } : Room).cells ({ frames := 0, cells := 0, slots := 0, locals := 0 } : Room).slots) := by
  refine MetFree.of_bodySF (plainFor_of_name own_pn_com_example_libcredal_libcredal_core_OutwardRoundingBalancingPinLaw) hisR ?_
  intro p e s m args below meth c s₁ Bd hml0 hP hK
  obtain ⟨rfl, hZ, hh⟩ := hP
  have hx := Bd.exec
  have hby := Bd.bytes
  have hml : c.maxLocals = 7 := hml0
  have hown : s.vm.findClass "com/example/libcredal/libcredal/core/OutwardRoundingBalancingPinLaw" = some m.cls := findClass_of_methodNamed Bd.named
  have hnm := (name_of_methodNamed Bd.named Bd.method).1
  have X0 : Stand p l e ({ frames := 0, cells := 0, slots := 0, locals := 0 } : Room) s m #[(.ref q), (.int (1 : Int32)), (.int frm), (.int to), (.int r), (.double sum)] below meth c s₁ [] 0 0 := Stand.of_body Bd
  have e0 : s₁.heap = h0 := by rw [← hh, Bd.state]; rfl
  have N0 := Fr.nil n0
  have pre0 : ∀ t, Steps p.tables e below (s₁.setTop (mkF m 0 #[.val (.ref q), .val (.int (1 : Int32)), .val (.int frm), .val (.int to), .val (.int r), .val (.double sum), .second] [])) t → Steps p.tables e below (s₁.setTop (entryFrame m #[(.ref q), (.int (1 : Int32)), (.int frm), (.int to), (.int r), (.double sum)] 7)) t := fun t k => castTop (own_ef_o1t m q frm to r sum) k
  obtain ⟨fs, hr, hrun, hended, hW, hsame⟩ := X0.leave (v := some (.int (1 : Int32))) (fun h => by rw [Bd.returns] at h; cases h)
  refine ⟨_, _, pre0 _ ?_, hrun, hended, _, _, rfl, ?_, ⟨_, rfl⟩, hW, hsame.mono (by decide) (by decide)⟩
  · refine own_s_iloadN X0.here hx (hb hby own_d2_0) (pc' := 1) rfl rfl ?_
    refine own_s_iloadN X0.here hx (hb hby own_d2_1) (pc' := 2) rfl rfl ?_
    refine own_s_icmpYes X0.here hx (hb hby own_d2_2) (by decide) (pc' := 10) (by decide) o1t_hb2 ?_
    refine own_s_iconst X0.here hx (hb hby own_d2_10) (pc' := 11) rfl (v := (1 : Int32)) (by decide) ?_
    exact retN X0 hx (t := .boolean) Bd.returns (by simp) (hb hby own_d2_11) hr
  · show own_QP (some (.int (1 : Int32))) h0 n0 _ s₁.heap _
    rw [e0]
    exact ⟨rfl, N0, rfl⟩
theorem own_ef_o1ff (m : MethodId) (q : Addr) (frm : Int32) (to : Int32) (r : Int32) (sum : UInt64) : entryFrame m #[(.ref q), (.int (1 : Int32)), (.int frm), (.int to), (.int r), (.double sum)] 7 = mkF m 0 #[.val (.ref q), .val (.int (1 : Int32)), .val (.int frm), .val (.int to), .val (.int r), .val (.double sum), .second] [] := by first | (simp [entryFrame, mkF, argsToLocals, Value.category]; done) | rfl
set_option maxRecDepth 65536 in
set_option maxHeartbeats 40000000 in
theorem own_rm_o1ff (l : Launch) (Z : State) (a0 : Array Value) (hw : ∀ d ∈ tables_1, d.before a0 Z = true) (ws : List Jvm.Cond) (q : Addr) (d0 : UInt64) (d1 : UInt64) (d2 : UInt64) (d3 : UInt64) (frm : Int32) (to : Int32) (r : Int32) (sum : UInt64) {qk : ClassId} (h0 : Heap) (n0 : Nat) (Z0 : n0 ≤ h0.size) (V_q : Arv Z h0 q qk .double (4 : Int32) [(.double d0), (.double d1), (.double d2), (.double d3)] (.double 0)) (o1ff_hb2 : if_icmp.holds .lt (1 : Int32) frm = false) (o1ff_hb7 : if_icmp.holds .lt (1 : Int32) to = false) :
    MetFree l (⟨"com/example/libcredal/libcredal/core/OutwardRoundingBalancingPinLaw", "okAt", "([DIIIID)Z"⟩ : MethodName) (head1 (Jvm.Cond.code (⟨"com/example/libcredal/libcredal/core/OutwardRoundingBalancingPinLaw", "okAt", "([DIIIID)Z"⟩ : MethodName) method_2_code 7 (some .boolean) :: ws) ({ frames := 0, cells := 0, slots := 0, locals := 0 } : Room)) (fun a U => a = #[(.ref q), (.int (1 : Int32)), (.int frm), (.int to), (.int r), (.double sum)] ∧ Z.Warmed39 U.vm ∧ U.heap = h0) (fun _ _ _ _ _ => True) (fun _ U o U' => ∃ v L, o = .returned v ∧ own_QP (some (.int (1 : Int32))) h0 n0 v U'.heap L ∧ FrameEnd U o U' L ({ frames := 0, cells := 0, slots := 0, locals := 0 } : Room).cells ({ frames := 0, cells := 0, slots := 0, locals := 0 } : Room).slots) := by
  refine MetFree.of_bodySF (plainFor_of_name own_pn_com_example_libcredal_libcredal_core_OutwardRoundingBalancingPinLaw) hisR ?_
  intro p e s m args below meth c s₁ Bd hml0 hP hK
  obtain ⟨rfl, hZ, hh⟩ := hP
  have hx := Bd.exec
  have hby := Bd.bytes
  have hml : c.maxLocals = 7 := hml0
  have hown : s.vm.findClass "com/example/libcredal/libcredal/core/OutwardRoundingBalancingPinLaw" = some m.cls := findClass_of_methodNamed Bd.named
  have hnm := (name_of_methodNamed Bd.named Bd.method).1
  have X0 : Stand p l e ({ frames := 0, cells := 0, slots := 0, locals := 0 } : Room) s m #[(.ref q), (.int (1 : Int32)), (.int frm), (.int to), (.int r), (.double sum)] below meth c s₁ [] 0 0 := Stand.of_body Bd
  have e0 : s₁.heap = h0 := by rw [← hh, Bd.state]; rfl
  have N0 := Fr.nil n0
  have pre0 : ∀ t, Steps p.tables e below (s₁.setTop (mkF m 0 #[.val (.ref q), .val (.int (1 : Int32)), .val (.int frm), .val (.int to), .val (.int r), .val (.double sum), .second] [])) t → Steps p.tables e below (s₁.setTop (entryFrame m #[(.ref q), (.int (1 : Int32)), (.int frm), (.int to), (.int r), (.double sum)] 7)) t := fun t k => castTop (own_ef_o1ff m q frm to r sum) k
  obtain ⟨fs, hr, hrun, hended, hW, hsame⟩ := X0.leave (v := some (.int (1 : Int32))) (fun h => by rw [Bd.returns] at h; cases h)
  refine ⟨_, _, pre0 _ ?_, hrun, hended, _, _, rfl, ?_, ⟨_, rfl⟩, hW, hsame.mono (by decide) (by decide)⟩
  · refine own_s_iloadN X0.here hx (hb hby own_d2_0) (pc' := 1) rfl rfl ?_
    refine own_s_iloadN X0.here hx (hb hby own_d2_1) (pc' := 2) rfl rfl ?_
    refine own_s_icmpNo X0.here hx (hb hby own_d2_2) (pc' := 5) rfl o1ff_hb2 ?_
    refine own_s_iloadN X0.here hx (hb hby own_d2_5) (pc' := 6) rfl rfl ?_
    refine own_s_iloadN X0.here hx (hb hby own_d2_6) (pc' := 7) rfl rfl ?_
    refine own_s_icmpNo X0.here hx (hb hby own_d2_7) (pc' := 10) rfl o1ff_hb7 ?_
    refine own_s_iconst X0.here hx (hb hby own_d2_10) (pc' := 11) rfl (v := (1 : Int32)) (by decide) ?_
    exact retN X0 hx (t := .boolean) Bd.returns (by simp) (hb hby own_d2_11) hr
  · show own_QP (some (.int (1 : Int32))) h0 n0 _ s₁.heap _
    rw [e0]
    exact ⟨rfl, N0, rfl⟩
theorem own_ef_o1ftff (m : MethodId) (q : Addr) (frm : Int32) (to : Int32) (r : Int32) (sum : UInt64) : entryFrame m #[(.ref q), (.int (1 : Int32)), (.int frm), (.int to), (.int r), (.double sum)] 7 = mkF m 0 #[.val (.ref q), .val (.int (1 : Int32)), .val (.int frm), .val (.int to), .val (.int r), .val (.double sum), .second] [] := by first | (simp [entryFrame, mkF, argsToLocals, Value.category]; done) | rfl
set_option maxRecDepth 65536 in
set_option maxHeartbeats 40000000 in
theorem own_rm_o1ftff (l : Launch) (Z : State) (a0 : Array Value) (hw : ∀ d ∈ tables_1, d.before a0 Z = true) (ws : List Jvm.Cond) (q : Addr) (d0 : UInt64) (d1 : UInt64) (d2 : UInt64) (d3 : UInt64) (frm : Int32) (to : Int32) (r : Int32) (sum : UInt64) {qk : ClassId} {o1ftff_v24 : UInt64} (h0 : Heap) (n0 : Nat) (Z0 : n0 ≤ h0.size) (V_q : Arv Z h0 q qk .double (4 : Int32) [(.double d0), (.double d1), (.double d2), (.double d3)] (.double 0)) (o1ftff_hb2 : if_icmp.holds .lt (1 : Int32) frm = false) (o1ftff_hb7 : if_icmp.holds .lt (1 : Int32) to = true) (o1ftff_hb15 : if_icmp.holds .ne r (-1 : Int32) = false) (o1ftff_hn24 : Jvm.Free.Fl.NoNaN64 (FP.dsub sum 4607182418800017408)) (o1ftff_hv24 : FP.dsub sum 4607182418800017408 = o1ftff_v24) (o1ftff_hb26 : ifCond.holds .gt (Op.cmpValue (FP.dcmp d1 o1ftff_v24) .g) = false) :
    MetFree l (⟨"com/example/libcredal/libcredal/core/OutwardRoundingBalancingPinLaw", "okAt", "([DIIIID)Z"⟩ : MethodName) (head1 (Jvm.Cond.code (⟨"com/example/libcredal/libcredal/core/OutwardRoundingBalancingPinLaw", "okAt", "([DIIIID)Z"⟩ : MethodName) method_2_code 7 (some .boolean) :: ws) ({ frames := 0, cells := 0, slots := 0, locals := 0 } : Room)) (fun a U => a = #[(.ref q), (.int (1 : Int32)), (.int frm), (.int to), (.int r), (.double sum)] ∧ Z.Warmed39 U.vm ∧ U.heap = h0) (fun _ _ _ _ _ => True) (fun _ U o U' => ∃ v L, o = .returned v ∧ own_QP (some (.int (1 : Int32))) h0 n0 v U'.heap L ∧ FrameEnd U o U' L ({ frames := 0, cells := 0, slots := 0, locals := 0 } : Room).cells ({ frames := 0, cells := 0, slots := 0, locals := 0 } : Room).slots) := by
  refine MetFree.of_bodySF (plainFor_of_name own_pn_com_example_libcredal_libcredal_core_OutwardRoundingBalancingPinLaw) hisR ?_
  intro p e s m args below meth c s₁ Bd hml0 hP hK
  obtain ⟨rfl, hZ, hh⟩ := hP
  have hx := Bd.exec
  have hby := Bd.bytes
  have hml : c.maxLocals = 7 := hml0
  have hown : s.vm.findClass "com/example/libcredal/libcredal/core/OutwardRoundingBalancingPinLaw" = some m.cls := findClass_of_methodNamed Bd.named
  have hnm := (name_of_methodNamed Bd.named Bd.method).1
  have X0 : Stand p l e ({ frames := 0, cells := 0, slots := 0, locals := 0 } : Room) s m #[(.ref q), (.int (1 : Int32)), (.int frm), (.int to), (.int r), (.double sum)] below meth c s₁ [] 0 0 := Stand.of_body Bd
  have e0 : s₁.heap = h0 := by rw [← hh, Bd.state]; rfl
  have N0 := Fr.nil n0
  have pre0 : ∀ t, Steps p.tables e below (s₁.setTop (mkF m 0 #[.val (.ref q), .val (.int (1 : Int32)), .val (.int frm), .val (.int to), .val (.int r), .val (.double sum), .second] [])) t → Steps p.tables e below (s₁.setTop (entryFrame m #[(.ref q), (.int (1 : Int32)), (.int frm), (.int to), (.int r), (.double sum)] 7)) t := fun t k => castTop (own_ef_o1ftff m q frm to r sum) k
  obtain ⟨fs, hr, hrun, hended, hW, hsame⟩ := X0.leave (v := some (.int (1 : Int32))) (fun h => by rw [Bd.returns] at h; cases h)
  refine ⟨_, _, pre0 _ ?_, hrun, hended, _, _, rfl, ?_, ⟨_, rfl⟩, hW, hsame.mono (by decide) (by decide)⟩
  · refine own_s_iloadN X0.here hx (hb hby own_d2_0) (pc' := 1) rfl rfl ?_
    refine own_s_iloadN X0.here hx (hb hby own_d2_1) (pc' := 2) rfl rfl ?_
    refine own_s_icmpNo X0.here hx (hb hby own_d2_2) (pc' := 5) rfl o1ftff_hb2 ?_
    refine own_s_iloadN X0.here hx (hb hby own_d2_5) (pc' := 6) rfl rfl ?_
    refine own_s_iloadN X0.here hx (hb hby own_d2_6) (pc' := 7) rfl rfl ?_
    refine own_s_icmpYes X0.here hx (hb hby own_d2_7) (by decide) (pc' := 12) (by decide) o1ftff_hb7 ?_
    refine own_s_iload X0.here hx (hb hby own_d2_12) (pc' := 14) rfl rfl ?_
    refine own_s_iconst X0.here hx (hb hby own_d2_14) (pc' := 15) rfl (v := (-1 : Int32)) (by decide) ?_
    refine own_s_icmpNo X0.here hx (hb hby own_d2_15) (pc' := 18) rfl o1ftff_hb15 ?_
    refine own_s_aloadN X0.here hx (hb hby own_d2_18) (pc' := 19) rfl rfl rfl ?_
    refine own_s_iloadN X0.here hx (hb hby own_d2_19) (pc' := 20) rfl rfl ?_
    refine own_ldD X0 hx hZ e0 V_q (j := (1 : Int32)) (x := d1) (by decide) rfl (hb hby own_d2_20) (pc' := 21) rfl ?_
    refine own_s_dload X0.here hx (hb hby own_d2_21) (pc' := 23) rfl rfl ?_
    refine own_s_dconst1 X0.here hx (hb hby own_d2_23) (pc' := 24) rfl  ?_
    refine own_s_dsub X0.here hx (hb hby own_d2_24) (pc' := 25) rfl o1ftff_hn24 (v := o1ftff_v24) o1ftff_hv24 ?_
    refine own_s_dcmp X0.here hx (hb hby own_d2_25) (pc' := 26) rfl (v := (Op.cmpValue (FP.dcmp d1 o1ftff_v24) .g)) rfl ?_
    refine own_s_ifNo X0.here hx (hb hby own_d2_26) (pc' := 29) rfl o1ftff_hb26 ?_
    refine own_s_iconst X0.here hx (hb hby own_d2_29) (pc' := 30) rfl (v := (1 : Int32)) (by decide) ?_
    refine own_s_goto X0.here hx (hb hby own_d2_30) (by decide) (pc' := 34) (by decide) ?_
    exact retN X0 hx (t := .boolean) Bd.returns (by simp) (hb hby own_d2_34) hr
  · show own_QP (some (.int (1 : Int32))) h0 n0 _ s₁.heap _
    rw [e0]
    exact ⟨rfl, N0, rfl⟩
theorem own_ef_o1fttft (m : MethodId) (q : Addr) (frm : Int32) (to : Int32) (r : Int32) (sum : UInt64) : entryFrame m #[(.ref q), (.int (1 : Int32)), (.int frm), (.int to), (.int r), (.double sum)] 7 = mkF m 0 #[.val (.ref q), .val (.int (1 : Int32)), .val (.int frm), .val (.int to), .val (.int r), .val (.double sum), .second] [] := by first | (simp [entryFrame, mkF, argsToLocals, Value.category]; done) | rfl
set_option maxRecDepth 65536 in
set_option maxHeartbeats 40000000 in
theorem own_rm_o1fttft (l : Launch) (Z : State) (a0 : Array Value) (hw : ∀ d ∈ tables_1, d.before a0 Z = true) (ws : List Jvm.Cond) (q : Addr) (d0 : UInt64) (d1 : UInt64) (d2 : UInt64) (d3 : UInt64) (frm : Int32) (to : Int32) (r : Int32) (sum : UInt64) {qk : ClassId} {o1fttft_v41 : UInt64} (h0 : Heap) (n0 : Nat) (Z0 : n0 ≤ h0.size) (V_q : Arv Z h0 q qk .double (4 : Int32) [(.double d0), (.double d1), (.double d2), (.double d3)] (.double 0)) (o1fttft_hb2 : if_icmp.holds .lt (1 : Int32) frm = false) (o1fttft_hb7 : if_icmp.holds .lt (1 : Int32) to = true) (o1fttft_hb15 : if_icmp.holds .ne r (-1 : Int32) = true) (o1fttft_hin41 : ¬ r < 0 ∧ r < (4 : Int32)) (o1fttft_hel41 : ([(.double d0), (.double d1), (.double d2), (.double d3)] : List Value).getD (Int32.toNatClampNeg r) (.double 0) = (.double o1fttft_v41)) (o1fttft_hb43 : ifCond.holds .gt (Op.cmpValue (FP.dcmp d1 o1fttft_v41) .g) = false) (o1fttft_hb49 : if_icmp.holds .ge (1 : Int32) r = true) :
    MetFree l (⟨"com/example/libcredal/libcredal/core/OutwardRoundingBalancingPinLaw", "okAt", "([DIIIID)Z"⟩ : MethodName) (head1 (Jvm.Cond.code (⟨"com/example/libcredal/libcredal/core/OutwardRoundingBalancingPinLaw", "okAt", "([DIIIID)Z"⟩ : MethodName) method_2_code 7 (some .boolean) :: ws) ({ frames := 0, cells := 0, slots := 0, locals := 0 } : Room)) (fun a U => a = #[(.ref q), (.int (1 : Int32)), (.int frm), (.int to), (.int r), (.double sum)] ∧ Z.Warmed39 U.vm ∧ U.heap = h0) (fun _ _ _ _ _ => True) (fun _ U o U' => ∃ v L, o = .returned v ∧ own_QP (some (.int (1 : Int32))) h0 n0 v U'.heap L ∧ FrameEnd U o U' L ({ frames := 0, cells := 0, slots := 0, locals := 0 } : Room).cells ({ frames := 0, cells := 0, slots := 0, locals := 0 } : Room).slots) := by
  refine MetFree.of_bodySF (plainFor_of_name own_pn_com_example_libcredal_libcredal_core_OutwardRoundingBalancingPinLaw) hisR ?_
  intro p e s m args below meth c s₁ Bd hml0 hP hK
  obtain ⟨rfl, hZ, hh⟩ := hP
  have hx := Bd.exec
  have hby := Bd.bytes
  have hml : c.maxLocals = 7 := hml0
  have hown : s.vm.findClass "com/example/libcredal/libcredal/core/OutwardRoundingBalancingPinLaw" = some m.cls := findClass_of_methodNamed Bd.named
  have hnm := (name_of_methodNamed Bd.named Bd.method).1
  have X0 : Stand p l e ({ frames := 0, cells := 0, slots := 0, locals := 0 } : Room) s m #[(.ref q), (.int (1 : Int32)), (.int frm), (.int to), (.int r), (.double sum)] below meth c s₁ [] 0 0 := Stand.of_body Bd
  have e0 : s₁.heap = h0 := by rw [← hh, Bd.state]; rfl
  have N0 := Fr.nil n0
  have pre0 : ∀ t, Steps p.tables e below (s₁.setTop (mkF m 0 #[.val (.ref q), .val (.int (1 : Int32)), .val (.int frm), .val (.int to), .val (.int r), .val (.double sum), .second] [])) t → Steps p.tables e below (s₁.setTop (entryFrame m #[(.ref q), (.int (1 : Int32)), (.int frm), (.int to), (.int r), (.double sum)] 7)) t := fun t k => castTop (own_ef_o1fttft m q frm to r sum) k
  obtain ⟨fs, hr, hrun, hended, hW, hsame⟩ := X0.leave (v := some (.int (1 : Int32))) (fun h => by rw [Bd.returns] at h; cases h)
  refine ⟨_, _, pre0 _ ?_, hrun, hended, _, _, rfl, ?_, ⟨_, rfl⟩, hW, hsame.mono (by decide) (by decide)⟩
  · refine own_s_iloadN X0.here hx (hb hby own_d2_0) (pc' := 1) rfl rfl ?_
    refine own_s_iloadN X0.here hx (hb hby own_d2_1) (pc' := 2) rfl rfl ?_
    refine own_s_icmpNo X0.here hx (hb hby own_d2_2) (pc' := 5) rfl o1fttft_hb2 ?_
    refine own_s_iloadN X0.here hx (hb hby own_d2_5) (pc' := 6) rfl rfl ?_
    refine own_s_iloadN X0.here hx (hb hby own_d2_6) (pc' := 7) rfl rfl ?_
    refine own_s_icmpYes X0.here hx (hb hby own_d2_7) (by decide) (pc' := 12) (by decide) o1fttft_hb7 ?_
    refine own_s_iload X0.here hx (hb hby own_d2_12) (pc' := 14) rfl rfl ?_
    refine own_s_iconst X0.here hx (hb hby own_d2_14) (pc' := 15) rfl (v := (-1 : Int32)) (by decide) ?_
    refine own_s_icmpYes X0.here hx (hb hby own_d2_15) (by decide) (pc' := 35) (by decide) o1fttft_hb15 ?_
    refine own_s_aloadN X0.here hx (hb hby own_d2_35) (pc' := 36) rfl rfl rfl ?_
    refine own_s_iloadN X0.here hx (hb hby own_d2_36) (pc' := 37) rfl rfl ?_
    refine own_ldD X0 hx hZ e0 V_q (j := (1 : Int32)) (x := d1) (by decide) rfl (hb hby own_d2_37) (pc' := 38) rfl ?_
    refine own_s_aloadN X0.here hx (hb hby own_d2_38) (pc' := 39) rfl rfl rfl ?_
    refine own_s_iload X0.here hx (hb hby own_d2_39) (pc' := 41) rfl rfl ?_
    refine own_ldD X0 hx hZ e0 V_q (j := r) (x := o1fttft_v41) o1fttft_hin41 o1fttft_hel41 (hb hby own_d2_41) (pc' := 42) rfl ?_
    refine own_s_dcmp X0.here hx (hb hby own_d2_42) (pc' := 43) rfl (v := (Op.cmpValue (FP.dcmp d1 o1fttft_v41) .g)) rfl ?_
    refine own_s_ifNo X0.here hx (hb hby own_d2_43) (pc' := 46) rfl o1fttft_hb43 ?_
    refine own_s_iloadN X0.here hx (hb hby own_d2_46) (pc' := 47) rfl rfl ?_
    refine own_s_iload X0.here hx (hb hby own_d2_47) (pc' := 49) rfl rfl ?_
    refine own_s_icmpYes X0.here hx (hb hby own_d2_49) (by decide) (pc' := 63) (by decide) o1fttft_hb49 ?_
    refine own_s_iconst X0.here hx (hb hby own_d2_63) (pc' := 64) rfl (v := (1 : Int32)) (by decide) ?_
    refine own_s_goto X0.here hx (hb hby own_d2_64) (by decide) (pc' := 68) (by decide) ?_
    exact retN X0 hx (t := .boolean) Bd.returns (by simp) (hb hby own_d2_68) hr
  · show own_QP (some (.int (1 : Int32))) h0 n0 _ s₁.heap _
    rw [e0]
    exact ⟨rfl, N0, rfl⟩
theorem own_ef_o1fttfff (m : MethodId) (q : Addr) (frm : Int32) (to : Int32) (r : Int32) (sum : UInt64) : entryFrame m #[(.ref q), (.int (1 : Int32)), (.int frm), (.int to), (.int r), (.double sum)] 7 = mkF m 0 #[.val (.ref q), .val (.int (1 : Int32)), .val (.int frm), .val (.int to), .val (.int r), .val (.double sum), .second] [] := by first | (simp [entryFrame, mkF, argsToLocals, Value.category]; done) | rfl
set_option maxRecDepth 65536 in
set_option maxHeartbeats 40000000 in
theorem own_rm_o1fttfff (l : Launch) (Z : State) (a0 : Array Value) (hw : ∀ d ∈ tables_1, d.before a0 Z = true) (ws : List Jvm.Cond) (q : Addr) (d0 : UInt64) (d1 : UInt64) (d2 : UInt64) (d3 : UInt64) (frm : Int32) (to : Int32) (r : Int32) (sum : UInt64) {qk : ClassId} {o1fttfff_v41 : UInt64} {o1fttfff_v58 : UInt64} (h0 : Heap) (n0 : Nat) (Z0 : n0 ≤ h0.size) (V_q : Arv Z h0 q qk .double (4 : Int32) [(.double d0), (.double d1), (.double d2), (.double d3)] (.double 0)) (o1fttfff_hb2 : if_icmp.holds .lt (1 : Int32) frm = false) (o1fttfff_hb7 : if_icmp.holds .lt (1 : Int32) to = true) (o1fttfff_hb15 : if_icmp.holds .ne r (-1 : Int32) = true) (o1fttfff_hin41 : ¬ r < 0 ∧ r < (4 : Int32)) (o1fttfff_hel41 : ([(.double d0), (.double d1), (.double d2), (.double d3)] : List Value).getD (Int32.toNatClampNeg r) (.double 0) = (.double o1fttfff_v41)) (o1fttfff_hb43 : ifCond.holds .gt (Op.cmpValue (FP.dcmp d1 o1fttfff_v41) .g) = false) (o1fttfff_hb49 : if_icmp.holds .ge (1 : Int32) r = false) (o1fttfff_hin58 : ¬ r < 0 ∧ r < (4 : Int32)) (o1fttfff_hel58 : ([(.double d0), (.double d1), (.double d2), (.double d3)] : List Value).getD (Int32.toNatClampNeg r) (.double 0) = (.double o1fttfff_v58)) (o1fttfff_hb60 : ifCond.holds .ge (Op.cmpValue (FP.dcmp d1 o1fttfff_v58) .g) = false) :
    MetFree l (⟨"com/example/libcredal/libcredal/core/OutwardRoundingBalancingPinLaw", "okAt", "([DIIIID)Z"⟩ : MethodName) (head1 (Jvm.Cond.code (⟨"com/example/libcredal/libcredal/core/OutwardRoundingBalancingPinLaw", "okAt", "([DIIIID)Z"⟩ : MethodName) method_2_code 7 (some .boolean) :: ws) ({ frames := 0, cells := 0, slots := 0, locals := 0 } : Room)) (fun a U => a = #[(.ref q), (.int (1 : Int32)), (.int frm), (.int to), (.int r), (.double sum)] ∧ Z.Warmed39 U.vm ∧ U.heap = h0) (fun _ _ _ _ _ => True) (fun _ U o U' => ∃ v L, o = .returned v ∧ own_QP (some (.int (1 : Int32))) h0 n0 v U'.heap L ∧ FrameEnd U o U' L ({ frames := 0, cells := 0, slots := 0, locals := 0 } : Room).cells ({ frames := 0, cells := 0, slots := 0, locals := 0 } : Room).slots) := by
  refine MetFree.of_bodySF (plainFor_of_name own_pn_com_example_libcredal_libcredal_core_OutwardRoundingBalancingPinLaw) hisR ?_
  intro p e s m args below meth c s₁ Bd hml0 hP hK
  obtain ⟨rfl, hZ, hh⟩ := hP
  have hx := Bd.exec
  have hby := Bd.bytes
  have hml : c.maxLocals = 7 := hml0
  have hown : s.vm.findClass "com/example/libcredal/libcredal/core/OutwardRoundingBalancingPinLaw" = some m.cls := findClass_of_methodNamed Bd.named
  have hnm := (name_of_methodNamed Bd.named Bd.method).1
  have X0 : Stand p l e ({ frames := 0, cells := 0, slots := 0, locals := 0 } : Room) s m #[(.ref q), (.int (1 : Int32)), (.int frm), (.int to), (.int r), (.double sum)] below meth c s₁ [] 0 0 := Stand.of_body Bd
  have e0 : s₁.heap = h0 := by rw [← hh, Bd.state]; rfl
  have N0 := Fr.nil n0
  have pre0 : ∀ t, Steps p.tables e below (s₁.setTop (mkF m 0 #[.val (.ref q), .val (.int (1 : Int32)), .val (.int frm), .val (.int to), .val (.int r), .val (.double sum), .second] [])) t → Steps p.tables e below (s₁.setTop (entryFrame m #[(.ref q), (.int (1 : Int32)), (.int frm), (.int to), (.int r), (.double sum)] 7)) t := fun t k => castTop (own_ef_o1fttfff m q frm to r sum) k
  obtain ⟨fs, hr, hrun, hended, hW, hsame⟩ := X0.leave (v := some (.int (1 : Int32))) (fun h => by rw [Bd.returns] at h; cases h)
  refine ⟨_, _, pre0 _ ?_, hrun, hended, _, _, rfl, ?_, ⟨_, rfl⟩, hW, hsame.mono (by decide) (by decide)⟩
  · refine own_s_iloadN X0.here hx (hb hby own_d2_0) (pc' := 1) rfl rfl ?_
    refine own_s_iloadN X0.here hx (hb hby own_d2_1) (pc' := 2) rfl rfl ?_
    refine own_s_icmpNo X0.here hx (hb hby own_d2_2) (pc' := 5) rfl o1fttfff_hb2 ?_
    refine own_s_iloadN X0.here hx (hb hby own_d2_5) (pc' := 6) rfl rfl ?_
    refine own_s_iloadN X0.here hx (hb hby own_d2_6) (pc' := 7) rfl rfl ?_
    refine own_s_icmpYes X0.here hx (hb hby own_d2_7) (by decide) (pc' := 12) (by decide) o1fttfff_hb7 ?_
    refine own_s_iload X0.here hx (hb hby own_d2_12) (pc' := 14) rfl rfl ?_
    refine own_s_iconst X0.here hx (hb hby own_d2_14) (pc' := 15) rfl (v := (-1 : Int32)) (by decide) ?_
    refine own_s_icmpYes X0.here hx (hb hby own_d2_15) (by decide) (pc' := 35) (by decide) o1fttfff_hb15 ?_
    refine own_s_aloadN X0.here hx (hb hby own_d2_35) (pc' := 36) rfl rfl rfl ?_
    refine own_s_iloadN X0.here hx (hb hby own_d2_36) (pc' := 37) rfl rfl ?_
    refine own_ldD X0 hx hZ e0 V_q (j := (1 : Int32)) (x := d1) (by decide) rfl (hb hby own_d2_37) (pc' := 38) rfl ?_
    refine own_s_aloadN X0.here hx (hb hby own_d2_38) (pc' := 39) rfl rfl rfl ?_
    refine own_s_iload X0.here hx (hb hby own_d2_39) (pc' := 41) rfl rfl ?_
    refine own_ldD X0 hx hZ e0 V_q (j := r) (x := o1fttfff_v41) o1fttfff_hin41 o1fttfff_hel41 (hb hby own_d2_41) (pc' := 42) rfl ?_
    refine own_s_dcmp X0.here hx (hb hby own_d2_42) (pc' := 43) rfl (v := (Op.cmpValue (FP.dcmp d1 o1fttfff_v41) .g)) rfl ?_
    refine own_s_ifNo X0.here hx (hb hby own_d2_43) (pc' := 46) rfl o1fttfff_hb43 ?_
    refine own_s_iloadN X0.here hx (hb hby own_d2_46) (pc' := 47) rfl rfl ?_
    refine own_s_iload X0.here hx (hb hby own_d2_47) (pc' := 49) rfl rfl ?_
    refine own_s_icmpNo X0.here hx (hb hby own_d2_49) (pc' := 52) rfl o1fttfff_hb49 ?_
    refine own_s_aloadN X0.here hx (hb hby own_d2_52) (pc' := 53) rfl rfl rfl ?_
    refine own_s_iloadN X0.here hx (hb hby own_d2_53) (pc' := 54) rfl rfl ?_
    refine own_ldD X0 hx hZ e0 V_q (j := (1 : Int32)) (x := d1) (by decide) rfl (hb hby own_d2_54) (pc' := 55) rfl ?_
    refine own_s_aloadN X0.here hx (hb hby own_d2_55) (pc' := 56) rfl rfl rfl ?_
    refine own_s_iload X0.here hx (hb hby own_d2_56) (pc' := 58) rfl rfl ?_
    refine own_ldD X0 hx hZ e0 V_q (j := r) (x := o1fttfff_v58) o1fttfff_hin58 o1fttfff_hel58 (hb hby own_d2_58) (pc' := 59) rfl ?_
    refine own_s_dcmp X0.here hx (hb hby own_d2_59) (pc' := 60) rfl (v := (Op.cmpValue (FP.dcmp d1 o1fttfff_v58) .g)) rfl ?_
    refine own_s_ifNo X0.here hx (hb hby own_d2_60) (pc' := 63) rfl o1fttfff_hb60 ?_
    refine own_s_iconst X0.here hx (hb hby own_d2_63) (pc' := 64) rfl (v := (1 : Int32)) (by decide) ?_
    refine own_s_goto X0.here hx (hb hby own_d2_64) (by decide) (pc' := 68) (by decide) ?_
    exact retN X0 hx (t := .boolean) Bd.returns (by simp) (hb hby own_d2_68) hr
  · show own_QP (some (.int (1 : Int32))) h0 n0 _ s₁.heap _
    rw [e0]
    exact ⟨rfl, N0, rfl⟩
set_option maxRecDepth 65536 in
set_option maxHeartbeats 40000000 in
theorem own_rm_ok1 (l : Launch) (Z : State) (a0 : Array Value) (hw : ∀ d ∈ tables_1, d.before a0 Z = true) (ws : List Jvm.Cond) (q : Addr) (d0 : UInt64) (d1 : UInt64) (d2 : UInt64) (d3 : UInt64) (frm : Int32) (to : Int32) (r : Int32) (sum : UInt64) {qk : ClassId} (h0 : Heap) (n0 : Nat) (Z0 : n0 ≤ h0.size) (V_q : Arv Z h0 q qk .double (4 : Int32) [(.double d0), (.double d1), (.double d2), (.double d3)] (.double 0)) (ok1_hs : Jvm.Free.Fl.NoNaN64 (FP.dsub sum 4607182418800017408)) (ok1_hA : frm.toInt ≤ 1 → 1 < to.toInt → r = -1 → ifCond.holds .gt (Op.cmpValue (FP.dcmp d1 (FP.dsub sum 4607182418800017408)) .g) = false) (ok1_hR : r ≠ -1 → 0 ≤ r.toInt ∧ r.toInt < 4) (ok1_hB : frm.toInt ≤ 1 → 1 < to.toInt → r ≠ -1 → ifCond.holds .gt (Op.cmpValue (FP.dcmp d1 (own_el d0 d1 d2 d3 r.toInt)) .g) = false ∧ (1 < r.toInt → ifCond.holds .ge (Op.cmpValue (FP.dcmp d1 (own_el d0 d1 d2 d3 r.toInt)) .g) = false)) :
    MetFree l (⟨"com/example/libcredal/libcredal/core/OutwardRoundingBalancingPinLaw", "okAt", "([DIIIID)Z"⟩ : MethodName) (head1 (Jvm.Cond.code (⟨"com/example/libcredal/libcredal/core/OutwardRoundingBalancingPinLaw", "okAt", "([DIIIID)Z"⟩ : MethodName) method_2_code 7 (some .boolean) :: ws) ({ frames := 0, cells := 0, slots := 0, locals := 0 } : Room)) (fun a U => a = #[(.ref q), (.int (1 : Int32)), (.int frm), (.int to), (.int r), (.double sum)] ∧ Z.Warmed39 U.vm ∧ U.heap = h0) (fun _ _ _ _ _ => True) (fun _ U o U' => ∃ v L, o = .returned v ∧ own_QP (some (.int (1 : Int32))) h0 n0 v U'.heap L ∧ FrameEnd U o U' L ({ frames := 0, cells := 0, slots := 0, locals := 0 } : Room).cells ({ frames := 0, cells := 0, slots := 0, locals := 0 } : Room).slots) := by
  have ek : (1 : Int32).toInt = 1 := by decide
  by_cases a1 : (1 : Int32) < frm
  · exact own_rm_o1t l Z a0 hw ws q d0 d1 d2 d3 frm to r sum h0 n0 Z0 V_q (o1t_hb2 := (XT.ii_lt_t a1))
  · have b2 := XT.ii_lt_f a1
    have c1 : frm.toInt ≤ 1 := Int.le_of_not_gt fun q => a1 (Int32.lt_iff_toInt_lt.mpr (by omega))
    by_cases a2 : (1 : Int32) < to
    · have b7 := XT.ii_lt_t a2
      have c2 : 1 < to.toInt := by have := Int32.lt_iff_toInt_lt.mp a2; omega
      by_cases a3 : r = -1
      · exact own_rm_o1ftff l Z a0 hw ws q d0 d1 d2 d3 frm to r sum h0 n0 Z0 V_q (o1ftff_hb2 := b2) (o1ftff_hb7 := b7) (o1ftff_hb15 := (XT.ii_ne_f a3)) (o1ftff_hn24 := ok1_hs) (o1ftff_hv24 := rfl) (o1ftff_hb26 := (ok1_hA c1 c2 a3))
      · have c3 := ok1_hR a3
        obtain ⟨hb1, hb2⟩ := ok1_hB c1 c2 a3
        by_cases a4 : (1 : Int32) < r
        · exact own_rm_o1fttfff l Z a0 hw ws q d0 d1 d2 d3 frm to r sum h0 n0 Z0 V_q (o1fttfff_hb2 := b2) (o1fttfff_hb7 := b7) (o1fttfff_hb15 := (XT.ii_ne_t a3)) (o1fttfff_hin41 := (own_inb c3)) (o1fttfff_hel41 := (own_getD d0 d1 d2 d3 c3)) (o1fttfff_hb43 := hb1) (o1fttfff_hb49 := (XT.ii_ge_f a4)) (o1fttfff_hin58 := (own_inb c3)) (o1fttfff_hel58 := (own_getD d0 d1 d2 d3 c3)) (o1fttfff_hb60 := (hb2 (by have := Int32.lt_iff_toInt_lt.mp a4; omega)))
        · exact own_rm_o1fttft l Z a0 hw ws q d0 d1 d2 d3 frm to r sum h0 n0 Z0 V_q (o1fttft_hb2 := b2) (o1fttft_hb7 := b7) (o1fttft_hb15 := (XT.ii_ne_t a3)) (o1fttft_hin41 := (own_inb c3)) (o1fttft_hel41 := (own_getD d0 d1 d2 d3 c3)) (o1fttft_hb43 := hb1) (o1fttft_hb49 := (XT.ii_ge_t a4))
    · exact own_rm_o1ff l Z a0 hw ws q d0 d1 d2 d3 frm to r sum h0 n0 Z0 V_q (o1ff_hb2 := b2) (o1ff_hb7 := (XT.ii_lt_f a2))
theorem own_ef_o2t (m : MethodId) (q : Addr) (frm : Int32) (to : Int32) (r : Int32) (sum : UInt64) : entryFrame m #[(.ref q), (.int (2 : Int32)), (.int frm), (.int to), (.int r), (.double sum)] 7 = mkF m 0 #[.val (.ref q), .val (.int (2 : Int32)), .val (.int frm), .val (.int to), .val (.int r), .val (.double sum), .second] [] := by first | (simp [entryFrame, mkF, argsToLocals, Value.category]; done) | rfl
set_option maxRecDepth 65536 in
set_option maxHeartbeats 40000000 in
theorem own_rm_o2t (l : Launch) (Z : State) (a0 : Array Value) (hw : ∀ d ∈ tables_1, d.before a0 Z = true) (ws : List Jvm.Cond) (q : Addr) (d0 : UInt64) (d1 : UInt64) (d2 : UInt64) (d3 : UInt64) (frm : Int32) (to : Int32) (r : Int32) (sum : UInt64) {qk : ClassId} (h0 : Heap) (n0 : Nat) (Z0 : n0 ≤ h0.size) (V_q : Arv Z h0 q qk .double (4 : Int32) [(.double d0), (.double d1), (.double d2), (.double d3)] (.double 0)) (o2t_hb2 : if_icmp.holds .lt (2 : Int32) frm = true) :
    MetFree l (⟨"com/example/libcredal/libcredal/core/OutwardRoundingBalancingPinLaw", "okAt", "([DIIIID)Z"⟩ : MethodName) (head1 (Jvm.Cond.code (⟨"com/example/libcredal/libcredal/core/OutwardRoundingBalancingPinLaw", "okAt", "([DIIIID)Z"⟩ : MethodName) method_2_code 7 (some .boolean) :: ws) ({ frames := 0, cells := 0, slots := 0, locals := 0 } : Room)) (fun a U => a = #[(.ref q), (.int (2 : Int32)), (.int frm), (.int to), (.int r), (.double sum)] ∧ Z.Warmed39 U.vm ∧ U.heap = h0) (fun _ _ _ _ _ => True) (fun _ U o U' => ∃ v L, o = .returned v ∧ own_QP (some (.int (1 : Int32))) h0 n0 v U'.heap L ∧ FrameEnd U o U' L ({ frames := 0, cells := 0, slots := 0, locals := 0 } : Room).cells ({ frames := 0, cells := 0, slots := 0, locals := 0 } : Room).slots) := by
  refine MetFree.of_bodySF (plainFor_of_name own_pn_com_example_libcredal_libcredal_core_OutwardRoundingBalancingPinLaw) hisR ?_
  intro p e s m args below meth c s₁ Bd hml0 hP hK
  obtain ⟨rfl, hZ, hh⟩ := hP
  have hx := Bd.exec
  have hby := Bd.bytes
  have hml : c.maxLocals = 7 := hml0
  have hown : s.vm.findClass "com/example/libcredal/libcredal/core/OutwardRoundingBalancingPinLaw" = some m.cls := findClass_of_methodNamed Bd.named
  have hnm := (name_of_methodNamed Bd.named Bd.method).1
  have X0 : Stand p l e ({ frames := 0, cells := 0, slots := 0, locals := 0 } : Room) s m #[(.ref q), (.int (2 : Int32)), (.int frm), (.int to), (.int r), (.double sum)] below meth c s₁ [] 0 0 := Stand.of_body Bd
  have e0 : s₁.heap = h0 := by rw [← hh, Bd.state]; rfl
  have N0 := Fr.nil n0
  have pre0 : ∀ t, Steps p.tables e below (s₁.setTop (mkF m 0 #[.val (.ref q), .val (.int (2 : Int32)), .val (.int frm), .val (.int to), .val (.int r), .val (.double sum), .second] [])) t → Steps p.tables e below (s₁.setTop (entryFrame m #[(.ref q), (.int (2 : Int32)), (.int frm), (.int to), (.int r), (.double sum)] 7)) t := fun t k => castTop (own_ef_o2t m q frm to r sum) k
  obtain ⟨fs, hr, hrun, hended, hW, hsame⟩ := X0.leave (v := some (.int (1 : Int32))) (fun h => by rw [Bd.returns] at h; cases h)
  refine ⟨_, _, pre0 _ ?_, hrun, hended, _, _, rfl, ?_, ⟨_, rfl⟩, hW, hsame.mono (by decide) (by decide)⟩
  · refine own_s_iloadN X0.here hx (hb hby own_d2_0) (pc' := 1) rfl rfl ?_
    refine own_s_iloadN X0.here hx (hb hby own_d2_1) (pc' := 2) rfl rfl ?_
    refine own_s_icmpYes X0.here hx (hb hby own_d2_2) (by decide) (pc' := 10) (by decide) o2t_hb2 ?_
    refine own_s_iconst X0.here hx (hb hby own_d2_10) (pc' := 11) rfl (v := (1 : Int32)) (by decide) ?_
    exact retN X0 hx (t := .boolean) Bd.returns (by simp) (hb hby own_d2_11) hr
  · show own_QP (some (.int (1 : Int32))) h0 n0 _ s₁.heap _
    rw [e0]
    exact ⟨rfl, N0, rfl⟩
theorem own_ef_o2ff (m : MethodId) (q : Addr) (frm : Int32) (to : Int32) (r : Int32) (sum : UInt64) : entryFrame m #[(.ref q), (.int (2 : Int32)), (.int frm), (.int to), (.int r), (.double sum)] 7 = mkF m 0 #[.val (.ref q), .val (.int (2 : Int32)), .val (.int frm), .val (.int to), .val (.int r), .val (.double sum), .second] [] := by first | (simp [entryFrame, mkF, argsToLocals, Value.category]; done) | rfl
set_option maxRecDepth 65536 in
set_option maxHeartbeats 40000000 in
theorem own_rm_o2ff (l : Launch) (Z : State) (a0 : Array Value) (hw : ∀ d ∈ tables_1, d.before a0 Z = true) (ws : List Jvm.Cond) (q : Addr) (d0 : UInt64) (d1 : UInt64) (d2 : UInt64) (d3 : UInt64) (frm : Int32) (to : Int32) (r : Int32) (sum : UInt64) {qk : ClassId} (h0 : Heap) (n0 : Nat) (Z0 : n0 ≤ h0.size) (V_q : Arv Z h0 q qk .double (4 : Int32) [(.double d0), (.double d1), (.double d2), (.double d3)] (.double 0)) (o2ff_hb2 : if_icmp.holds .lt (2 : Int32) frm = false) (o2ff_hb7 : if_icmp.holds .lt (2 : Int32) to = false) :
    MetFree l (⟨"com/example/libcredal/libcredal/core/OutwardRoundingBalancingPinLaw", "okAt", "([DIIIID)Z"⟩ : MethodName) (head1 (Jvm.Cond.code (⟨"com/example/libcredal/libcredal/core/OutwardRoundingBalancingPinLaw", "okAt", "([DIIIID)Z"⟩ : MethodName) method_2_code 7 (some .boolean) :: ws) ({ frames := 0, cells := 0, slots := 0, locals := 0 } : Room)) (fun a U => a = #[(.ref q), (.int (2 : Int32)), (.int frm), (.int to), (.int r), (.double sum)] ∧ Z.Warmed39 U.vm ∧ U.heap = h0) (fun _ _ _ _ _ => True) (fun _ U o U' => ∃ v L, o = .returned v ∧ own_QP (some (.int (1 : Int32))) h0 n0 v U'.heap L ∧ FrameEnd U o U' L ({ frames := 0, cells := 0, slots := 0, locals := 0 } : Room).cells ({ frames := 0, cells := 0, slots := 0, locals := 0 } : Room).slots) := by
  refine MetFree.of_bodySF (plainFor_of_name own_pn_com_example_libcredal_libcredal_core_OutwardRoundingBalancingPinLaw) hisR ?_
  intro p e s m args below meth c s₁ Bd hml0 hP hK
  obtain ⟨rfl, hZ, hh⟩ := hP
  have hx := Bd.exec
  have hby := Bd.bytes
  have hml : c.maxLocals = 7 := hml0
  have hown : s.vm.findClass "com/example/libcredal/libcredal/core/OutwardRoundingBalancingPinLaw" = some m.cls := findClass_of_methodNamed Bd.named
  have hnm := (name_of_methodNamed Bd.named Bd.method).1
  have X0 : Stand p l e ({ frames := 0, cells := 0, slots := 0, locals := 0 } : Room) s m #[(.ref q), (.int (2 : Int32)), (.int frm), (.int to), (.int r), (.double sum)] below meth c s₁ [] 0 0 := Stand.of_body Bd
  have e0 : s₁.heap = h0 := by rw [← hh, Bd.state]; rfl
  have N0 := Fr.nil n0
  have pre0 : ∀ t, Steps p.tables e below (s₁.setTop (mkF m 0 #[.val (.ref q), .val (.int (2 : Int32)), .val (.int frm), .val (.int to), .val (.int r), .val (.double sum), .second] [])) t → Steps p.tables e below (s₁.setTop (entryFrame m #[(.ref q), (.int (2 : Int32)), (.int frm), (.int to), (.int r), (.double sum)] 7)) t := fun t k => castTop (own_ef_o2ff m q frm to r sum) k
  obtain ⟨fs, hr, hrun, hended, hW, hsame⟩ := X0.leave (v := some (.int (1 : Int32))) (fun h => by rw [Bd.returns] at h; cases h)
  refine ⟨_, _, pre0 _ ?_, hrun, hended, _, _, rfl, ?_, ⟨_, rfl⟩, hW, hsame.mono (by decide) (by decide)⟩
  · refine own_s_iloadN X0.here hx (hb hby own_d2_0) (pc' := 1) rfl rfl ?_
    refine own_s_iloadN X0.here hx (hb hby own_d2_1) (pc' := 2) rfl rfl ?_
    refine own_s_icmpNo X0.here hx (hb hby own_d2_2) (pc' := 5) rfl o2ff_hb2 ?_
    refine own_s_iloadN X0.here hx (hb hby own_d2_5) (pc' := 6) rfl rfl ?_
    refine own_s_iloadN X0.here hx (hb hby own_d2_6) (pc' := 7) rfl rfl ?_
    refine own_s_icmpNo X0.here hx (hb hby own_d2_7) (pc' := 10) rfl o2ff_hb7 ?_
    refine own_s_iconst X0.here hx (hb hby own_d2_10) (pc' := 11) rfl (v := (1 : Int32)) (by decide) ?_
    exact retN X0 hx (t := .boolean) Bd.returns (by simp) (hb hby own_d2_11) hr
  · show own_QP (some (.int (1 : Int32))) h0 n0 _ s₁.heap _
    rw [e0]
    exact ⟨rfl, N0, rfl⟩
theorem own_ef_o2ftff (m : MethodId) (q : Addr) (frm : Int32) (to : Int32) (r : Int32) (sum : UInt64) : entryFrame m #[(.ref q), (.int (2 : Int32)), (.int frm), (.int to), (.int r), (.double sum)] 7 = mkF m 0 #[.val (.ref q), .val (.int (2 : Int32)), .val (.int frm), .val (.int to), .val (.int r), .val (.double sum), .second] [] := by first | (simp [entryFrame, mkF, argsToLocals, Value.category]; done) | rfl
set_option maxRecDepth 65536 in
set_option maxHeartbeats 40000000 in
theorem own_rm_o2ftff (l : Launch) (Z : State) (a0 : Array Value) (hw : ∀ d ∈ tables_1, d.before a0 Z = true) (ws : List Jvm.Cond) (q : Addr) (d0 : UInt64) (d1 : UInt64) (d2 : UInt64) (d3 : UInt64) (frm : Int32) (to : Int32) (r : Int32) (sum : UInt64) {qk : ClassId} {o2ftff_v24 : UInt64} (h0 : Heap) (n0 : Nat) (Z0 : n0 ≤ h0.size) (V_q : Arv Z h0 q qk .double (4 : Int32) [(.double d0), (.double d1), (.double d2), (.double d3)] (.double 0)) (o2ftff_hb2 : if_icmp.holds .lt (2 : Int32) frm = false) (o2ftff_hb7 : if_icmp.holds .lt (2 : Int32) to = true) (o2ftff_hb15 : if_icmp.holds .ne r (-1 : Int32) = false) (o2ftff_hn24 : Jvm.Free.Fl.NoNaN64 (FP.dsub sum 4607182418800017408)) (o2ftff_hv24 : FP.dsub sum 4607182418800017408 = o2ftff_v24) (o2ftff_hb26 : ifCond.holds .gt (Op.cmpValue (FP.dcmp d2 o2ftff_v24) .g) = false) :
    MetFree l (⟨"com/example/libcredal/libcredal/core/OutwardRoundingBalancingPinLaw", "okAt", "([DIIIID)Z"⟩ : MethodName) (head1 (Jvm.Cond.code (⟨"com/example/libcredal/libcredal/core/OutwardRoundingBalancingPinLaw", "okAt", "([DIIIID)Z"⟩ : MethodName) method_2_code 7 (some .boolean) :: ws) ({ frames := 0, cells := 0, slots := 0, locals := 0 } : Room)) (fun a U => a = #[(.ref q), (.int (2 : Int32)), (.int frm), (.int to), (.int r), (.double sum)] ∧ Z.Warmed39 U.vm ∧ U.heap = h0) (fun _ _ _ _ _ => True) (fun _ U o U' => ∃ v L, o = .returned v ∧ own_QP (some (.int (1 : Int32))) h0 n0 v U'.heap L ∧ FrameEnd U o U' L ({ frames := 0, cells := 0, slots := 0, locals := 0 } : Room).cells ({ frames := 0, cells := 0, slots := 0, locals := 0 } : Room).slots) := by
  refine MetFree.of_bodySF (plainFor_of_name own_pn_com_example_libcredal_libcredal_core_OutwardRoundingBalancingPinLaw) hisR ?_
  intro p e s m args below meth c s₁ Bd hml0 hP hK
  obtain ⟨rfl, hZ, hh⟩ := hP
  have hx := Bd.exec
  have hby := Bd.bytes
  have hml : c.maxLocals = 7 := hml0
  have hown : s.vm.findClass "com/example/libcredal/libcredal/core/OutwardRoundingBalancingPinLaw" = some m.cls := findClass_of_methodNamed Bd.named
  have hnm := (name_of_methodNamed Bd.named Bd.method).1
  have X0 : Stand p l e ({ frames := 0, cells := 0, slots := 0, locals := 0 } : Room) s m #[(.ref q), (.int (2 : Int32)), (.int frm), (.int to), (.int r), (.double sum)] below meth c s₁ [] 0 0 := Stand.of_body Bd
  have e0 : s₁.heap = h0 := by rw [← hh, Bd.state]; rfl
  have N0 := Fr.nil n0
  have pre0 : ∀ t, Steps p.tables e below (s₁.setTop (mkF m 0 #[.val (.ref q), .val (.int (2 : Int32)), .val (.int frm), .val (.int to), .val (.int r), .val (.double sum), .second] [])) t → Steps p.tables e below (s₁.setTop (entryFrame m #[(.ref q), (.int (2 : Int32)), (.int frm), (.int to), (.int r), (.double sum)] 7)) t := fun t k => castTop (own_ef_o2ftff m q frm to r sum) k
  obtain ⟨fs, hr, hrun, hended, hW, hsame⟩ := X0.leave (v := some (.int (1 : Int32))) (fun h => by rw [Bd.returns] at h; cases h)
  refine ⟨_, _, pre0 _ ?_, hrun, hended, _, _, rfl, ?_, ⟨_, rfl⟩, hW, hsame.mono (by decide) (by decide)⟩
  · refine own_s_iloadN X0.here hx (hb hby own_d2_0) (pc' := 1) rfl rfl ?_
    refine own_s_iloadN X0.here hx (hb hby own_d2_1) (pc' := 2) rfl rfl ?_
    refine own_s_icmpNo X0.here hx (hb hby own_d2_2) (pc' := 5) rfl o2ftff_hb2 ?_
    refine own_s_iloadN X0.here hx (hb hby own_d2_5) (pc' := 6) rfl rfl ?_
    refine own_s_iloadN X0.here hx (hb hby own_d2_6) (pc' := 7) rfl rfl ?_
    refine own_s_icmpYes X0.here hx (hb hby own_d2_7) (by decide) (pc' := 12) (by decide) o2ftff_hb7 ?_
    refine own_s_iload X0.here hx (hb hby own_d2_12) (pc' := 14) rfl rfl ?_
    refine own_s_iconst X0.here hx (hb hby own_d2_14) (pc' := 15) rfl (v := (-1 : Int32)) (by decide) ?_
    refine own_s_icmpNo X0.here hx (hb hby own_d2_15) (pc' := 18) rfl o2ftff_hb15 ?_
    refine own_s_aloadN X0.here hx (hb hby own_d2_18) (pc' := 19) rfl rfl rfl ?_
    refine own_s_iloadN X0.here hx (hb hby own_d2_19) (pc' := 20) rfl rfl ?_
    refine own_ldD X0 hx hZ e0 V_q (j := (2 : Int32)) (x := d2) (by decide) rfl (hb hby own_d2_20) (pc' := 21) rfl ?_
    refine own_s_dload X0.here hx (hb hby own_d2_21) (pc' := 23) rfl rfl ?_
    refine own_s_dconst1 X0.here hx (hb hby own_d2_23) (pc' := 24) rfl  ?_
    refine own_s_dsub X0.here hx (hb hby own_d2_24) (pc' := 25) rfl o2ftff_hn24 (v := o2ftff_v24) o2ftff_hv24 ?_
    refine own_s_dcmp X0.here hx (hb hby own_d2_25) (pc' := 26) rfl (v := (Op.cmpValue (FP.dcmp d2 o2ftff_v24) .g)) rfl ?_
    refine own_s_ifNo X0.here hx (hb hby own_d2_26) (pc' := 29) rfl o2ftff_hb26 ?_
    refine own_s_iconst X0.here hx (hb hby own_d2_29) (pc' := 30) rfl (v := (1 : Int32)) (by decide) ?_
    refine own_s_goto X0.here hx (hb hby own_d2_30) (by decide) (pc' := 34) (by decide) ?_
    exact retN X0 hx (t := .boolean) Bd.returns (by simp) (hb hby own_d2_34) hr
  · show own_QP (some (.int (1 : Int32))) h0 n0 _ s₁.heap _
    rw [e0]
    exact ⟨rfl, N0, rfl⟩
theorem own_ef_o2fttft (m : MethodId) (q : Addr) (frm : Int32) (to : Int32) (r : Int32) (sum : UInt64) : entryFrame m #[(.ref q), (.int (2 : Int32)), (.int frm), (.int to), (.int r), (.double sum)] 7 = mkF m 0 #[.val (.ref q), .val (.int (2 : Int32)), .val (.int frm), .val (.int to), .val (.int r), .val (.double sum), .second] [] := by first | (simp [entryFrame, mkF, argsToLocals, Value.category]; done) | rfl
set_option maxRecDepth 65536 in
set_option maxHeartbeats 40000000 in
theorem own_rm_o2fttft (l : Launch) (Z : State) (a0 : Array Value) (hw : ∀ d ∈ tables_1, d.before a0 Z = true) (ws : List Jvm.Cond) (q : Addr) (d0 : UInt64) (d1 : UInt64) (d2 : UInt64) (d3 : UInt64) (frm : Int32) (to : Int32) (r : Int32) (sum : UInt64) {qk : ClassId} {o2fttft_v41 : UInt64} (h0 : Heap) (n0 : Nat) (Z0 : n0 ≤ h0.size) (V_q : Arv Z h0 q qk .double (4 : Int32) [(.double d0), (.double d1), (.double d2), (.double d3)] (.double 0)) (o2fttft_hb2 : if_icmp.holds .lt (2 : Int32) frm = false) (o2fttft_hb7 : if_icmp.holds .lt (2 : Int32) to = true) (o2fttft_hb15 : if_icmp.holds .ne r (-1 : Int32) = true) (o2fttft_hin41 : ¬ r < 0 ∧ r < (4 : Int32)) (o2fttft_hel41 : ([(.double d0), (.double d1), (.double d2), (.double d3)] : List Value).getD (Int32.toNatClampNeg r) (.double 0) = (.double o2fttft_v41)) (o2fttft_hb43 : ifCond.holds .gt (Op.cmpValue (FP.dcmp d2 o2fttft_v41) .g) = false) (o2fttft_hb49 : if_icmp.holds .ge (2 : Int32) r = true) :
    MetFree l (⟨"com/example/libcredal/libcredal/core/OutwardRoundingBalancingPinLaw", "okAt", "([DIIIID)Z"⟩ : MethodName) (head1 (Jvm.Cond.code (⟨"com/example/libcredal/libcredal/core/OutwardRoundingBalancingPinLaw", "okAt", "([DIIIID)Z"⟩ : MethodName) method_2_code 7 (some .boolean) :: ws) ({ frames := 0, cells := 0, slots := 0, locals := 0 } : Room)) (fun a U => a = #[(.ref q), (.int (2 : Int32)), (.int frm), (.int to), (.int r), (.double sum)] ∧ Z.Warmed39 U.vm ∧ U.heap = h0) (fun _ _ _ _ _ => True) (fun _ U o U' => ∃ v L, o = .returned v ∧ own_QP (some (.int (1 : Int32))) h0 n0 v U'.heap L ∧ FrameEnd U o U' L ({ frames := 0, cells := 0, slots := 0, locals := 0 } : Room).cells ({ frames := 0, cells := 0, slots := 0, locals := 0 } : Room).slots) := by
  refine MetFree.of_bodySF (plainFor_of_name own_pn_com_example_libcredal_libcredal_core_OutwardRoundingBalancingPinLaw) hisR ?_
  intro p e s m args below meth c s₁ Bd hml0 hP hK
  obtain ⟨rfl, hZ, hh⟩ := hP
  have hx := Bd.exec
  have hby := Bd.bytes
  have hml : c.maxLocals = 7 := hml0
  have hown : s.vm.findClass "com/example/libcredal/libcredal/core/OutwardRoundingBalancingPinLaw" = some m.cls := findClass_of_methodNamed Bd.named
  have hnm := (name_of_methodNamed Bd.named Bd.method).1
  have X0 : Stand p l e ({ frames := 0, cells := 0, slots := 0, locals := 0 } : Room) s m #[(.ref q), (.int (2 : Int32)), (.int frm), (.int to), (.int r), (.double sum)] below meth c s₁ [] 0 0 := Stand.of_body Bd
  have e0 : s₁.heap = h0 := by rw [← hh, Bd.state]; rfl
  have N0 := Fr.nil n0
  have pre0 : ∀ t, Steps p.tables e below (s₁.setTop (mkF m 0 #[.val (.ref q), .val (.int (2 : Int32)), .val (.int frm), .val (.int to), .val (.int r), .val (.double sum), .second] [])) t → Steps p.tables e below (s₁.setTop (entryFrame m #[(.ref q), (.int (2 : Int32)), (.int frm), (.int to), (.int r), (.double sum)] 7)) t := fun t k => castTop (own_ef_o2fttft m q frm to r sum) k
  obtain ⟨fs, hr, hrun, hended, hW, hsame⟩ := X0.leave (v := some (.int (1 : Int32))) (fun h => by rw [Bd.returns] at h; cases h)
  refine ⟨_, _, pre0 _ ?_, hrun, hended, _, _, rfl, ?_, ⟨_, rfl⟩, hW, hsame.mono (by decide) (by decide)⟩
  · refine own_s_iloadN X0.here hx (hb hby own_d2_0) (pc' := 1) rfl rfl ?_
    refine own_s_iloadN X0.here hx (hb hby own_d2_1) (pc' := 2) rfl rfl ?_
    refine own_s_icmpNo X0.here hx (hb hby own_d2_2) (pc' := 5) rfl o2fttft_hb2 ?_
    refine own_s_iloadN X0.here hx (hb hby own_d2_5) (pc' := 6) rfl rfl ?_
    refine own_s_iloadN X0.here hx (hb hby own_d2_6) (pc' := 7) rfl rfl ?_
    refine own_s_icmpYes X0.here hx (hb hby own_d2_7) (by decide) (pc' := 12) (by decide) o2fttft_hb7 ?_
    refine own_s_iload X0.here hx (hb hby own_d2_12) (pc' := 14) rfl rfl ?_
    refine own_s_iconst X0.here hx (hb hby own_d2_14) (pc' := 15) rfl (v := (-1 : Int32)) (by decide) ?_
    refine own_s_icmpYes X0.here hx (hb hby own_d2_15) (by decide) (pc' := 35) (by decide) o2fttft_hb15 ?_
    refine own_s_aloadN X0.here hx (hb hby own_d2_35) (pc' := 36) rfl rfl rfl ?_
    refine own_s_iloadN X0.here hx (hb hby own_d2_36) (pc' := 37) rfl rfl ?_
    refine own_ldD X0 hx hZ e0 V_q (j := (2 : Int32)) (x := d2) (by decide) rfl (hb hby own_d2_37) (pc' := 38) rfl ?_
    refine own_s_aloadN X0.here hx (hb hby own_d2_38) (pc' := 39) rfl rfl rfl ?_
    refine own_s_iload X0.here hx (hb hby own_d2_39) (pc' := 41) rfl rfl ?_
    refine own_ldD X0 hx hZ e0 V_q (j := r) (x := o2fttft_v41) o2fttft_hin41 o2fttft_hel41 (hb hby own_d2_41) (pc' := 42) rfl ?_
    refine own_s_dcmp X0.here hx (hb hby own_d2_42) (pc' := 43) rfl (v := (Op.cmpValue (FP.dcmp d2 o2fttft_v41) .g)) rfl ?_
    refine own_s_ifNo X0.here hx (hb hby own_d2_43) (pc' := 46) rfl o2fttft_hb43 ?_
    refine own_s_iloadN X0.here hx (hb hby own_d2_46) (pc' := 47) rfl rfl ?_
    refine own_s_iload X0.here hx (hb hby own_d2_47) (pc' := 49) rfl rfl ?_
    refine own_s_icmpYes X0.here hx (hb hby own_d2_49) (by decide) (pc' := 63) (by decide) o2fttft_hb49 ?_
    refine own_s_iconst X0.here hx (hb hby own_d2_63) (pc' := 64) rfl (v := (1 : Int32)) (by decide) ?_
    refine own_s_goto X0.here hx (hb hby own_d2_64) (by decide) (pc' := 68) (by decide) ?_
    exact retN X0 hx (t := .boolean) Bd.returns (by simp) (hb hby own_d2_68) hr
  · show own_QP (some (.int (1 : Int32))) h0 n0 _ s₁.heap _
    rw [e0]
    exact ⟨rfl, N0, rfl⟩
theorem own_ef_o2fttfff (m : MethodId) (q : Addr) (frm : Int32) (to : Int32) (r : Int32) (sum : UInt64) : entryFrame m #[(.ref q), (.int (2 : Int32)), (.int frm), (.int to), (.int r), (.double sum)] 7 = mkF m 0 #[.val (.ref q), .val (.int (2 : Int32)), .val (.int frm), .val (.int to), .val (.int r), .val (.double sum), .second] [] := by first | (simp [entryFrame, mkF, argsToLocals, Value.category]; done) | rfl
set_option maxRecDepth 65536 in
set_option maxHeartbeats 40000000 in
theorem own_rm_o2fttfff (l : Launch) (Z : State) (a0 : Array Value) (hw : ∀ d ∈ tables_1, d.before a0 Z = true) (ws : List Jvm.Cond) (q : Addr) (d0 : UInt64) (d1 : UInt64) (d2 : UInt64) (d3 : UInt64) (frm : Int32) (to : Int32) (r : Int32) (sum : UInt64) {qk : ClassId} {o2fttfff_v41 : UInt64} {o2fttfff_v58 : UInt64} (h0 : Heap) (n0 : Nat) (Z0 : n0 ≤ h0.size) (V_q : Arv Z h0 q qk .double (4 : Int32) [(.double d0), (.double d1), (.double d2), (.double d3)] (.double 0)) (o2fttfff_hb2 : if_icmp.holds .lt (2 : Int32) frm = false) (o2fttfff_hb7 : if_icmp.holds .lt (2 : Int32) to = true) (o2fttfff_hb15 : if_icmp.holds .ne r (-1 : Int32) = true) (o2fttfff_hin41 : ¬ r < 0 ∧ r < (4 : Int32)) (o2fttfff_hel41 : ([(.double d0), (.double d1), (.double d2), (.double d3)] : List Value).getD (Int32.toNatClampNeg r) (.double 0) = (.double o2fttfff_v41)) (o2fttfff_hb43 : ifCond.holds .gt (Op.cmpValue (FP.dcmp d2 o2fttfff_v41) .g) = false) (o2fttfff_hb49 : if_icmp.holds .ge (2 : Int32) r = false) (o2fttfff_hin58 : ¬ r < 0 ∧ r < (4 : Int32)) (o2fttfff_hel58 : ([(.double d0), (.double d1), (.double d2), (.double d3)] : List Value).getD (Int32.toNatClampNeg r) (.double 0) = (.double o2fttfff_v58)) (o2fttfff_hb60 : ifCond.holds .ge (Op.cmpValue (FP.dcmp d2 o2fttfff_v58) .g) = false) :
    MetFree l (⟨"com/example/libcredal/libcredal/core/OutwardRoundingBalancingPinLaw", "okAt", "([DIIIID)Z"⟩ : MethodName) (head1 (Jvm.Cond.code (⟨"com/example/libcredal/libcredal/core/OutwardRoundingBalancingPinLaw", "okAt", "([DIIIID)Z"⟩ : MethodName) method_2_code 7 (some .boolean) :: ws) ({ frames := 0, cells := 0, slots := 0, locals := 0 } : Room)) (fun a U => a = #[(.ref q), (.int (2 : Int32)), (.int frm), (.int to), (.int r), (.double sum)] ∧ Z.Warmed39 U.vm ∧ U.heap = h0) (fun _ _ _ _ _ => True) (fun _ U o U' => ∃ v L, o = .returned v ∧ own_QP (some (.int (1 : Int32))) h0 n0 v U'.heap L ∧ FrameEnd U o U' L ({ frames := 0, cells := 0, slots := 0, locals := 0 } : Room).cells ({ frames := 0, cells := 0, slots := 0, locals := 0 } : Room).slots) := by
  refine MetFree.of_bodySF (plainFor_of_name own_pn_com_example_libcredal_libcredal_core_OutwardRoundingBalancingPinLaw) hisR ?_
  intro p e s m args below meth c s₁ Bd hml0 hP hK
  obtain ⟨rfl, hZ, hh⟩ := hP
  have hx := Bd.exec
  have hby := Bd.bytes
  have hml : c.maxLocals = 7 := hml0
  have hown : s.vm.findClass "com/example/libcredal/libcredal/core/OutwardRoundingBalancingPinLaw" = some m.cls := findClass_of_methodNamed Bd.named
  have hnm := (name_of_methodNamed Bd.named Bd.method).1
  have X0 : Stand p l e ({ frames := 0, cells := 0, slots := 0, locals := 0 } : Room) s m #[(.ref q), (.int (2 : Int32)), (.int frm), (.int to), (.int r), (.double sum)] below meth c s₁ [] 0 0 := Stand.of_body Bd
  have e0 : s₁.heap = h0 := by rw [← hh, Bd.state]; rfl
  have N0 := Fr.nil n0
  have pre0 : ∀ t, Steps p.tables e below (s₁.setTop (mkF m 0 #[.val (.ref q), .val (.int (2 : Int32)), .val (.int frm), .val (.int to), .val (.int r), .val (.double sum), .second] [])) t → Steps p.tables e below (s₁.setTop (entryFrame m #[(.ref q), (.int (2 : Int32)), (.int frm), (.int to), (.int r), (.double sum)] 7)) t := fun t k => castTop (own_ef_o2fttfff m q frm to r sum) k
  obtain ⟨fs, hr, hrun, hended, hW, hsame⟩ := X0.leave (v := some (.int (1 : Int32))) (fun h => by rw [Bd.returns] at h; cases h)
  refine ⟨_, _, pre0 _ ?_, hrun, hended, _, _, rfl, ?_, ⟨_, rfl⟩, hW, hsame.mono (by decide) (by decide)⟩
  · refine own_s_iloadN X0.here hx (hb hby own_d2_0) (pc' := 1) rfl rfl ?_
    refine own_s_iloadN X0.here hx (hb hby own_d2_1) (pc' := 2) rfl rfl ?_
    refine own_s_icmpNo X0.here hx (hb hby own_d2_2) (pc' := 5) rfl o2fttfff_hb2 ?_
    refine own_s_iloadN X0.here hx (hb hby own_d2_5) (pc' := 6) rfl rfl ?_
    refine own_s_iloadN X0.here hx (hb hby own_d2_6) (pc' := 7) rfl rfl ?_
    refine own_s_icmpYes X0.here hx (hb hby own_d2_7) (by decide) (pc' := 12) (by decide) o2fttfff_hb7 ?_
    refine own_s_iload X0.here hx (hb hby own_d2_12) (pc' := 14) rfl rfl ?_
    refine own_s_iconst X0.here hx (hb hby own_d2_14) (pc' := 15) rfl (v := (-1 : Int32)) (by decide) ?_
    refine own_s_icmpYes X0.here hx (hb hby own_d2_15) (by decide) (pc' := 35) (by decide) o2fttfff_hb15 ?_
    refine own_s_aloadN X0.here hx (hb hby own_d2_35) (pc' := 36) rfl rfl rfl ?_
    refine own_s_iloadN X0.here hx (hb hby own_d2_36) (pc' := 37) rfl rfl ?_
    refine own_ldD X0 hx hZ e0 V_q (j := (2 : Int32)) (x := d2) (by decide) rfl (hb hby own_d2_37) (pc' := 38) rfl ?_
    refine own_s_aloadN X0.here hx (hb hby own_d2_38) (pc' := 39) rfl rfl rfl ?_
    refine own_s_iload X0.here hx (hb hby own_d2_39) (pc' := 41) rfl rfl ?_
    refine own_ldD X0 hx hZ e0 V_q (j := r) (x := o2fttfff_v41) o2fttfff_hin41 o2fttfff_hel41 (hb hby own_d2_41) (pc' := 42) rfl ?_
    refine own_s_dcmp X0.here hx (hb hby own_d2_42) (pc' := 43) rfl (v := (Op.cmpValue (FP.dcmp d2 o2fttfff_v41) .g)) rfl ?_
    refine own_s_ifNo X0.here hx (hb hby own_d2_43) (pc' := 46) rfl o2fttfff_hb43 ?_
    refine own_s_iloadN X0.here hx (hb hby own_d2_46) (pc' := 47) rfl rfl ?_
    refine own_s_iload X0.here hx (hb hby own_d2_47) (pc' := 49) rfl rfl ?_
    refine own_s_icmpNo X0.here hx (hb hby own_d2_49) (pc' := 52) rfl o2fttfff_hb49 ?_
    refine own_s_aloadN X0.here hx (hb hby own_d2_52) (pc' := 53) rfl rfl rfl ?_
    refine own_s_iloadN X0.here hx (hb hby own_d2_53) (pc' := 54) rfl rfl ?_
    refine own_ldD X0 hx hZ e0 V_q (j := (2 : Int32)) (x := d2) (by decide) rfl (hb hby own_d2_54) (pc' := 55) rfl ?_
    refine own_s_aloadN X0.here hx (hb hby own_d2_55) (pc' := 56) rfl rfl rfl ?_
    refine own_s_iload X0.here hx (hb hby own_d2_56) (pc' := 58) rfl rfl ?_
    refine own_ldD X0 hx hZ e0 V_q (j := r) (x := o2fttfff_v58) o2fttfff_hin58 o2fttfff_hel58 (hb hby own_d2_58) (pc' := 59) rfl ?_
    refine own_s_dcmp X0.here hx (hb hby own_d2_59) (pc' := 60) rfl (v := (Op.cmpValue (FP.dcmp d2 o2fttfff_v58) .g)) rfl ?_
    refine own_s_ifNo X0.here hx (hb hby own_d2_60) (pc' := 63) rfl o2fttfff_hb60 ?_
    refine own_s_iconst X0.here hx (hb hby own_d2_63) (pc' := 64) rfl (v := (1 : Int32)) (by decide) ?_
    refine own_s_goto X0.here hx (hb hby own_d2_64) (by decide) (pc' := 68) (by decide) ?_
    exact retN X0 hx (t := .boolean) Bd.returns (by simp) (hb hby own_d2_68) hr
  · show own_QP (some (.int (1 : Int32))) h0 n0 _ s₁.heap _
    rw [e0]
    exact ⟨rfl, N0, rfl⟩
set_option maxRecDepth 65536 in
set_option maxHeartbeats 40000000 in
theorem own_rm_ok2 (l : Launch) (Z : State) (a0 : Array Value) (hw : ∀ d ∈ tables_1, d.before a0 Z = true) (ws : List Jvm.Cond) (q : Addr) (d0 : UInt64) (d1 : UInt64) (d2 : UInt64) (d3 : UInt64) (frm : Int32) (to : Int32) (r : Int32) (sum : UInt64) {qk : ClassId} (h0 : Heap) (n0 : Nat) (Z0 : n0 ≤ h0.size) (V_q : Arv Z h0 q qk .double (4 : Int32) [(.double d0), (.double d1), (.double d2), (.double d3)] (.double 0)) (ok2_hs : Jvm.Free.Fl.NoNaN64 (FP.dsub sum 4607182418800017408)) (ok2_hA : frm.toInt ≤ 2 → 2 < to.toInt → r = -1 → ifCond.holds .gt (Op.cmpValue (FP.dcmp d2 (FP.dsub sum 4607182418800017408)) .g) = false) (ok2_hR : r ≠ -1 → 0 ≤ r.toInt ∧ r.toInt < 4) (ok2_hB : frm.toInt ≤ 2 → 2 < to.toInt → r ≠ -1 → ifCond.holds .gt (Op.cmpValue (FP.dcmp d2 (own_el d0 d1 d2 d3 r.toInt)) .g) = false ∧ (2 < r.toInt → ifCond.holds .ge (Op.cmpValue (FP.dcmp d2 (own_el d0 d1 d2 d3 r.toInt)) .g) = false)) :
    MetFree l (⟨"com/example/libcredal/libcredal/core/OutwardRoundingBalancingPinLaw", "okAt", "([DIIIID)Z"⟩ : MethodName) (head1 (Jvm.Cond.code (⟨"com/example/libcredal/libcredal/core/OutwardRoundingBalancingPinLaw", "okAt", "([DIIIID)Z"⟩ : MethodName) method_2_code 7 (some .boolean) :: ws) ({ frames := 0, cells := 0, slots := 0, locals := 0 } : Room)) (fun a U => a = #[(.ref q), (.int (2 : Int32)), (.int frm), (.int to), (.int r), (.double sum)] ∧ Z.Warmed39 U.vm ∧ U.heap = h0) (fun _ _ _ _ _ => True) (fun _ U o U' => ∃ v L, o = .returned v ∧ own_QP (some (.int (1 : Int32))) h0 n0 v U'.heap L ∧ FrameEnd U o U' L ({ frames := 0, cells := 0, slots := 0, locals := 0 } : Room).cells ({ frames := 0, cells := 0, slots := 0, locals := 0 } : Room).slots) := by
  have ek : (2 : Int32).toInt = 2 := by decide
  by_cases a1 : (2 : Int32) < frm
  · exact own_rm_o2t l Z a0 hw ws q d0 d1 d2 d3 frm to r sum h0 n0 Z0 V_q (o2t_hb2 := (XT.ii_lt_t a1))
  · have b2 := XT.ii_lt_f a1
    have c1 : frm.toInt ≤ 2 := Int.le_of_not_gt fun q => a1 (Int32.lt_iff_toInt_lt.mpr (by omega))
    by_cases a2 : (2 : Int32) < to
    · have b7 := XT.ii_lt_t a2
      have c2 : 2 < to.toInt := by have := Int32.lt_iff_toInt_lt.mp a2; omega
      by_cases a3 : r = -1
      · exact own_rm_o2ftff l Z a0 hw ws q d0 d1 d2 d3 frm to r sum h0 n0 Z0 V_q (o2ftff_hb2 := b2) (o2ftff_hb7 := b7) (o2ftff_hb15 := (XT.ii_ne_f a3)) (o2ftff_hn24 := ok2_hs) (o2ftff_hv24 := rfl) (o2ftff_hb26 := (ok2_hA c1 c2 a3))
      · have c3 := ok2_hR a3
        obtain ⟨hb1, hb2⟩ := ok2_hB c1 c2 a3
        by_cases a4 : (2 : Int32) < r
        · exact own_rm_o2fttfff l Z a0 hw ws q d0 d1 d2 d3 frm to r sum h0 n0 Z0 V_q (o2fttfff_hb2 := b2) (o2fttfff_hb7 := b7) (o2fttfff_hb15 := (XT.ii_ne_t a3)) (o2fttfff_hin41 := (own_inb c3)) (o2fttfff_hel41 := (own_getD d0 d1 d2 d3 c3)) (o2fttfff_hb43 := hb1) (o2fttfff_hb49 := (XT.ii_ge_f a4)) (o2fttfff_hin58 := (own_inb c3)) (o2fttfff_hel58 := (own_getD d0 d1 d2 d3 c3)) (o2fttfff_hb60 := (hb2 (by have := Int32.lt_iff_toInt_lt.mp a4; omega)))
        · exact own_rm_o2fttft l Z a0 hw ws q d0 d1 d2 d3 frm to r sum h0 n0 Z0 V_q (o2fttft_hb2 := b2) (o2fttft_hb7 := b7) (o2fttft_hb15 := (XT.ii_ne_t a3)) (o2fttft_hin41 := (own_inb c3)) (o2fttft_hel41 := (own_getD d0 d1 d2 d3 c3)) (o2fttft_hb43 := hb1) (o2fttft_hb49 := (XT.ii_ge_t a4))
    · exact own_rm_o2ff l Z a0 hw ws q d0 d1 d2 d3 frm to r sum h0 n0 Z0 V_q (o2ff_hb2 := b2) (o2ff_hb7 := (XT.ii_lt_f a2))
theorem own_ef_o3t (m : MethodId) (q : Addr) (frm : Int32) (to : Int32) (r : Int32) (sum : UInt64) : entryFrame m #[(.ref q), (.int (3 : Int32)), (.int frm), (.int to), (.int r), (.double sum)] 7 = mkF m 0 #[.val (.ref q), .val (.int (3 : Int32)), .val (.int frm), .val (.int to), .val (.int r), .val (.double sum), .second] [] := by first | (simp [entryFrame, mkF, argsToLocals, Value.category]; done) | rfl
set_option maxRecDepth 65536 in
set_option maxHeartbeats 40000000 in
theorem own_rm_o3t (l : Launch) (Z : State) (a0 : Array Value) (hw : ∀ d ∈ tables_1, d.before a0 Z = true) (ws : List Jvm.Cond) (q : Addr) (d0 : UInt64) (d1 : UInt64) (d2 : UInt64) (d3 : UInt64) (frm : Int32) (to : Int32) (r : Int32) (sum : UInt64) {qk : ClassId} (h0 : Heap) (n0 : Nat) (Z0 : n0 ≤ h0.size) (V_q : Arv Z h0 q qk .double (4 : Int32) [(.double d0), (.double d1), (.double d2), (.double d3)] (.double 0)) (o3t_hb2 : if_icmp.holds .lt (3 : Int32) frm = true) :
    MetFree l (⟨"com/example/libcredal/libcredal/core/OutwardRoundingBalancingPinLaw", "okAt", "([DIIIID)Z"⟩ : MethodName) (head1 (Jvm.Cond.code (⟨"com/example/libcredal/libcredal/core/OutwardRoundingBalancingPinLaw", "okAt", "([DIIIID)Z"⟩ : MethodName) method_2_code 7 (some .boolean) :: ws) ({ frames := 0, cells := 0, slots := 0, locals := 0 } : Room)) (fun a U => a = #[(.ref q), (.int (3 : Int32)), (.int frm), (.int to), (.int r), (.double sum)] ∧ Z.Warmed39 U.vm ∧ U.heap = h0) (fun _ _ _ _ _ => True) (fun _ U o U' => ∃ v L, o = .returned v ∧ own_QP (some (.int (1 : Int32))) h0 n0 v U'.heap L ∧ FrameEnd U o U' L ({ frames := 0, cells := 0, slots := 0, locals := 0 } : Room).cells ({ frames := 0, cells := 0, slots := 0, locals := 0 } : Room).slots) := by
  refine MetFree.of_bodySF (plainFor_of_name own_pn_com_example_libcredal_libcredal_core_OutwardRoundingBalancingPinLaw) hisR ?_
  intro p e s m args below meth c s₁ Bd hml0 hP hK
  obtain ⟨rfl, hZ, hh⟩ := hP
  have hx := Bd.exec
  have hby := Bd.bytes
  have hml : c.maxLocals = 7 := hml0
  have hown : s.vm.findClass "com/example/libcredal/libcredal/core/OutwardRoundingBalancingPinLaw" = some m.cls := findClass_of_methodNamed Bd.named
  have hnm := (name_of_methodNamed Bd.named Bd.method).1
  have X0 : Stand p l e ({ frames := 0, cells := 0, slots := 0, locals := 0 } : Room) s m #[(.ref q), (.int (3 : Int32)), (.int frm), (.int to), (.int r), (.double sum)] below meth c s₁ [] 0 0 := Stand.of_body Bd
  have e0 : s₁.heap = h0 := by rw [← hh, Bd.state]; rfl
  have N0 := Fr.nil n0
  have pre0 : ∀ t, Steps p.tables e below (s₁.setTop (mkF m 0 #[.val (.ref q), .val (.int (3 : Int32)), .val (.int frm), .val (.int to), .val (.int r), .val (.double sum), .second] [])) t → Steps p.tables e below (s₁.setTop (entryFrame m #[(.ref q), (.int (3 : Int32)), (.int frm), (.int to), (.int r), (.double sum)] 7)) t := fun t k => castTop (own_ef_o3t m q frm to r sum) k
  obtain ⟨fs, hr, hrun, hended, hW, hsame⟩ := X0.leave (v := some (.int (1 : Int32))) (fun h => by rw [Bd.returns] at h; cases h)
  refine ⟨_, _, pre0 _ ?_, hrun, hended, _, _, rfl, ?_, ⟨_, rfl⟩, hW, hsame.mono (by decide) (by decide)⟩
  · refine own_s_iloadN X0.here hx (hb hby own_d2_0) (pc' := 1) rfl rfl ?_
    refine own_s_iloadN X0.here hx (hb hby own_d2_1) (pc' := 2) rfl rfl ?_
    refine own_s_icmpYes X0.here hx (hb hby own_d2_2) (by decide) (pc' := 10) (by decide) o3t_hb2 ?_
    refine own_s_iconst X0.here hx (hb hby own_d2_10) (pc' := 11) rfl (v := (1 : Int32)) (by decide) ?_
    exact retN X0 hx (t := .boolean) Bd.returns (by simp) (hb hby own_d2_11) hr
  · show own_QP (some (.int (1 : Int32))) h0 n0 _ s₁.heap _
    rw [e0]
    exact ⟨rfl, N0, rfl⟩
theorem own_ef_o3ff (m : MethodId) (q : Addr) (frm : Int32) (to : Int32) (r : Int32) (sum : UInt64) : entryFrame m #[(.ref q), (.int (3 : Int32)), (.int frm), (.int to), (.int r), (.double sum)] 7 = mkF m 0 #[.val (.ref q), .val (.int (3 : Int32)), .val (.int frm), .val (.int to), .val (.int r), .val (.double sum), .second] [] := by first | (simp [entryFrame, mkF, argsToLocals, Value.category]; done) | rfl
set_option maxRecDepth 65536 in
set_option maxHeartbeats 40000000 in
theorem own_rm_o3ff (l : Launch) (Z : State) (a0 : Array Value) (hw : ∀ d ∈ tables_1, d.before a0 Z = true) (ws : List Jvm.Cond) (q : Addr) (d0 : UInt64) (d1 : UInt64) (d2 : UInt64) (d3 : UInt64) (frm : Int32) (to : Int32) (r : Int32) (sum : UInt64) {qk : ClassId} (h0 : Heap) (n0 : Nat) (Z0 : n0 ≤ h0.size) (V_q : Arv Z h0 q qk .double (4 : Int32) [(.double d0), (.double d1), (.double d2), (.double d3)] (.double 0)) (o3ff_hb2 : if_icmp.holds .lt (3 : Int32) frm = false) (o3ff_hb7 : if_icmp.holds .lt (3 : Int32) to = false) :
    MetFree l (⟨"com/example/libcredal/libcredal/core/OutwardRoundingBalancingPinLaw", "okAt", "([DIIIID)Z"⟩ : MethodName) (head1 (Jvm.Cond.code (⟨"com/example/libcredal/libcredal/core/OutwardRoundingBalancingPinLaw", "okAt", "([DIIIID)Z"⟩ : MethodName) method_2_code 7 (some .boolean) :: ws) ({ frames := 0, cells := 0, slots := 0, locals := 0 } : Room)) (fun a U => a = #[(.ref q), (.int (3 : Int32)), (.int frm), (.int to), (.int r), (.double sum)] ∧ Z.Warmed39 U.vm ∧ U.heap = h0) (fun _ _ _ _ _ => True) (fun _ U o U' => ∃ v L, o = .returned v ∧ own_QP (some (.int (1 : Int32))) h0 n0 v U'.heap L ∧ FrameEnd U o U' L ({ frames := 0, cells := 0, slots := 0, locals := 0 } : Room).cells ({ frames := 0, cells := 0, slots := 0, locals := 0 } : Room).slots) := by
  refine MetFree.of_bodySF (plainFor_of_name own_pn_com_example_libcredal_libcredal_core_OutwardRoundingBalancingPinLaw) hisR ?_
  intro p e s m args below meth c s₁ Bd hml0 hP hK
  obtain ⟨rfl, hZ, hh⟩ := hP
  have hx := Bd.exec
  have hby := Bd.bytes
  have hml : c.maxLocals = 7 := hml0
  have hown : s.vm.findClass "com/example/libcredal/libcredal/core/OutwardRoundingBalancingPinLaw" = some m.cls := findClass_of_methodNamed Bd.named
  have hnm := (name_of_methodNamed Bd.named Bd.method).1
  have X0 : Stand p l e ({ frames := 0, cells := 0, slots := 0, locals := 0 } : Room) s m #[(.ref q), (.int (3 : Int32)), (.int frm), (.int to), (.int r), (.double sum)] below meth c s₁ [] 0 0 := Stand.of_body Bd
  have e0 : s₁.heap = h0 := by rw [← hh, Bd.state]; rfl
  have N0 := Fr.nil n0
  have pre0 : ∀ t, Steps p.tables e below (s₁.setTop (mkF m 0 #[.val (.ref q), .val (.int (3 : Int32)), .val (.int frm), .val (.int to), .val (.int r), .val (.double sum), .second] [])) t → Steps p.tables e below (s₁.setTop (entryFrame m #[(.ref q), (.int (3 : Int32)), (.int frm), (.int to), (.int r), (.double sum)] 7)) t := fun t k => castTop (own_ef_o3ff m q frm to r sum) k
  obtain ⟨fs, hr, hrun, hended, hW, hsame⟩ := X0.leave (v := some (.int (1 : Int32))) (fun h => by rw [Bd.returns] at h; cases h)
  refine ⟨_, _, pre0 _ ?_, hrun, hended, _, _, rfl, ?_, ⟨_, rfl⟩, hW, hsame.mono (by decide) (by decide)⟩
  · refine own_s_iloadN X0.here hx (hb hby own_d2_0) (pc' := 1) rfl rfl ?_
    refine own_s_iloadN X0.here hx (hb hby own_d2_1) (pc' := 2) rfl rfl ?_
    refine own_s_icmpNo X0.here hx (hb hby own_d2_2) (pc' := 5) rfl o3ff_hb2 ?_
    refine own_s_iloadN X0.here hx (hb hby own_d2_5) (pc' := 6) rfl rfl ?_
    refine own_s_iloadN X0.here hx (hb hby own_d2_6) (pc' := 7) rfl rfl ?_
    refine own_s_icmpNo X0.here hx (hb hby own_d2_7) (pc' := 10) rfl o3ff_hb7 ?_
    refine own_s_iconst X0.here hx (hb hby own_d2_10) (pc' := 11) rfl (v := (1 : Int32)) (by decide) ?_
    exact retN X0 hx (t := .boolean) Bd.returns (by simp) (hb hby own_d2_11) hr
  · show own_QP (some (.int (1 : Int32))) h0 n0 _ s₁.heap _
    rw [e0]
    exact ⟨rfl, N0, rfl⟩
theorem own_ef_o3ftff (m : MethodId) (q : Addr) (frm : Int32) (to : Int32) (r : Int32) (sum : UInt64) : entryFrame m #[(.ref q), (.int (3 : Int32)), (.int frm), (.int to), (.int r), (.double sum)] 7 = mkF m 0 #[.val (.ref q), .val (.int (3 : Int32)), .val (.int frm), .val (.int to), .val (.int r), .val (.double sum), .second] [] := by first | (simp [entryFrame, mkF, argsToLocals, Value.category]; done) | rfl
set_option maxRecDepth 65536 in
set_option maxHeartbeats 40000000 in
theorem own_rm_o3ftff (l : Launch) (Z : State) (a0 : Array Value) (hw : ∀ d ∈ tables_1, d.before a0 Z = true) (ws : List Jvm.Cond) (q : Addr) (d0 : UInt64) (d1 : UInt64) (d2 : UInt64) (d3 : UInt64) (frm : Int32) (to : Int32) (r : Int32) (sum : UInt64) {qk : ClassId} {o3ftff_v24 : UInt64} (h0 : Heap) (n0 : Nat) (Z0 : n0 ≤ h0.size) (V_q : Arv Z h0 q qk .double (4 : Int32) [(.double d0), (.double d1), (.double d2), (.double d3)] (.double 0)) (o3ftff_hb2 : if_icmp.holds .lt (3 : Int32) frm = false) (o3ftff_hb7 : if_icmp.holds .lt (3 : Int32) to = true) (o3ftff_hb15 : if_icmp.holds .ne r (-1 : Int32) = false) (o3ftff_hn24 : Jvm.Free.Fl.NoNaN64 (FP.dsub sum 4607182418800017408)) (o3ftff_hv24 : FP.dsub sum 4607182418800017408 = o3ftff_v24) (o3ftff_hb26 : ifCond.holds .gt (Op.cmpValue (FP.dcmp d3 o3ftff_v24) .g) = false) :
    MetFree l (⟨"com/example/libcredal/libcredal/core/OutwardRoundingBalancingPinLaw", "okAt", "([DIIIID)Z"⟩ : MethodName) (head1 (Jvm.Cond.code (⟨"com/example/libcredal/libcredal/core/OutwardRoundingBalancingPinLaw", "okAt", "([DIIIID)Z"⟩ : MethodName) method_2_code 7 (some .boolean) :: ws) ({ frames := 0, cells := 0, slots := 0, locals := 0 } : Room)) (fun a U => a = #[(.ref q), (.int (3 : Int32)), (.int frm), (.int to), (.int r), (.double sum)] ∧ Z.Warmed39 U.vm ∧ U.heap = h0) (fun _ _ _ _ _ => True) (fun _ U o U' => ∃ v L, o = .returned v ∧ own_QP (some (.int (1 : Int32))) h0 n0 v U'.heap L ∧ FrameEnd U o U' L ({ frames := 0, cells := 0, slots := 0, locals := 0 } : Room).cells ({ frames := 0, cells := 0, slots := 0, locals := 0 } : Room).slots) := by
  refine MetFree.of_bodySF (plainFor_of_name own_pn_com_example_libcredal_libcredal_core_OutwardRoundingBalancingPinLaw) hisR ?_
  intro p e s m args below meth c s₁ Bd hml0 hP hK
  obtain ⟨rfl, hZ, hh⟩ := hP
  have hx := Bd.exec
  have hby := Bd.bytes
  have hml : c.maxLocals = 7 := hml0
  have hown : s.vm.findClass "com/example/libcredal/libcredal/core/OutwardRoundingBalancingPinLaw" = some m.cls := findClass_of_methodNamed Bd.named
  have hnm := (name_of_methodNamed Bd.named Bd.method).1
  have X0 : Stand p l e ({ frames := 0, cells := 0, slots := 0, locals := 0 } : Room) s m #[(.ref q), (.int (3 : Int32)), (.int frm), (.int to), (.int r), (.double sum)] below meth c s₁ [] 0 0 := Stand.of_body Bd
  have e0 : s₁.heap = h0 := by rw [← hh, Bd.state]; rfl
  have N0 := Fr.nil n0
  have pre0 : ∀ t, Steps p.tables e below (s₁.setTop (mkF m 0 #[.val (.ref q), .val (.int (3 : Int32)), .val (.int frm), .val (.int to), .val (.int r), .val (.double sum), .second] [])) t → Steps p.tables e below (s₁.setTop (entryFrame m #[(.ref q), (.int (3 : Int32)), (.int frm), (.int to), (.int r), (.double sum)] 7)) t := fun t k => castTop (own_ef_o3ftff m q frm to r sum) k
  obtain ⟨fs, hr, hrun, hended, hW, hsame⟩ := X0.leave (v := some (.int (1 : Int32))) (fun h => by rw [Bd.returns] at h; cases h)
  refine ⟨_, _, pre0 _ ?_, hrun, hended, _, _, rfl, ?_, ⟨_, rfl⟩, hW, hsame.mono (by decide) (by decide)⟩
  · refine own_s_iloadN X0.here hx (hb hby own_d2_0) (pc' := 1) rfl rfl ?_
    refine own_s_iloadN X0.here hx (hb hby own_d2_1) (pc' := 2) rfl rfl ?_
    refine own_s_icmpNo X0.here hx (hb hby own_d2_2) (pc' := 5) rfl o3ftff_hb2 ?_
    refine own_s_iloadN X0.here hx (hb hby own_d2_5) (pc' := 6) rfl rfl ?_
    refine own_s_iloadN X0.here hx (hb hby own_d2_6) (pc' := 7) rfl rfl ?_
    refine own_s_icmpYes X0.here hx (hb hby own_d2_7) (by decide) (pc' := 12) (by decide) o3ftff_hb7 ?_
    refine own_s_iload X0.here hx (hb hby own_d2_12) (pc' := 14) rfl rfl ?_
    refine own_s_iconst X0.here hx (hb hby own_d2_14) (pc' := 15) rfl (v := (-1 : Int32)) (by decide) ?_
    refine own_s_icmpNo X0.here hx (hb hby own_d2_15) (pc' := 18) rfl o3ftff_hb15 ?_
    refine own_s_aloadN X0.here hx (hb hby own_d2_18) (pc' := 19) rfl rfl rfl ?_
    refine own_s_iloadN X0.here hx (hb hby own_d2_19) (pc' := 20) rfl rfl ?_
    refine own_ldD X0 hx hZ e0 V_q (j := (3 : Int32)) (x := d3) (by decide) rfl (hb hby own_d2_20) (pc' := 21) rfl ?_
    refine own_s_dload X0.here hx (hb hby own_d2_21) (pc' := 23) rfl rfl ?_
    refine own_s_dconst1 X0.here hx (hb hby own_d2_23) (pc' := 24) rfl  ?_
    refine own_s_dsub X0.here hx (hb hby own_d2_24) (pc' := 25) rfl o3ftff_hn24 (v := o3ftff_v24) o3ftff_hv24 ?_
    refine own_s_dcmp X0.here hx (hb hby own_d2_25) (pc' := 26) rfl (v := (Op.cmpValue (FP.dcmp d3 o3ftff_v24) .g)) rfl ?_
    refine own_s_ifNo X0.here hx (hb hby own_d2_26) (pc' := 29) rfl o3ftff_hb26 ?_
    refine own_s_iconst X0.here hx (hb hby own_d2_29) (pc' := 30) rfl (v := (1 : Int32)) (by decide) ?_
    refine own_s_goto X0.here hx (hb hby own_d2_30) (by decide) (pc' := 34) (by decide) ?_
    exact retN X0 hx (t := .boolean) Bd.returns (by simp) (hb hby own_d2_34) hr
  · show own_QP (some (.int (1 : Int32))) h0 n0 _ s₁.heap _
    rw [e0]
    exact ⟨rfl, N0, rfl⟩
theorem own_ef_o3fttft (m : MethodId) (q : Addr) (frm : Int32) (to : Int32) (r : Int32) (sum : UInt64) : entryFrame m #[(.ref q), (.int (3 : Int32)), (.int frm), (.int to), (.int r), (.double sum)] 7 = mkF m 0 #[.val (.ref q), .val (.int (3 : Int32)), .val (.int frm), .val (.int to), .val (.int r), .val (.double sum), .second] [] := by first | (simp [entryFrame, mkF, argsToLocals, Value.category]; done) | rfl
set_option maxRecDepth 65536 in
set_option maxHeartbeats 40000000 in
theorem own_rm_o3fttft (l : Launch) (Z : State) (a0 : Array Value) (hw : ∀ d ∈ tables_1, d.before a0 Z = true) (ws : List Jvm.Cond) (q : Addr) (d0 : UInt64) (d1 : UInt64) (d2 : UInt64) (d3 : UInt64) (frm : Int32) (to : Int32) (r : Int32) (sum : UInt64) {qk : ClassId} {o3fttft_v41 : UInt64} (h0 : Heap) (n0 : Nat) (Z0 : n0 ≤ h0.size) (V_q : Arv Z h0 q qk .double (4 : Int32) [(.double d0), (.double d1), (.double d2), (.double d3)] (.double 0)) (o3fttft_hb2 : if_icmp.holds .lt (3 : Int32) frm = false) (o3fttft_hb7 : if_icmp.holds .lt (3 : Int32) to = true) (o3fttft_hb15 : if_icmp.holds .ne r (-1 : Int32) = true) (o3fttft_hin41 : ¬ r < 0 ∧ r < (4 : Int32)) (o3fttft_hel41 : ([(.double d0), (.double d1), (.double d2), (.double d3)] : List Value).getD (Int32.toNatClampNeg r) (.double 0) = (.double o3fttft_v41)) (o3fttft_hb43 : ifCond.holds .gt (Op.cmpValue (FP.dcmp d3 o3fttft_v41) .g) = false) (o3fttft_hb49 : if_icmp.holds .ge (3 : Int32) r = true) :
    MetFree l (⟨"com/example/libcredal/libcredal/core/OutwardRoundingBalancingPinLaw", "okAt", "([DIIIID)Z"⟩ : MethodName) (head1 (Jvm.Cond.code (⟨"com/example/libcredal/libcredal/core/OutwardRoundingBalancingPinLaw", "okAt", "([DIIIID)Z"⟩ : MethodName) method_2_code 7 (some .boolean) :: ws) ({ frames := 0, cells := 0, slots := 0, locals := 0 } : Room)) (fun a U => a = #[(.ref q), (.int (3 : Int32)), (.int frm), (.int to), (.int r), (.double sum)] ∧ Z.Warmed39 U.vm ∧ U.heap = h0) (fun _ _ _ _ _ => True) (fun _ U o U' => ∃ v L, o = .returned v ∧ own_QP (some (.int (1 : Int32))) h0 n0 v U'.heap L ∧ FrameEnd U o U' L ({ frames := 0, cells := 0, slots := 0, locals := 0 } : Room).cells ({ frames := 0, cells := 0, slots := 0, locals := 0 } : Room).slots) := by
  refine MetFree.of_bodySF (plainFor_of_name own_pn_com_example_libcredal_libcredal_core_OutwardRoundingBalancingPinLaw) hisR ?_
  intro p e s m args below meth c s₁ Bd hml0 hP hK
  obtain ⟨rfl, hZ, hh⟩ := hP
  have hx := Bd.exec
  have hby := Bd.bytes
  have hml : c.maxLocals = 7 := hml0
  have hown : s.vm.findClass "com/example/libcredal/libcredal/core/OutwardRoundingBalancingPinLaw" = some m.cls := findClass_of_methodNamed Bd.named
  have hnm := (name_of_methodNamed Bd.named Bd.method).1
  have X0 : Stand p l e ({ frames := 0, cells := 0, slots := 0, locals := 0 } : Room) s m #[(.ref q), (.int (3 : Int32)), (.int frm), (.int to), (.int r), (.double sum)] below meth c s₁ [] 0 0 := Stand.of_body Bd
  have e0 : s₁.heap = h0 := by rw [← hh, Bd.state]; rfl
  have N0 := Fr.nil n0
  have pre0 : ∀ t, Steps p.tables e below (s₁.setTop (mkF m 0 #[.val (.ref q), .val (.int (3 : Int32)), .val (.int frm), .val (.int to), .val (.int r), .val (.double sum), .second] [])) t → Steps p.tables e below (s₁.setTop (entryFrame m #[(.ref q), (.int (3 : Int32)), (.int frm), (.int to), (.int r), (.double sum)] 7)) t := fun t k => castTop (own_ef_o3fttft m q frm to r sum) k
  obtain ⟨fs, hr, hrun, hended, hW, hsame⟩ := X0.leave (v := some (.int (1 : Int32))) (fun h => by rw [Bd.returns] at h; cases h)
  refine ⟨_, _, pre0 _ ?_, hrun, hended, _, _, rfl, ?_, ⟨_, rfl⟩, hW, hsame.mono (by decide) (by decide)⟩
  · refine own_s_iloadN X0.here hx (hb hby own_d2_0) (pc' := 1) rfl rfl ?_
    refine own_s_iloadN X0.here hx (hb hby own_d2_1) (pc' := 2) rfl rfl ?_
    refine own_s_icmpNo X0.here hx (hb hby own_d2_2) (pc' := 5) rfl o3fttft_hb2 ?_
    refine own_s_iloadN X0.here hx (hb hby own_d2_5) (pc' := 6) rfl rfl ?_
    refine own_s_iloadN X0.here hx (hb hby own_d2_6) (pc' := 7) rfl rfl ?_
    refine own_s_icmpYes X0.here hx (hb hby own_d2_7) (by decide) (pc' := 12) (by decide) o3fttft_hb7 ?_
    refine own_s_iload X0.here hx (hb hby own_d2_12) (pc' := 14) rfl rfl ?_
    refine own_s_iconst X0.here hx (hb hby own_d2_14) (pc' := 15) rfl (v := (-1 : Int32)) (by decide) ?_
    refine own_s_icmpYes X0.here hx (hb hby own_d2_15) (by decide) (pc' := 35) (by decide) o3fttft_hb15 ?_
    refine own_s_aloadN X0.here hx (hb hby own_d2_35) (pc' := 36) rfl rfl rfl ?_
    refine own_s_iloadN X0.here hx (hb hby own_d2_36) (pc' := 37) rfl rfl ?_
    refine own_ldD X0 hx hZ e0 V_q (j := (3 : Int32)) (x := d3) (by decide) rfl (hb hby own_d2_37) (pc' := 38) rfl ?_
    refine own_s_aloadN X0.here hx (hb hby own_d2_38) (pc' := 39) rfl rfl rfl ?_
    refine own_s_iload X0.here hx (hb hby own_d2_39) (pc' := 41) rfl rfl ?_
    refine own_ldD X0 hx hZ e0 V_q (j := r) (x := o3fttft_v41) o3fttft_hin41 o3fttft_hel41 (hb hby own_d2_41) (pc' := 42) rfl ?_
    refine own_s_dcmp X0.here hx (hb hby own_d2_42) (pc' := 43) rfl (v := (Op.cmpValue (FP.dcmp d3 o3fttft_v41) .g)) rfl ?_
    refine own_s_ifNo X0.here hx (hb hby own_d2_43) (pc' := 46) rfl o3fttft_hb43 ?_
    refine own_s_iloadN X0.here hx (hb hby own_d2_46) (pc' := 47) rfl rfl ?_
    refine own_s_iload X0.here hx (hb hby own_d2_47) (pc' := 49) rfl rfl ?_
    refine own_s_icmpYes X0.here hx (hb hby own_d2_49) (by decide) (pc' := 63) (by decide) o3fttft_hb49 ?_
    refine own_s_iconst X0.here hx (hb hby own_d2_63) (pc' := 64) rfl (v := (1 : Int32)) (by decide) ?_
    refine own_s_goto X0.here hx (hb hby own_d2_64) (by decide) (pc' := 68) (by decide) ?_
    exact retN X0 hx (t := .boolean) Bd.returns (by simp) (hb hby own_d2_68) hr
  · show own_QP (some (.int (1 : Int32))) h0 n0 _ s₁.heap _
    rw [e0]
    exact ⟨rfl, N0, rfl⟩
theorem own_ef_o3fttfff (m : MethodId) (q : Addr) (frm : Int32) (to : Int32) (r : Int32) (sum : UInt64) : entryFrame m #[(.ref q), (.int (3 : Int32)), (.int frm), (.int to), (.int r), (.double sum)] 7 = mkF m 0 #[.val (.ref q), .val (.int (3 : Int32)), .val (.int frm), .val (.int to), .val (.int r), .val (.double sum), .second] [] := by first | (simp [entryFrame, mkF, argsToLocals, Value.category]; done) | rfl
set_option maxRecDepth 65536 in
set_option maxHeartbeats 40000000 in
theorem own_rm_o3fttfff (l : Launch) (Z : State) (a0 : Array Value) (hw : ∀ d ∈ tables_1, d.before a0 Z = true) (ws : List Jvm.Cond) (q : Addr) (d0 : UInt64) (d1 : UInt64) (d2 : UInt64) (d3 : UInt64) (frm : Int32) (to : Int32) (r : Int32) (sum : UInt64) {qk : ClassId} {o3fttfff_v41 : UInt64} {o3fttfff_v58 : UInt64} (h0 : Heap) (n0 : Nat) (Z0 : n0 ≤ h0.size) (V_q : Arv Z h0 q qk .double (4 : Int32) [(.double d0), (.double d1), (.double d2), (.double d3)] (.double 0)) (o3fttfff_hb2 : if_icmp.holds .lt (3 : Int32) frm = false) (o3fttfff_hb7 : if_icmp.holds .lt (3 : Int32) to = true) (o3fttfff_hb15 : if_icmp.holds .ne r (-1 : Int32) = true) (o3fttfff_hin41 : ¬ r < 0 ∧ r < (4 : Int32)) (o3fttfff_hel41 : ([(.double d0), (.double d1), (.double d2), (.double d3)] : List Value).getD (Int32.toNatClampNeg r) (.double 0) = (.double o3fttfff_v41)) (o3fttfff_hb43 : ifCond.holds .gt (Op.cmpValue (FP.dcmp d3 o3fttfff_v41) .g) = false) (o3fttfff_hb49 : if_icmp.holds .ge (3 : Int32) r = false) (o3fttfff_hin58 : ¬ r < 0 ∧ r < (4 : Int32)) (o3fttfff_hel58 : ([(.double d0), (.double d1), (.double d2), (.double d3)] : List Value).getD (Int32.toNatClampNeg r) (.double 0) = (.double o3fttfff_v58)) (o3fttfff_hb60 : ifCond.holds .ge (Op.cmpValue (FP.dcmp d3 o3fttfff_v58) .g) = false) :
    MetFree l (⟨"com/example/libcredal/libcredal/core/OutwardRoundingBalancingPinLaw", "okAt", "([DIIIID)Z"⟩ : MethodName) (head1 (Jvm.Cond.code (⟨"com/example/libcredal/libcredal/core/OutwardRoundingBalancingPinLaw", "okAt", "([DIIIID)Z"⟩ : MethodName) method_2_code 7 (some .boolean) :: ws) ({ frames := 0, cells := 0, slots := 0, locals := 0 } : Room)) (fun a U => a = #[(.ref q), (.int (3 : Int32)), (.int frm), (.int to), (.int r), (.double sum)] ∧ Z.Warmed39 U.vm ∧ U.heap = h0) (fun _ _ _ _ _ => True) (fun _ U o U' => ∃ v L, o = .returned v ∧ own_QP (some (.int (1 : Int32))) h0 n0 v U'.heap L ∧ FrameEnd U o U' L ({ frames := 0, cells := 0, slots := 0, locals := 0 } : Room).cells ({ frames := 0, cells := 0, slots := 0, locals := 0 } : Room).slots) := by
  refine MetFree.of_bodySF (plainFor_of_name own_pn_com_example_libcredal_libcredal_core_OutwardRoundingBalancingPinLaw) hisR ?_
  intro p e s m args below meth c s₁ Bd hml0 hP hK
  obtain ⟨rfl, hZ, hh⟩ := hP
  have hx := Bd.exec
  have hby := Bd.bytes
  have hml : c.maxLocals = 7 := hml0
  have hown : s.vm.findClass "com/example/libcredal/libcredal/core/OutwardRoundingBalancingPinLaw" = some m.cls := findClass_of_methodNamed Bd.named
  have hnm := (name_of_methodNamed Bd.named Bd.method).1
  have X0 : Stand p l e ({ frames := 0, cells := 0, slots := 0, locals := 0 } : Room) s m #[(.ref q), (.int (3 : Int32)), (.int frm), (.int to), (.int r), (.double sum)] below meth c s₁ [] 0 0 := Stand.of_body Bd
  have e0 : s₁.heap = h0 := by rw [← hh, Bd.state]; rfl
  have N0 := Fr.nil n0
  have pre0 : ∀ t, Steps p.tables e below (s₁.setTop (mkF m 0 #[.val (.ref q), .val (.int (3 : Int32)), .val (.int frm), .val (.int to), .val (.int r), .val (.double sum), .second] [])) t → Steps p.tables e below (s₁.setTop (entryFrame m #[(.ref q), (.int (3 : Int32)), (.int frm), (.int to), (.int r), (.double sum)] 7)) t := fun t k => castTop (own_ef_o3fttfff m q frm to r sum) k
  obtain ⟨fs, hr, hrun, hended, hW, hsame⟩ := X0.leave (v := some (.int (1 : Int32))) (fun h => by rw [Bd.returns] at h; cases h)
  refine ⟨_, _, pre0 _ ?_, hrun, hended, _, _, rfl, ?_, ⟨_, rfl⟩, hW, hsame.mono (by decide) (by decide)⟩
  · refine own_s_iloadN X0.here hx (hb hby own_d2_0) (pc' := 1) rfl rfl ?_
    refine own_s_iloadN X0.here hx (hb hby own_d2_1) (pc' := 2) rfl rfl ?_
    refine own_s_icmpNo X0.here hx (hb hby own_d2_2) (pc' := 5) rfl o3fttfff_hb2 ?_
    refine own_s_iloadN X0.here hx (hb hby own_d2_5) (pc' := 6) rfl rfl ?_
    refine own_s_iloadN X0.here hx (hb hby own_d2_6) (pc' := 7) rfl rfl ?_
    refine own_s_icmpYes X0.here hx (hb hby own_d2_7) (by decide) (pc' := 12) (by decide) o3fttfff_hb7 ?_
    refine own_s_iload X0.here hx (hb hby own_d2_12) (pc' := 14) rfl rfl ?_
    refine own_s_iconst X0.here hx (hb hby own_d2_14) (pc' := 15) rfl (v := (-1 : Int32)) (by decide) ?_
    refine own_s_icmpYes X0.here hx (hb hby own_d2_15) (by decide) (pc' := 35) (by decide) o3fttfff_hb15 ?_
    refine own_s_aloadN X0.here hx (hb hby own_d2_35) (pc' := 36) rfl rfl rfl ?_
    refine own_s_iloadN X0.here hx (hb hby own_d2_36) (pc' := 37) rfl rfl ?_
    refine own_ldD X0 hx hZ e0 V_q (j := (3 : Int32)) (x := d3) (by decide) rfl (hb hby own_d2_37) (pc' := 38) rfl ?_
    refine own_s_aloadN X0.here hx (hb hby own_d2_38) (pc' := 39) rfl rfl rfl ?_
    refine own_s_iload X0.here hx (hb hby own_d2_39) (pc' := 41) rfl rfl ?_
    refine own_ldD X0 hx hZ e0 V_q (j := r) (x := o3fttfff_v41) o3fttfff_hin41 o3fttfff_hel41 (hb hby own_d2_41) (pc' := 42) rfl ?_
    refine own_s_dcmp X0.here hx (hb hby own_d2_42) (pc' := 43) rfl (v := (Op.cmpValue (FP.dcmp d3 o3fttfff_v41) .g)) rfl ?_
    refine own_s_ifNo X0.here hx (hb hby own_d2_43) (pc' := 46) rfl o3fttfff_hb43 ?_
    refine own_s_iloadN X0.here hx (hb hby own_d2_46) (pc' := 47) rfl rfl ?_
    refine own_s_iload X0.here hx (hb hby own_d2_47) (pc' := 49) rfl rfl ?_
    refine own_s_icmpNo X0.here hx (hb hby own_d2_49) (pc' := 52) rfl o3fttfff_hb49 ?_
    refine own_s_aloadN X0.here hx (hb hby own_d2_52) (pc' := 53) rfl rfl rfl ?_
    refine own_s_iloadN X0.here hx (hb hby own_d2_53) (pc' := 54) rfl rfl ?_
    refine own_ldD X0 hx hZ e0 V_q (j := (3 : Int32)) (x := d3) (by decide) rfl (hb hby own_d2_54) (pc' := 55) rfl ?_
    refine own_s_aloadN X0.here hx (hb hby own_d2_55) (pc' := 56) rfl rfl rfl ?_
    refine own_s_iload X0.here hx (hb hby own_d2_56) (pc' := 58) rfl rfl ?_
    refine own_ldD X0 hx hZ e0 V_q (j := r) (x := o3fttfff_v58) o3fttfff_hin58 o3fttfff_hel58 (hb hby own_d2_58) (pc' := 59) rfl ?_
    refine own_s_dcmp X0.here hx (hb hby own_d2_59) (pc' := 60) rfl (v := (Op.cmpValue (FP.dcmp d3 o3fttfff_v58) .g)) rfl ?_
    refine own_s_ifNo X0.here hx (hb hby own_d2_60) (pc' := 63) rfl o3fttfff_hb60 ?_
    refine own_s_iconst X0.here hx (hb hby own_d2_63) (pc' := 64) rfl (v := (1 : Int32)) (by decide) ?_
    refine own_s_goto X0.here hx (hb hby own_d2_64) (by decide) (pc' := 68) (by decide) ?_
    exact retN X0 hx (t := .boolean) Bd.returns (by simp) (hb hby own_d2_68) hr
  · show own_QP (some (.int (1 : Int32))) h0 n0 _ s₁.heap _
    rw [e0]
    exact ⟨rfl, N0, rfl⟩
set_option maxRecDepth 65536 in
set_option maxHeartbeats 40000000 in
theorem own_rm_ok3 (l : Launch) (Z : State) (a0 : Array Value) (hw : ∀ d ∈ tables_1, d.before a0 Z = true) (ws : List Jvm.Cond) (q : Addr) (d0 : UInt64) (d1 : UInt64) (d2 : UInt64) (d3 : UInt64) (frm : Int32) (to : Int32) (r : Int32) (sum : UInt64) {qk : ClassId} (h0 : Heap) (n0 : Nat) (Z0 : n0 ≤ h0.size) (V_q : Arv Z h0 q qk .double (4 : Int32) [(.double d0), (.double d1), (.double d2), (.double d3)] (.double 0)) (ok3_hs : Jvm.Free.Fl.NoNaN64 (FP.dsub sum 4607182418800017408)) (ok3_hA : frm.toInt ≤ 3 → 3 < to.toInt → r = -1 → ifCond.holds .gt (Op.cmpValue (FP.dcmp d3 (FP.dsub sum 4607182418800017408)) .g) = false) (ok3_hR : r ≠ -1 → 0 ≤ r.toInt ∧ r.toInt < 4) (ok3_hB : frm.toInt ≤ 3 → 3 < to.toInt → r ≠ -1 → ifCond.holds .gt (Op.cmpValue (FP.dcmp d3 (own_el d0 d1 d2 d3 r.toInt)) .g) = false ∧ (3 < r.toInt → ifCond.holds .ge (Op.cmpValue (FP.dcmp d3 (own_el d0 d1 d2 d3 r.toInt)) .g) = false)) :
    MetFree l (⟨"com/example/libcredal/libcredal/core/OutwardRoundingBalancingPinLaw", "okAt", "([DIIIID)Z"⟩ : MethodName) (head1 (Jvm.Cond.code (⟨"com/example/libcredal/libcredal/core/OutwardRoundingBalancingPinLaw", "okAt", "([DIIIID)Z"⟩ : MethodName) method_2_code 7 (some .boolean) :: ws) ({ frames := 0, cells := 0, slots := 0, locals := 0 } : Room)) (fun a U => a = #[(.ref q), (.int (3 : Int32)), (.int frm), (.int to), (.int r), (.double sum)] ∧ Z.Warmed39 U.vm ∧ U.heap = h0) (fun _ _ _ _ _ => True) (fun _ U o U' => ∃ v L, o = .returned v ∧ own_QP (some (.int (1 : Int32))) h0 n0 v U'.heap L ∧ FrameEnd U o U' L ({ frames := 0, cells := 0, slots := 0, locals := 0 } : Room).cells ({ frames := 0, cells := 0, slots := 0, locals := 0 } : Room).slots) := by
  have ek : (3 : Int32).toInt = 3 := by decide
  by_cases a1 : (3 : Int32) < frm
  · exact own_rm_o3t l Z a0 hw ws q d0 d1 d2 d3 frm to r sum h0 n0 Z0 V_q (o3t_hb2 := (XT.ii_lt_t a1))
  · have b2 := XT.ii_lt_f a1
    have c1 : frm.toInt ≤ 3 := Int.le_of_not_gt fun q => a1 (Int32.lt_iff_toInt_lt.mpr (by omega))
    by_cases a2 : (3 : Int32) < to
    · have b7 := XT.ii_lt_t a2
      have c2 : 3 < to.toInt := by have := Int32.lt_iff_toInt_lt.mp a2; omega
      by_cases a3 : r = -1
      · exact own_rm_o3ftff l Z a0 hw ws q d0 d1 d2 d3 frm to r sum h0 n0 Z0 V_q (o3ftff_hb2 := b2) (o3ftff_hb7 := b7) (o3ftff_hb15 := (XT.ii_ne_f a3)) (o3ftff_hn24 := ok3_hs) (o3ftff_hv24 := rfl) (o3ftff_hb26 := (ok3_hA c1 c2 a3))
      · have c3 := ok3_hR a3
        obtain ⟨hb1, hb2⟩ := ok3_hB c1 c2 a3
        by_cases a4 : (3 : Int32) < r
        · exact own_rm_o3fttfff l Z a0 hw ws q d0 d1 d2 d3 frm to r sum h0 n0 Z0 V_q (o3fttfff_hb2 := b2) (o3fttfff_hb7 := b7) (o3fttfff_hb15 := (XT.ii_ne_t a3)) (o3fttfff_hin41 := (own_inb c3)) (o3fttfff_hel41 := (own_getD d0 d1 d2 d3 c3)) (o3fttfff_hb43 := hb1) (o3fttfff_hb49 := (XT.ii_ge_f a4)) (o3fttfff_hin58 := (own_inb c3)) (o3fttfff_hel58 := (own_getD d0 d1 d2 d3 c3)) (o3fttfff_hb60 := (hb2 (by have := Int32.lt_iff_toInt_lt.mp a4; omega)))
        · exact own_rm_o3fttft l Z a0 hw ws q d0 d1 d2 d3 frm to r sum h0 n0 Z0 V_q (o3fttft_hb2 := b2) (o3fttft_hb7 := b7) (o3fttft_hb15 := (XT.ii_ne_t a3)) (o3fttft_hin41 := (own_inb c3)) (o3fttft_hel41 := (own_getD d0 d1 d2 d3 c3)) (o3fttft_hb43 := hb1) (o3fttft_hb49 := (XT.ii_ge_t a4))
    · exact own_rm_o3ff l Z a0 hw ws q d0 d1 d2 d3 frm to r sum h0 n0 Z0 V_q (o3ff_hb2 := b2) (o3ff_hb7 := (XT.ii_lt_f a2))
theorem own_pd_285bDIID29I : parseMethodDescriptor "([DIID)I" = some ⟨[(.array .double), .int, .int, .double], some .int⟩ := by decide +kernel
theorem own_pd_285bDIIIID29Z : parseMethodDescriptor "([DIIIID)Z" = some ⟨[(.array .double), .int, .int, .int, .int, .double], some .boolean⟩ := by decide +kernel
theorem own_ef_wt (m : MethodId) (p0 : Int32) (p1 : Int32) (p2 : Int32) : entryFrame m #[(.int p0), (.int p1), (.int p2)] maxLocals = mkF m 0 #[.val (.int p0), .val (.int p1), .val (.int p2), .unset, .unset, .unset, .unset, .unset, .unset] [] := by first | (simp [entryFrame, mkF, argsToLocals, Value.category, maxLocals]; done) | rfl
set_option maxRecDepth 65536 in
set_option maxHeartbeats 40000000 in
theorem own_rm_wt (l : Launch) (Z : State) (a0 : Array Value) (hw : ∀ d ∈ tables_1, d.before a0 Z = true) (ws : List Jvm.Cond) (p0 : Int32) (p1 : Int32) (p2 : Int32) {wt_v9 : Int32} {wt_v11 : Int32} {wt_v18 : Int32} {wt_v21 : Int32} {wt_v23 : Int32} {wt_v31 : Int32} {wt_v34 : Int32} {wt_v36 : Int32} {wt_v44 : Int32} {wt_v47 : Int32} {wt_v49 : Int32} {wt_v54 : Int32} {wt_v60 : Int32} {wt_v63 : Int32} {wt_v65 : Int32} {wt_v69 : Int32} {wt_v70 : Int32} {wt_v71 : Int32} {wt_v77 : Int32} {wt_v82 : UInt64} {wt_r92 : Int32} (h0 : Heap) (n0 : Nat) (Z0 : n0 ≤ h0.size)  (wt_hv9 : p0 &&& (7 : Int32) = wt_v9) (wt_hv11 : wt_v9 - (3 : Int32) = wt_v11) (wt_hv18 : (Int32.toUInt32 p0 >>> ((3 : Int32) &&& 31).toUInt32).toInt32 = wt_v18) (wt_hv21 : wt_v18 &&& (7 : Int32) = wt_v21) (wt_hv23 : wt_v21 - (3 : Int32) = wt_v23) (wt_hv31 : (Int32.toUInt32 p0 >>> ((6 : Int32) &&& 31).toUInt32).toInt32 = wt_v31) (wt_hv34 : wt_v31 &&& (7 : Int32) = wt_v34) (wt_hv36 : wt_v34 - (3 : Int32) = wt_v36) (wt_hv44 : (Int32.toUInt32 p0 >>> ((9 : Int32) &&& 31).toUInt32).toInt32 = wt_v44) (wt_hv47 : wt_v44 &&& (7 : Int32) = wt_v47) (wt_hv49 : wt_v47 - (3 : Int32) = wt_v49) (wt_hv54 : p1 &&& (3 : Int32) = wt_v54) (wt_hv60 : wt_v54 + (1 : Int32) = wt_v60) (wt_hv63 : (Int32.toUInt32 p1 >>> ((2 : Int32) &&& 31).toUInt32).toInt32 = wt_v63) (wt_hv65 : wt_v63 &&& (3 : Int32) = wt_v65) (wt_hv69 : (4 : Int32) - wt_v54 = wt_v69) (wt_hy70 : wt_v69 ≠ 0) (wt_hv70 : wt_v65 % wt_v69 = wt_v70) (wt_hv71 : wt_v60 + wt_v70 = wt_v71) (wt_hv77 : p2 % (40 : Int32) = wt_v77) (wt_hn82 : Jvm.Free.Fl.NoNaN64 (FP.dmul (FP.i2d wt_v77) (4602678819172646912 : UInt64))) (wt_hv82 : FP.dmul (FP.i2d wt_v77) (4602678819172646912 : UInt64) = wt_v82) (wt_c92_bal_hlo : 0 ≤ wt_v54.toInt ∧ wt_v54.toInt < wt_v71.toInt ∧ wt_v71.toInt ≤ 4) (wt_c92_bal_hnn : ∀ k, Jvm.FP.Core.val64 (own_el (FP.i2d wt_v11) (FP.i2d wt_v23) (FP.i2d wt_v36) (FP.i2d wt_v49) k) ≠ .nan) (wt_c92_bal_hs : Jvm.Free.Fl.NoNaN64 (FP.dsub wt_v82 4607182418800017408)) (wt_hr92 : (own_r (FP.i2d wt_v11) (FP.i2d wt_v23) (FP.i2d wt_v36) (FP.i2d wt_v49) wt_v54 wt_v71 (FP.dsub wt_v82 4607182418800017408)) = wt_r92) (wt_hb100 : if_icmp.holds .eq wt_r92 (-1 : Int32) = true) (wt_c143_ok0_hs : Jvm.Free.Fl.NoNaN64 (FP.dsub wt_v82 4607182418800017408)) (wt_c143_ok0_hA : wt_v54.toInt ≤ 0 → 0 < wt_v71.toInt → wt_r92 = -1 → ifCond.holds .gt (Op.cmpValue (FP.dcmp (FP.i2d wt_v11) (FP.dsub wt_v82 4607182418800017408)) .g) = false) (wt_c143_ok0_hR : wt_r92 ≠ -1 → 0 ≤ wt_r92.toInt ∧ wt_r92.toInt < 4) (wt_c143_ok0_hB : wt_v54.toInt ≤ 0 → 0 < wt_v71.toInt → wt_r92 ≠ -1 → ifCond.holds .gt (Op.cmpValue (FP.dcmp (FP.i2d wt_v11) (own_el (FP.i2d wt_v11) (FP.i2d wt_v23) (FP.i2d wt_v36) (FP.i2d wt_v49) wt_r92.toInt)) .g) = false ∧ (0 < wt_r92.toInt → ifCond.holds .ge (Op.cmpValue (FP.dcmp (FP.i2d wt_v11) (own_el (FP.i2d wt_v11) (FP.i2d wt_v23) (FP.i2d wt_v36) (FP.i2d wt_v49) wt_r92.toInt)) .g) = false)) (wt_c159_ok1_hs : Jvm.Free.Fl.NoNaN64 (FP.dsub wt_v82 4607182418800017408)) (wt_c159_ok1_hA : wt_v54.toInt ≤ 1 → 1 < wt_v71.toInt → wt_r92 = -1 → ifCond.holds .gt (Op.cmpValue (FP.dcmp (FP.i2d wt_v23) (FP.dsub wt_v82 4607182418800017408)) .g) = false) (wt_c159_ok1_hR : wt_r92 ≠ -1 → 0 ≤ wt_r92.toInt ∧ wt_r92.toInt < 4) (wt_c159_ok1_hB : wt_v54.toInt ≤ 1 → 1 < wt_v71.toInt → wt_r92 ≠ -1 → ifCond.holds .gt (Op.cmpValue (FP.dcmp (FP.i2d wt_v23) (own_el (FP.i2d wt_v11) (FP.i2d wt_v23) (FP.i2d wt_v36) (FP.i2d wt_v49) wt_r92.toInt)) .g) = false ∧ (1 < wt_r92.toInt → ifCond.holds .ge (Op.cmpValue (FP.dcmp (FP.i2d wt_v23) (own_el (FP.i2d wt_v11) (FP.i2d wt_v23) (FP.i2d wt_v36) (FP.i2d wt_v49) wt_r92.toInt)) .g) = false)) (wt_c175_ok2_hs : Jvm.Free.Fl.NoNaN64 (FP.dsub wt_v82 4607182418800017408)) (wt_c175_ok2_hA : wt_v54.toInt ≤ 2 → 2 < wt_v71.toInt → wt_r92 = -1 → ifCond.holds .gt (Op.cmpValue (FP.dcmp (FP.i2d wt_v36) (FP.dsub wt_v82 4607182418800017408)) .g) = false) (wt_c175_ok2_hR : wt_r92 ≠ -1 → 0 ≤ wt_r92.toInt ∧ wt_r92.toInt < 4) (wt_c175_ok2_hB : wt_v54.toInt ≤ 2 → 2 < wt_v71.toInt → wt_r92 ≠ -1 → ifCond.holds .gt (Op.cmpValue (FP.dcmp (FP.i2d wt_v36) (own_el (FP.i2d wt_v11) (FP.i2d wt_v23) (FP.i2d wt_v36) (FP.i2d wt_v49) wt_r92.toInt)) .g) = false ∧ (2 < wt_r92.toInt → ifCond.holds .ge (Op.cmpValue (FP.dcmp (FP.i2d wt_v36) (own_el (FP.i2d wt_v11) (FP.i2d wt_v23) (FP.i2d wt_v36) (FP.i2d wt_v49) wt_r92.toInt)) .g) = false)) (wt_c191_ok3_hs : Jvm.Free.Fl.NoNaN64 (FP.dsub wt_v82 4607182418800017408)) (wt_c191_ok3_hA : wt_v54.toInt ≤ 3 → 3 < wt_v71.toInt → wt_r92 = -1 → ifCond.holds .gt (Op.cmpValue (FP.dcmp (FP.i2d wt_v49) (FP.dsub wt_v82 4607182418800017408)) .g) = false) (wt_c191_ok3_hR : wt_r92 ≠ -1 → 0 ≤ wt_r92.toInt ∧ wt_r92.toInt < 4) (wt_c191_ok3_hB : wt_v54.toInt ≤ 3 → 3 < wt_v71.toInt → wt_r92 ≠ -1 → ifCond.holds .gt (Op.cmpValue (FP.dcmp (FP.i2d wt_v49) (own_el (FP.i2d wt_v11) (FP.i2d wt_v23) (FP.i2d wt_v36) (FP.i2d wt_v49) wt_r92.toInt)) .g) = false ∧ (3 < wt_r92.toInt → ifCond.holds .ge (Op.cmpValue (FP.dcmp (FP.i2d wt_v49) (own_el (FP.i2d wt_v11) (FP.i2d wt_v23) (FP.i2d wt_v36) (FP.i2d wt_v49) wt_r92.toInt)) .g) = false)) :
    MetFree l x (head1 (Jvm.Cond.code x code maxLocals ret :: ws) room_1) (fun a U => a = #[(.int p0), (.int p1), (.int p2)] ∧ Z.Warmed39 U.vm ∧ U.heap = h0) (fun _ _ _ _ _ => True) (fun _ U o U' => ∃ v L, o = .returned v ∧ own_Q0 n0 v U'.heap L ∧ FrameEnd U o U' L room_1.cells room_1.slots) := by
  refine MetFree.of_bodySF (plainFor_of_name own_pn_com_example_libcredal_libcredal_core_OutwardRoundingBalancingPinLaw) hisR ?_
  intro p e s m args below meth c s₁ Bd hml0 hP hK
  obtain ⟨rfl, hZ, hh⟩ := hP
  have hx := Bd.exec
  have hby := Bd.bytes
  have hml : c.maxLocals = 9 := hml0
  have hown : s.vm.findClass "com/example/libcredal/libcredal/core/OutwardRoundingBalancingPinLaw" = some m.cls := findClass_of_methodNamed Bd.named
  have hnm := (name_of_methodNamed Bd.named Bd.method).1
  have X0 : Stand p l e room_1 s m #[(.int p0), (.int p1), (.int p2)] below meth c s₁ [] 0 0 := Stand.of_body Bd
  have e0 : s₁.heap = h0 := by rw [← hh, Bd.state]; rfl
  have N0 := Fr.nil n0
  have pre0 : ∀ t, Steps p.tables e below (s₁.setTop (mkF m 0 #[.val (.int p0), .val (.int p1), .val (.int p2), .unset, .unset, .unset, .unset, .unset, .unset] [])) t → Steps p.tables e below (s₁.setTop (entryFrame m #[(.int p0), (.int p1), (.int p2)] maxLocals)) t := fun t k => castTop (own_ef_wt m p0 p1 p2) k
  obtain ⟨Twt1, hwt1, kwt1, bwt1, Xwt1, ewt1, Ewt1, Gwt1, Vwt1, stwt1⟩ := own_newD (L := #[.val (.int p0), .val (.int p1), .val (.int p2), .unset, .unset, .unset, .unset, .unset, .unset]) (S := []) X0 hx hZ (hw _ (List.mem_of_getElem? (i := 0) rfl)) e0 (z := (4 : Int32)) 4 (by decide) (by decide) (by decide) (by decide) (by decide) (hb hby at_1) (pc' := 3) rfl
  have g_bwt1 : n0 ≤ bwt1 := Nat.le_trans Z0 (Nat.le_of_eq Gwt1.symm)
  have sz_bwt1 : h0.size ≤ bwt1 := Nat.le_trans (Keep.refl h0 []).1 (Nat.le_of_eq Gwt1.symm)
  have Zwt1 : n0 ≤ hwt1.size := Nat.le_trans Z0 Ewt1.1
  have KKwt1 := (Keep.refl h0 []).ext Ewt1
  have V_bwt1 : Arv Z hwt1 bwt1 kwt1 .double (4 : Int32) [(.double 0), (.double 0), (.double 0), (.double 0)] (.double 0) := Vwt1
  obtain ⟨Twt2, hwt2, Xwt2, ewt2, Wwt2, Vwt2, stwt2⟩ := own_stD (L := #[.val (.int p0), .val (.int p1), .val (.int p2), .val (.ref bwt1), .unset, .unset, .unset, .unset, .unset]) (S := []) Xwt1 hx hZ ewt1 V_bwt1 (j := (0 : Int32)) (x := (FP.i2d wt_v11)) (by decide) 0 (by decide) (Nat.le_of_ble_eq_true rfl) (hb hby at_13) (pc' := 14) rfl
  have Zwt2 : n0 ≤ hwt2.size := Nat.le_trans Zwt1 (Nat.le_of_eq Wwt2.size.symm)
  have KKwt2 := KKwt1.wr Wwt2 (Or.inr sz_bwt1)
  have V_bwt1_wt2 : Arv Z hwt2 bwt1 kwt1 .double (4 : Int32) [(.double (FP.i2d wt_v11)), (.double 0), (.double 0), (.double 0)] (.double 0) := Vwt2
  have Nwt2 := Fr.snoc Xwt2 N0 g_bwt1
  obtain ⟨Twt3, hwt3, Xwt3, ewt3, Wwt3, Vwt3, stwt3⟩ := own_stD (L := #[.val (.int p0), .val (.int p1), .val (.int p2), .val (.ref bwt1), .unset, .unset, .unset, .unset, .unset]) (S := []) Xwt2 hx hZ ewt2 V_bwt1_wt2 (j := (1 : Int32)) (x := (FP.i2d wt_v23)) (by decide) 1 (by decide) (Nat.le_of_ble_eq_true rfl) (hb hby at_25) (pc' := 26) rfl
  have Zwt3 : n0 ≤ hwt3.size := Nat.le_trans Zwt2 (Nat.le_of_eq Wwt3.size.symm)
  have KKwt3 := KKwt2.wr Wwt3 (Or.inr sz_bwt1)
  have V_bwt1_wt3 : Arv Z hwt3 bwt1 kwt1 .double (4 : Int32) [(.double (FP.i2d wt_v11)), (.double (FP.i2d wt_v23)), (.double 0), (.double 0)] (.double 0) := Vwt3
  have Nwt3 := Fr.snoc Xwt3 Nwt2 g_bwt1
  obtain ⟨Twt4, hwt4, Xwt4, ewt4, Wwt4, Vwt4, stwt4⟩ := own_stD (L := #[.val (.int p0), .val (.int p1), .val (.int p2), .val (.ref bwt1), .unset, .unset, .unset, .unset, .unset]) (S := []) Xwt3 hx hZ ewt3 V_bwt1_wt3 (j := (2 : Int32)) (x := (FP.i2d wt_v36)) (by decide) 2 (by decide) (Nat.le_of_ble_eq_true rfl) (hb hby at_38) (pc' := 39) rfl
  have Zwt4 : n0 ≤ hwt4.size := Nat.le_trans Zwt3 (Nat.le_of_eq Wwt4.size.symm)
  have KKwt4 := KKwt3.wr Wwt4 (Or.inr sz_bwt1)
  have V_bwt1_wt4 : Arv Z hwt4 bwt1 kwt1 .double (4 : Int32) [(.double (FP.i2d wt_v11)), (.double (FP.i2d wt_v23)), (.double (FP.i2d wt_v36)), (.double 0)] (.double 0) := Vwt4
  have Nwt4 := Fr.snoc Xwt4 Nwt3 g_bwt1
  obtain ⟨Twt5, hwt5, Xwt5, ewt5, Wwt5, Vwt5, stwt5⟩ := own_stD (L := #[.val (.int p0), .val (.int p1), .val (.int p2), .val (.ref bwt1), .unset, .unset, .unset, .unset, .unset]) (S := []) Xwt4 hx hZ ewt4 V_bwt1_wt4 (j := (3 : Int32)) (x := (FP.i2d wt_v49)) (by decide) 3 (by decide) (Nat.le_of_ble_eq_true rfl) (hb hby at_51) (pc' := 52) rfl
  have Zwt5 : n0 ≤ hwt5.size := Nat.le_trans Zwt4 (Nat.le_of_eq Wwt5.size.symm)
  have KKwt5 := KKwt4.wr Wwt5 (Or.inr sz_bwt1)
  have V_bwt1_wt5 : Arv Z hwt5 bwt1 kwt1 .double (4 : Int32) [(.double (FP.i2d wt_v11)), (.double (FP.i2d wt_v23)), (.double (FP.i2d wt_v36)), (.double (FP.i2d wt_v49))] (.double 0) := Vwt5
  have Nwt5 := Fr.snoc Xwt5 Nwt4 g_bwt1
  obtain ⟨_, _, ⟨Twt6, Lwt6, kwt6, nwt6⟩, -, Xwt6, ⟨Lcwt6, hQwt6, lwt6, ywt6, zwt6⟩, stwt6⟩ := Jvm.LawKit.callS Xwt5 hx (y := (⟨"com/example/libcredal/libcredal/core/OutwardRounding", "balancing", "([DIID)I"⟩ : MethodName)) hown (mvT hZ (hw _ (List.mem_of_getElem? (i := 2) rfl))) (mvT hZ (hw _ (List.mem_of_getElem? (i := 3) rfl))) (mvT hZ (hw _ (List.mem_of_getElem? (i := 4) rfl))) (mvT hZ (hw _ (List.mem_of_getElem? (i := 5) rfl))) (by decide) (backOf (W := 0) (own_rm_bal l Z a0 hw [] bwt1 (FP.i2d wt_v11) (FP.i2d wt_v23) (FP.i2d wt_v36) (FP.i2d wt_v49) wt_v54 wt_v71 wt_v82 hwt5 n0 Zwt5 V_bwt1_wt5 wt_c92_bal_hlo wt_c92_bal_hnn wt_c92_bal_hs) hZ (hw _ (List.mem_of_getElem? (i := 5) rfl)) (hw _ (List.mem_of_getElem? (i := 4) rfl)) (by decide) (by decide)) (g := (mkF m 92 #[.val (.int p0), .val (.int p1), .val (.int p2), .val (.ref bwt1), .val (.int wt_v54), .val (.int wt_v71), .val (.double wt_v82), .second, .unset] [(.double wt_v82), (.int wt_v71), (.int wt_v54), (.ref bwt1)])) rfl (by rw [hml]; rfl) (argsL := [(.ref bwt1), (.int wt_v54), (.int wt_v71), (.double wt_v82)]) (rest := []) (lenOf own_pd_285bDIID29I rfl) rfl (by show 2 * 0 + _ ≤ _; exact Nat.le_of_eq rfl) (hb hby at_92) (fun _ _ => ⟨rfl, ewt5, (by decide : 1 + 0 ≤ _), (by decide : 4 + 0 ≤ _)⟩)
  dsimp only [Pt.U, Pt.locs, Pt.cells, Pt.slots] at Xwt6 lwt6 ywt6 zwt6 stwt6 hQwt6
  rw [lwt6, ywt6, zwt6] at Xwt6
  obtain ⟨vwt6q, Nwt6q, ewt6⟩ := hQwt6
  rw [wt_hr92] at vwt6q
  subst vwt6q
  have Nwt6 := Fr.app Nwt5 Nwt6q
  obtain ⟨_, _, ⟨Twt7, Lwt7, kwt7, nwt7⟩, -, Xwt7, ⟨Lcwt7, hQwt7, lwt7, ywt7, zwt7⟩, stwt7⟩ := Jvm.LawKit.callS Xwt6 hx (y := (⟨"com/example/libcredal/libcredal/core/OutwardRoundingBalancingPinLaw", "okAt", "([DIIIID)Z"⟩ : MethodName)) hown (mvT hZ (hw _ (List.mem_of_getElem? (i := 6) rfl))) (mvT hZ (hw _ (List.mem_of_getElem? (i := 7) rfl))) (mvT hZ (hw _ (List.mem_of_getElem? (i := 8) rfl))) (mvT hZ (hw _ (List.mem_of_getElem? (i := 9) rfl))) (by decide) (backOf (W := 0) (own_rm_ok0 l Z a0 hw [] bwt1 (FP.i2d wt_v11) (FP.i2d wt_v23) (FP.i2d wt_v36) (FP.i2d wt_v49) wt_v54 wt_v71 wt_r92 wt_v82 hwt5 n0 Zwt5 V_bwt1_wt5 wt_c143_ok0_hs wt_c143_ok0_hA wt_c143_ok0_hR wt_c143_ok0_hB) hZ (hw _ (List.mem_of_getElem? (i := 9) rfl)) (hw _ (List.mem_of_getElem? (i := 8) rfl)) (by decide) (by decide)) (g := (mkF m 143 #[.val (.int p0), .val (.int p1), .val (.int p2), .val (.ref bwt1), .val (.int wt_v54), .val (.int wt_v71), .val (.double wt_v82), .second, .val (.int wt_r92)] [(.double wt_v82), (.int wt_r92), (.int wt_v71), (.int wt_v54), (.int (0 : Int32)), (.ref bwt1)])) rfl (by rw [hml]; rfl) (argsL := [(.ref bwt1), (.int (0 : Int32)), (.int wt_v54), (.int wt_v71), (.int wt_r92), (.double wt_v82)]) (rest := []) (lenOf own_pd_285bDIIIID29Z rfl) rfl (by show 2 * 0 + _ ≤ _; exact Nat.le_of_eq rfl) (hb hby at_143) (fun _ _ => ⟨rfl, ewt6, (by decide : 1 + 0 ≤ _), (by decide : 4 + 0 ≤ _)⟩)
  dsimp only [Pt.U, Pt.locs, Pt.cells, Pt.slots] at Xwt7 lwt7 ywt7 zwt7 stwt7 hQwt7
  rw [lwt7, ywt7, zwt7] at Xwt7
  obtain ⟨rfl, Nwt7q, ewt7⟩ := hQwt7
  have Nwt7 := Fr.app Nwt6 Nwt7q
  obtain ⟨_, _, ⟨Twt8, Lwt8, kwt8, nwt8⟩, -, Xwt8, ⟨Lcwt8, hQwt8, lwt8, ywt8, zwt8⟩, stwt8⟩ := Jvm.LawKit.callS Xwt7 hx (y := (⟨"com/example/libcredal/libcredal/core/OutwardRoundingBalancingPinLaw", "okAt", "([DIIIID)Z"⟩ : MethodName)) hown (mvT hZ (hw _ (List.mem_of_getElem? (i := 6) rfl))) (mvT hZ (hw _ (List.mem_of_getElem? (i := 7) rfl))) (mvT hZ (hw _ (List.mem_of_getElem? (i := 8) rfl))) (mvT hZ (hw _ (List.mem_of_getElem? (i := 9) rfl))) (by decide) (backOf (W := 0) (own_rm_ok1 l Z a0 hw [] bwt1 (FP.i2d wt_v11) (FP.i2d wt_v23) (FP.i2d wt_v36) (FP.i2d wt_v49) wt_v54 wt_v71 wt_r92 wt_v82 hwt5 n0 Zwt5 V_bwt1_wt5 wt_c159_ok1_hs wt_c159_ok1_hA wt_c159_ok1_hR wt_c159_ok1_hB) hZ (hw _ (List.mem_of_getElem? (i := 9) rfl)) (hw _ (List.mem_of_getElem? (i := 8) rfl)) (by decide) (by decide)) (g := (mkF m 159 #[.val (.int p0), .val (.int p1), .val (.int p2), .val (.ref bwt1), .val (.int wt_v54), .val (.int wt_v71), .val (.double wt_v82), .second, .val (.int wt_r92)] [(.double wt_v82), (.int wt_r92), (.int wt_v71), (.int wt_v54), (.int (1 : Int32)), (.ref bwt1)])) rfl (by rw [hml]; rfl) (argsL := [(.ref bwt1), (.int (1 : Int32)), (.int wt_v54), (.int wt_v71), (.int wt_r92), (.double wt_v82)]) (rest := []) (lenOf own_pd_285bDIIIID29Z rfl) rfl (by show 2 * 0 + _ ≤ _; exact Nat.le_of_eq rfl) (hb hby at_159) (fun _ _ => ⟨rfl, ewt7, (by decide : 1 + 0 ≤ _), (by decide : 4 + 0 ≤ _)⟩)
  dsimp only [Pt.U, Pt.locs, Pt.cells, Pt.slots] at Xwt8 lwt8 ywt8 zwt8 stwt8 hQwt8
  rw [lwt8, ywt8, zwt8] at Xwt8
  obtain ⟨rfl, Nwt8q, ewt8⟩ := hQwt8
  have Nwt8 := Fr.app Nwt7 Nwt8q
  obtain ⟨_, _, ⟨Twt9, Lwt9, kwt9, nwt9⟩, -, Xwt9, ⟨Lcwt9, hQwt9, lwt9, ywt9, zwt9⟩, stwt9⟩ := Jvm.LawKit.callS Xwt8 hx (y := (⟨"com/example/libcredal/libcredal/core/OutwardRoundingBalancingPinLaw", "okAt", "([DIIIID)Z"⟩ : MethodName)) hown (mvT hZ (hw _ (List.mem_of_getElem? (i := 6) rfl))) (mvT hZ (hw _ (List.mem_of_getElem? (i := 7) rfl))) (mvT hZ (hw _ (List.mem_of_getElem? (i := 8) rfl))) (mvT hZ (hw _ (List.mem_of_getElem? (i := 9) rfl))) (by decide) (backOf (W := 0) (own_rm_ok2 l Z a0 hw [] bwt1 (FP.i2d wt_v11) (FP.i2d wt_v23) (FP.i2d wt_v36) (FP.i2d wt_v49) wt_v54 wt_v71 wt_r92 wt_v82 hwt5 n0 Zwt5 V_bwt1_wt5 wt_c175_ok2_hs wt_c175_ok2_hA wt_c175_ok2_hR wt_c175_ok2_hB) hZ (hw _ (List.mem_of_getElem? (i := 9) rfl)) (hw _ (List.mem_of_getElem? (i := 8) rfl)) (by decide) (by decide)) (g := (mkF m 175 #[.val (.int p0), .val (.int p1), .val (.int p2), .val (.ref bwt1), .val (.int wt_v54), .val (.int wt_v71), .val (.double wt_v82), .second, .val (.int wt_r92)] [(.double wt_v82), (.int wt_r92), (.int wt_v71), (.int wt_v54), (.int (2 : Int32)), (.ref bwt1)])) rfl (by rw [hml]; rfl) (argsL := [(.ref bwt1), (.int (2 : Int32)), (.int wt_v54), (.int wt_v71), (.int wt_r92), (.double wt_v82)]) (rest := []) (lenOf own_pd_285bDIIIID29Z rfl) rfl (by show 2 * 0 + _ ≤ _; exact Nat.le_of_eq rfl) (hb hby at_175) (fun _ _ => ⟨rfl, ewt8, (by decide : 1 + 0 ≤ _), (by decide : 4 + 0 ≤ _)⟩)
  dsimp only [Pt.U, Pt.locs, Pt.cells, Pt.slots] at Xwt9 lwt9 ywt9 zwt9 stwt9 hQwt9
  rw [lwt9, ywt9, zwt9] at Xwt9
  obtain ⟨rfl, Nwt9q, ewt9⟩ := hQwt9
  have Nwt9 := Fr.app Nwt8 Nwt9q
  obtain ⟨_, _, ⟨Twt10, Lwt10, kwt10, nwt10⟩, -, Xwt10, ⟨Lcwt10, hQwt10, lwt10, ywt10, zwt10⟩, stwt10⟩ := Jvm.LawKit.callS Xwt9 hx (y := (⟨"com/example/libcredal/libcredal/core/OutwardRoundingBalancingPinLaw", "okAt", "([DIIIID)Z"⟩ : MethodName)) hown (mvT hZ (hw _ (List.mem_of_getElem? (i := 6) rfl))) (mvT hZ (hw _ (List.mem_of_getElem? (i := 7) rfl))) (mvT hZ (hw _ (List.mem_of_getElem? (i := 8) rfl))) (mvT hZ (hw _ (List.mem_of_getElem? (i := 9) rfl))) (by decide) (backOf (W := 0) (own_rm_ok3 l Z a0 hw [] bwt1 (FP.i2d wt_v11) (FP.i2d wt_v23) (FP.i2d wt_v36) (FP.i2d wt_v49) wt_v54 wt_v71 wt_r92 wt_v82 hwt5 n0 Zwt5 V_bwt1_wt5 wt_c191_ok3_hs wt_c191_ok3_hA wt_c191_ok3_hR wt_c191_ok3_hB) hZ (hw _ (List.mem_of_getElem? (i := 9) rfl)) (hw _ (List.mem_of_getElem? (i := 8) rfl)) (by decide) (by decide)) (g := (mkF m 191 #[.val (.int p0), .val (.int p1), .val (.int p2), .val (.ref bwt1), .val (.int wt_v54), .val (.int wt_v71), .val (.double wt_v82), .second, .val (.int wt_r92)] [(.double wt_v82), (.int wt_r92), (.int wt_v71), (.int wt_v54), (.int (3 : Int32)), (.ref bwt1)])) rfl (by rw [hml]; rfl) (argsL := [(.ref bwt1), (.int (3 : Int32)), (.int wt_v54), (.int wt_v71), (.int wt_r92), (.double wt_v82)]) (rest := []) (lenOf own_pd_285bDIIIID29Z rfl) rfl (by show 2 * 0 + _ ≤ _; exact Nat.le_of_eq rfl) (hb hby at_191) (fun _ _ => ⟨rfl, ewt9, (by decide : 1 + 0 ≤ _), (by decide : 4 + 0 ≤ _)⟩)
  dsimp only [Pt.U, Pt.locs, Pt.cells, Pt.slots] at Xwt10 lwt10 ywt10 zwt10 stwt10 hQwt10
  rw [lwt10, ywt10, zwt10] at Xwt10
  obtain ⟨rfl, Nwt10q, ewt10⟩ := hQwt10
  have Nwt10 := Fr.app Nwt9 Nwt10q
  obtain ⟨fs, hr, hrun, hended, hW, hsame⟩ := Xwt10.leave (v := some (.int (1 : Int32))) (fun h => by rw [Bd.returns] at h; cases h)
  refine ⟨_, _, pre0 _ ?_, hrun, hended, _, _, rfl, ?_, ⟨_, rfl⟩, hW, hsame.mono (by decide) (by decide)⟩
  · refine own_s_iconst X0.here hx (hb hby at_0) (pc' := 1) rfl (v := (4 : Int32)) (by decide) ?_
    refine stwt1 _ ?_
    refine own_s_astoreN Xwt1.here hx (hb hby at_3) (pc' := 4) rfl rfl (L' := #[.val (.int p0), .val (.int p1), .val (.int p2), .val (.ref bwt1), .unset, .unset, .unset, .unset, .unset]) rfl ?_
    refine own_s_aloadN Xwt1.here hx (hb hby at_4) (pc' := 5) rfl rfl rfl ?_
    refine own_s_iconst Xwt1.here hx (hb hby at_5) (pc' := 6) rfl (v := (0 : Int32)) (by decide) ?_
    refine own_s_iloadN Xwt1.here hx (hb hby at_6) (pc' := 7) rfl rfl ?_
    refine own_s_bipush Xwt1.here hx (hb hby at_7) (pc' := 9) rfl (v := (7 : Int32)) (by decide) ?_
    refine own_s_iand Xwt1.here hx (hb hby at_9) (pc' := 10) rfl (v := wt_v9) wt_hv9 ?_
    refine own_s_iconst Xwt1.here hx (hb hby at_10) (pc' := 11) rfl (v := (3 : Int32)) (by decide) ?_
    refine own_s_isub Xwt1.here hx (hb hby at_11) (pc' := 12) rfl (v := wt_v11) wt_hv11 ?_
    refine own_s_i2d Xwt1.here hx (hb hby at_12) (pc' := 13) rfl (v := (FP.i2d wt_v11)) rfl ?_
    refine stwt2 _ ?_
    refine own_s_aloadN Xwt2.here hx (hb hby at_14) (pc' := 15) rfl rfl rfl ?_
    refine own_s_iconst Xwt2.here hx (hb hby at_15) (pc' := 16) rfl (v := (1 : Int32)) (by decide) ?_
    refine own_s_iloadN Xwt2.here hx (hb hby at_16) (pc' := 17) rfl rfl ?_
    refine own_s_iconst Xwt2.here hx (hb hby at_17) (pc' := 18) rfl (v := (3 : Int32)) (by decide) ?_
    refine own_s_iushr Xwt2.here hx (hb hby at_18) (pc' := 19) rfl (v := wt_v18) wt_hv18 ?_
    refine own_s_bipush Xwt2.here hx (hb hby at_19) (pc' := 21) rfl (v := (7 : Int32)) (by decide) ?_
    refine own_s_iand Xwt2.here hx (hb hby at_21) (pc' := 22) rfl (v := wt_v21) wt_hv21 ?_
    refine own_s_iconst Xwt2.here hx (hb hby at_22) (pc' := 23) rfl (v := (3 : Int32)) (by decide) ?_
    refine own_s_isub Xwt2.here hx (hb hby at_23) (pc' := 24) rfl (v := wt_v23) wt_hv23 ?_
    refine own_s_i2d Xwt2.here hx (hb hby at_24) (pc' := 25) rfl (v := (FP.i2d wt_v23)) rfl ?_
    refine stwt3 _ ?_
    refine own_s_aloadN Xwt3.here hx (hb hby at_26) (pc' := 27) rfl rfl rfl ?_
    refine own_s_iconst Xwt3.here hx (hb hby at_27) (pc' := 28) rfl (v := (2 : Int32)) (by decide) ?_
    refine own_s_iloadN Xwt3.here hx (hb hby at_28) (pc' := 29) rfl rfl ?_
    refine own_s_bipush Xwt3.here hx (hb hby at_29) (pc' := 31) rfl (v := (6 : Int32)) (by decide) ?_
    refine own_s_iushr Xwt3.here hx (hb hby at_31) (pc' := 32) rfl (v := wt_v31) wt_hv31 ?_
    refine own_s_bipush Xwt3.here hx (hb hby at_32) (pc' := 34) rfl (v := (7 : Int32)) (by decide) ?_
    refine own_s_iand Xwt3.here hx (hb hby at_34) (pc' := 35) rfl (v := wt_v34) wt_hv34 ?_
    refine own_s_iconst Xwt3.here hx (hb hby at_35) (pc' := 36) rfl (v := (3 : Int32)) (by decide) ?_
    refine own_s_isub Xwt3.here hx (hb hby at_36) (pc' := 37) rfl (v := wt_v36) wt_hv36 ?_
    refine own_s_i2d Xwt3.here hx (hb hby at_37) (pc' := 38) rfl (v := (FP.i2d wt_v36)) rfl ?_
    refine stwt4 _ ?_
    refine own_s_aloadN Xwt4.here hx (hb hby at_39) (pc' := 40) rfl rfl rfl ?_
    refine own_s_iconst Xwt4.here hx (hb hby at_40) (pc' := 41) rfl (v := (3 : Int32)) (by decide) ?_
    refine own_s_iloadN Xwt4.here hx (hb hby at_41) (pc' := 42) rfl rfl ?_
    refine own_s_bipush Xwt4.here hx (hb hby at_42) (pc' := 44) rfl (v := (9 : Int32)) (by decide) ?_
    refine own_s_iushr Xwt4.here hx (hb hby at_44) (pc' := 45) rfl (v := wt_v44) wt_hv44 ?_
    refine own_s_bipush Xwt4.here hx (hb hby at_45) (pc' := 47) rfl (v := (7 : Int32)) (by decide) ?_
    refine own_s_iand Xwt4.here hx (hb hby at_47) (pc' := 48) rfl (v := wt_v47) wt_hv47 ?_
    refine own_s_iconst Xwt4.here hx (hb hby at_48) (pc' := 49) rfl (v := (3 : Int32)) (by decide) ?_
    refine own_s_isub Xwt4.here hx (hb hby at_49) (pc' := 50) rfl (v := wt_v49) wt_hv49 ?_
    refine own_s_i2d Xwt4.here hx (hb hby at_50) (pc' := 51) rfl (v := (FP.i2d wt_v49)) rfl ?_
    refine stwt5 _ ?_
    refine own_s_iloadN Xwt5.here hx (hb hby at_52) (pc' := 53) rfl rfl ?_
    refine own_s_iconst Xwt5.here hx (hb hby at_53) (pc' := 54) rfl (v := (3 : Int32)) (by decide) ?_
    refine own_s_iand Xwt5.here hx (hb hby at_54) (pc' := 55) rfl (v := wt_v54) wt_hv54 ?_
    refine own_s_istore Xwt5.here hx (hb hby at_55) (pc' := 57) rfl (L' := #[.val (.int p0), .val (.int p1), .val (.int p2), .val (.ref bwt1), .val (.int wt_v54), .unset, .unset, .unset, .unset]) rfl ?_
    refine own_s_iload Xwt5.here hx (hb hby at_57) (pc' := 59) rfl rfl ?_
    refine own_s_iconst Xwt5.here hx (hb hby at_59) (pc' := 60) rfl (v := (1 : Int32)) (by decide) ?_
    refine own_s_iadd Xwt5.here hx (hb hby at_60) (pc' := 61) rfl (v := wt_v60) wt_hv60 ?_
    refine own_s_iloadN Xwt5.here hx (hb hby at_61) (pc' := 62) rfl rfl ?_
    refine own_s_iconst Xwt5.here hx (hb hby at_62) (pc' := 63) rfl (v := (2 : Int32)) (by decide) ?_
    refine own_s_iushr Xwt5.here hx (hb hby at_63) (pc' := 64) rfl (v := wt_v63) wt_hv63 ?_
    refine own_s_iconst Xwt5.here hx (hb hby at_64) (pc' := 65) rfl (v := (3 : Int32)) (by decide) ?_
    refine own_s_iand Xwt5.here hx (hb hby at_65) (pc' := 66) rfl (v := wt_v65) wt_hv65 ?_
    refine own_s_iconst Xwt5.here hx (hb hby at_66) (pc' := 67) rfl (v := (4 : Int32)) (by decide) ?_
    refine own_s_iload Xwt5.here hx (hb hby at_67) (pc' := 69) rfl rfl ?_
    refine own_s_isub Xwt5.here hx (hb hby at_69) (pc' := 70) rfl (v := wt_v69) wt_hv69 ?_
    refine own_s_irem Xwt5.here hx (hb hby at_70) (pc' := 71) rfl wt_hy70 (v := wt_v70) wt_hv70 ?_
    refine own_s_iadd Xwt5.here hx (hb hby at_71) (pc' := 72) rfl (v := wt_v71) wt_hv71 ?_
    refine own_s_istore Xwt5.here hx (hb hby at_72) (pc' := 74) rfl (L' := #[.val (.int p0), .val (.int p1), .val (.int p2), .val (.ref bwt1), .val (.int wt_v54), .val (.int wt_v71), .unset, .unset, .unset]) rfl ?_
    refine own_s_iloadN Xwt5.here hx (hb hby at_74) (pc' := 75) rfl rfl ?_
    refine own_s_bipush Xwt5.here hx (hb hby at_75) (pc' := 77) rfl (v := (40 : Int32)) (by decide) ?_
    refine own_s_irem Xwt5.here hx (hb hby at_77) (pc' := 78) rfl (by decide) (v := wt_v77) wt_hv77 ?_
    refine own_s_i2d Xwt5.here hx (hb hby at_78) (pc' := 79) rfl (v := (FP.i2d wt_v77)) rfl ?_
    refine Xwt5.ldc2DoubleC hx hown (mvT hZ (hw _ (List.mem_of_getElem? (i := 1) rfl))) (g := (mkF m 79 #[.val (.int p0), .val (.int p1), .val (.int p2), .val (.ref bwt1), .val (.int wt_v54), .val (.int wt_v71), .unset, .unset, .unset] [(.double (FP.i2d wt_v77))])) rfl (hb hby at_79) _ ?_
    show Steps p.tables e below (Twt5.setTop (mkF m 82 #[.val (.int p0), .val (.int p1), .val (.int p2), .val (.ref bwt1), .val (.int wt_v54), .val (.int wt_v71), .unset, .unset, .unset] [(.double (4602678819172646912 : UInt64)), (.double (FP.i2d wt_v77))])) _
    refine own_s_dmul Xwt5.here hx (hb hby at_82) (pc' := 83) rfl wt_hn82 (v := wt_v82) wt_hv82 ?_
    refine own_s_dstore Xwt5.here hx (hb hby at_83) (pc' := 85) rfl (L' := #[.val (.int p0), .val (.int p1), .val (.int p2), .val (.ref bwt1), .val (.int wt_v54), .val (.int wt_v71), .val (.double wt_v82), .second, .unset]) rfl ?_
    refine own_s_aloadN Xwt5.here hx (hb hby at_85) (pc' := 86) rfl rfl rfl ?_
    refine own_s_iload Xwt5.here hx (hb hby at_86) (pc' := 88) rfl rfl ?_
    refine own_s_iload Xwt5.here hx (hb hby at_88) (pc' := 90) rfl rfl ?_
    refine own_s_dload Xwt5.here hx (hb hby at_90) (pc' := 92) rfl rfl ?_
    refine stwt6 _ ?_
    show Steps p.tables e below (Twt6.setTop (mkF m 95 #[.val (.int p0), .val (.int p1), .val (.int p2), .val (.ref bwt1), .val (.int wt_v54), .val (.int wt_v71), .val (.double wt_v82), .second, .unset] [(.int wt_r92)])) _
    refine own_s_istore Xwt6.here hx (hb hby at_95) (pc' := 97) rfl (L' := #[.val (.int p0), .val (.int p1), .val (.int p2), .val (.ref bwt1), .val (.int wt_v54), .val (.int wt_v71), .val (.double wt_v82), .second, .val (.int wt_r92)]) rfl ?_
    refine own_s_iload Xwt6.here hx (hb hby at_97) (pc' := 99) rfl rfl ?_
    refine own_s_iconst Xwt6.here hx (hb hby at_99) (pc' := 100) rfl (v := (-1 : Int32)) (by decide) ?_
    refine own_s_icmpYes Xwt6.here hx (hb hby at_100) (by decide) (pc' := 133) (by decide) wt_hb100 ?_
    refine own_s_aloadN Xwt6.here hx (hb hby at_133) (pc' := 134) rfl rfl rfl ?_
    refine own_s_iconst Xwt6.here hx (hb hby at_134) (pc' := 135) rfl (v := (0 : Int32)) (by decide) ?_
    refine own_s_iload Xwt6.here hx (hb hby at_135) (pc' := 137) rfl rfl ?_
    refine own_s_iload Xwt6.here hx (hb hby at_137) (pc' := 139) rfl rfl ?_
    refine own_s_iload Xwt6.here hx (hb hby at_139) (pc' := 141) rfl rfl ?_
    refine own_s_dload Xwt6.here hx (hb hby at_141) (pc' := 143) rfl rfl ?_
    refine stwt7 _ ?_
    show Steps p.tables e below (Twt7.setTop (mkF m 146 #[.val (.int p0), .val (.int p1), .val (.int p2), .val (.ref bwt1), .val (.int wt_v54), .val (.int wt_v71), .val (.double wt_v82), .second, .val (.int wt_r92)] [(.int (1 : Int32))])) _
    refine own_s_ifNo Xwt7.here hx (hb hby at_146) (pc' := 149) rfl (by decide) ?_
    refine own_s_aloadN Xwt7.here hx (hb hby at_149) (pc' := 150) rfl rfl rfl ?_
    refine own_s_iconst Xwt7.here hx (hb hby at_150) (pc' := 151) rfl (v := (1 : Int32)) (by decide) ?_
    refine own_s_iload Xwt7.here hx (hb hby at_151) (pc' := 153) rfl rfl ?_
    refine own_s_iload Xwt7.here hx (hb hby at_153) (pc' := 155) rfl rfl ?_
    refine own_s_iload Xwt7.here hx (hb hby at_155) (pc' := 157) rfl rfl ?_
    refine own_s_dload Xwt7.here hx (hb hby at_157) (pc' := 159) rfl rfl ?_
    refine stwt8 _ ?_
    show Steps p.tables e below (Twt8.setTop (mkF m 162 #[.val (.int p0), .val (.int p1), .val (.int p2), .val (.ref bwt1), .val (.int wt_v54), .val (.int wt_v71), .val (.double wt_v82), .second, .val (.int wt_r92)] [(.int (1 : Int32))])) _
    refine own_s_ifNo Xwt8.here hx (hb hby at_162) (pc' := 165) rfl (by decide) ?_
    refine own_s_aloadN Xwt8.here hx (hb hby at_165) (pc' := 166) rfl rfl rfl ?_
    refine own_s_iconst Xwt8.here hx (hb hby at_166) (pc' := 167) rfl (v := (2 : Int32)) (by decide) ?_
    refine own_s_iload Xwt8.here hx (hb hby at_167) (pc' := 169) rfl rfl ?_
    refine own_s_iload Xwt8.here hx (hb hby at_169) (pc' := 171) rfl rfl ?_
    refine own_s_iload Xwt8.here hx (hb hby at_171) (pc' := 173) rfl rfl ?_
    refine own_s_dload Xwt8.here hx (hb hby at_173) (pc' := 175) rfl rfl ?_
    refine stwt9 _ ?_
    show Steps p.tables e below (Twt9.setTop (mkF m 178 #[.val (.int p0), .val (.int p1), .val (.int p2), .val (.ref bwt1), .val (.int wt_v54), .val (.int wt_v71), .val (.double wt_v82), .second, .val (.int wt_r92)] [(.int (1 : Int32))])) _
    refine own_s_ifNo Xwt9.here hx (hb hby at_178) (pc' := 181) rfl (by decide) ?_
    refine own_s_aloadN Xwt9.here hx (hb hby at_181) (pc' := 182) rfl rfl rfl ?_
    refine own_s_iconst Xwt9.here hx (hb hby at_182) (pc' := 183) rfl (v := (3 : Int32)) (by decide) ?_
    refine own_s_iload Xwt9.here hx (hb hby at_183) (pc' := 185) rfl rfl ?_
    refine own_s_iload Xwt9.here hx (hb hby at_185) (pc' := 187) rfl rfl ?_
    refine own_s_iload Xwt9.here hx (hb hby at_187) (pc' := 189) rfl rfl ?_
    refine own_s_dload Xwt9.here hx (hb hby at_189) (pc' := 191) rfl rfl ?_
    refine stwt10 _ ?_
    show Steps p.tables e below (Twt10.setTop (mkF m 194 #[.val (.int p0), .val (.int p1), .val (.int p2), .val (.ref bwt1), .val (.int wt_v54), .val (.int wt_v71), .val (.double wt_v82), .second, .val (.int wt_r92)] [(.int (1 : Int32))])) _
    refine own_s_ifNo Xwt10.here hx (hb hby at_194) (pc' := 197) rfl (by decide) ?_
    refine own_s_iconst Xwt10.here hx (hb hby at_197) (pc' := 198) rfl (v := (1 : Int32)) (by decide) ?_
    refine own_s_goto Xwt10.here hx (hb hby at_198) (by decide) (pc' := 202) (by decide) ?_
    exact retN Xwt10 hx (t := .boolean) Bd.returns (by simp) (hb hby at_202) hr
  · show own_Q0 n0 _ Twt10.heap _
    rw [ewt10]
    exact ⟨rfl, Nwt10⟩
theorem own_ef_wf (m : MethodId) (p0 : Int32) (p1 : Int32) (p2 : Int32) : entryFrame m #[(.int p0), (.int p1), (.int p2)] maxLocals = mkF m 0 #[.val (.int p0), .val (.int p1), .val (.int p2), .unset, .unset, .unset, .unset, .unset, .unset] [] := by first | (simp [entryFrame, mkF, argsToLocals, Value.category, maxLocals]; done) | rfl
set_option maxRecDepth 65536 in
set_option maxHeartbeats 40000000 in
theorem own_rm_wf (l : Launch) (Z : State) (a0 : Array Value) (hw : ∀ d ∈ tables_1, d.before a0 Z = true) (ws : List Jvm.Cond) (p0 : Int32) (p1 : Int32) (p2 : Int32) {wf_v9 : Int32} {wf_v11 : Int32} {wf_v18 : Int32} {wf_v21 : Int32} {wf_v23 : Int32} {wf_v31 : Int32} {wf_v34 : Int32} {wf_v36 : Int32} {wf_v44 : Int32} {wf_v47 : Int32} {wf_v49 : Int32} {wf_v54 : Int32} {wf_v60 : Int32} {wf_v63 : Int32} {wf_v65 : Int32} {wf_v69 : Int32} {wf_v70 : Int32} {wf_v71 : Int32} {wf_v77 : Int32} {wf_v82 : UInt64} {wf_r92 : Int32} {wf_v122 : UInt64} {wf_v126 : UInt64} (h0 : Heap) (n0 : Nat) (Z0 : n0 ≤ h0.size)  (wf_hv9 : p0 &&& (7 : Int32) = wf_v9) (wf_hv11 : wf_v9 - (3 : Int32) = wf_v11) (wf_hv18 : (Int32.toUInt32 p0 >>> ((3 : Int32) &&& 31).toUInt32).toInt32 = wf_v18) (wf_hv21 : wf_v18 &&& (7 : Int32) = wf_v21) (wf_hv23 : wf_v21 - (3 : Int32) = wf_v23) (wf_hv31 : (Int32.toUInt32 p0 >>> ((6 : Int32) &&& 31).toUInt32).toInt32 = wf_v31) (wf_hv34 : wf_v31 &&& (7 : Int32) = wf_v34) (wf_hv36 : wf_v34 - (3 : Int32) = wf_v36) (wf_hv44 : (Int32.toUInt32 p0 >>> ((9 : Int32) &&& 31).toUInt32).toInt32 = wf_v44) (wf_hv47 : wf_v44 &&& (7 : Int32) = wf_v47) (wf_hv49 : wf_v47 - (3 : Int32) = wf_v49) (wf_hv54 : p1 &&& (3 : Int32) = wf_v54) (wf_hv60 : wf_v54 + (1 : Int32) = wf_v60) (wf_hv63 : (Int32.toUInt32 p1 >>> ((2 : Int32) &&& 31).toUInt32).toInt32 = wf_v63) (wf_hv65 : wf_v63 &&& (3 : Int32) = wf_v65) (wf_hv69 : (4 : Int32) - wf_v54 = wf_v69) (wf_hy70 : wf_v69 ≠ 0) (wf_hv70 : wf_v65 % wf_v69 = wf_v70) (wf_hv71 : wf_v60 + wf_v70 = wf_v71) (wf_hv77 : p2 % (40 : Int32) = wf_v77) (wf_hn82 : Jvm.Free.Fl.NoNaN64 (FP.dmul (FP.i2d wf_v77) (4602678819172646912 : UInt64))) (wf_hv82 : FP.dmul (FP.i2d wf_v77) (4602678819172646912 : UInt64) = wf_v82) (wf_c92_bal_hlo : 0 ≤ wf_v54.toInt ∧ wf_v54.toInt < wf_v71.toInt ∧ wf_v71.toInt ≤ 4) (wf_c92_bal_hnn : ∀ k, Jvm.FP.Core.val64 (own_el (FP.i2d wf_v11) (FP.i2d wf_v23) (FP.i2d wf_v36) (FP.i2d wf_v49) k) ≠ .nan) (wf_c92_bal_hs : Jvm.Free.Fl.NoNaN64 (FP.dsub wf_v82 4607182418800017408)) (wf_hr92 : (own_r (FP.i2d wf_v11) (FP.i2d wf_v23) (FP.i2d wf_v36) (FP.i2d wf_v49) wf_v54 wf_v71 (FP.dsub wf_v82 4607182418800017408)) = wf_r92) (wf_hb100 : if_icmp.holds .eq wf_r92 (-1 : Int32) = false) (wf_hb107 : if_icmp.holds .lt wf_r92 wf_v54 = false) (wf_hb114 : if_icmp.holds .lt wf_r92 wf_v71 = true) (wf_hin122 : ¬ wf_r92 < 0 ∧ wf_r92 < (4 : Int32)) (wf_hel122 : ([(.double (FP.i2d wf_v11)), (.double (FP.i2d wf_v23)), (.double (FP.i2d wf_v36)), (.double (FP.i2d wf_v49))] : List Value).getD (Int32.toNatClampNeg wf_r92) (.double 0) = (.double wf_v122)) (wf_hn126 : Jvm.Free.Fl.NoNaN64 (FP.dsub wf_v82 4607182418800017408)) (wf_hv126 : FP.dsub wf_v82 4607182418800017408 = wf_v126) (wf_hb128 : ifCond.holds .gt (Op.cmpValue (FP.dcmp wf_v122 wf_v126) .l) = true) (wf_c143_ok0_hs : Jvm.Free.Fl.NoNaN64 (FP.dsub wf_v82 4607182418800017408)) (wf_c143_ok0_hA : wf_v54.toInt ≤ 0 → 0 < wf_v71.toInt → wf_r92 = -1 → ifCond.holds .gt (Op.cmpValue (FP.dcmp (FP.i2d wf_v11) (FP.dsub wf_v82 4607182418800017408)) .g) = false) (wf_c143_ok0_hR : wf_r92 ≠ -1 → 0 ≤ wf_r92.toInt ∧ wf_r92.toInt < 4) (wf_c143_ok0_hB : wf_v54.toInt ≤ 0 → 0 < wf_v71.toInt → wf_r92 ≠ -1 → ifCond.holds .gt (Op.cmpValue (FP.dcmp (FP.i2d wf_v11) (own_el (FP.i2d wf_v11) (FP.i2d wf_v23) (FP.i2d wf_v36) (FP.i2d wf_v49) wf_r92.toInt)) .g) = false ∧ (0 < wf_r92.toInt → ifCond.holds .ge (Op.cmpValue (FP.dcmp (FP.i2d wf_v11) (own_el (FP.i2d wf_v11) (FP.i2d wf_v23) (FP.i2d wf_v36) (FP.i2d wf_v49) wf_r92.toInt)) .g) = false)) (wf_c159_ok1_hs : Jvm.Free.Fl.NoNaN64 (FP.dsub wf_v82 4607182418800017408)) (wf_c159_ok1_hA : wf_v54.toInt ≤ 1 → 1 < wf_v71.toInt → wf_r92 = -1 → ifCond.holds .gt (Op.cmpValue (FP.dcmp (FP.i2d wf_v23) (FP.dsub wf_v82 4607182418800017408)) .g) = false) (wf_c159_ok1_hR : wf_r92 ≠ -1 → 0 ≤ wf_r92.toInt ∧ wf_r92.toInt < 4) (wf_c159_ok1_hB : wf_v54.toInt ≤ 1 → 1 < wf_v71.toInt → wf_r92 ≠ -1 → ifCond.holds .gt (Op.cmpValue (FP.dcmp (FP.i2d wf_v23) (own_el (FP.i2d wf_v11) (FP.i2d wf_v23) (FP.i2d wf_v36) (FP.i2d wf_v49) wf_r92.toInt)) .g) = false ∧ (1 < wf_r92.toInt → ifCond.holds .ge (Op.cmpValue (FP.dcmp (FP.i2d wf_v23) (own_el (FP.i2d wf_v11) (FP.i2d wf_v23) (FP.i2d wf_v36) (FP.i2d wf_v49) wf_r92.toInt)) .g) = false)) (wf_c175_ok2_hs : Jvm.Free.Fl.NoNaN64 (FP.dsub wf_v82 4607182418800017408)) (wf_c175_ok2_hA : wf_v54.toInt ≤ 2 → 2 < wf_v71.toInt → wf_r92 = -1 → ifCond.holds .gt (Op.cmpValue (FP.dcmp (FP.i2d wf_v36) (FP.dsub wf_v82 4607182418800017408)) .g) = false) (wf_c175_ok2_hR : wf_r92 ≠ -1 → 0 ≤ wf_r92.toInt ∧ wf_r92.toInt < 4) (wf_c175_ok2_hB : wf_v54.toInt ≤ 2 → 2 < wf_v71.toInt → wf_r92 ≠ -1 → ifCond.holds .gt (Op.cmpValue (FP.dcmp (FP.i2d wf_v36) (own_el (FP.i2d wf_v11) (FP.i2d wf_v23) (FP.i2d wf_v36) (FP.i2d wf_v49) wf_r92.toInt)) .g) = false ∧ (2 < wf_r92.toInt → ifCond.holds .ge (Op.cmpValue (FP.dcmp (FP.i2d wf_v36) (own_el (FP.i2d wf_v11) (FP.i2d wf_v23) (FP.i2d wf_v36) (FP.i2d wf_v49) wf_r92.toInt)) .g) = false)) (wf_c191_ok3_hs : Jvm.Free.Fl.NoNaN64 (FP.dsub wf_v82 4607182418800017408)) (wf_c191_ok3_hA : wf_v54.toInt ≤ 3 → 3 < wf_v71.toInt → wf_r92 = -1 → ifCond.holds .gt (Op.cmpValue (FP.dcmp (FP.i2d wf_v49) (FP.dsub wf_v82 4607182418800017408)) .g) = false) (wf_c191_ok3_hR : wf_r92 ≠ -1 → 0 ≤ wf_r92.toInt ∧ wf_r92.toInt < 4) (wf_c191_ok3_hB : wf_v54.toInt ≤ 3 → 3 < wf_v71.toInt → wf_r92 ≠ -1 → ifCond.holds .gt (Op.cmpValue (FP.dcmp (FP.i2d wf_v49) (own_el (FP.i2d wf_v11) (FP.i2d wf_v23) (FP.i2d wf_v36) (FP.i2d wf_v49) wf_r92.toInt)) .g) = false ∧ (3 < wf_r92.toInt → ifCond.holds .ge (Op.cmpValue (FP.dcmp (FP.i2d wf_v49) (own_el (FP.i2d wf_v11) (FP.i2d wf_v23) (FP.i2d wf_v36) (FP.i2d wf_v49) wf_r92.toInt)) .g) = false)) :
    MetFree l x (head1 (Jvm.Cond.code x code maxLocals ret :: ws) room_1) (fun a U => a = #[(.int p0), (.int p1), (.int p2)] ∧ Z.Warmed39 U.vm ∧ U.heap = h0) (fun _ _ _ _ _ => True) (fun _ U o U' => ∃ v L, o = .returned v ∧ own_Q0 n0 v U'.heap L ∧ FrameEnd U o U' L room_1.cells room_1.slots) := by
  refine MetFree.of_bodySF (plainFor_of_name own_pn_com_example_libcredal_libcredal_core_OutwardRoundingBalancingPinLaw) hisR ?_
  intro p e s m args below meth c s₁ Bd hml0 hP hK
  obtain ⟨rfl, hZ, hh⟩ := hP
  have hx := Bd.exec
  have hby := Bd.bytes
  have hml : c.maxLocals = 9 := hml0
  have hown : s.vm.findClass "com/example/libcredal/libcredal/core/OutwardRoundingBalancingPinLaw" = some m.cls := findClass_of_methodNamed Bd.named
  have hnm := (name_of_methodNamed Bd.named Bd.method).1
  have X0 : Stand p l e room_1 s m #[(.int p0), (.int p1), (.int p2)] below meth c s₁ [] 0 0 := Stand.of_body Bd
  have e0 : s₁.heap = h0 := by rw [← hh, Bd.state]; rfl
  have N0 := Fr.nil n0
  have pre0 : ∀ t, Steps p.tables e below (s₁.setTop (mkF m 0 #[.val (.int p0), .val (.int p1), .val (.int p2), .unset, .unset, .unset, .unset, .unset, .unset] [])) t → Steps p.tables e below (s₁.setTop (entryFrame m #[(.int p0), (.int p1), (.int p2)] maxLocals)) t := fun t k => castTop (own_ef_wf m p0 p1 p2) k
  obtain ⟨Twf1, hwf1, kwf1, bwf1, Xwf1, ewf1, Ewf1, Gwf1, Vwf1, stwf1⟩ := own_newD (L := #[.val (.int p0), .val (.int p1), .val (.int p2), .unset, .unset, .unset, .unset, .unset, .unset]) (S := []) X0 hx hZ (hw _ (List.mem_of_getElem? (i := 0) rfl)) e0 (z := (4 : Int32)) 4 (by decide) (by decide) (by decide) (by decide) (by decide) (hb hby at_1) (pc' := 3) rfl
  have g_bwf1 : n0 ≤ bwf1 := Nat.le_trans Z0 (Nat.le_of_eq Gwf1.symm)
  have sz_bwf1 : h0.size ≤ bwf1 := Nat.le_trans (Keep.refl h0 []).1 (Nat.le_of_eq Gwf1.symm)
  have Zwf1 : n0 ≤ hwf1.size := Nat.le_trans Z0 Ewf1.1
  have KKwf1 := (Keep.refl h0 []).ext Ewf1
  have V_bwf1 : Arv Z hwf1 bwf1 kwf1 .double (4 : Int32) [(.double 0), (.double 0), (.double 0), (.double 0)] (.double 0) := Vwf1
  obtain ⟨Twf2, hwf2, Xwf2, ewf2, Wwf2, Vwf2, stwf2⟩ := own_stD (L := #[.val (.int p0), .val (.int p1), .val (.int p2), .val (.ref bwf1), .unset, .unset, .unset, .unset, .unset]) (S := []) Xwf1 hx hZ ewf1 V_bwf1 (j := (0 : Int32)) (x := (FP.i2d wf_v11)) (by decide) 0 (by decide) (Nat.le_of_ble_eq_true rfl) (hb hby at_13) (pc' := 14) rfl
  have Zwf2 : n0 ≤ hwf2.size := Nat.le_trans Zwf1 (Nat.le_of_eq Wwf2.size.symm)
  have KKwf2 := KKwf1.wr Wwf2 (Or.inr sz_bwf1)
  have V_bwf1_wf2 : Arv Z hwf2 bwf1 kwf1 .double (4 : Int32) [(.double (FP.i2d wf_v11)), (.double 0), (.double 0), (.double 0)] (.double 0) := Vwf2
  have Nwf2 := Fr.snoc Xwf2 N0 g_bwf1
  obtain ⟨Twf3, hwf3, Xwf3, ewf3, Wwf3, Vwf3, stwf3⟩ := own_stD (L := #[.val (.int p0), .val (.int p1), .val (.int p2), .val (.ref bwf1), .unset, .unset, .unset, .unset, .unset]) (S := []) Xwf2 hx hZ ewf2 V_bwf1_wf2 (j := (1 : Int32)) (x := (FP.i2d wf_v23)) (by decide) 1 (by decide) (Nat.le_of_ble_eq_true rfl) (hb hby at_25) (pc' := 26) rfl
  have Zwf3 : n0 ≤ hwf3.size := Nat.le_trans Zwf2 (Nat.le_of_eq Wwf3.size.symm)
  have KKwf3 := KKwf2.wr Wwf3 (Or.inr sz_bwf1)
  have V_bwf1_wf3 : Arv Z hwf3 bwf1 kwf1 .double (4 : Int32) [(.double (FP.i2d wf_v11)), (.double (FP.i2d wf_v23)), (.double 0), (.double 0)] (.double 0) := Vwf3
  have Nwf3 := Fr.snoc Xwf3 Nwf2 g_bwf1
  obtain ⟨Twf4, hwf4, Xwf4, ewf4, Wwf4, Vwf4, stwf4⟩ := own_stD (L := #[.val (.int p0), .val (.int p1), .val (.int p2), .val (.ref bwf1), .unset, .unset, .unset, .unset, .unset]) (S := []) Xwf3 hx hZ ewf3 V_bwf1_wf3 (j := (2 : Int32)) (x := (FP.i2d wf_v36)) (by decide) 2 (by decide) (Nat.le_of_ble_eq_true rfl) (hb hby at_38) (pc' := 39) rfl
  have Zwf4 : n0 ≤ hwf4.size := Nat.le_trans Zwf3 (Nat.le_of_eq Wwf4.size.symm)
  have KKwf4 := KKwf3.wr Wwf4 (Or.inr sz_bwf1)
  have V_bwf1_wf4 : Arv Z hwf4 bwf1 kwf1 .double (4 : Int32) [(.double (FP.i2d wf_v11)), (.double (FP.i2d wf_v23)), (.double (FP.i2d wf_v36)), (.double 0)] (.double 0) := Vwf4
  have Nwf4 := Fr.snoc Xwf4 Nwf3 g_bwf1
  obtain ⟨Twf5, hwf5, Xwf5, ewf5, Wwf5, Vwf5, stwf5⟩ := own_stD (L := #[.val (.int p0), .val (.int p1), .val (.int p2), .val (.ref bwf1), .unset, .unset, .unset, .unset, .unset]) (S := []) Xwf4 hx hZ ewf4 V_bwf1_wf4 (j := (3 : Int32)) (x := (FP.i2d wf_v49)) (by decide) 3 (by decide) (Nat.le_of_ble_eq_true rfl) (hb hby at_51) (pc' := 52) rfl
  have Zwf5 : n0 ≤ hwf5.size := Nat.le_trans Zwf4 (Nat.le_of_eq Wwf5.size.symm)
  have KKwf5 := KKwf4.wr Wwf5 (Or.inr sz_bwf1)
  have V_bwf1_wf5 : Arv Z hwf5 bwf1 kwf1 .double (4 : Int32) [(.double (FP.i2d wf_v11)), (.double (FP.i2d wf_v23)), (.double (FP.i2d wf_v36)), (.double (FP.i2d wf_v49))] (.double 0) := Vwf5
  have Nwf5 := Fr.snoc Xwf5 Nwf4 g_bwf1
  obtain ⟨_, _, ⟨Twf6, Lwf6, kwf6, nwf6⟩, -, Xwf6, ⟨Lcwf6, hQwf6, lwf6, ywf6, zwf6⟩, stwf6⟩ := Jvm.LawKit.callS Xwf5 hx (y := (⟨"com/example/libcredal/libcredal/core/OutwardRounding", "balancing", "([DIID)I"⟩ : MethodName)) hown (mvT hZ (hw _ (List.mem_of_getElem? (i := 2) rfl))) (mvT hZ (hw _ (List.mem_of_getElem? (i := 3) rfl))) (mvT hZ (hw _ (List.mem_of_getElem? (i := 4) rfl))) (mvT hZ (hw _ (List.mem_of_getElem? (i := 5) rfl))) (by decide) (backOf (W := 0) (own_rm_bal l Z a0 hw [] bwf1 (FP.i2d wf_v11) (FP.i2d wf_v23) (FP.i2d wf_v36) (FP.i2d wf_v49) wf_v54 wf_v71 wf_v82 hwf5 n0 Zwf5 V_bwf1_wf5 wf_c92_bal_hlo wf_c92_bal_hnn wf_c92_bal_hs) hZ (hw _ (List.mem_of_getElem? (i := 5) rfl)) (hw _ (List.mem_of_getElem? (i := 4) rfl)) (by decide) (by decide)) (g := (mkF m 92 #[.val (.int p0), .val (.int p1), .val (.int p2), .val (.ref bwf1), .val (.int wf_v54), .val (.int wf_v71), .val (.double wf_v82), .second, .unset] [(.double wf_v82), (.int wf_v71), (.int wf_v54), (.ref bwf1)])) rfl (by rw [hml]; rfl) (argsL := [(.ref bwf1), (.int wf_v54), (.int wf_v71), (.double wf_v82)]) (rest := []) (lenOf own_pd_285bDIID29I rfl) rfl (by show 2 * 0 + _ ≤ _; exact Nat.le_of_eq rfl) (hb hby at_92) (fun _ _ => ⟨rfl, ewf5, (by decide : 1 + 0 ≤ _), (by decide : 4 + 0 ≤ _)⟩)
  dsimp only [Pt.U, Pt.locs, Pt.cells, Pt.slots] at Xwf6 lwf6 ywf6 zwf6 stwf6 hQwf6
  rw [lwf6, ywf6, zwf6] at Xwf6
  obtain ⟨vwf6q, Nwf6q, ewf6⟩ := hQwf6
  rw [wf_hr92] at vwf6q
  subst vwf6q
  have Nwf6 := Fr.app Nwf5 Nwf6q
  obtain ⟨_, _, ⟨Twf7, Lwf7, kwf7, nwf7⟩, -, Xwf7, ⟨Lcwf7, hQwf7, lwf7, ywf7, zwf7⟩, stwf7⟩ := Jvm.LawKit.callS Xwf6 hx (y := (⟨"com/example/libcredal/libcredal/core/OutwardRoundingBalancingPinLaw", "okAt", "([DIIIID)Z"⟩ : MethodName)) hown (mvT hZ (hw _ (List.mem_of_getElem? (i := 6) rfl))) (mvT hZ (hw _ (List.mem_of_getElem? (i := 7) rfl))) (mvT hZ (hw _ (List.mem_of_getElem? (i := 8) rfl))) (mvT hZ (hw _ (List.mem_of_getElem? (i := 9) rfl))) (by decide) (backOf (W := 0) (own_rm_ok0 l Z a0 hw [] bwf1 (FP.i2d wf_v11) (FP.i2d wf_v23) (FP.i2d wf_v36) (FP.i2d wf_v49) wf_v54 wf_v71 wf_r92 wf_v82 hwf5 n0 Zwf5 V_bwf1_wf5 wf_c143_ok0_hs wf_c143_ok0_hA wf_c143_ok0_hR wf_c143_ok0_hB) hZ (hw _ (List.mem_of_getElem? (i := 9) rfl)) (hw _ (List.mem_of_getElem? (i := 8) rfl)) (by decide) (by decide)) (g := (mkF m 143 #[.val (.int p0), .val (.int p1), .val (.int p2), .val (.ref bwf1), .val (.int wf_v54), .val (.int wf_v71), .val (.double wf_v82), .second, .val (.int wf_r92)] [(.double wf_v82), (.int wf_r92), (.int wf_v71), (.int wf_v54), (.int (0 : Int32)), (.ref bwf1)])) rfl (by rw [hml]; rfl) (argsL := [(.ref bwf1), (.int (0 : Int32)), (.int wf_v54), (.int wf_v71), (.int wf_r92), (.double wf_v82)]) (rest := []) (lenOf own_pd_285bDIIIID29Z rfl) rfl (by show 2 * 0 + _ ≤ _; exact Nat.le_of_eq rfl) (hb hby at_143) (fun _ _ => ⟨rfl, ewf6, (by decide : 1 + 0 ≤ _), (by decide : 4 + 0 ≤ _)⟩)
  dsimp only [Pt.U, Pt.locs, Pt.cells, Pt.slots] at Xwf7 lwf7 ywf7 zwf7 stwf7 hQwf7
  rw [lwf7, ywf7, zwf7] at Xwf7
  obtain ⟨rfl, Nwf7q, ewf7⟩ := hQwf7
  have Nwf7 := Fr.app Nwf6 Nwf7q
  obtain ⟨_, _, ⟨Twf8, Lwf8, kwf8, nwf8⟩, -, Xwf8, ⟨Lcwf8, hQwf8, lwf8, ywf8, zwf8⟩, stwf8⟩ := Jvm.LawKit.callS Xwf7 hx (y := (⟨"com/example/libcredal/libcredal/core/OutwardRoundingBalancingPinLaw", "okAt", "([DIIIID)Z"⟩ : MethodName)) hown (mvT hZ (hw _ (List.mem_of_getElem? (i := 6) rfl))) (mvT hZ (hw _ (List.mem_of_getElem? (i := 7) rfl))) (mvT hZ (hw _ (List.mem_of_getElem? (i := 8) rfl))) (mvT hZ (hw _ (List.mem_of_getElem? (i := 9) rfl))) (by decide) (backOf (W := 0) (own_rm_ok1 l Z a0 hw [] bwf1 (FP.i2d wf_v11) (FP.i2d wf_v23) (FP.i2d wf_v36) (FP.i2d wf_v49) wf_v54 wf_v71 wf_r92 wf_v82 hwf5 n0 Zwf5 V_bwf1_wf5 wf_c159_ok1_hs wf_c159_ok1_hA wf_c159_ok1_hR wf_c159_ok1_hB) hZ (hw _ (List.mem_of_getElem? (i := 9) rfl)) (hw _ (List.mem_of_getElem? (i := 8) rfl)) (by decide) (by decide)) (g := (mkF m 159 #[.val (.int p0), .val (.int p1), .val (.int p2), .val (.ref bwf1), .val (.int wf_v54), .val (.int wf_v71), .val (.double wf_v82), .second, .val (.int wf_r92)] [(.double wf_v82), (.int wf_r92), (.int wf_v71), (.int wf_v54), (.int (1 : Int32)), (.ref bwf1)])) rfl (by rw [hml]; rfl) (argsL := [(.ref bwf1), (.int (1 : Int32)), (.int wf_v54), (.int wf_v71), (.int wf_r92), (.double wf_v82)]) (rest := []) (lenOf own_pd_285bDIIIID29Z rfl) rfl (by show 2 * 0 + _ ≤ _; exact Nat.le_of_eq rfl) (hb hby at_159) (fun _ _ => ⟨rfl, ewf7, (by decide : 1 + 0 ≤ _), (by decide : 4 + 0 ≤ _)⟩)
  dsimp only [Pt.U, Pt.locs, Pt.cells, Pt.slots] at Xwf8 lwf8 ywf8 zwf8 stwf8 hQwf8
  rw [lwf8, ywf8, zwf8] at Xwf8
  obtain ⟨rfl, Nwf8q, ewf8⟩ := hQwf8
  have Nwf8 := Fr.app Nwf7 Nwf8q
  obtain ⟨_, _, ⟨Twf9, Lwf9, kwf9, nwf9⟩, -, Xwf9, ⟨Lcwf9, hQwf9, lwf9, ywf9, zwf9⟩, stwf9⟩ := Jvm.LawKit.callS Xwf8 hx (y := (⟨"com/example/libcredal/libcredal/core/OutwardRoundingBalancingPinLaw", "okAt", "([DIIIID)Z"⟩ : MethodName)) hown (mvT hZ (hw _ (List.mem_of_getElem? (i := 6) rfl))) (mvT hZ (hw _ (List.mem_of_getElem? (i := 7) rfl))) (mvT hZ (hw _ (List.mem_of_getElem? (i := 8) rfl))) (mvT hZ (hw _ (List.mem_of_getElem? (i := 9) rfl))) (by decide) (backOf (W := 0) (own_rm_ok2 l Z a0 hw [] bwf1 (FP.i2d wf_v11) (FP.i2d wf_v23) (FP.i2d wf_v36) (FP.i2d wf_v49) wf_v54 wf_v71 wf_r92 wf_v82 hwf5 n0 Zwf5 V_bwf1_wf5 wf_c175_ok2_hs wf_c175_ok2_hA wf_c175_ok2_hR wf_c175_ok2_hB) hZ (hw _ (List.mem_of_getElem? (i := 9) rfl)) (hw _ (List.mem_of_getElem? (i := 8) rfl)) (by decide) (by decide)) (g := (mkF m 175 #[.val (.int p0), .val (.int p1), .val (.int p2), .val (.ref bwf1), .val (.int wf_v54), .val (.int wf_v71), .val (.double wf_v82), .second, .val (.int wf_r92)] [(.double wf_v82), (.int wf_r92), (.int wf_v71), (.int wf_v54), (.int (2 : Int32)), (.ref bwf1)])) rfl (by rw [hml]; rfl) (argsL := [(.ref bwf1), (.int (2 : Int32)), (.int wf_v54), (.int wf_v71), (.int wf_r92), (.double wf_v82)]) (rest := []) (lenOf own_pd_285bDIIIID29Z rfl) rfl (by show 2 * 0 + _ ≤ _; exact Nat.le_of_eq rfl) (hb hby at_175) (fun _ _ => ⟨rfl, ewf8, (by decide : 1 + 0 ≤ _), (by decide : 4 + 0 ≤ _)⟩)
  dsimp only [Pt.U, Pt.locs, Pt.cells, Pt.slots] at Xwf9 lwf9 ywf9 zwf9 stwf9 hQwf9
  rw [lwf9, ywf9, zwf9] at Xwf9
  obtain ⟨rfl, Nwf9q, ewf9⟩ := hQwf9
  have Nwf9 := Fr.app Nwf8 Nwf9q
  obtain ⟨_, _, ⟨Twf10, Lwf10, kwf10, nwf10⟩, -, Xwf10, ⟨Lcwf10, hQwf10, lwf10, ywf10, zwf10⟩, stwf10⟩ := Jvm.LawKit.callS Xwf9 hx (y := (⟨"com/example/libcredal/libcredal/core/OutwardRoundingBalancingPinLaw", "okAt", "([DIIIID)Z"⟩ : MethodName)) hown (mvT hZ (hw _ (List.mem_of_getElem? (i := 6) rfl))) (mvT hZ (hw _ (List.mem_of_getElem? (i := 7) rfl))) (mvT hZ (hw _ (List.mem_of_getElem? (i := 8) rfl))) (mvT hZ (hw _ (List.mem_of_getElem? (i := 9) rfl))) (by decide) (backOf (W := 0) (own_rm_ok3 l Z a0 hw [] bwf1 (FP.i2d wf_v11) (FP.i2d wf_v23) (FP.i2d wf_v36) (FP.i2d wf_v49) wf_v54 wf_v71 wf_r92 wf_v82 hwf5 n0 Zwf5 V_bwf1_wf5 wf_c191_ok3_hs wf_c191_ok3_hA wf_c191_ok3_hR wf_c191_ok3_hB) hZ (hw _ (List.mem_of_getElem? (i := 9) rfl)) (hw _ (List.mem_of_getElem? (i := 8) rfl)) (by decide) (by decide)) (g := (mkF m 191 #[.val (.int p0), .val (.int p1), .val (.int p2), .val (.ref bwf1), .val (.int wf_v54), .val (.int wf_v71), .val (.double wf_v82), .second, .val (.int wf_r92)] [(.double wf_v82), (.int wf_r92), (.int wf_v71), (.int wf_v54), (.int (3 : Int32)), (.ref bwf1)])) rfl (by rw [hml]; rfl) (argsL := [(.ref bwf1), (.int (3 : Int32)), (.int wf_v54), (.int wf_v71), (.int wf_r92), (.double wf_v82)]) (rest := []) (lenOf own_pd_285bDIIIID29Z rfl) rfl (by show 2 * 0 + _ ≤ _; exact Nat.le_of_eq rfl) (hb hby at_191) (fun _ _ => ⟨rfl, ewf9, (by decide : 1 + 0 ≤ _), (by decide : 4 + 0 ≤ _)⟩)
  dsimp only [Pt.U, Pt.locs, Pt.cells, Pt.slots] at Xwf10 lwf10 ywf10 zwf10 stwf10 hQwf10
  rw [lwf10, ywf10, zwf10] at Xwf10
  obtain ⟨rfl, Nwf10q, ewf10⟩ := hQwf10
  have Nwf10 := Fr.app Nwf9 Nwf10q
  obtain ⟨fs, hr, hrun, hended, hW, hsame⟩ := Xwf10.leave (v := some (.int (1 : Int32))) (fun h => by rw [Bd.returns] at h; cases h)
  refine ⟨_, _, pre0 _ ?_, hrun, hended, _, _, rfl, ?_, ⟨_, rfl⟩, hW, hsame.mono (by decide) (by decide)⟩
  · refine own_s_iconst X0.here hx (hb hby at_0) (pc' := 1) rfl (v := (4 : Int32)) (by decide) ?_
    refine stwf1 _ ?_
    refine own_s_astoreN Xwf1.here hx (hb hby at_3) (pc' := 4) rfl rfl (L' := #[.val (.int p0), .val (.int p1), .val (.int p2), .val (.ref bwf1), .unset, .unset, .unset, .unset, .unset]) rfl ?_
    refine own_s_aloadN Xwf1.here hx (hb hby at_4) (pc' := 5) rfl rfl rfl ?_
    refine own_s_iconst Xwf1.here hx (hb hby at_5) (pc' := 6) rfl (v := (0 : Int32)) (by decide) ?_
    refine own_s_iloadN Xwf1.here hx (hb hby at_6) (pc' := 7) rfl rfl ?_
    refine own_s_bipush Xwf1.here hx (hb hby at_7) (pc' := 9) rfl (v := (7 : Int32)) (by decide) ?_
    refine own_s_iand Xwf1.here hx (hb hby at_9) (pc' := 10) rfl (v := wf_v9) wf_hv9 ?_
    refine own_s_iconst Xwf1.here hx (hb hby at_10) (pc' := 11) rfl (v := (3 : Int32)) (by decide) ?_
    refine own_s_isub Xwf1.here hx (hb hby at_11) (pc' := 12) rfl (v := wf_v11) wf_hv11 ?_
    refine own_s_i2d Xwf1.here hx (hb hby at_12) (pc' := 13) rfl (v := (FP.i2d wf_v11)) rfl ?_
    refine stwf2 _ ?_
    refine own_s_aloadN Xwf2.here hx (hb hby at_14) (pc' := 15) rfl rfl rfl ?_
    refine own_s_iconst Xwf2.here hx (hb hby at_15) (pc' := 16) rfl (v := (1 : Int32)) (by decide) ?_
    refine own_s_iloadN Xwf2.here hx (hb hby at_16) (pc' := 17) rfl rfl ?_
    refine own_s_iconst Xwf2.here hx (hb hby at_17) (pc' := 18) rfl (v := (3 : Int32)) (by decide) ?_
    refine own_s_iushr Xwf2.here hx (hb hby at_18) (pc' := 19) rfl (v := wf_v18) wf_hv18 ?_
    refine own_s_bipush Xwf2.here hx (hb hby at_19) (pc' := 21) rfl (v := (7 : Int32)) (by decide) ?_
    refine own_s_iand Xwf2.here hx (hb hby at_21) (pc' := 22) rfl (v := wf_v21) wf_hv21 ?_
    refine own_s_iconst Xwf2.here hx (hb hby at_22) (pc' := 23) rfl (v := (3 : Int32)) (by decide) ?_
    refine own_s_isub Xwf2.here hx (hb hby at_23) (pc' := 24) rfl (v := wf_v23) wf_hv23 ?_
    refine own_s_i2d Xwf2.here hx (hb hby at_24) (pc' := 25) rfl (v := (FP.i2d wf_v23)) rfl ?_
    refine stwf3 _ ?_
    refine own_s_aloadN Xwf3.here hx (hb hby at_26) (pc' := 27) rfl rfl rfl ?_
    refine own_s_iconst Xwf3.here hx (hb hby at_27) (pc' := 28) rfl (v := (2 : Int32)) (by decide) ?_
    refine own_s_iloadN Xwf3.here hx (hb hby at_28) (pc' := 29) rfl rfl ?_
    refine own_s_bipush Xwf3.here hx (hb hby at_29) (pc' := 31) rfl (v := (6 : Int32)) (by decide) ?_
    refine own_s_iushr Xwf3.here hx (hb hby at_31) (pc' := 32) rfl (v := wf_v31) wf_hv31 ?_
    refine own_s_bipush Xwf3.here hx (hb hby at_32) (pc' := 34) rfl (v := (7 : Int32)) (by decide) ?_
    refine own_s_iand Xwf3.here hx (hb hby at_34) (pc' := 35) rfl (v := wf_v34) wf_hv34 ?_
    refine own_s_iconst Xwf3.here hx (hb hby at_35) (pc' := 36) rfl (v := (3 : Int32)) (by decide) ?_
    refine own_s_isub Xwf3.here hx (hb hby at_36) (pc' := 37) rfl (v := wf_v36) wf_hv36 ?_
    refine own_s_i2d Xwf3.here hx (hb hby at_37) (pc' := 38) rfl (v := (FP.i2d wf_v36)) rfl ?_
    refine stwf4 _ ?_
    refine own_s_aloadN Xwf4.here hx (hb hby at_39) (pc' := 40) rfl rfl rfl ?_
    refine own_s_iconst Xwf4.here hx (hb hby at_40) (pc' := 41) rfl (v := (3 : Int32)) (by decide) ?_
    refine own_s_iloadN Xwf4.here hx (hb hby at_41) (pc' := 42) rfl rfl ?_
    refine own_s_bipush Xwf4.here hx (hb hby at_42) (pc' := 44) rfl (v := (9 : Int32)) (by decide) ?_
    refine own_s_iushr Xwf4.here hx (hb hby at_44) (pc' := 45) rfl (v := wf_v44) wf_hv44 ?_
    refine own_s_bipush Xwf4.here hx (hb hby at_45) (pc' := 47) rfl (v := (7 : Int32)) (by decide) ?_
    refine own_s_iand Xwf4.here hx (hb hby at_47) (pc' := 48) rfl (v := wf_v47) wf_hv47 ?_
    refine own_s_iconst Xwf4.here hx (hb hby at_48) (pc' := 49) rfl (v := (3 : Int32)) (by decide) ?_
    refine own_s_isub Xwf4.here hx (hb hby at_49) (pc' := 50) rfl (v := wf_v49) wf_hv49 ?_
    refine own_s_i2d Xwf4.here hx (hb hby at_50) (pc' := 51) rfl (v := (FP.i2d wf_v49)) rfl ?_
    refine stwf5 _ ?_
    refine own_s_iloadN Xwf5.here hx (hb hby at_52) (pc' := 53) rfl rfl ?_
    refine own_s_iconst Xwf5.here hx (hb hby at_53) (pc' := 54) rfl (v := (3 : Int32)) (by decide) ?_
    refine own_s_iand Xwf5.here hx (hb hby at_54) (pc' := 55) rfl (v := wf_v54) wf_hv54 ?_
    refine own_s_istore Xwf5.here hx (hb hby at_55) (pc' := 57) rfl (L' := #[.val (.int p0), .val (.int p1), .val (.int p2), .val (.ref bwf1), .val (.int wf_v54), .unset, .unset, .unset, .unset]) rfl ?_
    refine own_s_iload Xwf5.here hx (hb hby at_57) (pc' := 59) rfl rfl ?_
    refine own_s_iconst Xwf5.here hx (hb hby at_59) (pc' := 60) rfl (v := (1 : Int32)) (by decide) ?_
    refine own_s_iadd Xwf5.here hx (hb hby at_60) (pc' := 61) rfl (v := wf_v60) wf_hv60 ?_
    refine own_s_iloadN Xwf5.here hx (hb hby at_61) (pc' := 62) rfl rfl ?_
    refine own_s_iconst Xwf5.here hx (hb hby at_62) (pc' := 63) rfl (v := (2 : Int32)) (by decide) ?_
    refine own_s_iushr Xwf5.here hx (hb hby at_63) (pc' := 64) rfl (v := wf_v63) wf_hv63 ?_
    refine own_s_iconst Xwf5.here hx (hb hby at_64) (pc' := 65) rfl (v := (3 : Int32)) (by decide) ?_
    refine own_s_iand Xwf5.here hx (hb hby at_65) (pc' := 66) rfl (v := wf_v65) wf_hv65 ?_
    refine own_s_iconst Xwf5.here hx (hb hby at_66) (pc' := 67) rfl (v := (4 : Int32)) (by decide) ?_
    refine own_s_iload Xwf5.here hx (hb hby at_67) (pc' := 69) rfl rfl ?_
    refine own_s_isub Xwf5.here hx (hb hby at_69) (pc' := 70) rfl (v := wf_v69) wf_hv69 ?_
    refine own_s_irem Xwf5.here hx (hb hby at_70) (pc' := 71) rfl wf_hy70 (v := wf_v70) wf_hv70 ?_
    refine own_s_iadd Xwf5.here hx (hb hby at_71) (pc' := 72) rfl (v := wf_v71) wf_hv71 ?_
    refine own_s_istore Xwf5.here hx (hb hby at_72) (pc' := 74) rfl (L' := #[.val (.int p0), .val (.int p1), .val (.int p2), .val (.ref bwf1), .val (.int wf_v54), .val (.int wf_v71), .unset, .unset, .unset]) rfl ?_
    refine own_s_iloadN Xwf5.here hx (hb hby at_74) (pc' := 75) rfl rfl ?_
    refine own_s_bipush Xwf5.here hx (hb hby at_75) (pc' := 77) rfl (v := (40 : Int32)) (by decide) ?_
    refine own_s_irem Xwf5.here hx (hb hby at_77) (pc' := 78) rfl (by decide) (v := wf_v77) wf_hv77 ?_
    refine own_s_i2d Xwf5.here hx (hb hby at_78) (pc' := 79) rfl (v := (FP.i2d wf_v77)) rfl ?_
    refine Xwf5.ldc2DoubleC hx hown (mvT hZ (hw _ (List.mem_of_getElem? (i := 1) rfl))) (g := (mkF m 79 #[.val (.int p0), .val (.int p1), .val (.int p2), .val (.ref bwf1), .val (.int wf_v54), .val (.int wf_v71), .unset, .unset, .unset] [(.double (FP.i2d wf_v77))])) rfl (hb hby at_79) _ ?_
    show Steps p.tables e below (Twf5.setTop (mkF m 82 #[.val (.int p0), .val (.int p1), .val (.int p2), .val (.ref bwf1), .val (.int wf_v54), .val (.int wf_v71), .unset, .unset, .unset] [(.double (4602678819172646912 : UInt64)), (.double (FP.i2d wf_v77))])) _
    refine own_s_dmul Xwf5.here hx (hb hby at_82) (pc' := 83) rfl wf_hn82 (v := wf_v82) wf_hv82 ?_
    refine own_s_dstore Xwf5.here hx (hb hby at_83) (pc' := 85) rfl (L' := #[.val (.int p0), .val (.int p1), .val (.int p2), .val (.ref bwf1), .val (.int wf_v54), .val (.int wf_v71), .val (.double wf_v82), .second, .unset]) rfl ?_
    refine own_s_aloadN Xwf5.here hx (hb hby at_85) (pc' := 86) rfl rfl rfl ?_
    refine own_s_iload Xwf5.here hx (hb hby at_86) (pc' := 88) rfl rfl ?_
    refine own_s_iload Xwf5.here hx (hb hby at_88) (pc' := 90) rfl rfl ?_
    refine own_s_dload Xwf5.here hx (hb hby at_90) (pc' := 92) rfl rfl ?_
    refine stwf6 _ ?_
    show Steps p.tables e below (Twf6.setTop (mkF m 95 #[.val (.int p0), .val (.int p1), .val (.int p2), .val (.ref bwf1), .val (.int wf_v54), .val (.int wf_v71), .val (.double wf_v82), .second, .unset] [(.int wf_r92)])) _
    refine own_s_istore Xwf6.here hx (hb hby at_95) (pc' := 97) rfl (L' := #[.val (.int p0), .val (.int p1), .val (.int p2), .val (.ref bwf1), .val (.int wf_v54), .val (.int wf_v71), .val (.double wf_v82), .second, .val (.int wf_r92)]) rfl ?_
    refine own_s_iload Xwf6.here hx (hb hby at_97) (pc' := 99) rfl rfl ?_
    refine own_s_iconst Xwf6.here hx (hb hby at_99) (pc' := 100) rfl (v := (-1 : Int32)) (by decide) ?_
    refine own_s_icmpNo Xwf6.here hx (hb hby at_100) (pc' := 103) rfl wf_hb100 ?_
    refine own_s_iload Xwf6.here hx (hb hby at_103) (pc' := 105) rfl rfl ?_
    refine own_s_iload Xwf6.here hx (hb hby at_105) (pc' := 107) rfl rfl ?_
    refine own_s_icmpNo Xwf6.here hx (hb hby at_107) (pc' := 110) rfl wf_hb107 ?_
    refine own_s_iload Xwf6.here hx (hb hby at_110) (pc' := 112) rfl rfl ?_
    refine own_s_iload Xwf6.here hx (hb hby at_112) (pc' := 114) rfl rfl ?_
    refine own_s_icmpYes Xwf6.here hx (hb hby at_114) (by decide) (pc' := 119) (by decide) wf_hb114 ?_
    refine own_s_aloadN Xwf6.here hx (hb hby at_119) (pc' := 120) rfl rfl rfl ?_
    refine own_s_iload Xwf6.here hx (hb hby at_120) (pc' := 122) rfl rfl ?_
    refine own_ldD Xwf6 hx hZ ewf6 V_bwf1_wf5 (j := wf_r92) (x := wf_v122) wf_hin122 wf_hel122 (hb hby at_122) (pc' := 123) rfl ?_
    refine own_s_dload Xwf6.here hx (hb hby at_123) (pc' := 125) rfl rfl ?_
    refine own_s_dconst1 Xwf6.here hx (hb hby at_125) (pc' := 126) rfl  ?_
    refine own_s_dsub Xwf6.here hx (hb hby at_126) (pc' := 127) rfl wf_hn126 (v := wf_v126) wf_hv126 ?_
    refine own_s_dcmp Xwf6.here hx (hb hby at_127) (pc' := 128) rfl (v := (Op.cmpValue (FP.dcmp wf_v122 wf_v126) .l)) rfl ?_
    refine own_s_ifYes Xwf6.here hx (hb hby at_128) (by decide) (pc' := 133) (by decide) wf_hb128 ?_
    refine own_s_aloadN Xwf6.here hx (hb hby at_133) (pc' := 134) rfl rfl rfl ?_
    refine own_s_iconst Xwf6.here hx (hb hby at_134) (pc' := 135) rfl (v := (0 : Int32)) (by decide) ?_
    refine own_s_iload Xwf6.here hx (hb hby at_135) (pc' := 137) rfl rfl ?_
    refine own_s_iload Xwf6.here hx (hb hby at_137) (pc' := 139) rfl rfl ?_
    refine own_s_iload Xwf6.here hx (hb hby at_139) (pc' := 141) rfl rfl ?_
    refine own_s_dload Xwf6.here hx (hb hby at_141) (pc' := 143) rfl rfl ?_
    refine stwf7 _ ?_
    show Steps p.tables e below (Twf7.setTop (mkF m 146 #[.val (.int p0), .val (.int p1), .val (.int p2), .val (.ref bwf1), .val (.int wf_v54), .val (.int wf_v71), .val (.double wf_v82), .second, .val (.int wf_r92)] [(.int (1 : Int32))])) _
    refine own_s_ifNo Xwf7.here hx (hb hby at_146) (pc' := 149) rfl (by decide) ?_
    refine own_s_aloadN Xwf7.here hx (hb hby at_149) (pc' := 150) rfl rfl rfl ?_
    refine own_s_iconst Xwf7.here hx (hb hby at_150) (pc' := 151) rfl (v := (1 : Int32)) (by decide) ?_
    refine own_s_iload Xwf7.here hx (hb hby at_151) (pc' := 153) rfl rfl ?_
    refine own_s_iload Xwf7.here hx (hb hby at_153) (pc' := 155) rfl rfl ?_
    refine own_s_iload Xwf7.here hx (hb hby at_155) (pc' := 157) rfl rfl ?_
    refine own_s_dload Xwf7.here hx (hb hby at_157) (pc' := 159) rfl rfl ?_
    refine stwf8 _ ?_
    show Steps p.tables e below (Twf8.setTop (mkF m 162 #[.val (.int p0), .val (.int p1), .val (.int p2), .val (.ref bwf1), .val (.int wf_v54), .val (.int wf_v71), .val (.double wf_v82), .second, .val (.int wf_r92)] [(.int (1 : Int32))])) _
    refine own_s_ifNo Xwf8.here hx (hb hby at_162) (pc' := 165) rfl (by decide) ?_
    refine own_s_aloadN Xwf8.here hx (hb hby at_165) (pc' := 166) rfl rfl rfl ?_
    refine own_s_iconst Xwf8.here hx (hb hby at_166) (pc' := 167) rfl (v := (2 : Int32)) (by decide) ?_
    refine own_s_iload Xwf8.here hx (hb hby at_167) (pc' := 169) rfl rfl ?_
    refine own_s_iload Xwf8.here hx (hb hby at_169) (pc' := 171) rfl rfl ?_
    refine own_s_iload Xwf8.here hx (hb hby at_171) (pc' := 173) rfl rfl ?_
    refine own_s_dload Xwf8.here hx (hb hby at_173) (pc' := 175) rfl rfl ?_
    refine stwf9 _ ?_
    show Steps p.tables e below (Twf9.setTop (mkF m 178 #[.val (.int p0), .val (.int p1), .val (.int p2), .val (.ref bwf1), .val (.int wf_v54), .val (.int wf_v71), .val (.double wf_v82), .second, .val (.int wf_r92)] [(.int (1 : Int32))])) _
    refine own_s_ifNo Xwf9.here hx (hb hby at_178) (pc' := 181) rfl (by decide) ?_
    refine own_s_aloadN Xwf9.here hx (hb hby at_181) (pc' := 182) rfl rfl rfl ?_
    refine own_s_iconst Xwf9.here hx (hb hby at_182) (pc' := 183) rfl (v := (3 : Int32)) (by decide) ?_
    refine own_s_iload Xwf9.here hx (hb hby at_183) (pc' := 185) rfl rfl ?_
    refine own_s_iload Xwf9.here hx (hb hby at_185) (pc' := 187) rfl rfl ?_
    refine own_s_iload Xwf9.here hx (hb hby at_187) (pc' := 189) rfl rfl ?_
    refine own_s_dload Xwf9.here hx (hb hby at_189) (pc' := 191) rfl rfl ?_
    refine stwf10 _ ?_
    show Steps p.tables e below (Twf10.setTop (mkF m 194 #[.val (.int p0), .val (.int p1), .val (.int p2), .val (.ref bwf1), .val (.int wf_v54), .val (.int wf_v71), .val (.double wf_v82), .second, .val (.int wf_r92)] [(.int (1 : Int32))])) _
    refine own_s_ifNo Xwf10.here hx (hb hby at_194) (pc' := 197) rfl (by decide) ?_
    refine own_s_iconst Xwf10.here hx (hb hby at_197) (pc' := 198) rfl (v := (1 : Int32)) (by decide) ?_
    refine own_s_goto Xwf10.here hx (hb hby at_198) (by decide) (pc' := 202) (by decide) ?_
    exact retN Xwf10 hx (t := .boolean) Bd.returns (by simp) (hb hby at_202) hr
  · show own_Q0 n0 _ Twf10.heap _
    rw [ewf10]
    exact ⟨rfl, Nwf10⟩
set_option maxRecDepth 65536 in
set_option maxHeartbeats 40000000 in
theorem own_rm0 (l : Launch) (Z : State) (a0 : Array Value) (hw : ∀ d ∈ tables_1, d.before a0 Z = true) (ws : List Jvm.Cond) (p0 : Int32) (p1 : Int32) (p2 : Int32) (h0 : Heap) (n0 : Nat) (Z0 : n0 ≤ h0.size)  :
    MetFree l x (head1 (Jvm.Cond.code x code maxLocals ret :: ws) room_1) (fun a U => a = #[(.int p0), (.int p1), (.int p2)] ∧ Z.Warmed39 U.vm ∧ U.heap = h0) (fun _ _ _ _ _ => True) (fun _ U o U' => ∃ v L, o = .returned v ∧ own_Q0 n0 v U'.heap L ∧ FrameEnd U o U' L room_1.cells room_1.slots) := by
  obtain ⟨v9, hv9⟩ : ∃ v, p0 &&& (7 : Int32) = v := ⟨_, rfl⟩
  obtain ⟨v11, hv11⟩ : ∃ v, v9 - (3 : Int32) = v := ⟨_, rfl⟩
  obtain ⟨v18, hv18⟩ : ∃ v, (Int32.toUInt32 p0 >>> ((3 : Int32) &&& 31).toUInt32).toInt32 = v := ⟨_, rfl⟩
  obtain ⟨v21, hv21⟩ : ∃ v, v18 &&& (7 : Int32) = v := ⟨_, rfl⟩
  obtain ⟨v23, hv23⟩ : ∃ v, v21 - (3 : Int32) = v := ⟨_, rfl⟩
  obtain ⟨v31, hv31⟩ : ∃ v, (Int32.toUInt32 p0 >>> ((6 : Int32) &&& 31).toUInt32).toInt32 = v := ⟨_, rfl⟩
  obtain ⟨v34, hv34⟩ : ∃ v, v31 &&& (7 : Int32) = v := ⟨_, rfl⟩
  obtain ⟨v36, hv36⟩ : ∃ v, v34 - (3 : Int32) = v := ⟨_, rfl⟩
  obtain ⟨v44, hv44⟩ : ∃ v, (Int32.toUInt32 p0 >>> ((9 : Int32) &&& 31).toUInt32).toInt32 = v := ⟨_, rfl⟩
  obtain ⟨v47, hv47⟩ : ∃ v, v44 &&& (7 : Int32) = v := ⟨_, rfl⟩
  obtain ⟨v49, hv49⟩ : ∃ v, v47 - (3 : Int32) = v := ⟨_, rfl⟩
  obtain ⟨v54, hv54⟩ : ∃ v, p1 &&& (3 : Int32) = v := ⟨_, rfl⟩
  obtain ⟨v60, hv60⟩ : ∃ v, v54 + (1 : Int32) = v := ⟨_, rfl⟩
  obtain ⟨v63, hv63⟩ : ∃ v, (Int32.toUInt32 p1 >>> ((2 : Int32) &&& 31).toUInt32).toInt32 = v := ⟨_, rfl⟩
  obtain ⟨v65, hv65⟩ : ∃ v, v63 &&& (3 : Int32) = v := ⟨_, rfl⟩
  obtain ⟨v69, hv69⟩ : ∃ v, (4 : Int32) - v54 = v := ⟨_, rfl⟩
  obtain ⟨v70, hv70⟩ : ∃ v, v65 % v69 = v := ⟨_, rfl⟩
  obtain ⟨v71, hv71⟩ : ∃ v, v60 + v70 = v := ⟨_, rfl⟩
  obtain ⟨v77, hv77⟩ : ∃ v, p2 % (40 : Int32) = v := ⟨_, rfl⟩
  have b54 : 0 ≤ v54.toInt ∧ v54.toInt ≤ 3 := by have := c_mask p1 3 2 (by decide) (by decide); rw [hv54] at this; omega
  have b65 : 0 ≤ v65.toInt ∧ v65.toInt ≤ 3 := by have := c_mask v63 3 2 (by decide) (by decide); rw [hv65] at this; omega
  have t60 := (own_Iadd hv60 (⟨rfl, by omega, by omega⟩ : own_I v54 v54.toInt 3) (⟨rfl, by decide, by decide⟩ : own_I (1 : Int32) 1 1) (by decide)).1
  have t69 := (own_Isub hv69 (⟨rfl, by decide, by decide⟩ : own_I (4 : Int32) 4 4) (⟨rfl, by omega, by omega⟩ : own_I v54 v54.toInt 3) (by decide)).1
  have hy : v69 ≠ 0 := fun q => by rw [q, show (0 : Int32).toInt = 0 from rfl] at t69; omega
  have b70 : 0 ≤ v70.toInt ∧ v70.toInt < v69.toInt := by have := (c_iremV v65 v69).1 (by omega) (by omega); rw [hv70] at this; omega
  have t71 := (own_Iadd hv71 (⟨t60, by omega, by omega⟩ : own_I v60 (v54.toInt + 1) 4) (⟨rfl, by omega, by omega⟩ : own_I v70 v70.toInt 4) (by decide)).1
  have hlo : 0 ≤ v54.toInt ∧ v54.toInt < v71.toInt ∧ v71.toInt ≤ 4 := by omega
  have b77 : -39 ≤ v77.toInt ∧ v77.toInt ≤ 39 := by have := c_irem p2 40 40 (by decide); rw [hv77] at this; omega
  have ih : own_Is 4602678819172646912 1 (-1) := ⟨(Jvm.FP.Core.fin_bits _).mpr (by decide), by decide, by decide +kernel⟩
  have j82 := own_mul (own_i2d v77) ih (e := -1) (by decide) (by decide) (by decide) (by omega)
  obtain ⟨v82, hv82⟩ : ∃ v, FP.dmul (FP.i2d v77) 4602678819172646912 = v := ⟨_, rfl⟩
  have n82 : Jvm.Free.Fl.NoNaN64 (FP.dmul (FP.i2d v77) 4602678819172646912) := own_nn j82
  rw [show Jvm.FP.Core.dmul (Jvm.FP.Core.i2d v77) 4602678819172646912 = v82 from hv82] at j82
  have o1 := own_shift 1 own_one (e' := -1) (by decide) (by decide)
  rw [show (1 : Int) * ((2 ^ 1 : Nat) : Int) = 2 by decide] at o1
  have js := own_sub j82 o1 (by decide) (by omega)
  have ns : Jvm.Free.Fl.NoNaN64 (FP.dsub v82 4607182418800017408) := own_nn js
  have vs : Jvm.FP.Core.val64 (FP.dsub v82 4607182418800017408) ≠ .nan := js.1.ne_nan
  have fi : ∀ a : Int32, Jvm.FP.Core.val64 (FP.i2d a) ≠ .nan := fun a => (own_i2d a).1.ne_nan
  have hnn : ∀ k, Jvm.FP.Core.val64 (own_el (FP.i2d v11) (FP.i2d v23) (FP.i2d v36) (FP.i2d v49) k) ≠ .nan := fun k => by
    unfold own_el
    by_cases h1 : k = 0
    · rw [if_pos h1]; exact fi _
    · rw [if_neg h1]
      by_cases h2 : k = 1
      · rw [if_pos h2]; exact fi _
      · rw [if_neg h2]
        by_cases h3 : k = 2
        · rw [if_pos h3]; exact fi _
        · rw [if_neg h3]; exact fi _
  obtain ⟨⟨g1, g2⟩, ge, g3, g4⟩ := own_G (FP.i2d v11) (FP.i2d v23) (FP.i2d v36) (FP.i2d v49) hlo
  obtain ⟨G, hG⟩ : ∃ z, (own_fst (fun k => own_z (own_el (FP.i2d v11) (FP.i2d v23) (FP.i2d v36) (FP.i2d v49) k)) (v71.toInt - v54.toInt - 1).toNat v54.toInt (v54.toInt + 1)) = z := ⟨_, rfl⟩
  rw [hG] at g1 g2 ge g3 g4
  obtain ⟨r92, hr⟩ : ∃ v, own_r (FP.i2d v11) (FP.i2d v23) (FP.i2d v36) (FP.i2d v49) v54 v71 (FP.dsub v82 4607182418800017408) = v := ⟨_, rfl⟩
  have hr' := hr
  unfold own_r at hr'
  rw [hG] at hr'
  by_cases hc : own_z (own_el (FP.i2d v11) (FP.i2d v23) (FP.i2d v36) (FP.i2d v49) G) ≤ own_z (FP.dsub v82 4607182418800017408)
  · rw [if_pos hc] at hr'
    have f100 : if_icmp.holds .eq r92 (-1) = true := XT.ii_eq_t hr'.symm
    have nr : ¬ r92 ≠ -1 := fun h => h hr'.symm
    have z0 : own_z (own_el (FP.i2d v11) (FP.i2d v23) (FP.i2d v36) (FP.i2d v49) 0) = own_z (FP.i2d v11) := rfl
    have z1 : own_z (own_el (FP.i2d v11) (FP.i2d v23) (FP.i2d v36) (FP.i2d v49) 1) = own_z (FP.i2d v23) := rfl
    have z2 : own_z (own_el (FP.i2d v11) (FP.i2d v23) (FP.i2d v36) (FP.i2d v49) 2) = own_z (FP.i2d v36) := rfl
    have z3 : own_z (own_el (FP.i2d v11) (FP.i2d v23) (FP.i2d v36) (FP.i2d v49) 3) = own_z (FP.i2d v49) := rfl
    exact own_rm_wt l Z a0 hw ws p0 p1 p2 h0 n0 Z0 (wt_hv9 := hv9) (wt_hv11 := hv11) (wt_hv18 := hv18) (wt_hv21 := hv21) (wt_hv23 := hv23) (wt_hv31 := hv31) (wt_hv34 := hv34) (wt_hv36 := hv36) (wt_hv44 := hv44) (wt_hv47 := hv47) (wt_hv49 := hv49) (wt_hv54 := hv54) (wt_hv60 := hv60) (wt_hv63 := hv63) (wt_hv65 := hv65) (wt_hv69 := hv69) (wt_hy70 := hy) (wt_hv70 := hv70) (wt_hv71 := hv71) (wt_hv77 := hv77) (wt_hn82 := n82) (wt_hv82 := hv82) (wt_c92_bal_hlo := hlo) (wt_c92_bal_hnn := hnn) (wt_c92_bal_hs := ns) (wt_hr92 := hr) (wt_hb100 := f100) (wt_c143_ok0_hs := ns) (wt_c143_ok0_hA := (fun h1 h2 _ => by rw [(own_cz (fi _) vs .g).1]; exact decide_eq_false (by have := g3 0 h1 h2; rw [z0] at this; omega))) (wt_c143_ok0_hR := (fun h => absurd h nr)) (wt_c143_ok0_hB := (fun _ _ h => absurd h nr)) (wt_c159_ok1_hs := ns) (wt_c159_ok1_hA := (fun h1 h2 _ => by rw [(own_cz (fi _) vs .g).1]; exact decide_eq_false (by have := g3 1 h1 h2; rw [z1] at this; omega))) (wt_c159_ok1_hR := (fun h => absurd h nr)) (wt_c159_ok1_hB := (fun _ _ h => absurd h nr)) (wt_c175_ok2_hs := ns) (wt_c175_ok2_hA := (fun h1 h2 _ => by rw [(own_cz (fi _) vs .g).1]; exact decide_eq_false (by have := g3 2 h1 h2; rw [z2] at this; omega))) (wt_c175_ok2_hR := (fun h => absurd h nr)) (wt_c175_ok2_hB := (fun _ _ h => absurd h nr)) (wt_c191_ok3_hs := ns) (wt_c191_ok3_hA := (fun h1 h2 _ => by rw [(own_cz (fi _) vs .g).1]; exact decide_eq_false (by have := g3 3 h1 h2; rw [z3] at this; omega))) (wt_c191_ok3_hR := (fun h => absurd h nr)) (wt_c191_ok3_hB := (fun _ _ h => absurd h nr))
  · rw [if_neg hc] at hr'
    have tr : r92.toInt = G := by rw [← hr']; exact ge
    have br : 0 ≤ r92.toInt ∧ r92.toInt < 4 := by omega
    have n1 : r92 ≠ -1 := fun h => by rw [h, show (-1 : Int32).toInt = -1 by decide] at tr; omega
    have f100 : if_icmp.holds .eq r92 (-1) = false := XT.ii_eq_f n1
    have f107 : if_icmp.holds .lt r92 v54 = false := XT.ii_lt_f (fun h => by have := Int32.lt_iff_toInt_lt.mp h; omega)
    have f114 : if_icmp.holds .lt r92 v71 = true := XT.ii_lt_t (Int32.lt_iff_toInt_lt.mpr (by omega))
    have f128 : ifCond.holds .gt (Op.cmpValue (FP.dcmp (own_el (FP.i2d v11) (FP.i2d v23) (FP.i2d v36) (FP.i2d v49) r92.toInt) (FP.dsub v82 4607182418800017408)) .l) = true := by rw [(own_cz (hnn _) vs .l).1, tr]; exact decide_eq_true (by omega)
    have z0 : own_z (own_el (FP.i2d v11) (FP.i2d v23) (FP.i2d v36) (FP.i2d v49) 0) = own_z (FP.i2d v11) := rfl
    have z1 : own_z (own_el (FP.i2d v11) (FP.i2d v23) (FP.i2d v36) (FP.i2d v49) 1) = own_z (FP.i2d v23) := rfl
    have z2 : own_z (own_el (FP.i2d v11) (FP.i2d v23) (FP.i2d v36) (FP.i2d v49) 2) = own_z (FP.i2d v36) := rfl
    have z3 : own_z (own_el (FP.i2d v11) (FP.i2d v23) (FP.i2d v36) (FP.i2d v49) 3) = own_z (FP.i2d v49) := rfl
    exact own_rm_wf l Z a0 hw ws p0 p1 p2 h0 n0 Z0 (wf_hv9 := hv9) (wf_hv11 := hv11) (wf_hv18 := hv18) (wf_hv21 := hv21) (wf_hv23 := hv23) (wf_hv31 := hv31) (wf_hv34 := hv34) (wf_hv36 := hv36) (wf_hv44 := hv44) (wf_hv47 := hv47) (wf_hv49 := hv49) (wf_hv54 := hv54) (wf_hv60 := hv60) (wf_hv63 := hv63) (wf_hv65 := hv65) (wf_hv69 := hv69) (wf_hy70 := hy) (wf_hv70 := hv70) (wf_hv71 := hv71) (wf_hv77 := hv77) (wf_hn82 := n82) (wf_hv82 := hv82) (wf_c92_bal_hlo := hlo) (wf_c92_bal_hnn := hnn) (wf_c92_bal_hs := ns) (wf_hr92 := hr) (wf_hb100 := f100) (wf_hb107 := f107) (wf_hb114 := f114) (wf_hin122 := (own_inb br)) (wf_hel122 := (own_getD _ _ _ _ br)) (wf_hn126 := ns) (wf_hv126 := rfl) (wf_hb128 := f128) (wf_c143_ok0_hs := ns) (wf_c143_ok0_hA := (fun _ _ h => absurd h n1)) (wf_c143_ok0_hR := (fun _ => br)) (wf_c143_ok0_hB := (fun h1 h2 _ => ⟨by rw [(own_cz (fi _) (hnn _) .g).1, tr]; exact decide_eq_false (by have := g3 0 h1 h2; rw [z0] at this; omega), fun h3 => by rw [(own_cz (fi _) (hnn _) .g).2.2, tr]; exact decide_eq_false (by have := g4 0 h1 (by omega); rw [z0] at this; omega)⟩)) (wf_c159_ok1_hs := ns) (wf_c159_ok1_hA := (fun _ _ h => absurd h n1)) (wf_c159_ok1_hR := (fun _ => br)) (wf_c159_ok1_hB := (fun h1 h2 _ => ⟨by rw [(own_cz (fi _) (hnn _) .g).1, tr]; exact decide_eq_false (by have := g3 1 h1 h2; rw [z1] at this; omega), fun h3 => by rw [(own_cz (fi _) (hnn _) .g).2.2, tr]; exact decide_eq_false (by have := g4 1 h1 (by omega); rw [z1] at this; omega)⟩)) (wf_c175_ok2_hs := ns) (wf_c175_ok2_hA := (fun _ _ h => absurd h n1)) (wf_c175_ok2_hR := (fun _ => br)) (wf_c175_ok2_hB := (fun h1 h2 _ => ⟨by rw [(own_cz (fi _) (hnn _) .g).1, tr]; exact decide_eq_false (by have := g3 2 h1 h2; rw [z2] at this; omega), fun h3 => by rw [(own_cz (fi _) (hnn _) .g).2.2, tr]; exact decide_eq_false (by have := g4 2 h1 (by omega); rw [z2] at this; omega)⟩)) (wf_c191_ok3_hs := ns) (wf_c191_ok3_hA := (fun _ _ h => absurd h n1)) (wf_c191_ok3_hR := (fun _ => br)) (wf_c191_ok3_hB := (fun h1 h2 _ => ⟨by rw [(own_cz (fi _) (hnn _) .g).1, tr]; exact decide_eq_false (by have := g3 3 h1 h2; rw [z3] at this; omega), fun h3 => by rw [(own_cz (fi _) (hnn _) .g).2.2, tr]; exact decide_eq_false (by have := g4 3 h1 (by omega); rw [z3] at this; omega)⟩))
set_option maxRecDepth 65536 in
set_option maxHeartbeats 40000000 in
theorem comes_1 {Post : Tables → Env → Array Value → State → Outcome → State → Prop} (hpost : ∀ tb e args s v u, (limb_1_1.after args s (.returned v) u = true ∧ limb_1_2.after args s (.returned v) u = true ∧ True) → FrameEnd s (.returned v) u (Jvm.fieldLocs frame_1_writes args s ++ Jvm.arrayLocs frame_1_arrays args s ++ Jvm.staticLocs frame_1_statics s) 16 128 → Post tb e args s (.returned v) u) :
    ArmFor flags0 classFile x code maxLocals ret World_1 tables_1 room_1 Calls_1 rest_1 Pre_1 Post := by
  intro l hfl _ _ p e ha hc hk s m args below hf hA hF happ hP
  obtain ⟨hcalls, hrest, hpre⟩ := hP
  obtain ⟨-, -, -, hnamed, -, -, -, hat⟩ := (Spec.applies_iff hf).mp happ
  obtain ⟨hg, hn⟩ := and_e (Cond.before_iff.mp (show (Jvm.Cond.and given_1 narrow_1).before args s = true from hpre))
  obtain ⟨hcount, g0⟩ := and_e hg
  obtain ⟨a0, g1⟩ := and_e g0
  obtain ⟨a1, g2⟩ := and_e g1
  have a2 := g2
  obtain ⟨w0, w1, w2, rfl⟩ : ∃ w0 w1 w2 : Value, args = #[w0, w1, w2] := by
    have hs : args.size = 3 := by simpa [Cond.value, given_1] using hcount
    obtain ⟨L⟩ := args
    match L, hs with
    | [w0, w1, w2], _ => exact ⟨w0, w1, w2, rfl⟩
  have hw := fun d (hd : d ∈ tables_1) => atoms_spec (ws := Jvm.Cond.code x code maxLocals ret :: tables_1) hat d (List.mem_cons_of_mem _ hd)
  obtain ⟨i0, ei0⟩ := is_v a0
  obtain rfl : w0 = (.int i0) := Option.some.inj ei0
  obtain ⟨i1, ei1⟩ := is_v a1
  obtain rfl : w1 = (.int i1) := Option.some.inj ei1
  obtain ⟨i2, ei2⟩ := is_v a2
  obtain rfl : w2 = (.int i2) := Option.some.inj ei2
  obtain ⟨n, o, h1, h2, h3, _, L, rfl, ⟨rfl, N⟩, hq⟩ := own_rm0 l s _ hw tables_1 i0 i1 i2 s.heap s.heap.size (Nat.le_refl _)  p e ha hc hk s m _ below hf ((Spec.applies_iff_loose hf).mp happ).1 ⟨rfl, State.Warmed39.refl s, rfl⟩ trivial
  refine ⟨n, _, h1, h2, h3, hpost _ _ _ _ _ _ ⟨Cond.after_iff.mpr rfl, Cond.after_iff.mpr (eq_i res_at (Term.int_eval (1)) rfl), trivial⟩ ⟨hq.1, hq.2.1, (hq.2.2.sift fun y hy => Or.inr (N y hy)).mono (by decide) (by decide)⟩⟩
theorem main_1_1 : Claimed_1_1 := comes_1 fun _ _ _ _ _ _ h hF => ⟨h.1, hF⟩
theorem main_1_2 : Claimed_1_2 := comes_1 fun _ _ _ _ _ _ h hF => ⟨h.2.1, hF⟩
end Jvm.Pilot.@@N@@
namespace Jvm.Pilot.@@N@@
open Jvm Jvm.ClassFile Sem Op Lib Jvm.Free Jvm.Stand Jvm.Pilot.@@N@@.Jvm.D
/-! MADE BY PROGRAM (witnessworld.py) out of the Statement's table words and the real class files: 11 classes; the members and pool entries that the words name. The judged class is class 1, her method 2. -/
namespace start1
open Jvm.ClassFile
def u (s : String) : CpInfo := .utf8 (stringToUtf16 s)
/-- a pool by its gaps: so many unusable entries, then the entry; so many at the end -/
def gap : Nat → List CpInfo → List CpInfo
  | 0, r => r
  | n + 1, r => .unusable :: gap n r
def poolList (es : List (Nat × CpInfo)) (last : Nat) : List CpInfo := es.foldr (fun e r => gap e.1 (e.2 :: r)) (gap last [])
def pool (es : List (Nat × CpInfo)) (last : Nat) : Array CpInfo := ⟨poolList es last⟩
def fileOf (pool : Array CpInfo) (this : Nat) (attrs : Array Attribute := #[]) (ms : Array MethodInfo := #[]) (fl : Nat := 33) (sup : Nat := 0) (ifs : Array Nat := #[]) (fds : Array FieldInfo := #[]) : ClassFile where
  minorVersion := 0
  majorVersion := 65
  constantPool := pool
  accessFlags := fl
  thisClass := this
  superClass := sup
  interfaces := ifs
  fields := fds
  methods := ms
  attributes := attrs
def plain (name : String) (sup : Option ClassId) : Class where
  name := name
  kind := .ordinary
  loader := none
  accessFlags := 33
  super := sup
  interfaces := #[]
  cf := none
  fields := #[]
  methods := #[]
  instanceTypes := #[]
  staticTypes := #[]
  resolved := #[]
  callSites := []
  init := .initialized
  statics := none
  mirror := none

def pool0 : Array CpInfo := pool [(5, u "<init>"), (0, u "()V"), (1, .class_ 10), (1, u "java/lang/Object")] 113

def k0m0 : Method := { name := "<init>", desc := "()V", sig := { parameters := [], returnType := none }, accessFlags := 1, code := none }
/-- java/lang/Object -/
def k0 : Class := { plain "java/lang/Object" none with
  accessFlags := 33
  interfaces := #[]
  cf := some (fileOf pool0 8 #[] #[{ accessFlags := 1, nameIndex := 5, descriptorIndex := 6, attributes := #[] }] 33 0 #[] #[])
  fields := #[]
  methods := #[k0m0]
  instanceTypes := #[]
  staticTypes := #[]
  resolved := Array.replicate 124 none
  statics := none }

def pool1 : Array CpInfo := pool [(2, .class_ 4), (1, u "java/lang/Object"), (0, u "<init>"), (0, u "()V"), (0, .double 4602678819172646912), (1, .methodref 10 11), (0, .class_ 12), (0, .nameAndType 13 14), (0, u "com/example/libcredal/libcredal/core/OutwardRounding"), (0, u "balancing"), (0, u "([DIID)I"), (0, .methodref 16 17), (0, .class_ 18), (0, .nameAndType 19 20), (0, u "com/example/libcredal/libcredal/core/OutwardRoundingBalancingPinLaw"), (0, u "okAt"), (0, u "([DIIIID)Z"), (3, u "law"), (0, u "(III)Z")] 4

def k1m0 : Method := { name := "<init>", desc := "()V", sig := { parameters := [], returnType := none }, accessFlags := 1, code := none }
def k1c1 : Code := { maxStack := 6, maxLocals := 7, code := method_2_code, exceptionTable := #[], attributes := #[] }
def k1m1 : Method := { name := "okAt", desc := "([DIIIID)Z", sig := { parameters := [(.array .double), .int, .int, .int, .int, .double], returnType := some .boolean }, accessFlags := 10, code := some k1c1 }
def k1c2 : Code := { maxStack := 7, maxLocals := 9, code := code, exceptionTable := #[], attributes := #[] }
def k1m2 : Method := { name := "law", desc := "(III)Z", sig := { parameters := [.int, .int, .int], returnType := some .boolean }, accessFlags := 9, code := some k1c2 }
/-- com/example/libcredal/libcredal/core/OutwardRoundingBalancingPinLaw -/
def k1 : Class := { plain "com/example/libcredal/libcredal/core/OutwardRoundingBalancingPinLaw" (some 0) with
  accessFlags := 49
  interfaces := #[]
  cf := some (fileOf pool1 16 #[] #[{ accessFlags := 1, nameIndex := 5, descriptorIndex := 6, attributes := #[] }, { accessFlags := 10, nameIndex := 19, descriptorIndex := 20, attributes := #[] }, { accessFlags := 9, nameIndex := 24, descriptorIndex := 25, attributes := #[] }] 49 2 #[] #[])
  fields := #[]
  methods := #[k1m0, k1m1, k1m2]
  instanceTypes := #[]
  staticTypes := #[]
  resolved := Array.replicate 30 none
  statics := none }

def pool2 : Array CpInfo := pool [(2, .class_ 4), (1, u "java/lang/Object"), (0, u "<init>"), (0, u "()V"), (1, .class_ 10), (1, u "com/example/libcredal/libcredal/core/OutwardRounding"), (109, u "EXACT_ERRORS"), (0, u "D"), (1, u "SUBNORMAL_LOSS"), (0, u "SMALL"), (0, u "ULP_OF_ONE"), (11, u "balancing"), (0, u "([DIID)I")] 4

def k2m0 : Method := { name := "<init>", desc := "()V", sig := { parameters := [], returnType := none }, accessFlags := 2, code := none }
def k2c1 : Code := { maxStack := 6, maxLocals := 7, code := prog_57_method_9_code, exceptionTable := #[], attributes := #[] }
def k2m1 : Method := { name := "balancing", desc := "([DIID)I", sig := { parameters := [(.array .double), .int, .int, .double], returnType := some .int }, accessFlags := 8, code := some k2c1 }
/-- com/example/libcredal/libcredal/core/OutwardRounding -/
def k2 : Class := { plain "com/example/libcredal/libcredal/core/OutwardRounding" (some 0) with
  accessFlags := 48
  interfaces := #[]
  cf := some (fileOf pool2 8 #[] #[{ accessFlags := 2, nameIndex := 5, descriptorIndex := 6, attributes := #[] }, { accessFlags := 8, nameIndex := 137, descriptorIndex := 138, attributes := #[] }] 48 2 #[] #[{ accessFlags := 26, nameIndex := 120, descriptorIndex := 121, attributes := #[] }, { accessFlags := 26, nameIndex := 123, descriptorIndex := 121, attributes := #[] }, { accessFlags := 26, nameIndex := 124, descriptorIndex := 121, attributes := #[] }, { accessFlags := 26, nameIndex := 125, descriptorIndex := 121, attributes := #[] }])
  fields := #[{ name := "EXACT_ERRORS", type := .double, accessFlags := 26, slot := 0, constantValue := 0 }, { name := "SUBNORMAL_LOSS", type := .double, accessFlags := 26, slot := 1, constantValue := 0 }, { name := "SMALL", type := .double, accessFlags := 26, slot := 2, constantValue := 0 }, { name := "ULP_OF_ONE", type := .double, accessFlags := 26, slot := 3, constantValue := 0 }]
  methods := #[k2m0, k2m1]
  instanceTypes := #[]
  staticTypes := #[.double, .double, .double, .double]
  resolved := Array.replicate 143 none
  statics := none }

def pool3 : Array CpInfo := pool [(1, u "java/lang/Cloneable"), (0, .class_ 1), (0, u "java/lang/Object"), (0, .class_ 3)] 3

/-- java/lang/Cloneable -/
def k3 : Class := { plain "java/lang/Cloneable" (some 0) with
  accessFlags := 1537
  interfaces := #[]
  cf := some (fileOf pool3 2 #[] #[] 1537 4 #[] #[])
  fields := #[]
  methods := #[]
  instanceTypes := #[]
  staticTypes := #[]
  resolved := Array.replicate 8 none
  statics := none }

def pool4 : Array CpInfo := pool [(1, u "java/io/Serializable"), (0, .class_ 1), (0, u "java/lang/Object"), (0, .class_ 3)] 3

/-- java/io/Serializable -/
def k4 : Class := { plain "java/io/Serializable" (some 0) with
  accessFlags := 1537
  interfaces := #[]
  cf := some (fileOf pool4 2 #[] #[] 1537 4 #[] #[])
  fields := #[]
  methods := #[]
  instanceTypes := #[]
  staticTypes := #[]
  resolved := Array.replicate 8 none
  statics := none }

/-- the primitive byte -/
def k5 : Class := { plain "byte" none with kind := .primitive 'B', accessFlags := 0x411 }
/-- [B -/
def k6 : Class := { plain "[B" (some 0) with kind := .array 5 .byte, interfaces := #[3, 4], accessFlags := 1041 }

/-- the primitive double -/
def k7 : Class := { plain "double" none with kind := .primitive 'D', accessFlags := 0x411 }
/-- [D -/
def k8 : Class := { plain "[D" (some 0) with kind := .array 7 .double, interfaces := #[3, 4], accessFlags := 1041 }

/-- the primitive int -/
def k9 : Class := { plain "int" none with kind := .primitive 'I', accessFlags := 0x411 }
/-- [I -/
def k10 : Class := { plain "[I" (some 0) with kind := .array 9 .int, interfaces := #[3, 4], accessFlags := 1041 }

def heap : Heap := #[]
def classes : Array Class := #[k0, k1, k2, k3, k4, k5, k6, k7, k8, k9, k10]
def interned : List (Array UInt16 × Addr) := []
def slotsUsed : Nat := 0
def theMethod : MethodId := ⟨1, 2⟩
def args0 : Array Value := #[.int 3, .int 4, .int 5]
def aboutOver (below : List Frame) : State where
  vm := { classes := classes, interned := interned.toArray }
  heap := heap
  slotsUsed := slotsUsed
  threads := #[{ frames := .invoking theMethod args0 :: below }]
def below0 : List Frame := [.native { method := ⟨0, 0⟩, args := #[] }]
def about1 : State := aboutOver below0
def p0 : Program := .bare "" "" ""
def e0 : Env := launch0.env 0 0 0
theorem w_frames : about1.frames = Frame.invoking theMethod args0 :: below0 := rfl
set_option maxRecDepth 65536 in
theorem w_args : argsFit about1.vm theMethod args0 = true := by decide +kernel
set_option maxRecDepth 65536 in
theorem w_heap : heapFits about1 = true := by decide +kernel
set_option maxRecDepth 65536 in
theorem w_runnable : about1.curStatus? = some .runnable := by decide +kernel
set_option maxRecDepth 65536 in
theorem w_alone : about1.alone = true := by decide +kernel
set_option maxRecDepth 65536 in
theorem w_named : about1.methodNamed? x = some theMethod := by decide +kernel
set_option maxRecDepth 65536 in
theorem w_hears : about1.hears theMethod below0 = true := by decide +kernel
set_option maxRecDepth 65536 in
theorem w_ripe : about1.ripe theMethod args0 below0 = true := by decide +kernel
theorem w_running : about1.status = .running := rfl
set_option maxRecDepth 65536 in
theorem w_room : about1.hasRoom e0.platform room_1 = true :=
  launch0.hasRoom_least _ room_1 (by decide +kernel) (by decide +kernel) (by decide +kernel) (by decide +kernel) (by decide +kernel) (by decide +kernel)
theorem allAtoms_all (ts : List Jvm.Cond) (a : Array Jvm.Value) (st : Jvm.State) : (allAtoms ts).before a st = ts.all (fun c => c.before a st) := by
  induction ts with
  | nil => rfl
  | cons c t ih =>
    show (Jvm.Cond.and c (allAtoms t)).before a st = _
    rw [Jvm.Cond.before_and, ih, List.all_cons]
def words1 : List Jvm.Cond := Jvm.Cond.code x code maxLocals ret :: tables_1
/-- a 'code' word, met by the world's own term for the bytes: nothing is compared byte by byte -/
theorem code_word {y : MethodName} {bytes : ByteArray} {mx : Nat} {rt : Option FieldType} {a : Array Value} {s : State} {m : MethodId} {meth : Method} {c : Code} (h1 : s.methodNamed? y = some m) (h2 : s.vm.method? m = some meth) (h3 : meth.code = some c) (h4 : c.code = bytes)
    (h5 : (c.maxLocals == mx && c.exceptionTable.isEmpty && decide (c.maxStack ≤ mostOperands) && decide (meth.sig.returnType = rt) && !meth.locks && decide (parseMethodDescriptor y.desc = some meth.sig)) = true) : (Jvm.Cond.code y bytes mx rt).before a s = true := by
  simp only [Bool.and_eq_true, beq_iff_eq, Bool.not_eq_true', decide_eq_true_eq] at h5
  obtain ⟨⟨⟨⟨⟨g1, g2⟩, g3⟩, g4⟩, g5⟩, g6⟩ := h5
  simp [Cond.before, Cond.holds, Cond.value, h1, h2, h3, h4, g1, g2, g3, g4, g5, g6]
def isCode : Jvm.Cond → Bool
  | .code _ _ _ _ => true
  | _ => false
theorem all_split {L : List Jvm.Cond} {P : Jvm.Cond → Bool} (h1 : L.all (fun c => isCode c || P c) = true) (h2 : ∀ c ∈ L.filter isCode, P c = true) : L.all P = true := by
  refine List.all_eq_true.mpr fun c hc => ?_
  have h := List.all_eq_true.mp h1 c hc
  rcases Bool.eq_false_or_eq_true (isCode c) with hi | hi
  · exact h2 c (List.mem_filter.mpr ⟨hc, hi⟩)
  · simpa [hi] using h
set_option maxRecDepth 65536 in
theorem w_c0 : (Jvm.Cond.code x code maxLocals ret).before args0 about1 = true := code_word (m := ⟨1, 2⟩) (meth := k1m2) (c := k1c2) (by decide +kernel) rfl rfl rfl (by decide +kernel)
set_option maxRecDepth 65536 in
theorem w_c1 : (Jvm.Cond.code ({ cls := "com/example/libcredal/libcredal/core/OutwardRounding", name := "balancing", desc := "([DIID)I" } : Jvm.MethodName) prog_57_method_9_code (7 : Nat) (Option.some Jvm.ClassFile.FieldType.int)).before args0 about1 = true := code_word (m := ⟨2, 1⟩) (meth := k2m1) (c := k2c1) (by decide +kernel) rfl rfl rfl (by decide +kernel)
set_option maxRecDepth 65536 in
theorem w_c2 : (Jvm.Cond.code ({ cls := "com/example/libcredal/libcredal/core/OutwardRoundingBalancingPinLaw", name := "okAt", desc := "([DIIIID)Z" } : Jvm.MethodName) method_2_code (7 : Nat) (Option.some Jvm.ClassFile.FieldType.boolean)).before args0 about1 = true := code_word (m := ⟨1, 1⟩) (meth := k1m1) (c := k1c1) (by decide +kernel) rfl rfl rfl (by decide +kernel)
def codes1 : List Jvm.Cond := [Jvm.Cond.code x code maxLocals ret, Jvm.Cond.code ({ cls := "com/example/libcredal/libcredal/core/OutwardRounding", name := "balancing", desc := "([DIID)I" } : Jvm.MethodName) prog_57_method_9_code (7 : Nat) (Option.some Jvm.ClassFile.FieldType.int), Jvm.Cond.code ({ cls := "com/example/libcredal/libcredal/core/OutwardRoundingBalancingPinLaw", name := "okAt", desc := "([DIIIID)Z" } : Jvm.MethodName) method_2_code (7 : Nat) (Option.some Jvm.ClassFile.FieldType.boolean)]
set_option maxRecDepth 65536 in
theorem codes_eq : words1.filter isCode = codes1 := rfl
theorem w_codes : ∀ c ∈ words1.filter isCode, c.before args0 about1 = true := by
  rw [codes_eq]
  intro c hc
  simp only [codes1, List.mem_cons, List.not_mem_nil, or_false] at hc
  rcases hc with rfl | rfl | rfl
  · exact w_c0
  · exact w_c1
  · exact w_c2
set_option maxRecDepth 65536 in
theorem w_t1 : words1.all (fun c => isCode c || c.before args0 about1) = true := by decide +kernel
theorem w_tables : (allAtoms (Jvm.Cond.code x code maxLocals ret :: tables_1)).before args0 about1 = true := by
  rw [allAtoms_all]
  show words1.all (fun c => c.before args0 about1) = true
  refine all_split ?_ w_codes
  rw [w_t1]
set_option maxRecDepth 65536 in
theorem w_case : (Jvm.Cond.and given_1 narrow_1).before args0 about1 = true := by decide +kernel
theorem w_applies : (headSpec (Jvm.Cond.code x code maxLocals ret :: tables_1) room_1).applies x e0.platform about1 = true :=
  (Spec.applies_iff w_frames).mpr ⟨w_running, w_runnable, w_alone, w_named, w_hears, w_ripe, w_room, w_tables⟩
theorem atStart : AtStart classFile x code maxLocals ret World_1 tables_1 room_1 Calls_1 rest_1 Pre_1 launch0 p0 e0 about1 theMethod args0 below0 :=
  ⟨lists_1, trivial, launch0.admits_env _ _ _, launch0.least_env, fairChoices_fair.cas, fairChoices_fair.clock, w_frames, w_args, w_heap, w_applies, trivial, trivial, w_case⟩
end start1
theorem witness_1 : WitnessClaimed_1 := ⟨start1.p0, start1.e0, start1.about1, start1.theMethod, start1.args0, start1.below0, start1.atStart⟩
end Jvm.Pilot.@@N@@
