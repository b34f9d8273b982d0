import JvmDerived
import JvmDerived.Pilot.@@N@@Statement
import JvmDerived.Pilot.@@N@@Code
set_option linter.unusedVariables false
set_option linter.unusedSimpArgs false
namespace Jvm.Pilot.@@N@@
section OwnFP
open Jvm.FP.Core
/-! Exact doubles: own_Is x n e says that the double x is finite and worth n * 2^e. -/
def own_Is (x : UInt64) (n : Int) (e : Int) : Prop := DFin x ∧ -1074 ≤ e ∧ zval b64 (val64 x) = n * ((2 ^ (e + 1074).toNat : Nat) : Int)
theorem own_qmax : b64.qmax = 971 := by decide
theorem own_pp : b64.p = 53 := rfl
theorem own_powc {a b u v : Nat} (h : a * 2 ^ u = b * 2 ^ v) {w : Int} (hw : w = (u : Int) - v) : a * 2 ^ w.toNat = b * 2 ^ (-w).toNat := by
  subst hw
  have hu : u = ((u : Int) - v).toNat + min u v := by omega
  have hv : v = (-((u : Int) - v)).toNat + min u v := by omega
  have h2 : a * 2 ^ (((u : Int) - v).toNat + min u v) = b * 2 ^ ((-((u : Int) - v)).toNat + min u v) := by rw [← hu, ← hv]; exact h
  rw [Nat.pow_add, Nat.pow_add, ← Nat.mul_assoc, ← Nat.mul_assoc] at h2
  exact Nat.eq_of_mul_eq_mul_right (Nat.two_pow_pos _) h2
theorem own_signed_abs (s : Bool) (c : Nat) : (signed s c).natAbs = c := by cases s <;> simp [signed]
theorem own_signed_mul (s t : Bool) (c d : Nat) : signed (s != t) (c * d) = signed s c * signed t d := by
  cases s <;> cases t <;> simp [signed, Int.natCast_mul, Int.neg_mul, Int.mul_neg]
theorem own_signed_scale (s : Bool) (c d : Nat) : signed s (c * d) = signed s c * (d : Int) := by cases s <;> simp [signed, Int.natCast_mul, Int.neg_mul]
theorem own_round {s : Bool} {c : Nat} {q : Int} {M : Nat} {e : Int} (h2 : -2148 ≤ q) (hM : M < 9007199254740992) (he1 : -1074 ≤ e) (he2 : e ≤ 971) (h : inUnits c q (-2148) = M * 2 ^ (e + 2148).toNat) :
    ∃ c' q', round b64 (.fin s c q) = .fin s c' q' ∧ inUnits c' q' b64.qmin = M * 2 ^ (e + 1074).toNat := by
  have hq : b64.qmin = -1074 := qmin_b64
  obtain ⟨c', q', h1, h3⟩ := round_exact good_b64 s (c := M) (q := e) (show M < 2 ^ 53 from hM) (by rw [hq]; omega) (by rw [own_qmax]; omega)
  refine ⟨c', q', ?_, ?_⟩
  · rw [← h1]
    show roundRatio b64 s c 1 q = roundRatio b64 s M 1 e
    refine roundRatio_congr (by decide) (by decide) ?_
    unfold inUnits at h
    have h4 := own_powc (u := (q - -2148).toNat) (v := (e + 2148).toNat) h (w := q - e) (by omega)
    rw [Nat.mul_one, Nat.mul_one, h4, show -(q - e) = e - q by omega]
  · rw [h3]; unfold inUnits; rw [hq, show e - -1074 = e + 1074 by omega]
theorem own_fin_split {x : UInt64} {n e : Int} (h : own_Is x n e) : ∃ s c q, val64 x = .fin s c q ∧ Jvm.FP.Core.fits b64 (.fin s c q) ∧ signed s (inUnits c q b64.qmin) = n * ((2 ^ (e + 1074).toNat : Nat) : Int) ∧ -1074 ≤ q := by
  obtain ⟨⟨s, c, q, hv⟩, he, hz⟩ := h
  have hf := val64_fits x
  rw [hv] at hf hz
  have := hf.2.1
  rw [qmin_b64] at this
  exact ⟨s, c, q, hv, hf, hz, this⟩
theorem own_Is_of {x : UInt64} {s : Bool} {c : Nat} {q n e : Int} (hv : val64 x = .fin s c q) (he : -1074 ≤ e) (h : signed s (inUnits c q b64.qmin) = n * ((2 ^ (e + 1074).toNat : Nat) : Int)) : own_Is x n e :=
  ⟨⟨s, c, q, hv⟩, he, by rw [hv]; exact h⟩
theorem own_sum {s : Bool} {c : Nat} {q n e : Int} (hq : -1074 ≤ q) (hn : n.natAbs < 9007199254740992) (he1 : -1074 ≤ e) (he2 : e ≤ 971) (h : signed s (inUnits c q b64.qmin) = n * ((2 ^ (e + 1074).toNat : Nat) : Int)) :
    ∃ c' q', round b64 (.fin s c q) = .fin s c' q' ∧ signed s (inUnits c' q' b64.qmin) = n * ((2 ^ (e + 1074).toNat : Nat) : Int) := by
  have h1 : inUnits c q b64.qmin = n.natAbs * 2 ^ (e + 1074).toNat := by
    rw [← own_signed_abs s (inUnits c q b64.qmin), h, Int.natAbs_mul, Int.natAbs_natCast]
  have h2 : inUnits c q (-2148) = n.natAbs * 2 ^ (e + 2148).toNat := by
    rw [inUnits_move c (r := b64.qmin) (by rw [qmin_b64]; omega) (by rw [qmin_b64]; omega), h1, qmin_b64, Nat.mul_assoc, ← Nat.pow_add]
    congr 2; omega
  obtain ⟨c', q', h3, h4⟩ := own_round (s := s) (by omega) hn he1 he2 h2
  exact ⟨c', q', h3, by rw [h4, ← h1, h]⟩
theorem own_add {x y : UInt64} {m n e : Int} (hx : own_Is x m e) (hy : own_Is y n e) (he : e ≤ 971) (hb : (m + n).natAbs < 9007199254740992) : own_Is (dadd x y) (m + n) e := by
  have he1 := hx.2.1
  obtain ⟨s, c, q, vx, fx, zx, -⟩ := own_fin_split hx
  obtain ⟨t, d, r, vy, fy, zy, -⟩ := own_fin_split hy
  obtain ⟨sg, N, E, h1, h2, h3⟩ := sum_units fx fy
  have h4 : signed sg (inUnits N E b64.qmin) = (m + n) * ((2 ^ (e + 1074).toNat : Nat) : Int) := by
    rw [h3, Int.add_mul, ← zx, ← zy]; rfl
  obtain ⟨c', q', h5, h6⟩ := own_sum (by rw [qmin_b64] at h2; exact h2) hb he1 he h4
  exact own_Is_of (by rw [val64_dadd, vx, vy, h1, h5]) he1 h6
theorem own_sub {x y : UInt64} {m n e : Int} (hx : own_Is x m e) (hy : own_Is y n e) (he : e ≤ 971) (hb : (m - n).natAbs < 9007199254740992) : own_Is (dsub x y) (m - n) e := by
  have he1 := hx.2.1
  obtain ⟨s, c, q, vx, fx, zx, -⟩ := own_fin_split hx
  obtain ⟨t, d, r, vy, fy, zy, -⟩ := own_fin_split hy
  have fy' : Jvm.FP.Core.fits b64 (.fin (!t) d r) := fy
  obtain ⟨sg, N, E, h1, h2, h3⟩ := sum_units (t := !t) fx fy'
  have h4 : signed sg (inUnits N E b64.qmin) = (m - n) * ((2 ^ (e + 1074).toNat : Nat) : Int) := by
    rw [h3, Int.sub_mul, ← zx, ← zy]
    show signed s (inUnits c q b64.qmin) + signed (!t) (inUnits d r b64.qmin) = _
    rw [signed_not]; omega
  obtain ⟨c', q', h5, h6⟩ := own_sum (by rw [qmin_b64] at h2; exact h2) hb he1 he h4
  refine own_Is_of (s := sg) (c := c') (q := q') ?_ he1 h6
  rw [val64_dsub, vx, vy]
  show round b64 (exactSum (.fin s c q) (.fin (!t) d r)) = _
  rw [h1, h5]
theorem own_mul {x y : UInt64} {m n e1 e2 e : Int} (hx : own_Is x m e1) (hy : own_Is y n e2) (hee : e1 + e2 = e) (he1 : -1074 ≤ e) (he2 : e ≤ 971) (hb : (m * n).natAbs < 9007199254740992) : own_Is (dmul x y) (m * n) e := by
  subst hee
  have hx1 := hx.2.1
  have hy1 := hy.2.1
  obtain ⟨s, c, q, vx, fx, zx, qx⟩ := own_fin_split hx
  obtain ⟨t, d, r, vy, fy, zy, qy⟩ := own_fin_split hy
  obtain ⟨h1, h2, h3⟩ := product_units fx fy
  have hs : signed (s != t) (inUnits (c * d) (q + r) (-2148)) = (m * n) * ((2 ^ (e1 + e2 + 2148).toNat : Nat) : Int) := by
    have h4 : inUnits (c * d) (q + r) (-2148) = inUnits c q b64.qmin * inUnits d r b64.qmin := by
      have := h3
      rw [qmin_b64] at this ⊢
      exact this
    rw [h4, own_signed_mul, zx, zy, show (e1 + e2 + 2148).toNat = (e1 + 1074).toNat + (e2 + 1074).toNat by omega, Nat.pow_add, Int.natCast_mul]
    simp only [Int.mul_assoc, Int.mul_left_comm, Int.mul_comm]
  have h5 : inUnits (c * d) (q + r) (-2148) = (m * n).natAbs * 2 ^ (e1 + e2 + 2148).toNat := by
    rw [← own_signed_abs (s != t) (inUnits (c * d) (q + r) (-2148)), hs, Int.natAbs_mul, Int.natAbs_natCast]
  obtain ⟨c', q', h6, h7⟩ := own_round (s := (s != t)) (by omega) hb he1 he2 h5
  refine own_Is_of (s := (s != t)) (c := c') (q := q') (by rw [val64_dmul, vx, vy, h1, h6]) he1 ?_
  rw [h5, own_signed_scale] at hs
  have h8 : signed (s != t) (m * n).natAbs = m * n := Int.eq_of_mul_eq_mul_right (by have := Nat.two_pow_pos (e1 + e2 + 2148).toNat; omega) hs
  rw [h7, own_signed_scale, h8]
/-- the quotient of two exact doubles is the rounded ratio of their numbers -/
theorem own_divR {x y : UInt64} {m n e1 e2 : Int} (hx : own_Is x m e1) (hy : own_Is y n e2) (hn : n ≠ 0) :
    val64 (ddiv x y) = roundRatio b64 (sgn (val64 x) != sgn (val64 y)) m.natAbs n.natAbs (e1 - e2) ∧ signed (sgn (val64 x)) m.natAbs = m ∧ signed (sgn (val64 y)) n.natAbs = n := by
  have hx1 := hx.2.1
  have hy1 := hy.2.1
  obtain ⟨s, c, q, vx, fx, zx, qx⟩ := own_fin_split hx
  obtain ⟨t, d, r, vy, fy, zy, qy⟩ := own_fin_split hy
  have ax : inUnits c q b64.qmin = m.natAbs * 2 ^ (e1 + 1074).toNat := by
    rw [← own_signed_abs s (inUnits c q b64.qmin), zx, Int.natAbs_mul, Int.natAbs_natCast]
  have ay : inUnits d r b64.qmin = n.natAbs * 2 ^ (e2 + 1074).toNat := by
    rw [← own_signed_abs t (inUnits d r b64.qmin), zy, Int.natAbs_mul, Int.natAbs_natCast]
  have sx : signed s m.natAbs = m := by
    rw [ax, own_signed_scale] at zx
    exact Int.eq_of_mul_eq_mul_right (by have := Nat.two_pow_pos (e1 + 1074).toNat; omega) zx
  have sy : signed t n.natAbs = n := by
    rw [ay, own_signed_scale] at zy
    exact Int.eq_of_mul_eq_mul_right (by have := Nat.two_pow_pos (e2 + 1074).toNat; omega) zy
  have nn : n.natAbs ≠ 0 := by omega
  have hd : d ≠ 0 := by
    rintro rfl
    have : n.natAbs * 2 ^ (e2 + 1074).toNat = 0 := by rw [← ay]; unfold inUnits; simp
    rcases Nat.mul_eq_zero.mp this with h | h
    · exact nn h
    · have := Nat.two_pow_pos (e2 + 1074).toNat; omega
  refine ⟨?_, by rw [vx]; exact sx, by rw [vy]; exact sy⟩
  rw [val64_ddiv, vx, vy]
  show (if d = 0 then _ else roundRatio b64 (s != t) c d (q - r)) = roundRatio b64 (s != t) _ _ _
  rw [if_neg hd]
  refine roundRatio_congr (by omega) (by omega) ?_
  unfold inUnits at ax ay
  rw [qmin_b64] at ax ay
  have key : c * n.natAbs * 2 ^ ((q - -1074).toNat + (e2 + 1074).toNat) = m.natAbs * d * 2 ^ ((e1 + 1074).toNat + (r - -1074).toNat) := by
    have e3 : c * n.natAbs * 2 ^ ((q - -1074).toNat + (e2 + 1074).toNat) = (c * 2 ^ (q - -1074).toNat) * (n.natAbs * 2 ^ (e2 + 1074).toNat) := by
      rw [Nat.pow_add]; simp only [Nat.mul_assoc, Nat.mul_left_comm, Nat.mul_comm]
    rw [e3, ax, ← ay, Nat.pow_add]
    simp only [Nat.mul_assoc, Nat.mul_left_comm, Nat.mul_comm]
  have h4 := own_powc key (w := (q - r) - (e1 - e2)) (by omega)
  rw [h4, show -((q - r) - (e1 - e2)) = (e1 - e2) - (q - r) by omega]
theorem own_div {x y : UInt64} {m n N e1 e2 e : Int} (hx : own_Is x m e1) (hy : own_Is y n e2) (hn : n ≠ 0) (hm : m = N * n) (hee : e1 - e2 = e) (he1 : -1074 ≤ e) (he2 : e ≤ 971) (hb : N.natAbs < 9007199254740992) : own_Is (ddiv x y) N e := by
  subst hee
  obtain ⟨h1, h2, h3⟩ := own_divR hx hy hn
  have hq : b64.qmin = -1074 := qmin_b64
  obtain ⟨c', q', h5, h6⟩ := round_exact good_b64 (sgn (val64 x) != sgn (val64 y)) (c := N.natAbs) (q := e1 - e2) (show _ < 2 ^ 53 from hb) (by rw [hq]; omega) (by rw [own_qmax]; omega)
  refine own_Is_of (s := (sgn (val64 x) != sgn (val64 y))) (c := c') (q := q') ?_ he1 ?_
  · rw [h1, ← h5]
    show roundRatio _ _ _ _ _ = roundRatio b64 (sgn (val64 x) != sgn (val64 y)) N.natAbs 1 (e1 - e2)
    refine roundRatio_congr (by omega) (by decide) ?_
    rw [hm, Int.natAbs_mul]; simp
  · rw [h6]; unfold inUnits
    rw [hq, show e1 - e2 - -1074 = e1 - e2 + 1074 by omega, own_signed_scale]
    congr 1
    have h7 := own_signed_mul (sgn (val64 x)) (sgn (val64 y)) N.natAbs (n.natAbs * n.natAbs)
    have h8 : signed (sgn (val64 x) != sgn (val64 y)) (m.natAbs * n.natAbs) = m * n := by rw [own_signed_mul, h2, h3]
    rw [hm, Int.natAbs_mul, Nat.mul_assoc, own_signed_scale] at h8
    have h9 : ((n.natAbs * n.natAbs : Nat) : Int) = n * n := Int.natAbs_mul_self
    rw [h9, Int.mul_assoc] at h8
    refine Int.eq_of_mul_eq_mul_right ?_ h8
    intro h0
    rcases Int.mul_eq_zero.mp h0 with h | h <;> exact hn h
theorem own_shift {x : UInt64} {n e e' : Int} (j : Nat) (hx : own_Is x n e) (hj : e' = e - j) (he : -1074 ≤ e') : own_Is x (n * (2 ^ j : Nat)) e' := by
  subst hj
  refine ⟨hx.1, he, ?_⟩
  rw [hx.2.2, show (e + 1074).toNat = j + (e - j + 1074).toNat by omega, Nat.pow_add, Int.natCast_mul, ← Int.mul_assoc]
theorem own_nn {x : UInt64} {n e : Int} (h : own_Is x n e) : Jvm.Free.Fl.NoNaN64 x := Jvm.Free.Fl.noNaN64_no.mpr h.1.notNaN
theorem own_cmp {x y : UInt64} {m n e : Int} (hx : own_Is x m e) (hy : own_Is y n e) : dcmp x y = some (compare m n) := by
  rw [dcmp_zval hx.1.ne_nan hy.1.ne_nan, hx.2.2, hy.2.2]
  have hp : (0 : Int) < ((2 ^ (e + 1074).toNat : Nat) : Int) := by have := Nat.two_pow_pos (e + 1074).toNat; omega
  congr 1
  refine compare_congr ⟨fun h => Int.lt_of_mul_lt_mul_right h (Int.le_of_lt hp), fun h => Int.mul_lt_mul_of_pos_right h hp⟩ ⟨fun h => Int.eq_of_mul_eq_mul_right (Int.ne_of_gt hp) h, fun h => by rw [h]⟩
theorem own_i2d (a : Int32) : own_Is (i2d a) a.toInt 0 := by
  have h := i2d_int a
  refine ⟨?_, by decide, ?_⟩
  · rw [i2d_l2d]; exact l2d_fin _
  · rw [DInt_zval h]; rfl
theorem own_l2d {a : Int64} (h : a.toInt.natAbs ≤ 9007199254740992) : own_Is (l2d a) a.toInt 0 := by
  have h := l2d_int (a := a) h
  exact ⟨l2d_fin _, by decide, by rw [DInt_zval h]; rfl⟩
/-- with a bound on the number -/
def own_B (x : UInt64) (n e B : Int) : Prop := own_Is x n e ∧ -B ≤ n ∧ n ≤ B
theorem own_B.is {x : UInt64} {n e B : Int} (h : own_B x n e B) : own_Is x n e := h.1
theorem own_B.nn {x : UInt64} {n e B : Int} (h : own_B x n e B) : Jvm.Free.Fl.NoNaN64 x := own_nn h.1
theorem own_Badd {x y : UInt64} {m n e A B : Int} (hx : own_B x m e A) (hy : own_B y n e B) (h : (decide (e ≤ 971) && decide (A + B < 9007199254740992)) = true) : own_B (dadd x y) (m + n) e (A + B) := by
  simp only [Bool.and_eq_true, decide_eq_true_eq] at h
  have := hx.2; have := hy.2
  exact ⟨own_add hx.1 hy.1 h.1 (by omega), by omega, by omega⟩
theorem own_Bsub {x y : UInt64} {m n e A B : Int} (hx : own_B x m e A) (hy : own_B y n e B) (h : (decide (e ≤ 971) && decide (A + B < 9007199254740992)) = true) : own_B (dsub x y) (m - n) e (A + B) := by
  simp only [Bool.and_eq_true, decide_eq_true_eq] at h
  have := hx.2; have := hy.2
  exact ⟨own_sub hx.1 hy.1 h.1 (by omega), by omega, by omega⟩
theorem own_bmul {m n A B : Int} (hm : -A ≤ m ∧ m ≤ A) (hn : -B ≤ n ∧ n ≤ B) : -(A * B) ≤ m * n ∧ m * n ≤ A * B := by
  have h : (m * n).natAbs ≤ A.toNat * B.toNat := by rw [Int.natAbs_mul]; exact Nat.mul_le_mul (by omega) (by omega)
  have h2 : ((A.toNat * B.toNat : Nat) : Int) = A * B := by rw [Int.natCast_mul, Int.toNat_of_nonneg (by omega), Int.toNat_of_nonneg (by omega)]
  omega
theorem own_Bmul {x y : UInt64} {m n e1 e2 A B : Int} (hx : own_B x m e1 A) (hy : own_B y n e2 B) (h : (decide (-1074 ≤ e1 + e2) && decide (e1 + e2 ≤ 971) && decide (A * B < 9007199254740992)) = true) : own_B (dmul x y) (m * n) (e1 + e2) (A * B) := by
  simp only [Bool.and_eq_true, decide_eq_true_eq] at h
  have hb := own_bmul hx.2 hy.2
  exact ⟨own_mul hx.1 hy.1 rfl h.1.1 h.1.2 (by omega), hb⟩
/-- an exact quotient by a power of two (n = 1 in y = 1 * 2^e2) -/
theorem own_Bdiv {x y : UInt64} {m e1 e2 A : Int} (hx : own_B x m e1 A) (hy : own_Is y 1 e2) (h : (decide (-1074 ≤ e1 - e2) && decide (e1 - e2 ≤ 971) && decide (A < 9007199254740992)) = true) : own_B (ddiv x y) m (e1 - e2) A := by
  simp only [Bool.and_eq_true, decide_eq_true_eq] at h
  have := hx.2
  exact ⟨own_div hx.1 hy (by decide) (Int.mul_one _).symm rfl h.1.1 h.1.2 (by omega), hx.2⟩
theorem own_Bshift {x : UInt64} {n e A : Int} (j : Nat) (P : Int) (hx : own_B x n e A) (h : (decide (-1074 ≤ e - j) && decide (((2 ^ j : Nat) : Int) = P)) = true) : own_B x (n * P) (e - j) (A * P) := by
  simp only [Bool.and_eq_true, decide_eq_true_eq] at h
  obtain ⟨h, rfl⟩ := h
  refine ⟨own_shift j hx.1 rfl h, ?_⟩
  have hp : (0 : Int) ≤ (2 ^ j : Nat) := Int.natCast_nonneg _
  have := hx.2
  constructor
  · rw [← Int.neg_mul]; exact Int.mul_le_mul_of_nonneg_right this.1 hp
  · exact Int.mul_le_mul_of_nonneg_right this.2 hp
theorem own_Bcast {x : UInt64} {n n' e e' A A' : Int} (h : own_B x n e A) (hn : n = n') (he : e = e') (hA : A ≤ A') : own_B x n' e' A' := by
  subst hn he; exact ⟨h.1, by have := h.2; omega, by have := h.2; omega⟩
theorem own_eq0 {x y : UInt64} {m n e : Int} (hx : own_Is x m e) (hy : own_Is y n e) (h : m = n) (o : ClassFile.CmpOp) : Op.cmpValue (Jvm.FP.dcmp x y) o = 0 := by
  show Op.cmpValue (dcmp x y) o = 0
  subst h
  rw [own_cmp hx hy, show compare m m = .eq from (compare_eq_iff m m).mpr rfl]; cases o <;> rfl
theorem own_cmpv {x y : UInt64} {m n e : Int} (hx : own_Is x m e) (hy : own_Is y n e) (o : ClassFile.CmpOp) : (m < n → Op.cmpValue (Jvm.FP.dcmp x y) o = -1) ∧ (m = n → Op.cmpValue (Jvm.FP.dcmp x y) o = 0) ∧ (n < m → Op.cmpValue (Jvm.FP.dcmp x y) o = 1) := by
  refine ⟨fun h => ?_, fun h => own_eq0 hx hy h o, fun h => ?_⟩
  · show Op.cmpValue (dcmp x y) o = -1
    rw [own_cmp hx hy, (compare_lt_iff m n).mpr h]; cases o <;> rfl
  · show Op.cmpValue (dcmp x y) o = 1
    rw [own_cmp hx hy, (compare_gt_iff m n).mpr h]; cases o <;> rfl
theorem own_one : own_Is 4607182418800017408 1 0 := ⟨(fin_bits _).mpr (by decide), by decide, by decide +kernel⟩
theorem own_zero : own_Is 0 0 0 := ⟨(fin_bits _).mpr (by decide), by decide, by decide +kernel⟩
/-! ints and longs with their numbers and bounds -/
def own_I (v : Int32) (n B : Int) : Prop := v.toInt = n ∧ -B ≤ n ∧ n ≤ B
def own_L (v : Int64) (n B : Int) : Prop := v.toInt = n ∧ -B ≤ n ∧ n ≤ B
theorem own_Iadd {a b v : Int32} {m n A B : Int} (hv : a + b = v) (ha : own_I a m A) (hb : own_I b n B) (h : decide (A + B < 2147483648) = true) : own_I v (m + n) (A + B) := by
  subst hv; simp only [decide_eq_true_eq] at h; obtain ⟨rfl, h1, h2⟩ := ha; obtain ⟨rfl, h3, h4⟩ := hb
  exact ⟨by rw [Int32.toInt_add]; exact Int.bmod_eq_of_le (by omega) (by omega), by omega, by omega⟩
theorem own_Isub {a b v : Int32} {m n A B : Int} (hv : a - b = v) (ha : own_I a m A) (hb : own_I b n B) (h : decide (A + B < 2147483648) = true) : own_I v (m - n) (A + B) := by
  subst hv; simp only [decide_eq_true_eq] at h; obtain ⟨rfl, h1, h2⟩ := ha; obtain ⟨rfl, h3, h4⟩ := hb
  exact ⟨by rw [Int32.toInt_sub]; exact Int.bmod_eq_of_le (by omega) (by omega), by omega, by omega⟩
theorem own_Imul {a b v : Int32} {m n A B : Int} (hv : a * b = v) (ha : own_I a m A) (hb : own_I b n B) (h : decide (A * B < 2147483648) = true) : own_I v (m * n) (A * B) := by
  subst hv; simp only [decide_eq_true_eq] at h; obtain ⟨rfl, h1⟩ := ha; obtain ⟨rfl, h3⟩ := hb
  have hb := own_bmul h1 h3
  exact ⟨by rw [Int32.toInt_mul]; exact Int.bmod_eq_of_le (by omega) (by omega), hb⟩
theorem own_Ladd {a b v : Int64} {m n A B : Int} (hv : a + b = v) (ha : own_L a m A) (hb : own_L b n B) (h : decide (A + B < 9223372036854775808) = true) : own_L v (m + n) (A + B) := by
  subst hv; simp only [decide_eq_true_eq] at h; obtain ⟨rfl, h1, h2⟩ := ha; obtain ⟨rfl, h3, h4⟩ := hb
  exact ⟨by rw [Int64.toInt_add]; exact Int.bmod_eq_of_le (by omega) (by omega), by omega, by omega⟩
theorem own_Lsub {a b v : Int64} {m n A B : Int} (hv : a - b = v) (ha : own_L a m A) (hb : own_L b n B) (h : decide (A + B < 9223372036854775808) = true) : own_L v (m - n) (A + B) := by
  subst hv; simp only [decide_eq_true_eq] at h; obtain ⟨rfl, h1, h2⟩ := ha; obtain ⟨rfl, h3, h4⟩ := hb
  exact ⟨by rw [Int64.toInt_sub]; exact Int.bmod_eq_of_le (by omega) (by omega), by omega, by omega⟩
theorem own_Lmul {a b v : Int64} {m n A B : Int} (hv : a * b = v) (ha : own_L a m A) (hb : own_L b n B) (h : decide (A * B < 9223372036854775808) = true) : own_L v (m * n) (A * B) := by
  subst hv; simp only [decide_eq_true_eq] at h; obtain ⟨rfl, h1⟩ := ha; obtain ⟨rfl, h3⟩ := hb
  have hb := own_bmul h1 h3
  exact ⟨by rw [Int64.toInt_mul]; exact Int.bmod_eq_of_le (by omega) (by omega), hb⟩
theorem own_Ii2l {a : Int32} {v : Int64} {m A : Int} (hv : Int32.toInt64 a = v) (ha : own_I a m A) : own_L v m A := by
  subst hv; exact ⟨by rw [Int32.toInt_toInt64]; exact ha.1, ha.2⟩
theorem own_Icast {v : Int32} {n n' A A' : Int} (h : own_I v n A) (hn : n = n') (hA : A ≤ A') : own_I v n' A' := by
  subst hn; exact ⟨h.1, by have := h.2; omega, by have := h.2; omega⟩
theorem own_Lcast {v : Int64} {n n' A A' : Int} (h : own_L v n A) (hn : n = n') (hA : A ≤ A') : own_L v n' A' := by
  subst hn; exact ⟨h.1, by have := h.2; omega, by have := h.2; omega⟩
theorem own_Bi2d {v : Int32} {n A : Int} (h : own_I v n A) : own_B (i2d v) n 0 A := by
  obtain ⟨rfl, h1⟩ := h; exact ⟨own_i2d v, h1⟩
theorem own_Bl2d {v : Int64} {n A : Int} (h : own_L v n A) (hA : decide (A ≤ 9007199254740992) = true) : own_B (l2d v) n 0 A := by
  simp only [decide_eq_true_eq] at hA; obtain ⟨rfl, h1⟩ := h; exact ⟨own_l2d (by omega), h1⟩
theorem own_Irng (v : Int32) : own_I v v.toInt 2147483648 := ⟨rfl, by have := Jvm.RoadKit.rng32 v; omega, by have := Jvm.RoadKit.rng32 v; omega⟩
theorem own_Iand {x m v : Int32} {B : Int} (hv : x &&& m = v) (hB : m.toInt = B) (h0 : 0 ≤ B) : own_I v v.toInt B := by
  have := Jvm.RoadKit.c_and x m (by omega); rw [hv] at this; exact ⟨rfl, by omega, by omega⟩
end OwnFP
section OwnStep
open Jvm Jvm.ClassFile Sem Op Lib Jvm.Free Jvm.Stand Jvm.LawKit Jvm.RoadKit
variable {tb : Tables} [Ours tb] {e : Env} {below : List Frame} {T target : State} {m : MethodId} {c : Code} {pc pc' : Nat} {L : Array Slot} {S : List Value}
theorem own_s_iadd (h : At T m c below) (hx : tb.exec = Jvm.exec) {x y v : Int32} (hd : decode c.code pc = .ok (.iadd, 1)) (hp : pc + 1 = pc') (hv : x + y = v)
    (hr : Steps tb e below (T.setTop (mkF m pc' L (.int v :: S))) target) : Steps tb e below (T.setTop (mkF m pc L (.int y :: .int x :: S))) target := by
  subst hv hp; exact XS.iadd h hx rfl hd rfl hr
theorem own_s_ladd (h : At T m c below) (hx : tb.exec = Jvm.exec) {x y v : Int64} (hd : decode c.code pc = .ok (.ladd, 1)) (hp : pc + 1 = pc') (hv : x + y = v)
    (hr : Steps tb e below (T.setTop (mkF m pc' L (.long v :: S))) target) : Steps tb e below (T.setTop (mkF m pc L (.long y :: .long x :: S))) target := by
  subst hv hp; exact XS.ladd h hx rfl hd rfl hr
theorem own_s_isub (h : At T m c below) (hx : tb.exec = Jvm.exec) {x y v : Int32} (hd : decode c.code pc = .ok (.isub, 1)) (hp : pc + 1 = pc') (hv : x - y = v)
    (hr : Steps tb e below (T.setTop (mkF m pc' L (.int v :: S))) target) : Steps tb e below (T.setTop (mkF m pc L (.int y :: .int x :: S))) target := by
  subst hv hp; exact XS.isub h hx rfl hd rfl hr
theorem own_s_lsub (h : At T m c below) (hx : tb.exec = Jvm.exec) {x y v : Int64} (hd : decode c.code pc = .ok (.lsub, 1)) (hp : pc + 1 = pc') (hv : x - y = v)
    (hr : Steps tb e below (T.setTop (mkF m pc' L (.long v :: S))) target) : Steps tb e below (T.setTop (mkF m pc L (.long y :: .long x :: S))) target := by
  subst hv hp; exact XS.lsub h hx rfl hd rfl hr
theorem own_s_imul (h : At T m c below) (hx : tb.exec = Jvm.exec) {x y v : Int32} (hd : decode c.code pc = .ok (.imul, 1)) (hp : pc + 1 = pc') (hv : x * y = v)
    (hr : Steps tb e below (T.setTop (mkF m pc' L (.int v :: S))) target) : Steps tb e below (T.setTop (mkF m pc L (.int y :: .int x :: S))) target := by
  subst hv hp; exact XS.imul h hx rfl hd rfl hr
theorem own_s_lmul (h : At T m c below) (hx : tb.exec = Jvm.exec) {x y v : Int64} (hd : decode c.code pc = .ok (.lmul, 1)) (hp : pc + 1 = pc') (hv : x * y = v)
    (hr : Steps tb e below (T.setTop (mkF m pc' L (.long v :: S))) target) : Steps tb e below (T.setTop (mkF m pc L (.long y :: .long x :: S))) target := by
  subst hv hp; exact XS.lmul h hx rfl hd rfl hr
theorem own_s_iand (h : At T m c below) (hx : tb.exec = Jvm.exec) {x y v : Int32} (hd : decode c.code pc = .ok (.iand, 1)) (hp : pc + 1 = pc') (hv : x &&& y = v)
    (hr : Steps tb e below (T.setTop (mkF m pc' L (.int v :: S))) target) : Steps tb e below (T.setTop (mkF m pc L (.int y :: .int x :: S))) target := by
  subst hv hp; exact XS.iand h hx rfl hd rfl hr
theorem own_s_land (h : At T m c below) (hx : tb.exec = Jvm.exec) {x y v : Int64} (hd : decode c.code pc = .ok (.land, 1)) (hp : pc + 1 = pc') (hv : x &&& y = v)
    (hr : Steps tb e below (T.setTop (mkF m pc' L (.long v :: S))) target) : Steps tb e below (T.setTop (mkF m pc L (.long y :: .long x :: S))) target := by
  subst hv hp; exact XS.land h hx rfl hd rfl hr
theorem own_s_ior (h : At T m c below) (hx : tb.exec = Jvm.exec) {x y v : Int32} (hd : decode c.code pc = .ok (.ior, 1)) (hp : pc + 1 = pc') (hv : x ||| y = v)
    (hr : Steps tb e below (T.setTop (mkF m pc' L (.int v :: S))) target) : Steps tb e below (T.setTop (mkF m pc L (.int y :: .int x :: S))) target := by
  subst hv hp; exact XS.ior h hx rfl hd rfl hr
theorem own_s_lor (h : At T m c below) (hx : tb.exec = Jvm.exec) {x y v : Int64} (hd : decode c.code pc = .ok (.lor, 1)) (hp : pc + 1 = pc') (hv : x ||| y = v)
    (hr : Steps tb e below (T.setTop (mkF m pc' L (.long v :: S))) target) : Steps tb e below (T.setTop (mkF m pc L (.long y :: .long x :: S))) target := by
  subst hv hp; exact XS.lor h hx rfl hd rfl hr
theorem own_s_ixor (h : At T m c below) (hx : tb.exec = Jvm.exec) {x y v : Int32} (hd : decode c.code pc = .ok (.ixor, 1)) (hp : pc + 1 = pc') (hv : x ^^^ y = v)
    (hr : Steps tb e below (T.setTop (mkF m pc' L (.int v :: S))) target) : Steps tb e below (T.setTop (mkF m pc L (.int y :: .int x :: S))) target := by
  subst hv hp; exact XS.ixor h hx rfl hd rfl hr
theorem own_s_lxor (h : At T m c below) (hx : tb.exec = Jvm.exec) {x y v : Int64} (hd : decode c.code pc = .ok (.lxor, 1)) (hp : pc + 1 = pc') (hv : x ^^^ y = v)
    (hr : Steps tb e below (T.setTop (mkF m pc' L (.long v :: S))) target) : Steps tb e below (T.setTop (mkF m pc L (.long y :: .long x :: S))) target := by
  subst hv hp; exact XS.lxor h hx rfl hd rfl hr
theorem own_s_idiv (h : At T m c below) (hx : tb.exec = Jvm.exec) {x y v : Int32} (hd : decode c.code pc = .ok (.idiv, 1)) (hp : pc + 1 = pc') (hy : y ≠ 0) (hv : x / y = v)
    (hr : Steps tb e below (T.setTop (mkF m pc' L (.int v :: S))) target) : Steps tb e below (T.setTop (mkF m pc L (.int y :: .int x :: S))) target := by
  subst hv hp; exact XS.idiv h hx rfl hd rfl hy hr
theorem own_s_irem (h : At T m c below) (hx : tb.exec = Jvm.exec) {x y v : Int32} (hd : decode c.code pc = .ok (.irem, 1)) (hp : pc + 1 = pc') (hy : y ≠ 0) (hv : x % y = v)
    (hr : Steps tb e below (T.setTop (mkF m pc' L (.int v :: S))) target) : Steps tb e below (T.setTop (mkF m pc L (.int y :: .int x :: S))) target := by
  subst hv hp; rw [← irem_eq_mod] at hr; exact XS.irem h hx rfl hd rfl hy hr
theorem own_s_ldiv (h : At T m c below) (hx : tb.exec = Jvm.exec) {x y v : Int64} (hd : decode c.code pc = .ok (.ldiv, 1)) (hp : pc + 1 = pc') (hy : y ≠ 0) (hv : x / y = v)
    (hr : Steps tb e below (T.setTop (mkF m pc' L (.long v :: S))) target) : Steps tb e below (T.setTop (mkF m pc L (.long y :: .long x :: S))) target := by
  subst hv hp; exact XS.ldiv h hx rfl hd rfl hy hr
theorem own_s_lrem (h : At T m c below) (hx : tb.exec = Jvm.exec) {x y v : Int64} (hd : decode c.code pc = .ok (.lrem, 1)) (hp : pc + 1 = pc') (hy : y ≠ 0) (hv : x % y = v)
    (hr : Steps tb e below (T.setTop (mkF m pc' L (.long v :: S))) target) : Steps tb e below (T.setTop (mkF m pc L (.long y :: .long x :: S))) target := by
  subst hv hp; rw [← lrem_mod] at hr; exact XS.lrem h hx rfl hd rfl hy hr
theorem own_s_ishl (h : At T m c below) (hx : tb.exec = Jvm.exec) {x y v : Int32} (hd : decode c.code pc = .ok (.ishl, 1)) (hp : pc + 1 = pc') (hv : x <<< (y &&& 31) = v)
    (hr : Steps tb e below (T.setTop (mkF m pc' L (.int v :: S))) target) : Steps tb e below (T.setTop (mkF m pc L (.int y :: .int x :: S))) target := by
  subst hv hp; exact XS.ishl h hx rfl hd rfl hr
theorem own_s_ishr (h : At T m c below) (hx : tb.exec = Jvm.exec) {x y v : Int32} (hd : decode c.code pc = .ok (.ishr, 1)) (hp : pc + 1 = pc') (hv : x >>> (y &&& 31) = v)
    (hr : Steps tb e below (T.setTop (mkF m pc' L (.int v :: S))) target) : Steps tb e below (T.setTop (mkF m pc L (.int y :: .int x :: S))) target := by
  subst hv hp; exact XS.ishr h hx rfl hd rfl hr
theorem own_s_iushr (h : At T m c below) (hx : tb.exec = Jvm.exec) {x y v : Int32} (hd : decode c.code pc = .ok (.iushr, 1)) (hp : pc + 1 = pc') (hv : (x.toUInt32 >>> (y &&& 31).toUInt32).toInt32 = v)
    (hr : Steps tb e below (T.setTop (mkF m pc' L (.int v :: S))) target) : Steps tb e below (T.setTop (mkF m pc L (.int y :: .int x :: S))) target := by
  subst hv hp; exact XS.iushr h hx rfl hd rfl hr
theorem own_s_lshl (h : At T m c below) (hx : tb.exec = Jvm.exec) {x v : Int64} {y : Int32} (hd : decode c.code pc = .ok (.lshl, 1)) (hp : pc + 1 = pc') (hv : x <<< (y &&& 63).toInt64 = v)
    (hr : Steps tb e below (T.setTop (mkF m pc' L (.long v :: S))) target) : Steps tb e below (T.setTop (mkF m pc L (.int y :: .long x :: S))) target := by
  subst hv hp; exact XS.lshl h hx rfl hd rfl hr
theorem own_s_lshr (h : At T m c below) (hx : tb.exec = Jvm.exec) {x v : Int64} {y : Int32} (hd : decode c.code pc = .ok (.lshr, 1)) (hp : pc + 1 = pc') (hv : x >>> (y &&& 63).toInt64 = v)
    (hr : Steps tb e below (T.setTop (mkF m pc' L (.long v :: S))) target) : Steps tb e below (T.setTop (mkF m pc L (.int y :: .long x :: S))) target := by
  subst hv hp; exact XS.lshr h hx rfl hd rfl hr
theorem own_s_lushr (h : At T m c below) (hx : tb.exec = Jvm.exec) {x v : Int64} {y : Int32} (hd : decode c.code pc = .ok (.lushr, 1)) (hp : pc + 1 = pc') (hv : (x.toUInt64 >>> (y &&& 63).toInt64.toUInt64).toInt64 = v)
    (hr : Steps tb e below (T.setTop (mkF m pc' L (.long v :: S))) target) : Steps tb e below (T.setTop (mkF m pc L (.int y :: .long x :: S))) target := by
  subst hv hp; exact XS.lushr h hx rfl hd rfl hr
theorem own_s_i2l (h : At T m c below) (hx : tb.exec = Jvm.exec) {x : Int32} {v : Int64} (hd : decode c.code pc = .ok (.i2l, 1)) (hp : pc + 1 = pc') (hv : x.toInt64 = v)
    (hr : Steps tb e below (T.setTop (mkF m pc' L (.long v :: S))) target) : Steps tb e below (T.setTop (mkF m pc L (.int x :: S))) target := by
  subst hv hp; exact XS.i2l h hx rfl hd rfl hr
theorem own_s_l2i (h : At T m c below) (hx : tb.exec = Jvm.exec) {x : Int64} {v : Int32} (hd : decode c.code pc = .ok (.l2i, 1)) (hp : pc + 1 = pc') (hv : x.toInt32 = v)
    (hr : Steps tb e below (T.setTop (mkF m pc' L (.int v :: S))) target) : Steps tb e below (T.setTop (mkF m pc L (.long x :: S))) target := by
  subst hv hp; exact XS.l2i h hx rfl hd rfl hr
theorem own_s_i2b (h : At T m c below) (hx : tb.exec = Jvm.exec) {x : Int32} {v : Int32} (hd : decode c.code pc = .ok (.i2b, 1)) (hp : pc + 1 = pc') (hv : x.toInt8.toInt32 = v)
    (hr : Steps tb e below (T.setTop (mkF m pc' L (.int v :: S))) target) : Steps tb e below (T.setTop (mkF m pc L (.int x :: S))) target := by
  subst hv hp; exact XS.i2b h hx rfl hd rfl hr
theorem own_s_i2s (h : At T m c below) (hx : tb.exec = Jvm.exec) {x : Int32} {v : Int32} (hd : decode c.code pc = .ok (.i2s, 1)) (hp : pc + 1 = pc') (hv : x.toInt16.toInt32 = v)
    (hr : Steps tb e below (T.setTop (mkF m pc' L (.int v :: S))) target) : Steps tb e below (T.setTop (mkF m pc L (.int x :: S))) target := by
  subst hv hp; exact XS.i2s h hx rfl hd rfl hr
theorem own_s_ineg (h : At T m c below) (hx : tb.exec = Jvm.exec) {x : Int32} {v : Int32} (hd : decode c.code pc = .ok (.ineg, 1)) (hp : pc + 1 = pc') (hv : -x = v)
    (hr : Steps tb e below (T.setTop (mkF m pc' L (.int v :: S))) target) : Steps tb e below (T.setTop (mkF m pc L (.int x :: S))) target := by
  subst hv hp; exact XS.ineg h hx rfl hd rfl hr
theorem own_s_lneg (h : At T m c below) (hx : tb.exec = Jvm.exec) {x : Int64} {v : Int64} (hd : decode c.code pc = .ok (.lneg, 1)) (hp : pc + 1 = pc') (hv : -x = v)
    (hr : Steps tb e below (T.setTop (mkF m pc' L (.long v :: S))) target) : Steps tb e below (T.setTop (mkF m pc L (.long x :: S))) target := by
  subst hv hp; exact XS.lneg h hx rfl hd rfl hr
theorem own_s_i2d (h : At T m c below) (hx : tb.exec = Jvm.exec) {x : Int32} {v : UInt64} (hd : decode c.code pc = .ok (.i2d, 1)) (hp : pc + 1 = pc') (hv : FP.i2d x = v)
    (hr : Steps tb e below (T.setTop (mkF m pc' L (.double v :: S))) target) : Steps tb e below (T.setTop (mkF m pc L (.int x :: S))) target := by
  subst hv hp; exact XS.i2dS h hx rfl hd rfl rfl hr
theorem own_s_l2d (h : At T m c below) (hx : tb.exec = Jvm.exec) {x : Int64} {v : UInt64} (hd : decode c.code pc = .ok (.l2d, 1)) (hp : pc + 1 = pc') (hv : FP.l2d x = v)
    (hr : Steps tb e below (T.setTop (mkF m pc' L (.double v :: S))) target) : Steps tb e below (T.setTop (mkF m pc L (.long x :: S))) target := by
  subst hv hp; exact XS.l2dS h hx rfl hd rfl rfl hr
theorem own_s_dneg (h : At T m c below) (hx : tb.exec = Jvm.exec) {x : UInt64} {v : UInt64} (hd : decode c.code pc = .ok (.dneg, 1)) (hp : pc + 1 = pc') (hv : FP.dneg x = v)
    (hr : Steps tb e below (T.setTop (mkF m pc' L (.double v :: S))) target) : Steps tb e below (T.setTop (mkF m pc L (.double x :: S))) target := by
  subst hv hp; exact XS.dnegS h hx rfl hd rfl rfl hr
theorem own_s_dadd (h : At T m c below) (hx : tb.exec = Jvm.exec) {x y v : UInt64} (hd : decode c.code pc = .ok (.dadd, 1)) (hp : pc + 1 = pc') (hn : Jvm.Free.Fl.NoNaN64 (FP.dadd x y)) (hv : FP.dadd x y = v)
    (hr : Steps tb e below (T.setTop (mkF m pc' L (.double v :: S))) target) : Steps tb e below (T.setTop (mkF m pc L (.double y :: .double x :: S))) target := by
  subst hv hp; exact XS.daddS h hx rfl hd rfl hn rfl hr
theorem own_s_dsub (h : At T m c below) (hx : tb.exec = Jvm.exec) {x y v : UInt64} (hd : decode c.code pc = .ok (.dsub, 1)) (hp : pc + 1 = pc') (hn : Jvm.Free.Fl.NoNaN64 (FP.dsub x y)) (hv : FP.dsub x y = v)
    (hr : Steps tb e below (T.setTop (mkF m pc' L (.double v :: S))) target) : Steps tb e below (T.setTop (mkF m pc L (.double y :: .double x :: S))) target := by
  subst hv hp; exact XS.dsubS h hx rfl hd rfl hn rfl hr
theorem own_s_dmul (h : At T m c below) (hx : tb.exec = Jvm.exec) {x y v : UInt64} (hd : decode c.code pc = .ok (.dmul, 1)) (hp : pc + 1 = pc') (hn : Jvm.Free.Fl.NoNaN64 (FP.dmul x y)) (hv : FP.dmul x y = v)
    (hr : Steps tb e below (T.setTop (mkF m pc' L (.double v :: S))) target) : Steps tb e below (T.setTop (mkF m pc L (.double y :: .double x :: S))) target := by
  subst hv hp; exact XS.dmulS h hx rfl hd rfl hn rfl hr
theorem own_s_ddiv (h : At T m c below) (hx : tb.exec = Jvm.exec) {x y v : UInt64} (hd : decode c.code pc = .ok (.ddiv, 1)) (hp : pc + 1 = pc') (hn : Jvm.Free.Fl.NoNaN64 (FP.ddiv x y)) (hv : FP.ddiv x y = v)
    (hr : Steps tb e below (T.setTop (mkF m pc' L (.double v :: S))) target) : Steps tb e below (T.setTop (mkF m pc L (.double y :: .double x :: S))) target := by
  subst hv hp; exact XS.ddivS h hx rfl hd rfl hn rfl hr
theorem own_s_dcmp (h : At T m c below) (hx : tb.exec = Jvm.exec) {o : CmpOp} {x y : UInt64} {v : Int32} (hd : decode c.code pc = .ok (.dcmp o, 1)) (hp : pc + 1 = pc') (hv : Op.cmpValue (FP.dcmp x y) o = v)
    (hr : Steps tb e below (T.setTop (mkF m pc' L (.int v :: S))) target) : Steps tb e below (T.setTop (mkF m pc L (.double y :: .double x :: S))) target := by
  subst hv hp; exact XS.dcmpS h hx rfl hd rfl rfl hr
theorem own_s_lcmp (h : At T m c below) (hx : tb.exec = Jvm.exec) {x y : Int64} {v : Int32} (hd : decode c.code pc = .ok (.lcmp, 1)) (hp : pc + 1 = pc') (hv : lcmpW x y = v)
    (hr : Steps tb e below (T.setTop (mkF m pc' L (.int v :: S))) target) : Steps tb e below (T.setTop (mkF m pc L (.long y :: .long x :: S))) target := by
  subst hv hp; exact XS.lcmp h hx rfl hd rfl hr
theorem own_s_iconst (h : At T m c below) (hx : tb.exec = Jvm.exec) {i : Int} {v : Int32} (hd : decode c.code pc = .ok (.iconst i, 1)) (hp : pc + 1 = pc') (hv : Int32.ofInt i = v)
    (hr : Steps tb e below (T.setTop (mkF m pc' L (.int v :: S))) target) : Steps tb e below (T.setTop (mkF m pc L S)) target := by
  subst hv hp; exact XS.iconst h hx rfl hd hr
theorem own_s_bipush (h : At T m c below) (hx : tb.exec = Jvm.exec) {i : Int} {v : Int32} (hd : decode c.code pc = .ok (.bipush i, 2)) (hp : pc + 2 = pc') (hv : (Int8.ofInt i).toInt32 = v)
    (hr : Steps tb e below (T.setTop (mkF m pc' L (.int v :: S))) target) : Steps tb e below (T.setTop (mkF m pc L S)) target := by
  subst hv hp; exact XS.bipush h hx rfl hd hr
theorem own_s_sipush (h : At T m c below) (hx : tb.exec = Jvm.exec) {i : Int} {v : Int32} (hd : decode c.code pc = .ok (.sipush i, 3)) (hp : pc + 3 = pc') (hv : (Int16.ofInt i).toInt32 = v)
    (hr : Steps tb e below (T.setTop (mkF m pc' L (.int v :: S))) target) : Steps tb e below (T.setTop (mkF m pc L S)) target := by
  subst hv hp; exact XS.sipush h hx rfl hd hr
theorem own_s_lconst (h : At T m c below) (hx : tb.exec = Jvm.exec) {k : Fin 2} {v : Int64} (hd : decode c.code pc = .ok (.lconst k, 1)) (hp : pc + 1 = pc') (hv : Int64.ofNat k = v)
    (hr : Steps tb e below (T.setTop (mkF m pc' L (.long v :: S))) target) : Steps tb e below (T.setTop (mkF m pc L S)) target := by
  subst hv hp; exact XS.lconst h hx rfl hd hr
theorem own_s_dconst0 (h : At T m c below) (hx : tb.exec = Jvm.exec)  (hd : decode c.code pc = .ok (.dconst 0, 1)) (hp : pc + 1 = pc') 
    (hr : Steps tb e below (T.setTop (mkF m pc' L (.double 0 :: S))) target) : Steps tb e below (T.setTop (mkF m pc L S)) target := by
  subst hp; exact XS.dconst0 h hx rfl hd rfl hr
theorem own_s_dconst1 (h : At T m c below) (hx : tb.exec = Jvm.exec)  (hd : decode c.code pc = .ok (.dconst 1, 1)) (hp : pc + 1 = pc') 
    (hr : Steps tb e below (T.setTop (mkF m pc' L (.double 4607182418800017408 :: S))) target) : Steps tb e below (T.setTop (mkF m pc L S)) target := by
  subst hp; exact XS.dconst1 h hx rfl hd rfl hr
theorem own_s_aconst_null (h : At T m c below) (hx : tb.exec = Jvm.exec)  (hd : decode c.code pc = .ok (.aconst_null, 1)) (hp : pc + 1 = pc') 
    (hr : Steps tb e below (T.setTop (mkF m pc' L (.null :: S))) target) : Steps tb e below (T.setTop (mkF m pc L S)) target := by
  subst hp; exact XS.aconstNull h hx rfl hd hr
theorem own_s_dup (h : At T m c below) (hx : tb.exec = Jvm.exec) {x : Value} (hd : decode c.code pc = .ok (.dup, 1)) (hp : pc + 1 = pc') (hc : x.category = 1)
    (hr : Steps tb e below (T.setTop (mkF m pc' L (x :: x :: S))) target) : Steps tb e below (T.setTop (mkF m pc L (x :: S))) target := by
  subst hp; exact XS.dup h hx rfl hd rfl hc hr
theorem own_s_dupX1 (h : At T m c below) (hx : tb.exec = Jvm.exec) {x y : Value} (hd : decode c.code pc = .ok (.dup_x1, 1)) (hp : pc + 1 = pc') (hc : x.category = 1) (hc' : y.category = 1)
    (hr : Steps tb e below (T.setTop (mkF m pc' L (x :: y :: x :: S))) target) : Steps tb e below (T.setTop (mkF m pc L (x :: y :: S))) target := by
  subst hp; exact XS.dupX1 h hx rfl hd rfl hc hc' hr
theorem own_s_pop (h : At T m c below) (hx : tb.exec = Jvm.exec) {x : Value} (hd : decode c.code pc = .ok (.pop, 1)) (hp : pc + 1 = pc') (hc : x.category = 1)
    (hr : Steps tb e below (T.setTop (mkF m pc' L S)) target) : Steps tb e below (T.setTop (mkF m pc L (x :: S))) target := by
  subst hp; exact XS.pop h hx rfl hd rfl hc hr
theorem own_s_iloadN (h : At T m c below) (hx : tb.exec = Jvm.exec) {k : Fin 4} {v : Int32} (hd : decode c.code pc = .ok (.iload_n k, 1)) (hp : pc + 1 = pc') (hl : L[k.val]? = some (.val (.int v)))
    (hr : Steps tb e below (T.setTop (mkF m pc' L (.int v :: S))) target) : Steps tb e below (T.setTop (mkF m pc L S)) target := by
  subst hp; exact XS.iloadN h hx rfl hd hl hr
theorem own_s_iload (h : At T m c below) (hx : tb.exec = Jvm.exec) {k : Nat} {v : Int32} (hd : decode c.code pc = .ok (.iload k, 2)) (hp : pc + 2 = pc') (hl : L[k]? = some (.val (.int v)))
    (hr : Steps tb e below (T.setTop (mkF m pc' L (.int v :: S))) target) : Steps tb e below (T.setTop (mkF m pc L S)) target := by
  subst hp; exact XS.iload h hx rfl hd hl hr
theorem own_s_istoreN (h : At T m c below) (hx : tb.exec = Jvm.exec) {k : Fin 4} {v : Int32} {L' : Array Slot} (hd : decode c.code pc = .ok (.istore_n k, 1)) (hp : pc + 1 = pc') (hl : storeLocals L k.val (.int v) = some L')
    (hr : Steps tb e below (T.setTop (mkF m pc' L' S)) target) : Steps tb e below (T.setTop (mkF m pc L (.int v :: S))) target := by
  subst hp; exact XS.istoreN h hx rfl hd rfl hl hr
theorem own_s_istore (h : At T m c below) (hx : tb.exec = Jvm.exec) {k : Nat} {v : Int32} {L' : Array Slot} (hd : decode c.code pc = .ok (.istore k, 2)) (hp : pc + 2 = pc') (hl : storeLocals L k (.int v) = some L')
    (hr : Steps tb e below (T.setTop (mkF m pc' L' S)) target) : Steps tb e below (T.setTop (mkF m pc L (.int v :: S))) target := by
  subst hp; exact XS.istore h hx rfl hd rfl hl hr
theorem own_s_lloadN (h : At T m c below) (hx : tb.exec = Jvm.exec) {k : Fin 4} {v : Int64} (hd : decode c.code pc = .ok (.lload_n k, 1)) (hp : pc + 1 = pc') (hl : L[k.val]? = some (.val (.long v)))
    (hr : Steps tb e below (T.setTop (mkF m pc' L (.long v :: S))) target) : Steps tb e below (T.setTop (mkF m pc L S)) target := by
  subst hp; exact XS.lloadN h hx rfl hd hl hr
theorem own_s_lload (h : At T m c below) (hx : tb.exec = Jvm.exec) {k : Nat} {v : Int64} (hd : decode c.code pc = .ok (.lload k, 2)) (hp : pc + 2 = pc') (hl : L[k]? = some (.val (.long v)))
    (hr : Steps tb e below (T.setTop (mkF m pc' L (.long v :: S))) target) : Steps tb e below (T.setTop (mkF m pc L S)) target := by
  subst hp; exact XS.lload h hx rfl hd hl hr
theorem own_s_lstoreN (h : At T m c below) (hx : tb.exec = Jvm.exec) {k : Fin 4} {v : Int64} {L' : Array Slot} (hd : decode c.code pc = .ok (.lstore_n k, 1)) (hp : pc + 1 = pc') (hl : storeLocals L k.val (.long v) = some L')
    (hr : Steps tb e below (T.setTop (mkF m pc' L' S)) target) : Steps tb e below (T.setTop (mkF m pc L (.long v :: S))) target := by
  subst hp; exact XS.lstoreN h hx rfl hd rfl hl hr
theorem own_s_lstore (h : At T m c below) (hx : tb.exec = Jvm.exec) {k : Nat} {v : Int64} {L' : Array Slot} (hd : decode c.code pc = .ok (.lstore k, 2)) (hp : pc + 2 = pc') (hl : storeLocals L k (.long v) = some L')
    (hr : Steps tb e below (T.setTop (mkF m pc' L' S)) target) : Steps tb e below (T.setTop (mkF m pc L (.long v :: S))) target := by
  subst hp; exact XS.lstore h hx rfl hd rfl hl hr
theorem own_s_dloadN (h : At T m c below) (hx : tb.exec = Jvm.exec) {k : Fin 4} {v : UInt64} (hd : decode c.code pc = .ok (.dload_n k, 1)) (hp : pc + 1 = pc') (hl : L[k.val]? = some (.val (.double v)))
    (hr : Steps tb e below (T.setTop (mkF m pc' L (.double v :: S))) target) : Steps tb e below (T.setTop (mkF m pc L S)) target := by
  subst hp; exact XS.dloadN h hx rfl hd hl hr
theorem own_s_dload (h : At T m c below) (hx : tb.exec = Jvm.exec) {k : Nat} {v : UInt64} (hd : decode c.code pc = .ok (.dload k, 2)) (hp : pc + 2 = pc') (hl : L[k]? = some (.val (.double v)))
    (hr : Steps tb e below (T.setTop (mkF m pc' L (.double v :: S))) target) : Steps tb e below (T.setTop (mkF m pc L S)) target := by
  subst hp; exact XS.dload h hx rfl hd hl hr
theorem own_s_dstoreN (h : At T m c below) (hx : tb.exec = Jvm.exec) {k : Fin 4} {v : UInt64} {L' : Array Slot} (hd : decode c.code pc = .ok (.dstore_n k, 1)) (hp : pc + 1 = pc') (hl : storeLocals L k.val (.double v) = some L')
    (hr : Steps tb e below (T.setTop (mkF m pc' L' S)) target) : Steps tb e below (T.setTop (mkF m pc L (.double v :: S))) target := by
  subst hp; exact XS.dstoreN h hx rfl hd rfl hl hr
theorem own_s_dstore (h : At T m c below) (hx : tb.exec = Jvm.exec) {k : Nat} {v : UInt64} {L' : Array Slot} (hd : decode c.code pc = .ok (.dstore k, 2)) (hp : pc + 2 = pc') (hl : storeLocals L k (.double v) = some L')
    (hr : Steps tb e below (T.setTop (mkF m pc' L' S)) target) : Steps tb e below (T.setTop (mkF m pc L (.double v :: S))) target := by
  subst hp; exact XS.dstore h hx rfl hd rfl hl hr
theorem own_s_aloadN (h : At T m c below) (hx : tb.exec = Jvm.exec) {k : Fin 4} {v : Value} (hd : decode c.code pc = .ok (.aload_n k, 1)) (hp : pc + 1 = pc') (hl : L[k.val]? = some (.val v)) (hr0 : v.isRef = true)
    (hr : Steps tb e below (T.setTop (mkF m pc' L (v :: S))) target) : Steps tb e below (T.setTop (mkF m pc L S)) target := by
  subst hp; exact XS.aloadN h hx rfl hd hl hr0 hr
theorem own_s_aload (h : At T m c below) (hx : tb.exec = Jvm.exec) {k : Nat} {v : Value} (hd : decode c.code pc = .ok (.aload k, 2)) (hp : pc + 2 = pc') (hl : L[k]? = some (.val v)) (hr0 : v.isRef = true)
    (hr : Steps tb e below (T.setTop (mkF m pc' L (v :: S))) target) : Steps tb e below (T.setTop (mkF m pc L S)) target := by
  subst hp; exact XS.aload h hx rfl hd hl hr0 hr
theorem own_s_astoreN (h : At T m c below) (hx : tb.exec = Jvm.exec) {k : Fin 4} {v : Value} {L' : Array Slot} (hd : decode c.code pc = .ok (.astore_n k, 1)) (hp : pc + 1 = pc') (hr0 : v.isRef = true) (hl : storeLocals L k.val v = some L')
    (hr : Steps tb e below (T.setTop (mkF m pc' L' S)) target) : Steps tb e below (T.setTop (mkF m pc L (v :: S))) target := by
  subst hp; exact XS.astoreN h hx rfl hd rfl hr0 hl hr
theorem own_s_astore (h : At T m c below) (hx : tb.exec = Jvm.exec) {k : Nat} {v : Value} {L' : Array Slot} (hd : decode c.code pc = .ok (.astore k, 2)) (hp : pc + 2 = pc') (hr0 : v.isRef = true) (hl : storeLocals L k v = some L')
    (hr : Steps tb e below (T.setTop (mkF m pc' L' S)) target) : Steps tb e below (T.setTop (mkF m pc L (v :: S))) target := by
  subst hp; exact XS.astore h hx rfl hd rfl hr0 hl hr
theorem own_s_iinc (h : At T m c below) (hx : tb.exec = Jvm.exec) {k : Nat} {cst : Int} {x v : Int32} {L' : Array Slot} (hd : decode c.code pc = .ok (.iinc k cst, 3)) (hp : pc + 3 = pc') (hl : L[k]? = some (.val (.int x))) (hv : x + Int32.ofInt cst = v) (hl' : storeLocals L k (.int v) = some L')
    (hr : Steps tb e below (T.setTop (mkF m pc' L' S)) target) : Steps tb e below (T.setTop (mkF m pc L S)) target := by
  subst hv hp; exact XS.iinc h hx rfl hd hl hl' hr
theorem own_s_goto (h : At T m c below) (hx : tb.exec = Jvm.exec)  {o : Int} (hd : decode c.code pc = .ok (.goto o, 3)) (ho : 0 ≤ (pc : Int) + o) (hp : ((pc : Int) + o).toNat = pc') 
    (hr : Steps tb e below (T.setTop (mkF m pc' L S)) target) : Steps tb e below (T.setTop (mkF m pc L S)) target := by
  exact XS.goto h hx rfl rfl hd ho hp hr
theorem own_s_ifYes (h : At T m c below) (hx : tb.exec = Jvm.exec) {cd : ClassFile.Cond} {x : Int32} {o : Int} (hd : decode c.code pc = .ok (.ifCond cd o, 3)) (ho : 0 ≤ (pc : Int) + o) (hp : ((pc : Int) + o).toNat = pc') (hc : ifCond.holds cd x = true)
    (hr : Steps tb e below (T.setTop (mkF m pc' L S)) target) : Steps tb e below (T.setTop (mkF m pc L (.int x :: S))) target := by
  exact XS.ifYes h hx rfl rfl hd rfl hc ho hp hr
theorem own_s_icmpYes (h : At T m c below) (hx : tb.exec = Jvm.exec) {cd : ClassFile.Cond} {x y : Int32} {o : Int} (hd : decode c.code pc = .ok (.if_icmp cd o, 3)) (ho : 0 ≤ (pc : Int) + o) (hp : ((pc : Int) + o).toNat = pc') (hc : if_icmp.holds cd x y = true)
    (hr : Steps tb e below (T.setTop (mkF m pc' L S)) target) : Steps tb e below (T.setTop (mkF m pc L (.int y :: .int x :: S))) target := by
  exact XS.icmpYes h hx rfl rfl hd rfl hc ho hp hr
theorem own_s_ifNo (h : At T m c below) (hx : tb.exec = Jvm.exec) {cd : ClassFile.Cond} {o : Int} {x : Int32} (hd : decode c.code pc = .ok (.ifCond cd o, 3)) (hp : pc + 3 = pc') (hc : ifCond.holds cd x = false)
    (hr : Steps tb e below (T.setTop (mkF m pc' L S)) target) : Steps tb e below (T.setTop (mkF m pc L (.int x :: S))) target := by
  subst hp; exact XS.ifNo h hx rfl hd rfl hc hr
theorem own_s_icmpNo (h : At T m c below) (hx : tb.exec = Jvm.exec) {cd : ClassFile.Cond} {o : Int} {x y : Int32} (hd : decode c.code pc = .ok (.if_icmp cd o, 3)) (hp : pc + 3 = pc') (hc : if_icmp.holds cd x y = false)
    (hr : Steps tb e below (T.setTop (mkF m pc' L S)) target) : Steps tb e below (T.setTop (mkF m pc L (.int y :: .int x :: S))) target := by
  subst hp; exact XS.icmpNo h hx rfl hd rfl hc hr
theorem own_s_ifnullYes (h : At T m c below) (hx : tb.exec = Jvm.exec)  {o : Int} (hd : decode c.code pc = .ok (.ifnull o, 3)) (ho : 0 ≤ (pc : Int) + o) (hp : ((pc : Int) + o).toNat = pc') 
    (hr : Steps tb e below (T.setTop (mkF m pc' L S)) target) : Steps tb e below (T.setTop (mkF m pc L (.null :: S))) target := by
  exact XS.ifnullYes h hx rfl rfl hd rfl ho hp hr
theorem own_s_ifnullNo (h : At T m c below) (hx : tb.exec = Jvm.exec) {o : Int} {b : Addr} (hd : decode c.code pc = .ok (.ifnull o, 3)) (hp : pc + 3 = pc') 
    (hr : Steps tb e below (T.setTop (mkF m pc' L S)) target) : Steps tb e below (T.setTop (mkF m pc L (.ref b :: S))) target := by
  subst hp; exact XS.ifnullNo h hx rfl hd rfl hr
theorem own_s_ifnonnullYes (h : At T m c below) (hx : tb.exec = Jvm.exec) {b : Addr} {o : Int} (hd : decode c.code pc = .ok (.ifnonnull o, 3)) (ho : 0 ≤ (pc : Int) + o) (hp : ((pc : Int) + o).toNat = pc') 
    (hr : Steps tb e below (T.setTop (mkF m pc' L S)) target) : Steps tb e below (T.setTop (mkF m pc L (.ref b :: S))) target := by
  exact XS.ifnonnullYes h hx rfl rfl hd rfl ho hp hr
theorem own_s_ifnonnullNo (h : At T m c below) (hx : tb.exec = Jvm.exec) {o : Int} (hd : decode c.code pc = .ok (.ifnonnull o, 3)) (hp : pc + 3 = pc') 
    (hr : Steps tb e below (T.setTop (mkF m pc' L S)) target) : Steps tb e below (T.setTop (mkF m pc L (.null :: S))) target := by
  subst hp; exact XS.ifnonnullNo h hx rfl hd rfl hr
end OwnStep
section OwnHeap
open Jvm Jvm.ClassFile Sem Op Lib Jvm.Free Jvm.Stand Jvm.LawKit Jvm.RoadKit
variable {p : Program} {l : Launch} {e : Env} {R : Room} {s : State} {m : MethodId} {args : Array Value} {below : List Frame} {meth : Method} {c : Code} {T : State} {locs : List Loc} {cells slots : Nat} {Z : State} {a0 : Array Value} {h : Heap} {pc pc' : Nat} {L : Array Slot} {S : List Value} {a : Addr} {k : ClassId} {z : Int32} {vs : List Value} {dv : Value}
theorem own_newD (X : Stand p l e R s m args below meth c T locs cells slots) (hx : p.tables.exec = Jvm.exec) (hZ : Z.Warmed39 s.vm) (w : (Jvm.Cond.arrayClass .double).before a0 Z = true) (eT : T.heap = h) (n : Nat) (hz : z.toNatClampNeg = n) (hz0 : ¬ z < 0) (hb : n * 8 ≤ 536870912) (hc : cells + 1 ≤ R.cells) (hl : slots + n ≤ R.slots) (hd : decode c.code pc = .ok (.newarray .double, 2)) (hp : pc + 2 = pc') :
    ∃ T' h' k b, Stand p l e R s m args below meth c T' locs (cells + 1) (slots + n) ∧ T'.heap = h' ∧ Ext h h' ∧ b = h.size ∧ Arv Z h' b k .double z (List.replicate n (.double 0)) (.double 0) ∧ ∀ target, Steps p.tables e below (T'.setTop (mkF m pc' L (.ref b :: S))) target → Steps p.tables e below (T.setTop (mkF m pc L (.int z :: S))) target := by
  subst hp
  obtain ⟨T', h', k, X', e', E, A, st⟩ := newP X hx hZ (aty := .double) w eT (g := mkF m pc L (.int z :: S)) rfl hd rfl hz0 (cap := n) (Nat.le_of_eq hz) hb hc hl
  exact ⟨T', h', k, h.size, X', e', E, rfl, (Arv.new A hz0).pad (pad_rep [] (.double 0) n), st⟩
theorem own_newJ (X : Stand p l e R s m args below meth c T locs cells slots) (hx : p.tables.exec = Jvm.exec) (hZ : Z.Warmed39 s.vm) (w : (Jvm.Cond.arrayClass .long).before a0 Z = true) (eT : T.heap = h) (n : Nat) (hz : z.toNatClampNeg = n) (hz0 : ¬ z < 0) (hb : n * 8 ≤ 536870912) (hc : cells + 1 ≤ R.cells) (hl : slots + n ≤ R.slots) (hd : decode c.code pc = .ok (.newarray .long, 2)) (hp : pc + 2 = pc') :
    ∃ T' h' k b, Stand p l e R s m args below meth c T' locs (cells + 1) (slots + n) ∧ T'.heap = h' ∧ Ext h h' ∧ b = h.size ∧ Arv Z h' b k .long z (List.replicate n (.long 0)) (.long 0) ∧ ∀ target, Steps p.tables e below (T'.setTop (mkF m pc' L (.ref b :: S))) target → Steps p.tables e below (T.setTop (mkF m pc L (.int z :: S))) target := by
  subst hp
  obtain ⟨T', h', k, X', e', E, A, st⟩ := newP X hx hZ (aty := .long) w eT (g := mkF m pc L (.int z :: S)) rfl hd rfl hz0 (cap := n) (Nat.le_of_eq hz) hb hc hl
  exact ⟨T', h', k, h.size, X', e', E, rfl, (Arv.new A hz0).pad (pad_rep [] (.long 0) n), st⟩
theorem own_stD (X : Stand p l e R s m args below meth c T locs cells slots) (hx : p.tables.exec = Jvm.exec) (hZ : Z.Warmed39 s.vm) (eT : T.heap = h) (V : Arv Z h a k .double z vs dv) {j : Int32} {x : UInt64} (hj : ¬ j < 0 ∧ j < z) (i : Nat) (hi : j.toNatClampNeg = i) (hl : i < vs.length) (hd : decode c.code pc = .ok (.dastore, 1)) (hp : pc + 1 = pc') :
    ∃ T' h', Stand p l e R s m args below meth c T' (locs ++ [⟨a, j.toNatClampNeg⟩]) cells slots ∧ T'.heap = h' ∧ Wr h h' a j.toNatClampNeg (.double x) ∧ Arv Z h' a k .double z (vs.set i (.double x)) dv ∧ ∀ target, Steps p.tables e below (T'.setTop (mkF m pc' L S)) target → Steps p.tables e below (T.setTop (mkF m pc L (.double x :: .int j :: .ref a :: S))) target := by
  subst hp
  obtain ⟨cl, A, q1, S1, q3, H, G⟩ := V
  obtain ⟨T', h', X', e', W, st⟩ := stD X hx hZ eT A (j := j) (x := x) (inb_of S1 hj) (g := mkF m pc L (.double x :: .int j :: .ref a :: S)) rfl rfl hd
  exact ⟨T', h', X', e', W, Arv.set A q1 S1 q3 H G rfl W i hi hl, st⟩
theorem own_ldD (X : Stand p l e R s m args below meth c T locs cells slots) (hx : p.tables.exec = Jvm.exec) (hZ : Z.Warmed39 s.vm) (eT : T.heap = h) (V : Arv Z h a k .double z vs dv) {j : Int32} {x : UInt64} (hj : ¬ j < 0 ∧ j < z) (hv : vs.getD j.toNatClampNeg dv = .double x) (hd : decode c.code pc = .ok (.daload, 1)) (hp : pc + 1 = pc') {target : State}
    (hr : Steps p.tables e below (T.setTop (mkF m pc' L (.double x :: S))) target) : Steps p.tables e below (T.setTop (mkF m pc L (.int j :: .ref a :: S))) target := by
  subst hp
  obtain ⟨cl, A, q1, S1, q3, H, G⟩ := V
  exact X.daload hx (j := j) (v := .double x) (by rw [eT]; exact A.1) (State.isArrayOf_alike hZ.alike A.2.1) A.2.2 (inb_of S1 hj) (H.at (inb_of S1 hj) hv) (g := mkF m pc L (.int j :: .ref a :: S)) rfl rfl hd target hr
theorem own_len {ty : FieldType} (X : Stand p l e R s m args below meth c T locs cells slots) (hx : p.tables.exec = Jvm.exec) (hZ : Z.Warmed39 s.vm) (eT : T.heap = h) (V : Arv Z h a k ty z vs dv) (hd : decode c.code pc = .ok (.arraylength, 1)) (hp : pc + 1 = pc') {target : State}
    (hr : Steps p.tables e below (T.setTop (mkF m pc' L (.int z :: S))) target) : Steps p.tables e below (T.setTop (mkF m pc L (.ref a :: S))) target := by
  subst hp
  obtain ⟨cl, A, q1, S1, q3, H, G⟩ := V
  refine X.arraylength hx (by rw [eT]; exact A.1) (State.isArrayOf_alike hZ.alike A.2.1) (g := mkF m pc L (.ref a :: S)) rfl rfl hd target ?_
  rw [len_of S1 q3]
  exact hr
theorem own_retI (X : Stand p l e R s m args below meth c T locs cells slots) (hx : p.tables.exec = Jvm.exec) {x : Int32} (hret : meth.sig.returnType = some .int) (hd : decode c.code pc = .ok (.ireturn, 1)) {fs : List Frame}
    (hl : ∀ (f : JFrame) (acts : List Action), f.method = m → f.locked = none → f.entered = [] → (doReturn e (T.setTop f) acts (some (.int x))).1 = T.setFrames fs) : Steps p.tables e below (T.setTop (mkF m pc L (.int x :: S))) (T.setFrames fs) := by
  have hm' : T.vm.method? m = some meth := X.method'
  have hn : narrow .int (.int x) = .int x := rfl
  show Steps p.tables e below (T.setTop { method := m, pc := pc, locals := L, stack := _ :: S, locked := none }) _
  jvm_step X.here [X.here.top, hx, hd, hm', hret, hn]
  first | (intro acts; rw [hl _ acts rfl rfl rfl]) | rw [hl _ _ rfl rfl rfl]
  exact Steps.refl _
theorem own_retD (X : Stand p l e R s m args below meth c T locs cells slots) (hx : p.tables.exec = Jvm.exec) {x : UInt64} (hret : meth.sig.returnType = some .double) (hd : decode c.code pc = .ok (.dreturn, 1)) {fs : List Frame}
    (hl : ∀ (f : JFrame) (acts : List Action), f.method = m → f.locked = none → f.entered = [] → (doReturn e (T.setTop f) acts (some (.double x))).1 = T.setFrames fs) : Steps p.tables e below (T.setTop (mkF m pc L (.double x :: S))) (T.setFrames fs) := by
  have hm' : T.vm.method? m = some meth := X.method'
  show Steps p.tables e below (T.setTop { method := m, pc := pc, locals := L, stack := _ :: S, locked := none }) _
  jvm_step X.here [X.here.top, hx, hd, hm', hret, narrow]
  first | (intro acts; rw [hl _ acts rfl rfl rfl]) | rw [hl _ _ rfl rfl rfl]
  exact Steps.refl _
theorem own_retJ (X : Stand p l e R s m args below meth c T locs cells slots) (hx : p.tables.exec = Jvm.exec) {x : Int64} (hret : meth.sig.returnType = some .long) (hd : decode c.code pc = .ok (.lreturn, 1)) {fs : List Frame}
    (hl : ∀ (f : JFrame) (acts : List Action), f.method = m → f.locked = none → f.entered = [] → (doReturn e (T.setTop f) acts (some (.long x))).1 = T.setFrames fs) : Steps p.tables e below (T.setTop (mkF m pc L (.long x :: S))) (T.setFrames fs) := by
  have hm' : T.vm.method? m = some meth := X.method'
  show Steps p.tables e below (T.setTop { method := m, pc := pc, locals := L, stack := _ :: S, locked := none }) _
  jvm_step X.here [X.here.top, hx, hd, hm', hret, narrow]
  first | (intro acts; rw [hl _ acts rfl rfl rfl]) | rw [hl _ _ rfl rfl rfl]
  exact Steps.refl _
theorem own_retR (X : Stand p l e R s m args below meth c T locs cells slots) (hx : p.tables.exec = Jvm.exec) {b : Addr} {t : FieldType} (hret : meth.sig.returnType = some t) (ht : t.isReference = true) (hd : decode c.code pc = .ok (.areturn, 1)) {fs : List Frame}
    (hl : ∀ (f : JFrame) (acts : List Action), f.method = m → f.locked = none → f.entered = [] → (doReturn e (T.setTop f) acts (some (.ref b))).1 = T.setFrames fs) : Steps p.tables e below (T.setTop (mkF m pc L (.ref b :: S))) (T.setFrames fs) := by
  have hm' : T.vm.method? m = some meth := X.method'
  show Steps p.tables e below (T.setTop { method := m, pc := pc, locals := L, stack := _ :: S, locked := none }) _
  jvm_step X.here [X.here.top, hx, hd, hm', hret, Value.isRef, ht]
  first | (intro acts; rw [hl _ acts rfl rfl rfl]) | rw [hl _ _ rfl rfl rfl]
  exact Steps.refl _
end OwnHeap
open Jvm Jvm.ClassFile Sem Op Lib Jvm.Free Jvm.Stand Jvm.LawKit Jvm.RoadKit Bundle Jvm.Pilot.@@N@@.Jvm.D
def own_Q0 (n0 : Nat) (v : Option Value) (h : Heap) (L : List Loc) : Prop := v = some (.int 1) ∧ Fr n0 L
def own_QP (r : Option Value) (h0 : Heap) (n0 : Nat) (v : Option Value) (h : Heap) (L : List Loc) : Prop := v = r ∧ Fr n0 L ∧ h = h0
section OwnAdm
open Jvm.FP.Core
theorem own_pow1 {x : UInt64} {n : Int} (e : Nat) (hx : own_Is x n 0) (hn : n = ((2 ^ e : Nat) : Int)) : own_Is x 1 e := by
  refine ⟨hx.1, by omega, ?_⟩
  rw [hx.2.2, hn, show ((e : Int) + 1074).toNat = e + (0 + 1074 : Int).toNat by omega, Nat.pow_add, Int.natCast_mul, Int.one_mul]
theorem own_shl1 : ∀ S : Fin 32, ((1 : Int64) <<< (Int32.ofNat S.val &&& 63).toInt64).toInt = ((2 ^ S.val : Nat) : Int) ∧ ((2 ^ S.val : Nat) : Int) ≤ 2147483648 ∧ (1 : Int) ≤ ((2 ^ S.val : Nat) : Int) := by decide
theorem own_masked (x m : Int32) (k : Nat) (hk : k ≤ 31) (hm : m.toBitVec.toNat = 2 ^ k - 1) (N : Nat) (hN : 2 ^ k = N) : ∃ E : Fin N, x &&& m = Int32.ofNat E.val := by
  have h := Jvm.RoadKit.c_mask x m k hk hm
  have hp : 0 < 2 ^ k := Nat.two_pow_pos k
  have hle : 2 ^ k ≤ 2 ^ 31 := Nat.pow_le_pow_right (by decide) hk
  have h0 : 0 ≤ x.toInt % ((2 ^ k : Nat) : Int) := Int.emod_nonneg _ (by omega)
  have h1 : x.toInt % ((2 ^ k : Nat) : Int) < ((2 ^ k : Nat) : Int) := Int.emod_lt_of_pos _ (by omega)
  refine ⟨⟨(x.toInt % ((2 ^ k : Nat) : Int)).toNat, by omega⟩, ?_⟩
  apply Int32.toInt_inj.mp
  rw [h, Int32.toInt_ofNat_of_lt (by simp only; omega)]
  simp only; omega
def own_z (x : UInt64) : Int := zval b64 (val64 x)
theorem own_z_int {a : Int64} (h : a.toInt.natAbs ≤ 9007199254740992) : own_z (l2d a) = a.toInt * (one64 : Int) := by
  have := (own_l2d h).2.2
  unfold own_z; rw [this]; rfl
theorem own_l2d_lo {num d : Int64} (h : num.toInt ≤ d.toInt) (hd : d.toInt.natAbs ≤ 9007199254740992) : own_z (l2d num) ≤ own_z (l2d d) :=
  l2d_zval_le (l2d_fin d).ne_nan (by have := own_z_int hd; unfold own_z at this; rw [this]; exact Int.mul_le_mul_of_nonneg_right h (Int.natCast_nonneg _))
theorem own_l2d_hi {num d : Int64} (h : d.toInt ≤ num.toInt) (hd : d.toInt.natAbs ≤ 9007199254740992) : own_z (l2d d) ≤ own_z (l2d num) :=
  l2d_zval_ge (l2d_fin d).ne_nan (by have := own_z_int hd; unfold own_z at this; rw [this]; exact Int.mul_le_mul_of_nonneg_right h (Int.natCast_nonneg _))
theorem own_one64 : (0 : Int) < (one64 : Int) := by have := one64_pos; omega
theorem own_quot (num a : Int64) (S : Fin 32) (ha : a.toInt = ((2 ^ S.val : Nat) : Int)) (hb : ((2 ^ S.val : Nat) : Int) ≤ 2147483648) (hb0 : (1 : Int) ≤ ((2 ^ S.val : Nat) : Int)) : DFin (ddiv (l2d num) (l2d a)) ∧ own_z (ddiv (l2d num) (l2d a)) * ((2 ^ S.val : Nat) : Int) = own_z (l2d num) := by
  have hS : (S.val : Int) < 32 := by have := S.isLt; omega
  have ia := own_pow1 S.val (own_l2d (a := a) (by omega)) ha
  by_cases h0 : num.toInt = 0
  · have hz : num = 0 := Int64.toInt_inj.mp h0
    subst hz
    have hl : own_Is (l2d 0) 0 0 := by rw [Jvm.FP.Core.l2d_zero]; exact own_zero
    have := own_div hl ia (by decide) (N := 0) (by decide) (e := -(S.val : Int)) (by omega) (by omega) (by omega) (by decide)
    refine ⟨this.1, ?_⟩
    unfold own_z; rw [this.2.2, hl.2.2]; simp
  · obtain ⟨s, c, q, hv⟩ := l2d_fin num
    have hf := val64_fits (l2d num)
    rw [hv] at hf
    obtain ⟨h1, h2, h3, -⟩ := hf
    rw [qmin_b64] at h2
    rw [own_qmax] at h3
    have h1' : c < 9007199254740992 := h1
    have ez : own_z (l2d num) = signed s c * ((2 ^ (q + 1074).toNat : Nat) : Int) := by
      unfold own_z; rw [hv]
      show signed s (inUnits c q b64.qmin) = _
      unfold inUnits; rw [qmin_b64, show q - -1074 = q + 1074 by omega, own_signed_scale]
    have hab : one64 ≤ c * 2 ^ (q + 1074).toNat := by
      have e1 : (own_z (l2d num)).natAbs = c * 2 ^ (q + 1074).toNat := by rw [ez, Int.natAbs_mul, own_signed_abs, Int.natAbs_natCast]
      rw [← e1]
      have hone := own_one64
      rcases Int.lt_or_gt_of_ne h0 with h | h
      · have g := own_l2d_lo (num := num) (d := -1) (by rw [show (-1 : Int64).toInt = -1 by decide]; omega) (by decide)
        rw [own_z_int (a := -1) (by decide), show (-1 : Int64).toInt = -1 by decide] at g
        omega
      · have g := own_l2d_hi (num := num) (d := 1) (by rw [show (1 : Int64).toInt = 1 by decide]; omega) (by decide)
        rw [own_z_int (a := 1) (by decide), show (1 : Int64).toInt = 1 by decide] at g
        omega
    have hq : 1000 ≤ (q + 1074).toNat := by
      refine Nat.le_of_not_lt fun hlt => ?_
      have : c * 2 ^ (q + 1074).toNat < one64 := by
        calc c * 2 ^ (q + 1074).toNat ≤ c * 2 ^ 1000 := Nat.mul_le_mul_left _ (Nat.pow_le_pow_right (by decide) (by omega))
          _ < 2 ^ 53 * 2 ^ 1000 := Nat.mul_lt_mul_of_pos_right h1 (Nat.two_pow_pos _)
          _ ≤ one64 := by unfold one64; rw [← Nat.pow_add]; exact Nat.pow_le_pow_right (by decide) (by decide)
      omega
    have hx : own_Is (l2d num) (signed s c) q := ⟨l2d_fin num, h2, ez⟩
    have hN : (signed s c).natAbs < 9007199254740992 := by rw [own_signed_abs]; exact h1'
    have := own_div hx ia (by decide) (Int.mul_one _).symm (e := q - (S.val : Int)) rfl (by omega) (by omega) hN
    refine ⟨this.1, ?_⟩
    rw [ez]
    unfold own_z; rw [this.2.2, Int.mul_assoc, ← Int.natCast_mul, ← Nat.pow_add]
    congr 4; omega
theorem own_ltz {x y : UInt64} (hx : val64 x ≠ .nan) (hy : val64 y ≠ .nan) (o : ClassFile.CmpOp) : Op.ifCond.holds .lt (Op.cmpValue (Jvm.FP.dcmp x y) o) = decide (own_z x < own_z y) ∧ Op.ifCond.holds .gt (Op.cmpValue (Jvm.FP.dcmp x y) o) = decide (own_z y < own_z x) := by
  show Op.ifCond.holds .lt (Op.cmpValue (dcmp x y) o) = _ ∧ Op.ifCond.holds .gt (Op.cmpValue (dcmp x y) o) = _
  rw [dcmp_zval hx hy]
  unfold own_z
  rcases Int.lt_trichotomy (zval b64 (val64 x)) (zval b64 (val64 y)) with h | h | h
  · rw [(compare_lt_iff _ _).mpr h]; simp only [h, show ¬ zval b64 (val64 y) < zval b64 (val64 x) by omega]; cases o <;> decide
  · rw [(compare_eq_iff _ _).mpr h]; simp only [show ¬ zval b64 (val64 x) < zval b64 (val64 y) by omega, show ¬ zval b64 (val64 y) < zval b64 (val64 x) by omega]; cases o <;> decide
  · rw [(compare_gt_iff _ _).mpr h]; simp only [h, show ¬ zval b64 (val64 x) < zval b64 (val64 y) by omega]; cases o <;> decide
theorem own_z0 : own_z 0 = 0 := zval64_zero
theorem own_z1 : own_z 4607182418800017408 = (one64 : Int) := by have := own_one.2.2; unfold own_z; rw [this, Int.one_mul]; rfl
theorem own_zM : (9223372036854775808 : Int) * (one64 : Int) ≤ own_z 9218868437227405311 := by decide +kernel
/-- what the quotient says against 0, 1 and the greatest double -/
theorem own_adm (num a : Int64) (S : Fin 32) (ha : a.toInt = ((2 ^ S.val : Nat) : Int)) (hb : ((2 ^ S.val : Nat) : Int) ≤ 2147483648) (hb0 : (1 : Int) ≤ ((2 ^ S.val : Nat) : Int)) {x : UInt64} (hx : Jvm.FP.ddiv (Jvm.FP.l2d num) (Jvm.FP.l2d a) = x) :
    Jvm.Free.Fl.NoNaN64 (Jvm.FP.ddiv (Jvm.FP.l2d num) (Jvm.FP.l2d a)) ∧ Op.ifCond.holds .lt (Op.cmpValue (Jvm.FP.dcmp x 0) .l) = decide (num.toInt < 0) ∧ Op.ifCond.holds .gt (Op.cmpValue (Jvm.FP.dcmp x 4607182418800017408) .g) = decide (a.toInt < num.toInt) ∧ (0 ≤ num.toInt → Op.ifCond.holds .gt (Op.cmpValue (Jvm.FP.dcmp x 9218868437227405311) .g) = false) := by
  obtain ⟨hf, hz⟩ := own_quot num a S ha hb hb0
  refine ⟨Jvm.Free.Fl.noNaN64_no.mpr hf.notNaN, ?_⟩
  rw [show ddiv (l2d num) (l2d a) = x from hx] at hf hz
  obtain ⟨P, hP⟩ : ∃ P : Int, ((2 ^ S.val : Nat) : Int) = P := ⟨_, rfl⟩
  rw [hP] at hz ha hb hb0
  have hone := own_one64
  have v0 : val64 0 ≠ .nan := by decide +kernel
  have v1 : val64 4607182418800017408 ≠ .nan := by decide +kernel
  have vM : val64 9218868437227405311 ≠ .nan := by decide +kernel
  have hP0 : 0 < P := by omega
  refine ⟨?_, ?_, fun h0 => ?_⟩
  · rw [(own_ltz hf.ne_nan v0 .l).1, own_z0]
    congr 1
    apply propext
    constructor
    · intro h
      refine Int.lt_of_not_ge fun h1 => ?_
      have g := own_l2d_hi (num := num) (d := 0) h1 (by decide)
      rw [own_z_int (a := 0) (by decide), show (0 : Int64).toInt = 0 by decide, Int.zero_mul, ← hz] at g
      have := Int.mul_neg_of_neg_of_pos h hP0
      omega
    · intro h
      refine Int.lt_of_not_ge fun h1 => ?_
      have g := own_l2d_lo (num := num) (d := -1) (by rw [show (-1 : Int64).toInt = -1 by decide]; omega) (by decide)
      rw [own_z_int (a := -1) (by decide), show (-1 : Int64).toInt = -1 by decide, ← hz] at g
      have := Int.mul_nonneg h1 (Int.le_of_lt hP0)
      omega
  · rw [(own_ltz hf.ne_nan v1 .g).2, own_z1]
    congr 1
    apply propext
    have za := own_z_int (a := a) (by omega)
    constructor
    · intro h
      refine Int.lt_of_not_ge fun h1 => ?_
      have g := own_l2d_lo (num := num) (d := a) h1 (by omega)
      rw [za, ← hz, ha, Int.mul_comm P] at g
      have := Int.mul_lt_mul_of_pos_right h hP0
      omega
    · intro h
      refine Int.lt_of_not_ge fun h1 => ?_
      have h2 := Int.mul_le_mul_of_nonneg_right h1 (Int.le_of_lt hP0)
      have hd1 : (a + 1).toInt = a.toInt + 1 := by rw [Int64.toInt_add, show (1 : Int64).toInt = 1 by decide]; exact Int.bmod_eq_of_le (by omega) (by omega)
      have g := own_l2d_hi (num := num) (d := a + 1) (by rw [hd1]; omega) (by rw [hd1]; omega)
      rw [own_z_int (a := a + 1) (by rw [hd1]; omega), hd1, ha, ← hz, Int.add_mul, Int.one_mul] at g
      rw [Int.mul_comm (one64 : Int) P] at h2
      omega
  · rw [(own_ltz hf.ne_nan vM .g).2]
    refine decide_eq_false fun h => ?_
    have g : own_z (l2d num) ≤ own_z 9218868437227405311 := by
      refine l2d_zval_le vM (Int.le_trans (Int.mul_le_mul_of_nonneg_right ?_ (Int.le_of_lt hone)) own_zM)
      have := Int64.toInt_lt num; omega
    rw [← hz] at g
    have hxp : 0 ≤ own_z x := by
      have := own_zM
      have : 0 < own_z 9218868437227405311 := by omega
      omega
    have : own_z x * 1 ≤ own_z x * P := Int.mul_le_mul_of_nonneg_left hb0 hxp
    omega
end OwnAdm
theorem own_eqF {args : Array Value} {s : State} {t : Term} {C n d : String} {x : Addr} {k : Int32} (ht : t.eval args s none [] s = some (.ref x)) (h : (Jvm.Cond.eq (Term.field t C n d) (Term.int k)).value args s none s [] = some true) : s.fieldOf? x C n d = some (.int k) := by
  obtain ⟨u, w, hu, hw, k1, k2⟩ := cmp_v (Or.inl h)
  have hw' : w = .int k := by rw [Term.int_eval] at hw; exact (Option.some.inj hw).symm
  subst hw'
  rw [fld_at ht] at hu
  cases u with
  | int z =>
    simp only [Cond.value, fld_at ht, hu, Term.int_eval] at h
    simp at h
    rw [hu, h]
  | _ => obtain ⟨z, hz⟩ := k2; cases hz
theorem own_mod6 (x : Int32) : ∀ v, x &&& 2147483647 = v → v % 6 = 0 ∨ v % 6 = 1 ∨ v % 6 = 2 ∨ v % 6 = 3 ∨ v % 6 = 4 ∨ v % 6 = 5 := by
  intro v hv
  have h1 := c_mask x 2147483647 31 (by decide) (by decide)
  rw [hv] at h1
  have h2 := (c_irem v 6 6 (by decide)).1 (by omega)
  have e : ∀ k : Int32, v % 6 = k ↔ (v % 6).toInt = k.toInt := fun k => Int32.toInt_inj.symm
  simp only [e, show (0 : Int32).toInt = 0 from rfl, show (1 : Int32).toInt = 1 from rfl, show (2 : Int32).toInt = 2 from rfl, show (3 : Int32).toInt = 3 from rfl, show (4 : Int32).toInt = 4 from rfl, show (5 : Int32).toInt = 5 from rfl]
  omega
theorem own_d1_0 : decode prog_17_method_7_code 0 = .ok (.dload_n 1, 1) := by decide +kernel
theorem own_d1_1 : decode prog_17_method_7_code 1 = .ok (.dconst 0, 1) := by decide +kernel
theorem own_d1_2 : decode prog_17_method_7_code 2 = .ok (.dcmp .l, 1) := by decide +kernel
theorem own_d1_3 : decode prog_17_method_7_code 3 = .ok (.ifCond .lt 26, 3) := by decide +kernel
theorem own_d1_29 : decode prog_17_method_7_code 29 = .ok (.iconst 0, 1) := by decide +kernel
theorem own_d1_30 : decode prog_17_method_7_code 30 = .ok (.ireturn, 1) := by decide +kernel
theorem own_pn_com_example_libcredal_libcredal_checker_Query_Operator : plainName "com/example/libcredal/libcredal/checker/Query$Operator" = true := by first | (simp [plainName, overriddenIn]; done) | decide +kernel
theorem own_ef_c0t (m : MethodId) (op : Addr) (x : UInt64) : entryFrame m #[(.ref op), (.double x)] 3 = mkF m 0 #[.val (.ref op), .val (.double x), .second] [] := by first | (simp [entryFrame, mkF, argsToLocals, Value.category]; done) | rfl
set_option maxRecDepth 65536 in
set_option maxHeartbeats 40000000 in
theorem own_rm_c0t (l : Launch) (Z : State) (a0 : Array Value) (hw : ∀ d ∈ tables_1, d.before a0 Z = true) (ws : List Jvm.Cond) (op : Addr) (x : UInt64)  (h0 : Heap) (n0 : Nat) (Z0 : n0 ≤ h0.size) (E_op : Exa Z h0 op "com/example/libcredal/libcredal/checker/Query$Operator") (F_reward_op : Fld Z h0 op "com/example/libcredal/libcredal/checker/Query$Operator" "reward" "Z" (.int (0 : Int32))) (c0t_hb3 : ifCond.holds .lt (Op.cmpValue (FP.dcmp x 0) .l) = true) :
    MetFree l (⟨"com/example/libcredal/libcredal/checker/Query$Operator", "admits", "(D)Z"⟩ : MethodName) (head1 (Jvm.Cond.code (⟨"com/example/libcredal/libcredal/checker/Query$Operator", "admits", "(D)Z"⟩ : MethodName) prog_17_method_7_code 3 (some .boolean) :: ws) ({ frames := 0, cells := 0, slots := 0, locals := 0 } : Room)) (fun a U => a = #[(.ref op), (.double x)] ∧ Z.Warmed39 U.vm ∧ U.heap = h0) (fun _ _ _ _ _ => True) (fun _ U o U' => ∃ v L, o = .returned v ∧ own_QP (some (.int (0 : Int32))) h0 n0 v U'.heap L ∧ FrameEnd U o U' L ({ frames := 0, cells := 0, slots := 0, locals := 0 } : Room).cells ({ frames := 0, cells := 0, slots := 0, locals := 0 } : Room).slots) := by
  refine MetFree.of_bodySF (plainFor_of_name own_pn_com_example_libcredal_libcredal_checker_Query_Operator) hisR ?_
  intro p e s m args below meth c s₁ Bd hml0 hP hK
  obtain ⟨rfl, hZ, hh⟩ := hP
  have hx := Bd.exec
  have hby := Bd.bytes
  have hml : c.maxLocals = 3 := hml0
  have hown : s.vm.findClass "com/example/libcredal/libcredal/checker/Query$Operator" = some m.cls := findClass_of_methodNamed Bd.named
  have hnm := (name_of_methodNamed Bd.named Bd.method).1
  have X0 : Stand p l e ({ frames := 0, cells := 0, slots := 0, locals := 0 } : Room) s m #[(.ref op), (.double x)] below meth c s₁ [] 0 0 := Stand.of_body Bd
  have e0 : s₁.heap = h0 := by rw [← hh, Bd.state]; rfl
  have N0 := Fr.nil n0
  have pre0 : ∀ t, Steps p.tables e below (s₁.setTop (mkF m 0 #[.val (.ref op), .val (.double x), .second] [])) t → Steps p.tables e below (s₁.setTop (entryFrame m #[(.ref op), (.double x)] 3)) t := fun t k => castTop (own_ef_c0t m op x) k
  obtain ⟨fs, hr, hrun, hended, hW, hsame⟩ := X0.leave (v := some (.int (0 : Int32))) (fun h => by rw [Bd.returns] at h; cases h)
  refine ⟨_, _, pre0 _ ?_, hrun, hended, _, _, rfl, ?_, ⟨_, rfl⟩, hW, hsame.mono (by decide) (by decide)⟩
  · refine own_s_dloadN X0.here hx (hb hby own_d1_0) (pc' := 1) rfl rfl ?_
    refine own_s_dconst0 X0.here hx (hb hby own_d1_1) (pc' := 2) rfl  ?_
    refine own_s_dcmp X0.here hx (hb hby own_d1_2) (pc' := 3) rfl (v := (Op.cmpValue (FP.dcmp x 0) .l)) rfl ?_
    refine own_s_ifYes X0.here hx (hb hby own_d1_3) (by decide) (pc' := 29) (by decide) c0t_hb3 ?_
    refine own_s_iconst X0.here hx (hb hby own_d1_29) (pc' := 30) rfl (v := (0 : Int32)) (by decide) ?_
    exact retN X0 hx (t := .boolean) Bd.returns (by simp) (hb hby own_d1_30) hr
  · show own_QP (some (.int (0 : Int32))) h0 n0 _ s₁.heap _
    rw [e0]
    exact ⟨rfl, N0, rfl⟩
theorem own_d1_6 : decode prog_17_method_7_code 6 = .ok (.dload_n 1, 1) := by decide +kernel
theorem own_d1_7 : decode prog_17_method_7_code 7 = .ok (.aload_n 0, 1) := by decide +kernel
theorem own_d1_8 : decode prog_17_method_7_code 8 = .ok (.getfield 45, 3) := by decide +kernel
theorem own_d1_11 : decode prog_17_method_7_code 11 = .ok (.ifCond .eq 9, 3) := by decide +kernel
theorem own_d1_20 : decode prog_17_method_7_code 20 = .ok (.dconst 1, 1) := by decide +kernel
theorem own_d1_21 : decode prog_17_method_7_code 21 = .ok (.dcmp .g, 1) := by decide +kernel
theorem own_d1_22 : decode prog_17_method_7_code 22 = .ok (.ifCond .gt 7, 3) := by decide +kernel
theorem own_ef_c0ft (m : MethodId) (op : Addr) (x : UInt64) : entryFrame m #[(.ref op), (.double x)] 3 = mkF m 0 #[.val (.ref op), .val (.double x), .second] [] := by first | (simp [entryFrame, mkF, argsToLocals, Value.category]; done) | rfl
set_option maxRecDepth 65536 in
set_option maxHeartbeats 40000000 in
theorem own_rm_c0ft (l : Launch) (Z : State) (a0 : Array Value) (hw : ∀ d ∈ tables_1, d.before a0 Z = true) (ws : List Jvm.Cond) (op : Addr) (x : UInt64)  (h0 : Heap) (n0 : Nat) (Z0 : n0 ≤ h0.size) (E_op : Exa Z h0 op "com/example/libcredal/libcredal/checker/Query$Operator") (F_reward_op : Fld Z h0 op "com/example/libcredal/libcredal/checker/Query$Operator" "reward" "Z" (.int (0 : Int32))) (c0ft_hb3 : ifCond.holds .lt (Op.cmpValue (FP.dcmp x 0) .l) = false) (c0ft_hb22 : ifCond.holds .gt (Op.cmpValue (FP.dcmp x 4607182418800017408) .g) = true) :
    MetFree l (⟨"com/example/libcredal/libcredal/checker/Query$Operator", "admits", "(D)Z"⟩ : MethodName) (head1 (Jvm.Cond.code (⟨"com/example/libcredal/libcredal/checker/Query$Operator", "admits", "(D)Z"⟩ : MethodName) prog_17_method_7_code 3 (some .boolean) :: ws) ({ frames := 0, cells := 0, slots := 0, locals := 0 } : Room)) (fun a U => a = #[(.ref op), (.double x)] ∧ Z.Warmed39 U.vm ∧ U.heap = h0) (fun _ _ _ _ _ => True) (fun _ U o U' => ∃ v L, o = .returned v ∧ own_QP (some (.int (0 : Int32))) h0 n0 v U'.heap L ∧ FrameEnd U o U' L ({ frames := 0, cells := 0, slots := 0, locals := 0 } : Room).cells ({ frames := 0, cells := 0, slots := 0, locals := 0 } : Room).slots) := by
  refine MetFree.of_bodySF (plainFor_of_name own_pn_com_example_libcredal_libcredal_checker_Query_Operator) hisR ?_
  intro p e s m args below meth c s₁ Bd hml0 hP hK
  obtain ⟨rfl, hZ, hh⟩ := hP
  have hx := Bd.exec
  have hby := Bd.bytes
  have hml : c.maxLocals = 3 := hml0
  have hown : s.vm.findClass "com/example/libcredal/libcredal/checker/Query$Operator" = some m.cls := findClass_of_methodNamed Bd.named
  have hnm := (name_of_methodNamed Bd.named Bd.method).1
  have X0 : Stand p l e ({ frames := 0, cells := 0, slots := 0, locals := 0 } : Room) s m #[(.ref op), (.double x)] below meth c s₁ [] 0 0 := Stand.of_body Bd
  have e0 : s₁.heap = h0 := by rw [← hh, Bd.state]; rfl
  have N0 := Fr.nil n0
  have pre0 : ∀ t, Steps p.tables e below (s₁.setTop (mkF m 0 #[.val (.ref op), .val (.double x), .second] [])) t → Steps p.tables e below (s₁.setTop (entryFrame m #[(.ref op), (.double x)] 3)) t := fun t k => castTop (own_ef_c0ft m op x) k
  obtain ⟨Tc0ft1, Xc0ft1, ec0ft1, stc0ft1⟩ := getF X0 hx hZ hown (host := "") (Or.inl (hw _ (List.mem_of_getElem? (i := 9) rfl))) Via.refl e0 F_reward_op (g := (mkF m 8 #[.val (.ref op), .val (.double x), .second] [(.ref op), (.double x)])) rfl rfl (hb hby own_d1_8)
  obtain ⟨fs, hr, hrun, hended, hW, hsame⟩ := Xc0ft1.leave (v := some (.int (0 : Int32))) (fun h => by rw [Bd.returns] at h; cases h)
  refine ⟨_, _, pre0 _ ?_, hrun, hended, _, _, rfl, ?_, ⟨_, rfl⟩, hW, hsame.mono (by decide) (by decide)⟩
  · refine own_s_dloadN X0.here hx (hb hby own_d1_0) (pc' := 1) rfl rfl ?_
    refine own_s_dconst0 X0.here hx (hb hby own_d1_1) (pc' := 2) rfl  ?_
    refine own_s_dcmp X0.here hx (hb hby own_d1_2) (pc' := 3) rfl (v := (Op.cmpValue (FP.dcmp x 0) .l)) rfl ?_
    refine own_s_ifNo X0.here hx (hb hby own_d1_3) (pc' := 6) rfl c0ft_hb3 ?_
    refine own_s_dloadN X0.here hx (hb hby own_d1_6) (pc' := 7) rfl rfl ?_
    refine own_s_aloadN X0.here hx (hb hby own_d1_7) (pc' := 8) rfl rfl rfl ?_
    refine stc0ft1 _ ?_
    show Steps p.tables e below (Tc0ft1.setTop (mkF m 11 #[.val (.ref op), .val (.double x), .second] [(.int (0 : Int32)), (.double x)])) _
    refine own_s_ifYes Xc0ft1.here hx (hb hby own_d1_11) (by decide) (pc' := 20) (by decide) (by decide) ?_
    refine own_s_dconst1 Xc0ft1.here hx (hb hby own_d1_20) (pc' := 21) rfl  ?_
    refine own_s_dcmp Xc0ft1.here hx (hb hby own_d1_21) (pc' := 22) rfl (v := (Op.cmpValue (FP.dcmp x 4607182418800017408) .g)) rfl ?_
    refine own_s_ifYes Xc0ft1.here hx (hb hby own_d1_22) (by decide) (pc' := 29) (by decide) c0ft_hb22 ?_
    refine own_s_iconst Xc0ft1.here hx (hb hby own_d1_29) (pc' := 30) rfl (v := (0 : Int32)) (by decide) ?_
    exact retN Xc0ft1 hx (t := .boolean) Bd.returns (by simp) (hb hby own_d1_30) hr
  · show own_QP (some (.int (0 : Int32))) h0 n0 _ Tc0ft1.heap _
    rw [ec0ft1]
    exact ⟨rfl, N0, rfl⟩
theorem own_d1_25 : decode prog_17_method_7_code 25 = .ok (.iconst 1, 1) := by decide +kernel
theorem own_d1_26 : decode prog_17_method_7_code 26 = .ok (.goto 4, 3) := by decide +kernel
theorem own_ef_c0ff (m : MethodId) (op : Addr) (x : UInt64) : entryFrame m #[(.ref op), (.double x)] 3 = mkF m 0 #[.val (.ref op), .val (.double x), .second] [] := by first | (simp [entryFrame, mkF, argsToLocals, Value.category]; done) | rfl
set_option maxRecDepth 65536 in
set_option maxHeartbeats 40000000 in
theorem own_rm_c0ff (l : Launch) (Z : State) (a0 : Array Value) (hw : ∀ d ∈ tables_1, d.before a0 Z = true) (ws : List Jvm.Cond) (op : Addr) (x : UInt64)  (h0 : Heap) (n0 : Nat) (Z0 : n0 ≤ h0.size) (E_op : Exa Z h0 op "com/example/libcredal/libcredal/checker/Query$Operator") (F_reward_op : Fld Z h0 op "com/example/libcredal/libcredal/checker/Query$Operator" "reward" "Z" (.int (0 : Int32))) (c0ff_hb3 : ifCond.holds .lt (Op.cmpValue (FP.dcmp x 0) .l) = false) (c0ff_hb22 : ifCond.holds .gt (Op.cmpValue (FP.dcmp x 4607182418800017408) .g) = false) :
    MetFree l (⟨"com/example/libcredal/libcredal/checker/Query$Operator", "admits", "(D)Z"⟩ : MethodName) (head1 (Jvm.Cond.code (⟨"com/example/libcredal/libcredal/checker/Query$Operator", "admits", "(D)Z"⟩ : MethodName) prog_17_method_7_code 3 (some .boolean) :: ws) ({ frames := 0, cells := 0, slots := 0, locals := 0 } : Room)) (fun a U => a = #[(.ref op), (.double x)] ∧ Z.Warmed39 U.vm ∧ U.heap = h0) (fun _ _ _ _ _ => True) (fun _ U o U' => ∃ v L, o = .returned v ∧ own_QP (some (.int (1 : Int32))) h0 n0 v U'.heap L ∧ FrameEnd U o U' L ({ frames := 0, cells := 0, slots := 0, locals := 0 } : Room).cells ({ frames := 0, cells := 0, slots := 0, locals := 0 } : Room).slots) := by
  refine MetFree.of_bodySF (plainFor_of_name own_pn_com_example_libcredal_libcredal_checker_Query_Operator) hisR ?_
  intro p e s m args below meth c s₁ Bd hml0 hP hK
  obtain ⟨rfl, hZ, hh⟩ := hP
  have hx := Bd.exec
  have hby := Bd.bytes
  have hml : c.maxLocals = 3 := hml0
  have hown : s.vm.findClass "com/example/libcredal/libcredal/checker/Query$Operator" = some m.cls := findClass_of_methodNamed Bd.named
  have hnm := (name_of_methodNamed Bd.named Bd.method).1
  have X0 : Stand p l e ({ frames := 0, cells := 0, slots := 0, locals := 0 } : Room) s m #[(.ref op), (.double x)] below meth c s₁ [] 0 0 := Stand.of_body Bd
  have e0 : s₁.heap = h0 := by rw [← hh, Bd.state]; rfl
  have N0 := Fr.nil n0
  have pre0 : ∀ t, Steps p.tables e below (s₁.setTop (mkF m 0 #[.val (.ref op), .val (.double x), .second] [])) t → Steps p.tables e below (s₁.setTop (entryFrame m #[(.ref op), (.double x)] 3)) t := fun t k => castTop (own_ef_c0ff m op x) k
  obtain ⟨Tc0ff1, Xc0ff1, ec0ff1, stc0ff1⟩ := getF X0 hx hZ hown (host := "") (Or.inl (hw _ (List.mem_of_getElem? (i := 9) rfl))) Via.refl e0 F_reward_op (g := (mkF m 8 #[.val (.ref op), .val (.double x), .second] [(.ref op), (.double x)])) rfl rfl (hb hby own_d1_8)
  obtain ⟨fs, hr, hrun, hended, hW, hsame⟩ := Xc0ff1.leave (v := some (.int (1 : Int32))) (fun h => by rw [Bd.returns] at h; cases h)
  refine ⟨_, _, pre0 _ ?_, hrun, hended, _, _, rfl, ?_, ⟨_, rfl⟩, hW, hsame.mono (by decide) (by decide)⟩
  · refine own_s_dloadN X0.here hx (hb hby own_d1_0) (pc' := 1) rfl rfl ?_
    refine own_s_dconst0 X0.here hx (hb hby own_d1_1) (pc' := 2) rfl  ?_
    refine own_s_dcmp X0.here hx (hb hby own_d1_2) (pc' := 3) rfl (v := (Op.cmpValue (FP.dcmp x 0) .l)) rfl ?_
    refine own_s_ifNo X0.here hx (hb hby own_d1_3) (pc' := 6) rfl c0ff_hb3 ?_
    refine own_s_dloadN X0.here hx (hb hby own_d1_6) (pc' := 7) rfl rfl ?_
    refine own_s_aloadN X0.here hx (hb hby own_d1_7) (pc' := 8) rfl rfl rfl ?_
    refine stc0ff1 _ ?_
    show Steps p.tables e below (Tc0ff1.setTop (mkF m 11 #[.val (.ref op), .val (.double x), .second] [(.int (0 : Int32)), (.double x)])) _
    refine own_s_ifYes Xc0ff1.here hx (hb hby own_d1_11) (by decide) (pc' := 20) (by decide) (by decide) ?_
    refine own_s_dconst1 Xc0ff1.here hx (hb hby own_d1_20) (pc' := 21) rfl  ?_
    refine own_s_dcmp Xc0ff1.here hx (hb hby own_d1_21) (pc' := 22) rfl (v := (Op.cmpValue (FP.dcmp x 4607182418800017408) .g)) rfl ?_
    refine own_s_ifNo Xc0ff1.here hx (hb hby own_d1_22) (pc' := 25) rfl c0ff_hb22 ?_
    refine own_s_iconst Xc0ff1.here hx (hb hby own_d1_25) (pc' := 26) rfl (v := (1 : Int32)) (by decide) ?_
    refine own_s_goto Xc0ff1.here hx (hb hby own_d1_26) (by decide) (pc' := 30) (by decide) ?_
    exact retN Xc0ff1 hx (t := .boolean) Bd.returns (by simp) (hb hby own_d1_30) hr
  · show own_QP (some (.int (1 : Int32))) h0 n0 _ Tc0ff1.heap _
    rw [ec0ff1]
    exact ⟨rfl, N0, rfl⟩
theorem own_ef_c1t (m : MethodId) (op : Addr) (x : UInt64) : entryFrame m #[(.ref op), (.double x)] 3 = mkF m 0 #[.val (.ref op), .val (.double x), .second] [] := by first | (simp [entryFrame, mkF, argsToLocals, Value.category]; done) | rfl
set_option maxRecDepth 65536 in
set_option maxHeartbeats 40000000 in
theorem own_rm_c1t (l : Launch) (Z : State) (a0 : Array Value) (hw : ∀ d ∈ tables_1, d.before a0 Z = true) (ws : List Jvm.Cond) (op : Addr) (x : UInt64)  (h0 : Heap) (n0 : Nat) (Z0 : n0 ≤ h0.size) (E_op : Exa Z h0 op "com/example/libcredal/libcredal/checker/Query$Operator") (F_reward_op : Fld Z h0 op "com/example/libcredal/libcredal/checker/Query$Operator" "reward" "Z" (.int (1 : Int32))) (c1t_hb3 : ifCond.holds .lt (Op.cmpValue (FP.dcmp x 0) .l) = true) :
    MetFree l (⟨"com/example/libcredal/libcredal/checker/Query$Operator", "admits", "(D)Z"⟩ : MethodName) (head1 (Jvm.Cond.code (⟨"com/example/libcredal/libcredal/checker/Query$Operator", "admits", "(D)Z"⟩ : MethodName) prog_17_method_7_code 3 (some .boolean) :: ws) ({ frames := 0, cells := 0, slots := 0, locals := 0 } : Room)) (fun a U => a = #[(.ref op), (.double x)] ∧ Z.Warmed39 U.vm ∧ U.heap = h0) (fun _ _ _ _ _ => True) (fun _ U o U' => ∃ v L, o = .returned v ∧ own_QP (some (.int (0 : Int32))) h0 n0 v U'.heap L ∧ FrameEnd U o U' L ({ frames := 0, cells := 0, slots := 0, locals := 0 } : Room).cells ({ frames := 0, cells := 0, slots := 0, locals := 0 } : Room).slots) := by
  refine MetFree.of_bodySF (plainFor_of_name own_pn_com_example_libcredal_libcredal_checker_Query_Operator) hisR ?_
  intro p e s m args below meth c s₁ Bd hml0 hP hK
  obtain ⟨rfl, hZ, hh⟩ := hP
  have hx := Bd.exec
  have hby := Bd.bytes
  have hml : c.maxLocals = 3 := hml0
  have hown : s.vm.findClass "com/example/libcredal/libcredal/checker/Query$Operator" = some m.cls := findClass_of_methodNamed Bd.named
  have hnm := (name_of_methodNamed Bd.named Bd.method).1
  have X0 : Stand p l e ({ frames := 0, cells := 0, slots := 0, locals := 0 } : Room) s m #[(.ref op), (.double x)] below meth c s₁ [] 0 0 := Stand.of_body Bd
  have e0 : s₁.heap = h0 := by rw [← hh, Bd.state]; rfl
  have N0 := Fr.nil n0
  have pre0 : ∀ t, Steps p.tables e below (s₁.setTop (mkF m 0 #[.val (.ref op), .val (.double x), .second] [])) t → Steps p.tables e below (s₁.setTop (entryFrame m #[(.ref op), (.double x)] 3)) t := fun t k => castTop (own_ef_c1t m op x) k
  obtain ⟨fs, hr, hrun, hended, hW, hsame⟩ := X0.leave (v := some (.int (0 : Int32))) (fun h => by rw [Bd.returns] at h; cases h)
  refine ⟨_, _, pre0 _ ?_, hrun, hended, _, _, rfl, ?_, ⟨_, rfl⟩, hW, hsame.mono (by decide) (by decide)⟩
  · refine own_s_dloadN X0.here hx (hb hby own_d1_0) (pc' := 1) rfl rfl ?_
    refine own_s_dconst0 X0.here hx (hb hby own_d1_1) (pc' := 2) rfl  ?_
    refine own_s_dcmp X0.here hx (hb hby own_d1_2) (pc' := 3) rfl (v := (Op.cmpValue (FP.dcmp x 0) .l)) rfl ?_
    refine own_s_ifYes X0.here hx (hb hby own_d1_3) (by decide) (pc' := 29) (by decide) c1t_hb3 ?_
    refine own_s_iconst X0.here hx (hb hby own_d1_29) (pc' := 30) rfl (v := (0 : Int32)) (by decide) ?_
    exact retN X0 hx (t := .boolean) Bd.returns (by simp) (hb hby own_d1_30) hr
  · show own_QP (some (.int (0 : Int32))) h0 n0 _ s₁.heap _
    rw [e0]
    exact ⟨rfl, N0, rfl⟩
theorem own_d1_14 : decode prog_17_method_7_code 14 = .ok (.ldc2_w 55, 3) := by decide +kernel
theorem own_d1_17 : decode prog_17_method_7_code 17 = .ok (.goto 4, 3) := by decide +kernel
theorem own_ef_c1ft (m : MethodId) (op : Addr) (x : UInt64) : entryFrame m #[(.ref op), (.double x)] 3 = mkF m 0 #[.val (.ref op), .val (.double x), .second] [] := by first | (simp [entryFrame, mkF, argsToLocals, Value.category]; done) | rfl
set_option maxRecDepth 65536 in
set_option maxHeartbeats 40000000 in
theorem own_rm_c1ft (l : Launch) (Z : State) (a0 : Array Value) (hw : ∀ d ∈ tables_1, d.before a0 Z = true) (ws : List Jvm.Cond) (op : Addr) (x : UInt64)  (h0 : Heap) (n0 : Nat) (Z0 : n0 ≤ h0.size) (E_op : Exa Z h0 op "com/example/libcredal/libcredal/checker/Query$Operator") (F_reward_op : Fld Z h0 op "com/example/libcredal/libcredal/checker/Query$Operator" "reward" "Z" (.int (1 : Int32))) (c1ft_hb3 : ifCond.holds .lt (Op.cmpValue (FP.dcmp x 0) .l) = false) (c1ft_hb22 : ifCond.holds .gt (Op.cmpValue (FP.dcmp x (9218868437227405311 : UInt64)) .g) = true) :
    MetFree l (⟨"com/example/libcredal/libcredal/checker/Query$Operator", "admits", "(D)Z"⟩ : MethodName) (head1 (Jvm.Cond.code (⟨"com/example/libcredal/libcredal/checker/Query$Operator", "admits", "(D)Z"⟩ : MethodName) prog_17_method_7_code 3 (some .boolean) :: ws) ({ frames := 0, cells := 0, slots := 0, locals := 0 } : Room)) (fun a U => a = #[(.ref op), (.double x)] ∧ Z.Warmed39 U.vm ∧ U.heap = h0) (fun _ _ _ _ _ => True) (fun _ U o U' => ∃ v L, o = .returned v ∧ own_QP (some (.int (0 : Int32))) h0 n0 v U'.heap L ∧ FrameEnd U o U' L ({ frames := 0, cells := 0, slots := 0, locals := 0 } : Room).cells ({ frames := 0, cells := 0, slots := 0, locals := 0 } : Room).slots) := by
  refine MetFree.of_bodySF (plainFor_of_name own_pn_com_example_libcredal_libcredal_checker_Query_Operator) hisR ?_
  intro p e s m args below meth c s₁ Bd hml0 hP hK
  obtain ⟨rfl, hZ, hh⟩ := hP
  have hx := Bd.exec
  have hby := Bd.bytes
  have hml : c.maxLocals = 3 := hml0
  have hown : s.vm.findClass "com/example/libcredal/libcredal/checker/Query$Operator" = some m.cls := findClass_of_methodNamed Bd.named
  have hnm := (name_of_methodNamed Bd.named Bd.method).1
  have X0 : Stand p l e ({ frames := 0, cells := 0, slots := 0, locals := 0 } : Room) s m #[(.ref op), (.double x)] below meth c s₁ [] 0 0 := Stand.of_body Bd
  have e0 : s₁.heap = h0 := by rw [← hh, Bd.state]; rfl
  have N0 := Fr.nil n0
  have pre0 : ∀ t, Steps p.tables e below (s₁.setTop (mkF m 0 #[.val (.ref op), .val (.double x), .second] [])) t → Steps p.tables e below (s₁.setTop (entryFrame m #[(.ref op), (.double x)] 3)) t := fun t k => castTop (own_ef_c1ft m op x) k
  obtain ⟨Tc1ft1, Xc1ft1, ec1ft1, stc1ft1⟩ := getF X0 hx hZ hown (host := "") (Or.inl (hw _ (List.mem_of_getElem? (i := 9) rfl))) Via.refl e0 F_reward_op (g := (mkF m 8 #[.val (.ref op), .val (.double x), .second] [(.ref op), (.double x)])) rfl rfl (hb hby own_d1_8)
  obtain ⟨fs, hr, hrun, hended, hW, hsame⟩ := Xc1ft1.leave (v := some (.int (0 : Int32))) (fun h => by rw [Bd.returns] at h; cases h)
  refine ⟨_, _, pre0 _ ?_, hrun, hended, _, _, rfl, ?_, ⟨_, rfl⟩, hW, hsame.mono (by decide) (by decide)⟩
  · refine own_s_dloadN X0.here hx (hb hby own_d1_0) (pc' := 1) rfl rfl ?_
    refine own_s_dconst0 X0.here hx (hb hby own_d1_1) (pc' := 2) rfl  ?_
    refine own_s_dcmp X0.here hx (hb hby own_d1_2) (pc' := 3) rfl (v := (Op.cmpValue (FP.dcmp x 0) .l)) rfl ?_
    refine own_s_ifNo X0.here hx (hb hby own_d1_3) (pc' := 6) rfl c1ft_hb3 ?_
    refine own_s_dloadN X0.here hx (hb hby own_d1_6) (pc' := 7) rfl rfl ?_
    refine own_s_aloadN X0.here hx (hb hby own_d1_7) (pc' := 8) rfl rfl rfl ?_
    refine stc1ft1 _ ?_
    show Steps p.tables e below (Tc1ft1.setTop (mkF m 11 #[.val (.ref op), .val (.double x), .second] [(.int (1 : Int32)), (.double x)])) _
    refine own_s_ifNo Xc1ft1.here hx (hb hby own_d1_11) (pc' := 14) rfl (by decide) ?_
    refine Xc1ft1.ldc2DoubleC hx hown (mvT hZ (hw _ (List.mem_of_getElem? (i := 14) rfl))) (g := (mkF m 14 #[.val (.ref op), .val (.double x), .second] [(.double x)])) rfl (hb hby own_d1_14) _ ?_
    show Steps p.tables e below (Tc1ft1.setTop (mkF m 17 #[.val (.ref op), .val (.double x), .second] [(.double (9218868437227405311 : UInt64)), (.double x)])) _
    refine own_s_goto Xc1ft1.here hx (hb hby own_d1_17) (by decide) (pc' := 21) (by decide) ?_
    refine own_s_dcmp Xc1ft1.here hx (hb hby own_d1_21) (pc' := 22) rfl (v := (Op.cmpValue (FP.dcmp x (9218868437227405311 : UInt64)) .g)) rfl ?_
    refine own_s_ifYes Xc1ft1.here hx (hb hby own_d1_22) (by decide) (pc' := 29) (by decide) c1ft_hb22 ?_
    refine own_s_iconst Xc1ft1.here hx (hb hby own_d1_29) (pc' := 30) rfl (v := (0 : Int32)) (by decide) ?_
    exact retN Xc1ft1 hx (t := .boolean) Bd.returns (by simp) (hb hby own_d1_30) hr
  · show own_QP (some (.int (0 : Int32))) h0 n0 _ Tc1ft1.heap _
    rw [ec1ft1]
    exact ⟨rfl, N0, rfl⟩
theorem own_ef_c1ff (m : MethodId) (op : Addr) (x : UInt64) : entryFrame m #[(.ref op), (.double x)] 3 = mkF m 0 #[.val (.ref op), .val (.double x), .second] [] := by first | (simp [entryFrame, mkF, argsToLocals, Value.category]; done) | rfl
set_option maxRecDepth 65536 in
set_option maxHeartbeats 40000000 in
theorem own_rm_c1ff (l : Launch) (Z : State) (a0 : Array Value) (hw : ∀ d ∈ tables_1, d.before a0 Z = true) (ws : List Jvm.Cond) (op : Addr) (x : UInt64)  (h0 : Heap) (n0 : Nat) (Z0 : n0 ≤ h0.size) (E_op : Exa Z h0 op "com/example/libcredal/libcredal/checker/Query$Operator") (F_reward_op : Fld Z h0 op "com/example/libcredal/libcredal/checker/Query$Operator" "reward" "Z" (.int (1 : Int32))) (c1ff_hb3 : ifCond.holds .lt (Op.cmpValue (FP.dcmp x 0) .l) = false) (c1ff_hb22 : ifCond.holds .gt (Op.cmpValue (FP.dcmp x (9218868437227405311 : UInt64)) .g) = false) :
    MetFree l (⟨"com/example/libcredal/libcredal/checker/Query$Operator", "admits", "(D)Z"⟩ : MethodName) (head1 (Jvm.Cond.code (⟨"com/example/libcredal/libcredal/checker/Query$Operator", "admits", "(D)Z"⟩ : MethodName) prog_17_method_7_code 3 (some .boolean) :: ws) ({ frames := 0, cells := 0, slots := 0, locals := 0 } : Room)) (fun a U => a = #[(.ref op), (.double x)] ∧ Z.Warmed39 U.vm ∧ U.heap = h0) (fun _ _ _ _ _ => True) (fun _ U o U' => ∃ v L, o = .returned v ∧ own_QP (some (.int (1 : Int32))) h0 n0 v U'.heap L ∧ FrameEnd U o U' L ({ frames := 0, cells := 0, slots := 0, locals := 0 } : Room).cells ({ frames := 0, cells := 0, slots := 0, locals := 0 } : Room).slots) := by
  refine MetFree.of_bodySF (plainFor_of_name own_pn_com_example_libcredal_libcredal_checker_Query_Operator) hisR ?_
  intro p e s m args below meth c s₁ Bd hml0 hP hK
  obtain ⟨rfl, hZ, hh⟩ := hP
  have hx := Bd.exec
  have hby := Bd.bytes
  have hml : c.maxLocals = 3 := hml0
  have hown : s.vm.findClass "com/example/libcredal/libcredal/checker/Query$Operator" = some m.cls := findClass_of_methodNamed Bd.named
  have hnm := (name_of_methodNamed Bd.named Bd.method).1
  have X0 : Stand p l e ({ frames := 0, cells := 0, slots := 0, locals := 0 } : Room) s m #[(.ref op), (.double x)] below meth c s₁ [] 0 0 := Stand.of_body Bd
  have e0 : s₁.heap = h0 := by rw [← hh, Bd.state]; rfl
  have N0 := Fr.nil n0
  have pre0 : ∀ t, Steps p.tables e below (s₁.setTop (mkF m 0 #[.val (.ref op), .val (.double x), .second] [])) t → Steps p.tables e below (s₁.setTop (entryFrame m #[(.ref op), (.double x)] 3)) t := fun t k => castTop (own_ef_c1ff m op x) k
  obtain ⟨Tc1ff1, Xc1ff1, ec1ff1, stc1ff1⟩ := getF X0 hx hZ hown (host := "") (Or.inl (hw _ (List.mem_of_getElem? (i := 9) rfl))) Via.refl e0 F_reward_op (g := (mkF m 8 #[.val (.ref op), .val (.double x), .second] [(.ref op), (.double x)])) rfl rfl (hb hby own_d1_8)
  obtain ⟨fs, hr, hrun, hended, hW, hsame⟩ := Xc1ff1.leave (v := some (.int (1 : Int32))) (fun h => by rw [Bd.returns] at h; cases h)
  refine ⟨_, _, pre0 _ ?_, hrun, hended, _, _, rfl, ?_, ⟨_, rfl⟩, hW, hsame.mono (by decide) (by decide)⟩
  · refine own_s_dloadN X0.here hx (hb hby own_d1_0) (pc' := 1) rfl rfl ?_
    refine own_s_dconst0 X0.here hx (hb hby own_d1_1) (pc' := 2) rfl  ?_
    refine own_s_dcmp X0.here hx (hb hby own_d1_2) (pc' := 3) rfl (v := (Op.cmpValue (FP.dcmp x 0) .l)) rfl ?_
    refine own_s_ifNo X0.here hx (hb hby own_d1_3) (pc' := 6) rfl c1ff_hb3 ?_
    refine own_s_dloadN X0.here hx (hb hby own_d1_6) (pc' := 7) rfl rfl ?_
    refine own_s_aloadN X0.here hx (hb hby own_d1_7) (pc' := 8) rfl rfl rfl ?_
    refine stc1ff1 _ ?_
    show Steps p.tables e below (Tc1ff1.setTop (mkF m 11 #[.val (.ref op), .val (.double x), .second] [(.int (1 : Int32)), (.double x)])) _
    refine own_s_ifNo Xc1ff1.here hx (hb hby own_d1_11) (pc' := 14) rfl (by decide) ?_
    refine Xc1ff1.ldc2DoubleC hx hown (mvT hZ (hw _ (List.mem_of_getElem? (i := 14) rfl))) (g := (mkF m 14 #[.val (.ref op), .val (.double x), .second] [(.double x)])) rfl (hb hby own_d1_14) _ ?_
    show Steps p.tables e below (Tc1ff1.setTop (mkF m 17 #[.val (.ref op), .val (.double x), .second] [(.double (9218868437227405311 : UInt64)), (.double x)])) _
    refine own_s_goto Xc1ff1.here hx (hb hby own_d1_17) (by decide) (pc' := 21) (by decide) ?_
    refine own_s_dcmp Xc1ff1.here hx (hb hby own_d1_21) (pc' := 22) rfl (v := (Op.cmpValue (FP.dcmp x (9218868437227405311 : UInt64)) .g)) rfl ?_
    refine own_s_ifNo Xc1ff1.here hx (hb hby own_d1_22) (pc' := 25) rfl c1ff_hb22 ?_
    refine own_s_iconst Xc1ff1.here hx (hb hby own_d1_25) (pc' := 26) rfl (v := (1 : Int32)) (by decide) ?_
    refine own_s_goto Xc1ff1.here hx (hb hby own_d1_26) (by decide) (pc' := 30) (by decide) ?_
    exact retN Xc1ff1 hx (t := .boolean) Bd.returns (by simp) (hb hby own_d1_30) hr
  · show own_QP (some (.int (1 : Int32))) h0 n0 _ Tc1ff1.heap _
    rw [ec1ff1]
    exact ⟨rfl, N0, rfl⟩
theorem own_pd_28D29Z : parseMethodDescriptor "(D)Z" = some ⟨[.double], some .boolean⟩ := by decide +kernel
theorem own_pn_com_example_libcredal_libcredal_checker_OperatorAdmitsPinLaw : plainName "com/example/libcredal/libcredal/checker/OperatorAdmitsPinLaw" = true := by first | (simp [plainName, overriddenIn]; done) | decide +kernel
theorem own_ef_w0_4 (m : MethodId) (p0 : Int32) (p1 : Int64) (p2 : Int32) (p3 : Int32) : entryFrame m #[(.int p0), (.long p1), (.int p2), (.int p3)] maxLocals = mkF m 0 #[.val (.int p0), .val (.long p1), .second, .val (.int p2), .val (.int p3), .unset, .unset, .unset, .unset, .unset, .unset, .unset, .unset, .unset] [] := by first | (simp [entryFrame, mkF, argsToLocals, Value.category, maxLocals]; done) | rfl
set_option maxRecDepth 65536 in
set_option maxHeartbeats 40000000 in
theorem own_rm_w0_4 (l : Launch) (Z : State) (a0 : Array Value) (hw : ∀ d ∈ tables_1, d.before a0 Z = true) (ws : List Jvm.Cond) (p0 : Int32) (p1 : Int64) (p2 : Int32) (p3 : Int32) (st_P : Addr) {w0_4_v3 : Int32} (h0 : Heap) (n0 : Nat) (Z0 : n0 ≤ h0.size) (E_st_P : Exa Z h0 st_P "com/example/libcredal/libcredal/checker/Query$Operator") (F_reward_st_P : Fld Z h0 st_P "com/example/libcredal/libcredal/checker/Query$Operator" "reward" "Z" (.int (0 : Int32))) (S_P : Sta Z h0 "com/example/libcredal/libcredal/checker/Query$Operator" "P" "Lcom/example/libcredal/libcredal/checker/Query$Operator;" (.ref st_P)) (w0_4_hv3 : p0 &&& (2147483647 : Int32) = w0_4_v3) (w0_4_hv6 : w0_4_v3 % (6 : Int32) = (0 : Int32)) (w0_4_hv100 : p3 &&& (7 : Int32) = (4 : Int32)) (w0_4_c219_c0ft_hb3 : ifCond.holds .lt (Op.cmpValue (FP.dcmp (9218868437227405311 : UInt64) 0) .l) = false) (w0_4_c219_c0ft_hb22 : ifCond.holds .gt (Op.cmpValue (FP.dcmp (9218868437227405311 : UInt64) 4607182418800017408) .g) = true) :
    MetFree l x (head1 (Jvm.Cond.code x code maxLocals ret :: ws) room_1) (fun a U => a = #[(.int p0), (.long p1), (.int p2), (.int p3)] ∧ Z.Warmed39 U.vm ∧ U.heap = h0) (fun _ _ _ _ _ => True) (fun _ U o U' => ∃ v L, o = .returned v ∧ own_Q0 n0 v U'.heap L ∧ FrameEnd U o U' L room_1.cells room_1.slots) := by
  refine MetFree.of_bodySF (plainFor_of_name own_pn_com_example_libcredal_libcredal_checker_OperatorAdmitsPinLaw) hisR ?_
  intro p e s m args below meth c s₁ Bd hml0 hP hK
  obtain ⟨rfl, hZ, hh⟩ := hP
  have hx := Bd.exec
  have hby := Bd.bytes
  have hml : c.maxLocals = 14 := hml0
  have hown : s.vm.findClass "com/example/libcredal/libcredal/checker/OperatorAdmitsPinLaw" = some m.cls := findClass_of_methodNamed Bd.named
  have hnm := (name_of_methodNamed Bd.named Bd.method).1
  have X0 : Stand p l e room_1 s m #[(.int p0), (.long p1), (.int p2), (.int p3)] below meth c s₁ [] 0 0 := Stand.of_body Bd
  have e0 : s₁.heap = h0 := by rw [← hh, Bd.state]; rfl
  have N0 := Fr.nil n0
  have pre0 : ∀ t, Steps p.tables e below (s₁.setTop (mkF m 0 #[.val (.int p0), .val (.long p1), .second, .val (.int p2), .val (.int p3), .unset, .unset, .unset, .unset, .unset, .unset, .unset, .unset, .unset] [])) t → Steps p.tables e below (s₁.setTop (entryFrame m #[(.int p0), (.long p1), (.int p2), (.int p3)] maxLocals)) t := fun t k => castTop (own_ef_w0_4 m p0 p1 p2 p3) k
  obtain ⟨Tw0_41, Xw0_41, ew0_41, stw0_41⟩ := getS2 X0 hx hZ hown (host := "") (Or.inl (hw _ (List.mem_of_getElem? (i := 1) rfl))) Via.refl e0 S_P (g := (mkF m 14 #[.val (.int p0), .val (.long p1), .second, .val (.int p2), .val (.int p3), .val (.int (0 : Int32)), .unset, .unset, .unset, .unset, .unset, .unset, .unset, .unset] [])) rfl (hb hby at_14)
  obtain ⟨cqw0_42, kqw0_42, qw0_42a, qw0_42b, qw0_42c⟩ := isOf hZ ew0_41 E_st_P
  obtain ⟨_, _, ⟨Tw0_42, Lw0_42, kw0_42, nw0_42⟩, -, Xw0_42, ⟨Lcw0_42, hQw0_42, lw0_42, yw0_42, zw0_42⟩, stw0_42⟩ := Xw0_41.virtualBack hx (y := (⟨"com/example/libcredal/libcredal/checker/Query$Operator", "admits", "(D)Z"⟩ : MethodName)) (z := (⟨"com/example/libcredal/libcredal/checker/Query$Operator", "admits", "(D)Z"⟩ : MethodName)) hown (mvT hZ (hw _ (List.mem_of_getElem? (i := 4) rfl))) (mvT hZ (hw _ (List.mem_of_getElem? (i := 5) rfl))) (notFace_of_selects (args := #[]) (mvT hZ (hw _ (List.mem_of_getElem? (i := 7) rfl)))) (mvT hZ (hw _ (List.mem_of_getElem? (i := 7) rfl))) (mvT hZ (hw _ (List.mem_of_getElem? (i := 6) rfl))) (by decide) (backOf (W := 0) (own_rm_c0ft l Z a0 hw [] st_P (9218868437227405311 : UInt64) h0 n0 Z0 E_st_P F_reward_st_P w0_4_c219_c0ft_hb3 w0_4_c219_c0ft_hb22) hZ (hw _ (List.mem_of_getElem? (i := 8) rfl)) (hw _ (List.mem_of_getElem? (i := 2) rfl)) (by decide) (by decide)) qw0_42a qw0_42c (g := (mkF m 219 #[.val (.int p0), .val (.long p1), .second, .val (.int p2), .val (.int p3), .val (.int (0 : Int32)), .val (.ref st_P), .val (.int (0 : Int32)), .val (.int (4 : Int32)), .val (.double (9218868437227405311 : UInt64)), .second, .val (.int (0 : Int32)), .unset, .unset] [(.double (9218868437227405311 : UInt64)), (.ref st_P)])) rfl (by rw [hml]; rfl) (Steps.refl _) (argsL := [(.double (9218868437227405311 : UInt64))]) (rest := []) (lenOf own_pd_28D29Z rfl) rfl (by show 2 * 0 + _ ≤ _; exact Nat.le_of_eq rfl) (hb hby at_219) (fun _ _ => ⟨rfl, ew0_41, (by decide : 0 + 0 ≤ _), (by decide : 0 + 0 ≤ _)⟩)
  dsimp only [Pt.U, Pt.locs, Pt.cells, Pt.slots] at Xw0_42 lw0_42 yw0_42 zw0_42 stw0_42 hQw0_42
  rw [lw0_42, yw0_42, zw0_42] at Xw0_42
  obtain ⟨rfl, Nw0_42q, ew0_42⟩ := hQw0_42
  have Nw0_42 := Fr.app N0 Nw0_42q
  obtain ⟨fs, hr, hrun, hended, hW, hsame⟩ := Xw0_42.leave (v := some (.int (1 : Int32))) (fun h => by rw [Bd.returns] at h; cases h)
  refine ⟨_, _, pre0 _ ?_, hrun, hended, _, _, rfl, ?_, ⟨_, rfl⟩, hW, hsame.mono (by decide) (by decide)⟩
  · refine own_s_iloadN X0.here hx (hb hby at_0) (pc' := 1) rfl rfl ?_
    refine X0.ldcInt hx hown (mvT hZ (hw _ (List.mem_of_getElem? (i := 0) rfl))) (g := (mkF m 1 #[.val (.int p0), .val (.long p1), .second, .val (.int p2), .val (.int p3), .unset, .unset, .unset, .unset, .unset, .unset, .unset, .unset, .unset] [(.int p0)])) rfl (hb hby at_1) _ ?_
    show Steps p.tables e below (s₁.setTop (mkF m 3 #[.val (.int p0), .val (.long p1), .second, .val (.int p2), .val (.int p3), .unset, .unset, .unset, .unset, .unset, .unset, .unset, .unset, .unset] [(.int (2147483647 : Int32)), (.int p0)])) _
    refine own_s_iand X0.here hx (hb hby at_3) (pc' := 4) rfl (v := w0_4_v3) w0_4_hv3 ?_
    refine own_s_bipush X0.here hx (hb hby at_4) (pc' := 6) rfl (v := (6 : Int32)) (by decide) ?_
    refine own_s_irem X0.here hx (hb hby at_6) (pc' := 7) rfl (by decide) (v := (0 : Int32)) w0_4_hv6 ?_
    refine own_s_istore X0.here hx (hb hby at_7) (pc' := 9) rfl (L' := #[.val (.int p0), .val (.long p1), .second, .val (.int p2), .val (.int p3), .val (.int (0 : Int32)), .unset, .unset, .unset, .unset, .unset, .unset, .unset, .unset]) rfl ?_
    refine own_s_iload X0.here hx (hb hby at_9) (pc' := 11) rfl rfl ?_
    refine own_s_ifNo X0.here hx (hb hby at_11) (pc' := 14) rfl (by decide) ?_
    refine stw0_41 _ ?_
    show Steps p.tables e below (Tw0_41.setTop (mkF m 17 #[.val (.int p0), .val (.long p1), .second, .val (.int p2), .val (.int p3), .val (.int (0 : Int32)), .unset, .unset, .unset, .unset, .unset, .unset, .unset, .unset] [(.ref st_P)])) _
    refine own_s_astore Xw0_41.here hx (hb hby at_17) (pc' := 19) rfl rfl (L' := #[.val (.int p0), .val (.long p1), .second, .val (.int p2), .val (.int p3), .val (.int (0 : Int32)), .val (.ref st_P), .unset, .unset, .unset, .unset, .unset, .unset, .unset]) rfl ?_
    refine own_s_goto Xw0_41.here hx (hb hby at_19) (by decide) (pc' := 83) (by decide) ?_
    refine own_s_iload Xw0_41.here hx (hb hby at_83) (pc' := 85) rfl rfl ?_
    refine own_s_iconst Xw0_41.here hx (hb hby at_85) (pc' := 86) rfl (v := (3 : Int32)) (by decide) ?_
    refine own_s_icmpYes Xw0_41.here hx (hb hby at_86) (by decide) (pc' := 93) (by decide) (by decide) ?_
    refine own_s_iconst Xw0_41.here hx (hb hby at_93) (pc' := 94) rfl (v := (0 : Int32)) (by decide) ?_
    refine own_s_istore Xw0_41.here hx (hb hby at_94) (pc' := 96) rfl (L' := #[.val (.int p0), .val (.long p1), .second, .val (.int p2), .val (.int p3), .val (.int (0 : Int32)), .val (.ref st_P), .val (.int (0 : Int32)), .unset, .unset, .unset, .unset, .unset, .unset]) rfl ?_
    refine own_s_iload Xw0_41.here hx (hb hby at_96) (pc' := 98) rfl rfl ?_
    refine own_s_bipush Xw0_41.here hx (hb hby at_98) (pc' := 100) rfl (v := (7 : Int32)) (by decide) ?_
    refine own_s_iand Xw0_41.here hx (hb hby at_100) (pc' := 101) rfl (v := (4 : Int32)) w0_4_hv100 ?_
    refine own_s_istore Xw0_41.here hx (hb hby at_101) (pc' := 103) rfl (L' := #[.val (.int p0), .val (.long p1), .second, .val (.int p2), .val (.int p3), .val (.int (0 : Int32)), .val (.ref st_P), .val (.int (0 : Int32)), .val (.int (4 : Int32)), .unset, .unset, .unset, .unset, .unset]) rfl ?_
    refine own_s_iload Xw0_41.here hx (hb hby at_103) (pc' := 105) rfl rfl ?_
    refine own_s_iconst Xw0_41.here hx (hb hby at_105) (pc' := 106) rfl (v := (4 : Int32)) (by decide) ?_
    refine own_s_icmpNo Xw0_41.here hx (hb hby at_106) (pc' := 109) rfl (by decide) ?_
    refine Xw0_41.ldc2DoubleC hx hown (mvT hZ (hw _ (List.mem_of_getElem? (i := 19) rfl))) (g := (mkF m 109 #[.val (.int p0), .val (.long p1), .second, .val (.int p2), .val (.int p3), .val (.int (0 : Int32)), .val (.ref st_P), .val (.int (0 : Int32)), .val (.int (4 : Int32)), .unset, .unset, .unset, .unset, .unset] [])) rfl (hb hby at_109) _ ?_
    show Steps p.tables e below (Tw0_41.setTop (mkF m 112 #[.val (.int p0), .val (.long p1), .second, .val (.int p2), .val (.int p3), .val (.int (0 : Int32)), .val (.ref st_P), .val (.int (0 : Int32)), .val (.int (4 : Int32)), .unset, .unset, .unset, .unset, .unset] [(.double (9218868437227405311 : UInt64))])) _
    refine own_s_dstore Xw0_41.here hx (hb hby at_112) (pc' := 114) rfl (L' := #[.val (.int p0), .val (.long p1), .second, .val (.int p2), .val (.int p3), .val (.int (0 : Int32)), .val (.ref st_P), .val (.int (0 : Int32)), .val (.int (4 : Int32)), .val (.double (9218868437227405311 : UInt64)), .second, .unset, .unset, .unset]) rfl ?_
    refine own_s_iload Xw0_41.here hx (hb hby at_114) (pc' := 116) rfl rfl ?_
    refine own_s_istore Xw0_41.here hx (hb hby at_116) (pc' := 118) rfl (L' := #[.val (.int p0), .val (.long p1), .second, .val (.int p2), .val (.int p3), .val (.int (0 : Int32)), .val (.ref st_P), .val (.int (0 : Int32)), .val (.int (4 : Int32)), .val (.double (9218868437227405311 : UInt64)), .second, .val (.int (0 : Int32)), .unset, .unset]) rfl ?_
    refine own_s_goto Xw0_41.here hx (hb hby at_118) (by decide) (pc' := 215) (by decide) ?_
    refine own_s_aload Xw0_41.here hx (hb hby at_215) (pc' := 217) rfl rfl rfl ?_
    refine own_s_dload Xw0_41.here hx (hb hby at_217) (pc' := 219) rfl rfl ?_
    refine stw0_42.trans ?_
    show Steps p.tables e below (Tw0_42.setTop (mkF m 222 #[.val (.int p0), .val (.long p1), .second, .val (.int p2), .val (.int p3), .val (.int (0 : Int32)), .val (.ref st_P), .val (.int (0 : Int32)), .val (.int (4 : Int32)), .val (.double (9218868437227405311 : UInt64)), .second, .val (.int (0 : Int32)), .unset, .unset] [(.int (0 : Int32))])) _
    refine own_s_iload Xw0_42.here hx (hb hby at_222) (pc' := 224) rfl rfl ?_
    refine own_s_icmpNo Xw0_42.here hx (hb hby at_224) (pc' := 227) rfl (by decide) ?_
    refine own_s_iconst Xw0_42.here hx (hb hby at_227) (pc' := 228) rfl (v := (1 : Int32)) (by decide) ?_
    refine own_s_goto Xw0_42.here hx (hb hby at_228) (by decide) (pc' := 232) (by decide) ?_
    exact retN Xw0_42 hx (t := .boolean) Bd.returns (by simp) (hb hby at_232) hr
  · show own_Q0 n0 _ Tw0_42.heap _
    rw [ew0_42]
    exact ⟨rfl, Nw0_42⟩
theorem own_ef_w0_5 (m : MethodId) (p0 : Int32) (p1 : Int64) (p2 : Int32) (p3 : Int32) : entryFrame m #[(.int p0), (.long p1), (.int p2), (.int p3)] maxLocals = mkF m 0 #[.val (.int p0), .val (.long p1), .second, .val (.int p2), .val (.int p3), .unset, .unset, .unset, .unset, .unset, .unset, .unset, .unset, .unset] [] := by first | (simp [entryFrame, mkF, argsToLocals, Value.category, maxLocals]; done) | rfl
set_option maxRecDepth 65536 in
set_option maxHeartbeats 40000000 in
theorem own_rm_w0_5 (l : Launch) (Z : State) (a0 : Array Value) (hw : ∀ d ∈ tables_1, d.before a0 Z = true) (ws : List Jvm.Cond) (p0 : Int32) (p1 : Int64) (p2 : Int32) (p3 : Int32) (st_P : Addr) {w0_5_v3 : Int32} (h0 : Heap) (n0 : Nat) (Z0 : n0 ≤ h0.size) (E_st_P : Exa Z h0 st_P "com/example/libcredal/libcredal/checker/Query$Operator") (F_reward_st_P : Fld Z h0 st_P "com/example/libcredal/libcredal/checker/Query$Operator" "reward" "Z" (.int (0 : Int32))) (S_P : Sta Z h0 "com/example/libcredal/libcredal/checker/Query$Operator" "P" "Lcom/example/libcredal/libcredal/checker/Query$Operator;" (.ref st_P)) (w0_5_hv3 : p0 &&& (2147483647 : Int32) = w0_5_v3) (w0_5_hv6 : w0_5_v3 % (6 : Int32) = (0 : Int32)) (w0_5_hv100 : p3 &&& (7 : Int32) = (5 : Int32)) (w0_5_c219_c0ft_hb3 : ifCond.holds .lt (Op.cmpValue (FP.dcmp (9218868437227405312 : UInt64) 0) .l) = false) (w0_5_c219_c0ft_hb22 : ifCond.holds .gt (Op.cmpValue (FP.dcmp (9218868437227405312 : UInt64) 4607182418800017408) .g) = true) :
    MetFree l x (head1 (Jvm.Cond.code x code maxLocals ret :: ws) room_1) (fun a U => a = #[(.int p0), (.long p1), (.int p2), (.int p3)] ∧ Z.Warmed39 U.vm ∧ U.heap = h0) (fun _ _ _ _ _ => True) (fun _ U o U' => ∃ v L, o = .returned v ∧ own_Q0 n0 v U'.heap L ∧ FrameEnd U o U' L room_1.cells room_1.slots) := by
  refine MetFree.of_bodySF (plainFor_of_name own_pn_com_example_libcredal_libcredal_checker_OperatorAdmitsPinLaw) hisR ?_
  intro p e s m args below meth c s₁ Bd hml0 hP hK
  obtain ⟨rfl, hZ, hh⟩ := hP
  have hx := Bd.exec
  have hby := Bd.bytes
  have hml : c.maxLocals = 14 := hml0
  have hown : s.vm.findClass "com/example/libcredal/libcredal/checker/OperatorAdmitsPinLaw" = some m.cls := findClass_of_methodNamed Bd.named
  have hnm := (name_of_methodNamed Bd.named Bd.method).1
  have X0 : Stand p l e room_1 s m #[(.int p0), (.long p1), (.int p2), (.int p3)] below meth c s₁ [] 0 0 := Stand.of_body Bd
  have e0 : s₁.heap = h0 := by rw [← hh, Bd.state]; rfl
  have N0 := Fr.nil n0
  have pre0 : ∀ t, Steps p.tables e below (s₁.setTop (mkF m 0 #[.val (.int p0), .val (.long p1), .second, .val (.int p2), .val (.int p3), .unset, .unset, .unset, .unset, .unset, .unset, .unset, .unset, .unset] [])) t → Steps p.tables e below (s₁.setTop (entryFrame m #[(.int p0), (.long p1), (.int p2), (.int p3)] maxLocals)) t := fun t k => castTop (own_ef_w0_5 m p0 p1 p2 p3) k
  obtain ⟨Tw0_51, Xw0_51, ew0_51, stw0_51⟩ := getS2 X0 hx hZ hown (host := "") (Or.inl (hw _ (List.mem_of_getElem? (i := 1) rfl))) Via.refl e0 S_P (g := (mkF m 14 #[.val (.int p0), .val (.long p1), .second, .val (.int p2), .val (.int p3), .val (.int (0 : Int32)), .unset, .unset, .unset, .unset, .unset, .unset, .unset, .unset] [])) rfl (hb hby at_14)
  obtain ⟨cqw0_52, kqw0_52, qw0_52a, qw0_52b, qw0_52c⟩ := isOf hZ ew0_51 E_st_P
  obtain ⟨_, _, ⟨Tw0_52, Lw0_52, kw0_52, nw0_52⟩, -, Xw0_52, ⟨Lcw0_52, hQw0_52, lw0_52, yw0_52, zw0_52⟩, stw0_52⟩ := Xw0_51.virtualBack hx (y := (⟨"com/example/libcredal/libcredal/checker/Query$Operator", "admits", "(D)Z"⟩ : MethodName)) (z := (⟨"com/example/libcredal/libcredal/checker/Query$Operator", "admits", "(D)Z"⟩ : MethodName)) hown (mvT hZ (hw _ (List.mem_of_getElem? (i := 4) rfl))) (mvT hZ (hw _ (List.mem_of_getElem? (i := 5) rfl))) (notFace_of_selects (args := #[]) (mvT hZ (hw _ (List.mem_of_getElem? (i := 7) rfl)))) (mvT hZ (hw _ (List.mem_of_getElem? (i := 7) rfl))) (mvT hZ (hw _ (List.mem_of_getElem? (i := 6) rfl))) (by decide) (backOf (W := 0) (own_rm_c0ft l Z a0 hw [] st_P (9218868437227405312 : UInt64) h0 n0 Z0 E_st_P F_reward_st_P w0_5_c219_c0ft_hb3 w0_5_c219_c0ft_hb22) hZ (hw _ (List.mem_of_getElem? (i := 8) rfl)) (hw _ (List.mem_of_getElem? (i := 2) rfl)) (by decide) (by decide)) qw0_52a qw0_52c (g := (mkF m 219 #[.val (.int p0), .val (.long p1), .second, .val (.int p2), .val (.int p3), .val (.int (0 : Int32)), .val (.ref st_P), .val (.int (0 : Int32)), .val (.int (5 : Int32)), .val (.double (9218868437227405312 : UInt64)), .second, .val (.int (0 : Int32)), .unset, .unset] [(.double (9218868437227405312 : UInt64)), (.ref st_P)])) rfl (by rw [hml]; rfl) (Steps.refl _) (argsL := [(.double (9218868437227405312 : UInt64))]) (rest := []) (lenOf own_pd_28D29Z rfl) rfl (by show 2 * 0 + _ ≤ _; exact Nat.le_of_eq rfl) (hb hby at_219) (fun _ _ => ⟨rfl, ew0_51, (by decide : 0 + 0 ≤ _), (by decide : 0 + 0 ≤ _)⟩)
  dsimp only [Pt.U, Pt.locs, Pt.cells, Pt.slots] at Xw0_52 lw0_52 yw0_52 zw0_52 stw0_52 hQw0_52
  rw [lw0_52, yw0_52, zw0_52] at Xw0_52
  obtain ⟨rfl, Nw0_52q, ew0_52⟩ := hQw0_52
  have Nw0_52 := Fr.app N0 Nw0_52q
  obtain ⟨fs, hr, hrun, hended, hW, hsame⟩ := Xw0_52.leave (v := some (.int (1 : Int32))) (fun h => by rw [Bd.returns] at h; cases h)
  refine ⟨_, _, pre0 _ ?_, hrun, hended, _, _, rfl, ?_, ⟨_, rfl⟩, hW, hsame.mono (by decide) (by decide)⟩
  · refine own_s_iloadN X0.here hx (hb hby at_0) (pc' := 1) rfl rfl ?_
    refine X0.ldcInt hx hown (mvT hZ (hw _ (List.mem_of_getElem? (i := 0) rfl))) (g := (mkF m 1 #[.val (.int p0), .val (.long p1), .second, .val (.int p2), .val (.int p3), .unset, .unset, .unset, .unset, .unset, .unset, .unset, .unset, .unset] [(.int p0)])) rfl (hb hby at_1) _ ?_
    show Steps p.tables e below (s₁.setTop (mkF m 3 #[.val (.int p0), .val (.long p1), .second, .val (.int p2), .val (.int p3), .unset, .unset, .unset, .unset, .unset, .unset, .unset, .unset, .unset] [(.int (2147483647 : Int32)), (.int p0)])) _
    refine own_s_iand X0.here hx (hb hby at_3) (pc' := 4) rfl (v := w0_5_v3) w0_5_hv3 ?_
    refine own_s_bipush X0.here hx (hb hby at_4) (pc' := 6) rfl (v := (6 : Int32)) (by decide) ?_
    refine own_s_irem X0.here hx (hb hby at_6) (pc' := 7) rfl (by decide) (v := (0 : Int32)) w0_5_hv6 ?_
    refine own_s_istore X0.here hx (hb hby at_7) (pc' := 9) rfl (L' := #[.val (.int p0), .val (.long p1), .second, .val (.int p2), .val (.int p3), .val (.int (0 : Int32)), .unset, .unset, .unset, .unset, .unset, .unset, .unset, .unset]) rfl ?_
    refine own_s_iload X0.here hx (hb hby at_9) (pc' := 11) rfl rfl ?_
    refine own_s_ifNo X0.here hx (hb hby at_11) (pc' := 14) rfl (by decide) ?_
    refine stw0_51 _ ?_
    show Steps p.tables e below (Tw0_51.setTop (mkF m 17 #[.val (.int p0), .val (.long p1), .second, .val (.int p2), .val (.int p3), .val (.int (0 : Int32)), .unset, .unset, .unset, .unset, .unset, .unset, .unset, .unset] [(.ref st_P)])) _
    refine own_s_astore Xw0_51.here hx (hb hby at_17) (pc' := 19) rfl rfl (L' := #[.val (.int p0), .val (.long p1), .second, .val (.int p2), .val (.int p3), .val (.int (0 : Int32)), .val (.ref st_P), .unset, .unset, .unset, .unset, .unset, .unset, .unset]) rfl ?_
    refine own_s_goto Xw0_51.here hx (hb hby at_19) (by decide) (pc' := 83) (by decide) ?_
    refine own_s_iload Xw0_51.here hx (hb hby at_83) (pc' := 85) rfl rfl ?_
    refine own_s_iconst Xw0_51.here hx (hb hby at_85) (pc' := 86) rfl (v := (3 : Int32)) (by decide) ?_
    refine own_s_icmpYes Xw0_51.here hx (hb hby at_86) (by decide) (pc' := 93) (by decide) (by decide) ?_
    refine own_s_iconst Xw0_51.here hx (hb hby at_93) (pc' := 94) rfl (v := (0 : Int32)) (by decide) ?_
    refine own_s_istore Xw0_51.here hx (hb hby at_94) (pc' := 96) rfl (L' := #[.val (.int p0), .val (.long p1), .second, .val (.int p2), .val (.int p3), .val (.int (0 : Int32)), .val (.ref st_P), .val (.int (0 : Int32)), .unset, .unset, .unset, .unset, .unset, .unset]) rfl ?_
    refine own_s_iload Xw0_51.here hx (hb hby at_96) (pc' := 98) rfl rfl ?_
    refine own_s_bipush Xw0_51.here hx (hb hby at_98) (pc' := 100) rfl (v := (7 : Int32)) (by decide) ?_
    refine own_s_iand Xw0_51.here hx (hb hby at_100) (pc' := 101) rfl (v := (5 : Int32)) w0_5_hv100 ?_
    refine own_s_istore Xw0_51.here hx (hb hby at_101) (pc' := 103) rfl (L' := #[.val (.int p0), .val (.long p1), .second, .val (.int p2), .val (.int p3), .val (.int (0 : Int32)), .val (.ref st_P), .val (.int (0 : Int32)), .val (.int (5 : Int32)), .unset, .unset, .unset, .unset, .unset]) rfl ?_
    refine own_s_iload Xw0_51.here hx (hb hby at_103) (pc' := 105) rfl rfl ?_
    refine own_s_iconst Xw0_51.here hx (hb hby at_105) (pc' := 106) rfl (v := (4 : Int32)) (by decide) ?_
    refine own_s_icmpYes Xw0_51.here hx (hb hby at_106) (by decide) (pc' := 121) (by decide) (by decide) ?_
    refine own_s_iload Xw0_51.here hx (hb hby at_121) (pc' := 123) rfl rfl ?_
    refine own_s_iconst Xw0_51.here hx (hb hby at_123) (pc' := 124) rfl (v := (5 : Int32)) (by decide) ?_
    refine own_s_icmpNo Xw0_51.here hx (hb hby at_124) (pc' := 127) rfl (by decide) ?_
    refine Xw0_51.ldc2DoubleC hx hown (mvT hZ (hw _ (List.mem_of_getElem? (i := 23) rfl))) (g := (mkF m 127 #[.val (.int p0), .val (.long p1), .second, .val (.int p2), .val (.int p3), .val (.int (0 : Int32)), .val (.ref st_P), .val (.int (0 : Int32)), .val (.int (5 : Int32)), .unset, .unset, .unset, .unset, .unset] [])) rfl (hb hby at_127) _ ?_
    show Steps p.tables e below (Tw0_51.setTop (mkF m 130 #[.val (.int p0), .val (.long p1), .second, .val (.int p2), .val (.int p3), .val (.int (0 : Int32)), .val (.ref st_P), .val (.int (0 : Int32)), .val (.int (5 : Int32)), .unset, .unset, .unset, .unset, .unset] [(.double (9218868437227405312 : UInt64))])) _
    refine own_s_dstore Xw0_51.here hx (hb hby at_130) (pc' := 132) rfl (L' := #[.val (.int p0), .val (.long p1), .second, .val (.int p2), .val (.int p3), .val (.int (0 : Int32)), .val (.ref st_P), .val (.int (0 : Int32)), .val (.int (5 : Int32)), .val (.double (9218868437227405312 : UInt64)), .second, .unset, .unset, .unset]) rfl ?_
    refine own_s_iconst Xw0_51.here hx (hb hby at_132) (pc' := 133) rfl (v := (0 : Int32)) (by decide) ?_
    refine own_s_istore Xw0_51.here hx (hb hby at_133) (pc' := 135) rfl (L' := #[.val (.int p0), .val (.long p1), .second, .val (.int p2), .val (.int p3), .val (.int (0 : Int32)), .val (.ref st_P), .val (.int (0 : Int32)), .val (.int (5 : Int32)), .val (.double (9218868437227405312 : UInt64)), .second, .val (.int (0 : Int32)), .unset, .unset]) rfl ?_
    refine own_s_goto Xw0_51.here hx (hb hby at_135) (by decide) (pc' := 215) (by decide) ?_
    refine own_s_aload Xw0_51.here hx (hb hby at_215) (pc' := 217) rfl rfl rfl ?_
    refine own_s_dload Xw0_51.here hx (hb hby at_217) (pc' := 219) rfl rfl ?_
    refine stw0_52.trans ?_
    show Steps p.tables e below (Tw0_52.setTop (mkF m 222 #[.val (.int p0), .val (.long p1), .second, .val (.int p2), .val (.int p3), .val (.int (0 : Int32)), .val (.ref st_P), .val (.int (0 : Int32)), .val (.int (5 : Int32)), .val (.double (9218868437227405312 : UInt64)), .second, .val (.int (0 : Int32)), .unset, .unset] [(.int (0 : Int32))])) _
    refine own_s_iload Xw0_52.here hx (hb hby at_222) (pc' := 224) rfl rfl ?_
    refine own_s_icmpNo Xw0_52.here hx (hb hby at_224) (pc' := 227) rfl (by decide) ?_
    refine own_s_iconst Xw0_52.here hx (hb hby at_227) (pc' := 228) rfl (v := (1 : Int32)) (by decide) ?_
    refine own_s_goto Xw0_52.here hx (hb hby at_228) (by decide) (pc' := 232) (by decide) ?_
    exact retN Xw0_52 hx (t := .boolean) Bd.returns (by simp) (hb hby at_232) hr
  · show own_Q0 n0 _ Tw0_52.heap _
    rw [ew0_52]
    exact ⟨rfl, Nw0_52⟩
theorem own_ef_w0_6 (m : MethodId) (p0 : Int32) (p1 : Int64) (p2 : Int32) (p3 : Int32) : entryFrame m #[(.int p0), (.long p1), (.int p2), (.int p3)] maxLocals = mkF m 0 #[.val (.int p0), .val (.long p1), .second, .val (.int p2), .val (.int p3), .unset, .unset, .unset, .unset, .unset, .unset, .unset, .unset, .unset] [] := by first | (simp [entryFrame, mkF, argsToLocals, Value.category, maxLocals]; done) | rfl
set_option maxRecDepth 65536 in
set_option maxHeartbeats 40000000 in
theorem own_rm_w0_6 (l : Launch) (Z : State) (a0 : Array Value) (hw : ∀ d ∈ tables_1, d.before a0 Z = true) (ws : List Jvm.Cond) (p0 : Int32) (p1 : Int64) (p2 : Int32) (p3 : Int32) (st_P : Addr) {w0_6_v3 : Int32} (h0 : Heap) (n0 : Nat) (Z0 : n0 ≤ h0.size) (E_st_P : Exa Z h0 st_P "com/example/libcredal/libcredal/checker/Query$Operator") (F_reward_st_P : Fld Z h0 st_P "com/example/libcredal/libcredal/checker/Query$Operator" "reward" "Z" (.int (0 : Int32))) (S_P : Sta Z h0 "com/example/libcredal/libcredal/checker/Query$Operator" "P" "Lcom/example/libcredal/libcredal/checker/Query$Operator;" (.ref st_P)) (w0_6_hv3 : p0 &&& (2147483647 : Int32) = w0_6_v3) (w0_6_hv6 : w0_6_v3 % (6 : Int32) = (0 : Int32)) (w0_6_hv100 : p3 &&& (7 : Int32) = (6 : Int32)) (w0_6_c219_c0t_hb3 : ifCond.holds .lt (Op.cmpValue (FP.dcmp (18442240474082181120 : UInt64) 0) .l) = true) :
    MetFree l x (head1 (Jvm.Cond.code x code maxLocals ret :: ws) room_1) (fun a U => a = #[(.int p0), (.long p1), (.int p2), (.int p3)] ∧ Z.Warmed39 U.vm ∧ U.heap = h0) (fun _ _ _ _ _ => True) (fun _ U o U' => ∃ v L, o = .returned v ∧ own_Q0 n0 v U'.heap L ∧ FrameEnd U o U' L room_1.cells room_1.slots) := by
  refine MetFree.of_bodySF (plainFor_of_name own_pn_com_example_libcredal_libcredal_checker_OperatorAdmitsPinLaw) hisR ?_
  intro p e s m args below meth c s₁ Bd hml0 hP hK
  obtain ⟨rfl, hZ, hh⟩ := hP
  have hx := Bd.exec
  have hby := Bd.bytes
  have hml : c.maxLocals = 14 := hml0
  have hown : s.vm.findClass "com/example/libcredal/libcredal/checker/OperatorAdmitsPinLaw" = some m.cls := findClass_of_methodNamed Bd.named
  have hnm := (name_of_methodNamed Bd.named Bd.method).1
  have X0 : Stand p l e room_1 s m #[(.int p0), (.long p1), (.int p2), (.int p3)] below meth c s₁ [] 0 0 := Stand.of_body Bd
  have e0 : s₁.heap = h0 := by rw [← hh, Bd.state]; rfl
  have N0 := Fr.nil n0
  have pre0 : ∀ t, Steps p.tables e below (s₁.setTop (mkF m 0 #[.val (.int p0), .val (.long p1), .second, .val (.int p2), .val (.int p3), .unset, .unset, .unset, .unset, .unset, .unset, .unset, .unset, .unset] [])) t → Steps p.tables e below (s₁.setTop (entryFrame m #[(.int p0), (.long p1), (.int p2), (.int p3)] maxLocals)) t := fun t k => castTop (own_ef_w0_6 m p0 p1 p2 p3) k
  obtain ⟨Tw0_61, Xw0_61, ew0_61, stw0_61⟩ := getS2 X0 hx hZ hown (host := "") (Or.inl (hw _ (List.mem_of_getElem? (i := 1) rfl))) Via.refl e0 S_P (g := (mkF m 14 #[.val (.int p0), .val (.long p1), .second, .val (.int p2), .val (.int p3), .val (.int (0 : Int32)), .unset, .unset, .unset, .unset, .unset, .unset, .unset, .unset] [])) rfl (hb hby at_14)
  obtain ⟨cqw0_62, kqw0_62, qw0_62a, qw0_62b, qw0_62c⟩ := isOf hZ ew0_61 E_st_P
  obtain ⟨_, _, ⟨Tw0_62, Lw0_62, kw0_62, nw0_62⟩, -, Xw0_62, ⟨Lcw0_62, hQw0_62, lw0_62, yw0_62, zw0_62⟩, stw0_62⟩ := Xw0_61.virtualBack hx (y := (⟨"com/example/libcredal/libcredal/checker/Query$Operator", "admits", "(D)Z"⟩ : MethodName)) (z := (⟨"com/example/libcredal/libcredal/checker/Query$Operator", "admits", "(D)Z"⟩ : MethodName)) hown (mvT hZ (hw _ (List.mem_of_getElem? (i := 4) rfl))) (mvT hZ (hw _ (List.mem_of_getElem? (i := 5) rfl))) (notFace_of_selects (args := #[]) (mvT hZ (hw _ (List.mem_of_getElem? (i := 7) rfl)))) (mvT hZ (hw _ (List.mem_of_getElem? (i := 7) rfl))) (mvT hZ (hw _ (List.mem_of_getElem? (i := 6) rfl))) (by decide) (backOf (W := 0) (own_rm_c0t l Z a0 hw [] st_P (18442240474082181120 : UInt64) h0 n0 Z0 E_st_P F_reward_st_P w0_6_c219_c0t_hb3) hZ (hw _ (List.mem_of_getElem? (i := 8) rfl)) (hw _ (List.mem_of_getElem? (i := 2) rfl)) (by decide) (by decide)) qw0_62a qw0_62c (g := (mkF m 219 #[.val (.int p0), .val (.long p1), .second, .val (.int p2), .val (.int p3), .val (.int (0 : Int32)), .val (.ref st_P), .val (.int (0 : Int32)), .val (.int (6 : Int32)), .val (.double (18442240474082181120 : UInt64)), .second, .val (.int (0 : Int32)), .unset, .unset] [(.double (18442240474082181120 : UInt64)), (.ref st_P)])) rfl (by rw [hml]; rfl) (Steps.refl _) (argsL := [(.double (18442240474082181120 : UInt64))]) (rest := []) (lenOf own_pd_28D29Z rfl) rfl (by show 2 * 0 + _ ≤ _; exact Nat.le_of_eq rfl) (hb hby at_219) (fun _ _ => ⟨rfl, ew0_61, (by decide : 0 + 0 ≤ _), (by decide : 0 + 0 ≤ _)⟩)
  dsimp only [Pt.U, Pt.locs, Pt.cells, Pt.slots] at Xw0_62 lw0_62 yw0_62 zw0_62 stw0_62 hQw0_62
  rw [lw0_62, yw0_62, zw0_62] at Xw0_62
  obtain ⟨rfl, Nw0_62q, ew0_62⟩ := hQw0_62
  have Nw0_62 := Fr.app N0 Nw0_62q
  obtain ⟨fs, hr, hrun, hended, hW, hsame⟩ := Xw0_62.leave (v := some (.int (1 : Int32))) (fun h => by rw [Bd.returns] at h; cases h)
  refine ⟨_, _, pre0 _ ?_, hrun, hended, _, _, rfl, ?_, ⟨_, rfl⟩, hW, hsame.mono (by decide) (by decide)⟩
  · refine own_s_iloadN X0.here hx (hb hby at_0) (pc' := 1) rfl rfl ?_
    refine X0.ldcInt hx hown (mvT hZ (hw _ (List.mem_of_getElem? (i := 0) rfl))) (g := (mkF m 1 #[.val (.int p0), .val (.long p1), .second, .val (.int p2), .val (.int p3), .unset, .unset, .unset, .unset, .unset, .unset, .unset, .unset, .unset] [(.int p0)])) rfl (hb hby at_1) _ ?_
    show Steps p.tables e below (s₁.setTop (mkF m 3 #[.val (.int p0), .val (.long p1), .second, .val (.int p2), .val (.int p3), .unset, .unset, .unset, .unset, .unset, .unset, .unset, .unset, .unset] [(.int (2147483647 : Int32)), (.int p0)])) _
    refine own_s_iand X0.here hx (hb hby at_3) (pc' := 4) rfl (v := w0_6_v3) w0_6_hv3 ?_
    refine own_s_bipush X0.here hx (hb hby at_4) (pc' := 6) rfl (v := (6 : Int32)) (by decide) ?_
    refine own_s_irem X0.here hx (hb hby at_6) (pc' := 7) rfl (by decide) (v := (0 : Int32)) w0_6_hv6 ?_
    refine own_s_istore X0.here hx (hb hby at_7) (pc' := 9) rfl (L' := #[.val (.int p0), .val (.long p1), .second, .val (.int p2), .val (.int p3), .val (.int (0 : Int32)), .unset, .unset, .unset, .unset, .unset, .unset, .unset, .unset]) rfl ?_
    refine own_s_iload X0.here hx (hb hby at_9) (pc' := 11) rfl rfl ?_
    refine own_s_ifNo X0.here hx (hb hby at_11) (pc' := 14) rfl (by decide) ?_
    refine stw0_61 _ ?_
    show Steps p.tables e below (Tw0_61.setTop (mkF m 17 #[.val (.int p0), .val (.long p1), .second, .val (.int p2), .val (.int p3), .val (.int (0 : Int32)), .unset, .unset, .unset, .unset, .unset, .unset, .unset, .unset] [(.ref st_P)])) _
    refine own_s_astore Xw0_61.here hx (hb hby at_17) (pc' := 19) rfl rfl (L' := #[.val (.int p0), .val (.long p1), .second, .val (.int p2), .val (.int p3), .val (.int (0 : Int32)), .val (.ref st_P), .unset, .unset, .unset, .unset, .unset, .unset, .unset]) rfl ?_
    refine own_s_goto Xw0_61.here hx (hb hby at_19) (by decide) (pc' := 83) (by decide) ?_
    refine own_s_iload Xw0_61.here hx (hb hby at_83) (pc' := 85) rfl rfl ?_
    refine own_s_iconst Xw0_61.here hx (hb hby at_85) (pc' := 86) rfl (v := (3 : Int32)) (by decide) ?_
    refine own_s_icmpYes Xw0_61.here hx (hb hby at_86) (by decide) (pc' := 93) (by decide) (by decide) ?_
    refine own_s_iconst Xw0_61.here hx (hb hby at_93) (pc' := 94) rfl (v := (0 : Int32)) (by decide) ?_
    refine own_s_istore Xw0_61.here hx (hb hby at_94) (pc' := 96) rfl (L' := #[.val (.int p0), .val (.long p1), .second, .val (.int p2), .val (.int p3), .val (.int (0 : Int32)), .val (.ref st_P), .val (.int (0 : Int32)), .unset, .unset, .unset, .unset, .unset, .unset]) rfl ?_
    refine own_s_iload Xw0_61.here hx (hb hby at_96) (pc' := 98) rfl rfl ?_
    refine own_s_bipush Xw0_61.here hx (hb hby at_98) (pc' := 100) rfl (v := (7 : Int32)) (by decide) ?_
    refine own_s_iand Xw0_61.here hx (hb hby at_100) (pc' := 101) rfl (v := (6 : Int32)) w0_6_hv100 ?_
    refine own_s_istore Xw0_61.here hx (hb hby at_101) (pc' := 103) rfl (L' := #[.val (.int p0), .val (.long p1), .second, .val (.int p2), .val (.int p3), .val (.int (0 : Int32)), .val (.ref st_P), .val (.int (0 : Int32)), .val (.int (6 : Int32)), .unset, .unset, .unset, .unset, .unset]) rfl ?_
    refine own_s_iload Xw0_61.here hx (hb hby at_103) (pc' := 105) rfl rfl ?_
    refine own_s_iconst Xw0_61.here hx (hb hby at_105) (pc' := 106) rfl (v := (4 : Int32)) (by decide) ?_
    refine own_s_icmpYes Xw0_61.here hx (hb hby at_106) (by decide) (pc' := 121) (by decide) (by decide) ?_
    refine own_s_iload Xw0_61.here hx (hb hby at_121) (pc' := 123) rfl rfl ?_
    refine own_s_iconst Xw0_61.here hx (hb hby at_123) (pc' := 124) rfl (v := (5 : Int32)) (by decide) ?_
    refine own_s_icmpYes Xw0_61.here hx (hb hby at_124) (by decide) (pc' := 138) (by decide) (by decide) ?_
    refine own_s_iload Xw0_61.here hx (hb hby at_138) (pc' := 140) rfl rfl ?_
    refine own_s_bipush Xw0_61.here hx (hb hby at_140) (pc' := 142) rfl (v := (6 : Int32)) (by decide) ?_
    refine own_s_icmpNo Xw0_61.here hx (hb hby at_142) (pc' := 145) rfl (by decide) ?_
    refine Xw0_61.ldc2DoubleC hx hown (mvT hZ (hw _ (List.mem_of_getElem? (i := 20) rfl))) (g := (mkF m 145 #[.val (.int p0), .val (.long p1), .second, .val (.int p2), .val (.int p3), .val (.int (0 : Int32)), .val (.ref st_P), .val (.int (0 : Int32)), .val (.int (6 : Int32)), .unset, .unset, .unset, .unset, .unset] [])) rfl (hb hby at_145) _ ?_
    show Steps p.tables e below (Tw0_61.setTop (mkF m 148 #[.val (.int p0), .val (.long p1), .second, .val (.int p2), .val (.int p3), .val (.int (0 : Int32)), .val (.ref st_P), .val (.int (0 : Int32)), .val (.int (6 : Int32)), .unset, .unset, .unset, .unset, .unset] [(.double (18442240474082181120 : UInt64))])) _
    refine own_s_dstore Xw0_61.here hx (hb hby at_148) (pc' := 150) rfl (L' := #[.val (.int p0), .val (.long p1), .second, .val (.int p2), .val (.int p3), .val (.int (0 : Int32)), .val (.ref st_P), .val (.int (0 : Int32)), .val (.int (6 : Int32)), .val (.double (18442240474082181120 : UInt64)), .second, .unset, .unset, .unset]) rfl ?_
    refine own_s_iconst Xw0_61.here hx (hb hby at_150) (pc' := 151) rfl (v := (0 : Int32)) (by decide) ?_
    refine own_s_istore Xw0_61.here hx (hb hby at_151) (pc' := 153) rfl (L' := #[.val (.int p0), .val (.long p1), .second, .val (.int p2), .val (.int p3), .val (.int (0 : Int32)), .val (.ref st_P), .val (.int (0 : Int32)), .val (.int (6 : Int32)), .val (.double (18442240474082181120 : UInt64)), .second, .val (.int (0 : Int32)), .unset, .unset]) rfl ?_
    refine own_s_goto Xw0_61.here hx (hb hby at_153) (by decide) (pc' := 215) (by decide) ?_
    refine own_s_aload Xw0_61.here hx (hb hby at_215) (pc' := 217) rfl rfl rfl ?_
    refine own_s_dload Xw0_61.here hx (hb hby at_217) (pc' := 219) rfl rfl ?_
    refine stw0_62.trans ?_
    show Steps p.tables e below (Tw0_62.setTop (mkF m 222 #[.val (.int p0), .val (.long p1), .second, .val (.int p2), .val (.int p3), .val (.int (0 : Int32)), .val (.ref st_P), .val (.int (0 : Int32)), .val (.int (6 : Int32)), .val (.double (18442240474082181120 : UInt64)), .second, .val (.int (0 : Int32)), .unset, .unset] [(.int (0 : Int32))])) _
    refine own_s_iload Xw0_62.here hx (hb hby at_222) (pc' := 224) rfl rfl ?_
    refine own_s_icmpNo Xw0_62.here hx (hb hby at_224) (pc' := 227) rfl (by decide) ?_
    refine own_s_iconst Xw0_62.here hx (hb hby at_227) (pc' := 228) rfl (v := (1 : Int32)) (by decide) ?_
    refine own_s_goto Xw0_62.here hx (hb hby at_228) (by decide) (pc' := 232) (by decide) ?_
    exact retN Xw0_62 hx (t := .boolean) Bd.returns (by simp) (hb hby at_232) hr
  · show own_Q0 n0 _ Tw0_62.heap _
    rw [ew0_62]
    exact ⟨rfl, Nw0_62⟩
theorem own_ef_w0_7 (m : MethodId) (p0 : Int32) (p1 : Int64) (p2 : Int32) (p3 : Int32) : entryFrame m #[(.int p0), (.long p1), (.int p2), (.int p3)] maxLocals = mkF m 0 #[.val (.int p0), .val (.long p1), .second, .val (.int p2), .val (.int p3), .unset, .unset, .unset, .unset, .unset, .unset, .unset, .unset, .unset] [] := by first | (simp [entryFrame, mkF, argsToLocals, Value.category, maxLocals]; done) | rfl
set_option maxRecDepth 65536 in
set_option maxHeartbeats 40000000 in
theorem own_rm_w0_7 (l : Launch) (Z : State) (a0 : Array Value) (hw : ∀ d ∈ tables_1, d.before a0 Z = true) (ws : List Jvm.Cond) (p0 : Int32) (p1 : Int64) (p2 : Int32) (p3 : Int32) (st_P : Addr) {w0_7_v3 : Int32} (h0 : Heap) (n0 : Nat) (Z0 : n0 ≤ h0.size) (E_st_P : Exa Z h0 st_P "com/example/libcredal/libcredal/checker/Query$Operator") (F_reward_st_P : Fld Z h0 st_P "com/example/libcredal/libcredal/checker/Query$Operator" "reward" "Z" (.int (0 : Int32))) (S_P : Sta Z h0 "com/example/libcredal/libcredal/checker/Query$Operator" "P" "Lcom/example/libcredal/libcredal/checker/Query$Operator;" (.ref st_P)) (w0_7_hv3 : p0 &&& (2147483647 : Int32) = w0_7_v3) (w0_7_hv6 : w0_7_v3 % (6 : Int32) = (0 : Int32)) (w0_7_hv100 : p3 &&& (7 : Int32) = (7 : Int32)) (w0_7_c219_c0ff_hb3 : ifCond.holds .lt (Op.cmpValue (FP.dcmp (9223372036854775808 : UInt64) 0) .l) = false) (w0_7_c219_c0ff_hb22 : ifCond.holds .gt (Op.cmpValue (FP.dcmp (9223372036854775808 : UInt64) 4607182418800017408) .g) = false) :
    MetFree l x (head1 (Jvm.Cond.code x code maxLocals ret :: ws) room_1) (fun a U => a = #[(.int p0), (.long p1), (.int p2), (.int p3)] ∧ Z.Warmed39 U.vm ∧ U.heap = h0) (fun _ _ _ _ _ => True) (fun _ U o U' => ∃ v L, o = .returned v ∧ own_Q0 n0 v U'.heap L ∧ FrameEnd U o U' L room_1.cells room_1.slots) := by
  refine MetFree.of_bodySF (plainFor_of_name own_pn_com_example_libcredal_libcredal_checker_OperatorAdmitsPinLaw) hisR ?_
  intro p e s m args below meth c s₁ Bd hml0 hP hK
  obtain ⟨rfl, hZ, hh⟩ := hP
  have hx := Bd.exec
  have hby := Bd.bytes
  have hml : c.maxLocals = 14 := hml0
  have hown : s.vm.findClass "com/example/libcredal/libcredal/checker/OperatorAdmitsPinLaw" = some m.cls := findClass_of_methodNamed Bd.named
  have hnm := (name_of_methodNamed Bd.named Bd.method).1
  have X0 : Stand p l e room_1 s m #[(.int p0), (.long p1), (.int p2), (.int p3)] below meth c s₁ [] 0 0 := Stand.of_body Bd
  have e0 : s₁.heap = h0 := by rw [← hh, Bd.state]; rfl
  have N0 := Fr.nil n0
  have pre0 : ∀ t, Steps p.tables e below (s₁.setTop (mkF m 0 #[.val (.int p0), .val (.long p1), .second, .val (.int p2), .val (.int p3), .unset, .unset, .unset, .unset, .unset, .unset, .unset, .unset, .unset] [])) t → Steps p.tables e below (s₁.setTop (entryFrame m #[(.int p0), (.long p1), (.int p2), (.int p3)] maxLocals)) t := fun t k => castTop (own_ef_w0_7 m p0 p1 p2 p3) k
  obtain ⟨Tw0_71, Xw0_71, ew0_71, stw0_71⟩ := getS2 X0 hx hZ hown (host := "") (Or.inl (hw _ (List.mem_of_getElem? (i := 1) rfl))) Via.refl e0 S_P (g := (mkF m 14 #[.val (.int p0), .val (.long p1), .second, .val (.int p2), .val (.int p3), .val (.int (0 : Int32)), .unset, .unset, .unset, .unset, .unset, .unset, .unset, .unset] [])) rfl (hb hby at_14)
  obtain ⟨cqw0_72, kqw0_72, qw0_72a, qw0_72b, qw0_72c⟩ := isOf hZ ew0_71 E_st_P
  obtain ⟨_, _, ⟨Tw0_72, Lw0_72, kw0_72, nw0_72⟩, -, Xw0_72, ⟨Lcw0_72, hQw0_72, lw0_72, yw0_72, zw0_72⟩, stw0_72⟩ := Xw0_71.virtualBack hx (y := (⟨"com/example/libcredal/libcredal/checker/Query$Operator", "admits", "(D)Z"⟩ : MethodName)) (z := (⟨"com/example/libcredal/libcredal/checker/Query$Operator", "admits", "(D)Z"⟩ : MethodName)) hown (mvT hZ (hw _ (List.mem_of_getElem? (i := 4) rfl))) (mvT hZ (hw _ (List.mem_of_getElem? (i := 5) rfl))) (notFace_of_selects (args := #[]) (mvT hZ (hw _ (List.mem_of_getElem? (i := 7) rfl)))) (mvT hZ (hw _ (List.mem_of_getElem? (i := 7) rfl))) (mvT hZ (hw _ (List.mem_of_getElem? (i := 6) rfl))) (by decide) (backOf (W := 0) (own_rm_c0ff l Z a0 hw [] st_P (9223372036854775808 : UInt64) h0 n0 Z0 E_st_P F_reward_st_P w0_7_c219_c0ff_hb3 w0_7_c219_c0ff_hb22) hZ (hw _ (List.mem_of_getElem? (i := 8) rfl)) (hw _ (List.mem_of_getElem? (i := 2) rfl)) (by decide) (by decide)) qw0_72a qw0_72c (g := (mkF m 219 #[.val (.int p0), .val (.long p1), .second, .val (.int p2), .val (.int p3), .val (.int (0 : Int32)), .val (.ref st_P), .val (.int (0 : Int32)), .val (.int (7 : Int32)), .val (.double (9223372036854775808 : UInt64)), .second, .val (.int (1 : Int32)), .unset, .unset] [(.double (9223372036854775808 : UInt64)), (.ref st_P)])) rfl (by rw [hml]; rfl) (Steps.refl _) (argsL := [(.double (9223372036854775808 : UInt64))]) (rest := []) (lenOf own_pd_28D29Z rfl) rfl (by show 2 * 0 + _ ≤ _; exact Nat.le_of_eq rfl) (hb hby at_219) (fun _ _ => ⟨rfl, ew0_71, (by decide : 0 + 0 ≤ _), (by decide : 0 + 0 ≤ _)⟩)
  dsimp only [Pt.U, Pt.locs, Pt.cells, Pt.slots] at Xw0_72 lw0_72 yw0_72 zw0_72 stw0_72 hQw0_72
  rw [lw0_72, yw0_72, zw0_72] at Xw0_72
  obtain ⟨rfl, Nw0_72q, ew0_72⟩ := hQw0_72
  have Nw0_72 := Fr.app N0 Nw0_72q
  obtain ⟨fs, hr, hrun, hended, hW, hsame⟩ := Xw0_72.leave (v := some (.int (1 : Int32))) (fun h => by rw [Bd.returns] at h; cases h)
  refine ⟨_, _, pre0 _ ?_, hrun, hended, _, _, rfl, ?_, ⟨_, rfl⟩, hW, hsame.mono (by decide) (by decide)⟩
  · refine own_s_iloadN X0.here hx (hb hby at_0) (pc' := 1) rfl rfl ?_
    refine X0.ldcInt hx hown (mvT hZ (hw _ (List.mem_of_getElem? (i := 0) rfl))) (g := (mkF m 1 #[.val (.int p0), .val (.long p1), .second, .val (.int p2), .val (.int p3), .unset, .unset, .unset, .unset, .unset, .unset, .unset, .unset, .unset] [(.int p0)])) rfl (hb hby at_1) _ ?_
    show Steps p.tables e below (s₁.setTop (mkF m 3 #[.val (.int p0), .val (.long p1), .second, .val (.int p2), .val (.int p3), .unset, .unset, .unset, .unset, .unset, .unset, .unset, .unset, .unset] [(.int (2147483647 : Int32)), (.int p0)])) _
    refine own_s_iand X0.here hx (hb hby at_3) (pc' := 4) rfl (v := w0_7_v3) w0_7_hv3 ?_
    refine own_s_bipush X0.here hx (hb hby at_4) (pc' := 6) rfl (v := (6 : Int32)) (by decide) ?_
    refine own_s_irem X0.here hx (hb hby at_6) (pc' := 7) rfl (by decide) (v := (0 : Int32)) w0_7_hv6 ?_
    refine own_s_istore X0.here hx (hb hby at_7) (pc' := 9) rfl (L' := #[.val (.int p0), .val (.long p1), .second, .val (.int p2), .val (.int p3), .val (.int (0 : Int32)), .unset, .unset, .unset, .unset, .unset, .unset, .unset, .unset]) rfl ?_
    refine own_s_iload X0.here hx (hb hby at_9) (pc' := 11) rfl rfl ?_
    refine own_s_ifNo X0.here hx (hb hby at_11) (pc' := 14) rfl (by decide) ?_
    refine stw0_71 _ ?_
    show Steps p.tables e below (Tw0_71.setTop (mkF m 17 #[.val (.int p0), .val (.long p1), .second, .val (.int p2), .val (.int p3), .val (.int (0 : Int32)), .unset, .unset, .unset, .unset, .unset, .unset, .unset, .unset] [(.ref st_P)])) _
    refine own_s_astore Xw0_71.here hx (hb hby at_17) (pc' := 19) rfl rfl (L' := #[.val (.int p0), .val (.long p1), .second, .val (.int p2), .val (.int p3), .val (.int (0 : Int32)), .val (.ref st_P), .unset, .unset, .unset, .unset, .unset, .unset, .unset]) rfl ?_
    refine own_s_goto Xw0_71.here hx (hb hby at_19) (by decide) (pc' := 83) (by decide) ?_
    refine own_s_iload Xw0_71.here hx (hb hby at_83) (pc' := 85) rfl rfl ?_
    refine own_s_iconst Xw0_71.here hx (hb hby at_85) (pc' := 86) rfl (v := (3 : Int32)) (by decide) ?_
    refine own_s_icmpYes Xw0_71.here hx (hb hby at_86) (by decide) (pc' := 93) (by decide) (by decide) ?_
    refine own_s_iconst Xw0_71.here hx (hb hby at_93) (pc' := 94) rfl (v := (0 : Int32)) (by decide) ?_
    refine own_s_istore Xw0_71.here hx (hb hby at_94) (pc' := 96) rfl (L' := #[.val (.int p0), .val (.long p1), .second, .val (.int p2), .val (.int p3), .val (.int (0 : Int32)), .val (.ref st_P), .val (.int (0 : Int32)), .unset, .unset, .unset, .unset, .unset, .unset]) rfl ?_
    refine own_s_iload Xw0_71.here hx (hb hby at_96) (pc' := 98) rfl rfl ?_
    refine own_s_bipush Xw0_71.here hx (hb hby at_98) (pc' := 100) rfl (v := (7 : Int32)) (by decide) ?_
    refine own_s_iand Xw0_71.here hx (hb hby at_100) (pc' := 101) rfl (v := (7 : Int32)) w0_7_hv100 ?_
    refine own_s_istore Xw0_71.here hx (hb hby at_101) (pc' := 103) rfl (L' := #[.val (.int p0), .val (.long p1), .second, .val (.int p2), .val (.int p3), .val (.int (0 : Int32)), .val (.ref st_P), .val (.int (0 : Int32)), .val (.int (7 : Int32)), .unset, .unset, .unset, .unset, .unset]) rfl ?_
    refine own_s_iload Xw0_71.here hx (hb hby at_103) (pc' := 105) rfl rfl ?_
    refine own_s_iconst Xw0_71.here hx (hb hby at_105) (pc' := 106) rfl (v := (4 : Int32)) (by decide) ?_
    refine own_s_icmpYes Xw0_71.here hx (hb hby at_106) (by decide) (pc' := 121) (by decide) (by decide) ?_
    refine own_s_iload Xw0_71.here hx (hb hby at_121) (pc' := 123) rfl rfl ?_
    refine own_s_iconst Xw0_71.here hx (hb hby at_123) (pc' := 124) rfl (v := (5 : Int32)) (by decide) ?_
    refine own_s_icmpYes Xw0_71.here hx (hb hby at_124) (by decide) (pc' := 138) (by decide) (by decide) ?_
    refine own_s_iload Xw0_71.here hx (hb hby at_138) (pc' := 140) rfl rfl ?_
    refine own_s_bipush Xw0_71.here hx (hb hby at_140) (pc' := 142) rfl (v := (6 : Int32)) (by decide) ?_
    refine own_s_icmpYes Xw0_71.here hx (hb hby at_142) (by decide) (pc' := 156) (by decide) (by decide) ?_
    refine own_s_iload Xw0_71.here hx (hb hby at_156) (pc' := 158) rfl rfl ?_
    refine own_s_bipush Xw0_71.here hx (hb hby at_158) (pc' := 160) rfl (v := (7 : Int32)) (by decide) ?_
    refine own_s_icmpNo Xw0_71.here hx (hb hby at_160) (pc' := 163) rfl (by decide) ?_
    refine Xw0_71.ldc2DoubleC hx hown (mvT hZ (hw _ (List.mem_of_getElem? (i := 13) rfl))) (g := (mkF m 163 #[.val (.int p0), .val (.long p1), .second, .val (.int p2), .val (.int p3), .val (.int (0 : Int32)), .val (.ref st_P), .val (.int (0 : Int32)), .val (.int (7 : Int32)), .unset, .unset, .unset, .unset, .unset] [])) rfl (hb hby at_163) _ ?_
    show Steps p.tables e below (Tw0_71.setTop (mkF m 166 #[.val (.int p0), .val (.long p1), .second, .val (.int p2), .val (.int p3), .val (.int (0 : Int32)), .val (.ref st_P), .val (.int (0 : Int32)), .val (.int (7 : Int32)), .unset, .unset, .unset, .unset, .unset] [(.double (9223372036854775808 : UInt64))])) _
    refine own_s_dstore Xw0_71.here hx (hb hby at_166) (pc' := 168) rfl (L' := #[.val (.int p0), .val (.long p1), .second, .val (.int p2), .val (.int p3), .val (.int (0 : Int32)), .val (.ref st_P), .val (.int (0 : Int32)), .val (.int (7 : Int32)), .val (.double (9223372036854775808 : UInt64)), .second, .unset, .unset, .unset]) rfl ?_
    refine own_s_iconst Xw0_71.here hx (hb hby at_168) (pc' := 169) rfl (v := (1 : Int32)) (by decide) ?_
    refine own_s_istore Xw0_71.here hx (hb hby at_169) (pc' := 171) rfl (L' := #[.val (.int p0), .val (.long p1), .second, .val (.int p2), .val (.int p3), .val (.int (0 : Int32)), .val (.ref st_P), .val (.int (0 : Int32)), .val (.int (7 : Int32)), .val (.double (9223372036854775808 : UInt64)), .second, .val (.int (1 : Int32)), .unset, .unset]) rfl ?_
    refine own_s_goto Xw0_71.here hx (hb hby at_171) (by decide) (pc' := 215) (by decide) ?_
    refine own_s_aload Xw0_71.here hx (hb hby at_215) (pc' := 217) rfl rfl rfl ?_
    refine own_s_dload Xw0_71.here hx (hb hby at_217) (pc' := 219) rfl rfl ?_
    refine stw0_72.trans ?_
    show Steps p.tables e below (Tw0_72.setTop (mkF m 222 #[.val (.int p0), .val (.long p1), .second, .val (.int p2), .val (.int p3), .val (.int (0 : Int32)), .val (.ref st_P), .val (.int (0 : Int32)), .val (.int (7 : Int32)), .val (.double (9223372036854775808 : UInt64)), .second, .val (.int (1 : Int32)), .unset, .unset] [(.int (1 : Int32))])) _
    refine own_s_iload Xw0_72.here hx (hb hby at_222) (pc' := 224) rfl rfl ?_
    refine own_s_icmpNo Xw0_72.here hx (hb hby at_224) (pc' := 227) rfl (by decide) ?_
    refine own_s_iconst Xw0_72.here hx (hb hby at_227) (pc' := 228) rfl (v := (1 : Int32)) (by decide) ?_
    refine own_s_goto Xw0_72.here hx (hb hby at_228) (by decide) (pc' := 232) (by decide) ?_
    exact retN Xw0_72 hx (t := .boolean) Bd.returns (by simp) (hb hby at_232) hr
  · show own_Q0 n0 _ Tw0_72.heap _
    rw [ew0_72]
    exact ⟨rfl, Nw0_72⟩
theorem own_ef_w0_n (m : MethodId) (p0 : Int32) (p1 : Int64) (p2 : Int32) (p3 : Int32) : entryFrame m #[(.int p0), (.long p1), (.int p2), (.int p3)] maxLocals = mkF m 0 #[.val (.int p0), .val (.long p1), .second, .val (.int p2), .val (.int p3), .unset, .unset, .unset, .unset, .unset, .unset, .unset, .unset, .unset] [] := by first | (simp [entryFrame, mkF, argsToLocals, Value.category, maxLocals]; done) | rfl
set_option maxRecDepth 65536 in
set_option maxHeartbeats 40000000 in
theorem own_rm_w0_n (l : Launch) (Z : State) (a0 : Array Value) (hw : ∀ d ∈ tables_1, d.before a0 Z = true) (ws : List Jvm.Cond) (p0 : Int32) (p1 : Int64) (p2 : Int32) (p3 : Int32) (st_P : Addr) {w0_n_v3 : Int32} {w0_n_v100 : Int32} {w0_n_v178 : Int32} {w0_n_v179 : Int64} {w0_n_v187 : UInt64} (h0 : Heap) (n0 : Nat) (Z0 : n0 ≤ h0.size) (E_st_P : Exa Z h0 st_P "com/example/libcredal/libcredal/checker/Query$Operator") (F_reward_st_P : Fld Z h0 st_P "com/example/libcredal/libcredal/checker/Query$Operator" "reward" "Z" (.int (0 : Int32))) (S_P : Sta Z h0 "com/example/libcredal/libcredal/checker/Query$Operator" "P" "Lcom/example/libcredal/libcredal/checker/Query$Operator;" (.ref st_P)) (w0_n_hv3 : p0 &&& (2147483647 : Int32) = w0_n_v3) (w0_n_hv6 : w0_n_v3 % (6 : Int32) = (0 : Int32)) (w0_n_hv100 : p3 &&& (7 : Int32) = w0_n_v100) (w0_n_hb106 : if_icmp.holds .ne w0_n_v100 (4 : Int32) = true) (w0_n_hb124 : if_icmp.holds .ne w0_n_v100 (5 : Int32) = true) (w0_n_hb142 : if_icmp.holds .ne w0_n_v100 (6 : Int32) = true) (w0_n_hb160 : if_icmp.holds .ne w0_n_v100 (7 : Int32) = true) (w0_n_hv178 : p2 &&& (31 : Int32) = w0_n_v178) (w0_n_hv179 : (1 : Int64) <<< (w0_n_v178 &&& 63).toInt64 = w0_n_v179) (w0_n_hn187 : Jvm.Free.Fl.NoNaN64 (FP.ddiv (FP.l2d p1) (FP.l2d w0_n_v179))) (w0_n_hv187 : FP.ddiv (FP.l2d p1) (FP.l2d w0_n_v179) = w0_n_v187) (w0_n_hb193 : ifCond.holds .lt (lcmpW p1 (0 : Int64)) = true) (w0_n_c219_c0t_hb3 : ifCond.holds .lt (Op.cmpValue (FP.dcmp w0_n_v187 0) .l) = true) :
    MetFree l x (head1 (Jvm.Cond.code x code maxLocals ret :: ws) room_1) (fun a U => a = #[(.int p0), (.long p1), (.int p2), (.int p3)] ∧ Z.Warmed39 U.vm ∧ U.heap = h0) (fun _ _ _ _ _ => True) (fun _ U o U' => ∃ v L, o = .returned v ∧ own_Q0 n0 v U'.heap L ∧ FrameEnd U o U' L room_1.cells room_1.slots) := by
  refine MetFree.of_bodySF (plainFor_of_name own_pn_com_example_libcredal_libcredal_checker_OperatorAdmitsPinLaw) hisR ?_
  intro p e s m args below meth c s₁ Bd hml0 hP hK
  obtain ⟨rfl, hZ, hh⟩ := hP
  have hx := Bd.exec
  have hby := Bd.bytes
  have hml : c.maxLocals = 14 := hml0
  have hown : s.vm.findClass "com/example/libcredal/libcredal/checker/OperatorAdmitsPinLaw" = some m.cls := findClass_of_methodNamed Bd.named
  have hnm := (name_of_methodNamed Bd.named Bd.method).1
  have X0 : Stand p l e room_1 s m #[(.int p0), (.long p1), (.int p2), (.int p3)] below meth c s₁ [] 0 0 := Stand.of_body Bd
  have e0 : s₁.heap = h0 := by rw [← hh, Bd.state]; rfl
  have N0 := Fr.nil n0
  have pre0 : ∀ t, Steps p.tables e below (s₁.setTop (mkF m 0 #[.val (.int p0), .val (.long p1), .second, .val (.int p2), .val (.int p3), .unset, .unset, .unset, .unset, .unset, .unset, .unset, .unset, .unset] [])) t → Steps p.tables e below (s₁.setTop (entryFrame m #[(.int p0), (.long p1), (.int p2), (.int p3)] maxLocals)) t := fun t k => castTop (own_ef_w0_n m p0 p1 p2 p3) k
  obtain ⟨Tw0_n1, Xw0_n1, ew0_n1, stw0_n1⟩ := getS2 X0 hx hZ hown (host := "") (Or.inl (hw _ (List.mem_of_getElem? (i := 1) rfl))) Via.refl e0 S_P (g := (mkF m 14 #[.val (.int p0), .val (.long p1), .second, .val (.int p2), .val (.int p3), .val (.int (0 : Int32)), .unset, .unset, .unset, .unset, .unset, .unset, .unset, .unset] [])) rfl (hb hby at_14)
  obtain ⟨cqw0_n2, kqw0_n2, qw0_n2a, qw0_n2b, qw0_n2c⟩ := isOf hZ ew0_n1 E_st_P
  obtain ⟨_, _, ⟨Tw0_n2, Lw0_n2, kw0_n2, nw0_n2⟩, -, Xw0_n2, ⟨Lcw0_n2, hQw0_n2, lw0_n2, yw0_n2, zw0_n2⟩, stw0_n2⟩ := Xw0_n1.virtualBack hx (y := (⟨"com/example/libcredal/libcredal/checker/Query$Operator", "admits", "(D)Z"⟩ : MethodName)) (z := (⟨"com/example/libcredal/libcredal/checker/Query$Operator", "admits", "(D)Z"⟩ : MethodName)) hown (mvT hZ (hw _ (List.mem_of_getElem? (i := 4) rfl))) (mvT hZ (hw _ (List.mem_of_getElem? (i := 5) rfl))) (notFace_of_selects (args := #[]) (mvT hZ (hw _ (List.mem_of_getElem? (i := 7) rfl)))) (mvT hZ (hw _ (List.mem_of_getElem? (i := 7) rfl))) (mvT hZ (hw _ (List.mem_of_getElem? (i := 6) rfl))) (by decide) (backOf (W := 0) (own_rm_c0t l Z a0 hw [] st_P w0_n_v187 h0 n0 Z0 E_st_P F_reward_st_P w0_n_c219_c0t_hb3) hZ (hw _ (List.mem_of_getElem? (i := 8) rfl)) (hw _ (List.mem_of_getElem? (i := 2) rfl)) (by decide) (by decide)) qw0_n2a qw0_n2c (g := (mkF m 219 #[.val (.int p0), .val (.long p1), .second, .val (.int p2), .val (.int p3), .val (.int (0 : Int32)), .val (.ref st_P), .val (.int (0 : Int32)), .val (.int w0_n_v100), .val (.double w0_n_v187), .second, .val (.int (0 : Int32)), .val (.long w0_n_v179), .second] [(.double w0_n_v187), (.ref st_P)])) rfl (by rw [hml]; rfl) (Steps.refl _) (argsL := [(.double w0_n_v187)]) (rest := []) (lenOf own_pd_28D29Z rfl) rfl (by show 2 * 0 + _ ≤ _; exact Nat.le_of_eq rfl) (hb hby at_219) (fun _ _ => ⟨rfl, ew0_n1, (by decide : 0 + 0 ≤ _), (by decide : 0 + 0 ≤ _)⟩)
  dsimp only [Pt.U, Pt.locs, Pt.cells, Pt.slots] at Xw0_n2 lw0_n2 yw0_n2 zw0_n2 stw0_n2 hQw0_n2
  rw [lw0_n2, yw0_n2, zw0_n2] at Xw0_n2
  obtain ⟨rfl, Nw0_n2q, ew0_n2⟩ := hQw0_n2
  have Nw0_n2 := Fr.app N0 Nw0_n2q
  obtain ⟨fs, hr, hrun, hended, hW, hsame⟩ := Xw0_n2.leave (v := some (.int (1 : Int32))) (fun h => by rw [Bd.returns] at h; cases h)
  refine ⟨_, _, pre0 _ ?_, hrun, hended, _, _, rfl, ?_, ⟨_, rfl⟩, hW, hsame.mono (by decide) (by decide)⟩
  · refine own_s_iloadN X0.here hx (hb hby at_0) (pc' := 1) rfl rfl ?_
    refine X0.ldcInt hx hown (mvT hZ (hw _ (List.mem_of_getElem? (i := 0) rfl))) (g := (mkF m 1 #[.val (.int p0), .val (.long p1), .second, .val (.int p2), .val (.int p3), .unset, .unset, .unset, .unset, .unset, .unset, .unset, .unset, .unset] [(.int p0)])) rfl (hb hby at_1) _ ?_
    show Steps p.tables e below (s₁.setTop (mkF m 3 #[.val (.int p0), .val (.long p1), .second, .val (.int p2), .val (.int p3), .unset, .unset, .unset, .unset, .unset, .unset, .unset, .unset, .unset] [(.int (2147483647 : Int32)), (.int p0)])) _
    refine own_s_iand X0.here hx (hb hby at_3) (pc' := 4) rfl (v := w0_n_v3) w0_n_hv3 ?_
    refine own_s_bipush X0.here hx (hb hby at_4) (pc' := 6) rfl (v := (6 : Int32)) (by decide) ?_
    refine own_s_irem X0.here hx (hb hby at_6) (pc' := 7) rfl (by decide) (v := (0 : Int32)) w0_n_hv6 ?_
    refine own_s_istore X0.here hx (hb hby at_7) (pc' := 9) rfl (L' := #[.val (.int p0), .val (.long p1), .second, .val (.int p2), .val (.int p3), .val (.int (0 : Int32)), .unset, .unset, .unset, .unset, .unset, .unset, .unset, .unset]) rfl ?_
    refine own_s_iload X0.here hx (hb hby at_9) (pc' := 11) rfl rfl ?_
    refine own_s_ifNo X0.here hx (hb hby at_11) (pc' := 14) rfl (by decide) ?_
    refine stw0_n1 _ ?_
    show Steps p.tables e below (Tw0_n1.setTop (mkF m 17 #[.val (.int p0), .val (.long p1), .second, .val (.int p2), .val (.int p3), .val (.int (0 : Int32)), .unset, .unset, .unset, .unset, .unset, .unset, .unset, .unset] [(.ref st_P)])) _
    refine own_s_astore Xw0_n1.here hx (hb hby at_17) (pc' := 19) rfl rfl (L' := #[.val (.int p0), .val (.long p1), .second, .val (.int p2), .val (.int p3), .val (.int (0 : Int32)), .val (.ref st_P), .unset, .unset, .unset, .unset, .unset, .unset, .unset]) rfl ?_
    refine own_s_goto Xw0_n1.here hx (hb hby at_19) (by decide) (pc' := 83) (by decide) ?_
    refine own_s_iload Xw0_n1.here hx (hb hby at_83) (pc' := 85) rfl rfl ?_
    refine own_s_iconst Xw0_n1.here hx (hb hby at_85) (pc' := 86) rfl (v := (3 : Int32)) (by decide) ?_
    refine own_s_icmpYes Xw0_n1.here hx (hb hby at_86) (by decide) (pc' := 93) (by decide) (by decide) ?_
    refine own_s_iconst Xw0_n1.here hx (hb hby at_93) (pc' := 94) rfl (v := (0 : Int32)) (by decide) ?_
    refine own_s_istore Xw0_n1.here hx (hb hby at_94) (pc' := 96) rfl (L' := #[.val (.int p0), .val (.long p1), .second, .val (.int p2), .val (.int p3), .val (.int (0 : Int32)), .val (.ref st_P), .val (.int (0 : Int32)), .unset, .unset, .unset, .unset, .unset, .unset]) rfl ?_
    refine own_s_iload Xw0_n1.here hx (hb hby at_96) (pc' := 98) rfl rfl ?_
    refine own_s_bipush Xw0_n1.here hx (hb hby at_98) (pc' := 100) rfl (v := (7 : Int32)) (by decide) ?_
    refine own_s_iand Xw0_n1.here hx (hb hby at_100) (pc' := 101) rfl (v := w0_n_v100) w0_n_hv100 ?_
    refine own_s_istore Xw0_n1.here hx (hb hby at_101) (pc' := 103) rfl (L' := #[.val (.int p0), .val (.long p1), .second, .val (.int p2), .val (.int p3), .val (.int (0 : Int32)), .val (.ref st_P), .val (.int (0 : Int32)), .val (.int w0_n_v100), .unset, .unset, .unset, .unset, .unset]) rfl ?_
    refine own_s_iload Xw0_n1.here hx (hb hby at_103) (pc' := 105) rfl rfl ?_
    refine own_s_iconst Xw0_n1.here hx (hb hby at_105) (pc' := 106) rfl (v := (4 : Int32)) (by decide) ?_
    refine own_s_icmpYes Xw0_n1.here hx (hb hby at_106) (by decide) (pc' := 121) (by decide) w0_n_hb106 ?_
    refine own_s_iload Xw0_n1.here hx (hb hby at_121) (pc' := 123) rfl rfl ?_
    refine own_s_iconst Xw0_n1.here hx (hb hby at_123) (pc' := 124) rfl (v := (5 : Int32)) (by decide) ?_
    refine own_s_icmpYes Xw0_n1.here hx (hb hby at_124) (by decide) (pc' := 138) (by decide) w0_n_hb124 ?_
    refine own_s_iload Xw0_n1.here hx (hb hby at_138) (pc' := 140) rfl rfl ?_
    refine own_s_bipush Xw0_n1.here hx (hb hby at_140) (pc' := 142) rfl (v := (6 : Int32)) (by decide) ?_
    refine own_s_icmpYes Xw0_n1.here hx (hb hby at_142) (by decide) (pc' := 156) (by decide) w0_n_hb142 ?_
    refine own_s_iload Xw0_n1.here hx (hb hby at_156) (pc' := 158) rfl rfl ?_
    refine own_s_bipush Xw0_n1.here hx (hb hby at_158) (pc' := 160) rfl (v := (7 : Int32)) (by decide) ?_
    refine own_s_icmpYes Xw0_n1.here hx (hb hby at_160) (by decide) (pc' := 174) (by decide) w0_n_hb160 ?_
    refine own_s_lconst Xw0_n1.here hx (hb hby at_174) (pc' := 175) rfl (v := (1 : Int64)) (by decide) ?_
    refine own_s_iloadN Xw0_n1.here hx (hb hby at_175) (pc' := 176) rfl rfl ?_
    refine own_s_bipush Xw0_n1.here hx (hb hby at_176) (pc' := 178) rfl (v := (31 : Int32)) (by decide) ?_
    refine own_s_iand Xw0_n1.here hx (hb hby at_178) (pc' := 179) rfl (v := w0_n_v178) w0_n_hv178 ?_
    refine own_s_lshl Xw0_n1.here hx (hb hby at_179) (pc' := 180) rfl (v := w0_n_v179) w0_n_hv179 ?_
    refine own_s_lstore Xw0_n1.here hx (hb hby at_180) (pc' := 182) rfl (L' := #[.val (.int p0), .val (.long p1), .second, .val (.int p2), .val (.int p3), .val (.int (0 : Int32)), .val (.ref st_P), .val (.int (0 : Int32)), .val (.int w0_n_v100), .unset, .unset, .unset, .val (.long w0_n_v179), .second]) rfl ?_
    refine own_s_lloadN Xw0_n1.here hx (hb hby at_182) (pc' := 183) rfl rfl ?_
    refine own_s_l2d Xw0_n1.here hx (hb hby at_183) (pc' := 184) rfl (v := (FP.l2d p1)) rfl ?_
    refine own_s_lload Xw0_n1.here hx (hb hby at_184) (pc' := 186) rfl rfl ?_
    refine own_s_l2d Xw0_n1.here hx (hb hby at_186) (pc' := 187) rfl (v := (FP.l2d w0_n_v179)) rfl ?_
    refine own_s_ddiv Xw0_n1.here hx (hb hby at_187) (pc' := 188) rfl w0_n_hn187 (v := w0_n_v187) w0_n_hv187 ?_
    refine own_s_dstore Xw0_n1.here hx (hb hby at_188) (pc' := 190) rfl (L' := #[.val (.int p0), .val (.long p1), .second, .val (.int p2), .val (.int p3), .val (.int (0 : Int32)), .val (.ref st_P), .val (.int (0 : Int32)), .val (.int w0_n_v100), .val (.double w0_n_v187), .second, .unset, .val (.long w0_n_v179), .second]) rfl ?_
    refine own_s_lloadN Xw0_n1.here hx (hb hby at_190) (pc' := 191) rfl rfl ?_
    refine own_s_lconst Xw0_n1.here hx (hb hby at_191) (pc' := 192) rfl (v := (0 : Int64)) (by decide) ?_
    refine own_s_lcmp Xw0_n1.here hx (hb hby at_192) (pc' := 193) rfl (v := (lcmpW p1 (0 : Int64))) rfl ?_
    refine own_s_ifYes Xw0_n1.here hx (hb hby at_193) (by decide) (pc' := 212) (by decide) w0_n_hb193 ?_
    refine own_s_iconst Xw0_n1.here hx (hb hby at_212) (pc' := 213) rfl (v := (0 : Int32)) (by decide) ?_
    refine own_s_istore Xw0_n1.here hx (hb hby at_213) (pc' := 215) rfl (L' := #[.val (.int p0), .val (.long p1), .second, .val (.int p2), .val (.int p3), .val (.int (0 : Int32)), .val (.ref st_P), .val (.int (0 : Int32)), .val (.int w0_n_v100), .val (.double w0_n_v187), .second, .val (.int (0 : Int32)), .val (.long w0_n_v179), .second]) rfl ?_
    refine own_s_aload Xw0_n1.here hx (hb hby at_215) (pc' := 217) rfl rfl rfl ?_
    refine own_s_dload Xw0_n1.here hx (hb hby at_217) (pc' := 219) rfl rfl ?_
    refine stw0_n2.trans ?_
    show Steps p.tables e below (Tw0_n2.setTop (mkF m 222 #[.val (.int p0), .val (.long p1), .second, .val (.int p2), .val (.int p3), .val (.int (0 : Int32)), .val (.ref st_P), .val (.int (0 : Int32)), .val (.int w0_n_v100), .val (.double w0_n_v187), .second, .val (.int (0 : Int32)), .val (.long w0_n_v179), .second] [(.int (0 : Int32))])) _
    refine own_s_iload Xw0_n2.here hx (hb hby at_222) (pc' := 224) rfl rfl ?_
    refine own_s_icmpNo Xw0_n2.here hx (hb hby at_224) (pc' := 227) rfl (by decide) ?_
    refine own_s_iconst Xw0_n2.here hx (hb hby at_227) (pc' := 228) rfl (v := (1 : Int32)) (by decide) ?_
    refine own_s_goto Xw0_n2.here hx (hb hby at_228) (by decide) (pc' := 232) (by decide) ?_
    exact retN Xw0_n2 hx (t := .boolean) Bd.returns (by simp) (hb hby at_232) hr
  · show own_Q0 n0 _ Tw0_n2.heap _
    rw [ew0_n2]
    exact ⟨rfl, Nw0_n2⟩
theorem own_ef_w0_g (m : MethodId) (p0 : Int32) (p1 : Int64) (p2 : Int32) (p3 : Int32) : entryFrame m #[(.int p0), (.long p1), (.int p2), (.int p3)] maxLocals = mkF m 0 #[.val (.int p0), .val (.long p1), .second, .val (.int p2), .val (.int p3), .unset, .unset, .unset, .unset, .unset, .unset, .unset, .unset, .unset] [] := by first | (simp [entryFrame, mkF, argsToLocals, Value.category, maxLocals]; done) | rfl
set_option maxRecDepth 65536 in
set_option maxHeartbeats 40000000 in
theorem own_rm_w0_g (l : Launch) (Z : State) (a0 : Array Value) (hw : ∀ d ∈ tables_1, d.before a0 Z = true) (ws : List Jvm.Cond) (p0 : Int32) (p1 : Int64) (p2 : Int32) (p3 : Int32) (st_P : Addr) {w0_g_v3 : Int32} {w0_g_v100 : Int32} {w0_g_v178 : Int32} {w0_g_v179 : Int64} {w0_g_v187 : UInt64} (h0 : Heap) (n0 : Nat) (Z0 : n0 ≤ h0.size) (E_st_P : Exa Z h0 st_P "com/example/libcredal/libcredal/checker/Query$Operator") (F_reward_st_P : Fld Z h0 st_P "com/example/libcredal/libcredal/checker/Query$Operator" "reward" "Z" (.int (0 : Int32))) (S_P : Sta Z h0 "com/example/libcredal/libcredal/checker/Query$Operator" "P" "Lcom/example/libcredal/libcredal/checker/Query$Operator;" (.ref st_P)) (w0_g_hv3 : p0 &&& (2147483647 : Int32) = w0_g_v3) (w0_g_hv6 : w0_g_v3 % (6 : Int32) = (0 : Int32)) (w0_g_hv100 : p3 &&& (7 : Int32) = w0_g_v100) (w0_g_hb106 : if_icmp.holds .ne w0_g_v100 (4 : Int32) = true) (w0_g_hb124 : if_icmp.holds .ne w0_g_v100 (5 : Int32) = true) (w0_g_hb142 : if_icmp.holds .ne w0_g_v100 (6 : Int32) = true) (w0_g_hb160 : if_icmp.holds .ne w0_g_v100 (7 : Int32) = true) (w0_g_hv178 : p2 &&& (31 : Int32) = w0_g_v178) (w0_g_hv179 : (1 : Int64) <<< (w0_g_v178 &&& 63).toInt64 = w0_g_v179) (w0_g_hn187 : Jvm.Free.Fl.NoNaN64 (FP.ddiv (FP.l2d p1) (FP.l2d w0_g_v179))) (w0_g_hv187 : FP.ddiv (FP.l2d p1) (FP.l2d w0_g_v179) = w0_g_v187) (w0_g_hb193 : ifCond.holds .lt (lcmpW p1 (0 : Int64)) = false) (w0_g_hb205 : ifCond.holds .gt (lcmpW p1 w0_g_v179) = true) (w0_g_c219_c0ft_hb3 : ifCond.holds .lt (Op.cmpValue (FP.dcmp w0_g_v187 0) .l) = false) (w0_g_c219_c0ft_hb22 : ifCond.holds .gt (Op.cmpValue (FP.dcmp w0_g_v187 4607182418800017408) .g) = true) :
    MetFree l x (head1 (Jvm.Cond.code x code maxLocals ret :: ws) room_1) (fun a U => a = #[(.int p0), (.long p1), (.int p2), (.int p3)] ∧ Z.Warmed39 U.vm ∧ U.heap = h0) (fun _ _ _ _ _ => True) (fun _ U o U' => ∃ v L, o = .returned v ∧ own_Q0 n0 v U'.heap L ∧ FrameEnd U o U' L room_1.cells room_1.slots) := by
  refine MetFree.of_bodySF (plainFor_of_name own_pn_com_example_libcredal_libcredal_checker_OperatorAdmitsPinLaw) hisR ?_
  intro p e s m args below meth c s₁ Bd hml0 hP hK
  obtain ⟨rfl, hZ, hh⟩ := hP
  have hx := Bd.exec
  have hby := Bd.bytes
  have hml : c.maxLocals = 14 := hml0
  have hown : s.vm.findClass "com/example/libcredal/libcredal/checker/OperatorAdmitsPinLaw" = some m.cls := findClass_of_methodNamed Bd.named
  have hnm := (name_of_methodNamed Bd.named Bd.method).1
  have X0 : Stand p l e room_1 s m #[(.int p0), (.long p1), (.int p2), (.int p3)] below meth c s₁ [] 0 0 := Stand.of_body Bd
  have e0 : s₁.heap = h0 := by rw [← hh, Bd.state]; rfl
  have N0 := Fr.nil n0
  have pre0 : ∀ t, Steps p.tables e below (s₁.setTop (mkF m 0 #[.val (.int p0), .val (.long p1), .second, .val (.int p2), .val (.int p3), .unset, .unset, .unset, .unset, .unset, .unset, .unset, .unset, .unset] [])) t → Steps p.tables e below (s₁.setTop (entryFrame m #[(.int p0), (.long p1), (.int p2), (.int p3)] maxLocals)) t := fun t k => castTop (own_ef_w0_g m p0 p1 p2 p3) k
  obtain ⟨Tw0_g1, Xw0_g1, ew0_g1, stw0_g1⟩ := getS2 X0 hx hZ hown (host := "") (Or.inl (hw _ (List.mem_of_getElem? (i := 1) rfl))) Via.refl e0 S_P (g := (mkF m 14 #[.val (.int p0), .val (.long p1), .second, .val (.int p2), .val (.int p3), .val (.int (0 : Int32)), .unset, .unset, .unset, .unset, .unset, .unset, .unset, .unset] [])) rfl (hb hby at_14)
  obtain ⟨cqw0_g2, kqw0_g2, qw0_g2a, qw0_g2b, qw0_g2c⟩ := isOf hZ ew0_g1 E_st_P
  obtain ⟨_, _, ⟨Tw0_g2, Lw0_g2, kw0_g2, nw0_g2⟩, -, Xw0_g2, ⟨Lcw0_g2, hQw0_g2, lw0_g2, yw0_g2, zw0_g2⟩, stw0_g2⟩ := Xw0_g1.virtualBack hx (y := (⟨"com/example/libcredal/libcredal/checker/Query$Operator", "admits", "(D)Z"⟩ : MethodName)) (z := (⟨"com/example/libcredal/libcredal/checker/Query$Operator", "admits", "(D)Z"⟩ : MethodName)) hown (mvT hZ (hw _ (List.mem_of_getElem? (i := 4) rfl))) (mvT hZ (hw _ (List.mem_of_getElem? (i := 5) rfl))) (notFace_of_selects (args := #[]) (mvT hZ (hw _ (List.mem_of_getElem? (i := 7) rfl)))) (mvT hZ (hw _ (List.mem_of_getElem? (i := 7) rfl))) (mvT hZ (hw _ (List.mem_of_getElem? (i := 6) rfl))) (by decide) (backOf (W := 0) (own_rm_c0ft l Z a0 hw [] st_P w0_g_v187 h0 n0 Z0 E_st_P F_reward_st_P w0_g_c219_c0ft_hb3 w0_g_c219_c0ft_hb22) hZ (hw _ (List.mem_of_getElem? (i := 8) rfl)) (hw _ (List.mem_of_getElem? (i := 2) rfl)) (by decide) (by decide)) qw0_g2a qw0_g2c (g := (mkF m 219 #[.val (.int p0), .val (.long p1), .second, .val (.int p2), .val (.int p3), .val (.int (0 : Int32)), .val (.ref st_P), .val (.int (0 : Int32)), .val (.int w0_g_v100), .val (.double w0_g_v187), .second, .val (.int (0 : Int32)), .val (.long w0_g_v179), .second] [(.double w0_g_v187), (.ref st_P)])) rfl (by rw [hml]; rfl) (Steps.refl _) (argsL := [(.double w0_g_v187)]) (rest := []) (lenOf own_pd_28D29Z rfl) rfl (by show 2 * 0 + _ ≤ _; exact Nat.le_of_eq rfl) (hb hby at_219) (fun _ _ => ⟨rfl, ew0_g1, (by decide : 0 + 0 ≤ _), (by decide : 0 + 0 ≤ _)⟩)
  dsimp only [Pt.U, Pt.locs, Pt.cells, Pt.slots] at Xw0_g2 lw0_g2 yw0_g2 zw0_g2 stw0_g2 hQw0_g2
  rw [lw0_g2, yw0_g2, zw0_g2] at Xw0_g2
  obtain ⟨rfl, Nw0_g2q, ew0_g2⟩ := hQw0_g2
  have Nw0_g2 := Fr.app N0 Nw0_g2q
  obtain ⟨fs, hr, hrun, hended, hW, hsame⟩ := Xw0_g2.leave (v := some (.int (1 : Int32))) (fun h => by rw [Bd.returns] at h; cases h)
  refine ⟨_, _, pre0 _ ?_, hrun, hended, _, _, rfl, ?_, ⟨_, rfl⟩, hW, hsame.mono (by decide) (by decide)⟩
  · refine own_s_iloadN X0.here hx (hb hby at_0) (pc' := 1) rfl rfl ?_
    refine X0.ldcInt hx hown (mvT hZ (hw _ (List.mem_of_getElem? (i := 0) rfl))) (g := (mkF m 1 #[.val (.int p0), .val (.long p1), .second, .val (.int p2), .val (.int p3), .unset, .unset, .unset, .unset, .unset, .unset, .unset, .unset, .unset] [(.int p0)])) rfl (hb hby at_1) _ ?_
    show Steps p.tables e below (s₁.setTop (mkF m 3 #[.val (.int p0), .val (.long p1), .second, .val (.int p2), .val (.int p3), .unset, .unset, .unset, .unset, .unset, .unset, .unset, .unset, .unset] [(.int (2147483647 : Int32)), (.int p0)])) _
    refine own_s_iand X0.here hx (hb hby at_3) (pc' := 4) rfl (v := w0_g_v3) w0_g_hv3 ?_
    refine own_s_bipush X0.here hx (hb hby at_4) (pc' := 6) rfl (v := (6 : Int32)) (by decide) ?_
    refine own_s_irem X0.here hx (hb hby at_6) (pc' := 7) rfl (by decide) (v := (0 : Int32)) w0_g_hv6 ?_
    refine own_s_istore X0.here hx (hb hby at_7) (pc' := 9) rfl (L' := #[.val (.int p0), .val (.long p1), .second, .val (.int p2), .val (.int p3), .val (.int (0 : Int32)), .unset, .unset, .unset, .unset, .unset, .unset, .unset, .unset]) rfl ?_
    refine own_s_iload X0.here hx (hb hby at_9) (pc' := 11) rfl rfl ?_
    refine own_s_ifNo X0.here hx (hb hby at_11) (pc' := 14) rfl (by decide) ?_
    refine stw0_g1 _ ?_
    show Steps p.tables e below (Tw0_g1.setTop (mkF m 17 #[.val (.int p0), .val (.long p1), .second, .val (.int p2), .val (.int p3), .val (.int (0 : Int32)), .unset, .unset, .unset, .unset, .unset, .unset, .unset, .unset] [(.ref st_P)])) _
    refine own_s_astore Xw0_g1.here hx (hb hby at_17) (pc' := 19) rfl rfl (L' := #[.val (.int p0), .val (.long p1), .second, .val (.int p2), .val (.int p3), .val (.int (0 : Int32)), .val (.ref st_P), .unset, .unset, .unset, .unset, .unset, .unset, .unset]) rfl ?_
    refine own_s_goto Xw0_g1.here hx (hb hby at_19) (by decide) (pc' := 83) (by decide) ?_
    refine own_s_iload Xw0_g1.here hx (hb hby at_83) (pc' := 85) rfl rfl ?_
    refine own_s_iconst Xw0_g1.here hx (hb hby at_85) (pc' := 86) rfl (v := (3 : Int32)) (by decide) ?_
    refine own_s_icmpYes Xw0_g1.here hx (hb hby at_86) (by decide) (pc' := 93) (by decide) (by decide) ?_
    refine own_s_iconst Xw0_g1.here hx (hb hby at_93) (pc' := 94) rfl (v := (0 : Int32)) (by decide) ?_
    refine own_s_istore Xw0_g1.here hx (hb hby at_94) (pc' := 96) rfl (L' := #[.val (.int p0), .val (.long p1), .second, .val (.int p2), .val (.int p3), .val (.int (0 : Int32)), .val (.ref st_P), .val (.int (0 : Int32)), .unset, .unset, .unset, .unset, .unset, .unset]) rfl ?_
    refine own_s_iload Xw0_g1.here hx (hb hby at_96) (pc' := 98) rfl rfl ?_
    refine own_s_bipush Xw0_g1.here hx (hb hby at_98) (pc' := 100) rfl (v := (7 : Int32)) (by decide) ?_
    refine own_s_iand Xw0_g1.here hx (hb hby at_100) (pc' := 101) rfl (v := w0_g_v100) w0_g_hv100 ?_
    refine own_s_istore Xw0_g1.here hx (hb hby at_101) (pc' := 103) rfl (L' := #[.val (.int p0), .val (.long p1), .second, .val (.int p2), .val (.int p3), .val (.int (0 : Int32)), .val (.ref st_P), .val (.int (0 : Int32)), .val (.int w0_g_v100), .unset, .unset, .unset, .unset, .unset]) rfl ?_
    refine own_s_iload Xw0_g1.here hx (hb hby at_103) (pc' := 105) rfl rfl ?_
    refine own_s_iconst Xw0_g1.here hx (hb hby at_105) (pc' := 106) rfl (v := (4 : Int32)) (by decide) ?_
    refine own_s_icmpYes Xw0_g1.here hx (hb hby at_106) (by decide) (pc' := 121) (by decide) w0_g_hb106 ?_
    refine own_s_iload Xw0_g1.here hx (hb hby at_121) (pc' := 123) rfl rfl ?_
    refine own_s_iconst Xw0_g1.here hx (hb hby at_123) (pc' := 124) rfl (v := (5 : Int32)) (by decide) ?_
    refine own_s_icmpYes Xw0_g1.here hx (hb hby at_124) (by decide) (pc' := 138) (by decide) w0_g_hb124 ?_
    refine own_s_iload Xw0_g1.here hx (hb hby at_138) (pc' := 140) rfl rfl ?_
    refine own_s_bipush Xw0_g1.here hx (hb hby at_140) (pc' := 142) rfl (v := (6 : Int32)) (by decide) ?_
    refine own_s_icmpYes Xw0_g1.here hx (hb hby at_142) (by decide) (pc' := 156) (by decide) w0_g_hb142 ?_
    refine own_s_iload Xw0_g1.here hx (hb hby at_156) (pc' := 158) rfl rfl ?_
    refine own_s_bipush Xw0_g1.here hx (hb hby at_158) (pc' := 160) rfl (v := (7 : Int32)) (by decide) ?_
    refine own_s_icmpYes Xw0_g1.here hx (hb hby at_160) (by decide) (pc' := 174) (by decide) w0_g_hb160 ?_
    refine own_s_lconst Xw0_g1.here hx (hb hby at_174) (pc' := 175) rfl (v := (1 : Int64)) (by decide) ?_
    refine own_s_iloadN Xw0_g1.here hx (hb hby at_175) (pc' := 176) rfl rfl ?_
    refine own_s_bipush Xw0_g1.here hx (hb hby at_176) (pc' := 178) rfl (v := (31 : Int32)) (by decide) ?_
    refine own_s_iand Xw0_g1.here hx (hb hby at_178) (pc' := 179) rfl (v := w0_g_v178) w0_g_hv178 ?_
    refine own_s_lshl Xw0_g1.here hx (hb hby at_179) (pc' := 180) rfl (v := w0_g_v179) w0_g_hv179 ?_
    refine own_s_lstore Xw0_g1.here hx (hb hby at_180) (pc' := 182) rfl (L' := #[.val (.int p0), .val (.long p1), .second, .val (.int p2), .val (.int p3), .val (.int (0 : Int32)), .val (.ref st_P), .val (.int (0 : Int32)), .val (.int w0_g_v100), .unset, .unset, .unset, .val (.long w0_g_v179), .second]) rfl ?_
    refine own_s_lloadN Xw0_g1.here hx (hb hby at_182) (pc' := 183) rfl rfl ?_
    refine own_s_l2d Xw0_g1.here hx (hb hby at_183) (pc' := 184) rfl (v := (FP.l2d p1)) rfl ?_
    refine own_s_lload Xw0_g1.here hx (hb hby at_184) (pc' := 186) rfl rfl ?_
    refine own_s_l2d Xw0_g1.here hx (hb hby at_186) (pc' := 187) rfl (v := (FP.l2d w0_g_v179)) rfl ?_
    refine own_s_ddiv Xw0_g1.here hx (hb hby at_187) (pc' := 188) rfl w0_g_hn187 (v := w0_g_v187) w0_g_hv187 ?_
    refine own_s_dstore Xw0_g1.here hx (hb hby at_188) (pc' := 190) rfl (L' := #[.val (.int p0), .val (.long p1), .second, .val (.int p2), .val (.int p3), .val (.int (0 : Int32)), .val (.ref st_P), .val (.int (0 : Int32)), .val (.int w0_g_v100), .val (.double w0_g_v187), .second, .unset, .val (.long w0_g_v179), .second]) rfl ?_
    refine own_s_lloadN Xw0_g1.here hx (hb hby at_190) (pc' := 191) rfl rfl ?_
    refine own_s_lconst Xw0_g1.here hx (hb hby at_191) (pc' := 192) rfl (v := (0 : Int64)) (by decide) ?_
    refine own_s_lcmp Xw0_g1.here hx (hb hby at_192) (pc' := 193) rfl (v := (lcmpW p1 (0 : Int64))) rfl ?_
    refine own_s_ifNo Xw0_g1.here hx (hb hby at_193) (pc' := 196) rfl w0_g_hb193 ?_
    refine own_s_iload Xw0_g1.here hx (hb hby at_196) (pc' := 198) rfl rfl ?_
    refine own_s_ifNo Xw0_g1.here hx (hb hby at_198) (pc' := 201) rfl (by decide) ?_
    refine own_s_lloadN Xw0_g1.here hx (hb hby at_201) (pc' := 202) rfl rfl ?_
    refine own_s_lload Xw0_g1.here hx (hb hby at_202) (pc' := 204) rfl rfl ?_
    refine own_s_lcmp Xw0_g1.here hx (hb hby at_204) (pc' := 205) rfl (v := (lcmpW p1 w0_g_v179)) rfl ?_
    refine own_s_ifYes Xw0_g1.here hx (hb hby at_205) (by decide) (pc' := 212) (by decide) w0_g_hb205 ?_
    refine own_s_iconst Xw0_g1.here hx (hb hby at_212) (pc' := 213) rfl (v := (0 : Int32)) (by decide) ?_
    refine own_s_istore Xw0_g1.here hx (hb hby at_213) (pc' := 215) rfl (L' := #[.val (.int p0), .val (.long p1), .second, .val (.int p2), .val (.int p3), .val (.int (0 : Int32)), .val (.ref st_P), .val (.int (0 : Int32)), .val (.int w0_g_v100), .val (.double w0_g_v187), .second, .val (.int (0 : Int32)), .val (.long w0_g_v179), .second]) rfl ?_
    refine own_s_aload Xw0_g1.here hx (hb hby at_215) (pc' := 217) rfl rfl rfl ?_
    refine own_s_dload Xw0_g1.here hx (hb hby at_217) (pc' := 219) rfl rfl ?_
    refine stw0_g2.trans ?_
    show Steps p.tables e below (Tw0_g2.setTop (mkF m 222 #[.val (.int p0), .val (.long p1), .second, .val (.int p2), .val (.int p3), .val (.int (0 : Int32)), .val (.ref st_P), .val (.int (0 : Int32)), .val (.int w0_g_v100), .val (.double w0_g_v187), .second, .val (.int (0 : Int32)), .val (.long w0_g_v179), .second] [(.int (0 : Int32))])) _
    refine own_s_iload Xw0_g2.here hx (hb hby at_222) (pc' := 224) rfl rfl ?_
    refine own_s_icmpNo Xw0_g2.here hx (hb hby at_224) (pc' := 227) rfl (by decide) ?_
    refine own_s_iconst Xw0_g2.here hx (hb hby at_227) (pc' := 228) rfl (v := (1 : Int32)) (by decide) ?_
    refine own_s_goto Xw0_g2.here hx (hb hby at_228) (by decide) (pc' := 232) (by decide) ?_
    exact retN Xw0_g2 hx (t := .boolean) Bd.returns (by simp) (hb hby at_232) hr
  · show own_Q0 n0 _ Tw0_g2.heap _
    rw [ew0_g2]
    exact ⟨rfl, Nw0_g2⟩
theorem own_ef_w0_y (m : MethodId) (p0 : Int32) (p1 : Int64) (p2 : Int32) (p3 : Int32) : entryFrame m #[(.int p0), (.long p1), (.int p2), (.int p3)] maxLocals = mkF m 0 #[.val (.int p0), .val (.long p1), .second, .val (.int p2), .val (.int p3), .unset, .unset, .unset, .unset, .unset, .unset, .unset, .unset, .unset] [] := by first | (simp [entryFrame, mkF, argsToLocals, Value.category, maxLocals]; done) | rfl
set_option maxRecDepth 65536 in
set_option maxHeartbeats 40000000 in
theorem own_rm_w0_y (l : Launch) (Z : State) (a0 : Array Value) (hw : ∀ d ∈ tables_1, d.before a0 Z = true) (ws : List Jvm.Cond) (p0 : Int32) (p1 : Int64) (p2 : Int32) (p3 : Int32) (st_P : Addr) {w0_y_v3 : Int32} {w0_y_v100 : Int32} {w0_y_v178 : Int32} {w0_y_v179 : Int64} {w0_y_v187 : UInt64} (h0 : Heap) (n0 : Nat) (Z0 : n0 ≤ h0.size) (E_st_P : Exa Z h0 st_P "com/example/libcredal/libcredal/checker/Query$Operator") (F_reward_st_P : Fld Z h0 st_P "com/example/libcredal/libcredal/checker/Query$Operator" "reward" "Z" (.int (0 : Int32))) (S_P : Sta Z h0 "com/example/libcredal/libcredal/checker/Query$Operator" "P" "Lcom/example/libcredal/libcredal/checker/Query$Operator;" (.ref st_P)) (w0_y_hv3 : p0 &&& (2147483647 : Int32) = w0_y_v3) (w0_y_hv6 : w0_y_v3 % (6 : Int32) = (0 : Int32)) (w0_y_hv100 : p3 &&& (7 : Int32) = w0_y_v100) (w0_y_hb106 : if_icmp.holds .ne w0_y_v100 (4 : Int32) = true) (w0_y_hb124 : if_icmp.holds .ne w0_y_v100 (5 : Int32) = true) (w0_y_hb142 : if_icmp.holds .ne w0_y_v100 (6 : Int32) = true) (w0_y_hb160 : if_icmp.holds .ne w0_y_v100 (7 : Int32) = true) (w0_y_hv178 : p2 &&& (31 : Int32) = w0_y_v178) (w0_y_hv179 : (1 : Int64) <<< (w0_y_v178 &&& 63).toInt64 = w0_y_v179) (w0_y_hn187 : Jvm.Free.Fl.NoNaN64 (FP.ddiv (FP.l2d p1) (FP.l2d w0_y_v179))) (w0_y_hv187 : FP.ddiv (FP.l2d p1) (FP.l2d w0_y_v179) = w0_y_v187) (w0_y_hb193 : ifCond.holds .lt (lcmpW p1 (0 : Int64)) = false) (w0_y_hb205 : ifCond.holds .gt (lcmpW p1 w0_y_v179) = false) (w0_y_c219_c0ff_hb3 : ifCond.holds .lt (Op.cmpValue (FP.dcmp w0_y_v187 0) .l) = false) (w0_y_c219_c0ff_hb22 : ifCond.holds .gt (Op.cmpValue (FP.dcmp w0_y_v187 4607182418800017408) .g) = false) :
    MetFree l x (head1 (Jvm.Cond.code x code maxLocals ret :: ws) room_1) (fun a U => a = #[(.int p0), (.long p1), (.int p2), (.int p3)] ∧ Z.Warmed39 U.vm ∧ U.heap = h0) (fun _ _ _ _ _ => True) (fun _ U o U' => ∃ v L, o = .returned v ∧ own_Q0 n0 v U'.heap L ∧ FrameEnd U o U' L room_1.cells room_1.slots) := by
  refine MetFree.of_bodySF (plainFor_of_name own_pn_com_example_libcredal_libcredal_checker_OperatorAdmitsPinLaw) hisR ?_
  intro p e s m args below meth c s₁ Bd hml0 hP hK
  obtain ⟨rfl, hZ, hh⟩ := hP
  have hx := Bd.exec
  have hby := Bd.bytes
  have hml : c.maxLocals = 14 := hml0
  have hown : s.vm.findClass "com/example/libcredal/libcredal/checker/OperatorAdmitsPinLaw" = some m.cls := findClass_of_methodNamed Bd.named
  have hnm := (name_of_methodNamed Bd.named Bd.method).1
  have X0 : Stand p l e room_1 s m #[(.int p0), (.long p1), (.int p2), (.int p3)] below meth c s₁ [] 0 0 := Stand.of_body Bd
  have e0 : s₁.heap = h0 := by rw [← hh, Bd.state]; rfl
  have N0 := Fr.nil n0
  have pre0 : ∀ t, Steps p.tables e below (s₁.setTop (mkF m 0 #[.val (.int p0), .val (.long p1), .second, .val (.int p2), .val (.int p3), .unset, .unset, .unset, .unset, .unset, .unset, .unset, .unset, .unset] [])) t → Steps p.tables e below (s₁.setTop (entryFrame m #[(.int p0), (.long p1), (.int p2), (.int p3)] maxLocals)) t := fun t k => castTop (own_ef_w0_y m p0 p1 p2 p3) k
  obtain ⟨Tw0_y1, Xw0_y1, ew0_y1, stw0_y1⟩ := getS2 X0 hx hZ hown (host := "") (Or.inl (hw _ (List.mem_of_getElem? (i := 1) rfl))) Via.refl e0 S_P (g := (mkF m 14 #[.val (.int p0), .val (.long p1), .second, .val (.int p2), .val (.int p3), .val (.int (0 : Int32)), .unset, .unset, .unset, .unset, .unset, .unset, .unset, .unset] [])) rfl (hb hby at_14)
  obtain ⟨cqw0_y2, kqw0_y2, qw0_y2a, qw0_y2b, qw0_y2c⟩ := isOf hZ ew0_y1 E_st_P
  obtain ⟨_, _, ⟨Tw0_y2, Lw0_y2, kw0_y2, nw0_y2⟩, -, Xw0_y2, ⟨Lcw0_y2, hQw0_y2, lw0_y2, yw0_y2, zw0_y2⟩, stw0_y2⟩ := Xw0_y1.virtualBack hx (y := (⟨"com/example/libcredal/libcredal/checker/Query$Operator", "admits", "(D)Z"⟩ : MethodName)) (z := (⟨"com/example/libcredal/libcredal/checker/Query$Operator", "admits", "(D)Z"⟩ : MethodName)) hown (mvT hZ (hw _ (List.mem_of_getElem? (i := 4) rfl))) (mvT hZ (hw _ (List.mem_of_getElem? (i := 5) rfl))) (notFace_of_selects (args := #[]) (mvT hZ (hw _ (List.mem_of_getElem? (i := 7) rfl)))) (mvT hZ (hw _ (List.mem_of_getElem? (i := 7) rfl))) (mvT hZ (hw _ (List.mem_of_getElem? (i := 6) rfl))) (by decide) (backOf (W := 0) (own_rm_c0ff l Z a0 hw [] st_P w0_y_v187 h0 n0 Z0 E_st_P F_reward_st_P w0_y_c219_c0ff_hb3 w0_y_c219_c0ff_hb22) hZ (hw _ (List.mem_of_getElem? (i := 8) rfl)) (hw _ (List.mem_of_getElem? (i := 2) rfl)) (by decide) (by decide)) qw0_y2a qw0_y2c (g := (mkF m 219 #[.val (.int p0), .val (.long p1), .second, .val (.int p2), .val (.int p3), .val (.int (0 : Int32)), .val (.ref st_P), .val (.int (0 : Int32)), .val (.int w0_y_v100), .val (.double w0_y_v187), .second, .val (.int (1 : Int32)), .val (.long w0_y_v179), .second] [(.double w0_y_v187), (.ref st_P)])) rfl (by rw [hml]; rfl) (Steps.refl _) (argsL := [(.double w0_y_v187)]) (rest := []) (lenOf own_pd_28D29Z rfl) rfl (by show 2 * 0 + _ ≤ _; exact Nat.le_of_eq rfl) (hb hby at_219) (fun _ _ => ⟨rfl, ew0_y1, (by decide : 0 + 0 ≤ _), (by decide : 0 + 0 ≤ _)⟩)
  dsimp only [Pt.U, Pt.locs, Pt.cells, Pt.slots] at Xw0_y2 lw0_y2 yw0_y2 zw0_y2 stw0_y2 hQw0_y2
  rw [lw0_y2, yw0_y2, zw0_y2] at Xw0_y2
  obtain ⟨rfl, Nw0_y2q, ew0_y2⟩ := hQw0_y2
  have Nw0_y2 := Fr.app N0 Nw0_y2q
  obtain ⟨fs, hr, hrun, hended, hW, hsame⟩ := Xw0_y2.leave (v := some (.int (1 : Int32))) (fun h => by rw [Bd.returns] at h; cases h)
  refine ⟨_, _, pre0 _ ?_, hrun, hended, _, _, rfl, ?_, ⟨_, rfl⟩, hW, hsame.mono (by decide) (by decide)⟩
  · refine own_s_iloadN X0.here hx (hb hby at_0) (pc' := 1) rfl rfl ?_
    refine X0.ldcInt hx hown (mvT hZ (hw _ (List.mem_of_getElem? (i := 0) rfl))) (g := (mkF m 1 #[.val (.int p0), .val (.long p1), .second, .val (.int p2), .val (.int p3), .unset, .unset, .unset, .unset, .unset, .unset, .unset, .unset, .unset] [(.int p0)])) rfl (hb hby at_1) _ ?_
    show Steps p.tables e below (s₁.setTop (mkF m 3 #[.val (.int p0), .val (.long p1), .second, .val (.int p2), .val (.int p3), .unset, .unset, .unset, .unset, .unset, .unset, .unset, .unset, .unset] [(.int (2147483647 : Int32)), (.int p0)])) _
    refine own_s_iand X0.here hx (hb hby at_3) (pc' := 4) rfl (v := w0_y_v3) w0_y_hv3 ?_
    refine own_s_bipush X0.here hx (hb hby at_4) (pc' := 6) rfl (v := (6 : Int32)) (by decide) ?_
    refine own_s_irem X0.here hx (hb hby at_6) (pc' := 7) rfl (by decide) (v := (0 : Int32)) w0_y_hv6 ?_
    refine own_s_istore X0.here hx (hb hby at_7) (pc' := 9) rfl (L' := #[.val (.int p0), .val (.long p1), .second, .val (.int p2), .val (.int p3), .val (.int (0 : Int32)), .unset, .unset, .unset, .unset, .unset, .unset, .unset, .unset]) rfl ?_
    refine own_s_iload X0.here hx (hb hby at_9) (pc' := 11) rfl rfl ?_
    refine own_s_ifNo X0.here hx (hb hby at_11) (pc' := 14) rfl (by decide) ?_
    refine stw0_y1 _ ?_
    show Steps p.tables e below (Tw0_y1.setTop (mkF m 17 #[.val (.int p0), .val (.long p1), .second, .val (.int p2), .val (.int p3), .val (.int (0 : Int32)), .unset, .unset, .unset, .unset, .unset, .unset, .unset, .unset] [(.ref st_P)])) _
    refine own_s_astore Xw0_y1.here hx (hb hby at_17) (pc' := 19) rfl rfl (L' := #[.val (.int p0), .val (.long p1), .second, .val (.int p2), .val (.int p3), .val (.int (0 : Int32)), .val (.ref st_P), .unset, .unset, .unset, .unset, .unset, .unset, .unset]) rfl ?_
    refine own_s_goto Xw0_y1.here hx (hb hby at_19) (by decide) (pc' := 83) (by decide) ?_
    refine own_s_iload Xw0_y1.here hx (hb hby at_83) (pc' := 85) rfl rfl ?_
    refine own_s_iconst Xw0_y1.here hx (hb hby at_85) (pc' := 86) rfl (v := (3 : Int32)) (by decide) ?_
    refine own_s_icmpYes Xw0_y1.here hx (hb hby at_86) (by decide) (pc' := 93) (by decide) (by decide) ?_
    refine own_s_iconst Xw0_y1.here hx (hb hby at_93) (pc' := 94) rfl (v := (0 : Int32)) (by decide) ?_
    refine own_s_istore Xw0_y1.here hx (hb hby at_94) (pc' := 96) rfl (L' := #[.val (.int p0), .val (.long p1), .second, .val (.int p2), .val (.int p3), .val (.int (0 : Int32)), .val (.ref st_P), .val (.int (0 : Int32)), .unset, .unset, .unset, .unset, .unset, .unset]) rfl ?_
    refine own_s_iload Xw0_y1.here hx (hb hby at_96) (pc' := 98) rfl rfl ?_
    refine own_s_bipush Xw0_y1.here hx (hb hby at_98) (pc' := 100) rfl (v := (7 : Int32)) (by decide) ?_
    refine own_s_iand Xw0_y1.here hx (hb hby at_100) (pc' := 101) rfl (v := w0_y_v100) w0_y_hv100 ?_
    refine own_s_istore Xw0_y1.here hx (hb hby at_101) (pc' := 103) rfl (L' := #[.val (.int p0), .val (.long p1), .second, .val (.int p2), .val (.int p3), .val (.int (0 : Int32)), .val (.ref st_P), .val (.int (0 : Int32)), .val (.int w0_y_v100), .unset, .unset, .unset, .unset, .unset]) rfl ?_
    refine own_s_iload Xw0_y1.here hx (hb hby at_103) (pc' := 105) rfl rfl ?_
    refine own_s_iconst Xw0_y1.here hx (hb hby at_105) (pc' := 106) rfl (v := (4 : Int32)) (by decide) ?_
    refine own_s_icmpYes Xw0_y1.here hx (hb hby at_106) (by decide) (pc' := 121) (by decide) w0_y_hb106 ?_
    refine own_s_iload Xw0_y1.here hx (hb hby at_121) (pc' := 123) rfl rfl ?_
    refine own_s_iconst Xw0_y1.here hx (hb hby at_123) (pc' := 124) rfl (v := (5 : Int32)) (by decide) ?_
    refine own_s_icmpYes Xw0_y1.here hx (hb hby at_124) (by decide) (pc' := 138) (by decide) w0_y_hb124 ?_
    refine own_s_iload Xw0_y1.here hx (hb hby at_138) (pc' := 140) rfl rfl ?_
    refine own_s_bipush Xw0_y1.here hx (hb hby at_140) (pc' := 142) rfl (v := (6 : Int32)) (by decide) ?_
    refine own_s_icmpYes Xw0_y1.here hx (hb hby at_142) (by decide) (pc' := 156) (by decide) w0_y_hb142 ?_
    refine own_s_iload Xw0_y1.here hx (hb hby at_156) (pc' := 158) rfl rfl ?_
    refine own_s_bipush Xw0_y1.here hx (hb hby at_158) (pc' := 160) rfl (v := (7 : Int32)) (by decide) ?_
    refine own_s_icmpYes Xw0_y1.here hx (hb hby at_160) (by decide) (pc' := 174) (by decide) w0_y_hb160 ?_
    refine own_s_lconst Xw0_y1.here hx (hb hby at_174) (pc' := 175) rfl (v := (1 : Int64)) (by decide) ?_
    refine own_s_iloadN Xw0_y1.here hx (hb hby at_175) (pc' := 176) rfl rfl ?_
    refine own_s_bipush Xw0_y1.here hx (hb hby at_176) (pc' := 178) rfl (v := (31 : Int32)) (by decide) ?_
    refine own_s_iand Xw0_y1.here hx (hb hby at_178) (pc' := 179) rfl (v := w0_y_v178) w0_y_hv178 ?_
    refine own_s_lshl Xw0_y1.here hx (hb hby at_179) (pc' := 180) rfl (v := w0_y_v179) w0_y_hv179 ?_
    refine own_s_lstore Xw0_y1.here hx (hb hby at_180) (pc' := 182) rfl (L' := #[.val (.int p0), .val (.long p1), .second, .val (.int p2), .val (.int p3), .val (.int (0 : Int32)), .val (.ref st_P), .val (.int (0 : Int32)), .val (.int w0_y_v100), .unset, .unset, .unset, .val (.long w0_y_v179), .second]) rfl ?_
    refine own_s_lloadN Xw0_y1.here hx (hb hby at_182) (pc' := 183) rfl rfl ?_
    refine own_s_l2d Xw0_y1.here hx (hb hby at_183) (pc' := 184) rfl (v := (FP.l2d p1)) rfl ?_
    refine own_s_lload Xw0_y1.here hx (hb hby at_184) (pc' := 186) rfl rfl ?_
    refine own_s_l2d Xw0_y1.here hx (hb hby at_186) (pc' := 187) rfl (v := (FP.l2d w0_y_v179)) rfl ?_
    refine own_s_ddiv Xw0_y1.here hx (hb hby at_187) (pc' := 188) rfl w0_y_hn187 (v := w0_y_v187) w0_y_hv187 ?_
    refine own_s_dstore Xw0_y1.here hx (hb hby at_188) (pc' := 190) rfl (L' := #[.val (.int p0), .val (.long p1), .second, .val (.int p2), .val (.int p3), .val (.int (0 : Int32)), .val (.ref st_P), .val (.int (0 : Int32)), .val (.int w0_y_v100), .val (.double w0_y_v187), .second, .unset, .val (.long w0_y_v179), .second]) rfl ?_
    refine own_s_lloadN Xw0_y1.here hx (hb hby at_190) (pc' := 191) rfl rfl ?_
    refine own_s_lconst Xw0_y1.here hx (hb hby at_191) (pc' := 192) rfl (v := (0 : Int64)) (by decide) ?_
    refine own_s_lcmp Xw0_y1.here hx (hb hby at_192) (pc' := 193) rfl (v := (lcmpW p1 (0 : Int64))) rfl ?_
    refine own_s_ifNo Xw0_y1.here hx (hb hby at_193) (pc' := 196) rfl w0_y_hb193 ?_
    refine own_s_iload Xw0_y1.here hx (hb hby at_196) (pc' := 198) rfl rfl ?_
    refine own_s_ifNo Xw0_y1.here hx (hb hby at_198) (pc' := 201) rfl (by decide) ?_
    refine own_s_lloadN Xw0_y1.here hx (hb hby at_201) (pc' := 202) rfl rfl ?_
    refine own_s_lload Xw0_y1.here hx (hb hby at_202) (pc' := 204) rfl rfl ?_
    refine own_s_lcmp Xw0_y1.here hx (hb hby at_204) (pc' := 205) rfl (v := (lcmpW p1 w0_y_v179)) rfl ?_
    refine own_s_ifNo Xw0_y1.here hx (hb hby at_205) (pc' := 208) rfl w0_y_hb205 ?_
    refine own_s_iconst Xw0_y1.here hx (hb hby at_208) (pc' := 209) rfl (v := (1 : Int32)) (by decide) ?_
    refine own_s_goto Xw0_y1.here hx (hb hby at_209) (by decide) (pc' := 213) (by decide) ?_
    refine own_s_istore Xw0_y1.here hx (hb hby at_213) (pc' := 215) rfl (L' := #[.val (.int p0), .val (.long p1), .second, .val (.int p2), .val (.int p3), .val (.int (0 : Int32)), .val (.ref st_P), .val (.int (0 : Int32)), .val (.int w0_y_v100), .val (.double w0_y_v187), .second, .val (.int (1 : Int32)), .val (.long w0_y_v179), .second]) rfl ?_
    refine own_s_aload Xw0_y1.here hx (hb hby at_215) (pc' := 217) rfl rfl rfl ?_
    refine own_s_dload Xw0_y1.here hx (hb hby at_217) (pc' := 219) rfl rfl ?_
    refine stw0_y2.trans ?_
    show Steps p.tables e below (Tw0_y2.setTop (mkF m 222 #[.val (.int p0), .val (.long p1), .second, .val (.int p2), .val (.int p3), .val (.int (0 : Int32)), .val (.ref st_P), .val (.int (0 : Int32)), .val (.int w0_y_v100), .val (.double w0_y_v187), .second, .val (.int (1 : Int32)), .val (.long w0_y_v179), .second] [(.int (1 : Int32))])) _
    refine own_s_iload Xw0_y2.here hx (hb hby at_222) (pc' := 224) rfl rfl ?_
    refine own_s_icmpNo Xw0_y2.here hx (hb hby at_224) (pc' := 227) rfl (by decide) ?_
    refine own_s_iconst Xw0_y2.here hx (hb hby at_227) (pc' := 228) rfl (v := (1 : Int32)) (by decide) ?_
    refine own_s_goto Xw0_y2.here hx (hb hby at_228) (by decide) (pc' := 232) (by decide) ?_
    exact retN Xw0_y2 hx (t := .boolean) Bd.returns (by simp) (hb hby at_232) hr
  · show own_Q0 n0 _ Tw0_y2.heap _
    rw [ew0_y2]
    exact ⟨rfl, Nw0_y2⟩
theorem own_ef_w1_4 (m : MethodId) (p0 : Int32) (p1 : Int64) (p2 : Int32) (p3 : Int32) : entryFrame m #[(.int p0), (.long p1), (.int p2), (.int p3)] maxLocals = mkF m 0 #[.val (.int p0), .val (.long p1), .second, .val (.int p2), .val (.int p3), .unset, .unset, .unset, .unset, .unset, .unset, .unset, .unset, .unset] [] := by first | (simp [entryFrame, mkF, argsToLocals, Value.category, maxLocals]; done) | rfl
set_option maxRecDepth 65536 in
set_option maxHeartbeats 40000000 in
theorem own_rm_w1_4 (l : Launch) (Z : State) (a0 : Array Value) (hw : ∀ d ∈ tables_1, d.before a0 Z = true) (ws : List Jvm.Cond) (p0 : Int32) (p1 : Int64) (p2 : Int32) (p3 : Int32) (st_PMIN : Addr) {w1_4_v3 : Int32} (h0 : Heap) (n0 : Nat) (Z0 : n0 ≤ h0.size) (E_st_PMIN : Exa Z h0 st_PMIN "com/example/libcredal/libcredal/checker/Query$Operator") (F_reward_st_PMIN : Fld Z h0 st_PMIN "com/example/libcredal/libcredal/checker/Query$Operator" "reward" "Z" (.int (0 : Int32))) (S_PMIN : Sta Z h0 "com/example/libcredal/libcredal/checker/Query$Operator" "PMIN" "Lcom/example/libcredal/libcredal/checker/Query$Operator;" (.ref st_PMIN)) (w1_4_hv3 : p0 &&& (2147483647 : Int32) = w1_4_v3) (w1_4_hv6 : w1_4_v3 % (6 : Int32) = (1 : Int32)) (w1_4_hv100 : p3 &&& (7 : Int32) = (4 : Int32)) (w1_4_c219_c0ft_hb3 : ifCond.holds .lt (Op.cmpValue (FP.dcmp (9218868437227405311 : UInt64) 0) .l) = false) (w1_4_c219_c0ft_hb22 : ifCond.holds .gt (Op.cmpValue (FP.dcmp (9218868437227405311 : UInt64) 4607182418800017408) .g) = true) :
    MetFree l x (head1 (Jvm.Cond.code x code maxLocals ret :: ws) room_1) (fun a U => a = #[(.int p0), (.long p1), (.int p2), (.int p3)] ∧ Z.Warmed39 U.vm ∧ U.heap = h0) (fun _ _ _ _ _ => True) (fun _ U o U' => ∃ v L, o = .returned v ∧ own_Q0 n0 v U'.heap L ∧ FrameEnd U o U' L room_1.cells room_1.slots) := by
  refine MetFree.of_bodySF (plainFor_of_name own_pn_com_example_libcredal_libcredal_checker_OperatorAdmitsPinLaw) hisR ?_
  intro p e s m args below meth c s₁ Bd hml0 hP hK
  obtain ⟨rfl, hZ, hh⟩ := hP
  have hx := Bd.exec
  have hby := Bd.bytes
  have hml : c.maxLocals = 14 := hml0
  have hown : s.vm.findClass "com/example/libcredal/libcredal/checker/OperatorAdmitsPinLaw" = some m.cls := findClass_of_methodNamed Bd.named
  have hnm := (name_of_methodNamed Bd.named Bd.method).1
  have X0 : Stand p l e room_1 s m #[(.int p0), (.long p1), (.int p2), (.int p3)] below meth c s₁ [] 0 0 := Stand.of_body Bd
  have e0 : s₁.heap = h0 := by rw [← hh, Bd.state]; rfl
  have N0 := Fr.nil n0
  have pre0 : ∀ t, Steps p.tables e below (s₁.setTop (mkF m 0 #[.val (.int p0), .val (.long p1), .second, .val (.int p2), .val (.int p3), .unset, .unset, .unset, .unset, .unset, .unset, .unset, .unset, .unset] [])) t → Steps p.tables e below (s₁.setTop (entryFrame m #[(.int p0), (.long p1), (.int p2), (.int p3)] maxLocals)) t := fun t k => castTop (own_ef_w1_4 m p0 p1 p2 p3) k
  obtain ⟨Tw1_41, Xw1_41, ew1_41, stw1_41⟩ := getS2 X0 hx hZ hown (host := "") (Or.inl (hw _ (List.mem_of_getElem? (i := 17) rfl))) Via.refl e0 S_PMIN (g := (mkF m 28 #[.val (.int p0), .val (.long p1), .second, .val (.int p2), .val (.int p3), .val (.int (1 : Int32)), .unset, .unset, .unset, .unset, .unset, .unset, .unset, .unset] [])) rfl (hb hby at_28)
  obtain ⟨cqw1_42, kqw1_42, qw1_42a, qw1_42b, qw1_42c⟩ := isOf hZ ew1_41 E_st_PMIN
  obtain ⟨_, _, ⟨Tw1_42, Lw1_42, kw1_42, nw1_42⟩, -, Xw1_42, ⟨Lcw1_42, hQw1_42, lw1_42, yw1_42, zw1_42⟩, stw1_42⟩ := Xw1_41.virtualBack hx (y := (⟨"com/example/libcredal/libcredal/checker/Query$Operator", "admits", "(D)Z"⟩ : MethodName)) (z := (⟨"com/example/libcredal/libcredal/checker/Query$Operator", "admits", "(D)Z"⟩ : MethodName)) hown (mvT hZ (hw _ (List.mem_of_getElem? (i := 4) rfl))) (mvT hZ (hw _ (List.mem_of_getElem? (i := 5) rfl))) (notFace_of_selects (args := #[]) (mvT hZ (hw _ (List.mem_of_getElem? (i := 7) rfl)))) (mvT hZ (hw _ (List.mem_of_getElem? (i := 7) rfl))) (mvT hZ (hw _ (List.mem_of_getElem? (i := 6) rfl))) (by decide) (backOf (W := 0) (own_rm_c0ft l Z a0 hw [] st_PMIN (9218868437227405311 : UInt64) h0 n0 Z0 E_st_PMIN F_reward_st_PMIN w1_4_c219_c0ft_hb3 w1_4_c219_c0ft_hb22) hZ (hw _ (List.mem_of_getElem? (i := 8) rfl)) (hw _ (List.mem_of_getElem? (i := 2) rfl)) (by decide) (by decide)) qw1_42a qw1_42c (g := (mkF m 219 #[.val (.int p0), .val (.long p1), .second, .val (.int p2), .val (.int p3), .val (.int (1 : Int32)), .val (.ref st_PMIN), .val (.int (0 : Int32)), .val (.int (4 : Int32)), .val (.double (9218868437227405311 : UInt64)), .second, .val (.int (0 : Int32)), .unset, .unset] [(.double (9218868437227405311 : UInt64)), (.ref st_PMIN)])) rfl (by rw [hml]; rfl) (Steps.refl _) (argsL := [(.double (9218868437227405311 : UInt64))]) (rest := []) (lenOf own_pd_28D29Z rfl) rfl (by show 2 * 0 + _ ≤ _; exact Nat.le_of_eq rfl) (hb hby at_219) (fun _ _ => ⟨rfl, ew1_41, (by decide : 0 + 0 ≤ _), (by decide : 0 + 0 ≤ _)⟩)
  dsimp only [Pt.U, Pt.locs, Pt.cells, Pt.slots] at Xw1_42 lw1_42 yw1_42 zw1_42 stw1_42 hQw1_42
  rw [lw1_42, yw1_42, zw1_42] at Xw1_42
  obtain ⟨rfl, Nw1_42q, ew1_42⟩ := hQw1_42
  have Nw1_42 := Fr.app N0 Nw1_42q
  obtain ⟨fs, hr, hrun, hended, hW, hsame⟩ := Xw1_42.leave (v := some (.int (1 : Int32))) (fun h => by rw [Bd.returns] at h; cases h)
  refine ⟨_, _, pre0 _ ?_, hrun, hended, _, _, rfl, ?_, ⟨_, rfl⟩, hW, hsame.mono (by decide) (by decide)⟩
  · refine own_s_iloadN X0.here hx (hb hby at_0) (pc' := 1) rfl rfl ?_
    refine X0.ldcInt hx hown (mvT hZ (hw _ (List.mem_of_getElem? (i := 0) rfl))) (g := (mkF m 1 #[.val (.int p0), .val (.long p1), .second, .val (.int p2), .val (.int p3), .unset, .unset, .unset, .unset, .unset, .unset, .unset, .unset, .unset] [(.int p0)])) rfl (hb hby at_1) _ ?_
    show Steps p.tables e below (s₁.setTop (mkF m 3 #[.val (.int p0), .val (.long p1), .second, .val (.int p2), .val (.int p3), .unset, .unset, .unset, .unset, .unset, .unset, .unset, .unset, .unset] [(.int (2147483647 : Int32)), (.int p0)])) _
    refine own_s_iand X0.here hx (hb hby at_3) (pc' := 4) rfl (v := w1_4_v3) w1_4_hv3 ?_
    refine own_s_bipush X0.here hx (hb hby at_4) (pc' := 6) rfl (v := (6 : Int32)) (by decide) ?_
    refine own_s_irem X0.here hx (hb hby at_6) (pc' := 7) rfl (by decide) (v := (1 : Int32)) w1_4_hv6 ?_
    refine own_s_istore X0.here hx (hb hby at_7) (pc' := 9) rfl (L' := #[.val (.int p0), .val (.long p1), .second, .val (.int p2), .val (.int p3), .val (.int (1 : Int32)), .unset, .unset, .unset, .unset, .unset, .unset, .unset, .unset]) rfl ?_
    refine own_s_iload X0.here hx (hb hby at_9) (pc' := 11) rfl rfl ?_
    refine own_s_ifYes X0.here hx (hb hby at_11) (by decide) (pc' := 22) (by decide) (by decide) ?_
    refine own_s_iload X0.here hx (hb hby at_22) (pc' := 24) rfl rfl ?_
    refine own_s_iconst X0.here hx (hb hby at_24) (pc' := 25) rfl (v := (1 : Int32)) (by decide) ?_
    refine own_s_icmpNo X0.here hx (hb hby at_25) (pc' := 28) rfl (by decide) ?_
    refine stw1_41 _ ?_
    show Steps p.tables e below (Tw1_41.setTop (mkF m 31 #[.val (.int p0), .val (.long p1), .second, .val (.int p2), .val (.int p3), .val (.int (1 : Int32)), .unset, .unset, .unset, .unset, .unset, .unset, .unset, .unset] [(.ref st_PMIN)])) _
    refine own_s_astore Xw1_41.here hx (hb hby at_31) (pc' := 33) rfl rfl (L' := #[.val (.int p0), .val (.long p1), .second, .val (.int p2), .val (.int p3), .val (.int (1 : Int32)), .val (.ref st_PMIN), .unset, .unset, .unset, .unset, .unset, .unset, .unset]) rfl ?_
    refine own_s_goto Xw1_41.here hx (hb hby at_33) (by decide) (pc' := 83) (by decide) ?_
    refine own_s_iload Xw1_41.here hx (hb hby at_83) (pc' := 85) rfl rfl ?_
    refine own_s_iconst Xw1_41.here hx (hb hby at_85) (pc' := 86) rfl (v := (3 : Int32)) (by decide) ?_
    refine own_s_icmpYes Xw1_41.here hx (hb hby at_86) (by decide) (pc' := 93) (by decide) (by decide) ?_
    refine own_s_iconst Xw1_41.here hx (hb hby at_93) (pc' := 94) rfl (v := (0 : Int32)) (by decide) ?_
    refine own_s_istore Xw1_41.here hx (hb hby at_94) (pc' := 96) rfl (L' := #[.val (.int p0), .val (.long p1), .second, .val (.int p2), .val (.int p3), .val (.int (1 : Int32)), .val (.ref st_PMIN), .val (.int (0 : Int32)), .unset, .unset, .unset, .unset, .unset, .unset]) rfl ?_
    refine own_s_iload Xw1_41.here hx (hb hby at_96) (pc' := 98) rfl rfl ?_
    refine own_s_bipush Xw1_41.here hx (hb hby at_98) (pc' := 100) rfl (v := (7 : Int32)) (by decide) ?_
    refine own_s_iand Xw1_41.here hx (hb hby at_100) (pc' := 101) rfl (v := (4 : Int32)) w1_4_hv100 ?_
    refine own_s_istore Xw1_41.here hx (hb hby at_101) (pc' := 103) rfl (L' := #[.val (.int p0), .val (.long p1), .second, .val (.int p2), .val (.int p3), .val (.int (1 : Int32)), .val (.ref st_PMIN), .val (.int (0 : Int32)), .val (.int (4 : Int32)), .unset, .unset, .unset, .unset, .unset]) rfl ?_
    refine own_s_iload Xw1_41.here hx (hb hby at_103) (pc' := 105) rfl rfl ?_
    refine own_s_iconst Xw1_41.here hx (hb hby at_105) (pc' := 106) rfl (v := (4 : Int32)) (by decide) ?_
    refine own_s_icmpNo Xw1_41.here hx (hb hby at_106) (pc' := 109) rfl (by decide) ?_
    refine Xw1_41.ldc2DoubleC hx hown (mvT hZ (hw _ (List.mem_of_getElem? (i := 19) rfl))) (g := (mkF m 109 #[.val (.int p0), .val (.long p1), .second, .val (.int p2), .val (.int p3), .val (.int (1 : Int32)), .val (.ref st_PMIN), .val (.int (0 : Int32)), .val (.int (4 : Int32)), .unset, .unset, .unset, .unset, .unset] [])) rfl (hb hby at_109) _ ?_
    show Steps p.tables e below (Tw1_41.setTop (mkF m 112 #[.val (.int p0), .val (.long p1), .second, .val (.int p2), .val (.int p3), .val (.int (1 : Int32)), .val (.ref st_PMIN), .val (.int (0 : Int32)), .val (.int (4 : Int32)), .unset, .unset, .unset, .unset, .unset] [(.double (9218868437227405311 : UInt64))])) _
    refine own_s_dstore Xw1_41.here hx (hb hby at_112) (pc' := 114) rfl (L' := #[.val (.int p0), .val (.long p1), .second, .val (.int p2), .val (.int p3), .val (.int (1 : Int32)), .val (.ref st_PMIN), .val (.int (0 : Int32)), .val (.int (4 : Int32)), .val (.double (9218868437227405311 : UInt64)), .second, .unset, .unset, .unset]) rfl ?_
    refine own_s_iload Xw1_41.here hx (hb hby at_114) (pc' := 116) rfl rfl ?_
    refine own_s_istore Xw1_41.here hx (hb hby at_116) (pc' := 118) rfl (L' := #[.val (.int p0), .val (.long p1), .second, .val (.int p2), .val (.int p3), .val (.int (1 : Int32)), .val (.ref st_PMIN), .val (.int (0 : Int32)), .val (.int (4 : Int32)), .val (.double (9218868437227405311 : UInt64)), .second, .val (.int (0 : Int32)), .unset, .unset]) rfl ?_
    refine own_s_goto Xw1_41.here hx (hb hby at_118) (by decide) (pc' := 215) (by decide) ?_
    refine own_s_aload Xw1_41.here hx (hb hby at_215) (pc' := 217) rfl rfl rfl ?_
    refine own_s_dload Xw1_41.here hx (hb hby at_217) (pc' := 219) rfl rfl ?_
    refine stw1_42.trans ?_
    show Steps p.tables e below (Tw1_42.setTop (mkF m 222 #[.val (.int p0), .val (.long p1), .second, .val (.int p2), .val (.int p3), .val (.int (1 : Int32)), .val (.ref st_PMIN), .val (.int (0 : Int32)), .val (.int (4 : Int32)), .val (.double (9218868437227405311 : UInt64)), .second, .val (.int (0 : Int32)), .unset, .unset] [(.int (0 : Int32))])) _
    refine own_s_iload Xw1_42.here hx (hb hby at_222) (pc' := 224) rfl rfl ?_
    refine own_s_icmpNo Xw1_42.here hx (hb hby at_224) (pc' := 227) rfl (by decide) ?_
    refine own_s_iconst Xw1_42.here hx (hb hby at_227) (pc' := 228) rfl (v := (1 : Int32)) (by decide) ?_
    refine own_s_goto Xw1_42.here hx (hb hby at_228) (by decide) (pc' := 232) (by decide) ?_
    exact retN Xw1_42 hx (t := .boolean) Bd.returns (by simp) (hb hby at_232) hr
  · show own_Q0 n0 _ Tw1_42.heap _
    rw [ew1_42]
    exact ⟨rfl, Nw1_42⟩
theorem own_ef_w1_5 (m : MethodId) (p0 : Int32) (p1 : Int64) (p2 : Int32) (p3 : Int32) : entryFrame m #[(.int p0), (.long p1), (.int p2), (.int p3)] maxLocals = mkF m 0 #[.val (.int p0), .val (.long p1), .second, .val (.int p2), .val (.int p3), .unset, .unset, .unset, .unset, .unset, .unset, .unset, .unset, .unset] [] := by first | (simp [entryFrame, mkF, argsToLocals, Value.category, maxLocals]; done) | rfl
set_option maxRecDepth 65536 in
set_option maxHeartbeats 40000000 in
theorem own_rm_w1_5 (l : Launch) (Z : State) (a0 : Array Value) (hw : ∀ d ∈ tables_1, d.before a0 Z = true) (ws : List Jvm.Cond) (p0 : Int32) (p1 : Int64) (p2 : Int32) (p3 : Int32) (st_PMIN : Addr) {w1_5_v3 : Int32} (h0 : Heap) (n0 : Nat) (Z0 : n0 ≤ h0.size) (E_st_PMIN : Exa Z h0 st_PMIN "com/example/libcredal/libcredal/checker/Query$Operator") (F_reward_st_PMIN : Fld Z h0 st_PMIN "com/example/libcredal/libcredal/checker/Query$Operator" "reward" "Z" (.int (0 : Int32))) (S_PMIN : Sta Z h0 "com/example/libcredal/libcredal/checker/Query$Operator" "PMIN" "Lcom/example/libcredal/libcredal/checker/Query$Operator;" (.ref st_PMIN)) (w1_5_hv3 : p0 &&& (2147483647 : Int32) = w1_5_v3) (w1_5_hv6 : w1_5_v3 % (6 : Int32) = (1 : Int32)) (w1_5_hv100 : p3 &&& (7 : Int32) = (5 : Int32)) (w1_5_c219_c0ft_hb3 : ifCond.holds .lt (Op.cmpValue (FP.dcmp (9218868437227405312 : UInt64) 0) .l) = false) (w1_5_c219_c0ft_hb22 : ifCond.holds .gt (Op.cmpValue (FP.dcmp (9218868437227405312 : UInt64) 4607182418800017408) .g) = true) :
    MetFree l x (head1 (Jvm.Cond.code x code maxLocals ret :: ws) room_1) (fun a U => a = #[(.int p0), (.long p1), (.int p2), (.int p3)] ∧ Z.Warmed39 U.vm ∧ U.heap = h0) (fun _ _ _ _ _ => True) (fun _ U o U' => ∃ v L, o = .returned v ∧ own_Q0 n0 v U'.heap L ∧ FrameEnd U o U' L room_1.cells room_1.slots) := by
  refine MetFree.of_bodySF (plainFor_of_name own_pn_com_example_libcredal_libcredal_checker_OperatorAdmitsPinLaw) hisR ?_
  intro p e s m args below meth c s₁ Bd hml0 hP hK
  obtain ⟨rfl, hZ, hh⟩ := hP
  have hx := Bd.exec
  have hby := Bd.bytes
  have hml : c.maxLocals = 14 := hml0
  have hown : s.vm.findClass "com/example/libcredal/libcredal/checker/OperatorAdmitsPinLaw" = some m.cls := findClass_of_methodNamed Bd.named
  have hnm := (name_of_methodNamed Bd.named Bd.method).1
  have X0 : Stand p l e room_1 s m #[(.int p0), (.long p1), (.int p2), (.int p3)] below meth c s₁ [] 0 0 := Stand.of_body Bd
  have e0 : s₁.heap = h0 := by rw [← hh, Bd.state]; rfl
  have N0 := Fr.nil n0
  have pre0 : ∀ t, Steps p.tables e below (s₁.setTop (mkF m 0 #[.val (.int p0), .val (.long p1), .second, .val (.int p2), .val (.int p3), .unset, .unset, .unset, .unset, .unset, .unset, .unset, .unset, .unset] [])) t → Steps p.tables e below (s₁.setTop (entryFrame m #[(.int p0), (.long p1), (.int p2), (.int p3)] maxLocals)) t := fun t k => castTop (own_ef_w1_5 m p0 p1 p2 p3) k
  obtain ⟨Tw1_51, Xw1_51, ew1_51, stw1_51⟩ := getS2 X0 hx hZ hown (host := "") (Or.inl (hw _ (List.mem_of_getElem? (i := 17) rfl))) Via.refl e0 S_PMIN (g := (mkF m 28 #[.val (.int p0), .val (.long p1), .second, .val (.int p2), .val (.int p3), .val (.int (1 : Int32)), .unset, .unset, .unset, .unset, .unset, .unset, .unset, .unset] [])) rfl (hb hby at_28)
  obtain ⟨cqw1_52, kqw1_52, qw1_52a, qw1_52b, qw1_52c⟩ := isOf hZ ew1_51 E_st_PMIN
  obtain ⟨_, _, ⟨Tw1_52, Lw1_52, kw1_52, nw1_52⟩, -, Xw1_52, ⟨Lcw1_52, hQw1_52, lw1_52, yw1_52, zw1_52⟩, stw1_52⟩ := Xw1_51.virtualBack hx (y := (⟨"com/example/libcredal/libcredal/checker/Query$Operator", "admits", "(D)Z"⟩ : MethodName)) (z := (⟨"com/example/libcredal/libcredal/checker/Query$Operator", "admits", "(D)Z"⟩ : MethodName)) hown (mvT hZ (hw _ (List.mem_of_getElem? (i := 4) rfl))) (mvT hZ (hw _ (List.mem_of_getElem? (i := 5) rfl))) (notFace_of_selects (args := #[]) (mvT hZ (hw _ (List.mem_of_getElem? (i := 7) rfl)))) (mvT hZ (hw _ (List.mem_of_getElem? (i := 7) rfl))) (mvT hZ (hw _ (List.mem_of_getElem? (i := 6) rfl))) (by decide) (backOf (W := 0) (own_rm_c0ft l Z a0 hw [] st_PMIN (9218868437227405312 : UInt64) h0 n0 Z0 E_st_PMIN F_reward_st_PMIN w1_5_c219_c0ft_hb3 w1_5_c219_c0ft_hb22) hZ (hw _ (List.mem_of_getElem? (i := 8) rfl)) (hw _ (List.mem_of_getElem? (i := 2) rfl)) (by decide) (by decide)) qw1_52a qw1_52c (g := (mkF m 219 #[.val (.int p0), .val (.long p1), .second, .val (.int p2), .val (.int p3), .val (.int (1 : Int32)), .val (.ref st_PMIN), .val (.int (0 : Int32)), .val (.int (5 : Int32)), .val (.double (9218868437227405312 : UInt64)), .second, .val (.int (0 : Int32)), .unset, .unset] [(.double (9218868437227405312 : UInt64)), (.ref st_PMIN)])) rfl (by rw [hml]; rfl) (Steps.refl _) (argsL := [(.double (9218868437227405312 : UInt64))]) (rest := []) (lenOf own_pd_28D29Z rfl) rfl (by show 2 * 0 + _ ≤ _; exact Nat.le_of_eq rfl) (hb hby at_219) (fun _ _ => ⟨rfl, ew1_51, (by decide : 0 + 0 ≤ _), (by decide : 0 + 0 ≤ _)⟩)
  dsimp only [Pt.U, Pt.locs, Pt.cells, Pt.slots] at Xw1_52 lw1_52 yw1_52 zw1_52 stw1_52 hQw1_52
  rw [lw1_52, yw1_52, zw1_52] at Xw1_52
  obtain ⟨rfl, Nw1_52q, ew1_52⟩ := hQw1_52
  have Nw1_52 := Fr.app N0 Nw1_52q
  obtain ⟨fs, hr, hrun, hended, hW, hsame⟩ := Xw1_52.leave (v := some (.int (1 : Int32))) (fun h => by rw [Bd.returns] at h; cases h)
  refine ⟨_, _, pre0 _ ?_, hrun, hended, _, _, rfl, ?_, ⟨_, rfl⟩, hW, hsame.mono (by decide) (by decide)⟩
  · refine own_s_iloadN X0.here hx (hb hby at_0) (pc' := 1) rfl rfl ?_
    refine X0.ldcInt hx hown (mvT hZ (hw _ (List.mem_of_getElem? (i := 0) rfl))) (g := (mkF m 1 #[.val (.int p0), .val (.long p1), .second, .val (.int p2), .val (.int p3), .unset, .unset, .unset, .unset, .unset, .unset, .unset, .unset, .unset] [(.int p0)])) rfl (hb hby at_1) _ ?_
    show Steps p.tables e below (s₁.setTop (mkF m 3 #[.val (.int p0), .val (.long p1), .second, .val (.int p2), .val (.int p3), .unset, .unset, .unset, .unset, .unset, .unset, .unset, .unset, .unset] [(.int (2147483647 : Int32)), (.int p0)])) _
    refine own_s_iand X0.here hx (hb hby at_3) (pc' := 4) rfl (v := w1_5_v3) w1_5_hv3 ?_
    refine own_s_bipush X0.here hx (hb hby at_4) (pc' := 6) rfl (v := (6 : Int32)) (by decide) ?_
    refine own_s_irem X0.here hx (hb hby at_6) (pc' := 7) rfl (by decide) (v := (1 : Int32)) w1_5_hv6 ?_
    refine own_s_istore X0.here hx (hb hby at_7) (pc' := 9) rfl (L' := #[.val (.int p0), .val (.long p1), .second, .val (.int p2), .val (.int p3), .val (.int (1 : Int32)), .unset, .unset, .unset, .unset, .unset, .unset, .unset, .unset]) rfl ?_
    refine own_s_iload X0.here hx (hb hby at_9) (pc' := 11) rfl rfl ?_
    refine own_s_ifYes X0.here hx (hb hby at_11) (by decide) (pc' := 22) (by decide) (by decide) ?_
    refine own_s_iload X0.here hx (hb hby at_22) (pc' := 24) rfl rfl ?_
    refine own_s_iconst X0.here hx (hb hby at_24) (pc' := 25) rfl (v := (1 : Int32)) (by decide) ?_
    refine own_s_icmpNo X0.here hx (hb hby at_25) (pc' := 28) rfl (by decide) ?_
    refine stw1_51 _ ?_
    show Steps p.tables e below (Tw1_51.setTop (mkF m 31 #[.val (.int p0), .val (.long p1), .second, .val (.int p2), .val (.int p3), .val (.int (1 : Int32)), .unset, .unset, .unset, .unset, .unset, .unset, .unset, .unset] [(.ref st_PMIN)])) _
    refine own_s_astore Xw1_51.here hx (hb hby at_31) (pc' := 33) rfl rfl (L' := #[.val (.int p0), .val (.long p1), .second, .val (.int p2), .val (.int p3), .val (.int (1 : Int32)), .val (.ref st_PMIN), .unset, .unset, .unset, .unset, .unset, .unset, .unset]) rfl ?_
    refine own_s_goto Xw1_51.here hx (hb hby at_33) (by decide) (pc' := 83) (by decide) ?_
    refine own_s_iload Xw1_51.here hx (hb hby at_83) (pc' := 85) rfl rfl ?_
    refine own_s_iconst Xw1_51.here hx (hb hby at_85) (pc' := 86) rfl (v := (3 : Int32)) (by decide) ?_
    refine own_s_icmpYes Xw1_51.here hx (hb hby at_86) (by decide) (pc' := 93) (by decide) (by decide) ?_
    refine own_s_iconst Xw1_51.here hx (hb hby at_93) (pc' := 94) rfl (v := (0 : Int32)) (by decide) ?_
    refine own_s_istore Xw1_51.here hx (hb hby at_94) (pc' := 96) rfl (L' := #[.val (.int p0), .val (.long p1), .second, .val (.int p2), .val (.int p3), .val (.int (1 : Int32)), .val (.ref st_PMIN), .val (.int (0 : Int32)), .unset, .unset, .unset, .unset, .unset, .unset]) rfl ?_
    refine own_s_iload Xw1_51.here hx (hb hby at_96) (pc' := 98) rfl rfl ?_
    refine own_s_bipush Xw1_51.here hx (hb hby at_98) (pc' := 100) rfl (v := (7 : Int32)) (by decide) ?_
    refine own_s_iand Xw1_51.here hx (hb hby at_100) (pc' := 101) rfl (v := (5 : Int32)) w1_5_hv100 ?_
    refine own_s_istore Xw1_51.here hx (hb hby at_101) (pc' := 103) rfl (L' := #[.val (.int p0), .val (.long p1), .second, .val (.int p2), .val (.int p3), .val (.int (1 : Int32)), .val (.ref st_PMIN), .val (.int (0 : Int32)), .val (.int (5 : Int32)), .unset, .unset, .unset, .unset, .unset]) rfl ?_
    refine own_s_iload Xw1_51.here hx (hb hby at_103) (pc' := 105) rfl rfl ?_
    refine own_s_iconst Xw1_51.here hx (hb hby at_105) (pc' := 106) rfl (v := (4 : Int32)) (by decide) ?_
    refine own_s_icmpYes Xw1_51.here hx (hb hby at_106) (by decide) (pc' := 121) (by decide) (by decide) ?_
    refine own_s_iload Xw1_51.here hx (hb hby at_121) (pc' := 123) rfl rfl ?_
    refine own_s_iconst Xw1_51.here hx (hb hby at_123) (pc' := 124) rfl (v := (5 : Int32)) (by decide) ?_
    refine own_s_icmpNo Xw1_51.here hx (hb hby at_124) (pc' := 127) rfl (by decide) ?_
    refine Xw1_51.ldc2DoubleC hx hown (mvT hZ (hw _ (List.mem_of_getElem? (i := 23) rfl))) (g := (mkF m 127 #[.val (.int p0), .val (.long p1), .second, .val (.int p2), .val (.int p3), .val (.int (1 : Int32)), .val (.ref st_PMIN), .val (.int (0 : Int32)), .val (.int (5 : Int32)), .unset, .unset, .unset, .unset, .unset] [])) rfl (hb hby at_127) _ ?_
    show Steps p.tables e below (Tw1_51.setTop (mkF m 130 #[.val (.int p0), .val (.long p1), .second, .val (.int p2), .val (.int p3), .val (.int (1 : Int32)), .val (.ref st_PMIN), .val (.int (0 : Int32)), .val (.int (5 : Int32)), .unset, .unset, .unset, .unset, .unset] [(.double (9218868437227405312 : UInt64))])) _
    refine own_s_dstore Xw1_51.here hx (hb hby at_130) (pc' := 132) rfl (L' := #[.val (.int p0), .val (.long p1), .second, .val (.int p2), .val (.int p3), .val (.int (1 : Int32)), .val (.ref st_PMIN), .val (.int (0 : Int32)), .val (.int (5 : Int32)), .val (.double (9218868437227405312 : UInt64)), .second, .unset, .unset, .unset]) rfl ?_
    refine own_s_iconst Xw1_51.here hx (hb hby at_132) (pc' := 133) rfl (v := (0 : Int32)) (by decide) ?_
    refine own_s_istore Xw1_51.here hx (hb hby at_133) (pc' := 135) rfl (L' := #[.val (.int p0), .val (.long p1), .second, .val (.int p2), .val (.int p3), .val (.int (1 : Int32)), .val (.ref st_PMIN), .val (.int (0 : Int32)), .val (.int (5 : Int32)), .val (.double (9218868437227405312 : UInt64)), .second, .val (.int (0 : Int32)), .unset, .unset]) rfl ?_
    refine own_s_goto Xw1_51.here hx (hb hby at_135) (by decide) (pc' := 215) (by decide) ?_
    refine own_s_aload Xw1_51.here hx (hb hby at_215) (pc' := 217) rfl rfl rfl ?_
    refine own_s_dload Xw1_51.here hx (hb hby at_217) (pc' := 219) rfl rfl ?_
    refine stw1_52.trans ?_
    show Steps p.tables e below (Tw1_52.setTop (mkF m 222 #[.val (.int p0), .val (.long p1), .second, .val (.int p2), .val (.int p3), .val (.int (1 : Int32)), .val (.ref st_PMIN), .val (.int (0 : Int32)), .val (.int (5 : Int32)), .val (.double (9218868437227405312 : UInt64)), .second, .val (.int (0 : Int32)), .unset, .unset] [(.int (0 : Int32))])) _
    refine own_s_iload Xw1_52.here hx (hb hby at_222) (pc' := 224) rfl rfl ?_
    refine own_s_icmpNo Xw1_52.here hx (hb hby at_224) (pc' := 227) rfl (by decide) ?_
    refine own_s_iconst Xw1_52.here hx (hb hby at_227) (pc' := 228) rfl (v := (1 : Int32)) (by decide) ?_
    refine own_s_goto Xw1_52.here hx (hb hby at_228) (by decide) (pc' := 232) (by decide) ?_
    exact retN Xw1_52 hx (t := .boolean) Bd.returns (by simp) (hb hby at_232) hr
  · show own_Q0 n0 _ Tw1_52.heap _
    rw [ew1_52]
    exact ⟨rfl, Nw1_52⟩
theorem own_ef_w1_6 (m : MethodId) (p0 : Int32) (p1 : Int64) (p2 : Int32) (p3 : Int32) : entryFrame m #[(.int p0), (.long p1), (.int p2), (.int p3)] maxLocals = mkF m 0 #[.val (.int p0), .val (.long p1), .second, .val (.int p2), .val (.int p3), .unset, .unset, .unset, .unset, .unset, .unset, .unset, .unset, .unset] [] := by first | (simp [entryFrame, mkF, argsToLocals, Value.category, maxLocals]; done) | rfl
set_option maxRecDepth 65536 in
set_option maxHeartbeats 40000000 in
theorem own_rm_w1_6 (l : Launch) (Z : State) (a0 : Array Value) (hw : ∀ d ∈ tables_1, d.before a0 Z = true) (ws : List Jvm.Cond) (p0 : Int32) (p1 : Int64) (p2 : Int32) (p3 : Int32) (st_PMIN : Addr) {w1_6_v3 : Int32} (h0 : Heap) (n0 : Nat) (Z0 : n0 ≤ h0.size) (E_st_PMIN : Exa Z h0 st_PMIN "com/example/libcredal/libcredal/checker/Query$Operator") (F_reward_st_PMIN : Fld Z h0 st_PMIN "com/example/libcredal/libcredal/checker/Query$Operator" "reward" "Z" (.int (0 : Int32))) (S_PMIN : Sta Z h0 "com/example/libcredal/libcredal/checker/Query$Operator" "PMIN" "Lcom/example/libcredal/libcredal/checker/Query$Operator;" (.ref st_PMIN)) (w1_6_hv3 : p0 &&& (2147483647 : Int32) = w1_6_v3) (w1_6_hv6 : w1_6_v3 % (6 : Int32) = (1 : Int32)) (w1_6_hv100 : p3 &&& (7 : Int32) = (6 : Int32)) (w1_6_c219_c0t_hb3 : ifCond.holds .lt (Op.cmpValue (FP.dcmp (18442240474082181120 : UInt64) 0) .l) = true) :
    MetFree l x (head1 (Jvm.Cond.code x code maxLocals ret :: ws) room_1) (fun a U => a = #[(.int p0), (.long p1), (.int p2), (.int p3)] ∧ Z.Warmed39 U.vm ∧ U.heap = h0) (fun _ _ _ _ _ => True) (fun _ U o U' => ∃ v L, o = .returned v ∧ own_Q0 n0 v U'.heap L ∧ FrameEnd U o U' L room_1.cells room_1.slots) := by
  refine MetFree.of_bodySF (plainFor_of_name own_pn_com_example_libcredal_libcredal_checker_OperatorAdmitsPinLaw) hisR ?_
  intro p e s m args below meth c s₁ Bd hml0 hP hK
  obtain ⟨rfl, hZ, hh⟩ := hP
  have hx := Bd.exec
  have hby := Bd.bytes
  have hml : c.maxLocals = 14 := hml0
  have hown : s.vm.findClass "com/example/libcredal/libcredal/checker/OperatorAdmitsPinLaw" = some m.cls := findClass_of_methodNamed Bd.named
  have hnm := (name_of_methodNamed Bd.named Bd.method).1
  have X0 : Stand p l e room_1 s m #[(.int p0), (.long p1), (.int p2), (.int p3)] below meth c s₁ [] 0 0 := Stand.of_body Bd
  have e0 : s₁.heap = h0 := by rw [← hh, Bd.state]; rfl
  have N0 := Fr.nil n0
  have pre0 : ∀ t, Steps p.tables e below (s₁.setTop (mkF m 0 #[.val (.int p0), .val (.long p1), .second, .val (.int p2), .val (.int p3), .unset, .unset, .unset, .unset, .unset, .unset, .unset, .unset, .unset] [])) t → Steps p.tables e below (s₁.setTop (entryFrame m #[(.int p0), (.long p1), (.int p2), (.int p3)] maxLocals)) t := fun t k => castTop (own_ef_w1_6 m p0 p1 p2 p3) k
  obtain ⟨Tw1_61, Xw1_61, ew1_61, stw1_61⟩ := getS2 X0 hx hZ hown (host := "") (Or.inl (hw _ (List.mem_of_getElem? (i := 17) rfl))) Via.refl e0 S_PMIN (g := (mkF m 28 #[.val (.int p0), .val (.long p1), .second, .val (.int p2), .val (.int p3), .val (.int (1 : Int32)), .unset, .unset, .unset, .unset, .unset, .unset, .unset, .unset] [])) rfl (hb hby at_28)
  obtain ⟨cqw1_62, kqw1_62, qw1_62a, qw1_62b, qw1_62c⟩ := isOf hZ ew1_61 E_st_PMIN
  obtain ⟨_, _, ⟨Tw1_62, Lw1_62, kw1_62, nw1_62⟩, -, Xw1_62, ⟨Lcw1_62, hQw1_62, lw1_62, yw1_62, zw1_62⟩, stw1_62⟩ := Xw1_61.virtualBack hx (y := (⟨"com/example/libcredal/libcredal/checker/Query$Operator", "admits", "(D)Z"⟩ : MethodName)) (z := (⟨"com/example/libcredal/libcredal/checker/Query$Operator", "admits", "(D)Z"⟩ : MethodName)) hown (mvT hZ (hw _ (List.mem_of_getElem? (i := 4) rfl))) (mvT hZ (hw _ (List.mem_of_getElem? (i := 5) rfl))) (notFace_of_selects (args := #[]) (mvT hZ (hw _ (List.mem_of_getElem? (i := 7) rfl)))) (mvT hZ (hw _ (List.mem_of_getElem? (i := 7) rfl))) (mvT hZ (hw _ (List.mem_of_getElem? (i := 6) rfl))) (by decide) (backOf (W := 0) (own_rm_c0t l Z a0 hw [] st_PMIN (18442240474082181120 : UInt64) h0 n0 Z0 E_st_PMIN F_reward_st_PMIN w1_6_c219_c0t_hb3) hZ (hw _ (List.mem_of_getElem? (i := 8) rfl)) (hw _ (List.mem_of_getElem? (i := 2) rfl)) (by decide) (by decide)) qw1_62a qw1_62c (g := (mkF m 219 #[.val (.int p0), .val (.long p1), .second, .val (.int p2), .val (.int p3), .val (.int (1 : Int32)), .val (.ref st_PMIN), .val (.int (0 : Int32)), .val (.int (6 : Int32)), .val (.double (18442240474082181120 : UInt64)), .second, .val (.int (0 : Int32)), .unset, .unset] [(.double (18442240474082181120 : UInt64)), (.ref st_PMIN)])) rfl (by rw [hml]; rfl) (Steps.refl _) (argsL := [(.double (18442240474082181120 : UInt64))]) (rest := []) (lenOf own_pd_28D29Z rfl) rfl (by show 2 * 0 + _ ≤ _; exact Nat.le_of_eq rfl) (hb hby at_219) (fun _ _ => ⟨rfl, ew1_61, (by decide : 0 + 0 ≤ _), (by decide : 0 + 0 ≤ _)⟩)
  dsimp only [Pt.U, Pt.locs, Pt.cells, Pt.slots] at Xw1_62 lw1_62 yw1_62 zw1_62 stw1_62 hQw1_62
  rw [lw1_62, yw1_62, zw1_62] at Xw1_62
  obtain ⟨rfl, Nw1_62q, ew1_62⟩ := hQw1_62
  have Nw1_62 := Fr.app N0 Nw1_62q
  obtain ⟨fs, hr, hrun, hended, hW, hsame⟩ := Xw1_62.leave (v := some (.int (1 : Int32))) (fun h => by rw [Bd.returns] at h; cases h)
  refine ⟨_, _, pre0 _ ?_, hrun, hended, _, _, rfl, ?_, ⟨_, rfl⟩, hW, hsame.mono (by decide) (by decide)⟩
  · refine own_s_iloadN X0.here hx (hb hby at_0) (pc' := 1) rfl rfl ?_
    refine X0.ldcInt hx hown (mvT hZ (hw _ (List.mem_of_getElem? (i := 0) rfl))) (g := (mkF m 1 #[.val (.int p0), .val (.long p1), .second, .val (.int p2), .val (.int p3), .unset, .unset, .unset, .unset, .unset, .unset, .unset, .unset, .unset] [(.int p0)])) rfl (hb hby at_1) _ ?_
    show Steps p.tables e below (s₁.setTop (mkF m 3 #[.val (.int p0), .val (.long p1), .second, .val (.int p2), .val (.int p3), .unset, .unset, .unset, .unset, .unset, .unset, .unset, .unset, .unset] [(.int (2147483647 : Int32)), (.int p0)])) _
    refine own_s_iand X0.here hx (hb hby at_3) (pc' := 4) rfl (v := w1_6_v3) w1_6_hv3 ?_
    refine own_s_bipush X0.here hx (hb hby at_4) (pc' := 6) rfl (v := (6 : Int32)) (by decide) ?_
    refine own_s_irem X0.here hx (hb hby at_6) (pc' := 7) rfl (by decide) (v := (1 : Int32)) w1_6_hv6 ?_
    refine own_s_istore X0.here hx (hb hby at_7) (pc' := 9) rfl (L' := #[.val (.int p0), .val (.long p1), .second, .val (.int p2), .val (.int p3), .val (.int (1 : Int32)), .unset, .unset, .unset, .unset, .unset, .unset, .unset, .unset]) rfl ?_
    refine own_s_iload X0.here hx (hb hby at_9) (pc' := 11) rfl rfl ?_
    refine own_s_ifYes X0.here hx (hb hby at_11) (by decide) (pc' := 22) (by decide) (by decide) ?_
    refine own_s_iload X0.here hx (hb hby at_22) (pc' := 24) rfl rfl ?_
    refine own_s_iconst X0.here hx (hb hby at_24) (pc' := 25) rfl (v := (1 : Int32)) (by decide) ?_
    refine own_s_icmpNo X0.here hx (hb hby at_25) (pc' := 28) rfl (by decide) ?_
    refine stw1_61 _ ?_
    show Steps p.tables e below (Tw1_61.setTop (mkF m 31 #[.val (.int p0), .val (.long p1), .second, .val (.int p2), .val (.int p3), .val (.int (1 : Int32)), .unset, .unset, .unset, .unset, .unset, .unset, .unset, .unset] [(.ref st_PMIN)])) _
    refine own_s_astore Xw1_61.here hx (hb hby at_31) (pc' := 33) rfl rfl (L' := #[.val (.int p0), .val (.long p1), .second, .val (.int p2), .val (.int p3), .val (.int (1 : Int32)), .val (.ref st_PMIN), .unset, .unset, .unset, .unset, .unset, .unset, .unset]) rfl ?_
    refine own_s_goto Xw1_61.here hx (hb hby at_33) (by decide) (pc' := 83) (by decide) ?_
    refine own_s_iload Xw1_61.here hx (hb hby at_83) (pc' := 85) rfl rfl ?_
    refine own_s_iconst Xw1_61.here hx (hb hby at_85) (pc' := 86) rfl (v := (3 : Int32)) (by decide) ?_
    refine own_s_icmpYes Xw1_61.here hx (hb hby at_86) (by decide) (pc' := 93) (by decide) (by decide) ?_
    refine own_s_iconst Xw1_61.here hx (hb hby at_93) (pc' := 94) rfl (v := (0 : Int32)) (by decide) ?_
    refine own_s_istore Xw1_61.here hx (hb hby at_94) (pc' := 96) rfl (L' := #[.val (.int p0), .val (.long p1), .second, .val (.int p2), .val (.int p3), .val (.int (1 : Int32)), .val (.ref st_PMIN), .val (.int (0 : Int32)), .unset, .unset, .unset, .unset, .unset, .unset]) rfl ?_
    refine own_s_iload Xw1_61.here hx (hb hby at_96) (pc' := 98) rfl rfl ?_
    refine own_s_bipush Xw1_61.here hx (hb hby at_98) (pc' := 100) rfl (v := (7 : Int32)) (by decide) ?_
    refine own_s_iand Xw1_61.here hx (hb hby at_100) (pc' := 101) rfl (v := (6 : Int32)) w1_6_hv100 ?_
    refine own_s_istore Xw1_61.here hx (hb hby at_101) (pc' := 103) rfl (L' := #[.val (.int p0), .val (.long p1), .second, .val (.int p2), .val (.int p3), .val (.int (1 : Int32)), .val (.ref st_PMIN), .val (.int (0 : Int32)), .val (.int (6 : Int32)), .unset, .unset, .unset, .unset, .unset]) rfl ?_
    refine own_s_iload Xw1_61.here hx (hb hby at_103) (pc' := 105) rfl rfl ?_
    refine own_s_iconst Xw1_61.here hx (hb hby at_105) (pc' := 106) rfl (v := (4 : Int32)) (by decide) ?_
    refine own_s_icmpYes Xw1_61.here hx (hb hby at_106) (by decide) (pc' := 121) (by decide) (by decide) ?_
    refine own_s_iload Xw1_61.here hx (hb hby at_121) (pc' := 123) rfl rfl ?_
    refine own_s_iconst Xw1_61.here hx (hb hby at_123) (pc' := 124) rfl (v := (5 : Int32)) (by decide) ?_
    refine own_s_icmpYes Xw1_61.here hx (hb hby at_124) (by decide) (pc' := 138) (by decide) (by decide) ?_
    refine own_s_iload Xw1_61.here hx (hb hby at_138) (pc' := 140) rfl rfl ?_
    refine own_s_bipush Xw1_61.here hx (hb hby at_140) (pc' := 142) rfl (v := (6 : Int32)) (by decide) ?_
    refine own_s_icmpNo Xw1_61.here hx (hb hby at_142) (pc' := 145) rfl (by decide) ?_
    refine Xw1_61.ldc2DoubleC hx hown (mvT hZ (hw _ (List.mem_of_getElem? (i := 20) rfl))) (g := (mkF m 145 #[.val (.int p0), .val (.long p1), .second, .val (.int p2), .val (.int p3), .val (.int (1 : Int32)), .val (.ref st_PMIN), .val (.int (0 : Int32)), .val (.int (6 : Int32)), .unset, .unset, .unset, .unset, .unset] [])) rfl (hb hby at_145) _ ?_
    show Steps p.tables e below (Tw1_61.setTop (mkF m 148 #[.val (.int p0), .val (.long p1), .second, .val (.int p2), .val (.int p3), .val (.int (1 : Int32)), .val (.ref st_PMIN), .val (.int (0 : Int32)), .val (.int (6 : Int32)), .unset, .unset, .unset, .unset, .unset] [(.double (18442240474082181120 : UInt64))])) _
    refine own_s_dstore Xw1_61.here hx (hb hby at_148) (pc' := 150) rfl (L' := #[.val (.int p0), .val (.long p1), .second, .val (.int p2), .val (.int p3), .val (.int (1 : Int32)), .val (.ref st_PMIN), .val (.int (0 : Int32)), .val (.int (6 : Int32)), .val (.double (18442240474082181120 : UInt64)), .second, .unset, .unset, .unset]) rfl ?_
    refine own_s_iconst Xw1_61.here hx (hb hby at_150) (pc' := 151) rfl (v := (0 : Int32)) (by decide) ?_
    refine own_s_istore Xw1_61.here hx (hb hby at_151) (pc' := 153) rfl (L' := #[.val (.int p0), .val (.long p1), .second, .val (.int p2), .val (.int p3), .val (.int (1 : Int32)), .val (.ref st_PMIN), .val (.int (0 : Int32)), .val (.int (6 : Int32)), .val (.double (18442240474082181120 : UInt64)), .second, .val (.int (0 : Int32)), .unset, .unset]) rfl ?_
    refine own_s_goto Xw1_61.here hx (hb hby at_153) (by decide) (pc' := 215) (by decide) ?_
    refine own_s_aload Xw1_61.here hx (hb hby at_215) (pc' := 217) rfl rfl rfl ?_
    refine own_s_dload Xw1_61.here hx (hb hby at_217) (pc' := 219) rfl rfl ?_
    refine stw1_62.trans ?_
    show Steps p.tables e below (Tw1_62.setTop (mkF m 222 #[.val (.int p0), .val (.long p1), .second, .val (.int p2), .val (.int p3), .val (.int (1 : Int32)), .val (.ref st_PMIN), .val (.int (0 : Int32)), .val (.int (6 : Int32)), .val (.double (18442240474082181120 : UInt64)), .second, .val (.int (0 : Int32)), .unset, .unset] [(.int (0 : Int32))])) _
    refine own_s_iload Xw1_62.here hx (hb hby at_222) (pc' := 224) rfl rfl ?_
    refine own_s_icmpNo Xw1_62.here hx (hb hby at_224) (pc' := 227) rfl (by decide) ?_
    refine own_s_iconst Xw1_62.here hx (hb hby at_227) (pc' := 228) rfl (v := (1 : Int32)) (by decide) ?_
    refine own_s_goto Xw1_62.here hx (hb hby at_228) (by decide) (pc' := 232) (by decide) ?_
    exact retN Xw1_62 hx (t := .boolean) Bd.returns (by simp) (hb hby at_232) hr
  · show own_Q0 n0 _ Tw1_62.heap _
    rw [ew1_62]
    exact ⟨rfl, Nw1_62⟩
theorem own_ef_w1_7 (m : MethodId) (p0 : Int32) (p1 : Int64) (p2 : Int32) (p3 : Int32) : entryFrame m #[(.int p0), (.long p1), (.int p2), (.int p3)] maxLocals = mkF m 0 #[.val (.int p0), .val (.long p1), .second, .val (.int p2), .val (.int p3), .unset, .unset, .unset, .unset, .unset, .unset, .unset, .unset, .unset] [] := by first | (simp [entryFrame, mkF, argsToLocals, Value.category, maxLocals]; done) | rfl
set_option maxRecDepth 65536 in
set_option maxHeartbeats 40000000 in
theorem own_rm_w1_7 (l : Launch) (Z : State) (a0 : Array Value) (hw : ∀ d ∈ tables_1, d.before a0 Z = true) (ws : List Jvm.Cond) (p0 : Int32) (p1 : Int64) (p2 : Int32) (p3 : Int32) (st_PMIN : Addr) {w1_7_v3 : Int32} (h0 : Heap) (n0 : Nat) (Z0 : n0 ≤ h0.size) (E_st_PMIN : Exa Z h0 st_PMIN "com/example/libcredal/libcredal/checker/Query$Operator") (F_reward_st_PMIN : Fld Z h0 st_PMIN "com/example/libcredal/libcredal/checker/Query$Operator" "reward" "Z" (.int (0 : Int32))) (S_PMIN : Sta Z h0 "com/example/libcredal/libcredal/checker/Query$Operator" "PMIN" "Lcom/example/libcredal/libcredal/checker/Query$Operator;" (.ref st_PMIN)) (w1_7_hv3 : p0 &&& (2147483647 : Int32) = w1_7_v3) (w1_7_hv6 : w1_7_v3 % (6 : Int32) = (1 : Int32)) (w1_7_hv100 : p3 &&& (7 : Int32) = (7 : Int32)) (w1_7_c219_c0ff_hb3 : ifCond.holds .lt (Op.cmpValue (FP.dcmp (9223372036854775808 : UInt64) 0) .l) = false) (w1_7_c219_c0ff_hb22 : ifCond.holds .gt (Op.cmpValue (FP.dcmp (9223372036854775808 : UInt64) 4607182418800017408) .g) = false) :
    MetFree l x (head1 (Jvm.Cond.code x code maxLocals ret :: ws) room_1) (fun a U => a = #[(.int p0), (.long p1), (.int p2), (.int p3)] ∧ Z.Warmed39 U.vm ∧ U.heap = h0) (fun _ _ _ _ _ => True) (fun _ U o U' => ∃ v L, o = .returned v ∧ own_Q0 n0 v U'.heap L ∧ FrameEnd U o U' L room_1.cells room_1.slots) := by
  refine MetFree.of_bodySF (plainFor_of_name own_pn_com_example_libcredal_libcredal_checker_OperatorAdmitsPinLaw) hisR ?_
  intro p e s m args below meth c s₁ Bd hml0 hP hK
  obtain ⟨rfl, hZ, hh⟩ := hP
  have hx := Bd.exec
  have hby := Bd.bytes
  have hml : c.maxLocals = 14 := hml0
  have hown : s.vm.findClass "com/example/libcredal/libcredal/checker/OperatorAdmitsPinLaw" = some m.cls := findClass_of_methodNamed Bd.named
  have hnm := (name_of_methodNamed Bd.named Bd.method).1
  have X0 : Stand p l e room_1 s m #[(.int p0), (.long p1), (.int p2), (.int p3)] below meth c s₁ [] 0 0 := Stand.of_body Bd
  have e0 : s₁.heap = h0 := by rw [← hh, Bd.state]; rfl
  have N0 := Fr.nil n0
  have pre0 : ∀ t, Steps p.tables e below (s₁.setTop (mkF m 0 #[.val (.int p0), .val (.long p1), .second, .val (.int p2), .val (.int p3), .unset, .unset, .unset, .unset, .unset, .unset, .unset, .unset, .unset] [])) t → Steps p.tables e below (s₁.setTop (entryFrame m #[(.int p0), (.long p1), (.int p2), (.int p3)] maxLocals)) t := fun t k => castTop (own_ef_w1_7 m p0 p1 p2 p3) k
  obtain ⟨Tw1_71, Xw1_71, ew1_71, stw1_71⟩ := getS2 X0 hx hZ hown (host := "") (Or.inl (hw _ (List.mem_of_getElem? (i := 17) rfl))) Via.refl e0 S_PMIN (g := (mkF m 28 #[.val (.int p0), .val (.long p1), .second, .val (.int p2), .val (.int p3), .val (.int (1 : Int32)), .unset, .unset, .unset, .unset, .unset, .unset, .unset, .unset] [])) rfl (hb hby at_28)
  obtain ⟨cqw1_72, kqw1_72, qw1_72a, qw1_72b, qw1_72c⟩ := isOf hZ ew1_71 E_st_PMIN
  obtain ⟨_, _, ⟨Tw1_72, Lw1_72, kw1_72, nw1_72⟩, -, Xw1_72, ⟨Lcw1_72, hQw1_72, lw1_72, yw1_72, zw1_72⟩, stw1_72⟩ := Xw1_71.virtualBack hx (y := (⟨"com/example/libcredal/libcredal/checker/Query$Operator", "admits", "(D)Z"⟩ : MethodName)) (z := (⟨"com/example/libcredal/libcredal/checker/Query$Operator", "admits", "(D)Z"⟩ : MethodName)) hown (mvT hZ (hw _ (List.mem_of_getElem? (i := 4) rfl))) (mvT hZ (hw _ (List.mem_of_getElem? (i := 5) rfl))) (notFace_of_selects (args := #[]) (mvT hZ (hw _ (List.mem_of_getElem? (i := 7) rfl)))) (mvT hZ (hw _ (List.mem_of_getElem? (i := 7) rfl))) (mvT hZ (hw _ (List.mem_of_getElem? (i := 6) rfl))) (by decide) (backOf (W := 0) (own_rm_c0ff l Z a0 hw [] st_PMIN (9223372036854775808 : UInt64) h0 n0 Z0 E_st_PMIN F_reward_st_PMIN w1_7_c219_c0ff_hb3 w1_7_c219_c0ff_hb22) hZ (hw _ (List.mem_of_getElem? (i := 8) rfl)) (hw _ (List.mem_of_getElem? (i := 2) rfl)) (by decide) (by decide)) qw1_72a qw1_72c (g := (mkF m 219 #[.val (.int p0), .val (.long p1), .second, .val (.int p2), .val (.int p3), .val (.int (1 : Int32)), .val (.ref st_PMIN), .val (.int (0 : Int32)), .val (.int (7 : Int32)), .val (.double (9223372036854775808 : UInt64)), .second, .val (.int (1 : Int32)), .unset, .unset] [(.double (9223372036854775808 : UInt64)), (.ref st_PMIN)])) rfl (by rw [hml]; rfl) (Steps.refl _) (argsL := [(.double (9223372036854775808 : UInt64))]) (rest := []) (lenOf own_pd_28D29Z rfl) rfl (by show 2 * 0 + _ ≤ _; exact Nat.le_of_eq rfl) (hb hby at_219) (fun _ _ => ⟨rfl, ew1_71, (by decide : 0 + 0 ≤ _), (by decide : 0 + 0 ≤ _)⟩)
  dsimp only [Pt.U, Pt.locs, Pt.cells, Pt.slots] at Xw1_72 lw1_72 yw1_72 zw1_72 stw1_72 hQw1_72
  rw [lw1_72, yw1_72, zw1_72] at Xw1_72
  obtain ⟨rfl, Nw1_72q, ew1_72⟩ := hQw1_72
  have Nw1_72 := Fr.app N0 Nw1_72q
  obtain ⟨fs, hr, hrun, hended, hW, hsame⟩ := Xw1_72.leave (v := some (.int (1 : Int32))) (fun h => by rw [Bd.returns] at h; cases h)
  refine ⟨_, _, pre0 _ ?_, hrun, hended, _, _, rfl, ?_, ⟨_, rfl⟩, hW, hsame.mono (by decide) (by decide)⟩
  · refine own_s_iloadN X0.here hx (hb hby at_0) (pc' := 1) rfl rfl ?_
    refine X0.ldcInt hx hown (mvT hZ (hw _ (List.mem_of_getElem? (i := 0) rfl))) (g := (mkF m 1 #[.val (.int p0), .val (.long p1), .second, .val (.int p2), .val (.int p3), .unset, .unset, .unset, .unset, .unset, .unset, .unset, .unset, .unset] [(.int p0)])) rfl (hb hby at_1) _ ?_
    show Steps p.tables e below (s₁.setTop (mkF m 3 #[.val (.int p0), .val (.long p1), .second, .val (.int p2), .val (.int p3), .unset, .unset, .unset, .unset, .unset, .unset, .unset, .unset, .unset] [(.int (2147483647 : Int32)), (.int p0)])) _
    refine own_s_iand X0.here hx (hb hby at_3) (pc' := 4) rfl (v := w1_7_v3) w1_7_hv3 ?_
    refine own_s_bipush X0.here hx (hb hby at_4) (pc' := 6) rfl (v := (6 : Int32)) (by decide) ?_
    refine own_s_irem X0.here hx (hb hby at_6) (pc' := 7) rfl (by decide) (v := (1 : Int32)) w1_7_hv6 ?_
    refine own_s_istore X0.here hx (hb hby at_7) (pc' := 9) rfl (L' := #[.val (.int p0), .val (.long p1), .second, .val (.int p2), .val (.int p3), .val (.int (1 : Int32)), .unset, .unset, .unset, .unset, .unset, .unset, .unset, .unset]) rfl ?_
    refine own_s_iload X0.here hx (hb hby at_9) (pc' := 11) rfl rfl ?_
    refine own_s_ifYes X0.here hx (hb hby at_11) (by decide) (pc' := 22) (by decide) (by decide) ?_
    refine own_s_iload X0.here hx (hb hby at_22) (pc' := 24) rfl rfl ?_
    refine own_s_iconst X0.here hx (hb hby at_24) (pc' := 25) rfl (v := (1 : Int32)) (by decide) ?_
    refine own_s_icmpNo X0.here hx (hb hby at_25) (pc' := 28) rfl (by decide) ?_
    refine stw1_71 _ ?_
    show Steps p.tables e below (Tw1_71.setTop (mkF m 31 #[.val (.int p0), .val (.long p1), .second, .val (.int p2), .val (.int p3), .val (.int (1 : Int32)), .unset, .unset, .unset, .unset, .unset, .unset, .unset, .unset] [(.ref st_PMIN)])) _
    refine own_s_astore Xw1_71.here hx (hb hby at_31) (pc' := 33) rfl rfl (L' := #[.val (.int p0), .val (.long p1), .second, .val (.int p2), .val (.int p3), .val (.int (1 : Int32)), .val (.ref st_PMIN), .unset, .unset, .unset, .unset, .unset, .unset, .unset]) rfl ?_
    refine own_s_goto Xw1_71.here hx (hb hby at_33) (by decide) (pc' := 83) (by decide) ?_
    refine own_s_iload Xw1_71.here hx (hb hby at_83) (pc' := 85) rfl rfl ?_
    refine own_s_iconst Xw1_71.here hx (hb hby at_85) (pc' := 86) rfl (v := (3 : Int32)) (by decide) ?_
    refine own_s_icmpYes Xw1_71.here hx (hb hby at_86) (by decide) (pc' := 93) (by decide) (by decide) ?_
    refine own_s_iconst Xw1_71.here hx (hb hby at_93) (pc' := 94) rfl (v := (0 : Int32)) (by decide) ?_
    refine own_s_istore Xw1_71.here hx (hb hby at_94) (pc' := 96) rfl (L' := #[.val (.int p0), .val (.long p1), .second, .val (.int p2), .val (.int p3), .val (.int (1 : Int32)), .val (.ref st_PMIN), .val (.int (0 : Int32)), .unset, .unset, .unset, .unset, .unset, .unset]) rfl ?_
    refine own_s_iload Xw1_71.here hx (hb hby at_96) (pc' := 98) rfl rfl ?_
    refine own_s_bipush Xw1_71.here hx (hb hby at_98) (pc' := 100) rfl (v := (7 : Int32)) (by decide) ?_
    refine own_s_iand Xw1_71.here hx (hb hby at_100) (pc' := 101) rfl (v := (7 : Int32)) w1_7_hv100 ?_
    refine own_s_istore Xw1_71.here hx (hb hby at_101) (pc' := 103) rfl (L' := #[.val (.int p0), .val (.long p1), .second, .val (.int p2), .val (.int p3), .val (.int (1 : Int32)), .val (.ref st_PMIN), .val (.int (0 : Int32)), .val (.int (7 : Int32)), .unset, .unset, .unset, .unset, .unset]) rfl ?_
    refine own_s_iload Xw1_71.here hx (hb hby at_103) (pc' := 105) rfl rfl ?_
    refine own_s_iconst Xw1_71.here hx (hb hby at_105) (pc' := 106) rfl (v := (4 : Int32)) (by decide) ?_
    refine own_s_icmpYes Xw1_71.here hx (hb hby at_106) (by decide) (pc' := 121) (by decide) (by decide) ?_
    refine own_s_iload Xw1_71.here hx (hb hby at_121) (pc' := 123) rfl rfl ?_
    refine own_s_iconst Xw1_71.here hx (hb hby at_123) (pc' := 124) rfl (v := (5 : Int32)) (by decide) ?_
    refine own_s_icmpYes Xw1_71.here hx (hb hby at_124) (by decide) (pc' := 138) (by decide) (by decide) ?_
    refine own_s_iload Xw1_71.here hx (hb hby at_138) (pc' := 140) rfl rfl ?_
    refine own_s_bipush Xw1_71.here hx (hb hby at_140) (pc' := 142) rfl (v := (6 : Int32)) (by decide) ?_
    refine own_s_icmpYes Xw1_71.here hx (hb hby at_142) (by decide) (pc' := 156) (by decide) (by decide) ?_
    refine own_s_iload Xw1_71.here hx (hb hby at_156) (pc' := 158) rfl rfl ?_
    refine own_s_bipush Xw1_71.here hx (hb hby at_158) (pc' := 160) rfl (v := (7 : Int32)) (by decide) ?_
    refine own_s_icmpNo Xw1_71.here hx (hb hby at_160) (pc' := 163) rfl (by decide) ?_
    refine Xw1_71.ldc2DoubleC hx hown (mvT hZ (hw _ (List.mem_of_getElem? (i := 13) rfl))) (g := (mkF m 163 #[.val (.int p0), .val (.long p1), .second, .val (.int p2), .val (.int p3), .val (.int (1 : Int32)), .val (.ref st_PMIN), .val (.int (0 : Int32)), .val (.int (7 : Int32)), .unset, .unset, .unset, .unset, .unset] [])) rfl (hb hby at_163) _ ?_
    show Steps p.tables e below (Tw1_71.setTop (mkF m 166 #[.val (.int p0), .val (.long p1), .second, .val (.int p2), .val (.int p3), .val (.int (1 : Int32)), .val (.ref st_PMIN), .val (.int (0 : Int32)), .val (.int (7 : Int32)), .unset, .unset, .unset, .unset, .unset] [(.double (9223372036854775808 : UInt64))])) _
    refine own_s_dstore Xw1_71.here hx (hb hby at_166) (pc' := 168) rfl (L' := #[.val (.int p0), .val (.long p1), .second, .val (.int p2), .val (.int p3), .val (.int (1 : Int32)), .val (.ref st_PMIN), .val (.int (0 : Int32)), .val (.int (7 : Int32)), .val (.double (9223372036854775808 : UInt64)), .second, .unset, .unset, .unset]) rfl ?_
    refine own_s_iconst Xw1_71.here hx (hb hby at_168) (pc' := 169) rfl (v := (1 : Int32)) (by decide) ?_
    refine own_s_istore Xw1_71.here hx (hb hby at_169) (pc' := 171) rfl (L' := #[.val (.int p0), .val (.long p1), .second, .val (.int p2), .val (.int p3), .val (.int (1 : Int32)), .val (.ref st_PMIN), .val (.int (0 : Int32)), .val (.int (7 : Int32)), .val (.double (9223372036854775808 : UInt64)), .second, .val (.int (1 : Int32)), .unset, .unset]) rfl ?_
    refine own_s_goto Xw1_71.here hx (hb hby at_171) (by decide) (pc' := 215) (by decide) ?_
    refine own_s_aload Xw1_71.here hx (hb hby at_215) (pc' := 217) rfl rfl rfl ?_
    refine own_s_dload Xw1_71.here hx (hb hby at_217) (pc' := 219) rfl rfl ?_
    refine stw1_72.trans ?_
    show Steps p.tables e below (Tw1_72.setTop (mkF m 222 #[.val (.int p0), .val (.long p1), .second, .val (.int p2), .val (.int p3), .val (.int (1 : Int32)), .val (.ref st_PMIN), .val (.int (0 : Int32)), .val (.int (7 : Int32)), .val (.double (9223372036854775808 : UInt64)), .second, .val (.int (1 : Int32)), .unset, .unset] [(.int (1 : Int32))])) _
    refine own_s_iload Xw1_72.here hx (hb hby at_222) (pc' := 224) rfl rfl ?_
    refine own_s_icmpNo Xw1_72.here hx (hb hby at_224) (pc' := 227) rfl (by decide) ?_
    refine own_s_iconst Xw1_72.here hx (hb hby at_227) (pc' := 228) rfl (v := (1 : Int32)) (by decide) ?_
    refine own_s_goto Xw1_72.here hx (hb hby at_228) (by decide) (pc' := 232) (by decide) ?_
    exact retN Xw1_72 hx (t := .boolean) Bd.returns (by simp) (hb hby at_232) hr
  · show own_Q0 n0 _ Tw1_72.heap _
    rw [ew1_72]
    exact ⟨rfl, Nw1_72⟩
theorem own_ef_w1_n (m : MethodId) (p0 : Int32) (p1 : Int64) (p2 : Int32) (p3 : Int32) : entryFrame m #[(.int p0), (.long p1), (.int p2), (.int p3)] maxLocals = mkF m 0 #[.val (.int p0), .val (.long p1), .second, .val (.int p2), .val (.int p3), .unset, .unset, .unset, .unset, .unset, .unset, .unset, .unset, .unset] [] := by first | (simp [entryFrame, mkF, argsToLocals, Value.category, maxLocals]; done) | rfl
set_option maxRecDepth 65536 in
set_option maxHeartbeats 40000000 in
theorem own_rm_w1_n (l : Launch) (Z : State) (a0 : Array Value) (hw : ∀ d ∈ tables_1, d.before a0 Z = true) (ws : List Jvm.Cond) (p0 : Int32) (p1 : Int64) (p2 : Int32) (p3 : Int32) (st_PMIN : Addr) {w1_n_v3 : Int32} {w1_n_v100 : Int32} {w1_n_v178 : Int32} {w1_n_v179 : Int64} {w1_n_v187 : UInt64} (h0 : Heap) (n0 : Nat) (Z0 : n0 ≤ h0.size) (E_st_PMIN : Exa Z h0 st_PMIN "com/example/libcredal/libcredal/checker/Query$Operator") (F_reward_st_PMIN : Fld Z h0 st_PMIN "com/example/libcredal/libcredal/checker/Query$Operator" "reward" "Z" (.int (0 : Int32))) (S_PMIN : Sta Z h0 "com/example/libcredal/libcredal/checker/Query$Operator" "PMIN" "Lcom/example/libcredal/libcredal/checker/Query$Operator;" (.ref st_PMIN)) (w1_n_hv3 : p0 &&& (2147483647 : Int32) = w1_n_v3) (w1_n_hv6 : w1_n_v3 % (6 : Int32) = (1 : Int32)) (w1_n_hv100 : p3 &&& (7 : Int32) = w1_n_v100) (w1_n_hb106 : if_icmp.holds .ne w1_n_v100 (4 : Int32) = true) (w1_n_hb124 : if_icmp.holds .ne w1_n_v100 (5 : Int32) = true) (w1_n_hb142 : if_icmp.holds .ne w1_n_v100 (6 : Int32) = true) (w1_n_hb160 : if_icmp.holds .ne w1_n_v100 (7 : Int32) = true) (w1_n_hv178 : p2 &&& (31 : Int32) = w1_n_v178) (w1_n_hv179 : (1 : Int64) <<< (w1_n_v178 &&& 63).toInt64 = w1_n_v179) (w1_n_hn187 : Jvm.Free.Fl.NoNaN64 (FP.ddiv (FP.l2d p1) (FP.l2d w1_n_v179))) (w1_n_hv187 : FP.ddiv (FP.l2d p1) (FP.l2d w1_n_v179) = w1_n_v187) (w1_n_hb193 : ifCond.holds .lt (lcmpW p1 (0 : Int64)) = true) (w1_n_c219_c0t_hb3 : ifCond.holds .lt (Op.cmpValue (FP.dcmp w1_n_v187 0) .l) = true) :
    MetFree l x (head1 (Jvm.Cond.code x code maxLocals ret :: ws) room_1) (fun a U => a = #[(.int p0), (.long p1), (.int p2), (.int p3)] ∧ Z.Warmed39 U.vm ∧ U.heap = h0) (fun _ _ _ _ _ => True) (fun _ U o U' => ∃ v L, o = .returned v ∧ own_Q0 n0 v U'.heap L ∧ FrameEnd U o U' L room_1.cells room_1.slots) := by
  refine MetFree.of_bodySF (plainFor_of_name own_pn_com_example_libcredal_libcredal_checker_OperatorAdmitsPinLaw) hisR ?_
  intro p e s m args below meth c s₁ Bd hml0 hP hK
  obtain ⟨rfl, hZ, hh⟩ := hP
  have hx := Bd.exec
  have hby := Bd.bytes
  have hml : c.maxLocals = 14 := hml0
  have hown : s.vm.findClass "com/example/libcredal/libcredal/checker/OperatorAdmitsPinLaw" = some m.cls := findClass_of_methodNamed Bd.named
  have hnm := (name_of_methodNamed Bd.named Bd.method).1
  have X0 : Stand p l e room_1 s m #[(.int p0), (.long p1), (.int p2), (.int p3)] below meth c s₁ [] 0 0 := Stand.of_body Bd
  have e0 : s₁.heap = h0 := by rw [← hh, Bd.state]; rfl
  have N0 := Fr.nil n0
  have pre0 : ∀ t, Steps p.tables e below (s₁.setTop (mkF m 0 #[.val (.int p0), .val (.long p1), .second, .val (.int p2), .val (.int p3), .unset, .unset, .unset, .unset, .unset, .unset, .unset, .unset, .unset] [])) t → Steps p.tables e below (s₁.setTop (entryFrame m #[(.int p0), (.long p1), (.int p2), (.int p3)] maxLocals)) t := fun t k => castTop (own_ef_w1_n m p0 p1 p2 p3) k
  obtain ⟨Tw1_n1, Xw1_n1, ew1_n1, stw1_n1⟩ := getS2 X0 hx hZ hown (host := "") (Or.inl (hw _ (List.mem_of_getElem? (i := 17) rfl))) Via.refl e0 S_PMIN (g := (mkF m 28 #[.val (.int p0), .val (.long p1), .second, .val (.int p2), .val (.int p3), .val (.int (1 : Int32)), .unset, .unset, .unset, .unset, .unset, .unset, .unset, .unset] [])) rfl (hb hby at_28)
  obtain ⟨cqw1_n2, kqw1_n2, qw1_n2a, qw1_n2b, qw1_n2c⟩ := isOf hZ ew1_n1 E_st_PMIN
  obtain ⟨_, _, ⟨Tw1_n2, Lw1_n2, kw1_n2, nw1_n2⟩, -, Xw1_n2, ⟨Lcw1_n2, hQw1_n2, lw1_n2, yw1_n2, zw1_n2⟩, stw1_n2⟩ := Xw1_n1.virtualBack hx (y := (⟨"com/example/libcredal/libcredal/checker/Query$Operator", "admits", "(D)Z"⟩ : MethodName)) (z := (⟨"com/example/libcredal/libcredal/checker/Query$Operator", "admits", "(D)Z"⟩ : MethodName)) hown (mvT hZ (hw _ (List.mem_of_getElem? (i := 4) rfl))) (mvT hZ (hw _ (List.mem_of_getElem? (i := 5) rfl))) (notFace_of_selects (args := #[]) (mvT hZ (hw _ (List.mem_of_getElem? (i := 7) rfl)))) (mvT hZ (hw _ (List.mem_of_getElem? (i := 7) rfl))) (mvT hZ (hw _ (List.mem_of_getElem? (i := 6) rfl))) (by decide) (backOf (W := 0) (own_rm_c0t l Z a0 hw [] st_PMIN w1_n_v187 h0 n0 Z0 E_st_PMIN F_reward_st_PMIN w1_n_c219_c0t_hb3) hZ (hw _ (List.mem_of_getElem? (i := 8) rfl)) (hw _ (List.mem_of_getElem? (i := 2) rfl)) (by decide) (by decide)) qw1_n2a qw1_n2c (g := (mkF m 219 #[.val (.int p0), .val (.long p1), .second, .val (.int p2), .val (.int p3), .val (.int (1 : Int32)), .val (.ref st_PMIN), .val (.int (0 : Int32)), .val (.int w1_n_v100), .val (.double w1_n_v187), .second, .val (.int (0 : Int32)), .val (.long w1_n_v179), .second] [(.double w1_n_v187), (.ref st_PMIN)])) rfl (by rw [hml]; rfl) (Steps.refl _) (argsL := [(.double w1_n_v187)]) (rest := []) (lenOf own_pd_28D29Z rfl) rfl (by show 2 * 0 + _ ≤ _; exact Nat.le_of_eq rfl) (hb hby at_219) (fun _ _ => ⟨rfl, ew1_n1, (by decide : 0 + 0 ≤ _), (by decide : 0 + 0 ≤ _)⟩)
  dsimp only [Pt.U, Pt.locs, Pt.cells, Pt.slots] at Xw1_n2 lw1_n2 yw1_n2 zw1_n2 stw1_n2 hQw1_n2
  rw [lw1_n2, yw1_n2, zw1_n2] at Xw1_n2
  obtain ⟨rfl, Nw1_n2q, ew1_n2⟩ := hQw1_n2
  have Nw1_n2 := Fr.app N0 Nw1_n2q
  obtain ⟨fs, hr, hrun, hended, hW, hsame⟩ := Xw1_n2.leave (v := some (.int (1 : Int32))) (fun h => by rw [Bd.returns] at h; cases h)
  refine ⟨_, _, pre0 _ ?_, hrun, hended, _, _, rfl, ?_, ⟨_, rfl⟩, hW, hsame.mono (by decide) (by decide)⟩
  · refine own_s_iloadN X0.here hx (hb hby at_0) (pc' := 1) rfl rfl ?_
    refine X0.ldcInt hx hown (mvT hZ (hw _ (List.mem_of_getElem? (i := 0) rfl))) (g := (mkF m 1 #[.val (.int p0), .val (.long p1), .second, .val (.int p2), .val (.int p3), .unset, .unset, .unset, .unset, .unset, .unset, .unset, .unset, .unset] [(.int p0)])) rfl (hb hby at_1) _ ?_
    show Steps p.tables e below (s₁.setTop (mkF m 3 #[.val (.int p0), .val (.long p1), .second, .val (.int p2), .val (.int p3), .unset, .unset, .unset, .unset, .unset, .unset, .unset, .unset, .unset] [(.int (2147483647 : Int32)), (.int p0)])) _
    refine own_s_iand X0.here hx (hb hby at_3) (pc' := 4) rfl (v := w1_n_v3) w1_n_hv3 ?_
    refine own_s_bipush X0.here hx (hb hby at_4) (pc' := 6) rfl (v := (6 : Int32)) (by decide) ?_
    refine own_s_irem X0.here hx (hb hby at_6) (pc' := 7) rfl (by decide) (v := (1 : Int32)) w1_n_hv6 ?_
    refine own_s_istore X0.here hx (hb hby at_7) (pc' := 9) rfl (L' := #[.val (.int p0), .val (.long p1), .second, .val (.int p2), .val (.int p3), .val (.int (1 : Int32)), .unset, .unset, .unset, .unset, .unset, .unset, .unset, .unset]) rfl ?_
    refine own_s_iload X0.here hx (hb hby at_9) (pc' := 11) rfl rfl ?_
    refine own_s_ifYes X0.here hx (hb hby at_11) (by decide) (pc' := 22) (by decide) (by decide) ?_
    refine own_s_iload X0.here hx (hb hby at_22) (pc' := 24) rfl rfl ?_
    refine own_s_iconst X0.here hx (hb hby at_24) (pc' := 25) rfl (v := (1 : Int32)) (by decide) ?_
    refine own_s_icmpNo X0.here hx (hb hby at_25) (pc' := 28) rfl (by decide) ?_
    refine stw1_n1 _ ?_
    show Steps p.tables e below (Tw1_n1.setTop (mkF m 31 #[.val (.int p0), .val (.long p1), .second, .val (.int p2), .val (.int p3), .val (.int (1 : Int32)), .unset, .unset, .unset, .unset, .unset, .unset, .unset, .unset] [(.ref st_PMIN)])) _
    refine own_s_astore Xw1_n1.here hx (hb hby at_31) (pc' := 33) rfl rfl (L' := #[.val (.int p0), .val (.long p1), .second, .val (.int p2), .val (.int p3), .val (.int (1 : Int32)), .val (.ref st_PMIN), .unset, .unset, .unset, .unset, .unset, .unset, .unset]) rfl ?_
    refine own_s_goto Xw1_n1.here hx (hb hby at_33) (by decide) (pc' := 83) (by decide) ?_
    refine own_s_iload Xw1_n1.here hx (hb hby at_83) (pc' := 85) rfl rfl ?_
    refine own_s_iconst Xw1_n1.here hx (hb hby at_85) (pc' := 86) rfl (v := (3 : Int32)) (by decide) ?_
    refine own_s_icmpYes Xw1_n1.here hx (hb hby at_86) (by decide) (pc' := 93) (by decide) (by decide) ?_
    refine own_s_iconst Xw1_n1.here hx (hb hby at_93) (pc' := 94) rfl (v := (0 : Int32)) (by decide) ?_
    refine own_s_istore Xw1_n1.here hx (hb hby at_94) (pc' := 96) rfl (L' := #[.val (.int p0), .val (.long p1), .second, .val (.int p2), .val (.int p3), .val (.int (1 : Int32)), .val (.ref st_PMIN), .val (.int (0 : Int32)), .unset, .unset, .unset, .unset, .unset, .unset]) rfl ?_
    refine own_s_iload Xw1_n1.here hx (hb hby at_96) (pc' := 98) rfl rfl ?_
    refine own_s_bipush Xw1_n1.here hx (hb hby at_98) (pc' := 100) rfl (v := (7 : Int32)) (by decide) ?_
    refine own_s_iand Xw1_n1.here hx (hb hby at_100) (pc' := 101) rfl (v := w1_n_v100) w1_n_hv100 ?_
    refine own_s_istore Xw1_n1.here hx (hb hby at_101) (pc' := 103) rfl (L' := #[.val (.int p0), .val (.long p1), .second, .val (.int p2), .val (.int p3), .val (.int (1 : Int32)), .val (.ref st_PMIN), .val (.int (0 : Int32)), .val (.int w1_n_v100), .unset, .unset, .unset, .unset, .unset]) rfl ?_
    refine own_s_iload Xw1_n1.here hx (hb hby at_103) (pc' := 105) rfl rfl ?_
    refine own_s_iconst Xw1_n1.here hx (hb hby at_105) (pc' := 106) rfl (v := (4 : Int32)) (by decide) ?_
    refine own_s_icmpYes Xw1_n1.here hx (hb hby at_106) (by decide) (pc' := 121) (by decide) w1_n_hb106 ?_
    refine own_s_iload Xw1_n1.here hx (hb hby at_121) (pc' := 123) rfl rfl ?_
    refine own_s_iconst Xw1_n1.here hx (hb hby at_123) (pc' := 124) rfl (v := (5 : Int32)) (by decide) ?_
    refine own_s_icmpYes Xw1_n1.here hx (hb hby at_124) (by decide) (pc' := 138) (by decide) w1_n_hb124 ?_
    refine own_s_iload Xw1_n1.here hx (hb hby at_138) (pc' := 140) rfl rfl ?_
    refine own_s_bipush Xw1_n1.here hx (hb hby at_140) (pc' := 142) rfl (v := (6 : Int32)) (by decide) ?_
    refine own_s_icmpYes Xw1_n1.here hx (hb hby at_142) (by decide) (pc' := 156) (by decide) w1_n_hb142 ?_
    refine own_s_iload Xw1_n1.here hx (hb hby at_156) (pc' := 158) rfl rfl ?_
    refine own_s_bipush Xw1_n1.here hx (hb hby at_158) (pc' := 160) rfl (v := (7 : Int32)) (by decide) ?_
    refine own_s_icmpYes Xw1_n1.here hx (hb hby at_160) (by decide) (pc' := 174) (by decide) w1_n_hb160 ?_
    refine own_s_lconst Xw1_n1.here hx (hb hby at_174) (pc' := 175) rfl (v := (1 : Int64)) (by decide) ?_
    refine own_s_iloadN Xw1_n1.here hx (hb hby at_175) (pc' := 176) rfl rfl ?_
    refine own_s_bipush Xw1_n1.here hx (hb hby at_176) (pc' := 178) rfl (v := (31 : Int32)) (by decide) ?_
    refine own_s_iand Xw1_n1.here hx (hb hby at_178) (pc' := 179) rfl (v := w1_n_v178) w1_n_hv178 ?_
    refine own_s_lshl Xw1_n1.here hx (hb hby at_179) (pc' := 180) rfl (v := w1_n_v179) w1_n_hv179 ?_
    refine own_s_lstore Xw1_n1.here hx (hb hby at_180) (pc' := 182) rfl (L' := #[.val (.int p0), .val (.long p1), .second, .val (.int p2), .val (.int p3), .val (.int (1 : Int32)), .val (.ref st_PMIN), .val (.int (0 : Int32)), .val (.int w1_n_v100), .unset, .unset, .unset, .val (.long w1_n_v179), .second]) rfl ?_
    refine own_s_lloadN Xw1_n1.here hx (hb hby at_182) (pc' := 183) rfl rfl ?_
    refine own_s_l2d Xw1_n1.here hx (hb hby at_183) (pc' := 184) rfl (v := (FP.l2d p1)) rfl ?_
    refine own_s_lload Xw1_n1.here hx (hb hby at_184) (pc' := 186) rfl rfl ?_
    refine own_s_l2d Xw1_n1.here hx (hb hby at_186) (pc' := 187) rfl (v := (FP.l2d w1_n_v179)) rfl ?_
    refine own_s_ddiv Xw1_n1.here hx (hb hby at_187) (pc' := 188) rfl w1_n_hn187 (v := w1_n_v187) w1_n_hv187 ?_
    refine own_s_dstore Xw1_n1.here hx (hb hby at_188) (pc' := 190) rfl (L' := #[.val (.int p0), .val (.long p1), .second, .val (.int p2), .val (.int p3), .val (.int (1 : Int32)), .val (.ref st_PMIN), .val (.int (0 : Int32)), .val (.int w1_n_v100), .val (.double w1_n_v187), .second, .unset, .val (.long w1_n_v179), .second]) rfl ?_
    refine own_s_lloadN Xw1_n1.here hx (hb hby at_190) (pc' := 191) rfl rfl ?_
    refine own_s_lconst Xw1_n1.here hx (hb hby at_191) (pc' := 192) rfl (v := (0 : Int64)) (by decide) ?_
    refine own_s_lcmp Xw1_n1.here hx (hb hby at_192) (pc' := 193) rfl (v := (lcmpW p1 (0 : Int64))) rfl ?_
    refine own_s_ifYes Xw1_n1.here hx (hb hby at_193) (by decide) (pc' := 212) (by decide) w1_n_hb193 ?_
    refine own_s_iconst Xw1_n1.here hx (hb hby at_212) (pc' := 213) rfl (v := (0 : Int32)) (by decide) ?_
    refine own_s_istore Xw1_n1.here hx (hb hby at_213) (pc' := 215) rfl (L' := #[.val (.int p0), .val (.long p1), .second, .val (.int p2), .val (.int p3), .val (.int (1 : Int32)), .val (.ref st_PMIN), .val (.int (0 : Int32)), .val (.int w1_n_v100), .val (.double w1_n_v187), .second, .val (.int (0 : Int32)), .val (.long w1_n_v179), .second]) rfl ?_
    refine own_s_aload Xw1_n1.here hx (hb hby at_215) (pc' := 217) rfl rfl rfl ?_
    refine own_s_dload Xw1_n1.here hx (hb hby at_217) (pc' := 219) rfl rfl ?_
    refine stw1_n2.trans ?_
    show Steps p.tables e below (Tw1_n2.setTop (mkF m 222 #[.val (.int p0), .val (.long p1), .second, .val (.int p2), .val (.int p3), .val (.int (1 : Int32)), .val (.ref st_PMIN), .val (.int (0 : Int32)), .val (.int w1_n_v100), .val (.double w1_n_v187), .second, .val (.int (0 : Int32)), .val (.long w1_n_v179), .second] [(.int (0 : Int32))])) _
    refine own_s_iload Xw1_n2.here hx (hb hby at_222) (pc' := 224) rfl rfl ?_
    refine own_s_icmpNo Xw1_n2.here hx (hb hby at_224) (pc' := 227) rfl (by decide) ?_
    refine own_s_iconst Xw1_n2.here hx (hb hby at_227) (pc' := 228) rfl (v := (1 : Int32)) (by decide) ?_
    refine own_s_goto Xw1_n2.here hx (hb hby at_228) (by decide) (pc' := 232) (by decide) ?_
    exact retN Xw1_n2 hx (t := .boolean) Bd.returns (by simp) (hb hby at_232) hr
  · show own_Q0 n0 _ Tw1_n2.heap _
    rw [ew1_n2]
    exact ⟨rfl, Nw1_n2⟩
theorem own_ef_w1_g (m : MethodId) (p0 : Int32) (p1 : Int64) (p2 : Int32) (p3 : Int32) : entryFrame m #[(.int p0), (.long p1), (.int p2), (.int p3)] maxLocals = mkF m 0 #[.val (.int p0), .val (.long p1), .second, .val (.int p2), .val (.int p3), .unset, .unset, .unset, .unset, .unset, .unset, .unset, .unset, .unset] [] := by first | (simp [entryFrame, mkF, argsToLocals, Value.category, maxLocals]; done) | rfl
set_option maxRecDepth 65536 in
set_option maxHeartbeats 40000000 in
theorem own_rm_w1_g (l : Launch) (Z : State) (a0 : Array Value) (hw : ∀ d ∈ tables_1, d.before a0 Z = true) (ws : List Jvm.Cond) (p0 : Int32) (p1 : Int64) (p2 : Int32) (p3 : Int32) (st_PMIN : Addr) {w1_g_v3 : Int32} {w1_g_v100 : Int32} {w1_g_v178 : Int32} {w1_g_v179 : Int64} {w1_g_v187 : UInt64} (h0 : Heap) (n0 : Nat) (Z0 : n0 ≤ h0.size) (E_st_PMIN : Exa Z h0 st_PMIN "com/example/libcredal/libcredal/checker/Query$Operator") (F_reward_st_PMIN : Fld Z h0 st_PMIN "com/example/libcredal/libcredal/checker/Query$Operator" "reward" "Z" (.int (0 : Int32))) (S_PMIN : Sta Z h0 "com/example/libcredal/libcredal/checker/Query$Operator" "PMIN" "Lcom/example/libcredal/libcredal/checker/Query$Operator;" (.ref st_PMIN)) (w1_g_hv3 : p0 &&& (2147483647 : Int32) = w1_g_v3) (w1_g_hv6 : w1_g_v3 % (6 : Int32) = (1 : Int32)) (w1_g_hv100 : p3 &&& (7 : Int32) = w1_g_v100) (w1_g_hb106 : if_icmp.holds .ne w1_g_v100 (4 : Int32) = true) (w1_g_hb124 : if_icmp.holds .ne w1_g_v100 (5 : Int32) = true) (w1_g_hb142 : if_icmp.holds .ne w1_g_v100 (6 : Int32) = true) (w1_g_hb160 : if_icmp.holds .ne w1_g_v100 (7 : Int32) = true) (w1_g_hv178 : p2 &&& (31 : Int32) = w1_g_v178) (w1_g_hv179 : (1 : Int64) <<< (w1_g_v178 &&& 63).toInt64 = w1_g_v179) (w1_g_hn187 : Jvm.Free.Fl.NoNaN64 (FP.ddiv (FP.l2d p1) (FP.l2d w1_g_v179))) (w1_g_hv187 : FP.ddiv (FP.l2d p1) (FP.l2d w1_g_v179) = w1_g_v187) (w1_g_hb193 : ifCond.holds .lt (lcmpW p1 (0 : Int64)) = false) (w1_g_hb205 : ifCond.holds .gt (lcmpW p1 w1_g_v179) = true) (w1_g_c219_c0ft_hb3 : ifCond.holds .lt (Op.cmpValue (FP.dcmp w1_g_v187 0) .l) = false) (w1_g_c219_c0ft_hb22 : ifCond.holds .gt (Op.cmpValue (FP.dcmp w1_g_v187 4607182418800017408) .g) = true) :
    MetFree l x (head1 (Jvm.Cond.code x code maxLocals ret :: ws) room_1) (fun a U => a = #[(.int p0), (.long p1), (.int p2), (.int p3)] ∧ Z.Warmed39 U.vm ∧ U.heap = h0) (fun _ _ _ _ _ => True) (fun _ U o U' => ∃ v L, o = .returned v ∧ own_Q0 n0 v U'.heap L ∧ FrameEnd U o U' L room_1.cells room_1.slots) := by
  refine MetFree.of_bodySF (plainFor_of_name own_pn_com_example_libcredal_libcredal_checker_OperatorAdmitsPinLaw) hisR ?_
  intro p e s m args below meth c s₁ Bd hml0 hP hK
  obtain ⟨rfl, hZ, hh⟩ := hP
  have hx := Bd.exec
  have hby := Bd.bytes
  have hml : c.maxLocals = 14 := hml0
  have hown : s.vm.findClass "com/example/libcredal/libcredal/checker/OperatorAdmitsPinLaw" = some m.cls := findClass_of_methodNamed Bd.named
  have hnm := (name_of_methodNamed Bd.named Bd.method).1
  have X0 : Stand p l e room_1 s m #[(.int p0), (.long p1), (.int p2), (.int p3)] below meth c s₁ [] 0 0 := Stand.of_body Bd
  have e0 : s₁.heap = h0 := by rw [← hh, Bd.state]; rfl
  have N0 := Fr.nil n0
  have pre0 : ∀ t, Steps p.tables e below (s₁.setTop (mkF m 0 #[.val (.int p0), .val (.long p1), .second, .val (.int p2), .val (.int p3), .unset, .unset, .unset, .unset, .unset, .unset, .unset, .unset, .unset] [])) t → Steps p.tables e below (s₁.setTop (entryFrame m #[(.int p0), (.long p1), (.int p2), (.int p3)] maxLocals)) t := fun t k => castTop (own_ef_w1_g m p0 p1 p2 p3) k
  obtain ⟨Tw1_g1, Xw1_g1, ew1_g1, stw1_g1⟩ := getS2 X0 hx hZ hown (host := "") (Or.inl (hw _ (List.mem_of_getElem? (i := 17) rfl))) Via.refl e0 S_PMIN (g := (mkF m 28 #[.val (.int p0), .val (.long p1), .second, .val (.int p2), .val (.int p3), .val (.int (1 : Int32)), .unset, .unset, .unset, .unset, .unset, .unset, .unset, .unset] [])) rfl (hb hby at_28)
  obtain ⟨cqw1_g2, kqw1_g2, qw1_g2a, qw1_g2b, qw1_g2c⟩ := isOf hZ ew1_g1 E_st_PMIN
  obtain ⟨_, _, ⟨Tw1_g2, Lw1_g2, kw1_g2, nw1_g2⟩, -, Xw1_g2, ⟨Lcw1_g2, hQw1_g2, lw1_g2, yw1_g2, zw1_g2⟩, stw1_g2⟩ := Xw1_g1.virtualBack hx (y := (⟨"com/example/libcredal/libcredal/checker/Query$Operator", "admits", "(D)Z"⟩ : MethodName)) (z := (⟨"com/example/libcredal/libcredal/checker/Query$Operator", "admits", "(D)Z"⟩ : MethodName)) hown (mvT hZ (hw _ (List.mem_of_getElem? (i := 4) rfl))) (mvT hZ (hw _ (List.mem_of_getElem? (i := 5) rfl))) (notFace_of_selects (args := #[]) (mvT hZ (hw _ (List.mem_of_getElem? (i := 7) rfl)))) (mvT hZ (hw _ (List.mem_of_getElem? (i := 7) rfl))) (mvT hZ (hw _ (List.mem_of_getElem? (i := 6) rfl))) (by decide) (backOf (W := 0) (own_rm_c0ft l Z a0 hw [] st_PMIN w1_g_v187 h0 n0 Z0 E_st_PMIN F_reward_st_PMIN w1_g_c219_c0ft_hb3 w1_g_c219_c0ft_hb22) hZ (hw _ (List.mem_of_getElem? (i := 8) rfl)) (hw _ (List.mem_of_getElem? (i := 2) rfl)) (by decide) (by decide)) qw1_g2a qw1_g2c (g := (mkF m 219 #[.val (.int p0), .val (.long p1), .second, .val (.int p2), .val (.int p3), .val (.int (1 : Int32)), .val (.ref st_PMIN), .val (.int (0 : Int32)), .val (.int w1_g_v100), .val (.double w1_g_v187), .second, .val (.int (0 : Int32)), .val (.long w1_g_v179), .second] [(.double w1_g_v187), (.ref st_PMIN)])) rfl (by rw [hml]; rfl) (Steps.refl _) (argsL := [(.double w1_g_v187)]) (rest := []) (lenOf own_pd_28D29Z rfl) rfl (by show 2 * 0 + _ ≤ _; exact Nat.le_of_eq rfl) (hb hby at_219) (fun _ _ => ⟨rfl, ew1_g1, (by decide : 0 + 0 ≤ _), (by decide : 0 + 0 ≤ _)⟩)
  dsimp only [Pt.U, Pt.locs, Pt.cells, Pt.slots] at Xw1_g2 lw1_g2 yw1_g2 zw1_g2 stw1_g2 hQw1_g2
  rw [lw1_g2, yw1_g2, zw1_g2] at Xw1_g2
  obtain ⟨rfl, Nw1_g2q, ew1_g2⟩ := hQw1_g2
  have Nw1_g2 := Fr.app N0 Nw1_g2q
  obtain ⟨fs, hr, hrun, hended, hW, hsame⟩ := Xw1_g2.leave (v := some (.int (1 : Int32))) (fun h => by rw [Bd.returns] at h; cases h)
  refine ⟨_, _, pre0 _ ?_, hrun, hended, _, _, rfl, ?_, ⟨_, rfl⟩, hW, hsame.mono (by decide) (by decide)⟩
  · refine own_s_iloadN X0.here hx (hb hby at_0) (pc' := 1) rfl rfl ?_
    refine X0.ldcInt hx hown (mvT hZ (hw _ (List.mem_of_getElem? (i := 0) rfl))) (g := (mkF m 1 #[.val (.int p0), .val (.long p1), .second, .val (.int p2), .val (.int p3), .unset, .unset, .unset, .unset, .unset, .unset, .unset, .unset, .unset] [(.int p0)])) rfl (hb hby at_1) _ ?_
    show Steps p.tables e below (s₁.setTop (mkF m 3 #[.val (.int p0), .val (.long p1), .second, .val (.int p2), .val (.int p3), .unset, .unset, .unset, .unset, .unset, .unset, .unset, .unset, .unset] [(.int (2147483647 : Int32)), (.int p0)])) _
    refine own_s_iand X0.here hx (hb hby at_3) (pc' := 4) rfl (v := w1_g_v3) w1_g_hv3 ?_
    refine own_s_bipush X0.here hx (hb hby at_4) (pc' := 6) rfl (v := (6 : Int32)) (by decide) ?_
    refine own_s_irem X0.here hx (hb hby at_6) (pc' := 7) rfl (by decide) (v := (1 : Int32)) w1_g_hv6 ?_
    refine own_s_istore X0.here hx (hb hby at_7) (pc' := 9) rfl (L' := #[.val (.int p0), .val (.long p1), .second, .val (.int p2), .val (.int p3), .val (.int (1 : Int32)), .unset, .unset, .unset, .unset, .unset, .unset, .unset, .unset]) rfl ?_
    refine own_s_iload X0.here hx (hb hby at_9) (pc' := 11) rfl rfl ?_
    refine own_s_ifYes X0.here hx (hb hby at_11) (by decide) (pc' := 22) (by decide) (by decide) ?_
    refine own_s_iload X0.here hx (hb hby at_22) (pc' := 24) rfl rfl ?_
    refine own_s_iconst X0.here hx (hb hby at_24) (pc' := 25) rfl (v := (1 : Int32)) (by decide) ?_
    refine own_s_icmpNo X0.here hx (hb hby at_25) (pc' := 28) rfl (by decide) ?_
    refine stw1_g1 _ ?_
    show Steps p.tables e below (Tw1_g1.setTop (mkF m 31 #[.val (.int p0), .val (.long p1), .second, .val (.int p2), .val (.int p3), .val (.int (1 : Int32)), .unset, .unset, .unset, .unset, .unset, .unset, .unset, .unset] [(.ref st_PMIN)])) _
    refine own_s_astore Xw1_g1.here hx (hb hby at_31) (pc' := 33) rfl rfl (L' := #[.val (.int p0), .val (.long p1), .second, .val (.int p2), .val (.int p3), .val (.int (1 : Int32)), .val (.ref st_PMIN), .unset, .unset, .unset, .unset, .unset, .unset, .unset]) rfl ?_
    refine own_s_goto Xw1_g1.here hx (hb hby at_33) (by decide) (pc' := 83) (by decide) ?_
    refine own_s_iload Xw1_g1.here hx (hb hby at_83) (pc' := 85) rfl rfl ?_
    refine own_s_iconst Xw1_g1.here hx (hb hby at_85) (pc' := 86) rfl (v := (3 : Int32)) (by decide) ?_
    refine own_s_icmpYes Xw1_g1.here hx (hb hby at_86) (by decide) (pc' := 93) (by decide) (by decide) ?_
    refine own_s_iconst Xw1_g1.here hx (hb hby at_93) (pc' := 94) rfl (v := (0 : Int32)) (by decide) ?_
    refine own_s_istore Xw1_g1.here hx (hb hby at_94) (pc' := 96) rfl (L' := #[.val (.int p0), .val (.long p1), .second, .val (.int p2), .val (.int p3), .val (.int (1 : Int32)), .val (.ref st_PMIN), .val (.int (0 : Int32)), .unset, .unset, .unset, .unset, .unset, .unset]) rfl ?_
    refine own_s_iload Xw1_g1.here hx (hb hby at_96) (pc' := 98) rfl rfl ?_
    refine own_s_bipush Xw1_g1.here hx (hb hby at_98) (pc' := 100) rfl (v := (7 : Int32)) (by decide) ?_
    refine own_s_iand Xw1_g1.here hx (hb hby at_100) (pc' := 101) rfl (v := w1_g_v100) w1_g_hv100 ?_
    refine own_s_istore Xw1_g1.here hx (hb hby at_101) (pc' := 103) rfl (L' := #[.val (.int p0), .val (.long p1), .second, .val (.int p2), .val (.int p3), .val (.int (1 : Int32)), .val (.ref st_PMIN), .val (.int (0 : Int32)), .val (.int w1_g_v100), .unset, .unset, .unset, .unset, .unset]) rfl ?_
    refine own_s_iload Xw1_g1.here hx (hb hby at_103) (pc' := 105) rfl rfl ?_
    refine own_s_iconst Xw1_g1.here hx (hb hby at_105) (pc' := 106) rfl (v := (4 : Int32)) (by decide) ?_
    refine own_s_icmpYes Xw1_g1.here hx (hb hby at_106) (by decide) (pc' := 121) (by decide) w1_g_hb106 ?_
    refine own_s_iload Xw1_g1.here hx (hb hby at_121) (pc' := 123) rfl rfl ?_
    refine own_s_iconst Xw1_g1.here hx (hb hby at_123) (pc' := 124) rfl (v := (5 : Int32)) (by decide) ?_
    refine own_s_icmpYes Xw1_g1.here hx (hb hby at_124) (by decide) (pc' := 138) (by decide) w1_g_hb124 ?_
    refine own_s_iload Xw1_g1.here hx (hb hby at_138) (pc' := 140) rfl rfl ?_
    refine own_s_bipush Xw1_g1.here hx (hb hby at_140) (pc' := 142) rfl (v := (6 : Int32)) (by decide) ?_
    refine own_s_icmpYes Xw1_g1.here hx (hb hby at_142) (by decide) (pc' := 156) (by decide) w1_g_hb142 ?_
    refine own_s_iload Xw1_g1.here hx (hb hby at_156) (pc' := 158) rfl rfl ?_
    refine own_s_bipush Xw1_g1.here hx (hb hby at_158) (pc' := 160) rfl (v := (7 : Int32)) (by decide) ?_
    refine own_s_icmpYes Xw1_g1.here hx (hb hby at_160) (by decide) (pc' := 174) (by decide) w1_g_hb160 ?_
    refine own_s_lconst Xw1_g1.here hx (hb hby at_174) (pc' := 175) rfl (v := (1 : Int64)) (by decide) ?_
    refine own_s_iloadN Xw1_g1.here hx (hb hby at_175) (pc' := 176) rfl rfl ?_
    refine own_s_bipush Xw1_g1.here hx (hb hby at_176) (pc' := 178) rfl (v := (31 : Int32)) (by decide) ?_
    refine own_s_iand Xw1_g1.here hx (hb hby at_178) (pc' := 179) rfl (v := w1_g_v178) w1_g_hv178 ?_
    refine own_s_lshl Xw1_g1.here hx (hb hby at_179) (pc' := 180) rfl (v := w1_g_v179) w1_g_hv179 ?_
    refine own_s_lstore Xw1_g1.here hx (hb hby at_180) (pc' := 182) rfl (L' := #[.val (.int p0), .val (.long p1), .second, .val (.int p2), .val (.int p3), .val (.int (1 : Int32)), .val (.ref st_PMIN), .val (.int (0 : Int32)), .val (.int w1_g_v100), .unset, .unset, .unset, .val (.long w1_g_v179), .second]) rfl ?_
    refine own_s_lloadN Xw1_g1.here hx (hb hby at_182) (pc' := 183) rfl rfl ?_
    refine own_s_l2d Xw1_g1.here hx (hb hby at_183) (pc' := 184) rfl (v := (FP.l2d p1)) rfl ?_
    refine own_s_lload Xw1_g1.here hx (hb hby at_184) (pc' := 186) rfl rfl ?_
    refine own_s_l2d Xw1_g1.here hx (hb hby at_186) (pc' := 187) rfl (v := (FP.l2d w1_g_v179)) rfl ?_
    refine own_s_ddiv Xw1_g1.here hx (hb hby at_187) (pc' := 188) rfl w1_g_hn187 (v := w1_g_v187) w1_g_hv187 ?_
    refine own_s_dstore Xw1_g1.here hx (hb hby at_188) (pc' := 190) rfl (L' := #[.val (.int p0), .val (.long p1), .second, .val (.int p2), .val (.int p3), .val (.int (1 : Int32)), .val (.ref st_PMIN), .val (.int (0 : Int32)), .val (.int w1_g_v100), .val (.double w1_g_v187), .second, .unset, .val (.long w1_g_v179), .second]) rfl ?_
    refine own_s_lloadN Xw1_g1.here hx (hb hby at_190) (pc' := 191) rfl rfl ?_
    refine own_s_lconst Xw1_g1.here hx (hb hby at_191) (pc' := 192) rfl (v := (0 : Int64)) (by decide) ?_
    refine own_s_lcmp Xw1_g1.here hx (hb hby at_192) (pc' := 193) rfl (v := (lcmpW p1 (0 : Int64))) rfl ?_
    refine own_s_ifNo Xw1_g1.here hx (hb hby at_193) (pc' := 196) rfl w1_g_hb193 ?_
    refine own_s_iload Xw1_g1.here hx (hb hby at_196) (pc' := 198) rfl rfl ?_
    refine own_s_ifNo Xw1_g1.here hx (hb hby at_198) (pc' := 201) rfl (by decide) ?_
    refine own_s_lloadN Xw1_g1.here hx (hb hby at_201) (pc' := 202) rfl rfl ?_
    refine own_s_lload Xw1_g1.here hx (hb hby at_202) (pc' := 204) rfl rfl ?_
    refine own_s_lcmp Xw1_g1.here hx (hb hby at_204) (pc' := 205) rfl (v := (lcmpW p1 w1_g_v179)) rfl ?_
    refine own_s_ifYes Xw1_g1.here hx (hb hby at_205) (by decide) (pc' := 212) (by decide) w1_g_hb205 ?_
    refine own_s_iconst Xw1_g1.here hx (hb hby at_212) (pc' := 213) rfl (v := (0 : Int32)) (by decide) ?_
    refine own_s_istore Xw1_g1.here hx (hb hby at_213) (pc' := 215) rfl (L' := #[.val (.int p0), .val (.long p1), .second, .val (.int p2), .val (.int p3), .val (.int (1 : Int32)), .val (.ref st_PMIN), .val (.int (0 : Int32)), .val (.int w1_g_v100), .val (.double w1_g_v187), .second, .val (.int (0 : Int32)), .val (.long w1_g_v179), .second]) rfl ?_
    refine own_s_aload Xw1_g1.here hx (hb hby at_215) (pc' := 217) rfl rfl rfl ?_
    refine own_s_dload Xw1_g1.here hx (hb hby at_217) (pc' := 219) rfl rfl ?_
    refine stw1_g2.trans ?_
    show Steps p.tables e below (Tw1_g2.setTop (mkF m 222 #[.val (.int p0), .val (.long p1), .second, .val (.int p2), .val (.int p3), .val (.int (1 : Int32)), .val (.ref st_PMIN), .val (.int (0 : Int32)), .val (.int w1_g_v100), .val (.double w1_g_v187), .second, .val (.int (0 : Int32)), .val (.long w1_g_v179), .second] [(.int (0 : Int32))])) _
    refine own_s_iload Xw1_g2.here hx (hb hby at_222) (pc' := 224) rfl rfl ?_
    refine own_s_icmpNo Xw1_g2.here hx (hb hby at_224) (pc' := 227) rfl (by decide) ?_
    refine own_s_iconst Xw1_g2.here hx (hb hby at_227) (pc' := 228) rfl (v := (1 : Int32)) (by decide) ?_
    refine own_s_goto Xw1_g2.here hx (hb hby at_228) (by decide) (pc' := 232) (by decide) ?_
    exact retN Xw1_g2 hx (t := .boolean) Bd.returns (by simp) (hb hby at_232) hr
  · show own_Q0 n0 _ Tw1_g2.heap _
    rw [ew1_g2]
    exact ⟨rfl, Nw1_g2⟩
theorem own_ef_w1_y (m : MethodId) (p0 : Int32) (p1 : Int64) (p2 : Int32) (p3 : Int32) : entryFrame m #[(.int p0), (.long p1), (.int p2), (.int p3)] maxLocals = mkF m 0 #[.val (.int p0), .val (.long p1), .second, .val (.int p2), .val (.int p3), .unset, .unset, .unset, .unset, .unset, .unset, .unset, .unset, .unset] [] := by first | (simp [entryFrame, mkF, argsToLocals, Value.category, maxLocals]; done) | rfl
set_option maxRecDepth 65536 in
set_option maxHeartbeats 40000000 in
theorem own_rm_w1_y (l : Launch) (Z : State) (a0 : Array Value) (hw : ∀ d ∈ tables_1, d.before a0 Z = true) (ws : List Jvm.Cond) (p0 : Int32) (p1 : Int64) (p2 : Int32) (p3 : Int32) (st_PMIN : Addr) {w1_y_v3 : Int32} {w1_y_v100 : Int32} {w1_y_v178 : Int32} {w1_y_v179 : Int64} {w1_y_v187 : UInt64} (h0 : Heap) (n0 : Nat) (Z0 : n0 ≤ h0.size) (E_st_PMIN : Exa Z h0 st_PMIN "com/example/libcredal/libcredal/checker/Query$Operator") (F_reward_st_PMIN : Fld Z h0 st_PMIN "com/example/libcredal/libcredal/checker/Query$Operator" "reward" "Z" (.int (0 : Int32))) (S_PMIN : Sta Z h0 "com/example/libcredal/libcredal/checker/Query$Operator" "PMIN" "Lcom/example/libcredal/libcredal/checker/Query$Operator;" (.ref st_PMIN)) (w1_y_hv3 : p0 &&& (2147483647 : Int32) = w1_y_v3) (w1_y_hv6 : w1_y_v3 % (6 : Int32) = (1 : Int32)) (w1_y_hv100 : p3 &&& (7 : Int32) = w1_y_v100) (w1_y_hb106 : if_icmp.holds .ne w1_y_v100 (4 : Int32) = true) (w1_y_hb124 : if_icmp.holds .ne w1_y_v100 (5 : Int32) = true) (w1_y_hb142 : if_icmp.holds .ne w1_y_v100 (6 : Int32) = true) (w1_y_hb160 : if_icmp.holds .ne w1_y_v100 (7 : Int32) = true) (w1_y_hv178 : p2 &&& (31 : Int32) = w1_y_v178) (w1_y_hv179 : (1 : Int64) <<< (w1_y_v178 &&& 63).toInt64 = w1_y_v179) (w1_y_hn187 : Jvm.Free.Fl.NoNaN64 (FP.ddiv (FP.l2d p1) (FP.l2d w1_y_v179))) (w1_y_hv187 : FP.ddiv (FP.l2d p1) (FP.l2d w1_y_v179) = w1_y_v187) (w1_y_hb193 : ifCond.holds .lt (lcmpW p1 (0 : Int64)) = false) (w1_y_hb205 : ifCond.holds .gt (lcmpW p1 w1_y_v179) = false) (w1_y_c219_c0ff_hb3 : ifCond.holds .lt (Op.cmpValue (FP.dcmp w1_y_v187 0) .l) = false) (w1_y_c219_c0ff_hb22 : ifCond.holds .gt (Op.cmpValue (FP.dcmp w1_y_v187 4607182418800017408) .g) = false) :
    MetFree l x (head1 (Jvm.Cond.code x code maxLocals ret :: ws) room_1) (fun a U => a = #[(.int p0), (.long p1), (.int p2), (.int p3)] ∧ Z.Warmed39 U.vm ∧ U.heap = h0) (fun _ _ _ _ _ => True) (fun _ U o U' => ∃ v L, o = .returned v ∧ own_Q0 n0 v U'.heap L ∧ FrameEnd U o U' L room_1.cells room_1.slots) := by
  refine MetFree.of_bodySF (plainFor_of_name own_pn_com_example_libcredal_libcredal_checker_OperatorAdmitsPinLaw) hisR ?_
  intro p e s m args below meth c s₁ Bd hml0 hP hK
  obtain ⟨rfl, hZ, hh⟩ := hP
  have hx := Bd.exec
  have hby := Bd.bytes
  have hml : c.maxLocals = 14 := hml0
  have hown : s.vm.findClass "com/example/libcredal/libcredal/checker/OperatorAdmitsPinLaw" = some m.cls := findClass_of_methodNamed Bd.named
  have hnm := (name_of_methodNamed Bd.named Bd.method).1
  have X0 : Stand p l e room_1 s m #[(.int p0), (.long p1), (.int p2), (.int p3)] below meth c s₁ [] 0 0 := Stand.of_body Bd
  have e0 : s₁.heap = h0 := by rw [← hh, Bd.state]; rfl
  have N0 := Fr.nil n0
  have pre0 : ∀ t, Steps p.tables e below (s₁.setTop (mkF m 0 #[.val (.int p0), .val (.long p1), .second, .val (.int p2), .val (.int p3), .unset, .unset, .unset, .unset, .unset, .unset, .unset, .unset, .unset] [])) t → Steps p.tables e below (s₁.setTop (entryFrame m #[(.int p0), (.long p1), (.int p2), (.int p3)] maxLocals)) t := fun t k => castTop (own_ef_w1_y m p0 p1 p2 p3) k
  obtain ⟨Tw1_y1, Xw1_y1, ew1_y1, stw1_y1⟩ := getS2 X0 hx hZ hown (host := "") (Or.inl (hw _ (List.mem_of_getElem? (i := 17) rfl))) Via.refl e0 S_PMIN (g := (mkF m 28 #[.val (.int p0), .val (.long p1), .second, .val (.int p2), .val (.int p3), .val (.int (1 : Int32)), .unset, .unset, .unset, .unset, .unset, .unset, .unset, .unset] [])) rfl (hb hby at_28)
  obtain ⟨cqw1_y2, kqw1_y2, qw1_y2a, qw1_y2b, qw1_y2c⟩ := isOf hZ ew1_y1 E_st_PMIN
  obtain ⟨_, _, ⟨Tw1_y2, Lw1_y2, kw1_y2, nw1_y2⟩, -, Xw1_y2, ⟨Lcw1_y2, hQw1_y2, lw1_y2, yw1_y2, zw1_y2⟩, stw1_y2⟩ := Xw1_y1.virtualBack hx (y := (⟨"com/example/libcredal/libcredal/checker/Query$Operator", "admits", "(D)Z"⟩ : MethodName)) (z := (⟨"com/example/libcredal/libcredal/checker/Query$Operator", "admits", "(D)Z"⟩ : MethodName)) hown (mvT hZ (hw _ (List.mem_of_getElem? (i := 4) rfl))) (mvT hZ (hw _ (List.mem_of_getElem? (i := 5) rfl))) (notFace_of_selects (args := #[]) (mvT hZ (hw _ (List.mem_of_getElem? (i := 7) rfl)))) (mvT hZ (hw _ (List.mem_of_getElem? (i := 7) rfl))) (mvT hZ (hw _ (List.mem_of_getElem? (i := 6) rfl))) (by decide) (backOf (W := 0) (own_rm_c0ff l Z a0 hw [] st_PMIN w1_y_v187 h0 n0 Z0 E_st_PMIN F_reward_st_PMIN w1_y_c219_c0ff_hb3 w1_y_c219_c0ff_hb22) hZ (hw _ (List.mem_of_getElem? (i := 8) rfl)) (hw _ (List.mem_of_getElem? (i := 2) rfl)) (by decide) (by decide)) qw1_y2a qw1_y2c (g := (mkF m 219 #[.val (.int p0), .val (.long p1), .second, .val (.int p2), .val (.int p3), .val (.int (1 : Int32)), .val (.ref st_PMIN), .val (.int (0 : Int32)), .val (.int w1_y_v100), .val (.double w1_y_v187), .second, .val (.int (1 : Int32)), .val (.long w1_y_v179), .second] [(.double w1_y_v187), (.ref st_PMIN)])) rfl (by rw [hml]; rfl) (Steps.refl _) (argsL := [(.double w1_y_v187)]) (rest := []) (lenOf own_pd_28D29Z rfl) rfl (by show 2 * 0 + _ ≤ _; exact Nat.le_of_eq rfl) (hb hby at_219) (fun _ _ => ⟨rfl, ew1_y1, (by decide : 0 + 0 ≤ _), (by decide : 0 + 0 ≤ _)⟩)
  dsimp only [Pt.U, Pt.locs, Pt.cells, Pt.slots] at Xw1_y2 lw1_y2 yw1_y2 zw1_y2 stw1_y2 hQw1_y2
  rw [lw1_y2, yw1_y2, zw1_y2] at Xw1_y2
  obtain ⟨rfl, Nw1_y2q, ew1_y2⟩ := hQw1_y2
  have Nw1_y2 := Fr.app N0 Nw1_y2q
  obtain ⟨fs, hr, hrun, hended, hW, hsame⟩ := Xw1_y2.leave (v := some (.int (1 : Int32))) (fun h => by rw [Bd.returns] at h; cases h)
  refine ⟨_, _, pre0 _ ?_, hrun, hended, _, _, rfl, ?_, ⟨_, rfl⟩, hW, hsame.mono (by decide) (by decide)⟩
  · refine own_s_iloadN X0.here hx (hb hby at_0) (pc' := 1) rfl rfl ?_
    refine X0.ldcInt hx hown (mvT hZ (hw _ (List.mem_of_getElem? (i := 0) rfl))) (g := (mkF m 1 #[.val (.int p0), .val (.long p1), .second, .val (.int p2), .val (.int p3), .unset, .unset, .unset, .unset, .unset, .unset, .unset, .unset, .unset] [(.int p0)])) rfl (hb hby at_1) _ ?_
    show Steps p.tables e below (s₁.setTop (mkF m 3 #[.val (.int p0), .val (.long p1), .second, .val (.int p2), .val (.int p3), .unset, .unset, .unset, .unset, .unset, .unset, .unset, .unset, .unset] [(.int (2147483647 : Int32)), (.int p0)])) _
    refine own_s_iand X0.here hx (hb hby at_3) (pc' := 4) rfl (v := w1_y_v3) w1_y_hv3 ?_
    refine own_s_bipush X0.here hx (hb hby at_4) (pc' := 6) rfl (v := (6 : Int32)) (by decide) ?_
    refine own_s_irem X0.here hx (hb hby at_6) (pc' := 7) rfl (by decide) (v := (1 : Int32)) w1_y_hv6 ?_
    refine own_s_istore X0.here hx (hb hby at_7) (pc' := 9) rfl (L' := #[.val (.int p0), .val (.long p1), .second, .val (.int p2), .val (.int p3), .val (.int (1 : Int32)), .unset, .unset, .unset, .unset, .unset, .unset, .unset, .unset]) rfl ?_
    refine own_s_iload X0.here hx (hb hby at_9) (pc' := 11) rfl rfl ?_
    refine own_s_ifYes X0.here hx (hb hby at_11) (by decide) (pc' := 22) (by decide) (by decide) ?_
    refine own_s_iload X0.here hx (hb hby at_22) (pc' := 24) rfl rfl ?_
    refine own_s_iconst X0.here hx (hb hby at_24) (pc' := 25) rfl (v := (1 : Int32)) (by decide) ?_
    refine own_s_icmpNo X0.here hx (hb hby at_25) (pc' := 28) rfl (by decide) ?_
    refine stw1_y1 _ ?_
    show Steps p.tables e below (Tw1_y1.setTop (mkF m 31 #[.val (.int p0), .val (.long p1), .second, .val (.int p2), .val (.int p3), .val (.int (1 : Int32)), .unset, .unset, .unset, .unset, .unset, .unset, .unset, .unset] [(.ref st_PMIN)])) _
    refine own_s_astore Xw1_y1.here hx (hb hby at_31) (pc' := 33) rfl rfl (L' := #[.val (.int p0), .val (.long p1), .second, .val (.int p2), .val (.int p3), .val (.int (1 : Int32)), .val (.ref st_PMIN), .unset, .unset, .unset, .unset, .unset, .unset, .unset]) rfl ?_
    refine own_s_goto Xw1_y1.here hx (hb hby at_33) (by decide) (pc' := 83) (by decide) ?_
    refine own_s_iload Xw1_y1.here hx (hb hby at_83) (pc' := 85) rfl rfl ?_
    refine own_s_iconst Xw1_y1.here hx (hb hby at_85) (pc' := 86) rfl (v := (3 : Int32)) (by decide) ?_
    refine own_s_icmpYes Xw1_y1.here hx (hb hby at_86) (by decide) (pc' := 93) (by decide) (by decide) ?_
    refine own_s_iconst Xw1_y1.here hx (hb hby at_93) (pc' := 94) rfl (v := (0 : Int32)) (by decide) ?_
    refine own_s_istore Xw1_y1.here hx (hb hby at_94) (pc' := 96) rfl (L' := #[.val (.int p0), .val (.long p1), .second, .val (.int p2), .val (.int p3), .val (.int (1 : Int32)), .val (.ref st_PMIN), .val (.int (0 : Int32)), .unset, .unset, .unset, .unset, .unset, .unset]) rfl ?_
    refine own_s_iload Xw1_y1.here hx (hb hby at_96) (pc' := 98) rfl rfl ?_
    refine own_s_bipush Xw1_y1.here hx (hb hby at_98) (pc' := 100) rfl (v := (7 : Int32)) (by decide) ?_
    refine own_s_iand Xw1_y1.here hx (hb hby at_100) (pc' := 101) rfl (v := w1_y_v100) w1_y_hv100 ?_
    refine own_s_istore Xw1_y1.here hx (hb hby at_101) (pc' := 103) rfl (L' := #[.val (.int p0), .val (.long p1), .second, .val (.int p2), .val (.int p3), .val (.int (1 : Int32)), .val (.ref st_PMIN), .val (.int (0 : Int32)), .val (.int w1_y_v100), .unset, .unset, .unset, .unset, .unset]) rfl ?_
    refine own_s_iload Xw1_y1.here hx (hb hby at_103) (pc' := 105) rfl rfl ?_
    refine own_s_iconst Xw1_y1.here hx (hb hby at_105) (pc' := 106) rfl (v := (4 : Int32)) (by decide) ?_
    refine own_s_icmpYes Xw1_y1.here hx (hb hby at_106) (by decide) (pc' := 121) (by decide) w1_y_hb106 ?_
    refine own_s_iload Xw1_y1.here hx (hb hby at_121) (pc' := 123) rfl rfl ?_
    refine own_s_iconst Xw1_y1.here hx (hb hby at_123) (pc' := 124) rfl (v := (5 : Int32)) (by decide) ?_
    refine own_s_icmpYes Xw1_y1.here hx (hb hby at_124) (by decide) (pc' := 138) (by decide) w1_y_hb124 ?_
    refine own_s_iload Xw1_y1.here hx (hb hby at_138) (pc' := 140) rfl rfl ?_
    refine own_s_bipush Xw1_y1.here hx (hb hby at_140) (pc' := 142) rfl (v := (6 : Int32)) (by decide) ?_
    refine own_s_icmpYes Xw1_y1.here hx (hb hby at_142) (by decide) (pc' := 156) (by decide) w1_y_hb142 ?_
    refine own_s_iload Xw1_y1.here hx (hb hby at_156) (pc' := 158) rfl rfl ?_
    refine own_s_bipush Xw1_y1.here hx (hb hby at_158) (pc' := 160) rfl (v := (7 : Int32)) (by decide) ?_
    refine own_s_icmpYes Xw1_y1.here hx (hb hby at_160) (by decide) (pc' := 174) (by decide) w1_y_hb160 ?_
    refine own_s_lconst Xw1_y1.here hx (hb hby at_174) (pc' := 175) rfl (v := (1 : Int64)) (by decide) ?_
    refine own_s_iloadN Xw1_y1.here hx (hb hby at_175) (pc' := 176) rfl rfl ?_
    refine own_s_bipush Xw1_y1.here hx (hb hby at_176) (pc' := 178) rfl (v := (31 : Int32)) (by decide) ?_
    refine own_s_iand Xw1_y1.here hx (hb hby at_178) (pc' := 179) rfl (v := w1_y_v178) w1_y_hv178 ?_
    refine own_s_lshl Xw1_y1.here hx (hb hby at_179) (pc' := 180) rfl (v := w1_y_v179) w1_y_hv179 ?_
    refine own_s_lstore Xw1_y1.here hx (hb hby at_180) (pc' := 182) rfl (L' := #[.val (.int p0), .val (.long p1), .second, .val (.int p2), .val (.int p3), .val (.int (1 : Int32)), .val (.ref st_PMIN), .val (.int (0 : Int32)), .val (.int w1_y_v100), .unset, .unset, .unset, .val (.long w1_y_v179), .second]) rfl ?_
    refine own_s_lloadN Xw1_y1.here hx (hb hby at_182) (pc' := 183) rfl rfl ?_
    refine own_s_l2d Xw1_y1.here hx (hb hby at_183) (pc' := 184) rfl (v := (FP.l2d p1)) rfl ?_
    refine own_s_lload Xw1_y1.here hx (hb hby at_184) (pc' := 186) rfl rfl ?_
    refine own_s_l2d Xw1_y1.here hx (hb hby at_186) (pc' := 187) rfl (v := (FP.l2d w1_y_v179)) rfl ?_
    refine own_s_ddiv Xw1_y1.here hx (hb hby at_187) (pc' := 188) rfl w1_y_hn187 (v := w1_y_v187) w1_y_hv187 ?_
    refine own_s_dstore Xw1_y1.here hx (hb hby at_188) (pc' := 190) rfl (L' := #[.val (.int p0), .val (.long p1), .second, .val (.int p2), .val (.int p3), .val (.int (1 : Int32)), .val (.ref st_PMIN), .val (.int (0 : Int32)), .val (.int w1_y_v100), .val (.double w1_y_v187), .second, .unset, .val (.long w1_y_v179), .second]) rfl ?_
    refine own_s_lloadN Xw1_y1.here hx (hb hby at_190) (pc' := 191) rfl rfl ?_
    refine own_s_lconst Xw1_y1.here hx (hb hby at_191) (pc' := 192) rfl (v := (0 : Int64)) (by decide) ?_
    refine own_s_lcmp Xw1_y1.here hx (hb hby at_192) (pc' := 193) rfl (v := (lcmpW p1 (0 : Int64))) rfl ?_
    refine own_s_ifNo Xw1_y1.here hx (hb hby at_193) (pc' := 196) rfl w1_y_hb193 ?_
    refine own_s_iload Xw1_y1.here hx (hb hby at_196) (pc' := 198) rfl rfl ?_
    refine own_s_ifNo Xw1_y1.here hx (hb hby at_198) (pc' := 201) rfl (by decide) ?_
    refine own_s_lloadN Xw1_y1.here hx (hb hby at_201) (pc' := 202) rfl rfl ?_
    refine own_s_lload Xw1_y1.here hx (hb hby at_202) (pc' := 204) rfl rfl ?_
    refine own_s_lcmp Xw1_y1.here hx (hb hby at_204) (pc' := 205) rfl (v := (lcmpW p1 w1_y_v179)) rfl ?_
    refine own_s_ifNo Xw1_y1.here hx (hb hby at_205) (pc' := 208) rfl w1_y_hb205 ?_
    refine own_s_iconst Xw1_y1.here hx (hb hby at_208) (pc' := 209) rfl (v := (1 : Int32)) (by decide) ?_
    refine own_s_goto Xw1_y1.here hx (hb hby at_209) (by decide) (pc' := 213) (by decide) ?_
    refine own_s_istore Xw1_y1.here hx (hb hby at_213) (pc' := 215) rfl (L' := #[.val (.int p0), .val (.long p1), .second, .val (.int p2), .val (.int p3), .val (.int (1 : Int32)), .val (.ref st_PMIN), .val (.int (0 : Int32)), .val (.int w1_y_v100), .val (.double w1_y_v187), .second, .val (.int (1 : Int32)), .val (.long w1_y_v179), .second]) rfl ?_
    refine own_s_aload Xw1_y1.here hx (hb hby at_215) (pc' := 217) rfl rfl rfl ?_
    refine own_s_dload Xw1_y1.here hx (hb hby at_217) (pc' := 219) rfl rfl ?_
    refine stw1_y2.trans ?_
    show Steps p.tables e below (Tw1_y2.setTop (mkF m 222 #[.val (.int p0), .val (.long p1), .second, .val (.int p2), .val (.int p3), .val (.int (1 : Int32)), .val (.ref st_PMIN), .val (.int (0 : Int32)), .val (.int w1_y_v100), .val (.double w1_y_v187), .second, .val (.int (1 : Int32)), .val (.long w1_y_v179), .second] [(.int (1 : Int32))])) _
    refine own_s_iload Xw1_y2.here hx (hb hby at_222) (pc' := 224) rfl rfl ?_
    refine own_s_icmpNo Xw1_y2.here hx (hb hby at_224) (pc' := 227) rfl (by decide) ?_
    refine own_s_iconst Xw1_y2.here hx (hb hby at_227) (pc' := 228) rfl (v := (1 : Int32)) (by decide) ?_
    refine own_s_goto Xw1_y2.here hx (hb hby at_228) (by decide) (pc' := 232) (by decide) ?_
    exact retN Xw1_y2 hx (t := .boolean) Bd.returns (by simp) (hb hby at_232) hr
  · show own_Q0 n0 _ Tw1_y2.heap _
    rw [ew1_y2]
    exact ⟨rfl, Nw1_y2⟩
theorem own_ef_w2_4 (m : MethodId) (p0 : Int32) (p1 : Int64) (p2 : Int32) (p3 : Int32) : entryFrame m #[(.int p0), (.long p1), (.int p2), (.int p3)] maxLocals = mkF m 0 #[.val (.int p0), .val (.long p1), .second, .val (.int p2), .val (.int p3), .unset, .unset, .unset, .unset, .unset, .unset, .unset, .unset, .unset] [] := by first | (simp [entryFrame, mkF, argsToLocals, Value.category, maxLocals]; done) | rfl
set_option maxRecDepth 65536 in
set_option maxHeartbeats 40000000 in
theorem own_rm_w2_4 (l : Launch) (Z : State) (a0 : Array Value) (hw : ∀ d ∈ tables_1, d.before a0 Z = true) (ws : List Jvm.Cond) (p0 : Int32) (p1 : Int64) (p2 : Int32) (p3 : Int32) (st_PMAX : Addr) {w2_4_v3 : Int32} (h0 : Heap) (n0 : Nat) (Z0 : n0 ≤ h0.size) (E_st_PMAX : Exa Z h0 st_PMAX "com/example/libcredal/libcredal/checker/Query$Operator") (F_reward_st_PMAX : Fld Z h0 st_PMAX "com/example/libcredal/libcredal/checker/Query$Operator" "reward" "Z" (.int (0 : Int32))) (S_PMAX : Sta Z h0 "com/example/libcredal/libcredal/checker/Query$Operator" "PMAX" "Lcom/example/libcredal/libcredal/checker/Query$Operator;" (.ref st_PMAX)) (w2_4_hv3 : p0 &&& (2147483647 : Int32) = w2_4_v3) (w2_4_hv6 : w2_4_v3 % (6 : Int32) = (2 : Int32)) (w2_4_hv100 : p3 &&& (7 : Int32) = (4 : Int32)) (w2_4_c219_c0ft_hb3 : ifCond.holds .lt (Op.cmpValue (FP.dcmp (9218868437227405311 : UInt64) 0) .l) = false) (w2_4_c219_c0ft_hb22 : ifCond.holds .gt (Op.cmpValue (FP.dcmp (9218868437227405311 : UInt64) 4607182418800017408) .g) = true) :
    MetFree l x (head1 (Jvm.Cond.code x code maxLocals ret :: ws) room_1) (fun a U => a = #[(.int p0), (.long p1), (.int p2), (.int p3)] ∧ Z.Warmed39 U.vm ∧ U.heap = h0) (fun _ _ _ _ _ => True) (fun _ U o U' => ∃ v L, o = .returned v ∧ own_Q0 n0 v U'.heap L ∧ FrameEnd U o U' L room_1.cells room_1.slots) := by
  refine MetFree.of_bodySF (plainFor_of_name own_pn_com_example_libcredal_libcredal_checker_OperatorAdmitsPinLaw) hisR ?_
  intro p e s m args below meth c s₁ Bd hml0 hP hK
  obtain ⟨rfl, hZ, hh⟩ := hP
  have hx := Bd.exec
  have hby := Bd.bytes
  have hml : c.maxLocals = 14 := hml0
  have hown : s.vm.findClass "com/example/libcredal/libcredal/checker/OperatorAdmitsPinLaw" = some m.cls := findClass_of_methodNamed Bd.named
  have hnm := (name_of_methodNamed Bd.named Bd.method).1
  have X0 : Stand p l e room_1 s m #[(.int p0), (.long p1), (.int p2), (.int p3)] below meth c s₁ [] 0 0 := Stand.of_body Bd
  have e0 : s₁.heap = h0 := by rw [← hh, Bd.state]; rfl
  have N0 := Fr.nil n0
  have pre0 : ∀ t, Steps p.tables e below (s₁.setTop (mkF m 0 #[.val (.int p0), .val (.long p1), .second, .val (.int p2), .val (.int p3), .unset, .unset, .unset, .unset, .unset, .unset, .unset, .unset, .unset] [])) t → Steps p.tables e below (s₁.setTop (entryFrame m #[(.int p0), (.long p1), (.int p2), (.int p3)] maxLocals)) t := fun t k => castTop (own_ef_w2_4 m p0 p1 p2 p3) k
  obtain ⟨Tw2_41, Xw2_41, ew2_41, stw2_41⟩ := getS2 X0 hx hZ hown (host := "") (Or.inl (hw _ (List.mem_of_getElem? (i := 15) rfl))) Via.refl e0 S_PMAX (g := (mkF m 42 #[.val (.int p0), .val (.long p1), .second, .val (.int p2), .val (.int p3), .val (.int (2 : Int32)), .unset, .unset, .unset, .unset, .unset, .unset, .unset, .unset] [])) rfl (hb hby at_42)
  obtain ⟨cqw2_42, kqw2_42, qw2_42a, qw2_42b, qw2_42c⟩ := isOf hZ ew2_41 E_st_PMAX
  obtain ⟨_, _, ⟨Tw2_42, Lw2_42, kw2_42, nw2_42⟩, -, Xw2_42, ⟨Lcw2_42, hQw2_42, lw2_42, yw2_42, zw2_42⟩, stw2_42⟩ := Xw2_41.virtualBack hx (y := (⟨"com/example/libcredal/libcredal/checker/Query$Operator", "admits", "(D)Z"⟩ : MethodName)) (z := (⟨"com/example/libcredal/libcredal/checker/Query$Operator", "admits", "(D)Z"⟩ : MethodName)) hown (mvT hZ (hw _ (List.mem_of_getElem? (i := 4) rfl))) (mvT hZ (hw _ (List.mem_of_getElem? (i := 5) rfl))) (notFace_of_selects (args := #[]) (mvT hZ (hw _ (List.mem_of_getElem? (i := 7) rfl)))) (mvT hZ (hw _ (List.mem_of_getElem? (i := 7) rfl))) (mvT hZ (hw _ (List.mem_of_getElem? (i := 6) rfl))) (by decide) (backOf (W := 0) (own_rm_c0ft l Z a0 hw [] st_PMAX (9218868437227405311 : UInt64) h0 n0 Z0 E_st_PMAX F_reward_st_PMAX w2_4_c219_c0ft_hb3 w2_4_c219_c0ft_hb22) hZ (hw _ (List.mem_of_getElem? (i := 8) rfl)) (hw _ (List.mem_of_getElem? (i := 2) rfl)) (by decide) (by decide)) qw2_42a qw2_42c (g := (mkF m 219 #[.val (.int p0), .val (.long p1), .second, .val (.int p2), .val (.int p3), .val (.int (2 : Int32)), .val (.ref st_PMAX), .val (.int (0 : Int32)), .val (.int (4 : Int32)), .val (.double (9218868437227405311 : UInt64)), .second, .val (.int (0 : Int32)), .unset, .unset] [(.double (9218868437227405311 : UInt64)), (.ref st_PMAX)])) rfl (by rw [hml]; rfl) (Steps.refl _) (argsL := [(.double (9218868437227405311 : UInt64))]) (rest := []) (lenOf own_pd_28D29Z rfl) rfl (by show 2 * 0 + _ ≤ _; exact Nat.le_of_eq rfl) (hb hby at_219) (fun _ _ => ⟨rfl, ew2_41, (by decide : 0 + 0 ≤ _), (by decide : 0 + 0 ≤ _)⟩)
  dsimp only [Pt.U, Pt.locs, Pt.cells, Pt.slots] at Xw2_42 lw2_42 yw2_42 zw2_42 stw2_42 hQw2_42
  rw [lw2_42, yw2_42, zw2_42] at Xw2_42
  obtain ⟨rfl, Nw2_42q, ew2_42⟩ := hQw2_42
  have Nw2_42 := Fr.app N0 Nw2_42q
  obtain ⟨fs, hr, hrun, hended, hW, hsame⟩ := Xw2_42.leave (v := some (.int (1 : Int32))) (fun h => by rw [Bd.returns] at h; cases h)
  refine ⟨_, _, pre0 _ ?_, hrun, hended, _, _, rfl, ?_, ⟨_, rfl⟩, hW, hsame.mono (by decide) (by decide)⟩
  · refine own_s_iloadN X0.here hx (hb hby at_0) (pc' := 1) rfl rfl ?_
    refine X0.ldcInt hx hown (mvT hZ (hw _ (List.mem_of_getElem? (i := 0) rfl))) (g := (mkF m 1 #[.val (.int p0), .val (.long p1), .second, .val (.int p2), .val (.int p3), .unset, .unset, .unset, .unset, .unset, .unset, .unset, .unset, .unset] [(.int p0)])) rfl (hb hby at_1) _ ?_
    show Steps p.tables e below (s₁.setTop (mkF m 3 #[.val (.int p0), .val (.long p1), .second, .val (.int p2), .val (.int p3), .unset, .unset, .unset, .unset, .unset, .unset, .unset, .unset, .unset] [(.int (2147483647 : Int32)), (.int p0)])) _
    refine own_s_iand X0.here hx (hb hby at_3) (pc' := 4) rfl (v := w2_4_v3) w2_4_hv3 ?_
    refine own_s_bipush X0.here hx (hb hby at_4) (pc' := 6) rfl (v := (6 : Int32)) (by decide) ?_
    refine own_s_irem X0.here hx (hb hby at_6) (pc' := 7) rfl (by decide) (v := (2 : Int32)) w2_4_hv6 ?_
    refine own_s_istore X0.here hx (hb hby at_7) (pc' := 9) rfl (L' := #[.val (.int p0), .val (.long p1), .second, .val (.int p2), .val (.int p3), .val (.int (2 : Int32)), .unset, .unset, .unset, .unset, .unset, .unset, .unset, .unset]) rfl ?_
    refine own_s_iload X0.here hx (hb hby at_9) (pc' := 11) rfl rfl ?_
    refine own_s_ifYes X0.here hx (hb hby at_11) (by decide) (pc' := 22) (by decide) (by decide) ?_
    refine own_s_iload X0.here hx (hb hby at_22) (pc' := 24) rfl rfl ?_
    refine own_s_iconst X0.here hx (hb hby at_24) (pc' := 25) rfl (v := (1 : Int32)) (by decide) ?_
    refine own_s_icmpYes X0.here hx (hb hby at_25) (by decide) (pc' := 36) (by decide) (by decide) ?_
    refine own_s_iload X0.here hx (hb hby at_36) (pc' := 38) rfl rfl ?_
    refine own_s_iconst X0.here hx (hb hby at_38) (pc' := 39) rfl (v := (2 : Int32)) (by decide) ?_
    refine own_s_icmpNo X0.here hx (hb hby at_39) (pc' := 42) rfl (by decide) ?_
    refine stw2_41 _ ?_
    show Steps p.tables e below (Tw2_41.setTop (mkF m 45 #[.val (.int p0), .val (.long p1), .second, .val (.int p2), .val (.int p3), .val (.int (2 : Int32)), .unset, .unset, .unset, .unset, .unset, .unset, .unset, .unset] [(.ref st_PMAX)])) _
    refine own_s_astore Xw2_41.here hx (hb hby at_45) (pc' := 47) rfl rfl (L' := #[.val (.int p0), .val (.long p1), .second, .val (.int p2), .val (.int p3), .val (.int (2 : Int32)), .val (.ref st_PMAX), .unset, .unset, .unset, .unset, .unset, .unset, .unset]) rfl ?_
    refine own_s_goto Xw2_41.here hx (hb hby at_47) (by decide) (pc' := 83) (by decide) ?_
    refine own_s_iload Xw2_41.here hx (hb hby at_83) (pc' := 85) rfl rfl ?_
    refine own_s_iconst Xw2_41.here hx (hb hby at_85) (pc' := 86) rfl (v := (3 : Int32)) (by decide) ?_
    refine own_s_icmpYes Xw2_41.here hx (hb hby at_86) (by decide) (pc' := 93) (by decide) (by decide) ?_
    refine own_s_iconst Xw2_41.here hx (hb hby at_93) (pc' := 94) rfl (v := (0 : Int32)) (by decide) ?_
    refine own_s_istore Xw2_41.here hx (hb hby at_94) (pc' := 96) rfl (L' := #[.val (.int p0), .val (.long p1), .second, .val (.int p2), .val (.int p3), .val (.int (2 : Int32)), .val (.ref st_PMAX), .val (.int (0 : Int32)), .unset, .unset, .unset, .unset, .unset, .unset]) rfl ?_
    refine own_s_iload Xw2_41.here hx (hb hby at_96) (pc' := 98) rfl rfl ?_
    refine own_s_bipush Xw2_41.here hx (hb hby at_98) (pc' := 100) rfl (v := (7 : Int32)) (by decide) ?_
    refine own_s_iand Xw2_41.here hx (hb hby at_100) (pc' := 101) rfl (v := (4 : Int32)) w2_4_hv100 ?_
    refine own_s_istore Xw2_41.here hx (hb hby at_101) (pc' := 103) rfl (L' := #[.val (.int p0), .val (.long p1), .second, .val (.int p2), .val (.int p3), .val (.int (2 : Int32)), .val (.ref st_PMAX), .val (.int (0 : Int32)), .val (.int (4 : Int32)), .unset, .unset, .unset, .unset, .unset]) rfl ?_
    refine own_s_iload Xw2_41.here hx (hb hby at_103) (pc' := 105) rfl rfl ?_
    refine own_s_iconst Xw2_41.here hx (hb hby at_105) (pc' := 106) rfl (v := (4 : Int32)) (by decide) ?_
    refine own_s_icmpNo Xw2_41.here hx (hb hby at_106) (pc' := 109) rfl (by decide) ?_
    refine Xw2_41.ldc2DoubleC hx hown (mvT hZ (hw _ (List.mem_of_getElem? (i := 19) rfl))) (g := (mkF m 109 #[.val (.int p0), .val (.long p1), .second, .val (.int p2), .val (.int p3), .val (.int (2 : Int32)), .val (.ref st_PMAX), .val (.int (0 : Int32)), .val (.int (4 : Int32)), .unset, .unset, .unset, .unset, .unset] [])) rfl (hb hby at_109) _ ?_
    show Steps p.tables e below (Tw2_41.setTop (mkF m 112 #[.val (.int p0), .val (.long p1), .second, .val (.int p2), .val (.int p3), .val (.int (2 : Int32)), .val (.ref st_PMAX), .val (.int (0 : Int32)), .val (.int (4 : Int32)), .unset, .unset, .unset, .unset, .unset] [(.double (9218868437227405311 : UInt64))])) _
    refine own_s_dstore Xw2_41.here hx (hb hby at_112) (pc' := 114) rfl (L' := #[.val (.int p0), .val (.long p1), .second, .val (.int p2), .val (.int p3), .val (.int (2 : Int32)), .val (.ref st_PMAX), .val (.int (0 : Int32)), .val (.int (4 : Int32)), .val (.double (9218868437227405311 : UInt64)), .second, .unset, .unset, .unset]) rfl ?_
    refine own_s_iload Xw2_41.here hx (hb hby at_114) (pc' := 116) rfl rfl ?_
    refine own_s_istore Xw2_41.here hx (hb hby at_116) (pc' := 118) rfl (L' := #[.val (.int p0), .val (.long p1), .second, .val (.int p2), .val (.int p3), .val (.int (2 : Int32)), .val (.ref st_PMAX), .val (.int (0 : Int32)), .val (.int (4 : Int32)), .val (.double (9218868437227405311 : UInt64)), .second, .val (.int (0 : Int32)), .unset, .unset]) rfl ?_
    refine own_s_goto Xw2_41.here hx (hb hby at_118) (by decide) (pc' := 215) (by decide) ?_
    refine own_s_aload Xw2_41.here hx (hb hby at_215) (pc' := 217) rfl rfl rfl ?_
    refine own_s_dload Xw2_41.here hx (hb hby at_217) (pc' := 219) rfl rfl ?_
    refine stw2_42.trans ?_
    show Steps p.tables e below (Tw2_42.setTop (mkF m 222 #[.val (.int p0), .val (.long p1), .second, .val (.int p2), .val (.int p3), .val (.int (2 : Int32)), .val (.ref st_PMAX), .val (.int (0 : Int32)), .val (.int (4 : Int32)), .val (.double (9218868437227405311 : UInt64)), .second, .val (.int (0 : Int32)), .unset, .unset] [(.int (0 : Int32))])) _
    refine own_s_iload Xw2_42.here hx (hb hby at_222) (pc' := 224) rfl rfl ?_
    refine own_s_icmpNo Xw2_42.here hx (hb hby at_224) (pc' := 227) rfl (by decide) ?_
    refine own_s_iconst Xw2_42.here hx (hb hby at_227) (pc' := 228) rfl (v := (1 : Int32)) (by decide) ?_
    refine own_s_goto Xw2_42.here hx (hb hby at_228) (by decide) (pc' := 232) (by decide) ?_
    exact retN Xw2_42 hx (t := .boolean) Bd.returns (by simp) (hb hby at_232) hr
  · show own_Q0 n0 _ Tw2_42.heap _
    rw [ew2_42]
    exact ⟨rfl, Nw2_42⟩
theorem own_ef_w2_5 (m : MethodId) (p0 : Int32) (p1 : Int64) (p2 : Int32) (p3 : Int32) : entryFrame m #[(.int p0), (.long p1), (.int p2), (.int p3)] maxLocals = mkF m 0 #[.val (.int p0), .val (.long p1), .second, .val (.int p2), .val (.int p3), .unset, .unset, .unset, .unset, .unset, .unset, .unset, .unset, .unset] [] := by first | (simp [entryFrame, mkF, argsToLocals, Value.category, maxLocals]; done) | rfl
set_option maxRecDepth 65536 in
set_option maxHeartbeats 40000000 in
theorem own_rm_w2_5 (l : Launch) (Z : State) (a0 : Array Value) (hw : ∀ d ∈ tables_1, d.before a0 Z = true) (ws : List Jvm.Cond) (p0 : Int32) (p1 : Int64) (p2 : Int32) (p3 : Int32) (st_PMAX : Addr) {w2_5_v3 : Int32} (h0 : Heap) (n0 : Nat) (Z0 : n0 ≤ h0.size) (E_st_PMAX : Exa Z h0 st_PMAX "com/example/libcredal/libcredal/checker/Query$Operator") (F_reward_st_PMAX : Fld Z h0 st_PMAX "com/example/libcredal/libcredal/checker/Query$Operator" "reward" "Z" (.int (0 : Int32))) (S_PMAX : Sta Z h0 "com/example/libcredal/libcredal/checker/Query$Operator" "PMAX" "Lcom/example/libcredal/libcredal/checker/Query$Operator;" (.ref st_PMAX)) (w2_5_hv3 : p0 &&& (2147483647 : Int32) = w2_5_v3) (w2_5_hv6 : w2_5_v3 % (6 : Int32) = (2 : Int32)) (w2_5_hv100 : p3 &&& (7 : Int32) = (5 : Int32)) (w2_5_c219_c0ft_hb3 : ifCond.holds .lt (Op.cmpValue (FP.dcmp (9218868437227405312 : UInt64) 0) .l) = false) (w2_5_c219_c0ft_hb22 : ifCond.holds .gt (Op.cmpValue (FP.dcmp (9218868437227405312 : UInt64) 4607182418800017408) .g) = true) :
    MetFree l x (head1 (Jvm.Cond.code x code maxLocals ret :: ws) room_1) (fun a U => a = #[(.int p0), (.long p1), (.int p2), (.int p3)] ∧ Z.Warmed39 U.vm ∧ U.heap = h0) (fun _ _ _ _ _ => True) (fun _ U o U' => ∃ v L, o = .returned v ∧ own_Q0 n0 v U'.heap L ∧ FrameEnd U o U' L room_1.cells room_1.slots) := by
  refine MetFree.of_bodySF (plainFor_of_name own_pn_com_example_libcredal_libcredal_checker_OperatorAdmitsPinLaw) hisR ?_
  intro p e s m args below meth c s₁ Bd hml0 hP hK
  obtain ⟨rfl, hZ, hh⟩ := hP
  have hx := Bd.exec
  have hby := Bd.bytes
  have hml : c.maxLocals = 14 := hml0
  have hown : s.vm.findClass "com/example/libcredal/libcredal/checker/OperatorAdmitsPinLaw" = some m.cls := findClass_of_methodNamed Bd.named
  have hnm := (name_of_methodNamed Bd.named Bd.method).1
  have X0 : Stand p l e room_1 s m #[(.int p0), (.long p1), (.int p2), (.int p3)] below meth c s₁ [] 0 0 := Stand.of_body Bd
  have e0 : s₁.heap = h0 := by rw [← hh, Bd.state]; rfl
  have N0 := Fr.nil n0
  have pre0 : ∀ t, Steps p.tables e below (s₁.setTop (mkF m 0 #[.val (.int p0), .val (.long p1), .second, .val (.int p2), .val (.int p3), .unset, .unset, .unset, .unset, .unset, .unset, .unset, .unset, .unset] [])) t → Steps p.tables e below (s₁.setTop (entryFrame m #[(.int p0), (.long p1), (.int p2), (.int p3)] maxLocals)) t := fun t k => castTop (own_ef_w2_5 m p0 p1 p2 p3) k
  obtain ⟨Tw2_51, Xw2_51, ew2_51, stw2_51⟩ := getS2 X0 hx hZ hown (host := "") (Or.inl (hw _ (List.mem_of_getElem? (i := 15) rfl))) Via.refl e0 S_PMAX (g := (mkF m 42 #[.val (.int p0), .val (.long p1), .second, .val (.int p2), .val (.int p3), .val (.int (2 : Int32)), .unset, .unset, .unset, .unset, .unset, .unset, .unset, .unset] [])) rfl (hb hby at_42)
  obtain ⟨cqw2_52, kqw2_52, qw2_52a, qw2_52b, qw2_52c⟩ := isOf hZ ew2_51 E_st_PMAX
  obtain ⟨_, _, ⟨Tw2_52, Lw2_52, kw2_52, nw2_52⟩, -, Xw2_52, ⟨Lcw2_52, hQw2_52, lw2_52, yw2_52, zw2_52⟩, stw2_52⟩ := Xw2_51.virtualBack hx (y := (⟨"com/example/libcredal/libcredal/checker/Query$Operator", "admits", "(D)Z"⟩ : MethodName)) (z := (⟨"com/example/libcredal/libcredal/checker/Query$Operator", "admits", "(D)Z"⟩ : MethodName)) hown (mvT hZ (hw _ (List.mem_of_getElem? (i := 4) rfl))) (mvT hZ (hw _ (List.mem_of_getElem? (i := 5) rfl))) (notFace_of_selects (args := #[]) (mvT hZ (hw _ (List.mem_of_getElem? (i := 7) rfl)))) (mvT hZ (hw _ (List.mem_of_getElem? (i := 7) rfl))) (mvT hZ (hw _ (List.mem_of_getElem? (i := 6) rfl))) (by decide) (backOf (W := 0) (own_rm_c0ft l Z a0 hw [] st_PMAX (9218868437227405312 : UInt64) h0 n0 Z0 E_st_PMAX F_reward_st_PMAX w2_5_c219_c0ft_hb3 w2_5_c219_c0ft_hb22) hZ (hw _ (List.mem_of_getElem? (i := 8) rfl)) (hw _ (List.mem_of_getElem? (i := 2) rfl)) (by decide) (by decide)) qw2_52a qw2_52c (g := (mkF m 219 #[.val (.int p0), .val (.long p1), .second, .val (.int p2), .val (.int p3), .val (.int (2 : Int32)), .val (.ref st_PMAX), .val (.int (0 : Int32)), .val (.int (5 : Int32)), .val (.double (9218868437227405312 : UInt64)), .second, .val (.int (0 : Int32)), .unset, .unset] [(.double (9218868437227405312 : UInt64)), (.ref st_PMAX)])) rfl (by rw [hml]; rfl) (Steps.refl _) (argsL := [(.double (9218868437227405312 : UInt64))]) (rest := []) (lenOf own_pd_28D29Z rfl) rfl (by show 2 * 0 + _ ≤ _; exact Nat.le_of_eq rfl) (hb hby at_219) (fun _ _ => ⟨rfl, ew2_51, (by decide : 0 + 0 ≤ _), (by decide : 0 + 0 ≤ _)⟩)
  dsimp only [Pt.U, Pt.locs, Pt.cells, Pt.slots] at Xw2_52 lw2_52 yw2_52 zw2_52 stw2_52 hQw2_52
  rw [lw2_52, yw2_52, zw2_52] at Xw2_52
  obtain ⟨rfl, Nw2_52q, ew2_52⟩ := hQw2_52
  have Nw2_52 := Fr.app N0 Nw2_52q
  obtain ⟨fs, hr, hrun, hended, hW, hsame⟩ := Xw2_52.leave (v := some (.int (1 : Int32))) (fun h => by rw [Bd.returns] at h; cases h)
  refine ⟨_, _, pre0 _ ?_, hrun, hended, _, _, rfl, ?_, ⟨_, rfl⟩, hW, hsame.mono (by decide) (by decide)⟩
  · refine own_s_iloadN X0.here hx (hb hby at_0) (pc' := 1) rfl rfl ?_
    refine X0.ldcInt hx hown (mvT hZ (hw _ (List.mem_of_getElem? (i := 0) rfl))) (g := (mkF m 1 #[.val (.int p0), .val (.long p1), .second, .val (.int p2), .val (.int p3), .unset, .unset, .unset, .unset, .unset, .unset, .unset, .unset, .unset] [(.int p0)])) rfl (hb hby at_1) _ ?_
    show Steps p.tables e below (s₁.setTop (mkF m 3 #[.val (.int p0), .val (.long p1), .second, .val (.int p2), .val (.int p3), .unset, .unset, .unset, .unset, .unset, .unset, .unset, .unset, .unset] [(.int (2147483647 : Int32)), (.int p0)])) _
    refine own_s_iand X0.here hx (hb hby at_3) (pc' := 4) rfl (v := w2_5_v3) w2_5_hv3 ?_
    refine own_s_bipush X0.here hx (hb hby at_4) (pc' := 6) rfl (v := (6 : Int32)) (by decide) ?_
    refine own_s_irem X0.here hx (hb hby at_6) (pc' := 7) rfl (by decide) (v := (2 : Int32)) w2_5_hv6 ?_
    refine own_s_istore X0.here hx (hb hby at_7) (pc' := 9) rfl (L' := #[.val (.int p0), .val (.long p1), .second, .val (.int p2), .val (.int p3), .val (.int (2 : Int32)), .unset, .unset, .unset, .unset, .unset, .unset, .unset, .unset]) rfl ?_
    refine own_s_iload X0.here hx (hb hby at_9) (pc' := 11) rfl rfl ?_
    refine own_s_ifYes X0.here hx (hb hby at_11) (by decide) (pc' := 22) (by decide) (by decide) ?_
    refine own_s_iload X0.here hx (hb hby at_22) (pc' := 24) rfl rfl ?_
    refine own_s_iconst X0.here hx (hb hby at_24) (pc' := 25) rfl (v := (1 : Int32)) (by decide) ?_
    refine own_s_icmpYes X0.here hx (hb hby at_25) (by decide) (pc' := 36) (by decide) (by decide) ?_
    refine own_s_iload X0.here hx (hb hby at_36) (pc' := 38) rfl rfl ?_
    refine own_s_iconst X0.here hx (hb hby at_38) (pc' := 39) rfl (v := (2 : Int32)) (by decide) ?_
    refine own_s_icmpNo X0.here hx (hb hby at_39) (pc' := 42) rfl (by decide) ?_
    refine stw2_51 _ ?_
    show Steps p.tables e below (Tw2_51.setTop (mkF m 45 #[.val (.int p0), .val (.long p1), .second, .val (.int p2), .val (.int p3), .val (.int (2 : Int32)), .unset, .unset, .unset, .unset, .unset, .unset, .unset, .unset] [(.ref st_PMAX)])) _
    refine own_s_astore Xw2_51.here hx (hb hby at_45) (pc' := 47) rfl rfl (L' := #[.val (.int p0), .val (.long p1), .second, .val (.int p2), .val (.int p3), .val (.int (2 : Int32)), .val (.ref st_PMAX), .unset, .unset, .unset, .unset, .unset, .unset, .unset]) rfl ?_
    refine own_s_goto Xw2_51.here hx (hb hby at_47) (by decide) (pc' := 83) (by decide) ?_
    refine own_s_iload Xw2_51.here hx (hb hby at_83) (pc' := 85) rfl rfl ?_
    refine own_s_iconst Xw2_51.here hx (hb hby at_85) (pc' := 86) rfl (v := (3 : Int32)) (by decide) ?_
    refine own_s_icmpYes Xw2_51.here hx (hb hby at_86) (by decide) (pc' := 93) (by decide) (by decide) ?_
    refine own_s_iconst Xw2_51.here hx (hb hby at_93) (pc' := 94) rfl (v := (0 : Int32)) (by decide) ?_
    refine own_s_istore Xw2_51.here hx (hb hby at_94) (pc' := 96) rfl (L' := #[.val (.int p0), .val (.long p1), .second, .val (.int p2), .val (.int p3), .val (.int (2 : Int32)), .val (.ref st_PMAX), .val (.int (0 : Int32)), .unset, .unset, .unset, .unset, .unset, .unset]) rfl ?_
    refine own_s_iload Xw2_51.here hx (hb hby at_96) (pc' := 98) rfl rfl ?_
    refine own_s_bipush Xw2_51.here hx (hb hby at_98) (pc' := 100) rfl (v := (7 : Int32)) (by decide) ?_
    refine own_s_iand Xw2_51.here hx (hb hby at_100) (pc' := 101) rfl (v := (5 : Int32)) w2_5_hv100 ?_
    refine own_s_istore Xw2_51.here hx (hb hby at_101) (pc' := 103) rfl (L' := #[.val (.int p0), .val (.long p1), .second, .val (.int p2), .val (.int p3), .val (.int (2 : Int32)), .val (.ref st_PMAX), .val (.int (0 : Int32)), .val (.int (5 : Int32)), .unset, .unset, .unset, .unset, .unset]) rfl ?_
    refine own_s_iload Xw2_51.here hx (hb hby at_103) (pc' := 105) rfl rfl ?_
    refine own_s_iconst Xw2_51.here hx (hb hby at_105) (pc' := 106) rfl (v := (4 : Int32)) (by decide) ?_
    refine own_s_icmpYes Xw2_51.here hx (hb hby at_106) (by decide) (pc' := 121) (by decide) (by decide) ?_
    refine own_s_iload Xw2_51.here hx (hb hby at_121) (pc' := 123) rfl rfl ?_
    refine own_s_iconst Xw2_51.here hx (hb hby at_123) (pc' := 124) rfl (v := (5 : Int32)) (by decide) ?_
    refine own_s_icmpNo Xw2_51.here hx (hb hby at_124) (pc' := 127) rfl (by decide) ?_
    refine Xw2_51.ldc2DoubleC hx hown (mvT hZ (hw _ (List.mem_of_getElem? (i := 23) rfl))) (g := (mkF m 127 #[.val (.int p0), .val (.long p1), .second, .val (.int p2), .val (.int p3), .val (.int (2 : Int32)), .val (.ref st_PMAX), .val (.int (0 : Int32)), .val (.int (5 : Int32)), .unset, .unset, .unset, .unset, .unset] [])) rfl (hb hby at_127) _ ?_
    show Steps p.tables e below (Tw2_51.setTop (mkF m 130 #[.val (.int p0), .val (.long p1), .second, .val (.int p2), .val (.int p3), .val (.int (2 : Int32)), .val (.ref st_PMAX), .val (.int (0 : Int32)), .val (.int (5 : Int32)), .unset, .unset, .unset, .unset, .unset] [(.double (9218868437227405312 : UInt64))])) _
    refine own_s_dstore Xw2_51.here hx (hb hby at_130) (pc' := 132) rfl (L' := #[.val (.int p0), .val (.long p1), .second, .val (.int p2), .val (.int p3), .val (.int (2 : Int32)), .val (.ref st_PMAX), .val (.int (0 : Int32)), .val (.int (5 : Int32)), .val (.double (9218868437227405312 : UInt64)), .second, .unset, .unset, .unset]) rfl ?_
    refine own_s_iconst Xw2_51.here hx (hb hby at_132) (pc' := 133) rfl (v := (0 : Int32)) (by decide) ?_
    refine own_s_istore Xw2_51.here hx (hb hby at_133) (pc' := 135) rfl (L' := #[.val (.int p0), .val (.long p1), .second, .val (.int p2), .val (.int p3), .val (.int (2 : Int32)), .val (.ref st_PMAX), .val (.int (0 : Int32)), .val (.int (5 : Int32)), .val (.double (9218868437227405312 : UInt64)), .second, .val (.int (0 : Int32)), .unset, .unset]) rfl ?_
    refine own_s_goto Xw2_51.here hx (hb hby at_135) (by decide) (pc' := 215) (by decide) ?_
    refine own_s_aload Xw2_51.here hx (hb hby at_215) (pc' := 217) rfl rfl rfl ?_
    refine own_s_dload Xw2_51.here hx (hb hby at_217) (pc' := 219) rfl rfl ?_
    refine stw2_52.trans ?_
    show Steps p.tables e below (Tw2_52.setTop (mkF m 222 #[.val (.int p0), .val (.long p1), .second, .val (.int p2), .val (.int p3), .val (.int (2 : Int32)), .val (.ref st_PMAX), .val (.int (0 : Int32)), .val (.int (5 : Int32)), .val (.double (9218868437227405312 : UInt64)), .second, .val (.int (0 : Int32)), .unset, .unset] [(.int (0 : Int32))])) _
    refine own_s_iload Xw2_52.here hx (hb hby at_222) (pc' := 224) rfl rfl ?_
    refine own_s_icmpNo Xw2_52.here hx (hb hby at_224) (pc' := 227) rfl (by decide) ?_
    refine own_s_iconst Xw2_52.here hx (hb hby at_227) (pc' := 228) rfl (v := (1 : Int32)) (by decide) ?_
    refine own_s_goto Xw2_52.here hx (hb hby at_228) (by decide) (pc' := 232) (by decide) ?_
    exact retN Xw2_52 hx (t := .boolean) Bd.returns (by simp) (hb hby at_232) hr
  · show own_Q0 n0 _ Tw2_52.heap _
    rw [ew2_52]
    exact ⟨rfl, Nw2_52⟩
theorem own_ef_w2_6 (m : MethodId) (p0 : Int32) (p1 : Int64) (p2 : Int32) (p3 : Int32) : entryFrame m #[(.int p0), (.long p1), (.int p2), (.int p3)] maxLocals = mkF m 0 #[.val (.int p0), .val (.long p1), .second, .val (.int p2), .val (.int p3), .unset, .unset, .unset, .unset, .unset, .unset, .unset, .unset, .unset] [] := by first | (simp [entryFrame, mkF, argsToLocals, Value.category, maxLocals]; done) | rfl
set_option maxRecDepth 65536 in
set_option maxHeartbeats 40000000 in
theorem own_rm_w2_6 (l : Launch) (Z : State) (a0 : Array Value) (hw : ∀ d ∈ tables_1, d.before a0 Z = true) (ws : List Jvm.Cond) (p0 : Int32) (p1 : Int64) (p2 : Int32) (p3 : Int32) (st_PMAX : Addr) {w2_6_v3 : Int32} (h0 : Heap) (n0 : Nat) (Z0 : n0 ≤ h0.size) (E_st_PMAX : Exa Z h0 st_PMAX "com/example/libcredal/libcredal/checker/Query$Operator") (F_reward_st_PMAX : Fld Z h0 st_PMAX "com/example/libcredal/libcredal/checker/Query$Operator" "reward" "Z" (.int (0 : Int32))) (S_PMAX : Sta Z h0 "com/example/libcredal/libcredal/checker/Query$Operator" "PMAX" "Lcom/example/libcredal/libcredal/checker/Query$Operator;" (.ref st_PMAX)) (w2_6_hv3 : p0 &&& (2147483647 : Int32) = w2_6_v3) (w2_6_hv6 : w2_6_v3 % (6 : Int32) = (2 : Int32)) (w2_6_hv100 : p3 &&& (7 : Int32) = (6 : Int32)) (w2_6_c219_c0t_hb3 : ifCond.holds .lt (Op.cmpValue (FP.dcmp (18442240474082181120 : UInt64) 0) .l) = true) :
    MetFree l x (head1 (Jvm.Cond.code x code maxLocals ret :: ws) room_1) (fun a U => a = #[(.int p0), (.long p1), (.int p2), (.int p3)] ∧ Z.Warmed39 U.vm ∧ U.heap = h0) (fun _ _ _ _ _ => True) (fun _ U o U' => ∃ v L, o = .returned v ∧ own_Q0 n0 v U'.heap L ∧ FrameEnd U o U' L room_1.cells room_1.slots) := by
  refine MetFree.of_bodySF (plainFor_of_name own_pn_com_example_libcredal_libcredal_checker_OperatorAdmitsPinLaw) hisR ?_
  intro p e s m args below meth c s₁ Bd hml0 hP hK
  obtain ⟨rfl, hZ, hh⟩ := hP
  have hx := Bd.exec
  have hby := Bd.bytes
  have hml : c.maxLocals = 14 := hml0
  have hown : s.vm.findClass "com/example/libcredal/libcredal/checker/OperatorAdmitsPinLaw" = some m.cls := findClass_of_methodNamed Bd.named
  have hnm := (name_of_methodNamed Bd.named Bd.method).1
  have X0 : Stand p l e room_1 s m #[(.int p0), (.long p1), (.int p2), (.int p3)] below meth c s₁ [] 0 0 := Stand.of_body Bd
  have e0 : s₁.heap = h0 := by rw [← hh, Bd.state]; rfl
  have N0 := Fr.nil n0
  have pre0 : ∀ t, Steps p.tables e below (s₁.setTop (mkF m 0 #[.val (.int p0), .val (.long p1), .second, .val (.int p2), .val (.int p3), .unset, .unset, .unset, .unset, .unset, .unset, .unset, .unset, .unset] [])) t → Steps p.tables e below (s₁.setTop (entryFrame m #[(.int p0), (.long p1), (.int p2), (.int p3)] maxLocals)) t := fun t k => castTop (own_ef_w2_6 m p0 p1 p2 p3) k
  obtain ⟨Tw2_61, Xw2_61, ew2_61, stw2_61⟩ := getS2 X0 hx hZ hown (host := "") (Or.inl (hw _ (List.mem_of_getElem? (i := 15) rfl))) Via.refl e0 S_PMAX (g := (mkF m 42 #[.val (.int p0), .val (.long p1), .second, .val (.int p2), .val (.int p3), .val (.int (2 : Int32)), .unset, .unset, .unset, .unset, .unset, .unset, .unset, .unset] [])) rfl (hb hby at_42)
  obtain ⟨cqw2_62, kqw2_62, qw2_62a, qw2_62b, qw2_62c⟩ := isOf hZ ew2_61 E_st_PMAX
  obtain ⟨_, _, ⟨Tw2_62, Lw2_62, kw2_62, nw2_62⟩, -, Xw2_62, ⟨Lcw2_62, hQw2_62, lw2_62, yw2_62, zw2_62⟩, stw2_62⟩ := Xw2_61.virtualBack hx (y := (⟨"com/example/libcredal/libcredal/checker/Query$Operator", "admits", "(D)Z"⟩ : MethodName)) (z := (⟨"com/example/libcredal/libcredal/checker/Query$Operator", "admits", "(D)Z"⟩ : MethodName)) hown (mvT hZ (hw _ (List.mem_of_getElem? (i := 4) rfl))) (mvT hZ (hw _ (List.mem_of_getElem? (i := 5) rfl))) (notFace_of_selects (args := #[]) (mvT hZ (hw _ (List.mem_of_getElem? (i := 7) rfl)))) (mvT hZ (hw _ (List.mem_of_getElem? (i := 7) rfl))) (mvT hZ (hw _ (List.mem_of_getElem? (i := 6) rfl))) (by decide) (backOf (W := 0) (own_rm_c0t l Z a0 hw [] st_PMAX (18442240474082181120 : UInt64) h0 n0 Z0 E_st_PMAX F_reward_st_PMAX w2_6_c219_c0t_hb3) hZ (hw _ (List.mem_of_getElem? (i := 8) rfl)) (hw _ (List.mem_of_getElem? (i := 2) rfl)) (by decide) (by decide)) qw2_62a qw2_62c (g := (mkF m 219 #[.val (.int p0), .val (.long p1), .second, .val (.int p2), .val (.int p3), .val (.int (2 : Int32)), .val (.ref st_PMAX), .val (.int (0 : Int32)), .val (.int (6 : Int32)), .val (.double (18442240474082181120 : UInt64)), .second, .val (.int (0 : Int32)), .unset, .unset] [(.double (18442240474082181120 : UInt64)), (.ref st_PMAX)])) rfl (by rw [hml]; rfl) (Steps.refl _) (argsL := [(.double (18442240474082181120 : UInt64))]) (rest := []) (lenOf own_pd_28D29Z rfl) rfl (by show 2 * 0 + _ ≤ _; exact Nat.le_of_eq rfl) (hb hby at_219) (fun _ _ => ⟨rfl, ew2_61, (by decide : 0 + 0 ≤ _), (by decide : 0 + 0 ≤ _)⟩)
  dsimp only [Pt.U, Pt.locs, Pt.cells, Pt.slots] at Xw2_62 lw2_62 yw2_62 zw2_62 stw2_62 hQw2_62
  rw [lw2_62, yw2_62, zw2_62] at Xw2_62
  obtain ⟨rfl, Nw2_62q, ew2_62⟩ := hQw2_62
  have Nw2_62 := Fr.app N0 Nw2_62q
  obtain ⟨fs, hr, hrun, hended, hW, hsame⟩ := Xw2_62.leave (v := some (.int (1 : Int32))) (fun h => by rw [Bd.returns] at h; cases h)
  refine ⟨_, _, pre0 _ ?_, hrun, hended, _, _, rfl, ?_, ⟨_, rfl⟩, hW, hsame.mono (by decide) (by decide)⟩
  · refine own_s_iloadN X0.here hx (hb hby at_0) (pc' := 1) rfl rfl ?_
    refine X0.ldcInt hx hown (mvT hZ (hw _ (List.mem_of_getElem? (i := 0) rfl))) (g := (mkF m 1 #[.val (.int p0), .val (.long p1), .second, .val (.int p2), .val (.int p3), .unset, .unset, .unset, .unset, .unset, .unset, .unset, .unset, .unset] [(.int p0)])) rfl (hb hby at_1) _ ?_
    show Steps p.tables e below (s₁.setTop (mkF m 3 #[.val (.int p0), .val (.long p1), .second, .val (.int p2), .val (.int p3), .unset, .unset, .unset, .unset, .unset, .unset, .unset, .unset, .unset] [(.int (2147483647 : Int32)), (.int p0)])) _
    refine own_s_iand X0.here hx (hb hby at_3) (pc' := 4) rfl (v := w2_6_v3) w2_6_hv3 ?_
    refine own_s_bipush X0.here hx (hb hby at_4) (pc' := 6) rfl (v := (6 : Int32)) (by decide) ?_
    refine own_s_irem X0.here hx (hb hby at_6) (pc' := 7) rfl (by decide) (v := (2 : Int32)) w2_6_hv6 ?_
    refine own_s_istore X0.here hx (hb hby at_7) (pc' := 9) rfl (L' := #[.val (.int p0), .val (.long p1), .second, .val (.int p2), .val (.int p3), .val (.int (2 : Int32)), .unset, .unset, .unset, .unset, .unset, .unset, .unset, .unset]) rfl ?_
    refine own_s_iload X0.here hx (hb hby at_9) (pc' := 11) rfl rfl ?_
    refine own_s_ifYes X0.here hx (hb hby at_11) (by decide) (pc' := 22) (by decide) (by decide) ?_
    refine own_s_iload X0.here hx (hb hby at_22) (pc' := 24) rfl rfl ?_
    refine own_s_iconst X0.here hx (hb hby at_24) (pc' := 25) rfl (v := (1 : Int32)) (by decide) ?_
    refine own_s_icmpYes X0.here hx (hb hby at_25) (by decide) (pc' := 36) (by decide) (by decide) ?_
    refine own_s_iload X0.here hx (hb hby at_36) (pc' := 38) rfl rfl ?_
    refine own_s_iconst X0.here hx (hb hby at_38) (pc' := 39) rfl (v := (2 : Int32)) (by decide) ?_
    refine own_s_icmpNo X0.here hx (hb hby at_39) (pc' := 42) rfl (by decide) ?_
    refine stw2_61 _ ?_
    show Steps p.tables e below (Tw2_61.setTop (mkF m 45 #[.val (.int p0), .val (.long p1), .second, .val (.int p2), .val (.int p3), .val (.int (2 : Int32)), .unset, .unset, .unset, .unset, .unset, .unset, .unset, .unset] [(.ref st_PMAX)])) _
    refine own_s_astore Xw2_61.here hx (hb hby at_45) (pc' := 47) rfl rfl (L' := #[.val (.int p0), .val (.long p1), .second, .val (.int p2), .val (.int p3), .val (.int (2 : Int32)), .val (.ref st_PMAX), .unset, .unset, .unset, .unset, .unset, .unset, .unset]) rfl ?_
    refine own_s_goto Xw2_61.here hx (hb hby at_47) (by decide) (pc' := 83) (by decide) ?_
    refine own_s_iload Xw2_61.here hx (hb hby at_83) (pc' := 85) rfl rfl ?_
    refine own_s_iconst Xw2_61.here hx (hb hby at_85) (pc' := 86) rfl (v := (3 : Int32)) (by decide) ?_
    refine own_s_icmpYes Xw2_61.here hx (hb hby at_86) (by decide) (pc' := 93) (by decide) (by decide) ?_
    refine own_s_iconst Xw2_61.here hx (hb hby at_93) (pc' := 94) rfl (v := (0 : Int32)) (by decide) ?_
    refine own_s_istore Xw2_61.here hx (hb hby at_94) (pc' := 96) rfl (L' := #[.val (.int p0), .val (.long p1), .second, .val (.int p2), .val (.int p3), .val (.int (2 : Int32)), .val (.ref st_PMAX), .val (.int (0 : Int32)), .unset, .unset, .unset, .unset, .unset, .unset]) rfl ?_
    refine own_s_iload Xw2_61.here hx (hb hby at_96) (pc' := 98) rfl rfl ?_
    refine own_s_bipush Xw2_61.here hx (hb hby at_98) (pc' := 100) rfl (v := (7 : Int32)) (by decide) ?_
    refine own_s_iand Xw2_61.here hx (hb hby at_100) (pc' := 101) rfl (v := (6 : Int32)) w2_6_hv100 ?_
    refine own_s_istore Xw2_61.here hx (hb hby at_101) (pc' := 103) rfl (L' := #[.val (.int p0), .val (.long p1), .second, .val (.int p2), .val (.int p3), .val (.int (2 : Int32)), .val (.ref st_PMAX), .val (.int (0 : Int32)), .val (.int (6 : Int32)), .unset, .unset, .unset, .unset, .unset]) rfl ?_
    refine own_s_iload Xw2_61.here hx (hb hby at_103) (pc' := 105) rfl rfl ?_
    refine own_s_iconst Xw2_61.here hx (hb hby at_105) (pc' := 106) rfl (v := (4 : Int32)) (by decide) ?_
    refine own_s_icmpYes Xw2_61.here hx (hb hby at_106) (by decide) (pc' := 121) (by decide) (by decide) ?_
    refine own_s_iload Xw2_61.here hx (hb hby at_121) (pc' := 123) rfl rfl ?_
    refine own_s_iconst Xw2_61.here hx (hb hby at_123) (pc' := 124) rfl (v := (5 : Int32)) (by decide) ?_
    refine own_s_icmpYes Xw2_61.here hx (hb hby at_124) (by decide) (pc' := 138) (by decide) (by decide) ?_
    refine own_s_iload Xw2_61.here hx (hb hby at_138) (pc' := 140) rfl rfl ?_
    refine own_s_bipush Xw2_61.here hx (hb hby at_140) (pc' := 142) rfl (v := (6 : Int32)) (by decide) ?_
    refine own_s_icmpNo Xw2_61.here hx (hb hby at_142) (pc' := 145) rfl (by decide) ?_
    refine Xw2_61.ldc2DoubleC hx hown (mvT hZ (hw _ (List.mem_of_getElem? (i := 20) rfl))) (g := (mkF m 145 #[.val (.int p0), .val (.long p1), .second, .val (.int p2), .val (.int p3), .val (.int (2 : Int32)), .val (.ref st_PMAX), .val (.int (0 : Int32)), .val (.int (6 : Int32)), .unset, .unset, .unset, .unset, .unset] [])) rfl (hb hby at_145) _ ?_
    show Steps p.tables e below (Tw2_61.setTop (mkF m 148 #[.val (.int p0), .val (.long p1), .second, .val (.int p2), .val (.int p3), .val (.int (2 : Int32)), .val (.ref st_PMAX), .val (.int (0 : Int32)), .val (.int (6 : Int32)), .unset, .unset, .unset, .unset, .unset] [(.double (18442240474082181120 : UInt64))])) _
    refine own_s_dstore Xw2_61.here hx (hb hby at_148) (pc' := 150) rfl (L' := #[.val (.int p0), .val (.long p1), .second, .val (.int p2), .val (.int p3), .val (.int (2 : Int32)), .val (.ref st_PMAX), .val (.int (0 : Int32)), .val (.int (6 : Int32)), .val (.double (18442240474082181120 : UInt64)), .second, .unset, .unset, .unset]) rfl ?_
    refine own_s_iconst Xw2_61.here hx (hb hby at_150) (pc' := 151) rfl (v := (0 : Int32)) (by decide) ?_
    refine own_s_istore Xw2_61.here hx (hb hby at_151) (pc' := 153) rfl (L' := #[.val (.int p0), .val (.long p1), .second, .val (.int p2), .val (.int p3), .val (.int (2 : Int32)), .val (.ref st_PMAX), .val (.int (0 : Int32)), .val (.int (6 : Int32)), .val (.double (18442240474082181120 : UInt64)), .second, .val (.int (0 : Int32)), .unset, .unset]) rfl ?_
    refine own_s_goto Xw2_61.here hx (hb hby at_153) (by decide) (pc' := 215) (by decide) ?_
    refine own_s_aload Xw2_61.here hx (hb hby at_215) (pc' := 217) rfl rfl rfl ?_
    refine own_s_dload Xw2_61.here hx (hb hby at_217) (pc' := 219) rfl rfl ?_
    refine stw2_62.trans ?_
    show Steps p.tables e below (Tw2_62.setTop (mkF m 222 #[.val (.int p0), .val (.long p1), .second, .val (.int p2), .val (.int p3), .val (.int (2 : Int32)), .val (.ref st_PMAX), .val (.int (0 : Int32)), .val (.int (6 : Int32)), .val (.double (18442240474082181120 : UInt64)), .second, .val (.int (0 : Int32)), .unset, .unset] [(.int (0 : Int32))])) _
    refine own_s_iload Xw2_62.here hx (hb hby at_222) (pc' := 224) rfl rfl ?_
    refine own_s_icmpNo Xw2_62.here hx (hb hby at_224) (pc' := 227) rfl (by decide) ?_
    refine own_s_iconst Xw2_62.here hx (hb hby at_227) (pc' := 228) rfl (v := (1 : Int32)) (by decide) ?_
    refine own_s_goto Xw2_62.here hx (hb hby at_228) (by decide) (pc' := 232) (by decide) ?_
    exact retN Xw2_62 hx (t := .boolean) Bd.returns (by simp) (hb hby at_232) hr
  · show own_Q0 n0 _ Tw2_62.heap _
    rw [ew2_62]
    exact ⟨rfl, Nw2_62⟩
theorem own_ef_w2_7 (m : MethodId) (p0 : Int32) (p1 : Int64) (p2 : Int32) (p3 : Int32) : entryFrame m #[(.int p0), (.long p1), (.int p2), (.int p3)] maxLocals = mkF m 0 #[.val (.int p0), .val (.long p1), .second, .val (.int p2), .val (.int p3), .unset, .unset, .unset, .unset, .unset, .unset, .unset, .unset, .unset] [] := by first | (simp [entryFrame, mkF, argsToLocals, Value.category, maxLocals]; done) | rfl
set_option maxRecDepth 65536 in
set_option maxHeartbeats 40000000 in
theorem own_rm_w2_7 (l : Launch) (Z : State) (a0 : Array Value) (hw : ∀ d ∈ tables_1, d.before a0 Z = true) (ws : List Jvm.Cond) (p0 : Int32) (p1 : Int64) (p2 : Int32) (p3 : Int32) (st_PMAX : Addr) {w2_7_v3 : Int32} (h0 : Heap) (n0 : Nat) (Z0 : n0 ≤ h0.size) (E_st_PMAX : Exa Z h0 st_PMAX "com/example/libcredal/libcredal/checker/Query$Operator") (F_reward_st_PMAX : Fld Z h0 st_PMAX "com/example/libcredal/libcredal/checker/Query$Operator" "reward" "Z" (.int (0 : Int32))) (S_PMAX : Sta Z h0 "com/example/libcredal/libcredal/checker/Query$Operator" "PMAX" "Lcom/example/libcredal/libcredal/checker/Query$Operator;" (.ref st_PMAX)) (w2_7_hv3 : p0 &&& (2147483647 : Int32) = w2_7_v3) (w2_7_hv6 : w2_7_v3 % (6 : Int32) = (2 : Int32)) (w2_7_hv100 : p3 &&& (7 : Int32) = (7 : Int32)) (w2_7_c219_c0ff_hb3 : ifCond.holds .lt (Op.cmpValue (FP.dcmp (9223372036854775808 : UInt64) 0) .l) = false) (w2_7_c219_c0ff_hb22 : ifCond.holds .gt (Op.cmpValue (FP.dcmp (9223372036854775808 : UInt64) 4607182418800017408) .g) = false) :
    MetFree l x (head1 (Jvm.Cond.code x code maxLocals ret :: ws) room_1) (fun a U => a = #[(.int p0), (.long p1), (.int p2), (.int p3)] ∧ Z.Warmed39 U.vm ∧ U.heap = h0) (fun _ _ _ _ _ => True) (fun _ U o U' => ∃ v L, o = .returned v ∧ own_Q0 n0 v U'.heap L ∧ FrameEnd U o U' L room_1.cells room_1.slots) := by
  refine MetFree.of_bodySF (plainFor_of_name own_pn_com_example_libcredal_libcredal_checker_OperatorAdmitsPinLaw) hisR ?_
  intro p e s m args below meth c s₁ Bd hml0 hP hK
  obtain ⟨rfl, hZ, hh⟩ := hP
  have hx := Bd.exec
  have hby := Bd.bytes
  have hml : c.maxLocals = 14 := hml0
  have hown : s.vm.findClass "com/example/libcredal/libcredal/checker/OperatorAdmitsPinLaw" = some m.cls := findClass_of_methodNamed Bd.named
  have hnm := (name_of_methodNamed Bd.named Bd.method).1
  have X0 : Stand p l e room_1 s m #[(.int p0), (.long p1), (.int p2), (.int p3)] below meth c s₁ [] 0 0 := Stand.of_body Bd
  have e0 : s₁.heap = h0 := by rw [← hh, Bd.state]; rfl
  have N0 := Fr.nil n0
  have pre0 : ∀ t, Steps p.tables e below (s₁.setTop (mkF m 0 #[.val (.int p0), .val (.long p1), .second, .val (.int p2), .val (.int p3), .unset, .unset, .unset, .unset, .unset, .unset, .unset, .unset, .unset] [])) t → Steps p.tables e below (s₁.setTop (entryFrame m #[(.int p0), (.long p1), (.int p2), (.int p3)] maxLocals)) t := fun t k => castTop (own_ef_w2_7 m p0 p1 p2 p3) k
  obtain ⟨Tw2_71, Xw2_71, ew2_71, stw2_71⟩ := getS2 X0 hx hZ hown (host := "") (Or.inl (hw _ (List.mem_of_getElem? (i := 15) rfl))) Via.refl e0 S_PMAX (g := (mkF m 42 #[.val (.int p0), .val (.long p1), .second, .val (.int p2), .val (.int p3), .val (.int (2 : Int32)), .unset, .unset, .unset, .unset, .unset, .unset, .unset, .unset] [])) rfl (hb hby at_42)
  obtain ⟨cqw2_72, kqw2_72, qw2_72a, qw2_72b, qw2_72c⟩ := isOf hZ ew2_71 E_st_PMAX
  obtain ⟨_, _, ⟨Tw2_72, Lw2_72, kw2_72, nw2_72⟩, -, Xw2_72, ⟨Lcw2_72, hQw2_72, lw2_72, yw2_72, zw2_72⟩, stw2_72⟩ := Xw2_71.virtualBack hx (y := (⟨"com/example/libcredal/libcredal/checker/Query$Operator", "admits", "(D)Z"⟩ : MethodName)) (z := (⟨"com/example/libcredal/libcredal/checker/Query$Operator", "admits", "(D)Z"⟩ : MethodName)) hown (mvT hZ (hw _ (List.mem_of_getElem? (i := 4) rfl))) (mvT hZ (hw _ (List.mem_of_getElem? (i := 5) rfl))) (notFace_of_selects (args := #[]) (mvT hZ (hw _ (List.mem_of_getElem? (i := 7) rfl)))) (mvT hZ (hw _ (List.mem_of_getElem? (i := 7) rfl))) (mvT hZ (hw _ (List.mem_of_getElem? (i := 6) rfl))) (by decide) (backOf (W := 0) (own_rm_c0ff l Z a0 hw [] st_PMAX (9223372036854775808 : UInt64) h0 n0 Z0 E_st_PMAX F_reward_st_PMAX w2_7_c219_c0ff_hb3 w2_7_c219_c0ff_hb22) hZ (hw _ (List.mem_of_getElem? (i := 8) rfl)) (hw _ (List.mem_of_getElem? (i := 2) rfl)) (by decide) (by decide)) qw2_72a qw2_72c (g := (mkF m 219 #[.val (.int p0), .val (.long p1), .second, .val (.int p2), .val (.int p3), .val (.int (2 : Int32)), .val (.ref st_PMAX), .val (.int (0 : Int32)), .val (.int (7 : Int32)), .val (.double (9223372036854775808 : UInt64)), .second, .val (.int (1 : Int32)), .unset, .unset] [(.double (9223372036854775808 : UInt64)), (.ref st_PMAX)])) rfl (by rw [hml]; rfl) (Steps.refl _) (argsL := [(.double (9223372036854775808 : UInt64))]) (rest := []) (lenOf own_pd_28D29Z rfl) rfl (by show 2 * 0 + _ ≤ _; exact Nat.le_of_eq rfl) (hb hby at_219) (fun _ _ => ⟨rfl, ew2_71, (by decide : 0 + 0 ≤ _), (by decide : 0 + 0 ≤ _)⟩)
  dsimp only [Pt.U, Pt.locs, Pt.cells, Pt.slots] at Xw2_72 lw2_72 yw2_72 zw2_72 stw2_72 hQw2_72
  rw [lw2_72, yw2_72, zw2_72] at Xw2_72
  obtain ⟨rfl, Nw2_72q, ew2_72⟩ := hQw2_72
  have Nw2_72 := Fr.app N0 Nw2_72q
  obtain ⟨fs, hr, hrun, hended, hW, hsame⟩ := Xw2_72.leave (v := some (.int (1 : Int32))) (fun h => by rw [Bd.returns] at h; cases h)
  refine ⟨_, _, pre0 _ ?_, hrun, hended, _, _, rfl, ?_, ⟨_, rfl⟩, hW, hsame.mono (by decide) (by decide)⟩
  · refine own_s_iloadN X0.here hx (hb hby at_0) (pc' := 1) rfl rfl ?_
    refine X0.ldcInt hx hown (mvT hZ (hw _ (List.mem_of_getElem? (i := 0) rfl))) (g := (mkF m 1 #[.val (.int p0), .val (.long p1), .second, .val (.int p2), .val (.int p3), .unset, .unset, .unset, .unset, .unset, .unset, .unset, .unset, .unset] [(.int p0)])) rfl (hb hby at_1) _ ?_
    show Steps p.tables e below (s₁.setTop (mkF m 3 #[.val (.int p0), .val (.long p1), .second, .val (.int p2), .val (.int p3), .unset, .unset, .unset, .unset, .unset, .unset, .unset, .unset, .unset] [(.int (2147483647 : Int32)), (.int p0)])) _
    refine own_s_iand X0.here hx (hb hby at_3) (pc' := 4) rfl (v := w2_7_v3) w2_7_hv3 ?_
    refine own_s_bipush X0.here hx (hb hby at_4) (pc' := 6) rfl (v := (6 : Int32)) (by decide) ?_
    refine own_s_irem X0.here hx (hb hby at_6) (pc' := 7) rfl (by decide) (v := (2 : Int32)) w2_7_hv6 ?_
    refine own_s_istore X0.here hx (hb hby at_7) (pc' := 9) rfl (L' := #[.val (.int p0), .val (.long p1), .second, .val (.int p2), .val (.int p3), .val (.int (2 : Int32)), .unset, .unset, .unset, .unset, .unset, .unset, .unset, .unset]) rfl ?_
    refine own_s_iload X0.here hx (hb hby at_9) (pc' := 11) rfl rfl ?_
    refine own_s_ifYes X0.here hx (hb hby at_11) (by decide) (pc' := 22) (by decide) (by decide) ?_
    refine own_s_iload X0.here hx (hb hby at_22) (pc' := 24) rfl rfl ?_
    refine own_s_iconst X0.here hx (hb hby at_24) (pc' := 25) rfl (v := (1 : Int32)) (by decide) ?_
    refine own_s_icmpYes X0.here hx (hb hby at_25) (by decide) (pc' := 36) (by decide) (by decide) ?_
    refine own_s_iload X0.here hx (hb hby at_36) (pc' := 38) rfl rfl ?_
    refine own_s_iconst X0.here hx (hb hby at_38) (pc' := 39) rfl (v := (2 : Int32)) (by decide) ?_
    refine own_s_icmpNo X0.here hx (hb hby at_39) (pc' := 42) rfl (by decide) ?_
    refine stw2_71 _ ?_
    show Steps p.tables e below (Tw2_71.setTop (mkF m 45 #[.val (.int p0), .val (.long p1), .second, .val (.int p2), .val (.int p3), .val (.int (2 : Int32)), .unset, .unset, .unset, .unset, .unset, .unset, .unset, .unset] [(.ref st_PMAX)])) _
    refine own_s_astore Xw2_71.here hx (hb hby at_45) (pc' := 47) rfl rfl (L' := #[.val (.int p0), .val (.long p1), .second, .val (.int p2), .val (.int p3), .val (.int (2 : Int32)), .val (.ref st_PMAX), .unset, .unset, .unset, .unset, .unset, .unset, .unset]) rfl ?_
    refine own_s_goto Xw2_71.here hx (hb hby at_47) (by decide) (pc' := 83) (by decide) ?_
    refine own_s_iload Xw2_71.here hx (hb hby at_83) (pc' := 85) rfl rfl ?_
    refine own_s_iconst Xw2_71.here hx (hb hby at_85) (pc' := 86) rfl (v := (3 : Int32)) (by decide) ?_
    refine own_s_icmpYes Xw2_71.here hx (hb hby at_86) (by decide) (pc' := 93) (by decide) (by decide) ?_
    refine own_s_iconst Xw2_71.here hx (hb hby at_93) (pc' := 94) rfl (v := (0 : Int32)) (by decide) ?_
    refine own_s_istore Xw2_71.here hx (hb hby at_94) (pc' := 96) rfl (L' := #[.val (.int p0), .val (.long p1), .second, .val (.int p2), .val (.int p3), .val (.int (2 : Int32)), .val (.ref st_PMAX), .val (.int (0 : Int32)), .unset, .unset, .unset, .unset, .unset, .unset]) rfl ?_
    refine own_s_iload Xw2_71.here hx (hb hby at_96) (pc' := 98) rfl rfl ?_
    refine own_s_bipush Xw2_71.here hx (hb hby at_98) (pc' := 100) rfl (v := (7 : Int32)) (by decide) ?_
    refine own_s_iand Xw2_71.here hx (hb hby at_100) (pc' := 101) rfl (v := (7 : Int32)) w2_7_hv100 ?_
    refine own_s_istore Xw2_71.here hx (hb hby at_101) (pc' := 103) rfl (L' := #[.val (.int p0), .val (.long p1), .second, .val (.int p2), .val (.int p3), .val (.int (2 : Int32)), .val (.ref st_PMAX), .val (.int (0 : Int32)), .val (.int (7 : Int32)), .unset, .unset, .unset, .unset, .unset]) rfl ?_
    refine own_s_iload Xw2_71.here hx (hb hby at_103) (pc' := 105) rfl rfl ?_
    refine own_s_iconst Xw2_71.here hx (hb hby at_105) (pc' := 106) rfl (v := (4 : Int32)) (by decide) ?_
    refine own_s_icmpYes Xw2_71.here hx (hb hby at_106) (by decide) (pc' := 121) (by decide) (by decide) ?_
    refine own_s_iload Xw2_71.here hx (hb hby at_121) (pc' := 123) rfl rfl ?_
    refine own_s_iconst Xw2_71.here hx (hb hby at_123) (pc' := 124) rfl (v := (5 : Int32)) (by decide) ?_
    refine own_s_icmpYes Xw2_71.here hx (hb hby at_124) (by decide) (pc' := 138) (by decide) (by decide) ?_
    refine own_s_iload Xw2_71.here hx (hb hby at_138) (pc' := 140) rfl rfl ?_
    refine own_s_bipush Xw2_71.here hx (hb hby at_140) (pc' := 142) rfl (v := (6 : Int32)) (by decide) ?_
    refine own_s_icmpYes Xw2_71.here hx (hb hby at_142) (by decide) (pc' := 156) (by decide) (by decide) ?_
    refine own_s_iload Xw2_71.here hx (hb hby at_156) (pc' := 158) rfl rfl ?_
    refine own_s_bipush Xw2_71.here hx (hb hby at_158) (pc' := 160) rfl (v := (7 : Int32)) (by decide) ?_
    refine own_s_icmpNo Xw2_71.here hx (hb hby at_160) (pc' := 163) rfl (by decide) ?_
    refine Xw2_71.ldc2DoubleC hx hown (mvT hZ (hw _ (List.mem_of_getElem? (i := 13) rfl))) (g := (mkF m 163 #[.val (.int p0), .val (.long p1), .second, .val (.int p2), .val (.int p3), .val (.int (2 : Int32)), .val (.ref st_PMAX), .val (.int (0 : Int32)), .val (.int (7 : Int32)), .unset, .unset, .unset, .unset, .unset] [])) rfl (hb hby at_163) _ ?_
    show Steps p.tables e below (Tw2_71.setTop (mkF m 166 #[.val (.int p0), .val (.long p1), .second, .val (.int p2), .val (.int p3), .val (.int (2 : Int32)), .val (.ref st_PMAX), .val (.int (0 : Int32)), .val (.int (7 : Int32)), .unset, .unset, .unset, .unset, .unset] [(.double (9223372036854775808 : UInt64))])) _
    refine own_s_dstore Xw2_71.here hx (hb hby at_166) (pc' := 168) rfl (L' := #[.val (.int p0), .val (.long p1), .second, .val (.int p2), .val (.int p3), .val (.int (2 : Int32)), .val (.ref st_PMAX), .val (.int (0 : Int32)), .val (.int (7 : Int32)), .val (.double (9223372036854775808 : UInt64)), .second, .unset, .unset, .unset]) rfl ?_
    refine own_s_iconst Xw2_71.here hx (hb hby at_168) (pc' := 169) rfl (v := (1 : Int32)) (by decide) ?_
    refine own_s_istore Xw2_71.here hx (hb hby at_169) (pc' := 171) rfl (L' := #[.val (.int p0), .val (.long p1), .second, .val (.int p2), .val (.int p3), .val (.int (2 : Int32)), .val (.ref st_PMAX), .val (.int (0 : Int32)), .val (.int (7 : Int32)), .val (.double (9223372036854775808 : UInt64)), .second, .val (.int (1 : Int32)), .unset, .unset]) rfl ?_
    refine own_s_goto Xw2_71.here hx (hb hby at_171) (by decide) (pc' := 215) (by decide) ?_
    refine own_s_aload Xw2_71.here hx (hb hby at_215) (pc' := 217) rfl rfl rfl ?_
    refine own_s_dload Xw2_71.here hx (hb hby at_217) (pc' := 219) rfl rfl ?_
    refine stw2_72.trans ?_
    show Steps p.tables e below (Tw2_72.setTop (mkF m 222 #[.val (.int p0), .val (.long p1), .second, .val (.int p2), .val (.int p3), .val (.int (2 : Int32)), .val (.ref st_PMAX), .val (.int (0 : Int32)), .val (.int (7 : Int32)), .val (.double (9223372036854775808 : UInt64)), .second, .val (.int (1 : Int32)), .unset, .unset] [(.int (1 : Int32))])) _
    refine own_s_iload Xw2_72.here hx (hb hby at_222) (pc' := 224) rfl rfl ?_
    refine own_s_icmpNo Xw2_72.here hx (hb hby at_224) (pc' := 227) rfl (by decide) ?_
    refine own_s_iconst Xw2_72.here hx (hb hby at_227) (pc' := 228) rfl (v := (1 : Int32)) (by decide) ?_
    refine own_s_goto Xw2_72.here hx (hb hby at_228) (by decide) (pc' := 232) (by decide) ?_
    exact retN Xw2_72 hx (t := .boolean) Bd.returns (by simp) (hb hby at_232) hr
  · show own_Q0 n0 _ Tw2_72.heap _
    rw [ew2_72]
    exact ⟨rfl, Nw2_72⟩
theorem own_ef_w2_n (m : MethodId) (p0 : Int32) (p1 : Int64) (p2 : Int32) (p3 : Int32) : entryFrame m #[(.int p0), (.long p1), (.int p2), (.int p3)] maxLocals = mkF m 0 #[.val (.int p0), .val (.long p1), .second, .val (.int p2), .val (.int p3), .unset, .unset, .unset, .unset, .unset, .unset, .unset, .unset, .unset] [] := by first | (simp [entryFrame, mkF, argsToLocals, Value.category, maxLocals]; done) | rfl
set_option maxRecDepth 65536 in
set_option maxHeartbeats 40000000 in
theorem own_rm_w2_n (l : Launch) (Z : State) (a0 : Array Value) (hw : ∀ d ∈ tables_1, d.before a0 Z = true) (ws : List Jvm.Cond) (p0 : Int32) (p1 : Int64) (p2 : Int32) (p3 : Int32) (st_PMAX : Addr) {w2_n_v3 : Int32} {w2_n_v100 : Int32} {w2_n_v178 : Int32} {w2_n_v179 : Int64} {w2_n_v187 : UInt64} (h0 : Heap) (n0 : Nat) (Z0 : n0 ≤ h0.size) (E_st_PMAX : Exa Z h0 st_PMAX "com/example/libcredal/libcredal/checker/Query$Operator") (F_reward_st_PMAX : Fld Z h0 st_PMAX "com/example/libcredal/libcredal/checker/Query$Operator" "reward" "Z" (.int (0 : Int32))) (S_PMAX : Sta Z h0 "com/example/libcredal/libcredal/checker/Query$Operator" "PMAX" "Lcom/example/libcredal/libcredal/checker/Query$Operator;" (.ref st_PMAX)) (w2_n_hv3 : p0 &&& (2147483647 : Int32) = w2_n_v3) (w2_n_hv6 : w2_n_v3 % (6 : Int32) = (2 : Int32)) (w2_n_hv100 : p3 &&& (7 : Int32) = w2_n_v100) (w2_n_hb106 : if_icmp.holds .ne w2_n_v100 (4 : Int32) = true) (w2_n_hb124 : if_icmp.holds .ne w2_n_v100 (5 : Int32) = true) (w2_n_hb142 : if_icmp.holds .ne w2_n_v100 (6 : Int32) = true) (w2_n_hb160 : if_icmp.holds .ne w2_n_v100 (7 : Int32) = true) (w2_n_hv178 : p2 &&& (31 : Int32) = w2_n_v178) (w2_n_hv179 : (1 : Int64) <<< (w2_n_v178 &&& 63).toInt64 = w2_n_v179) (w2_n_hn187 : Jvm.Free.Fl.NoNaN64 (FP.ddiv (FP.l2d p1) (FP.l2d w2_n_v179))) (w2_n_hv187 : FP.ddiv (FP.l2d p1) (FP.l2d w2_n_v179) = w2_n_v187) (w2_n_hb193 : ifCond.holds .lt (lcmpW p1 (0 : Int64)) = true) (w2_n_c219_c0t_hb3 : ifCond.holds .lt (Op.cmpValue (FP.dcmp w2_n_v187 0) .l) = true) :
    MetFree l x (head1 (Jvm.Cond.code x code maxLocals ret :: ws) room_1) (fun a U => a = #[(.int p0), (.long p1), (.int p2), (.int p3)] ∧ Z.Warmed39 U.vm ∧ U.heap = h0) (fun _ _ _ _ _ => True) (fun _ U o U' => ∃ v L, o = .returned v ∧ own_Q0 n0 v U'.heap L ∧ FrameEnd U o U' L room_1.cells room_1.slots) := by
  refine MetFree.of_bodySF (plainFor_of_name own_pn_com_example_libcredal_libcredal_checker_OperatorAdmitsPinLaw) hisR ?_
  intro p e s m args below meth c s₁ Bd hml0 hP hK
  obtain ⟨rfl, hZ, hh⟩ := hP
  have hx := Bd.exec
  have hby := Bd.bytes
  have hml : c.maxLocals = 14 := hml0
  have hown : s.vm.findClass "com/example/libcredal/libcredal/checker/OperatorAdmitsPinLaw" = some m.cls := findClass_of_methodNamed Bd.named
  have hnm := (name_of_methodNamed Bd.named Bd.method).1
  have X0 : Stand p l e room_1 s m #[(.int p0), (.long p1), (.int p2), (.int p3)] below meth c s₁ [] 0 0 := Stand.of_body Bd
  have e0 : s₁.heap = h0 := by rw [← hh, Bd.state]; rfl
  have N0 := Fr.nil n0
  have pre0 : ∀ t, Steps p.tables e below (s₁.setTop (mkF m 0 #[.val (.int p0), .val (.long p1), .second, .val (.int p2), .val (.int p3), .unset, .unset, .unset, .unset, .unset, .unset, .unset, .unset, .unset] [])) t → Steps p.tables e below (s₁.setTop (entryFrame m #[(.int p0), (.long p1), (.int p2), (.int p3)] maxLocals)) t := fun t k => castTop (own_ef_w2_n m p0 p1 p2 p3) k
  obtain ⟨Tw2_n1, Xw2_n1, ew2_n1, stw2_n1⟩ := getS2 X0 hx hZ hown (host := "") (Or.inl (hw _ (List.mem_of_getElem? (i := 15) rfl))) Via.refl e0 S_PMAX (g := (mkF m 42 #[.val (.int p0), .val (.long p1), .second, .val (.int p2), .val (.int p3), .val (.int (2 : Int32)), .unset, .unset, .unset, .unset, .unset, .unset, .unset, .unset] [])) rfl (hb hby at_42)
  obtain ⟨cqw2_n2, kqw2_n2, qw2_n2a, qw2_n2b, qw2_n2c⟩ := isOf hZ ew2_n1 E_st_PMAX
  obtain ⟨_, _, ⟨Tw2_n2, Lw2_n2, kw2_n2, nw2_n2⟩, -, Xw2_n2, ⟨Lcw2_n2, hQw2_n2, lw2_n2, yw2_n2, zw2_n2⟩, stw2_n2⟩ := Xw2_n1.virtualBack hx (y := (⟨"com/example/libcredal/libcredal/checker/Query$Operator", "admits", "(D)Z"⟩ : MethodName)) (z := (⟨"com/example/libcredal/libcredal/checker/Query$Operator", "admits", "(D)Z"⟩ : MethodName)) hown (mvT hZ (hw _ (List.mem_of_getElem? (i := 4) rfl))) (mvT hZ (hw _ (List.mem_of_getElem? (i := 5) rfl))) (notFace_of_selects (args := #[]) (mvT hZ (hw _ (List.mem_of_getElem? (i := 7) rfl)))) (mvT hZ (hw _ (List.mem_of_getElem? (i := 7) rfl))) (mvT hZ (hw _ (List.mem_of_getElem? (i := 6) rfl))) (by decide) (backOf (W := 0) (own_rm_c0t l Z a0 hw [] st_PMAX w2_n_v187 h0 n0 Z0 E_st_PMAX F_reward_st_PMAX w2_n_c219_c0t_hb3) hZ (hw _ (List.mem_of_getElem? (i := 8) rfl)) (hw _ (List.mem_of_getElem? (i := 2) rfl)) (by decide) (by decide)) qw2_n2a qw2_n2c (g := (mkF m 219 #[.val (.int p0), .val (.long p1), .second, .val (.int p2), .val (.int p3), .val (.int (2 : Int32)), .val (.ref st_PMAX), .val (.int (0 : Int32)), .val (.int w2_n_v100), .val (.double w2_n_v187), .second, .val (.int (0 : Int32)), .val (.long w2_n_v179), .second] [(.double w2_n_v187), (.ref st_PMAX)])) rfl (by rw [hml]; rfl) (Steps.refl _) (argsL := [(.double w2_n_v187)]) (rest := []) (lenOf own_pd_28D29Z rfl) rfl (by show 2 * 0 + _ ≤ _; exact Nat.le_of_eq rfl) (hb hby at_219) (fun _ _ => ⟨rfl, ew2_n1, (by decide : 0 + 0 ≤ _), (by decide : 0 + 0 ≤ _)⟩)
  dsimp only [Pt.U, Pt.locs, Pt.cells, Pt.slots] at Xw2_n2 lw2_n2 yw2_n2 zw2_n2 stw2_n2 hQw2_n2
  rw [lw2_n2, yw2_n2, zw2_n2] at Xw2_n2
  obtain ⟨rfl, Nw2_n2q, ew2_n2⟩ := hQw2_n2
  have Nw2_n2 := Fr.app N0 Nw2_n2q
  obtain ⟨fs, hr, hrun, hended, hW, hsame⟩ := Xw2_n2.leave (v := some (.int (1 : Int32))) (fun h => by rw [Bd.returns] at h; cases h)
  refine ⟨_, _, pre0 _ ?_, hrun, hended, _, _, rfl, ?_, ⟨_, rfl⟩, hW, hsame.mono (by decide) (by decide)⟩
  · refine own_s_iloadN X0.here hx (hb hby at_0) (pc' := 1) rfl rfl ?_
    refine X0.ldcInt hx hown (mvT hZ (hw _ (List.mem_of_getElem? (i := 0) rfl))) (g := (mkF m 1 #[.val (.int p0), .val (.long p1), .second, .val (.int p2), .val (.int p3), .unset, .unset, .unset, .unset, .unset, .unset, .unset, .unset, .unset] [(.int p0)])) rfl (hb hby at_1) _ ?_
    show Steps p.tables e below (s₁.setTop (mkF m 3 #[.val (.int p0), .val (.long p1), .second, .val (.int p2), .val (.int p3), .unset, .unset, .unset, .unset, .unset, .unset, .unset, .unset, .unset] [(.int (2147483647 : Int32)), (.int p0)])) _
    refine own_s_iand X0.here hx (hb hby at_3) (pc' := 4) rfl (v := w2_n_v3) w2_n_hv3 ?_
    refine own_s_bipush X0.here hx (hb hby at_4) (pc' := 6) rfl (v := (6 : Int32)) (by decide) ?_
    refine own_s_irem X0.here hx (hb hby at_6) (pc' := 7) rfl (by decide) (v := (2 : Int32)) w2_n_hv6 ?_
    refine own_s_istore X0.here hx (hb hby at_7) (pc' := 9) rfl (L' := #[.val (.int p0), .val (.long p1), .second, .val (.int p2), .val (.int p3), .val (.int (2 : Int32)), .unset, .unset, .unset, .unset, .unset, .unset, .unset, .unset]) rfl ?_
    refine own_s_iload X0.here hx (hb hby at_9) (pc' := 11) rfl rfl ?_
    refine own_s_ifYes X0.here hx (hb hby at_11) (by decide) (pc' := 22) (by decide) (by decide) ?_
    refine own_s_iload X0.here hx (hb hby at_22) (pc' := 24) rfl rfl ?_
    refine own_s_iconst X0.here hx (hb hby at_24) (pc' := 25) rfl (v := (1 : Int32)) (by decide) ?_
    refine own_s_icmpYes X0.here hx (hb hby at_25) (by decide) (pc' := 36) (by decide) (by decide) ?_
    refine own_s_iload X0.here hx (hb hby at_36) (pc' := 38) rfl rfl ?_
    refine own_s_iconst X0.here hx (hb hby at_38) (pc' := 39) rfl (v := (2 : Int32)) (by decide) ?_
    refine own_s_icmpNo X0.here hx (hb hby at_39) (pc' := 42) rfl (by decide) ?_
    refine stw2_n1 _ ?_
    show Steps p.tables e below (Tw2_n1.setTop (mkF m 45 #[.val (.int p0), .val (.long p1), .second, .val (.int p2), .val (.int p3), .val (.int (2 : Int32)), .unset, .unset, .unset, .unset, .unset, .unset, .unset, .unset] [(.ref st_PMAX)])) _
    refine own_s_astore Xw2_n1.here hx (hb hby at_45) (pc' := 47) rfl rfl (L' := #[.val (.int p0), .val (.long p1), .second, .val (.int p2), .val (.int p3), .val (.int (2 : Int32)), .val (.ref st_PMAX), .unset, .unset, .unset, .unset, .unset, .unset, .unset]) rfl ?_
    refine own_s_goto Xw2_n1.here hx (hb hby at_47) (by decide) (pc' := 83) (by decide) ?_
    refine own_s_iload Xw2_n1.here hx (hb hby at_83) (pc' := 85) rfl rfl ?_
    refine own_s_iconst Xw2_n1.here hx (hb hby at_85) (pc' := 86) rfl (v := (3 : Int32)) (by decide) ?_
    refine own_s_icmpYes Xw2_n1.here hx (hb hby at_86) (by decide) (pc' := 93) (by decide) (by decide) ?_
    refine own_s_iconst Xw2_n1.here hx (hb hby at_93) (pc' := 94) rfl (v := (0 : Int32)) (by decide) ?_
    refine own_s_istore Xw2_n1.here hx (hb hby at_94) (pc' := 96) rfl (L' := #[.val (.int p0), .val (.long p1), .second, .val (.int p2), .val (.int p3), .val (.int (2 : Int32)), .val (.ref st_PMAX), .val (.int (0 : Int32)), .unset, .unset, .unset, .unset, .unset, .unset]) rfl ?_
    refine own_s_iload Xw2_n1.here hx (hb hby at_96) (pc' := 98) rfl rfl ?_
    refine own_s_bipush Xw2_n1.here hx (hb hby at_98) (pc' := 100) rfl (v := (7 : Int32)) (by decide) ?_
    refine own_s_iand Xw2_n1.here hx (hb hby at_100) (pc' := 101) rfl (v := w2_n_v100) w2_n_hv100 ?_
    refine own_s_istore Xw2_n1.here hx (hb hby at_101) (pc' := 103) rfl (L' := #[.val (.int p0), .val (.long p1), .second, .val (.int p2), .val (.int p3), .val (.int (2 : Int32)), .val (.ref st_PMAX), .val (.int (0 : Int32)), .val (.int w2_n_v100), .unset, .unset, .unset, .unset, .unset]) rfl ?_
    refine own_s_iload Xw2_n1.here hx (hb hby at_103) (pc' := 105) rfl rfl ?_
    refine own_s_iconst Xw2_n1.here hx (hb hby at_105) (pc' := 106) rfl (v := (4 : Int32)) (by decide) ?_
    refine own_s_icmpYes Xw2_n1.here hx (hb hby at_106) (by decide) (pc' := 121) (by decide) w2_n_hb106 ?_
    refine own_s_iload Xw2_n1.here hx (hb hby at_121) (pc' := 123) rfl rfl ?_
    refine own_s_iconst Xw2_n1.here hx (hb hby at_123) (pc' := 124) rfl (v := (5 : Int32)) (by decide) ?_
    refine own_s_icmpYes Xw2_n1.here hx (hb hby at_124) (by decide) (pc' := 138) (by decide) w2_n_hb124 ?_
    refine own_s_iload Xw2_n1.here hx (hb hby at_138) (pc' := 140) rfl rfl ?_
    refine own_s_bipush Xw2_n1.here hx (hb hby at_140) (pc' := 142) rfl (v := (6 : Int32)) (by decide) ?_
    refine own_s_icmpYes Xw2_n1.here hx (hb hby at_142) (by decide) (pc' := 156) (by decide) w2_n_hb142 ?_
    refine own_s_iload Xw2_n1.here hx (hb hby at_156) (pc' := 158) rfl rfl ?_
    refine own_s_bipush Xw2_n1.here hx (hb hby at_158) (pc' := 160) rfl (v := (7 : Int32)) (by decide) ?_
    refine own_s_icmpYes Xw2_n1.here hx (hb hby at_160) (by decide) (pc' := 174) (by decide) w2_n_hb160 ?_
    refine own_s_lconst Xw2_n1.here hx (hb hby at_174) (pc' := 175) rfl (v := (1 : Int64)) (by decide) ?_
    refine own_s_iloadN Xw2_n1.here hx (hb hby at_175) (pc' := 176) rfl rfl ?_
    refine own_s_bipush Xw2_n1.here hx (hb hby at_176) (pc' := 178) rfl (v := (31 : Int32)) (by decide) ?_
    refine own_s_iand Xw2_n1.here hx (hb hby at_178) (pc' := 179) rfl (v := w2_n_v178) w2_n_hv178 ?_
    refine own_s_lshl Xw2_n1.here hx (hb hby at_179) (pc' := 180) rfl (v := w2_n_v179) w2_n_hv179 ?_
    refine own_s_lstore Xw2_n1.here hx (hb hby at_180) (pc' := 182) rfl (L' := #[.val (.int p0), .val (.long p1), .second, .val (.int p2), .val (.int p3), .val (.int (2 : Int32)), .val (.ref st_PMAX), .val (.int (0 : Int32)), .val (.int w2_n_v100), .unset, .unset, .unset, .val (.long w2_n_v179), .second]) rfl ?_
    refine own_s_lloadN Xw2_n1.here hx (hb hby at_182) (pc' := 183) rfl rfl ?_
    refine own_s_l2d Xw2_n1.here hx (hb hby at_183) (pc' := 184) rfl (v := (FP.l2d p1)) rfl ?_
    refine own_s_lload Xw2_n1.here hx (hb hby at_184) (pc' := 186) rfl rfl ?_
    refine own_s_l2d Xw2_n1.here hx (hb hby at_186) (pc' := 187) rfl (v := (FP.l2d w2_n_v179)) rfl ?_
    refine own_s_ddiv Xw2_n1.here hx (hb hby at_187) (pc' := 188) rfl w2_n_hn187 (v := w2_n_v187) w2_n_hv187 ?_
    refine own_s_dstore Xw2_n1.here hx (hb hby at_188) (pc' := 190) rfl (L' := #[.val (.int p0), .val (.long p1), .second, .val (.int p2), .val (.int p3), .val (.int (2 : Int32)), .val (.ref st_PMAX), .val (.int (0 : Int32)), .val (.int w2_n_v100), .val (.double w2_n_v187), .second, .unset, .val (.long w2_n_v179), .second]) rfl ?_
    refine own_s_lloadN Xw2_n1.here hx (hb hby at_190) (pc' := 191) rfl rfl ?_
    refine own_s_lconst Xw2_n1.here hx (hb hby at_191) (pc' := 192) rfl (v := (0 : Int64)) (by decide) ?_
    refine own_s_lcmp Xw2_n1.here hx (hb hby at_192) (pc' := 193) rfl (v := (lcmpW p1 (0 : Int64))) rfl ?_
    refine own_s_ifYes Xw2_n1.here hx (hb hby at_193) (by decide) (pc' := 212) (by decide) w2_n_hb193 ?_
    refine own_s_iconst Xw2_n1.here hx (hb hby at_212) (pc' := 213) rfl (v := (0 : Int32)) (by decide) ?_
    refine own_s_istore Xw2_n1.here hx (hb hby at_213) (pc' := 215) rfl (L' := #[.val (.int p0), .val (.long p1), .second, .val (.int p2), .val (.int p3), .val (.int (2 : Int32)), .val (.ref st_PMAX), .val (.int (0 : Int32)), .val (.int w2_n_v100), .val (.double w2_n_v187), .second, .val (.int (0 : Int32)), .val (.long w2_n_v179), .second]) rfl ?_
    refine own_s_aload Xw2_n1.here hx (hb hby at_215) (pc' := 217) rfl rfl rfl ?_
    refine own_s_dload Xw2_n1.here hx (hb hby at_217) (pc' := 219) rfl rfl ?_
    refine stw2_n2.trans ?_
    show Steps p.tables e below (Tw2_n2.setTop (mkF m 222 #[.val (.int p0), .val (.long p1), .second, .val (.int p2), .val (.int p3), .val (.int (2 : Int32)), .val (.ref st_PMAX), .val (.int (0 : Int32)), .val (.int w2_n_v100), .val (.double w2_n_v187), .second, .val (.int (0 : Int32)), .val (.long w2_n_v179), .second] [(.int (0 : Int32))])) _
    refine own_s_iload Xw2_n2.here hx (hb hby at_222) (pc' := 224) rfl rfl ?_
    refine own_s_icmpNo Xw2_n2.here hx (hb hby at_224) (pc' := 227) rfl (by decide) ?_
    refine own_s_iconst Xw2_n2.here hx (hb hby at_227) (pc' := 228) rfl (v := (1 : Int32)) (by decide) ?_
    refine own_s_goto Xw2_n2.here hx (hb hby at_228) (by decide) (pc' := 232) (by decide) ?_
    exact retN Xw2_n2 hx (t := .boolean) Bd.returns (by simp) (hb hby at_232) hr
  · show own_Q0 n0 _ Tw2_n2.heap _
    rw [ew2_n2]
    exact ⟨rfl, Nw2_n2⟩
theorem own_ef_w2_g (m : MethodId) (p0 : Int32) (p1 : Int64) (p2 : Int32) (p3 : Int32) : entryFrame m #[(.int p0), (.long p1), (.int p2), (.int p3)] maxLocals = mkF m 0 #[.val (.int p0), .val (.long p1), .second, .val (.int p2), .val (.int p3), .unset, .unset, .unset, .unset, .unset, .unset, .unset, .unset, .unset] [] := by first | (simp [entryFrame, mkF, argsToLocals, Value.category, maxLocals]; done) | rfl
set_option maxRecDepth 65536 in
set_option maxHeartbeats 40000000 in
theorem own_rm_w2_g (l : Launch) (Z : State) (a0 : Array Value) (hw : ∀ d ∈ tables_1, d.before a0 Z = true) (ws : List Jvm.Cond) (p0 : Int32) (p1 : Int64) (p2 : Int32) (p3 : Int32) (st_PMAX : Addr) {w2_g_v3 : Int32} {w2_g_v100 : Int32} {w2_g_v178 : Int32} {w2_g_v179 : Int64} {w2_g_v187 : UInt64} (h0 : Heap) (n0 : Nat) (Z0 : n0 ≤ h0.size) (E_st_PMAX : Exa Z h0 st_PMAX "com/example/libcredal/libcredal/checker/Query$Operator") (F_reward_st_PMAX : Fld Z h0 st_PMAX "com/example/libcredal/libcredal/checker/Query$Operator" "reward" "Z" (.int (0 : Int32))) (S_PMAX : Sta Z h0 "com/example/libcredal/libcredal/checker/Query$Operator" "PMAX" "Lcom/example/libcredal/libcredal/checker/Query$Operator;" (.ref st_PMAX)) (w2_g_hv3 : p0 &&& (2147483647 : Int32) = w2_g_v3) (w2_g_hv6 : w2_g_v3 % (6 : Int32) = (2 : Int32)) (w2_g_hv100 : p3 &&& (7 : Int32) = w2_g_v100) (w2_g_hb106 : if_icmp.holds .ne w2_g_v100 (4 : Int32) = true) (w2_g_hb124 : if_icmp.holds .ne w2_g_v100 (5 : Int32) = true) (w2_g_hb142 : if_icmp.holds .ne w2_g_v100 (6 : Int32) = true) (w2_g_hb160 : if_icmp.holds .ne w2_g_v100 (7 : Int32) = true) (w2_g_hv178 : p2 &&& (31 : Int32) = w2_g_v178) (w2_g_hv179 : (1 : Int64) <<< (w2_g_v178 &&& 63).toInt64 = w2_g_v179) (w2_g_hn187 : Jvm.Free.Fl.NoNaN64 (FP.ddiv (FP.l2d p1) (FP.l2d w2_g_v179))) (w2_g_hv187 : FP.ddiv (FP.l2d p1) (FP.l2d w2_g_v179) = w2_g_v187) (w2_g_hb193 : ifCond.holds .lt (lcmpW p1 (0 : Int64)) = false) (w2_g_hb205 : ifCond.holds .gt (lcmpW p1 w2_g_v179) = true) (w2_g_c219_c0ft_hb3 : ifCond.holds .lt (Op.cmpValue (FP.dcmp w2_g_v187 0) .l) = false) (w2_g_c219_c0ft_hb22 : ifCond.holds .gt (Op.cmpValue (FP.dcmp w2_g_v187 4607182418800017408) .g) = true) :
    MetFree l x (head1 (Jvm.Cond.code x code maxLocals ret :: ws) room_1) (fun a U => a = #[(.int p0), (.long p1), (.int p2), (.int p3)] ∧ Z.Warmed39 U.vm ∧ U.heap = h0) (fun _ _ _ _ _ => True) (fun _ U o U' => ∃ v L, o = .returned v ∧ own_Q0 n0 v U'.heap L ∧ FrameEnd U o U' L room_1.cells room_1.slots) := by
  refine MetFree.of_bodySF (plainFor_of_name own_pn_com_example_libcredal_libcredal_checker_OperatorAdmitsPinLaw) hisR ?_
  intro p e s m args below meth c s₁ Bd hml0 hP hK
  obtain ⟨rfl, hZ, hh⟩ := hP
  have hx := Bd.exec
  have hby := Bd.bytes
  have hml : c.maxLocals = 14 := hml0
  have hown : s.vm.findClass "com/example/libcredal/libcredal/checker/OperatorAdmitsPinLaw" = some m.cls := findClass_of_methodNamed Bd.named
  have hnm := (name_of_methodNamed Bd.named Bd.method).1
  have X0 : Stand p l e room_1 s m #[(.int p0), (.long p1), (.int p2), (.int p3)] below meth c s₁ [] 0 0 := Stand.of_body Bd
  have e0 : s₁.heap = h0 := by rw [← hh, Bd.state]; rfl
  have N0 := Fr.nil n0
  have pre0 : ∀ t, Steps p.tables e below (s₁.setTop (mkF m 0 #[.val (.int p0), .val (.long p1), .second, .val (.int p2), .val (.int p3), .unset, .unset, .unset, .unset, .unset, .unset, .unset, .unset, .unset] [])) t → Steps p.tables e below (s₁.setTop (entryFrame m #[(.int p0), (.long p1), (.int p2), (.int p3)] maxLocals)) t := fun t k => castTop (own_ef_w2_g m p0 p1 p2 p3) k
  obtain ⟨Tw2_g1, Xw2_g1, ew2_g1, stw2_g1⟩ := getS2 X0 hx hZ hown (host := "") (Or.inl (hw _ (List.mem_of_getElem? (i := 15) rfl))) Via.refl e0 S_PMAX (g := (mkF m 42 #[.val (.int p0), .val (.long p1), .second, .val (.int p2), .val (.int p3), .val (.int (2 : Int32)), .unset, .unset, .unset, .unset, .unset, .unset, .unset, .unset] [])) rfl (hb hby at_42)
  obtain ⟨cqw2_g2, kqw2_g2, qw2_g2a, qw2_g2b, qw2_g2c⟩ := isOf hZ ew2_g1 E_st_PMAX
  obtain ⟨_, _, ⟨Tw2_g2, Lw2_g2, kw2_g2, nw2_g2⟩, -, Xw2_g2, ⟨Lcw2_g2, hQw2_g2, lw2_g2, yw2_g2, zw2_g2⟩, stw2_g2⟩ := Xw2_g1.virtualBack hx (y := (⟨"com/example/libcredal/libcredal/checker/Query$Operator", "admits", "(D)Z"⟩ : MethodName)) (z := (⟨"com/example/libcredal/libcredal/checker/Query$Operator", "admits", "(D)Z"⟩ : MethodName)) hown (mvT hZ (hw _ (List.mem_of_getElem? (i := 4) rfl))) (mvT hZ (hw _ (List.mem_of_getElem? (i := 5) rfl))) (notFace_of_selects (args := #[]) (mvT hZ (hw _ (List.mem_of_getElem? (i := 7) rfl)))) (mvT hZ (hw _ (List.mem_of_getElem? (i := 7) rfl))) (mvT hZ (hw _ (List.mem_of_getElem? (i := 6) rfl))) (by decide) (backOf (W := 0) (own_rm_c0ft l Z a0 hw [] st_PMAX w2_g_v187 h0 n0 Z0 E_st_PMAX F_reward_st_PMAX w2_g_c219_c0ft_hb3 w2_g_c219_c0ft_hb22) hZ (hw _ (List.mem_of_getElem? (i := 8) rfl)) (hw _ (List.mem_of_getElem? (i := 2) rfl)) (by decide) (by decide)) qw2_g2a qw2_g2c (g := (mkF m 219 #[.val (.int p0), .val (.long p1), .second, .val (.int p2), .val (.int p3), .val (.int (2 : Int32)), .val (.ref st_PMAX), .val (.int (0 : Int32)), .val (.int w2_g_v100), .val (.double w2_g_v187), .second, .val (.int (0 : Int32)), .val (.long w2_g_v179), .second] [(.double w2_g_v187), (.ref st_PMAX)])) rfl (by rw [hml]; rfl) (Steps.refl _) (argsL := [(.double w2_g_v187)]) (rest := []) (lenOf own_pd_28D29Z rfl) rfl (by show 2 * 0 + _ ≤ _; exact Nat.le_of_eq rfl) (hb hby at_219) (fun _ _ => ⟨rfl, ew2_g1, (by decide : 0 + 0 ≤ _), (by decide : 0 + 0 ≤ _)⟩)
  dsimp only [Pt.U, Pt.locs, Pt.cells, Pt.slots] at Xw2_g2 lw2_g2 yw2_g2 zw2_g2 stw2_g2 hQw2_g2
  rw [lw2_g2, yw2_g2, zw2_g2] at Xw2_g2
  obtain ⟨rfl, Nw2_g2q, ew2_g2⟩ := hQw2_g2
  have Nw2_g2 := Fr.app N0 Nw2_g2q
  obtain ⟨fs, hr, hrun, hended, hW, hsame⟩ := Xw2_g2.leave (v := some (.int (1 : Int32))) (fun h => by rw [Bd.returns] at h; cases h)
  refine ⟨_, _, pre0 _ ?_, hrun, hended, _, _, rfl, ?_, ⟨_, rfl⟩, hW, hsame.mono (by decide) (by decide)⟩
  · refine own_s_iloadN X0.here hx (hb hby at_0) (pc' := 1) rfl rfl ?_
    refine X0.ldcInt hx hown (mvT hZ (hw _ (List.mem_of_getElem? (i := 0) rfl))) (g := (mkF m 1 #[.val (.int p0), .val (.long p1), .second, .val (.int p2), .val (.int p3), .unset, .unset, .unset, .unset, .unset, .unset, .unset, .unset, .unset] [(.int p0)])) rfl (hb hby at_1) _ ?_
    show Steps p.tables e below (s₁.setTop (mkF m 3 #[.val (.int p0), .val (.long p1), .second, .val (.int p2), .val (.int p3), .unset, .unset, .unset, .unset, .unset, .unset, .unset, .unset, .unset] [(.int (2147483647 : Int32)), (.int p0)])) _
    refine own_s_iand X0.here hx (hb hby at_3) (pc' := 4) rfl (v := w2_g_v3) w2_g_hv3 ?_
    refine own_s_bipush X0.here hx (hb hby at_4) (pc' := 6) rfl (v := (6 : Int32)) (by decide) ?_
    refine own_s_irem X0.here hx (hb hby at_6) (pc' := 7) rfl (by decide) (v := (2 : Int32)) w2_g_hv6 ?_
    refine own_s_istore X0.here hx (hb hby at_7) (pc' := 9) rfl (L' := #[.val (.int p0), .val (.long p1), .second, .val (.int p2), .val (.int p3), .val (.int (2 : Int32)), .unset, .unset, .unset, .unset, .unset, .unset, .unset, .unset]) rfl ?_
    refine own_s_iload X0.here hx (hb hby at_9) (pc' := 11) rfl rfl ?_
    refine own_s_ifYes X0.here hx (hb hby at_11) (by decide) (pc' := 22) (by decide) (by decide) ?_
    refine own_s_iload X0.here hx (hb hby at_22) (pc' := 24) rfl rfl ?_
    refine own_s_iconst X0.here hx (hb hby at_24) (pc' := 25) rfl (v := (1 : Int32)) (by decide) ?_
    refine own_s_icmpYes X0.here hx (hb hby at_25) (by decide) (pc' := 36) (by decide) (by decide) ?_
    refine own_s_iload X0.here hx (hb hby at_36) (pc' := 38) rfl rfl ?_
    refine own_s_iconst X0.here hx (hb hby at_38) (pc' := 39) rfl (v := (2 : Int32)) (by decide) ?_
    refine own_s_icmpNo X0.here hx (hb hby at_39) (pc' := 42) rfl (by decide) ?_
    refine stw2_g1 _ ?_
    show Steps p.tables e below (Tw2_g1.setTop (mkF m 45 #[.val (.int p0), .val (.long p1), .second, .val (.int p2), .val (.int p3), .val (.int (2 : Int32)), .unset, .unset, .unset, .unset, .unset, .unset, .unset, .unset] [(.ref st_PMAX)])) _
    refine own_s_astore Xw2_g1.here hx (hb hby at_45) (pc' := 47) rfl rfl (L' := #[.val (.int p0), .val (.long p1), .second, .val (.int p2), .val (.int p3), .val (.int (2 : Int32)), .val (.ref st_PMAX), .unset, .unset, .unset, .unset, .unset, .unset, .unset]) rfl ?_
    refine own_s_goto Xw2_g1.here hx (hb hby at_47) (by decide) (pc' := 83) (by decide) ?_
    refine own_s_iload Xw2_g1.here hx (hb hby at_83) (pc' := 85) rfl rfl ?_
    refine own_s_iconst Xw2_g1.here hx (hb hby at_85) (pc' := 86) rfl (v := (3 : Int32)) (by decide) ?_
    refine own_s_icmpYes Xw2_g1.here hx (hb hby at_86) (by decide) (pc' := 93) (by decide) (by decide) ?_
    refine own_s_iconst Xw2_g1.here hx (hb hby at_93) (pc' := 94) rfl (v := (0 : Int32)) (by decide) ?_
    refine own_s_istore Xw2_g1.here hx (hb hby at_94) (pc' := 96) rfl (L' := #[.val (.int p0), .val (.long p1), .second, .val (.int p2), .val (.int p3), .val (.int (2 : Int32)), .val (.ref st_PMAX), .val (.int (0 : Int32)), .unset, .unset, .unset, .unset, .unset, .unset]) rfl ?_
    refine own_s_iload Xw2_g1.here hx (hb hby at_96) (pc' := 98) rfl rfl ?_
    refine own_s_bipush Xw2_g1.here hx (hb hby at_98) (pc' := 100) rfl (v := (7 : Int32)) (by decide) ?_
    refine own_s_iand Xw2_g1.here hx (hb hby at_100) (pc' := 101) rfl (v := w2_g_v100) w2_g_hv100 ?_
    refine own_s_istore Xw2_g1.here hx (hb hby at_101) (pc' := 103) rfl (L' := #[.val (.int p0), .val (.long p1), .second, .val (.int p2), .val (.int p3), .val (.int (2 : Int32)), .val (.ref st_PMAX), .val (.int (0 : Int32)), .val (.int w2_g_v100), .unset, .unset, .unset, .unset, .unset]) rfl ?_
    refine own_s_iload Xw2_g1.here hx (hb hby at_103) (pc' := 105) rfl rfl ?_
    refine own_s_iconst Xw2_g1.here hx (hb hby at_105) (pc' := 106) rfl (v := (4 : Int32)) (by decide) ?_
    refine own_s_icmpYes Xw2_g1.here hx (hb hby at_106) (by decide) (pc' := 121) (by decide) w2_g_hb106 ?_
    refine own_s_iload Xw2_g1.here hx (hb hby at_121) (pc' := 123) rfl rfl ?_
    refine own_s_iconst Xw2_g1.here hx (hb hby at_123) (pc' := 124) rfl (v := (5 : Int32)) (by decide) ?_
    refine own_s_icmpYes Xw2_g1.here hx (hb hby at_124) (by decide) (pc' := 138) (by decide) w2_g_hb124 ?_
    refine own_s_iload Xw2_g1.here hx (hb hby at_138) (pc' := 140) rfl rfl ?_
    refine own_s_bipush Xw2_g1.here hx (hb hby at_140) (pc' := 142) rfl (v := (6 : Int32)) (by decide) ?_
    refine own_s_icmpYes Xw2_g1.here hx (hb hby at_142) (by decide) (pc' := 156) (by decide) w2_g_hb142 ?_
    refine own_s_iload Xw2_g1.here hx (hb hby at_156) (pc' := 158) rfl rfl ?_
    refine own_s_bipush Xw2_g1.here hx (hb hby at_158) (pc' := 160) rfl (v := (7 : Int32)) (by decide) ?_
    refine own_s_icmpYes Xw2_g1.here hx (hb hby at_160) (by decide) (pc' := 174) (by decide) w2_g_hb160 ?_
    refine own_s_lconst Xw2_g1.here hx (hb hby at_174) (pc' := 175) rfl (v := (1 : Int64)) (by decide) ?_
    refine own_s_iloadN Xw2_g1.here hx (hb hby at_175) (pc' := 176) rfl rfl ?_
    refine own_s_bipush Xw2_g1.here hx (hb hby at_176) (pc' := 178) rfl (v := (31 : Int32)) (by decide) ?_
    refine own_s_iand Xw2_g1.here hx (hb hby at_178) (pc' := 179) rfl (v := w2_g_v178) w2_g_hv178 ?_
    refine own_s_lshl Xw2_g1.here hx (hb hby at_179) (pc' := 180) rfl (v := w2_g_v179) w2_g_hv179 ?_
    refine own_s_lstore Xw2_g1.here hx (hb hby at_180) (pc' := 182) rfl (L' := #[.val (.int p0), .val (.long p1), .second, .val (.int p2), .val (.int p3), .val (.int (2 : Int32)), .val (.ref st_PMAX), .val (.int (0 : Int32)), .val (.int w2_g_v100), .unset, .unset, .unset, .val (.long w2_g_v179), .second]) rfl ?_
    refine own_s_lloadN Xw2_g1.here hx (hb hby at_182) (pc' := 183) rfl rfl ?_
    refine own_s_l2d Xw2_g1.here hx (hb hby at_183) (pc' := 184) rfl (v := (FP.l2d p1)) rfl ?_
    refine own_s_lload Xw2_g1.here hx (hb hby at_184) (pc' := 186) rfl rfl ?_
    refine own_s_l2d Xw2_g1.here hx (hb hby at_186) (pc' := 187) rfl (v := (FP.l2d w2_g_v179)) rfl ?_
    refine own_s_ddiv Xw2_g1.here hx (hb hby at_187) (pc' := 188) rfl w2_g_hn187 (v := w2_g_v187) w2_g_hv187 ?_
    refine own_s_dstore Xw2_g1.here hx (hb hby at_188) (pc' := 190) rfl (L' := #[.val (.int p0), .val (.long p1), .second, .val (.int p2), .val (.int p3), .val (.int (2 : Int32)), .val (.ref st_PMAX), .val (.int (0 : Int32)), .val (.int w2_g_v100), .val (.double w2_g_v187), .second, .unset, .val (.long w2_g_v179), .second]) rfl ?_
    refine own_s_lloadN Xw2_g1.here hx (hb hby at_190) (pc' := 191) rfl rfl ?_
    refine own_s_lconst Xw2_g1.here hx (hb hby at_191) (pc' := 192) rfl (v := (0 : Int64)) (by decide) ?_
    refine own_s_lcmp Xw2_g1.here hx (hb hby at_192) (pc' := 193) rfl (v := (lcmpW p1 (0 : Int64))) rfl ?_
    refine own_s_ifNo Xw2_g1.here hx (hb hby at_193) (pc' := 196) rfl w2_g_hb193 ?_
    refine own_s_iload Xw2_g1.here hx (hb hby at_196) (pc' := 198) rfl rfl ?_
    refine own_s_ifNo Xw2_g1.here hx (hb hby at_198) (pc' := 201) rfl (by decide) ?_
    refine own_s_lloadN Xw2_g1.here hx (hb hby at_201) (pc' := 202) rfl rfl ?_
    refine own_s_lload Xw2_g1.here hx (hb hby at_202) (pc' := 204) rfl rfl ?_
    refine own_s_lcmp Xw2_g1.here hx (hb hby at_204) (pc' := 205) rfl (v := (lcmpW p1 w2_g_v179)) rfl ?_
    refine own_s_ifYes Xw2_g1.here hx (hb hby at_205) (by decide) (pc' := 212) (by decide) w2_g_hb205 ?_
    refine own_s_iconst Xw2_g1.here hx (hb hby at_212) (pc' := 213) rfl (v := (0 : Int32)) (by decide) ?_
    refine own_s_istore Xw2_g1.here hx (hb hby at_213) (pc' := 215) rfl (L' := #[.val (.int p0), .val (.long p1), .second, .val (.int p2), .val (.int p3), .val (.int (2 : Int32)), .val (.ref st_PMAX), .val (.int (0 : Int32)), .val (.int w2_g_v100), .val (.double w2_g_v187), .second, .val (.int (0 : Int32)), .val (.long w2_g_v179), .second]) rfl ?_
    refine own_s_aload Xw2_g1.here hx (hb hby at_215) (pc' := 217) rfl rfl rfl ?_
    refine own_s_dload Xw2_g1.here hx (hb hby at_217) (pc' := 219) rfl rfl ?_
    refine stw2_g2.trans ?_
    show Steps p.tables e below (Tw2_g2.setTop (mkF m 222 #[.val (.int p0), .val (.long p1), .second, .val (.int p2), .val (.int p3), .val (.int (2 : Int32)), .val (.ref st_PMAX), .val (.int (0 : Int32)), .val (.int w2_g_v100), .val (.double w2_g_v187), .second, .val (.int (0 : Int32)), .val (.long w2_g_v179), .second] [(.int (0 : Int32))])) _
    refine own_s_iload Xw2_g2.here hx (hb hby at_222) (pc' := 224) rfl rfl ?_
    refine own_s_icmpNo Xw2_g2.here hx (hb hby at_224) (pc' := 227) rfl (by decide) ?_
    refine own_s_iconst Xw2_g2.here hx (hb hby at_227) (pc' := 228) rfl (v := (1 : Int32)) (by decide) ?_
    refine own_s_goto Xw2_g2.here hx (hb hby at_228) (by decide) (pc' := 232) (by decide) ?_
    exact retN Xw2_g2 hx (t := .boolean) Bd.returns (by simp) (hb hby at_232) hr
  · show own_Q0 n0 _ Tw2_g2.heap _
    rw [ew2_g2]
    exact ⟨rfl, Nw2_g2⟩
theorem own_ef_w2_y (m : MethodId) (p0 : Int32) (p1 : Int64) (p2 : Int32) (p3 : Int32) : entryFrame m #[(.int p0), (.long p1), (.int p2), (.int p3)] maxLocals = mkF m 0 #[.val (.int p0), .val (.long p1), .second, .val (.int p2), .val (.int p3), .unset, .unset, .unset, .unset, .unset, .unset, .unset, .unset, .unset] [] := by first | (simp [entryFrame, mkF, argsToLocals, Value.category, maxLocals]; done) | rfl
set_option maxRecDepth 65536 in
set_option maxHeartbeats 40000000 in
theorem own_rm_w2_y (l : Launch) (Z : State) (a0 : Array Value) (hw : ∀ d ∈ tables_1, d.before a0 Z = true) (ws : List Jvm.Cond) (p0 : Int32) (p1 : Int64) (p2 : Int32) (p3 : Int32) (st_PMAX : Addr) {w2_y_v3 : Int32} {w2_y_v100 : Int32} {w2_y_v178 : Int32} {w2_y_v179 : Int64} {w2_y_v187 : UInt64} (h0 : Heap) (n0 : Nat) (Z0 : n0 ≤ h0.size) (E_st_PMAX : Exa Z h0 st_PMAX "com/example/libcredal/libcredal/checker/Query$Operator") (F_reward_st_PMAX : Fld Z h0 st_PMAX "com/example/libcredal/libcredal/checker/Query$Operator" "reward" "Z" (.int (0 : Int32))) (S_PMAX : Sta Z h0 "com/example/libcredal/libcredal/checker/Query$Operator" "PMAX" "Lcom/example/libcredal/libcredal/checker/Query$Operator;" (.ref st_PMAX)) (w2_y_hv3 : p0 &&& (2147483647 : Int32) = w2_y_v3) (w2_y_hv6 : w2_y_v3 % (6 : Int32) = (2 : Int32)) (w2_y_hv100 : p3 &&& (7 : Int32) = w2_y_v100) (w2_y_hb106 : if_icmp.holds .ne w2_y_v100 (4 : Int32) = true) (w2_y_hb124 : if_icmp.holds .ne w2_y_v100 (5 : Int32) = true) (w2_y_hb142 : if_icmp.holds .ne w2_y_v100 (6 : Int32) = true) (w2_y_hb160 : if_icmp.holds .ne w2_y_v100 (7 : Int32) = true) (w2_y_hv178 : p2 &&& (31 : Int32) = w2_y_v178) (w2_y_hv179 : (1 : Int64) <<< (w2_y_v178 &&& 63).toInt64 = w2_y_v179) (w2_y_hn187 : Jvm.Free.Fl.NoNaN64 (FP.ddiv (FP.l2d p1) (FP.l2d w2_y_v179))) (w2_y_hv187 : FP.ddiv (FP.l2d p1) (FP.l2d w2_y_v179) = w2_y_v187) (w2_y_hb193 : ifCond.holds .lt (lcmpW p1 (0 : Int64)) = false) (w2_y_hb205 : ifCond.holds .gt (lcmpW p1 w2_y_v179) = false) (w2_y_c219_c0ff_hb3 : ifCond.holds .lt (Op.cmpValue (FP.dcmp w2_y_v187 0) .l) = false) (w2_y_c219_c0ff_hb22 : ifCond.holds .gt (Op.cmpValue (FP.dcmp w2_y_v187 4607182418800017408) .g) = false) :
    MetFree l x (head1 (Jvm.Cond.code x code maxLocals ret :: ws) room_1) (fun a U => a = #[(.int p0), (.long p1), (.int p2), (.int p3)] ∧ Z.Warmed39 U.vm ∧ U.heap = h0) (fun _ _ _ _ _ => True) (fun _ U o U' => ∃ v L, o = .returned v ∧ own_Q0 n0 v U'.heap L ∧ FrameEnd U o U' L room_1.cells room_1.slots) := by
  refine MetFree.of_bodySF (plainFor_of_name own_pn_com_example_libcredal_libcredal_checker_OperatorAdmitsPinLaw) hisR ?_
  intro p e s m args below meth c s₁ Bd hml0 hP hK
  obtain ⟨rfl, hZ, hh⟩ := hP
  have hx := Bd.exec
  have hby := Bd.bytes
  have hml : c.maxLocals = 14 := hml0
  have hown : s.vm.findClass "com/example/libcredal/libcredal/checker/OperatorAdmitsPinLaw" = some m.cls := findClass_of_methodNamed Bd.named
  have hnm := (name_of_methodNamed Bd.named Bd.method).1
  have X0 : Stand p l e room_1 s m #[(.int p0), (.long p1), (.int p2), (.int p3)] below meth c s₁ [] 0 0 := Stand.of_body Bd
  have e0 : s₁.heap = h0 := by rw [← hh, Bd.state]; rfl
  have N0 := Fr.nil n0
  have pre0 : ∀ t, Steps p.tables e below (s₁.setTop (mkF m 0 #[.val (.int p0), .val (.long p1), .second, .val (.int p2), .val (.int p3), .unset, .unset, .unset, .unset, .unset, .unset, .unset, .unset, .unset] [])) t → Steps p.tables e below (s₁.setTop (entryFrame m #[(.int p0), (.long p1), (.int p2), (.int p3)] maxLocals)) t := fun t k => castTop (own_ef_w2_y m p0 p1 p2 p3) k
  obtain ⟨Tw2_y1, Xw2_y1, ew2_y1, stw2_y1⟩ := getS2 X0 hx hZ hown (host := "") (Or.inl (hw _ (List.mem_of_getElem? (i := 15) rfl))) Via.refl e0 S_PMAX (g := (mkF m 42 #[.val (.int p0), .val (.long p1), .second, .val (.int p2), .val (.int p3), .val (.int (2 : Int32)), .unset, .unset, .unset, .unset, .unset, .unset, .unset, .unset] [])) rfl (hb hby at_42)
  obtain ⟨cqw2_y2, kqw2_y2, qw2_y2a, qw2_y2b, qw2_y2c⟩ := isOf hZ ew2_y1 E_st_PMAX
  obtain ⟨_, _, ⟨Tw2_y2, Lw2_y2, kw2_y2, nw2_y2⟩, -, Xw2_y2, ⟨Lcw2_y2, hQw2_y2, lw2_y2, yw2_y2, zw2_y2⟩, stw2_y2⟩ := Xw2_y1.virtualBack hx (y := (⟨"com/example/libcredal/libcredal/checker/Query$Operator", "admits", "(D)Z"⟩ : MethodName)) (z := (⟨"com/example/libcredal/libcredal/checker/Query$Operator", "admits", "(D)Z"⟩ : MethodName)) hown (mvT hZ (hw _ (List.mem_of_getElem? (i := 4) rfl))) (mvT hZ (hw _ (List.mem_of_getElem? (i := 5) rfl))) (notFace_of_selects (args := #[]) (mvT hZ (hw _ (List.mem_of_getElem? (i := 7) rfl)))) (mvT hZ (hw _ (List.mem_of_getElem? (i := 7) rfl))) (mvT hZ (hw _ (List.mem_of_getElem? (i := 6) rfl))) (by decide) (backOf (W := 0) (own_rm_c0ff l Z a0 hw [] st_PMAX w2_y_v187 h0 n0 Z0 E_st_PMAX F_reward_st_PMAX w2_y_c219_c0ff_hb3 w2_y_c219_c0ff_hb22) hZ (hw _ (List.mem_of_getElem? (i := 8) rfl)) (hw _ (List.mem_of_getElem? (i := 2) rfl)) (by decide) (by decide)) qw2_y2a qw2_y2c (g := (mkF m 219 #[.val (.int p0), .val (.long p1), .second, .val (.int p2), .val (.int p3), .val (.int (2 : Int32)), .val (.ref st_PMAX), .val (.int (0 : Int32)), .val (.int w2_y_v100), .val (.double w2_y_v187), .second, .val (.int (1 : Int32)), .val (.long w2_y_v179), .second] [(.double w2_y_v187), (.ref st_PMAX)])) rfl (by rw [hml]; rfl) (Steps.refl _) (argsL := [(.double w2_y_v187)]) (rest := []) (lenOf own_pd_28D29Z rfl) rfl (by show 2 * 0 + _ ≤ _; exact Nat.le_of_eq rfl) (hb hby at_219) (fun _ _ => ⟨rfl, ew2_y1, (by decide : 0 + 0 ≤ _), (by decide : 0 + 0 ≤ _)⟩)
  dsimp only [Pt.U, Pt.locs, Pt.cells, Pt.slots] at Xw2_y2 lw2_y2 yw2_y2 zw2_y2 stw2_y2 hQw2_y2
  rw [lw2_y2, yw2_y2, zw2_y2] at Xw2_y2
  obtain ⟨rfl, Nw2_y2q, ew2_y2⟩ := hQw2_y2
  have Nw2_y2 := Fr.app N0 Nw2_y2q
  obtain ⟨fs, hr, hrun, hended, hW, hsame⟩ := Xw2_y2.leave (v := some (.int (1 : Int32))) (fun h => by rw [Bd.returns] at h; cases h)
  refine ⟨_, _, pre0 _ ?_, hrun, hended, _, _, rfl, ?_, ⟨_, rfl⟩, hW, hsame.mono (by decide) (by decide)⟩
  · refine own_s_iloadN X0.here hx (hb hby at_0) (pc' := 1) rfl rfl ?_
    refine X0.ldcInt hx hown (mvT hZ (hw _ (List.mem_of_getElem? (i := 0) rfl))) (g := (mkF m 1 #[.val (.int p0), .val (.long p1), .second, .val (.int p2), .val (.int p3), .unset, .unset, .unset, .unset, .unset, .unset, .unset, .unset, .unset] [(.int p0)])) rfl (hb hby at_1) _ ?_
    show Steps p.tables e below (s₁.setTop (mkF m 3 #[.val (.int p0), .val (.long p1), .second, .val (.int p2), .val (.int p3), .unset, .unset, .unset, .unset, .unset, .unset, .unset, .unset, .unset] [(.int (2147483647 : Int32)), (.int p0)])) _
    refine own_s_iand X0.here hx (hb hby at_3) (pc' := 4) rfl (v := w2_y_v3) w2_y_hv3 ?_
    refine own_s_bipush X0.here hx (hb hby at_4) (pc' := 6) rfl (v := (6 : Int32)) (by decide) ?_
    refine own_s_irem X0.here hx (hb hby at_6) (pc' := 7) rfl (by decide) (v := (2 : Int32)) w2_y_hv6 ?_
    refine own_s_istore X0.here hx (hb hby at_7) (pc' := 9) rfl (L' := #[.val (.int p0), .val (.long p1), .second, .val (.int p2), .val (.int p3), .val (.int (2 : Int32)), .unset, .unset, .unset, .unset, .unset, .unset, .unset, .unset]) rfl ?_
    refine own_s_iload X0.here hx (hb hby at_9) (pc' := 11) rfl rfl ?_
    refine own_s_ifYes X0.here hx (hb hby at_11) (by decide) (pc' := 22) (by decide) (by decide) ?_
    refine own_s_iload X0.here hx (hb hby at_22) (pc' := 24) rfl rfl ?_
    refine own_s_iconst X0.here hx (hb hby at_24) (pc' := 25) rfl (v := (1 : Int32)) (by decide) ?_
    refine own_s_icmpYes X0.here hx (hb hby at_25) (by decide) (pc' := 36) (by decide) (by decide) ?_
    refine own_s_iload X0.here hx (hb hby at_36) (pc' := 38) rfl rfl ?_
    refine own_s_iconst X0.here hx (hb hby at_38) (pc' := 39) rfl (v := (2 : Int32)) (by decide) ?_
    refine own_s_icmpNo X0.here hx (hb hby at_39) (pc' := 42) rfl (by decide) ?_
    refine stw2_y1 _ ?_
    show Steps p.tables e below (Tw2_y1.setTop (mkF m 45 #[.val (.int p0), .val (.long p1), .second, .val (.int p2), .val (.int p3), .val (.int (2 : Int32)), .unset, .unset, .unset, .unset, .unset, .unset, .unset, .unset] [(.ref st_PMAX)])) _
    refine own_s_astore Xw2_y1.here hx (hb hby at_45) (pc' := 47) rfl rfl (L' := #[.val (.int p0), .val (.long p1), .second, .val (.int p2), .val (.int p3), .val (.int (2 : Int32)), .val (.ref st_PMAX), .unset, .unset, .unset, .unset, .unset, .unset, .unset]) rfl ?_
    refine own_s_goto Xw2_y1.here hx (hb hby at_47) (by decide) (pc' := 83) (by decide) ?_
    refine own_s_iload Xw2_y1.here hx (hb hby at_83) (pc' := 85) rfl rfl ?_
    refine own_s_iconst Xw2_y1.here hx (hb hby at_85) (pc' := 86) rfl (v := (3 : Int32)) (by decide) ?_
    refine own_s_icmpYes Xw2_y1.here hx (hb hby at_86) (by decide) (pc' := 93) (by decide) (by decide) ?_
    refine own_s_iconst Xw2_y1.here hx (hb hby at_93) (pc' := 94) rfl (v := (0 : Int32)) (by decide) ?_
    refine own_s_istore Xw2_y1.here hx (hb hby at_94) (pc' := 96) rfl (L' := #[.val (.int p0), .val (.long p1), .second, .val (.int p2), .val (.int p3), .val (.int (2 : Int32)), .val (.ref st_PMAX), .val (.int (0 : Int32)), .unset, .unset, .unset, .unset, .unset, .unset]) rfl ?_
    refine own_s_iload Xw2_y1.here hx (hb hby at_96) (pc' := 98) rfl rfl ?_
    refine own_s_bipush Xw2_y1.here hx (hb hby at_98) (pc' := 100) rfl (v := (7 : Int32)) (by decide) ?_
    refine own_s_iand Xw2_y1.here hx (hb hby at_100) (pc' := 101) rfl (v := w2_y_v100) w2_y_hv100 ?_
    refine own_s_istore Xw2_y1.here hx (hb hby at_101) (pc' := 103) rfl (L' := #[.val (.int p0), .val (.long p1), .second, .val (.int p2), .val (.int p3), .val (.int (2 : Int32)), .val (.ref st_PMAX), .val (.int (0 : Int32)), .val (.int w2_y_v100), .unset, .unset, .unset, .unset, .unset]) rfl ?_
    refine own_s_iload Xw2_y1.here hx (hb hby at_103) (pc' := 105) rfl rfl ?_
    refine own_s_iconst Xw2_y1.here hx (hb hby at_105) (pc' := 106) rfl (v := (4 : Int32)) (by decide) ?_
    refine own_s_icmpYes Xw2_y1.here hx (hb hby at_106) (by decide) (pc' := 121) (by decide) w2_y_hb106 ?_
    refine own_s_iload Xw2_y1.here hx (hb hby at_121) (pc' := 123) rfl rfl ?_
    refine own_s_iconst Xw2_y1.here hx (hb hby at_123) (pc' := 124) rfl (v := (5 : Int32)) (by decide) ?_
    refine own_s_icmpYes Xw2_y1.here hx (hb hby at_124) (by decide) (pc' := 138) (by decide) w2_y_hb124 ?_
    refine own_s_iload Xw2_y1.here hx (hb hby at_138) (pc' := 140) rfl rfl ?_
    refine own_s_bipush Xw2_y1.here hx (hb hby at_140) (pc' := 142) rfl (v := (6 : Int32)) (by decide) ?_
    refine own_s_icmpYes Xw2_y1.here hx (hb hby at_142) (by decide) (pc' := 156) (by decide) w2_y_hb142 ?_
    refine own_s_iload Xw2_y1.here hx (hb hby at_156) (pc' := 158) rfl rfl ?_
    refine own_s_bipush Xw2_y1.here hx (hb hby at_158) (pc' := 160) rfl (v := (7 : Int32)) (by decide) ?_
    refine own_s_icmpYes Xw2_y1.here hx (hb hby at_160) (by decide) (pc' := 174) (by decide) w2_y_hb160 ?_
    refine own_s_lconst Xw2_y1.here hx (hb hby at_174) (pc' := 175) rfl (v := (1 : Int64)) (by decide) ?_
    refine own_s_iloadN Xw2_y1.here hx (hb hby at_175) (pc' := 176) rfl rfl ?_
    refine own_s_bipush Xw2_y1.here hx (hb hby at_176) (pc' := 178) rfl (v := (31 : Int32)) (by decide) ?_
    refine own_s_iand Xw2_y1.here hx (hb hby at_178) (pc' := 179) rfl (v := w2_y_v178) w2_y_hv178 ?_
    refine own_s_lshl Xw2_y1.here hx (hb hby at_179) (pc' := 180) rfl (v := w2_y_v179) w2_y_hv179 ?_
    refine own_s_lstore Xw2_y1.here hx (hb hby at_180) (pc' := 182) rfl (L' := #[.val (.int p0), .val (.long p1), .second, .val (.int p2), .val (.int p3), .val (.int (2 : Int32)), .val (.ref st_PMAX), .val (.int (0 : Int32)), .val (.int w2_y_v100), .unset, .unset, .unset, .val (.long w2_y_v179), .second]) rfl ?_
    refine own_s_lloadN Xw2_y1.here hx (hb hby at_182) (pc' := 183) rfl rfl ?_
    refine own_s_l2d Xw2_y1.here hx (hb hby at_183) (pc' := 184) rfl (v := (FP.l2d p1)) rfl ?_
    refine own_s_lload Xw2_y1.here hx (hb hby at_184) (pc' := 186) rfl rfl ?_
    refine own_s_l2d Xw2_y1.here hx (hb hby at_186) (pc' := 187) rfl (v := (FP.l2d w2_y_v179)) rfl ?_
    refine own_s_ddiv Xw2_y1.here hx (hb hby at_187) (pc' := 188) rfl w2_y_hn187 (v := w2_y_v187) w2_y_hv187 ?_
    refine own_s_dstore Xw2_y1.here hx (hb hby at_188) (pc' := 190) rfl (L' := #[.val (.int p0), .val (.long p1), .second, .val (.int p2), .val (.int p3), .val (.int (2 : Int32)), .val (.ref st_PMAX), .val (.int (0 : Int32)), .val (.int w2_y_v100), .val (.double w2_y_v187), .second, .unset, .val (.long w2_y_v179), .second]) rfl ?_
    refine own_s_lloadN Xw2_y1.here hx (hb hby at_190) (pc' := 191) rfl rfl ?_
    refine own_s_lconst Xw2_y1.here hx (hb hby at_191) (pc' := 192) rfl (v := (0 : Int64)) (by decide) ?_
    refine own_s_lcmp Xw2_y1.here hx (hb hby at_192) (pc' := 193) rfl (v := (lcmpW p1 (0 : Int64))) rfl ?_
    refine own_s_ifNo Xw2_y1.here hx (hb hby at_193) (pc' := 196) rfl w2_y_hb193 ?_
    refine own_s_iload Xw2_y1.here hx (hb hby at_196) (pc' := 198) rfl rfl ?_
    refine own_s_ifNo Xw2_y1.here hx (hb hby at_198) (pc' := 201) rfl (by decide) ?_
    refine own_s_lloadN Xw2_y1.here hx (hb hby at_201) (pc' := 202) rfl rfl ?_
    refine own_s_lload Xw2_y1.here hx (hb hby at_202) (pc' := 204) rfl rfl ?_
    refine own_s_lcmp Xw2_y1.here hx (hb hby at_204) (pc' := 205) rfl (v := (lcmpW p1 w2_y_v179)) rfl ?_
    refine own_s_ifNo Xw2_y1.here hx (hb hby at_205) (pc' := 208) rfl w2_y_hb205 ?_
    refine own_s_iconst Xw2_y1.here hx (hb hby at_208) (pc' := 209) rfl (v := (1 : Int32)) (by decide) ?_
    refine own_s_goto Xw2_y1.here hx (hb hby at_209) (by decide) (pc' := 213) (by decide) ?_
    refine own_s_istore Xw2_y1.here hx (hb hby at_213) (pc' := 215) rfl (L' := #[.val (.int p0), .val (.long p1), .second, .val (.int p2), .val (.int p3), .val (.int (2 : Int32)), .val (.ref st_PMAX), .val (.int (0 : Int32)), .val (.int w2_y_v100), .val (.double w2_y_v187), .second, .val (.int (1 : Int32)), .val (.long w2_y_v179), .second]) rfl ?_
    refine own_s_aload Xw2_y1.here hx (hb hby at_215) (pc' := 217) rfl rfl rfl ?_
    refine own_s_dload Xw2_y1.here hx (hb hby at_217) (pc' := 219) rfl rfl ?_
    refine stw2_y2.trans ?_
    show Steps p.tables e below (Tw2_y2.setTop (mkF m 222 #[.val (.int p0), .val (.long p1), .second, .val (.int p2), .val (.int p3), .val (.int (2 : Int32)), .val (.ref st_PMAX), .val (.int (0 : Int32)), .val (.int w2_y_v100), .val (.double w2_y_v187), .second, .val (.int (1 : Int32)), .val (.long w2_y_v179), .second] [(.int (1 : Int32))])) _
    refine own_s_iload Xw2_y2.here hx (hb hby at_222) (pc' := 224) rfl rfl ?_
    refine own_s_icmpNo Xw2_y2.here hx (hb hby at_224) (pc' := 227) rfl (by decide) ?_
    refine own_s_iconst Xw2_y2.here hx (hb hby at_227) (pc' := 228) rfl (v := (1 : Int32)) (by decide) ?_
    refine own_s_goto Xw2_y2.here hx (hb hby at_228) (by decide) (pc' := 232) (by decide) ?_
    exact retN Xw2_y2 hx (t := .boolean) Bd.returns (by simp) (hb hby at_232) hr
  · show own_Q0 n0 _ Tw2_y2.heap _
    rw [ew2_y2]
    exact ⟨rfl, Nw2_y2⟩
theorem own_ef_w3_4 (m : MethodId) (p0 : Int32) (p1 : Int64) (p2 : Int32) (p3 : Int32) : entryFrame m #[(.int p0), (.long p1), (.int p2), (.int p3)] maxLocals = mkF m 0 #[.val (.int p0), .val (.long p1), .second, .val (.int p2), .val (.int p3), .unset, .unset, .unset, .unset, .unset, .unset, .unset, .unset, .unset] [] := by first | (simp [entryFrame, mkF, argsToLocals, Value.category, maxLocals]; done) | rfl
set_option maxRecDepth 65536 in
set_option maxHeartbeats 40000000 in
theorem own_rm_w3_4 (l : Launch) (Z : State) (a0 : Array Value) (hw : ∀ d ∈ tables_1, d.before a0 Z = true) (ws : List Jvm.Cond) (p0 : Int32) (p1 : Int64) (p2 : Int32) (p3 : Int32) (st_EMIN : Addr) {w3_4_v3 : Int32} (h0 : Heap) (n0 : Nat) (Z0 : n0 ≤ h0.size) (E_st_EMIN : Exa Z h0 st_EMIN "com/example/libcredal/libcredal/checker/Query$Operator") (F_reward_st_EMIN : Fld Z h0 st_EMIN "com/example/libcredal/libcredal/checker/Query$Operator" "reward" "Z" (.int (1 : Int32))) (S_EMIN : Sta Z h0 "com/example/libcredal/libcredal/checker/Query$Operator" "EMIN" "Lcom/example/libcredal/libcredal/checker/Query$Operator;" (.ref st_EMIN)) (w3_4_hv3 : p0 &&& (2147483647 : Int32) = w3_4_v3) (w3_4_hv6 : w3_4_v3 % (6 : Int32) = (3 : Int32)) (w3_4_hv100 : p3 &&& (7 : Int32) = (4 : Int32)) (w3_4_c219_c1ff_hb3 : ifCond.holds .lt (Op.cmpValue (FP.dcmp (9218868437227405311 : UInt64) 0) .l) = false) (w3_4_c219_c1ff_hb22 : ifCond.holds .gt (Op.cmpValue (FP.dcmp (9218868437227405311 : UInt64) (9218868437227405311 : UInt64)) .g) = false) :
    MetFree l x (head1 (Jvm.Cond.code x code maxLocals ret :: ws) room_1) (fun a U => a = #[(.int p0), (.long p1), (.int p2), (.int p3)] ∧ Z.Warmed39 U.vm ∧ U.heap = h0) (fun _ _ _ _ _ => True) (fun _ U o U' => ∃ v L, o = .returned v ∧ own_Q0 n0 v U'.heap L ∧ FrameEnd U o U' L room_1.cells room_1.slots) := by
  refine MetFree.of_bodySF (plainFor_of_name own_pn_com_example_libcredal_libcredal_checker_OperatorAdmitsPinLaw) hisR ?_
  intro p e s m args below meth c s₁ Bd hml0 hP hK
  obtain ⟨rfl, hZ, hh⟩ := hP
  have hx := Bd.exec
  have hby := Bd.bytes
  have hml : c.maxLocals = 14 := hml0
  have hown : s.vm.findClass "com/example/libcredal/libcredal/checker/OperatorAdmitsPinLaw" = some m.cls := findClass_of_methodNamed Bd.named
  have hnm := (name_of_methodNamed Bd.named Bd.method).1
  have X0 : Stand p l e room_1 s m #[(.int p0), (.long p1), (.int p2), (.int p3)] below meth c s₁ [] 0 0 := Stand.of_body Bd
  have e0 : s₁.heap = h0 := by rw [← hh, Bd.state]; rfl
  have N0 := Fr.nil n0
  have pre0 : ∀ t, Steps p.tables e below (s₁.setTop (mkF m 0 #[.val (.int p0), .val (.long p1), .second, .val (.int p2), .val (.int p3), .unset, .unset, .unset, .unset, .unset, .unset, .unset, .unset, .unset] [])) t → Steps p.tables e below (s₁.setTop (entryFrame m #[(.int p0), (.long p1), (.int p2), (.int p3)] maxLocals)) t := fun t k => castTop (own_ef_w3_4 m p0 p1 p2 p3) k
  obtain ⟨Tw3_41, Xw3_41, ew3_41, stw3_41⟩ := getS2 X0 hx hZ hown (host := "") (Or.inl (hw _ (List.mem_of_getElem? (i := 11) rfl))) Via.refl e0 S_EMIN (g := (mkF m 56 #[.val (.int p0), .val (.long p1), .second, .val (.int p2), .val (.int p3), .val (.int (3 : Int32)), .unset, .unset, .unset, .unset, .unset, .unset, .unset, .unset] [])) rfl (hb hby at_56)
  obtain ⟨cqw3_42, kqw3_42, qw3_42a, qw3_42b, qw3_42c⟩ := isOf hZ ew3_41 E_st_EMIN
  obtain ⟨_, _, ⟨Tw3_42, Lw3_42, kw3_42, nw3_42⟩, -, Xw3_42, ⟨Lcw3_42, hQw3_42, lw3_42, yw3_42, zw3_42⟩, stw3_42⟩ := Xw3_41.virtualBack hx (y := (⟨"com/example/libcredal/libcredal/checker/Query$Operator", "admits", "(D)Z"⟩ : MethodName)) (z := (⟨"com/example/libcredal/libcredal/checker/Query$Operator", "admits", "(D)Z"⟩ : MethodName)) hown (mvT hZ (hw _ (List.mem_of_getElem? (i := 4) rfl))) (mvT hZ (hw _ (List.mem_of_getElem? (i := 5) rfl))) (notFace_of_selects (args := #[]) (mvT hZ (hw _ (List.mem_of_getElem? (i := 7) rfl)))) (mvT hZ (hw _ (List.mem_of_getElem? (i := 7) rfl))) (mvT hZ (hw _ (List.mem_of_getElem? (i := 6) rfl))) (by decide) (backOf (W := 0) (own_rm_c1ff l Z a0 hw [] st_EMIN (9218868437227405311 : UInt64) h0 n0 Z0 E_st_EMIN F_reward_st_EMIN w3_4_c219_c1ff_hb3 w3_4_c219_c1ff_hb22) hZ (hw _ (List.mem_of_getElem? (i := 8) rfl)) (hw _ (List.mem_of_getElem? (i := 2) rfl)) (by decide) (by decide)) qw3_42a qw3_42c (g := (mkF m 219 #[.val (.int p0), .val (.long p1), .second, .val (.int p2), .val (.int p3), .val (.int (3 : Int32)), .val (.ref st_EMIN), .val (.int (1 : Int32)), .val (.int (4 : Int32)), .val (.double (9218868437227405311 : UInt64)), .second, .val (.int (1 : Int32)), .unset, .unset] [(.double (9218868437227405311 : UInt64)), (.ref st_EMIN)])) rfl (by rw [hml]; rfl) (Steps.refl _) (argsL := [(.double (9218868437227405311 : UInt64))]) (rest := []) (lenOf own_pd_28D29Z rfl) rfl (by show 2 * 0 + _ ≤ _; exact Nat.le_of_eq rfl) (hb hby at_219) (fun _ _ => ⟨rfl, ew3_41, (by decide : 0 + 0 ≤ _), (by decide : 0 + 0 ≤ _)⟩)
  dsimp only [Pt.U, Pt.locs, Pt.cells, Pt.slots] at Xw3_42 lw3_42 yw3_42 zw3_42 stw3_42 hQw3_42
  rw [lw3_42, yw3_42, zw3_42] at Xw3_42
  obtain ⟨rfl, Nw3_42q, ew3_42⟩ := hQw3_42
  have Nw3_42 := Fr.app N0 Nw3_42q
  obtain ⟨fs, hr, hrun, hended, hW, hsame⟩ := Xw3_42.leave (v := some (.int (1 : Int32))) (fun h => by rw [Bd.returns] at h; cases h)
  refine ⟨_, _, pre0 _ ?_, hrun, hended, _, _, rfl, ?_, ⟨_, rfl⟩, hW, hsame.mono (by decide) (by decide)⟩
  · refine own_s_iloadN X0.here hx (hb hby at_0) (pc' := 1) rfl rfl ?_
    refine X0.ldcInt hx hown (mvT hZ (hw _ (List.mem_of_getElem? (i := 0) rfl))) (g := (mkF m 1 #[.val (.int p0), .val (.long p1), .second, .val (.int p2), .val (.int p3), .unset, .unset, .unset, .unset, .unset, .unset, .unset, .unset, .unset] [(.int p0)])) rfl (hb hby at_1) _ ?_
    show Steps p.tables e below (s₁.setTop (mkF m 3 #[.val (.int p0), .val (.long p1), .second, .val (.int p2), .val (.int p3), .unset, .unset, .unset, .unset, .unset, .unset, .unset, .unset, .unset] [(.int (2147483647 : Int32)), (.int p0)])) _
    refine own_s_iand X0.here hx (hb hby at_3) (pc' := 4) rfl (v := w3_4_v3) w3_4_hv3 ?_
    refine own_s_bipush X0.here hx (hb hby at_4) (pc' := 6) rfl (v := (6 : Int32)) (by decide) ?_
    refine own_s_irem X0.here hx (hb hby at_6) (pc' := 7) rfl (by decide) (v := (3 : Int32)) w3_4_hv6 ?_
    refine own_s_istore X0.here hx (hb hby at_7) (pc' := 9) rfl (L' := #[.val (.int p0), .val (.long p1), .second, .val (.int p2), .val (.int p3), .val (.int (3 : Int32)), .unset, .unset, .unset, .unset, .unset, .unset, .unset, .unset]) rfl ?_
    refine own_s_iload X0.here hx (hb hby at_9) (pc' := 11) rfl rfl ?_
    refine own_s_ifYes X0.here hx (hb hby at_11) (by decide) (pc' := 22) (by decide) (by decide) ?_
    refine own_s_iload X0.here hx (hb hby at_22) (pc' := 24) rfl rfl ?_
    refine own_s_iconst X0.here hx (hb hby at_24) (pc' := 25) rfl (v := (1 : Int32)) (by decide) ?_
    refine own_s_icmpYes X0.here hx (hb hby at_25) (by decide) (pc' := 36) (by decide) (by decide) ?_
    refine own_s_iload X0.here hx (hb hby at_36) (pc' := 38) rfl rfl ?_
    refine own_s_iconst X0.here hx (hb hby at_38) (pc' := 39) rfl (v := (2 : Int32)) (by decide) ?_
    refine own_s_icmpYes X0.here hx (hb hby at_39) (by decide) (pc' := 50) (by decide) (by decide) ?_
    refine own_s_iload X0.here hx (hb hby at_50) (pc' := 52) rfl rfl ?_
    refine own_s_iconst X0.here hx (hb hby at_52) (pc' := 53) rfl (v := (3 : Int32)) (by decide) ?_
    refine own_s_icmpNo X0.here hx (hb hby at_53) (pc' := 56) rfl (by decide) ?_
    refine stw3_41 _ ?_
    show Steps p.tables e below (Tw3_41.setTop (mkF m 59 #[.val (.int p0), .val (.long p1), .second, .val (.int p2), .val (.int p3), .val (.int (3 : Int32)), .unset, .unset, .unset, .unset, .unset, .unset, .unset, .unset] [(.ref st_EMIN)])) _
    refine own_s_astore Xw3_41.here hx (hb hby at_59) (pc' := 61) rfl rfl (L' := #[.val (.int p0), .val (.long p1), .second, .val (.int p2), .val (.int p3), .val (.int (3 : Int32)), .val (.ref st_EMIN), .unset, .unset, .unset, .unset, .unset, .unset, .unset]) rfl ?_
    refine own_s_goto Xw3_41.here hx (hb hby at_61) (by decide) (pc' := 83) (by decide) ?_
    refine own_s_iload Xw3_41.here hx (hb hby at_83) (pc' := 85) rfl rfl ?_
    refine own_s_iconst Xw3_41.here hx (hb hby at_85) (pc' := 86) rfl (v := (3 : Int32)) (by decide) ?_
    refine own_s_icmpNo Xw3_41.here hx (hb hby at_86) (pc' := 89) rfl (by decide) ?_
    refine own_s_iconst Xw3_41.here hx (hb hby at_89) (pc' := 90) rfl (v := (1 : Int32)) (by decide) ?_
    refine own_s_goto Xw3_41.here hx (hb hby at_90) (by decide) (pc' := 94) (by decide) ?_
    refine own_s_istore Xw3_41.here hx (hb hby at_94) (pc' := 96) rfl (L' := #[.val (.int p0), .val (.long p1), .second, .val (.int p2), .val (.int p3), .val (.int (3 : Int32)), .val (.ref st_EMIN), .val (.int (1 : Int32)), .unset, .unset, .unset, .unset, .unset, .unset]) rfl ?_
    refine own_s_iload Xw3_41.here hx (hb hby at_96) (pc' := 98) rfl rfl ?_
    refine own_s_bipush Xw3_41.here hx (hb hby at_98) (pc' := 100) rfl (v := (7 : Int32)) (by decide) ?_
    refine own_s_iand Xw3_41.here hx (hb hby at_100) (pc' := 101) rfl (v := (4 : Int32)) w3_4_hv100 ?_
    refine own_s_istore Xw3_41.here hx (hb hby at_101) (pc' := 103) rfl (L' := #[.val (.int p0), .val (.long p1), .second, .val (.int p2), .val (.int p3), .val (.int (3 : Int32)), .val (.ref st_EMIN), .val (.int (1 : Int32)), .val (.int (4 : Int32)), .unset, .unset, .unset, .unset, .unset]) rfl ?_
    refine own_s_iload Xw3_41.here hx (hb hby at_103) (pc' := 105) rfl rfl ?_
    refine own_s_iconst Xw3_41.here hx (hb hby at_105) (pc' := 106) rfl (v := (4 : Int32)) (by decide) ?_
    refine own_s_icmpNo Xw3_41.here hx (hb hby at_106) (pc' := 109) rfl (by decide) ?_
    refine Xw3_41.ldc2DoubleC hx hown (mvT hZ (hw _ (List.mem_of_getElem? (i := 19) rfl))) (g := (mkF m 109 #[.val (.int p0), .val (.long p1), .second, .val (.int p2), .val (.int p3), .val (.int (3 : Int32)), .val (.ref st_EMIN), .val (.int (1 : Int32)), .val (.int (4 : Int32)), .unset, .unset, .unset, .unset, .unset] [])) rfl (hb hby at_109) _ ?_
    show Steps p.tables e below (Tw3_41.setTop (mkF m 112 #[.val (.int p0), .val (.long p1), .second, .val (.int p2), .val (.int p3), .val (.int (3 : Int32)), .val (.ref st_EMIN), .val (.int (1 : Int32)), .val (.int (4 : Int32)), .unset, .unset, .unset, .unset, .unset] [(.double (9218868437227405311 : UInt64))])) _
    refine own_s_dstore Xw3_41.here hx (hb hby at_112) (pc' := 114) rfl (L' := #[.val (.int p0), .val (.long p1), .second, .val (.int p2), .val (.int p3), .val (.int (3 : Int32)), .val (.ref st_EMIN), .val (.int (1 : Int32)), .val (.int (4 : Int32)), .val (.double (9218868437227405311 : UInt64)), .second, .unset, .unset, .unset]) rfl ?_
    refine own_s_iload Xw3_41.here hx (hb hby at_114) (pc' := 116) rfl rfl ?_
    refine own_s_istore Xw3_41.here hx (hb hby at_116) (pc' := 118) rfl (L' := #[.val (.int p0), .val (.long p1), .second, .val (.int p2), .val (.int p3), .val (.int (3 : Int32)), .val (.ref st_EMIN), .val (.int (1 : Int32)), .val (.int (4 : Int32)), .val (.double (9218868437227405311 : UInt64)), .second, .val (.int (1 : Int32)), .unset, .unset]) rfl ?_
    refine own_s_goto Xw3_41.here hx (hb hby at_118) (by decide) (pc' := 215) (by decide) ?_
    refine own_s_aload Xw3_41.here hx (hb hby at_215) (pc' := 217) rfl rfl rfl ?_
    refine own_s_dload Xw3_41.here hx (hb hby at_217) (pc' := 219) rfl rfl ?_
    refine stw3_42.trans ?_
    show Steps p.tables e below (Tw3_42.setTop (mkF m 222 #[.val (.int p0), .val (.long p1), .second, .val (.int p2), .val (.int p3), .val (.int (3 : Int32)), .val (.ref st_EMIN), .val (.int (1 : Int32)), .val (.int (4 : Int32)), .val (.double (9218868437227405311 : UInt64)), .second, .val (.int (1 : Int32)), .unset, .unset] [(.int (1 : Int32))])) _
    refine own_s_iload Xw3_42.here hx (hb hby at_222) (pc' := 224) rfl rfl ?_
    refine own_s_icmpNo Xw3_42.here hx (hb hby at_224) (pc' := 227) rfl (by decide) ?_
    refine own_s_iconst Xw3_42.here hx (hb hby at_227) (pc' := 228) rfl (v := (1 : Int32)) (by decide) ?_
    refine own_s_goto Xw3_42.here hx (hb hby at_228) (by decide) (pc' := 232) (by decide) ?_
    exact retN Xw3_42 hx (t := .boolean) Bd.returns (by simp) (hb hby at_232) hr
  · show own_Q0 n0 _ Tw3_42.heap _
    rw [ew3_42]
    exact ⟨rfl, Nw3_42⟩
theorem own_ef_w3_5 (m : MethodId) (p0 : Int32) (p1 : Int64) (p2 : Int32) (p3 : Int32) : entryFrame m #[(.int p0), (.long p1), (.int p2), (.int p3)] maxLocals = mkF m 0 #[.val (.int p0), .val (.long p1), .second, .val (.int p2), .val (.int p3), .unset, .unset, .unset, .unset, .unset, .unset, .unset, .unset, .unset] [] := by first | (simp [entryFrame, mkF, argsToLocals, Value.category, maxLocals]; done) | rfl
set_option maxRecDepth 65536 in
set_option maxHeartbeats 40000000 in
theorem own_rm_w3_5 (l : Launch) (Z : State) (a0 : Array Value) (hw : ∀ d ∈ tables_1, d.before a0 Z = true) (ws : List Jvm.Cond) (p0 : Int32) (p1 : Int64) (p2 : Int32) (p3 : Int32) (st_EMIN : Addr) {w3_5_v3 : Int32} (h0 : Heap) (n0 : Nat) (Z0 : n0 ≤ h0.size) (E_st_EMIN : Exa Z h0 st_EMIN "com/example/libcredal/libcredal/checker/Query$Operator") (F_reward_st_EMIN : Fld Z h0 st_EMIN "com/example/libcredal/libcredal/checker/Query$Operator" "reward" "Z" (.int (1 : Int32))) (S_EMIN : Sta Z h0 "com/example/libcredal/libcredal/checker/Query$Operator" "EMIN" "Lcom/example/libcredal/libcredal/checker/Query$Operator;" (.ref st_EMIN)) (w3_5_hv3 : p0 &&& (2147483647 : Int32) = w3_5_v3) (w3_5_hv6 : w3_5_v3 % (6 : Int32) = (3 : Int32)) (w3_5_hv100 : p3 &&& (7 : Int32) = (5 : Int32)) (w3_5_c219_c1ft_hb3 : ifCond.holds .lt (Op.cmpValue (FP.dcmp (9218868437227405312 : UInt64) 0) .l) = false) (w3_5_c219_c1ft_hb22 : ifCond.holds .gt (Op.cmpValue (FP.dcmp (9218868437227405312 : UInt64) (9218868437227405311 : UInt64)) .g) = true) :
    MetFree l x (head1 (Jvm.Cond.code x code maxLocals ret :: ws) room_1) (fun a U => a = #[(.int p0), (.long p1), (.int p2), (.int p3)] ∧ Z.Warmed39 U.vm ∧ U.heap = h0) (fun _ _ _ _ _ => True) (fun _ U o U' => ∃ v L, o = .returned v ∧ own_Q0 n0 v U'.heap L ∧ FrameEnd U o U' L room_1.cells room_1.slots) := by
  refine MetFree.of_bodySF (plainFor_of_name own_pn_com_example_libcredal_libcredal_checker_OperatorAdmitsPinLaw) hisR ?_
  intro p e s m args below meth c s₁ Bd hml0 hP hK
  obtain ⟨rfl, hZ, hh⟩ := hP
  have hx := Bd.exec
  have hby := Bd.bytes
  have hml : c.maxLocals = 14 := hml0
  have hown : s.vm.findClass "com/example/libcredal/libcredal/checker/OperatorAdmitsPinLaw" = some m.cls := findClass_of_methodNamed Bd.named
  have hnm := (name_of_methodNamed Bd.named Bd.method).1
  have X0 : Stand p l e room_1 s m #[(.int p0), (.long p1), (.int p2), (.int p3)] below meth c s₁ [] 0 0 := Stand.of_body Bd
  have e0 : s₁.heap = h0 := by rw [← hh, Bd.state]; rfl
  have N0 := Fr.nil n0
  have pre0 : ∀ t, Steps p.tables e below (s₁.setTop (mkF m 0 #[.val (.int p0), .val (.long p1), .second, .val (.int p2), .val (.int p3), .unset, .unset, .unset, .unset, .unset, .unset, .unset, .unset, .unset] [])) t → Steps p.tables e below (s₁.setTop (entryFrame m #[(.int p0), (.long p1), (.int p2), (.int p3)] maxLocals)) t := fun t k => castTop (own_ef_w3_5 m p0 p1 p2 p3) k
  obtain ⟨Tw3_51, Xw3_51, ew3_51, stw3_51⟩ := getS2 X0 hx hZ hown (host := "") (Or.inl (hw _ (List.mem_of_getElem? (i := 11) rfl))) Via.refl e0 S_EMIN (g := (mkF m 56 #[.val (.int p0), .val (.long p1), .second, .val (.int p2), .val (.int p3), .val (.int (3 : Int32)), .unset, .unset, .unset, .unset, .unset, .unset, .unset, .unset] [])) rfl (hb hby at_56)
  obtain ⟨cqw3_52, kqw3_52, qw3_52a, qw3_52b, qw3_52c⟩ := isOf hZ ew3_51 E_st_EMIN
  obtain ⟨_, _, ⟨Tw3_52, Lw3_52, kw3_52, nw3_52⟩, -, Xw3_52, ⟨Lcw3_52, hQw3_52, lw3_52, yw3_52, zw3_52⟩, stw3_52⟩ := Xw3_51.virtualBack hx (y := (⟨"com/example/libcredal/libcredal/checker/Query$Operator", "admits", "(D)Z"⟩ : MethodName)) (z := (⟨"com/example/libcredal/libcredal/checker/Query$Operator", "admits", "(D)Z"⟩ : MethodName)) hown (mvT hZ (hw _ (List.mem_of_getElem? (i := 4) rfl))) (mvT hZ (hw _ (List.mem_of_getElem? (i := 5) rfl))) (notFace_of_selects (args := #[]) (mvT hZ (hw _ (List.mem_of_getElem? (i := 7) rfl)))) (mvT hZ (hw _ (List.mem_of_getElem? (i := 7) rfl))) (mvT hZ (hw _ (List.mem_of_getElem? (i := 6) rfl))) (by decide) (backOf (W := 0) (own_rm_c1ft l Z a0 hw [] st_EMIN (9218868437227405312 : UInt64) h0 n0 Z0 E_st_EMIN F_reward_st_EMIN w3_5_c219_c1ft_hb3 w3_5_c219_c1ft_hb22) hZ (hw _ (List.mem_of_getElem? (i := 8) rfl)) (hw _ (List.mem_of_getElem? (i := 2) rfl)) (by decide) (by decide)) qw3_52a qw3_52c (g := (mkF m 219 #[.val (.int p0), .val (.long p1), .second, .val (.int p2), .val (.int p3), .val (.int (3 : Int32)), .val (.ref st_EMIN), .val (.int (1 : Int32)), .val (.int (5 : Int32)), .val (.double (9218868437227405312 : UInt64)), .second, .val (.int (0 : Int32)), .unset, .unset] [(.double (9218868437227405312 : UInt64)), (.ref st_EMIN)])) rfl (by rw [hml]; rfl) (Steps.refl _) (argsL := [(.double (9218868437227405312 : UInt64))]) (rest := []) (lenOf own_pd_28D29Z rfl) rfl (by show 2 * 0 + _ ≤ _; exact Nat.le_of_eq rfl) (hb hby at_219) (fun _ _ => ⟨rfl, ew3_51, (by decide : 0 + 0 ≤ _), (by decide : 0 + 0 ≤ _)⟩)
  dsimp only [Pt.U, Pt.locs, Pt.cells, Pt.slots] at Xw3_52 lw3_52 yw3_52 zw3_52 stw3_52 hQw3_52
  rw [lw3_52, yw3_52, zw3_52] at Xw3_52
  obtain ⟨rfl, Nw3_52q, ew3_52⟩ := hQw3_52
  have Nw3_52 := Fr.app N0 Nw3_52q
  obtain ⟨fs, hr, hrun, hended, hW, hsame⟩ := Xw3_52.leave (v := some (.int (1 : Int32))) (fun h => by rw [Bd.returns] at h; cases h)
  refine ⟨_, _, pre0 _ ?_, hrun, hended, _, _, rfl, ?_, ⟨_, rfl⟩, hW, hsame.mono (by decide) (by decide)⟩
  · refine own_s_iloadN X0.here hx (hb hby at_0) (pc' := 1) rfl rfl ?_
    refine X0.ldcInt hx hown (mvT hZ (hw _ (List.mem_of_getElem? (i := 0) rfl))) (g := (mkF m 1 #[.val (.int p0), .val (.long p1), .second, .val (.int p2), .val (.int p3), .unset, .unset, .unset, .unset, .unset, .unset, .unset, .unset, .unset] [(.int p0)])) rfl (hb hby at_1) _ ?_
    show Steps p.tables e below (s₁.setTop (mkF m 3 #[.val (.int p0), .val (.long p1), .second, .val (.int p2), .val (.int p3), .unset, .unset, .unset, .unset, .unset, .unset, .unset, .unset, .unset] [(.int (2147483647 : Int32)), (.int p0)])) _
    refine own_s_iand X0.here hx (hb hby at_3) (pc' := 4) rfl (v := w3_5_v3) w3_5_hv3 ?_
    refine own_s_bipush X0.here hx (hb hby at_4) (pc' := 6) rfl (v := (6 : Int32)) (by decide) ?_
    refine own_s_irem X0.here hx (hb hby at_6) (pc' := 7) rfl (by decide) (v := (3 : Int32)) w3_5_hv6 ?_
    refine own_s_istore X0.here hx (hb hby at_7) (pc' := 9) rfl (L' := #[.val (.int p0), .val (.long p1), .second, .val (.int p2), .val (.int p3), .val (.int (3 : Int32)), .unset, .unset, .unset, .unset, .unset, .unset, .unset, .unset]) rfl ?_
    refine own_s_iload X0.here hx (hb hby at_9) (pc' := 11) rfl rfl ?_
    refine own_s_ifYes X0.here hx (hb hby at_11) (by decide) (pc' := 22) (by decide) (by decide) ?_
    refine own_s_iload X0.here hx (hb hby at_22) (pc' := 24) rfl rfl ?_
    refine own_s_iconst X0.here hx (hb hby at_24) (pc' := 25) rfl (v := (1 : Int32)) (by decide) ?_
    refine own_s_icmpYes X0.here hx (hb hby at_25) (by decide) (pc' := 36) (by decide) (by decide) ?_
    refine own_s_iload X0.here hx (hb hby at_36) (pc' := 38) rfl rfl ?_
    refine own_s_iconst X0.here hx (hb hby at_38) (pc' := 39) rfl (v := (2 : Int32)) (by decide) ?_
    refine own_s_icmpYes X0.here hx (hb hby at_39) (by decide) (pc' := 50) (by decide) (by decide) ?_
    refine own_s_iload X0.here hx (hb hby at_50) (pc' := 52) rfl rfl ?_
    refine own_s_iconst X0.here hx (hb hby at_52) (pc' := 53) rfl (v := (3 : Int32)) (by decide) ?_
    refine own_s_icmpNo X0.here hx (hb hby at_53) (pc' := 56) rfl (by decide) ?_
    refine stw3_51 _ ?_
    show Steps p.tables e below (Tw3_51.setTop (mkF m 59 #[.val (.int p0), .val (.long p1), .second, .val (.int p2), .val (.int p3), .val (.int (3 : Int32)), .unset, .unset, .unset, .unset, .unset, .unset, .unset, .unset] [(.ref st_EMIN)])) _
    refine own_s_astore Xw3_51.here hx (hb hby at_59) (pc' := 61) rfl rfl (L' := #[.val (.int p0), .val (.long p1), .second, .val (.int p2), .val (.int p3), .val (.int (3 : Int32)), .val (.ref st_EMIN), .unset, .unset, .unset, .unset, .unset, .unset, .unset]) rfl ?_
    refine own_s_goto Xw3_51.here hx (hb hby at_61) (by decide) (pc' := 83) (by decide) ?_
    refine own_s_iload Xw3_51.here hx (hb hby at_83) (pc' := 85) rfl rfl ?_
    refine own_s_iconst Xw3_51.here hx (hb hby at_85) (pc' := 86) rfl (v := (3 : Int32)) (by decide) ?_
    refine own_s_icmpNo Xw3_51.here hx (hb hby at_86) (pc' := 89) rfl (by decide) ?_
    refine own_s_iconst Xw3_51.here hx (hb hby at_89) (pc' := 90) rfl (v := (1 : Int32)) (by decide) ?_
    refine own_s_goto Xw3_51.here hx (hb hby at_90) (by decide) (pc' := 94) (by decide) ?_
    refine own_s_istore Xw3_51.here hx (hb hby at_94) (pc' := 96) rfl (L' := #[.val (.int p0), .val (.long p1), .second, .val (.int p2), .val (.int p3), .val (.int (3 : Int32)), .val (.ref st_EMIN), .val (.int (1 : Int32)), .unset, .unset, .unset, .unset, .unset, .unset]) rfl ?_
    refine own_s_iload Xw3_51.here hx (hb hby at_96) (pc' := 98) rfl rfl ?_
    refine own_s_bipush Xw3_51.here hx (hb hby at_98) (pc' := 100) rfl (v := (7 : Int32)) (by decide) ?_
    refine own_s_iand Xw3_51.here hx (hb hby at_100) (pc' := 101) rfl (v := (5 : Int32)) w3_5_hv100 ?_
    refine own_s_istore Xw3_51.here hx (hb hby at_101) (pc' := 103) rfl (L' := #[.val (.int p0), .val (.long p1), .second, .val (.int p2), .val (.int p3), .val (.int (3 : Int32)), .val (.ref st_EMIN), .val (.int (1 : Int32)), .val (.int (5 : Int32)), .unset, .unset, .unset, .unset, .unset]) rfl ?_
    refine own_s_iload Xw3_51.here hx (hb hby at_103) (pc' := 105) rfl rfl ?_
    refine own_s_iconst Xw3_51.here hx (hb hby at_105) (pc' := 106) rfl (v := (4 : Int32)) (by decide) ?_
    refine own_s_icmpYes Xw3_51.here hx (hb hby at_106) (by decide) (pc' := 121) (by decide) (by decide) ?_
    refine own_s_iload Xw3_51.here hx (hb hby at_121) (pc' := 123) rfl rfl ?_
    refine own_s_iconst Xw3_51.here hx (hb hby at_123) (pc' := 124) rfl (v := (5 : Int32)) (by decide) ?_
    refine own_s_icmpNo Xw3_51.here hx (hb hby at_124) (pc' := 127) rfl (by decide) ?_
    refine Xw3_51.ldc2DoubleC hx hown (mvT hZ (hw _ (List.mem_of_getElem? (i := 23) rfl))) (g := (mkF m 127 #[.val (.int p0), .val (.long p1), .second, .val (.int p2), .val (.int p3), .val (.int (3 : Int32)), .val (.ref st_EMIN), .val (.int (1 : Int32)), .val (.int (5 : Int32)), .unset, .unset, .unset, .unset, .unset] [])) rfl (hb hby at_127) _ ?_
    show Steps p.tables e below (Tw3_51.setTop (mkF m 130 #[.val (.int p0), .val (.long p1), .second, .val (.int p2), .val (.int p3), .val (.int (3 : Int32)), .val (.ref st_EMIN), .val (.int (1 : Int32)), .val (.int (5 : Int32)), .unset, .unset, .unset, .unset, .unset] [(.double (9218868437227405312 : UInt64))])) _
    refine own_s_dstore Xw3_51.here hx (hb hby at_130) (pc' := 132) rfl (L' := #[.val (.int p0), .val (.long p1), .second, .val (.int p2), .val (.int p3), .val (.int (3 : Int32)), .val (.ref st_EMIN), .val (.int (1 : Int32)), .val (.int (5 : Int32)), .val (.double (9218868437227405312 : UInt64)), .second, .unset, .unset, .unset]) rfl ?_
    refine own_s_iconst Xw3_51.here hx (hb hby at_132) (pc' := 133) rfl (v := (0 : Int32)) (by decide) ?_
    refine own_s_istore Xw3_51.here hx (hb hby at_133) (pc' := 135) rfl (L' := #[.val (.int p0), .val (.long p1), .second, .val (.int p2), .val (.int p3), .val (.int (3 : Int32)), .val (.ref st_EMIN), .val (.int (1 : Int32)), .val (.int (5 : Int32)), .val (.double (9218868437227405312 : UInt64)), .second, .val (.int (0 : Int32)), .unset, .unset]) rfl ?_
    refine own_s_goto Xw3_51.here hx (hb hby at_135) (by decide) (pc' := 215) (by decide) ?_
    refine own_s_aload Xw3_51.here hx (hb hby at_215) (pc' := 217) rfl rfl rfl ?_
    refine own_s_dload Xw3_51.here hx (hb hby at_217) (pc' := 219) rfl rfl ?_
    refine stw3_52.trans ?_
    show Steps p.tables e below (Tw3_52.setTop (mkF m 222 #[.val (.int p0), .val (.long p1), .second, .val (.int p2), .val (.int p3), .val (.int (3 : Int32)), .val (.ref st_EMIN), .val (.int (1 : Int32)), .val (.int (5 : Int32)), .val (.double (9218868437227405312 : UInt64)), .second, .val (.int (0 : Int32)), .unset, .unset] [(.int (0 : Int32))])) _
    refine own_s_iload Xw3_52.here hx (hb hby at_222) (pc' := 224) rfl rfl ?_
    refine own_s_icmpNo Xw3_52.here hx (hb hby at_224) (pc' := 227) rfl (by decide) ?_
    refine own_s_iconst Xw3_52.here hx (hb hby at_227) (pc' := 228) rfl (v := (1 : Int32)) (by decide) ?_
    refine own_s_goto Xw3_52.here hx (hb hby at_228) (by decide) (pc' := 232) (by decide) ?_
    exact retN Xw3_52 hx (t := .boolean) Bd.returns (by simp) (hb hby at_232) hr
  · show own_Q0 n0 _ Tw3_52.heap _
    rw [ew3_52]
    exact ⟨rfl, Nw3_52⟩
theorem own_ef_w3_6 (m : MethodId) (p0 : Int32) (p1 : Int64) (p2 : Int32) (p3 : Int32) : entryFrame m #[(.int p0), (.long p1), (.int p2), (.int p3)] maxLocals = mkF m 0 #[.val (.int p0), .val (.long p1), .second, .val (.int p2), .val (.int p3), .unset, .unset, .unset, .unset, .unset, .unset, .unset, .unset, .unset] [] := by first | (simp [entryFrame, mkF, argsToLocals, Value.category, maxLocals]; done) | rfl
set_option maxRecDepth 65536 in
set_option maxHeartbeats 40000000 in
theorem own_rm_w3_6 (l : Launch) (Z : State) (a0 : Array Value) (hw : ∀ d ∈ tables_1, d.before a0 Z = true) (ws : List Jvm.Cond) (p0 : Int32) (p1 : Int64) (p2 : Int32) (p3 : Int32) (st_EMIN : Addr) {w3_6_v3 : Int32} (h0 : Heap) (n0 : Nat) (Z0 : n0 ≤ h0.size) (E_st_EMIN : Exa Z h0 st_EMIN "com/example/libcredal/libcredal/checker/Query$Operator") (F_reward_st_EMIN : Fld Z h0 st_EMIN "com/example/libcredal/libcredal/checker/Query$Operator" "reward" "Z" (.int (1 : Int32))) (S_EMIN : Sta Z h0 "com/example/libcredal/libcredal/checker/Query$Operator" "EMIN" "Lcom/example/libcredal/libcredal/checker/Query$Operator;" (.ref st_EMIN)) (w3_6_hv3 : p0 &&& (2147483647 : Int32) = w3_6_v3) (w3_6_hv6 : w3_6_v3 % (6 : Int32) = (3 : Int32)) (w3_6_hv100 : p3 &&& (7 : Int32) = (6 : Int32)) (w3_6_c219_c1t_hb3 : ifCond.holds .lt (Op.cmpValue (FP.dcmp (18442240474082181120 : UInt64) 0) .l) = true) :
    MetFree l x (head1 (Jvm.Cond.code x code maxLocals ret :: ws) room_1) (fun a U => a = #[(.int p0), (.long p1), (.int p2), (.int p3)] ∧ Z.Warmed39 U.vm ∧ U.heap = h0) (fun _ _ _ _ _ => True) (fun _ U o U' => ∃ v L, o = .returned v ∧ own_Q0 n0 v U'.heap L ∧ FrameEnd U o U' L room_1.cells room_1.slots) := by
  refine MetFree.of_bodySF (plainFor_of_name own_pn_com_example_libcredal_libcredal_checker_OperatorAdmitsPinLaw) hisR ?_
  intro p e s m args below meth c s₁ Bd hml0 hP hK
  obtain ⟨rfl, hZ, hh⟩ := hP
  have hx := Bd.exec
  have hby := Bd.bytes
  have hml : c.maxLocals = 14 := hml0
  have hown : s.vm.findClass "com/example/libcredal/libcredal/checker/OperatorAdmitsPinLaw" = some m.cls := findClass_of_methodNamed Bd.named
  have hnm := (name_of_methodNamed Bd.named Bd.method).1
  have X0 : Stand p l e room_1 s m #[(.int p0), (.long p1), (.int p2), (.int p3)] below meth c s₁ [] 0 0 := Stand.of_body Bd
  have e0 : s₁.heap = h0 := by rw [← hh, Bd.state]; rfl
  have N0 := Fr.nil n0
  have pre0 : ∀ t, Steps p.tables e below (s₁.setTop (mkF m 0 #[.val (.int p0), .val (.long p1), .second, .val (.int p2), .val (.int p3), .unset, .unset, .unset, .unset, .unset, .unset, .unset, .unset, .unset] [])) t → Steps p.tables e below (s₁.setTop (entryFrame m #[(.int p0), (.long p1), (.int p2), (.int p3)] maxLocals)) t := fun t k => castTop (own_ef_w3_6 m p0 p1 p2 p3) k
  obtain ⟨Tw3_61, Xw3_61, ew3_61, stw3_61⟩ := getS2 X0 hx hZ hown (host := "") (Or.inl (hw _ (List.mem_of_getElem? (i := 11) rfl))) Via.refl e0 S_EMIN (g := (mkF m 56 #[.val (.int p0), .val (.long p1), .second, .val (.int p2), .val (.int p3), .val (.int (3 : Int32)), .unset, .unset, .unset, .unset, .unset, .unset, .unset, .unset] [])) rfl (hb hby at_56)
  obtain ⟨cqw3_62, kqw3_62, qw3_62a, qw3_62b, qw3_62c⟩ := isOf hZ ew3_61 E_st_EMIN
  obtain ⟨_, _, ⟨Tw3_62, Lw3_62, kw3_62, nw3_62⟩, -, Xw3_62, ⟨Lcw3_62, hQw3_62, lw3_62, yw3_62, zw3_62⟩, stw3_62⟩ := Xw3_61.virtualBack hx (y := (⟨"com/example/libcredal/libcredal/checker/Query$Operator", "admits", "(D)Z"⟩ : MethodName)) (z := (⟨"com/example/libcredal/libcredal/checker/Query$Operator", "admits", "(D)Z"⟩ : MethodName)) hown (mvT hZ (hw _ (List.mem_of_getElem? (i := 4) rfl))) (mvT hZ (hw _ (List.mem_of_getElem? (i := 5) rfl))) (notFace_of_selects (args := #[]) (mvT hZ (hw _ (List.mem_of_getElem? (i := 7) rfl)))) (mvT hZ (hw _ (List.mem_of_getElem? (i := 7) rfl))) (mvT hZ (hw _ (List.mem_of_getElem? (i := 6) rfl))) (by decide) (backOf (W := 0) (own_rm_c1t l Z a0 hw [] st_EMIN (18442240474082181120 : UInt64) h0 n0 Z0 E_st_EMIN F_reward_st_EMIN w3_6_c219_c1t_hb3) hZ (hw _ (List.mem_of_getElem? (i := 8) rfl)) (hw _ (List.mem_of_getElem? (i := 2) rfl)) (by decide) (by decide)) qw3_62a qw3_62c (g := (mkF m 219 #[.val (.int p0), .val (.long p1), .second, .val (.int p2), .val (.int p3), .val (.int (3 : Int32)), .val (.ref st_EMIN), .val (.int (1 : Int32)), .val (.int (6 : Int32)), .val (.double (18442240474082181120 : UInt64)), .second, .val (.int (0 : Int32)), .unset, .unset] [(.double (18442240474082181120 : UInt64)), (.ref st_EMIN)])) rfl (by rw [hml]; rfl) (Steps.refl _) (argsL := [(.double (18442240474082181120 : UInt64))]) (rest := []) (lenOf own_pd_28D29Z rfl) rfl (by show 2 * 0 + _ ≤ _; exact Nat.le_of_eq rfl) (hb hby at_219) (fun _ _ => ⟨rfl, ew3_61, (by decide : 0 + 0 ≤ _), (by decide : 0 + 0 ≤ _)⟩)
  dsimp only [Pt.U, Pt.locs, Pt.cells, Pt.slots] at Xw3_62 lw3_62 yw3_62 zw3_62 stw3_62 hQw3_62
  rw [lw3_62, yw3_62, zw3_62] at Xw3_62
  obtain ⟨rfl, Nw3_62q, ew3_62⟩ := hQw3_62
  have Nw3_62 := Fr.app N0 Nw3_62q
  obtain ⟨fs, hr, hrun, hended, hW, hsame⟩ := Xw3_62.leave (v := some (.int (1 : Int32))) (fun h => by rw [Bd.returns] at h; cases h)
  refine ⟨_, _, pre0 _ ?_, hrun, hended, _, _, rfl, ?_, ⟨_, rfl⟩, hW, hsame.mono (by decide) (by decide)⟩
  · refine own_s_iloadN X0.here hx (hb hby at_0) (pc' := 1) rfl rfl ?_
    refine X0.ldcInt hx hown (mvT hZ (hw _ (List.mem_of_getElem? (i := 0) rfl))) (g := (mkF m 1 #[.val (.int p0), .val (.long p1), .second, .val (.int p2), .val (.int p3), .unset, .unset, .unset, .unset, .unset, .unset, .unset, .unset, .unset] [(.int p0)])) rfl (hb hby at_1) _ ?_
    show Steps p.tables e below (s₁.setTop (mkF m 3 #[.val (.int p0), .val (.long p1), .second, .val (.int p2), .val (.int p3), .unset, .unset, .unset, .unset, .unset, .unset, .unset, .unset, .unset] [(.int (2147483647 : Int32)), (.int p0)])) _
    refine own_s_iand X0.here hx (hb hby at_3) (pc' := 4) rfl (v := w3_6_v3) w3_6_hv3 ?_
    refine own_s_bipush X0.here hx (hb hby at_4) (pc' := 6) rfl (v := (6 : Int32)) (by decide) ?_
    refine own_s_irem X0.here hx (hb hby at_6) (pc' := 7) rfl (by decide) (v := (3 : Int32)) w3_6_hv6 ?_
    refine own_s_istore X0.here hx (hb hby at_7) (pc' := 9) rfl (L' := #[.val (.int p0), .val (.long p1), .second, .val (.int p2), .val (.int p3), .val (.int (3 : Int32)), .unset, .unset, .unset, .unset, .unset, .unset, .unset, .unset]) rfl ?_
    refine own_s_iload X0.here hx (hb hby at_9) (pc' := 11) rfl rfl ?_
    refine own_s_ifYes X0.here hx (hb hby at_11) (by decide) (pc' := 22) (by decide) (by decide) ?_
    refine own_s_iload X0.here hx (hb hby at_22) (pc' := 24) rfl rfl ?_
    refine own_s_iconst X0.here hx (hb hby at_24) (pc' := 25) rfl (v := (1 : Int32)) (by decide) ?_
    refine own_s_icmpYes X0.here hx (hb hby at_25) (by decide) (pc' := 36) (by decide) (by decide) ?_
    refine own_s_iload X0.here hx (hb hby at_36) (pc' := 38) rfl rfl ?_
    refine own_s_iconst X0.here hx (hb hby at_38) (pc' := 39) rfl (v := (2 : Int32)) (by decide) ?_
    refine own_s_icmpYes X0.here hx (hb hby at_39) (by decide) (pc' := 50) (by decide) (by decide) ?_
    refine own_s_iload X0.here hx (hb hby at_50) (pc' := 52) rfl rfl ?_
    refine own_s_iconst X0.here hx (hb hby at_52) (pc' := 53) rfl (v := (3 : Int32)) (by decide) ?_
    refine own_s_icmpNo X0.here hx (hb hby at_53) (pc' := 56) rfl (by decide) ?_
    refine stw3_61 _ ?_
    show Steps p.tables e below (Tw3_61.setTop (mkF m 59 #[.val (.int p0), .val (.long p1), .second, .val (.int p2), .val (.int p3), .val (.int (3 : Int32)), .unset, .unset, .unset, .unset, .unset, .unset, .unset, .unset] [(.ref st_EMIN)])) _
    refine own_s_astore Xw3_61.here hx (hb hby at_59) (pc' := 61) rfl rfl (L' := #[.val (.int p0), .val (.long p1), .second, .val (.int p2), .val (.int p3), .val (.int (3 : Int32)), .val (.ref st_EMIN), .unset, .unset, .unset, .unset, .unset, .unset, .unset]) rfl ?_
    refine own_s_goto Xw3_61.here hx (hb hby at_61) (by decide) (pc' := 83) (by decide) ?_
    refine own_s_iload Xw3_61.here hx (hb hby at_83) (pc' := 85) rfl rfl ?_
    refine own_s_iconst Xw3_61.here hx (hb hby at_85) (pc' := 86) rfl (v := (3 : Int32)) (by decide) ?_
    refine own_s_icmpNo Xw3_61.here hx (hb hby at_86) (pc' := 89) rfl (by decide) ?_
    refine own_s_iconst Xw3_61.here hx (hb hby at_89) (pc' := 90) rfl (v := (1 : Int32)) (by decide) ?_
    refine own_s_goto Xw3_61.here hx (hb hby at_90) (by decide) (pc' := 94) (by decide) ?_
    refine own_s_istore Xw3_61.here hx (hb hby at_94) (pc' := 96) rfl (L' := #[.val (.int p0), .val (.long p1), .second, .val (.int p2), .val (.int p3), .val (.int (3 : Int32)), .val (.ref st_EMIN), .val (.int (1 : Int32)), .unset, .unset, .unset, .unset, .unset, .unset]) rfl ?_
    refine own_s_iload Xw3_61.here hx (hb hby at_96) (pc' := 98) rfl rfl ?_
    refine own_s_bipush Xw3_61.here hx (hb hby at_98) (pc' := 100) rfl (v := (7 : Int32)) (by decide) ?_
    refine own_s_iand Xw3_61.here hx (hb hby at_100) (pc' := 101) rfl (v := (6 : Int32)) w3_6_hv100 ?_
    refine own_s_istore Xw3_61.here hx (hb hby at_101) (pc' := 103) rfl (L' := #[.val (.int p0), .val (.long p1), .second, .val (.int p2), .val (.int p3), .val (.int (3 : Int32)), .val (.ref st_EMIN), .val (.int (1 : Int32)), .val (.int (6 : Int32)), .unset, .unset, .unset, .unset, .unset]) rfl ?_
    refine own_s_iload Xw3_61.here hx (hb hby at_103) (pc' := 105) rfl rfl ?_
    refine own_s_iconst Xw3_61.here hx (hb hby at_105) (pc' := 106) rfl (v := (4 : Int32)) (by decide) ?_
    refine own_s_icmpYes Xw3_61.here hx (hb hby at_106) (by decide) (pc' := 121) (by decide) (by decide) ?_
    refine own_s_iload Xw3_61.here hx (hb hby at_121) (pc' := 123) rfl rfl ?_
    refine own_s_iconst Xw3_61.here hx (hb hby at_123) (pc' := 124) rfl (v := (5 : Int32)) (by decide) ?_
    refine own_s_icmpYes Xw3_61.here hx (hb hby at_124) (by decide) (pc' := 138) (by decide) (by decide) ?_
    refine own_s_iload Xw3_61.here hx (hb hby at_138) (pc' := 140) rfl rfl ?_
    refine own_s_bipush Xw3_61.here hx (hb hby at_140) (pc' := 142) rfl (v := (6 : Int32)) (by decide) ?_
    refine own_s_icmpNo Xw3_61.here hx (hb hby at_142) (pc' := 145) rfl (by decide) ?_
    refine Xw3_61.ldc2DoubleC hx hown (mvT hZ (hw _ (List.mem_of_getElem? (i := 20) rfl))) (g := (mkF m 145 #[.val (.int p0), .val (.long p1), .second, .val (.int p2), .val (.int p3), .val (.int (3 : Int32)), .val (.ref st_EMIN), .val (.int (1 : Int32)), .val (.int (6 : Int32)), .unset, .unset, .unset, .unset, .unset] [])) rfl (hb hby at_145) _ ?_
    show Steps p.tables e below (Tw3_61.setTop (mkF m 148 #[.val (.int p0), .val (.long p1), .second, .val (.int p2), .val (.int p3), .val (.int (3 : Int32)), .val (.ref st_EMIN), .val (.int (1 : Int32)), .val (.int (6 : Int32)), .unset, .unset, .unset, .unset, .unset] [(.double (18442240474082181120 : UInt64))])) _
    refine own_s_dstore Xw3_61.here hx (hb hby at_148) (pc' := 150) rfl (L' := #[.val (.int p0), .val (.long p1), .second, .val (.int p2), .val (.int p3), .val (.int (3 : Int32)), .val (.ref st_EMIN), .val (.int (1 : Int32)), .val (.int (6 : Int32)), .val (.double (18442240474082181120 : UInt64)), .second, .unset, .unset, .unset]) rfl ?_
    refine own_s_iconst Xw3_61.here hx (hb hby at_150) (pc' := 151) rfl (v := (0 : Int32)) (by decide) ?_
    refine own_s_istore Xw3_61.here hx (hb hby at_151) (pc' := 153) rfl (L' := #[.val (.int p0), .val (.long p1), .second, .val (.int p2), .val (.int p3), .val (.int (3 : Int32)), .val (.ref st_EMIN), .val (.int (1 : Int32)), .val (.int (6 : Int32)), .val (.double (18442240474082181120 : UInt64)), .second, .val (.int (0 : Int32)), .unset, .unset]) rfl ?_
    refine own_s_goto Xw3_61.here hx (hb hby at_153) (by decide) (pc' := 215) (by decide) ?_
    refine own_s_aload Xw3_61.here hx (hb hby at_215) (pc' := 217) rfl rfl rfl ?_
    refine own_s_dload Xw3_61.here hx (hb hby at_217) (pc' := 219) rfl rfl ?_
    refine stw3_62.trans ?_
    show Steps p.tables e below (Tw3_62.setTop (mkF m 222 #[.val (.int p0), .val (.long p1), .second, .val (.int p2), .val (.int p3), .val (.int (3 : Int32)), .val (.ref st_EMIN), .val (.int (1 : Int32)), .val (.int (6 : Int32)), .val (.double (18442240474082181120 : UInt64)), .second, .val (.int (0 : Int32)), .unset, .unset] [(.int (0 : Int32))])) _
    refine own_s_iload Xw3_62.here hx (hb hby at_222) (pc' := 224) rfl rfl ?_
    refine own_s_icmpNo Xw3_62.here hx (hb hby at_224) (pc' := 227) rfl (by decide) ?_
    refine own_s_iconst Xw3_62.here hx (hb hby at_227) (pc' := 228) rfl (v := (1 : Int32)) (by decide) ?_
    refine own_s_goto Xw3_62.here hx (hb hby at_228) (by decide) (pc' := 232) (by decide) ?_
    exact retN Xw3_62 hx (t := .boolean) Bd.returns (by simp) (hb hby at_232) hr
  · show own_Q0 n0 _ Tw3_62.heap _
    rw [ew3_62]
    exact ⟨rfl, Nw3_62⟩
theorem own_ef_w3_7 (m : MethodId) (p0 : Int32) (p1 : Int64) (p2 : Int32) (p3 : Int32) : entryFrame m #[(.int p0), (.long p1), (.int p2), (.int p3)] maxLocals = mkF m 0 #[.val (.int p0), .val (.long p1), .second, .val (.int p2), .val (.int p3), .unset, .unset, .unset, .unset, .unset, .unset, .unset, .unset, .unset] [] := by first | (simp [entryFrame, mkF, argsToLocals, Value.category, maxLocals]; done) | rfl
set_option maxRecDepth 65536 in
set_option maxHeartbeats 40000000 in
theorem own_rm_w3_7 (l : Launch) (Z : State) (a0 : Array Value) (hw : ∀ d ∈ tables_1, d.before a0 Z = true) (ws : List Jvm.Cond) (p0 : Int32) (p1 : Int64) (p2 : Int32) (p3 : Int32) (st_EMIN : Addr) {w3_7_v3 : Int32} (h0 : Heap) (n0 : Nat) (Z0 : n0 ≤ h0.size) (E_st_EMIN : Exa Z h0 st_EMIN "com/example/libcredal/libcredal/checker/Query$Operator") (F_reward_st_EMIN : Fld Z h0 st_EMIN "com/example/libcredal/libcredal/checker/Query$Operator" "reward" "Z" (.int (1 : Int32))) (S_EMIN : Sta Z h0 "com/example/libcredal/libcredal/checker/Query$Operator" "EMIN" "Lcom/example/libcredal/libcredal/checker/Query$Operator;" (.ref st_EMIN)) (w3_7_hv3 : p0 &&& (2147483647 : Int32) = w3_7_v3) (w3_7_hv6 : w3_7_v3 % (6 : Int32) = (3 : Int32)) (w3_7_hv100 : p3 &&& (7 : Int32) = (7 : Int32)) (w3_7_c219_c1ff_hb3 : ifCond.holds .lt (Op.cmpValue (FP.dcmp (9223372036854775808 : UInt64) 0) .l) = false) (w3_7_c219_c1ff_hb22 : ifCond.holds .gt (Op.cmpValue (FP.dcmp (9223372036854775808 : UInt64) (9218868437227405311 : UInt64)) .g) = false) :
    MetFree l x (head1 (Jvm.Cond.code x code maxLocals ret :: ws) room_1) (fun a U => a = #[(.int p0), (.long p1), (.int p2), (.int p3)] ∧ Z.Warmed39 U.vm ∧ U.heap = h0) (fun _ _ _ _ _ => True) (fun _ U o U' => ∃ v L, o = .returned v ∧ own_Q0 n0 v U'.heap L ∧ FrameEnd U o U' L room_1.cells room_1.slots) := by
  refine MetFree.of_bodySF (plainFor_of_name own_pn_com_example_libcredal_libcredal_checker_OperatorAdmitsPinLaw) hisR ?_
  intro p e s m args below meth c s₁ Bd hml0 hP hK
  obtain ⟨rfl, hZ, hh⟩ := hP
  have hx := Bd.exec
  have hby := Bd.bytes
  have hml : c.maxLocals = 14 := hml0
  have hown : s.vm.findClass "com/example/libcredal/libcredal/checker/OperatorAdmitsPinLaw" = some m.cls := findClass_of_methodNamed Bd.named
  have hnm := (name_of_methodNamed Bd.named Bd.method).1
  have X0 : Stand p l e room_1 s m #[(.int p0), (.long p1), (.int p2), (.int p3)] below meth c s₁ [] 0 0 := Stand.of_body Bd
  have e0 : s₁.heap = h0 := by rw [← hh, Bd.state]; rfl
  have N0 := Fr.nil n0
  have pre0 : ∀ t, Steps p.tables e below (s₁.setTop (mkF m 0 #[.val (.int p0), .val (.long p1), .second, .val (.int p2), .val (.int p3), .unset, .unset, .unset, .unset, .unset, .unset, .unset, .unset, .unset] [])) t → Steps p.tables e below (s₁.setTop (entryFrame m #[(.int p0), (.long p1), (.int p2), (.int p3)] maxLocals)) t := fun t k => castTop (own_ef_w3_7 m p0 p1 p2 p3) k
  obtain ⟨Tw3_71, Xw3_71, ew3_71, stw3_71⟩ := getS2 X0 hx hZ hown (host := "") (Or.inl (hw _ (List.mem_of_getElem? (i := 11) rfl))) Via.refl e0 S_EMIN (g := (mkF m 56 #[.val (.int p0), .val (.long p1), .second, .val (.int p2), .val (.int p3), .val (.int (3 : Int32)), .unset, .unset, .unset, .unset, .unset, .unset, .unset, .unset] [])) rfl (hb hby at_56)
  obtain ⟨cqw3_72, kqw3_72, qw3_72a, qw3_72b, qw3_72c⟩ := isOf hZ ew3_71 E_st_EMIN
  obtain ⟨_, _, ⟨Tw3_72, Lw3_72, kw3_72, nw3_72⟩, -, Xw3_72, ⟨Lcw3_72, hQw3_72, lw3_72, yw3_72, zw3_72⟩, stw3_72⟩ := Xw3_71.virtualBack hx (y := (⟨"com/example/libcredal/libcredal/checker/Query$Operator", "admits", "(D)Z"⟩ : MethodName)) (z := (⟨"com/example/libcredal/libcredal/checker/Query$Operator", "admits", "(D)Z"⟩ : MethodName)) hown (mvT hZ (hw _ (List.mem_of_getElem? (i := 4) rfl))) (mvT hZ (hw _ (List.mem_of_getElem? (i := 5) rfl))) (notFace_of_selects (args := #[]) (mvT hZ (hw _ (List.mem_of_getElem? (i := 7) rfl)))) (mvT hZ (hw _ (List.mem_of_getElem? (i := 7) rfl))) (mvT hZ (hw _ (List.mem_of_getElem? (i := 6) rfl))) (by decide) (backOf (W := 0) (own_rm_c1ff l Z a0 hw [] st_EMIN (9223372036854775808 : UInt64) h0 n0 Z0 E_st_EMIN F_reward_st_EMIN w3_7_c219_c1ff_hb3 w3_7_c219_c1ff_hb22) hZ (hw _ (List.mem_of_getElem? (i := 8) rfl)) (hw _ (List.mem_of_getElem? (i := 2) rfl)) (by decide) (by decide)) qw3_72a qw3_72c (g := (mkF m 219 #[.val (.int p0), .val (.long p1), .second, .val (.int p2), .val (.int p3), .val (.int (3 : Int32)), .val (.ref st_EMIN), .val (.int (1 : Int32)), .val (.int (7 : Int32)), .val (.double (9223372036854775808 : UInt64)), .second, .val (.int (1 : Int32)), .unset, .unset] [(.double (9223372036854775808 : UInt64)), (.ref st_EMIN)])) rfl (by rw [hml]; rfl) (Steps.refl _) (argsL := [(.double (9223372036854775808 : UInt64))]) (rest := []) (lenOf own_pd_28D29Z rfl) rfl (by show 2 * 0 + _ ≤ _; exact Nat.le_of_eq rfl) (hb hby at_219) (fun _ _ => ⟨rfl, ew3_71, (by decide : 0 + 0 ≤ _), (by decide : 0 + 0 ≤ _)⟩)
  dsimp only [Pt.U, Pt.locs, Pt.cells, Pt.slots] at Xw3_72 lw3_72 yw3_72 zw3_72 stw3_72 hQw3_72
  rw [lw3_72, yw3_72, zw3_72] at Xw3_72
  obtain ⟨rfl, Nw3_72q, ew3_72⟩ := hQw3_72
  have Nw3_72 := Fr.app N0 Nw3_72q
  obtain ⟨fs, hr, hrun, hended, hW, hsame⟩ := Xw3_72.leave (v := some (.int (1 : Int32))) (fun h => by rw [Bd.returns] at h; cases h)
  refine ⟨_, _, pre0 _ ?_, hrun, hended, _, _, rfl, ?_, ⟨_, rfl⟩, hW, hsame.mono (by decide) (by decide)⟩
  · refine own_s_iloadN X0.here hx (hb hby at_0) (pc' := 1) rfl rfl ?_
    refine X0.ldcInt hx hown (mvT hZ (hw _ (List.mem_of_getElem? (i := 0) rfl))) (g := (mkF m 1 #[.val (.int p0), .val (.long p1), .second, .val (.int p2), .val (.int p3), .unset, .unset, .unset, .unset, .unset, .unset, .unset, .unset, .unset] [(.int p0)])) rfl (hb hby at_1) _ ?_
    show Steps p.tables e below (s₁.setTop (mkF m 3 #[.val (.int p0), .val (.long p1), .second, .val (.int p2), .val (.int p3), .unset, .unset, .unset, .unset, .unset, .unset, .unset, .unset, .unset] [(.int (2147483647 : Int32)), (.int p0)])) _
    refine own_s_iand X0.here hx (hb hby at_3) (pc' := 4) rfl (v := w3_7_v3) w3_7_hv3 ?_
    refine own_s_bipush X0.here hx (hb hby at_4) (pc' := 6) rfl (v := (6 : Int32)) (by decide) ?_
    refine own_s_irem X0.here hx (hb hby at_6) (pc' := 7) rfl (by decide) (v := (3 : Int32)) w3_7_hv6 ?_
    refine own_s_istore X0.here hx (hb hby at_7) (pc' := 9) rfl (L' := #[.val (.int p0), .val (.long p1), .second, .val (.int p2), .val (.int p3), .val (.int (3 : Int32)), .unset, .unset, .unset, .unset, .unset, .unset, .unset, .unset]) rfl ?_
    refine own_s_iload X0.here hx (hb hby at_9) (pc' := 11) rfl rfl ?_
    refine own_s_ifYes X0.here hx (hb hby at_11) (by decide) (pc' := 22) (by decide) (by decide) ?_
    refine own_s_iload X0.here hx (hb hby at_22) (pc' := 24) rfl rfl ?_
    refine own_s_iconst X0.here hx (hb hby at_24) (pc' := 25) rfl (v := (1 : Int32)) (by decide) ?_
    refine own_s_icmpYes X0.here hx (hb hby at_25) (by decide) (pc' := 36) (by decide) (by decide) ?_
    refine own_s_iload X0.here hx (hb hby at_36) (pc' := 38) rfl rfl ?_
    refine own_s_iconst X0.here hx (hb hby at_38) (pc' := 39) rfl (v := (2 : Int32)) (by decide) ?_
    refine own_s_icmpYes X0.here hx (hb hby at_39) (by decide) (pc' := 50) (by decide) (by decide) ?_
    refine own_s_iload X0.here hx (hb hby at_50) (pc' := 52) rfl rfl ?_
    refine own_s_iconst X0.here hx (hb hby at_52) (pc' := 53) rfl (v := (3 : Int32)) (by decide) ?_
    refine own_s_icmpNo X0.here hx (hb hby at_53) (pc' := 56) rfl (by decide) ?_
    refine stw3_71 _ ?_
    show Steps p.tables e below (Tw3_71.setTop (mkF m 59 #[.val (.int p0), .val (.long p1), .second, .val (.int p2), .val (.int p3), .val (.int (3 : Int32)), .unset, .unset, .unset, .unset, .unset, .unset, .unset, .unset] [(.ref st_EMIN)])) _
    refine own_s_astore Xw3_71.here hx (hb hby at_59) (pc' := 61) rfl rfl (L' := #[.val (.int p0), .val (.long p1), .second, .val (.int p2), .val (.int p3), .val (.int (3 : Int32)), .val (.ref st_EMIN), .unset, .unset, .unset, .unset, .unset, .unset, .unset]) rfl ?_
    refine own_s_goto Xw3_71.here hx (hb hby at_61) (by decide) (pc' := 83) (by decide) ?_
    refine own_s_iload Xw3_71.here hx (hb hby at_83) (pc' := 85) rfl rfl ?_
    refine own_s_iconst Xw3_71.here hx (hb hby at_85) (pc' := 86) rfl (v := (3 : Int32)) (by decide) ?_
    refine own_s_icmpNo Xw3_71.here hx (hb hby at_86) (pc' := 89) rfl (by decide) ?_
    refine own_s_iconst Xw3_71.here hx (hb hby at_89) (pc' := 90) rfl (v := (1 : Int32)) (by decide) ?_
    refine own_s_goto Xw3_71.here hx (hb hby at_90) (by decide) (pc' := 94) (by decide) ?_
    refine own_s_istore Xw3_71.here hx (hb hby at_94) (pc' := 96) rfl (L' := #[.val (.int p0), .val (.long p1), .second, .val (.int p2), .val (.int p3), .val (.int (3 : Int32)), .val (.ref st_EMIN), .val (.int (1 : Int32)), .unset, .unset, .unset, .unset, .unset, .unset]) rfl ?_
    refine own_s_iload Xw3_71.here hx (hb hby at_96) (pc' := 98) rfl rfl ?_
    refine own_s_bipush Xw3_71.here hx (hb hby at_98) (pc' := 100) rfl (v := (7 : Int32)) (by decide) ?_
    refine own_s_iand Xw3_71.here hx (hb hby at_100) (pc' := 101) rfl (v := (7 : Int32)) w3_7_hv100 ?_
    refine own_s_istore Xw3_71.here hx (hb hby at_101) (pc' := 103) rfl (L' := #[.val (.int p0), .val (.long p1), .second, .val (.int p2), .val (.int p3), .val (.int (3 : Int32)), .val (.ref st_EMIN), .val (.int (1 : Int32)), .val (.int (7 : Int32)), .unset, .unset, .unset, .unset, .unset]) rfl ?_
    refine own_s_iload Xw3_71.here hx (hb hby at_103) (pc' := 105) rfl rfl ?_
    refine own_s_iconst Xw3_71.here hx (hb hby at_105) (pc' := 106) rfl (v := (4 : Int32)) (by decide) ?_
    refine own_s_icmpYes Xw3_71.here hx (hb hby at_106) (by decide) (pc' := 121) (by decide) (by decide) ?_
    refine own_s_iload Xw3_71.here hx (hb hby at_121) (pc' := 123) rfl rfl ?_
    refine own_s_iconst Xw3_71.here hx (hb hby at_123) (pc' := 124) rfl (v := (5 : Int32)) (by decide) ?_
    refine own_s_icmpYes Xw3_71.here hx (hb hby at_124) (by decide) (pc' := 138) (by decide) (by decide) ?_
    refine own_s_iload Xw3_71.here hx (hb hby at_138) (pc' := 140) rfl rfl ?_
    refine own_s_bipush Xw3_71.here hx (hb hby at_140) (pc' := 142) rfl (v := (6 : Int32)) (by decide) ?_
    refine own_s_icmpYes Xw3_71.here hx (hb hby at_142) (by decide) (pc' := 156) (by decide) (by decide) ?_
    refine own_s_iload Xw3_71.here hx (hb hby at_156) (pc' := 158) rfl rfl ?_
    refine own_s_bipush Xw3_71.here hx (hb hby at_158) (pc' := 160) rfl (v := (7 : Int32)) (by decide) ?_
    refine own_s_icmpNo Xw3_71.here hx (hb hby at_160) (pc' := 163) rfl (by decide) ?_
    refine Xw3_71.ldc2DoubleC hx hown (mvT hZ (hw _ (List.mem_of_getElem? (i := 13) rfl))) (g := (mkF m 163 #[.val (.int p0), .val (.long p1), .second, .val (.int p2), .val (.int p3), .val (.int (3 : Int32)), .val (.ref st_EMIN), .val (.int (1 : Int32)), .val (.int (7 : Int32)), .unset, .unset, .unset, .unset, .unset] [])) rfl (hb hby at_163) _ ?_
    show Steps p.tables e below (Tw3_71.setTop (mkF m 166 #[.val (.int p0), .val (.long p1), .second, .val (.int p2), .val (.int p3), .val (.int (3 : Int32)), .val (.ref st_EMIN), .val (.int (1 : Int32)), .val (.int (7 : Int32)), .unset, .unset, .unset, .unset, .unset] [(.double (9223372036854775808 : UInt64))])) _
    refine own_s_dstore Xw3_71.here hx (hb hby at_166) (pc' := 168) rfl (L' := #[.val (.int p0), .val (.long p1), .second, .val (.int p2), .val (.int p3), .val (.int (3 : Int32)), .val (.ref st_EMIN), .val (.int (1 : Int32)), .val (.int (7 : Int32)), .val (.double (9223372036854775808 : UInt64)), .second, .unset, .unset, .unset]) rfl ?_
    refine own_s_iconst Xw3_71.here hx (hb hby at_168) (pc' := 169) rfl (v := (1 : Int32)) (by decide) ?_
    refine own_s_istore Xw3_71.here hx (hb hby at_169) (pc' := 171) rfl (L' := #[.val (.int p0), .val (.long p1), .second, .val (.int p2), .val (.int p3), .val (.int (3 : Int32)), .val (.ref st_EMIN), .val (.int (1 : Int32)), .val (.int (7 : Int32)), .val (.double (9223372036854775808 : UInt64)), .second, .val (.int (1 : Int32)), .unset, .unset]) rfl ?_
    refine own_s_goto Xw3_71.here hx (hb hby at_171) (by decide) (pc' := 215) (by decide) ?_
    refine own_s_aload Xw3_71.here hx (hb hby at_215) (pc' := 217) rfl rfl rfl ?_
    refine own_s_dload Xw3_71.here hx (hb hby at_217) (pc' := 219) rfl rfl ?_
    refine stw3_72.trans ?_
    show Steps p.tables e below (Tw3_72.setTop (mkF m 222 #[.val (.int p0), .val (.long p1), .second, .val (.int p2), .val (.int p3), .val (.int (3 : Int32)), .val (.ref st_EMIN), .val (.int (1 : Int32)), .val (.int (7 : Int32)), .val (.double (9223372036854775808 : UInt64)), .second, .val (.int (1 : Int32)), .unset, .unset] [(.int (1 : Int32))])) _
    refine own_s_iload Xw3_72.here hx (hb hby at_222) (pc' := 224) rfl rfl ?_
    refine own_s_icmpNo Xw3_72.here hx (hb hby at_224) (pc' := 227) rfl (by decide) ?_
    refine own_s_iconst Xw3_72.here hx (hb hby at_227) (pc' := 228) rfl (v := (1 : Int32)) (by decide) ?_
    refine own_s_goto Xw3_72.here hx (hb hby at_228) (by decide) (pc' := 232) (by decide) ?_
    exact retN Xw3_72 hx (t := .boolean) Bd.returns (by simp) (hb hby at_232) hr
  · show own_Q0 n0 _ Tw3_72.heap _
    rw [ew3_72]
    exact ⟨rfl, Nw3_72⟩
theorem own_ef_w3_n (m : MethodId) (p0 : Int32) (p1 : Int64) (p2 : Int32) (p3 : Int32) : entryFrame m #[(.int p0), (.long p1), (.int p2), (.int p3)] maxLocals = mkF m 0 #[.val (.int p0), .val (.long p1), .second, .val (.int p2), .val (.int p3), .unset, .unset, .unset, .unset, .unset, .unset, .unset, .unset, .unset] [] := by first | (simp [entryFrame, mkF, argsToLocals, Value.category, maxLocals]; done) | rfl
set_option maxRecDepth 65536 in
set_option maxHeartbeats 40000000 in
theorem own_rm_w3_n (l : Launch) (Z : State) (a0 : Array Value) (hw : ∀ d ∈ tables_1, d.before a0 Z = true) (ws : List Jvm.Cond) (p0 : Int32) (p1 : Int64) (p2 : Int32) (p3 : Int32) (st_EMIN : Addr) {w3_n_v3 : Int32} {w3_n_v100 : Int32} {w3_n_v178 : Int32} {w3_n_v179 : Int64} {w3_n_v187 : UInt64} (h0 : Heap) (n0 : Nat) (Z0 : n0 ≤ h0.size) (E_st_EMIN : Exa Z h0 st_EMIN "com/example/libcredal/libcredal/checker/Query$Operator") (F_reward_st_EMIN : Fld Z h0 st_EMIN "com/example/libcredal/libcredal/checker/Query$Operator" "reward" "Z" (.int (1 : Int32))) (S_EMIN : Sta Z h0 "com/example/libcredal/libcredal/checker/Query$Operator" "EMIN" "Lcom/example/libcredal/libcredal/checker/Query$Operator;" (.ref st_EMIN)) (w3_n_hv3 : p0 &&& (2147483647 : Int32) = w3_n_v3) (w3_n_hv6 : w3_n_v3 % (6 : Int32) = (3 : Int32)) (w3_n_hv100 : p3 &&& (7 : Int32) = w3_n_v100) (w3_n_hb106 : if_icmp.holds .ne w3_n_v100 (4 : Int32) = true) (w3_n_hb124 : if_icmp.holds .ne w3_n_v100 (5 : Int32) = true) (w3_n_hb142 : if_icmp.holds .ne w3_n_v100 (6 : Int32) = true) (w3_n_hb160 : if_icmp.holds .ne w3_n_v100 (7 : Int32) = true) (w3_n_hv178 : p2 &&& (31 : Int32) = w3_n_v178) (w3_n_hv179 : (1 : Int64) <<< (w3_n_v178 &&& 63).toInt64 = w3_n_v179) (w3_n_hn187 : Jvm.Free.Fl.NoNaN64 (FP.ddiv (FP.l2d p1) (FP.l2d w3_n_v179))) (w3_n_hv187 : FP.ddiv (FP.l2d p1) (FP.l2d w3_n_v179) = w3_n_v187) (w3_n_hb193 : ifCond.holds .lt (lcmpW p1 (0 : Int64)) = true) (w3_n_c219_c1t_hb3 : ifCond.holds .lt (Op.cmpValue (FP.dcmp w3_n_v187 0) .l) = true) :
    MetFree l x (head1 (Jvm.Cond.code x code maxLocals ret :: ws) room_1) (fun a U => a = #[(.int p0), (.long p1), (.int p2), (.int p3)] ∧ Z.Warmed39 U.vm ∧ U.heap = h0) (fun _ _ _ _ _ => True) (fun _ U o U' => ∃ v L, o = .returned v ∧ own_Q0 n0 v U'.heap L ∧ FrameEnd U o U' L room_1.cells room_1.slots) := by
  refine MetFree.of_bodySF (plainFor_of_name own_pn_com_example_libcredal_libcredal_checker_OperatorAdmitsPinLaw) hisR ?_
  intro p e s m args below meth c s₁ Bd hml0 hP hK
  obtain ⟨rfl, hZ, hh⟩ := hP
  have hx := Bd.exec
  have hby := Bd.bytes
  have hml : c.maxLocals = 14 := hml0
  have hown : s.vm.findClass "com/example/libcredal/libcredal/checker/OperatorAdmitsPinLaw" = some m.cls := findClass_of_methodNamed Bd.named
  have hnm := (name_of_methodNamed Bd.named Bd.method).1
  have X0 : Stand p l e room_1 s m #[(.int p0), (.long p1), (.int p2), (.int p3)] below meth c s₁ [] 0 0 := Stand.of_body Bd
  have e0 : s₁.heap = h0 := by rw [← hh, Bd.state]; rfl
  have N0 := Fr.nil n0
  have pre0 : ∀ t, Steps p.tables e below (s₁.setTop (mkF m 0 #[.val (.int p0), .val (.long p1), .second, .val (.int p2), .val (.int p3), .unset, .unset, .unset, .unset, .unset, .unset, .unset, .unset, .unset] [])) t → Steps p.tables e below (s₁.setTop (entryFrame m #[(.int p0), (.long p1), (.int p2), (.int p3)] maxLocals)) t := fun t k => castTop (own_ef_w3_n m p0 p1 p2 p3) k
  obtain ⟨Tw3_n1, Xw3_n1, ew3_n1, stw3_n1⟩ := getS2 X0 hx hZ hown (host := "") (Or.inl (hw _ (List.mem_of_getElem? (i := 11) rfl))) Via.refl e0 S_EMIN (g := (mkF m 56 #[.val (.int p0), .val (.long p1), .second, .val (.int p2), .val (.int p3), .val (.int (3 : Int32)), .unset, .unset, .unset, .unset, .unset, .unset, .unset, .unset] [])) rfl (hb hby at_56)
  obtain ⟨cqw3_n2, kqw3_n2, qw3_n2a, qw3_n2b, qw3_n2c⟩ := isOf hZ ew3_n1 E_st_EMIN
  obtain ⟨_, _, ⟨Tw3_n2, Lw3_n2, kw3_n2, nw3_n2⟩, -, Xw3_n2, ⟨Lcw3_n2, hQw3_n2, lw3_n2, yw3_n2, zw3_n2⟩, stw3_n2⟩ := Xw3_n1.virtualBack hx (y := (⟨"com/example/libcredal/libcredal/checker/Query$Operator", "admits", "(D)Z"⟩ : MethodName)) (z := (⟨"com/example/libcredal/libcredal/checker/Query$Operator", "admits", "(D)Z"⟩ : MethodName)) hown (mvT hZ (hw _ (List.mem_of_getElem? (i := 4) rfl))) (mvT hZ (hw _ (List.mem_of_getElem? (i := 5) rfl))) (notFace_of_selects (args := #[]) (mvT hZ (hw _ (List.mem_of_getElem? (i := 7) rfl)))) (mvT hZ (hw _ (List.mem_of_getElem? (i := 7) rfl))) (mvT hZ (hw _ (List.mem_of_getElem? (i := 6) rfl))) (by decide) (backOf (W := 0) (own_rm_c1t l Z a0 hw [] st_EMIN w3_n_v187 h0 n0 Z0 E_st_EMIN F_reward_st_EMIN w3_n_c219_c1t_hb3) hZ (hw _ (List.mem_of_getElem? (i := 8) rfl)) (hw _ (List.mem_of_getElem? (i := 2) rfl)) (by decide) (by decide)) qw3_n2a qw3_n2c (g := (mkF m 219 #[.val (.int p0), .val (.long p1), .second, .val (.int p2), .val (.int p3), .val (.int (3 : Int32)), .val (.ref st_EMIN), .val (.int (1 : Int32)), .val (.int w3_n_v100), .val (.double w3_n_v187), .second, .val (.int (0 : Int32)), .val (.long w3_n_v179), .second] [(.double w3_n_v187), (.ref st_EMIN)])) rfl (by rw [hml]; rfl) (Steps.refl _) (argsL := [(.double w3_n_v187)]) (rest := []) (lenOf own_pd_28D29Z rfl) rfl (by show 2 * 0 + _ ≤ _; exact Nat.le_of_eq rfl) (hb hby at_219) (fun _ _ => ⟨rfl, ew3_n1, (by decide : 0 + 0 ≤ _), (by decide : 0 + 0 ≤ _)⟩)
  dsimp only [Pt.U, Pt.locs, Pt.cells, Pt.slots] at Xw3_n2 lw3_n2 yw3_n2 zw3_n2 stw3_n2 hQw3_n2
  rw [lw3_n2, yw3_n2, zw3_n2] at Xw3_n2
  obtain ⟨rfl, Nw3_n2q, ew3_n2⟩ := hQw3_n2
  have Nw3_n2 := Fr.app N0 Nw3_n2q
  obtain ⟨fs, hr, hrun, hended, hW, hsame⟩ := Xw3_n2.leave (v := some (.int (1 : Int32))) (fun h => by rw [Bd.returns] at h; cases h)
  refine ⟨_, _, pre0 _ ?_, hrun, hended, _, _, rfl, ?_, ⟨_, rfl⟩, hW, hsame.mono (by decide) (by decide)⟩
  · refine own_s_iloadN X0.here hx (hb hby at_0) (pc' := 1) rfl rfl ?_
    refine X0.ldcInt hx hown (mvT hZ (hw _ (List.mem_of_getElem? (i := 0) rfl))) (g := (mkF m 1 #[.val (.int p0), .val (.long p1), .second, .val (.int p2), .val (.int p3), .unset, .unset, .unset, .unset, .unset, .unset, .unset, .unset, .unset] [(.int p0)])) rfl (hb hby at_1) _ ?_
    show Steps p.tables e below (s₁.setTop (mkF m 3 #[.val (.int p0), .val (.long p1), .second, .val (.int p2), .val (.int p3), .unset, .unset, .unset, .unset, .unset, .unset, .unset, .unset, .unset] [(.int (2147483647 : Int32)), (.int p0)])) _
    refine own_s_iand X0.here hx (hb hby at_3) (pc' := 4) rfl (v := w3_n_v3) w3_n_hv3 ?_
    refine own_s_bipush X0.here hx (hb hby at_4) (pc' := 6) rfl (v := (6 : Int32)) (by decide) ?_
    refine own_s_irem X0.here hx (hb hby at_6) (pc' := 7) rfl (by decide) (v := (3 : Int32)) w3_n_hv6 ?_
    refine own_s_istore X0.here hx (hb hby at_7) (pc' := 9) rfl (L' := #[.val (.int p0), .val (.long p1), .second, .val (.int p2), .val (.int p3), .val (.int (3 : Int32)), .unset, .unset, .unset, .unset, .unset, .unset, .unset, .unset]) rfl ?_
    refine own_s_iload X0.here hx (hb hby at_9) (pc' := 11) rfl rfl ?_
    refine own_s_ifYes X0.here hx (hb hby at_11) (by decide) (pc' := 22) (by decide) (by decide) ?_
    refine own_s_iload X0.here hx (hb hby at_22) (pc' := 24) rfl rfl ?_
    refine own_s_iconst X0.here hx (hb hby at_24) (pc' := 25) rfl (v := (1 : Int32)) (by decide) ?_
    refine own_s_icmpYes X0.here hx (hb hby at_25) (by decide) (pc' := 36) (by decide) (by decide) ?_
    refine own_s_iload X0.here hx (hb hby at_36) (pc' := 38) rfl rfl ?_
    refine own_s_iconst X0.here hx (hb hby at_38) (pc' := 39) rfl (v := (2 : Int32)) (by decide) ?_
    refine own_s_icmpYes X0.here hx (hb hby at_39) (by decide) (pc' := 50) (by decide) (by decide) ?_
    refine own_s_iload X0.here hx (hb hby at_50) (pc' := 52) rfl rfl ?_
    refine own_s_iconst X0.here hx (hb hby at_52) (pc' := 53) rfl (v := (3 : Int32)) (by decide) ?_
    refine own_s_icmpNo X0.here hx (hb hby at_53) (pc' := 56) rfl (by decide) ?_
    refine stw3_n1 _ ?_
    show Steps p.tables e below (Tw3_n1.setTop (mkF m 59 #[.val (.int p0), .val (.long p1), .second, .val (.int p2), .val (.int p3), .val (.int (3 : Int32)), .unset, .unset, .unset, .unset, .unset, .unset, .unset, .unset] [(.ref st_EMIN)])) _
    refine own_s_astore Xw3_n1.here hx (hb hby at_59) (pc' := 61) rfl rfl (L' := #[.val (.int p0), .val (.long p1), .second, .val (.int p2), .val (.int p3), .val (.int (3 : Int32)), .val (.ref st_EMIN), .unset, .unset, .unset, .unset, .unset, .unset, .unset]) rfl ?_
    refine own_s_goto Xw3_n1.here hx (hb hby at_61) (by decide) (pc' := 83) (by decide) ?_
    refine own_s_iload Xw3_n1.here hx (hb hby at_83) (pc' := 85) rfl rfl ?_
    refine own_s_iconst Xw3_n1.here hx (hb hby at_85) (pc' := 86) rfl (v := (3 : Int32)) (by decide) ?_
    refine own_s_icmpNo Xw3_n1.here hx (hb hby at_86) (pc' := 89) rfl (by decide) ?_
    refine own_s_iconst Xw3_n1.here hx (hb hby at_89) (pc' := 90) rfl (v := (1 : Int32)) (by decide) ?_
    refine own_s_goto Xw3_n1.here hx (hb hby at_90) (by decide) (pc' := 94) (by decide) ?_
    refine own_s_istore Xw3_n1.here hx (hb hby at_94) (pc' := 96) rfl (L' := #[.val (.int p0), .val (.long p1), .second, .val (.int p2), .val (.int p3), .val (.int (3 : Int32)), .val (.ref st_EMIN), .val (.int (1 : Int32)), .unset, .unset, .unset, .unset, .unset, .unset]) rfl ?_
    refine own_s_iload Xw3_n1.here hx (hb hby at_96) (pc' := 98) rfl rfl ?_
    refine own_s_bipush Xw3_n1.here hx (hb hby at_98) (pc' := 100) rfl (v := (7 : Int32)) (by decide) ?_
    refine own_s_iand Xw3_n1.here hx (hb hby at_100) (pc' := 101) rfl (v := w3_n_v100) w3_n_hv100 ?_
    refine own_s_istore Xw3_n1.here hx (hb hby at_101) (pc' := 103) rfl (L' := #[.val (.int p0), .val (.long p1), .second, .val (.int p2), .val (.int p3), .val (.int (3 : Int32)), .val (.ref st_EMIN), .val (.int (1 : Int32)), .val (.int w3_n_v100), .unset, .unset, .unset, .unset, .unset]) rfl ?_
    refine own_s_iload Xw3_n1.here hx (hb hby at_103) (pc' := 105) rfl rfl ?_
    refine own_s_iconst Xw3_n1.here hx (hb hby at_105) (pc' := 106) rfl (v := (4 : Int32)) (by decide) ?_
    refine own_s_icmpYes Xw3_n1.here hx (hb hby at_106) (by decide) (pc' := 121) (by decide) w3_n_hb106 ?_
    refine own_s_iload Xw3_n1.here hx (hb hby at_121) (pc' := 123) rfl rfl ?_
    refine own_s_iconst Xw3_n1.here hx (hb hby at_123) (pc' := 124) rfl (v := (5 : Int32)) (by decide) ?_
    refine own_s_icmpYes Xw3_n1.here hx (hb hby at_124) (by decide) (pc' := 138) (by decide) w3_n_hb124 ?_
    refine own_s_iload Xw3_n1.here hx (hb hby at_138) (pc' := 140) rfl rfl ?_
    refine own_s_bipush Xw3_n1.here hx (hb hby at_140) (pc' := 142) rfl (v := (6 : Int32)) (by decide) ?_
    refine own_s_icmpYes Xw3_n1.here hx (hb hby at_142) (by decide) (pc' := 156) (by decide) w3_n_hb142 ?_
    refine own_s_iload Xw3_n1.here hx (hb hby at_156) (pc' := 158) rfl rfl ?_
    refine own_s_bipush Xw3_n1.here hx (hb hby at_158) (pc' := 160) rfl (v := (7 : Int32)) (by decide) ?_
    refine own_s_icmpYes Xw3_n1.here hx (hb hby at_160) (by decide) (pc' := 174) (by decide) w3_n_hb160 ?_
    refine own_s_lconst Xw3_n1.here hx (hb hby at_174) (pc' := 175) rfl (v := (1 : Int64)) (by decide) ?_
    refine own_s_iloadN Xw3_n1.here hx (hb hby at_175) (pc' := 176) rfl rfl ?_
    refine own_s_bipush Xw3_n1.here hx (hb hby at_176) (pc' := 178) rfl (v := (31 : Int32)) (by decide) ?_
    refine own_s_iand Xw3_n1.here hx (hb hby at_178) (pc' := 179) rfl (v := w3_n_v178) w3_n_hv178 ?_
    refine own_s_lshl Xw3_n1.here hx (hb hby at_179) (pc' := 180) rfl (v := w3_n_v179) w3_n_hv179 ?_
    refine own_s_lstore Xw3_n1.here hx (hb hby at_180) (pc' := 182) rfl (L' := #[.val (.int p0), .val (.long p1), .second, .val (.int p2), .val (.int p3), .val (.int (3 : Int32)), .val (.ref st_EMIN), .val (.int (1 : Int32)), .val (.int w3_n_v100), .unset, .unset, .unset, .val (.long w3_n_v179), .second]) rfl ?_
    refine own_s_lloadN Xw3_n1.here hx (hb hby at_182) (pc' := 183) rfl rfl ?_
    refine own_s_l2d Xw3_n1.here hx (hb hby at_183) (pc' := 184) rfl (v := (FP.l2d p1)) rfl ?_
    refine own_s_lload Xw3_n1.here hx (hb hby at_184) (pc' := 186) rfl rfl ?_
    refine own_s_l2d Xw3_n1.here hx (hb hby at_186) (pc' := 187) rfl (v := (FP.l2d w3_n_v179)) rfl ?_
    refine own_s_ddiv Xw3_n1.here hx (hb hby at_187) (pc' := 188) rfl w3_n_hn187 (v := w3_n_v187) w3_n_hv187 ?_
    refine own_s_dstore Xw3_n1.here hx (hb hby at_188) (pc' := 190) rfl (L' := #[.val (.int p0), .val (.long p1), .second, .val (.int p2), .val (.int p3), .val (.int (3 : Int32)), .val (.ref st_EMIN), .val (.int (1 : Int32)), .val (.int w3_n_v100), .val (.double w3_n_v187), .second, .unset, .val (.long w3_n_v179), .second]) rfl ?_
    refine own_s_lloadN Xw3_n1.here hx (hb hby at_190) (pc' := 191) rfl rfl ?_
    refine own_s_lconst Xw3_n1.here hx (hb hby at_191) (pc' := 192) rfl (v := (0 : Int64)) (by decide) ?_
    refine own_s_lcmp Xw3_n1.here hx (hb hby at_192) (pc' := 193) rfl (v := (lcmpW p1 (0 : Int64))) rfl ?_
    refine own_s_ifYes Xw3_n1.here hx (hb hby at_193) (by decide) (pc' := 212) (by decide) w3_n_hb193 ?_
    refine own_s_iconst Xw3_n1.here hx (hb hby at_212) (pc' := 213) rfl (v := (0 : Int32)) (by decide) ?_
    refine own_s_istore Xw3_n1.here hx (hb hby at_213) (pc' := 215) rfl (L' := #[.val (.int p0), .val (.long p1), .second, .val (.int p2), .val (.int p3), .val (.int (3 : Int32)), .val (.ref st_EMIN), .val (.int (1 : Int32)), .val (.int w3_n_v100), .val (.double w3_n_v187), .second, .val (.int (0 : Int32)), .val (.long w3_n_v179), .second]) rfl ?_
    refine own_s_aload Xw3_n1.here hx (hb hby at_215) (pc' := 217) rfl rfl rfl ?_
    refine own_s_dload Xw3_n1.here hx (hb hby at_217) (pc' := 219) rfl rfl ?_
    refine stw3_n2.trans ?_
    show Steps p.tables e below (Tw3_n2.setTop (mkF m 222 #[.val (.int p0), .val (.long p1), .second, .val (.int p2), .val (.int p3), .val (.int (3 : Int32)), .val (.ref st_EMIN), .val (.int (1 : Int32)), .val (.int w3_n_v100), .val (.double w3_n_v187), .second, .val (.int (0 : Int32)), .val (.long w3_n_v179), .second] [(.int (0 : Int32))])) _
    refine own_s_iload Xw3_n2.here hx (hb hby at_222) (pc' := 224) rfl rfl ?_
    refine own_s_icmpNo Xw3_n2.here hx (hb hby at_224) (pc' := 227) rfl (by decide) ?_
    refine own_s_iconst Xw3_n2.here hx (hb hby at_227) (pc' := 228) rfl (v := (1 : Int32)) (by decide) ?_
    refine own_s_goto Xw3_n2.here hx (hb hby at_228) (by decide) (pc' := 232) (by decide) ?_
    exact retN Xw3_n2 hx (t := .boolean) Bd.returns (by simp) (hb hby at_232) hr
  · show own_Q0 n0 _ Tw3_n2.heap _
    rw [ew3_n2]
    exact ⟨rfl, Nw3_n2⟩
theorem own_ef_w3_y (m : MethodId) (p0 : Int32) (p1 : Int64) (p2 : Int32) (p3 : Int32) : entryFrame m #[(.int p0), (.long p1), (.int p2), (.int p3)] maxLocals = mkF m 0 #[.val (.int p0), .val (.long p1), .second, .val (.int p2), .val (.int p3), .unset, .unset, .unset, .unset, .unset, .unset, .unset, .unset, .unset] [] := by first | (simp [entryFrame, mkF, argsToLocals, Value.category, maxLocals]; done) | rfl
set_option maxRecDepth 65536 in
set_option maxHeartbeats 40000000 in
theorem own_rm_w3_y (l : Launch) (Z : State) (a0 : Array Value) (hw : ∀ d ∈ tables_1, d.before a0 Z = true) (ws : List Jvm.Cond) (p0 : Int32) (p1 : Int64) (p2 : Int32) (p3 : Int32) (st_EMIN : Addr) {w3_y_v3 : Int32} {w3_y_v100 : Int32} {w3_y_v178 : Int32} {w3_y_v179 : Int64} {w3_y_v187 : UInt64} (h0 : Heap) (n0 : Nat) (Z0 : n0 ≤ h0.size) (E_st_EMIN : Exa Z h0 st_EMIN "com/example/libcredal/libcredal/checker/Query$Operator") (F_reward_st_EMIN : Fld Z h0 st_EMIN "com/example/libcredal/libcredal/checker/Query$Operator" "reward" "Z" (.int (1 : Int32))) (S_EMIN : Sta Z h0 "com/example/libcredal/libcredal/checker/Query$Operator" "EMIN" "Lcom/example/libcredal/libcredal/checker/Query$Operator;" (.ref st_EMIN)) (w3_y_hv3 : p0 &&& (2147483647 : Int32) = w3_y_v3) (w3_y_hv6 : w3_y_v3 % (6 : Int32) = (3 : Int32)) (w3_y_hv100 : p3 &&& (7 : Int32) = w3_y_v100) (w3_y_hb106 : if_icmp.holds .ne w3_y_v100 (4 : Int32) = true) (w3_y_hb124 : if_icmp.holds .ne w3_y_v100 (5 : Int32) = true) (w3_y_hb142 : if_icmp.holds .ne w3_y_v100 (6 : Int32) = true) (w3_y_hb160 : if_icmp.holds .ne w3_y_v100 (7 : Int32) = true) (w3_y_hv178 : p2 &&& (31 : Int32) = w3_y_v178) (w3_y_hv179 : (1 : Int64) <<< (w3_y_v178 &&& 63).toInt64 = w3_y_v179) (w3_y_hn187 : Jvm.Free.Fl.NoNaN64 (FP.ddiv (FP.l2d p1) (FP.l2d w3_y_v179))) (w3_y_hv187 : FP.ddiv (FP.l2d p1) (FP.l2d w3_y_v179) = w3_y_v187) (w3_y_hb193 : ifCond.holds .lt (lcmpW p1 (0 : Int64)) = false) (w3_y_c219_c1ff_hb3 : ifCond.holds .lt (Op.cmpValue (FP.dcmp w3_y_v187 0) .l) = false) (w3_y_c219_c1ff_hb22 : ifCond.holds .gt (Op.cmpValue (FP.dcmp w3_y_v187 (9218868437227405311 : UInt64)) .g) = false) :
    MetFree l x (head1 (Jvm.Cond.code x code maxLocals ret :: ws) room_1) (fun a U => a = #[(.int p0), (.long p1), (.int p2), (.int p3)] ∧ Z.Warmed39 U.vm ∧ U.heap = h0) (fun _ _ _ _ _ => True) (fun _ U o U' => ∃ v L, o = .returned v ∧ own_Q0 n0 v U'.heap L ∧ FrameEnd U o U' L room_1.cells room_1.slots) := by
  refine MetFree.of_bodySF (plainFor_of_name own_pn_com_example_libcredal_libcredal_checker_OperatorAdmitsPinLaw) hisR ?_
  intro p e s m args below meth c s₁ Bd hml0 hP hK
  obtain ⟨rfl, hZ, hh⟩ := hP
  have hx := Bd.exec
  have hby := Bd.bytes
  have hml : c.maxLocals = 14 := hml0
  have hown : s.vm.findClass "com/example/libcredal/libcredal/checker/OperatorAdmitsPinLaw" = some m.cls := findClass_of_methodNamed Bd.named
  have hnm := (name_of_methodNamed Bd.named Bd.method).1
  have X0 : Stand p l e room_1 s m #[(.int p0), (.long p1), (.int p2), (.int p3)] below meth c s₁ [] 0 0 := Stand.of_body Bd
  have e0 : s₁.heap = h0 := by rw [← hh, Bd.state]; rfl
  have N0 := Fr.nil n0
  have pre0 : ∀ t, Steps p.tables e below (s₁.setTop (mkF m 0 #[.val (.int p0), .val (.long p1), .second, .val (.int p2), .val (.int p3), .unset, .unset, .unset, .unset, .unset, .unset, .unset, .unset, .unset] [])) t → Steps p.tables e below (s₁.setTop (entryFrame m #[(.int p0), (.long p1), (.int p2), (.int p3)] maxLocals)) t := fun t k => castTop (own_ef_w3_y m p0 p1 p2 p3) k
  obtain ⟨Tw3_y1, Xw3_y1, ew3_y1, stw3_y1⟩ := getS2 X0 hx hZ hown (host := "") (Or.inl (hw _ (List.mem_of_getElem? (i := 11) rfl))) Via.refl e0 S_EMIN (g := (mkF m 56 #[.val (.int p0), .val (.long p1), .second, .val (.int p2), .val (.int p3), .val (.int (3 : Int32)), .unset, .unset, .unset, .unset, .unset, .unset, .unset, .unset] [])) rfl (hb hby at_56)
  obtain ⟨cqw3_y2, kqw3_y2, qw3_y2a, qw3_y2b, qw3_y2c⟩ := isOf hZ ew3_y1 E_st_EMIN
  obtain ⟨_, _, ⟨Tw3_y2, Lw3_y2, kw3_y2, nw3_y2⟩, -, Xw3_y2, ⟨Lcw3_y2, hQw3_y2, lw3_y2, yw3_y2, zw3_y2⟩, stw3_y2⟩ := Xw3_y1.virtualBack hx (y := (⟨"com/example/libcredal/libcredal/checker/Query$Operator", "admits", "(D)Z"⟩ : MethodName)) (z := (⟨"com/example/libcredal/libcredal/checker/Query$Operator", "admits", "(D)Z"⟩ : MethodName)) hown (mvT hZ (hw _ (List.mem_of_getElem? (i := 4) rfl))) (mvT hZ (hw _ (List.mem_of_getElem? (i := 5) rfl))) (notFace_of_selects (args := #[]) (mvT hZ (hw _ (List.mem_of_getElem? (i := 7) rfl)))) (mvT hZ (hw _ (List.mem_of_getElem? (i := 7) rfl))) (mvT hZ (hw _ (List.mem_of_getElem? (i := 6) rfl))) (by decide) (backOf (W := 0) (own_rm_c1ff l Z a0 hw [] st_EMIN w3_y_v187 h0 n0 Z0 E_st_EMIN F_reward_st_EMIN w3_y_c219_c1ff_hb3 w3_y_c219_c1ff_hb22) hZ (hw _ (List.mem_of_getElem? (i := 8) rfl)) (hw _ (List.mem_of_getElem? (i := 2) rfl)) (by decide) (by decide)) qw3_y2a qw3_y2c (g := (mkF m 219 #[.val (.int p0), .val (.long p1), .second, .val (.int p2), .val (.int p3), .val (.int (3 : Int32)), .val (.ref st_EMIN), .val (.int (1 : Int32)), .val (.int w3_y_v100), .val (.double w3_y_v187), .second, .val (.int (1 : Int32)), .val (.long w3_y_v179), .second] [(.double w3_y_v187), (.ref st_EMIN)])) rfl (by rw [hml]; rfl) (Steps.refl _) (argsL := [(.double w3_y_v187)]) (rest := []) (lenOf own_pd_28D29Z rfl) rfl (by show 2 * 0 + _ ≤ _; exact Nat.le_of_eq rfl) (hb hby at_219) (fun _ _ => ⟨rfl, ew3_y1, (by decide : 0 + 0 ≤ _), (by decide : 0 + 0 ≤ _)⟩)
  dsimp only [Pt.U, Pt.locs, Pt.cells, Pt.slots] at Xw3_y2 lw3_y2 yw3_y2 zw3_y2 stw3_y2 hQw3_y2
  rw [lw3_y2, yw3_y2, zw3_y2] at Xw3_y2
  obtain ⟨rfl, Nw3_y2q, ew3_y2⟩ := hQw3_y2
  have Nw3_y2 := Fr.app N0 Nw3_y2q
  obtain ⟨fs, hr, hrun, hended, hW, hsame⟩ := Xw3_y2.leave (v := some (.int (1 : Int32))) (fun h => by rw [Bd.returns] at h; cases h)
  refine ⟨_, _, pre0 _ ?_, hrun, hended, _, _, rfl, ?_, ⟨_, rfl⟩, hW, hsame.mono (by decide) (by decide)⟩
  · refine own_s_iloadN X0.here hx (hb hby at_0) (pc' := 1) rfl rfl ?_
    refine X0.ldcInt hx hown (mvT hZ (hw _ (List.mem_of_getElem? (i := 0) rfl))) (g := (mkF m 1 #[.val (.int p0), .val (.long p1), .second, .val (.int p2), .val (.int p3), .unset, .unset, .unset, .unset, .unset, .unset, .unset, .unset, .unset] [(.int p0)])) rfl (hb hby at_1) _ ?_
    show Steps p.tables e below (s₁.setTop (mkF m 3 #[.val (.int p0), .val (.long p1), .second, .val (.int p2), .val (.int p3), .unset, .unset, .unset, .unset, .unset, .unset, .unset, .unset, .unset] [(.int (2147483647 : Int32)), (.int p0)])) _
    refine own_s_iand X0.here hx (hb hby at_3) (pc' := 4) rfl (v := w3_y_v3) w3_y_hv3 ?_
    refine own_s_bipush X0.here hx (hb hby at_4) (pc' := 6) rfl (v := (6 : Int32)) (by decide) ?_
    refine own_s_irem X0.here hx (hb hby at_6) (pc' := 7) rfl (by decide) (v := (3 : Int32)) w3_y_hv6 ?_
    refine own_s_istore X0.here hx (hb hby at_7) (pc' := 9) rfl (L' := #[.val (.int p0), .val (.long p1), .second, .val (.int p2), .val (.int p3), .val (.int (3 : Int32)), .unset, .unset, .unset, .unset, .unset, .unset, .unset, .unset]) rfl ?_
    refine own_s_iload X0.here hx (hb hby at_9) (pc' := 11) rfl rfl ?_
    refine own_s_ifYes X0.here hx (hb hby at_11) (by decide) (pc' := 22) (by decide) (by decide) ?_
    refine own_s_iload X0.here hx (hb hby at_22) (pc' := 24) rfl rfl ?_
    refine own_s_iconst X0.here hx (hb hby at_24) (pc' := 25) rfl (v := (1 : Int32)) (by decide) ?_
    refine own_s_icmpYes X0.here hx (hb hby at_25) (by decide) (pc' := 36) (by decide) (by decide) ?_
    refine own_s_iload X0.here hx (hb hby at_36) (pc' := 38) rfl rfl ?_
    refine own_s_iconst X0.here hx (hb hby at_38) (pc' := 39) rfl (v := (2 : Int32)) (by decide) ?_
    refine own_s_icmpYes X0.here hx (hb hby at_39) (by decide) (pc' := 50) (by decide) (by decide) ?_
    refine own_s_iload X0.here hx (hb hby at_50) (pc' := 52) rfl rfl ?_
    refine own_s_iconst X0.here hx (hb hby at_52) (pc' := 53) rfl (v := (3 : Int32)) (by decide) ?_
    refine own_s_icmpNo X0.here hx (hb hby at_53) (pc' := 56) rfl (by decide) ?_
    refine stw3_y1 _ ?_
    show Steps p.tables e below (Tw3_y1.setTop (mkF m 59 #[.val (.int p0), .val (.long p1), .second, .val (.int p2), .val (.int p3), .val (.int (3 : Int32)), .unset, .unset, .unset, .unset, .unset, .unset, .unset, .unset] [(.ref st_EMIN)])) _
    refine own_s_astore Xw3_y1.here hx (hb hby at_59) (pc' := 61) rfl rfl (L' := #[.val (.int p0), .val (.long p1), .second, .val (.int p2), .val (.int p3), .val (.int (3 : Int32)), .val (.ref st_EMIN), .unset, .unset, .unset, .unset, .unset, .unset, .unset]) rfl ?_
    refine own_s_goto Xw3_y1.here hx (hb hby at_61) (by decide) (pc' := 83) (by decide) ?_
    refine own_s_iload Xw3_y1.here hx (hb hby at_83) (pc' := 85) rfl rfl ?_
    refine own_s_iconst Xw3_y1.here hx (hb hby at_85) (pc' := 86) rfl (v := (3 : Int32)) (by decide) ?_
    refine own_s_icmpNo Xw3_y1.here hx (hb hby at_86) (pc' := 89) rfl (by decide) ?_
    refine own_s_iconst Xw3_y1.here hx (hb hby at_89) (pc' := 90) rfl (v := (1 : Int32)) (by decide) ?_
    refine own_s_goto Xw3_y1.here hx (hb hby at_90) (by decide) (pc' := 94) (by decide) ?_
    refine own_s_istore Xw3_y1.here hx (hb hby at_94) (pc' := 96) rfl (L' := #[.val (.int p0), .val (.long p1), .second, .val (.int p2), .val (.int p3), .val (.int (3 : Int32)), .val (.ref st_EMIN), .val (.int (1 : Int32)), .unset, .unset, .unset, .unset, .unset, .unset]) rfl ?_
    refine own_s_iload Xw3_y1.here hx (hb hby at_96) (pc' := 98) rfl rfl ?_
    refine own_s_bipush Xw3_y1.here hx (hb hby at_98) (pc' := 100) rfl (v := (7 : Int32)) (by decide) ?_
    refine own_s_iand Xw3_y1.here hx (hb hby at_100) (pc' := 101) rfl (v := w3_y_v100) w3_y_hv100 ?_
    refine own_s_istore Xw3_y1.here hx (hb hby at_101) (pc' := 103) rfl (L' := #[.val (.int p0), .val (.long p1), .second, .val (.int p2), .val (.int p3), .val (.int (3 : Int32)), .val (.ref st_EMIN), .val (.int (1 : Int32)), .val (.int w3_y_v100), .unset, .unset, .unset, .unset, .unset]) rfl ?_
    refine own_s_iload Xw3_y1.here hx (hb hby at_103) (pc' := 105) rfl rfl ?_
    refine own_s_iconst Xw3_y1.here hx (hb hby at_105) (pc' := 106) rfl (v := (4 : Int32)) (by decide) ?_
    refine own_s_icmpYes Xw3_y1.here hx (hb hby at_106) (by decide) (pc' := 121) (by decide) w3_y_hb106 ?_
    refine own_s_iload Xw3_y1.here hx (hb hby at_121) (pc' := 123) rfl rfl ?_
    refine own_s_iconst Xw3_y1.here hx (hb hby at_123) (pc' := 124) rfl (v := (5 : Int32)) (by decide) ?_
    refine own_s_icmpYes Xw3_y1.here hx (hb hby at_124) (by decide) (pc' := 138) (by decide) w3_y_hb124 ?_
    refine own_s_iload Xw3_y1.here hx (hb hby at_138) (pc' := 140) rfl rfl ?_
    refine own_s_bipush Xw3_y1.here hx (hb hby at_140) (pc' := 142) rfl (v := (6 : Int32)) (by decide) ?_
    refine own_s_icmpYes Xw3_y1.here hx (hb hby at_142) (by decide) (pc' := 156) (by decide) w3_y_hb142 ?_
    refine own_s_iload Xw3_y1.here hx (hb hby at_156) (pc' := 158) rfl rfl ?_
    refine own_s_bipush Xw3_y1.here hx (hb hby at_158) (pc' := 160) rfl (v := (7 : Int32)) (by decide) ?_
    refine own_s_icmpYes Xw3_y1.here hx (hb hby at_160) (by decide) (pc' := 174) (by decide) w3_y_hb160 ?_
    refine own_s_lconst Xw3_y1.here hx (hb hby at_174) (pc' := 175) rfl (v := (1 : Int64)) (by decide) ?_
    refine own_s_iloadN Xw3_y1.here hx (hb hby at_175) (pc' := 176) rfl rfl ?_
    refine own_s_bipush Xw3_y1.here hx (hb hby at_176) (pc' := 178) rfl (v := (31 : Int32)) (by decide) ?_
    refine own_s_iand Xw3_y1.here hx (hb hby at_178) (pc' := 179) rfl (v := w3_y_v178) w3_y_hv178 ?_
    refine own_s_lshl Xw3_y1.here hx (hb hby at_179) (pc' := 180) rfl (v := w3_y_v179) w3_y_hv179 ?_
    refine own_s_lstore Xw3_y1.here hx (hb hby at_180) (pc' := 182) rfl (L' := #[.val (.int p0), .val (.long p1), .second, .val (.int p2), .val (.int p3), .val (.int (3 : Int32)), .val (.ref st_EMIN), .val (.int (1 : Int32)), .val (.int w3_y_v100), .unset, .unset, .unset, .val (.long w3_y_v179), .second]) rfl ?_
    refine own_s_lloadN Xw3_y1.here hx (hb hby at_182) (pc' := 183) rfl rfl ?_
    refine own_s_l2d Xw3_y1.here hx (hb hby at_183) (pc' := 184) rfl (v := (FP.l2d p1)) rfl ?_
    refine own_s_lload Xw3_y1.here hx (hb hby at_184) (pc' := 186) rfl rfl ?_
    refine own_s_l2d Xw3_y1.here hx (hb hby at_186) (pc' := 187) rfl (v := (FP.l2d w3_y_v179)) rfl ?_
    refine own_s_ddiv Xw3_y1.here hx (hb hby at_187) (pc' := 188) rfl w3_y_hn187 (v := w3_y_v187) w3_y_hv187 ?_
    refine own_s_dstore Xw3_y1.here hx (hb hby at_188) (pc' := 190) rfl (L' := #[.val (.int p0), .val (.long p1), .second, .val (.int p2), .val (.int p3), .val (.int (3 : Int32)), .val (.ref st_EMIN), .val (.int (1 : Int32)), .val (.int w3_y_v100), .val (.double w3_y_v187), .second, .unset, .val (.long w3_y_v179), .second]) rfl ?_
    refine own_s_lloadN Xw3_y1.here hx (hb hby at_190) (pc' := 191) rfl rfl ?_
    refine own_s_lconst Xw3_y1.here hx (hb hby at_191) (pc' := 192) rfl (v := (0 : Int64)) (by decide) ?_
    refine own_s_lcmp Xw3_y1.here hx (hb hby at_192) (pc' := 193) rfl (v := (lcmpW p1 (0 : Int64))) rfl ?_
    refine own_s_ifNo Xw3_y1.here hx (hb hby at_193) (pc' := 196) rfl w3_y_hb193 ?_
    refine own_s_iload Xw3_y1.here hx (hb hby at_196) (pc' := 198) rfl rfl ?_
    refine own_s_ifYes Xw3_y1.here hx (hb hby at_198) (by decide) (pc' := 208) (by decide) (by decide) ?_
    refine own_s_iconst Xw3_y1.here hx (hb hby at_208) (pc' := 209) rfl (v := (1 : Int32)) (by decide) ?_
    refine own_s_goto Xw3_y1.here hx (hb hby at_209) (by decide) (pc' := 213) (by decide) ?_
    refine own_s_istore Xw3_y1.here hx (hb hby at_213) (pc' := 215) rfl (L' := #[.val (.int p0), .val (.long p1), .second, .val (.int p2), .val (.int p3), .val (.int (3 : Int32)), .val (.ref st_EMIN), .val (.int (1 : Int32)), .val (.int w3_y_v100), .val (.double w3_y_v187), .second, .val (.int (1 : Int32)), .val (.long w3_y_v179), .second]) rfl ?_
    refine own_s_aload Xw3_y1.here hx (hb hby at_215) (pc' := 217) rfl rfl rfl ?_
    refine own_s_dload Xw3_y1.here hx (hb hby at_217) (pc' := 219) rfl rfl ?_
    refine stw3_y2.trans ?_
    show Steps p.tables e below (Tw3_y2.setTop (mkF m 222 #[.val (.int p0), .val (.long p1), .second, .val (.int p2), .val (.int p3), .val (.int (3 : Int32)), .val (.ref st_EMIN), .val (.int (1 : Int32)), .val (.int w3_y_v100), .val (.double w3_y_v187), .second, .val (.int (1 : Int32)), .val (.long w3_y_v179), .second] [(.int (1 : Int32))])) _
    refine own_s_iload Xw3_y2.here hx (hb hby at_222) (pc' := 224) rfl rfl ?_
    refine own_s_icmpNo Xw3_y2.here hx (hb hby at_224) (pc' := 227) rfl (by decide) ?_
    refine own_s_iconst Xw3_y2.here hx (hb hby at_227) (pc' := 228) rfl (v := (1 : Int32)) (by decide) ?_
    refine own_s_goto Xw3_y2.here hx (hb hby at_228) (by decide) (pc' := 232) (by decide) ?_
    exact retN Xw3_y2 hx (t := .boolean) Bd.returns (by simp) (hb hby at_232) hr
  · show own_Q0 n0 _ Tw3_y2.heap _
    rw [ew3_y2]
    exact ⟨rfl, Nw3_y2⟩
theorem own_ef_w4_4 (m : MethodId) (p0 : Int32) (p1 : Int64) (p2 : Int32) (p3 : Int32) : entryFrame m #[(.int p0), (.long p1), (.int p2), (.int p3)] maxLocals = mkF m 0 #[.val (.int p0), .val (.long p1), .second, .val (.int p2), .val (.int p3), .unset, .unset, .unset, .unset, .unset, .unset, .unset, .unset, .unset] [] := by first | (simp [entryFrame, mkF, argsToLocals, Value.category, maxLocals]; done) | rfl
set_option maxRecDepth 65536 in
set_option maxHeartbeats 40000000 in
theorem own_rm_w4_4 (l : Launch) (Z : State) (a0 : Array Value) (hw : ∀ d ∈ tables_1, d.before a0 Z = true) (ws : List Jvm.Cond) (p0 : Int32) (p1 : Int64) (p2 : Int32) (p3 : Int32) (st_EMAX : Addr) {w4_4_v3 : Int32} (h0 : Heap) (n0 : Nat) (Z0 : n0 ≤ h0.size) (E_st_EMAX : Exa Z h0 st_EMAX "com/example/libcredal/libcredal/checker/Query$Operator") (F_reward_st_EMAX : Fld Z h0 st_EMAX "com/example/libcredal/libcredal/checker/Query$Operator" "reward" "Z" (.int (1 : Int32))) (S_EMAX : Sta Z h0 "com/example/libcredal/libcredal/checker/Query$Operator" "EMAX" "Lcom/example/libcredal/libcredal/checker/Query$Operator;" (.ref st_EMAX)) (w4_4_hv3 : p0 &&& (2147483647 : Int32) = w4_4_v3) (w4_4_hv6 : w4_4_v3 % (6 : Int32) = (4 : Int32)) (w4_4_hv100 : p3 &&& (7 : Int32) = (4 : Int32)) (w4_4_c219_c1ff_hb3 : ifCond.holds .lt (Op.cmpValue (FP.dcmp (9218868437227405311 : UInt64) 0) .l) = false) (w4_4_c219_c1ff_hb22 : ifCond.holds .gt (Op.cmpValue (FP.dcmp (9218868437227405311 : UInt64) (9218868437227405311 : UInt64)) .g) = false) :
    MetFree l x (head1 (Jvm.Cond.code x code maxLocals ret :: ws) room_1) (fun a U => a = #[(.int p0), (.long p1), (.int p2), (.int p3)] ∧ Z.Warmed39 U.vm ∧ U.heap = h0) (fun _ _ _ _ _ => True) (fun _ U o U' => ∃ v L, o = .returned v ∧ own_Q0 n0 v U'.heap L ∧ FrameEnd U o U' L room_1.cells room_1.slots) := by
  refine MetFree.of_bodySF (plainFor_of_name own_pn_com_example_libcredal_libcredal_checker_OperatorAdmitsPinLaw) hisR ?_
  intro p e s m args below meth c s₁ Bd hml0 hP hK
  obtain ⟨rfl, hZ, hh⟩ := hP
  have hx := Bd.exec
  have hby := Bd.bytes
  have hml : c.maxLocals = 14 := hml0
  have hown : s.vm.findClass "com/example/libcredal/libcredal/checker/OperatorAdmitsPinLaw" = some m.cls := findClass_of_methodNamed Bd.named
  have hnm := (name_of_methodNamed Bd.named Bd.method).1
  have X0 : Stand p l e room_1 s m #[(.int p0), (.long p1), (.int p2), (.int p3)] below meth c s₁ [] 0 0 := Stand.of_body Bd
  have e0 : s₁.heap = h0 := by rw [← hh, Bd.state]; rfl
  have N0 := Fr.nil n0
  have pre0 : ∀ t, Steps p.tables e below (s₁.setTop (mkF m 0 #[.val (.int p0), .val (.long p1), .second, .val (.int p2), .val (.int p3), .unset, .unset, .unset, .unset, .unset, .unset, .unset, .unset, .unset] [])) t → Steps p.tables e below (s₁.setTop (entryFrame m #[(.int p0), (.long p1), (.int p2), (.int p3)] maxLocals)) t := fun t k => castTop (own_ef_w4_4 m p0 p1 p2 p3) k
  obtain ⟨Tw4_41, Xw4_41, ew4_41, stw4_41⟩ := getS2 X0 hx hZ hown (host := "") (Or.inl (hw _ (List.mem_of_getElem? (i := 21) rfl))) Via.refl e0 S_EMAX (g := (mkF m 70 #[.val (.int p0), .val (.long p1), .second, .val (.int p2), .val (.int p3), .val (.int (4 : Int32)), .unset, .unset, .unset, .unset, .unset, .unset, .unset, .unset] [])) rfl (hb hby at_70)
  obtain ⟨cqw4_42, kqw4_42, qw4_42a, qw4_42b, qw4_42c⟩ := isOf hZ ew4_41 E_st_EMAX
  obtain ⟨_, _, ⟨Tw4_42, Lw4_42, kw4_42, nw4_42⟩, -, Xw4_42, ⟨Lcw4_42, hQw4_42, lw4_42, yw4_42, zw4_42⟩, stw4_42⟩ := Xw4_41.virtualBack hx (y := (⟨"com/example/libcredal/libcredal/checker/Query$Operator", "admits", "(D)Z"⟩ : MethodName)) (z := (⟨"com/example/libcredal/libcredal/checker/Query$Operator", "admits", "(D)Z"⟩ : MethodName)) hown (mvT hZ (hw _ (List.mem_of_getElem? (i := 4) rfl))) (mvT hZ (hw _ (List.mem_of_getElem? (i := 5) rfl))) (notFace_of_selects (args := #[]) (mvT hZ (hw _ (List.mem_of_getElem? (i := 7) rfl)))) (mvT hZ (hw _ (List.mem_of_getElem? (i := 7) rfl))) (mvT hZ (hw _ (List.mem_of_getElem? (i := 6) rfl))) (by decide) (backOf (W := 0) (own_rm_c1ff l Z a0 hw [] st_EMAX (9218868437227405311 : UInt64) h0 n0 Z0 E_st_EMAX F_reward_st_EMAX w4_4_c219_c1ff_hb3 w4_4_c219_c1ff_hb22) hZ (hw _ (List.mem_of_getElem? (i := 8) rfl)) (hw _ (List.mem_of_getElem? (i := 2) rfl)) (by decide) (by decide)) qw4_42a qw4_42c (g := (mkF m 219 #[.val (.int p0), .val (.long p1), .second, .val (.int p2), .val (.int p3), .val (.int (4 : Int32)), .val (.ref st_EMAX), .val (.int (1 : Int32)), .val (.int (4 : Int32)), .val (.double (9218868437227405311 : UInt64)), .second, .val (.int (1 : Int32)), .unset, .unset] [(.double (9218868437227405311 : UInt64)), (.ref st_EMAX)])) rfl (by rw [hml]; rfl) (Steps.refl _) (argsL := [(.double (9218868437227405311 : UInt64))]) (rest := []) (lenOf own_pd_28D29Z rfl) rfl (by show 2 * 0 + _ ≤ _; exact Nat.le_of_eq rfl) (hb hby at_219) (fun _ _ => ⟨rfl, ew4_41, (by decide : 0 + 0 ≤ _), (by decide : 0 + 0 ≤ _)⟩)
  dsimp only [Pt.U, Pt.locs, Pt.cells, Pt.slots] at Xw4_42 lw4_42 yw4_42 zw4_42 stw4_42 hQw4_42
  rw [lw4_42, yw4_42, zw4_42] at Xw4_42
  obtain ⟨rfl, Nw4_42q, ew4_42⟩ := hQw4_42
  have Nw4_42 := Fr.app N0 Nw4_42q
  obtain ⟨fs, hr, hrun, hended, hW, hsame⟩ := Xw4_42.leave (v := some (.int (1 : Int32))) (fun h => by rw [Bd.returns] at h; cases h)
  refine ⟨_, _, pre0 _ ?_, hrun, hended, _, _, rfl, ?_, ⟨_, rfl⟩, hW, hsame.mono (by decide) (by decide)⟩
  · refine own_s_iloadN X0.here hx (hb hby at_0) (pc' := 1) rfl rfl ?_
    refine X0.ldcInt hx hown (mvT hZ (hw _ (List.mem_of_getElem? (i := 0) rfl))) (g := (mkF m 1 #[.val (.int p0), .val (.long p1), .second, .val (.int p2), .val (.int p3), .unset, .unset, .unset, .unset, .unset, .unset, .unset, .unset, .unset] [(.int p0)])) rfl (hb hby at_1) _ ?_
    show Steps p.tables e below (s₁.setTop (mkF m 3 #[.val (.int p0), .val (.long p1), .second, .val (.int p2), .val (.int p3), .unset, .unset, .unset, .unset, .unset, .unset, .unset, .unset, .unset] [(.int (2147483647 : Int32)), (.int p0)])) _
    refine own_s_iand X0.here hx (hb hby at_3) (pc' := 4) rfl (v := w4_4_v3) w4_4_hv3 ?_
    refine own_s_bipush X0.here hx (hb hby at_4) (pc' := 6) rfl (v := (6 : Int32)) (by decide) ?_
    refine own_s_irem X0.here hx (hb hby at_6) (pc' := 7) rfl (by decide) (v := (4 : Int32)) w4_4_hv6 ?_
    refine own_s_istore X0.here hx (hb hby at_7) (pc' := 9) rfl (L' := #[.val (.int p0), .val (.long p1), .second, .val (.int p2), .val (.int p3), .val (.int (4 : Int32)), .unset, .unset, .unset, .unset, .unset, .unset, .unset, .unset]) rfl ?_
    refine own_s_iload X0.here hx (hb hby at_9) (pc' := 11) rfl rfl ?_
    refine own_s_ifYes X0.here hx (hb hby at_11) (by decide) (pc' := 22) (by decide) (by decide) ?_
    refine own_s_iload X0.here hx (hb hby at_22) (pc' := 24) rfl rfl ?_
    refine own_s_iconst X0.here hx (hb hby at_24) (pc' := 25) rfl (v := (1 : Int32)) (by decide) ?_
    refine own_s_icmpYes X0.here hx (hb hby at_25) (by decide) (pc' := 36) (by decide) (by decide) ?_
    refine own_s_iload X0.here hx (hb hby at_36) (pc' := 38) rfl rfl ?_
    refine own_s_iconst X0.here hx (hb hby at_38) (pc' := 39) rfl (v := (2 : Int32)) (by decide) ?_
    refine own_s_icmpYes X0.here hx (hb hby at_39) (by decide) (pc' := 50) (by decide) (by decide) ?_
    refine own_s_iload X0.here hx (hb hby at_50) (pc' := 52) rfl rfl ?_
    refine own_s_iconst X0.here hx (hb hby at_52) (pc' := 53) rfl (v := (3 : Int32)) (by decide) ?_
    refine own_s_icmpYes X0.here hx (hb hby at_53) (by decide) (pc' := 64) (by decide) (by decide) ?_
    refine own_s_iload X0.here hx (hb hby at_64) (pc' := 66) rfl rfl ?_
    refine own_s_iconst X0.here hx (hb hby at_66) (pc' := 67) rfl (v := (4 : Int32)) (by decide) ?_
    refine own_s_icmpNo X0.here hx (hb hby at_67) (pc' := 70) rfl (by decide) ?_
    refine stw4_41 _ ?_
    show Steps p.tables e below (Tw4_41.setTop (mkF m 73 #[.val (.int p0), .val (.long p1), .second, .val (.int p2), .val (.int p3), .val (.int (4 : Int32)), .unset, .unset, .unset, .unset, .unset, .unset, .unset, .unset] [(.ref st_EMAX)])) _
    refine own_s_astore Xw4_41.here hx (hb hby at_73) (pc' := 75) rfl rfl (L' := #[.val (.int p0), .val (.long p1), .second, .val (.int p2), .val (.int p3), .val (.int (4 : Int32)), .val (.ref st_EMAX), .unset, .unset, .unset, .unset, .unset, .unset, .unset]) rfl ?_
    refine own_s_goto Xw4_41.here hx (hb hby at_75) (by decide) (pc' := 83) (by decide) ?_
    refine own_s_iload Xw4_41.here hx (hb hby at_83) (pc' := 85) rfl rfl ?_
    refine own_s_iconst Xw4_41.here hx (hb hby at_85) (pc' := 86) rfl (v := (3 : Int32)) (by decide) ?_
    refine own_s_icmpNo Xw4_41.here hx (hb hby at_86) (pc' := 89) rfl (by decide) ?_
    refine own_s_iconst Xw4_41.here hx (hb hby at_89) (pc' := 90) rfl (v := (1 : Int32)) (by decide) ?_
    refine own_s_goto Xw4_41.here hx (hb hby at_90) (by decide) (pc' := 94) (by decide) ?_
    refine own_s_istore Xw4_41.here hx (hb hby at_94) (pc' := 96) rfl (L' := #[.val (.int p0), .val (.long p1), .second, .val (.int p2), .val (.int p3), .val (.int (4 : Int32)), .val (.ref st_EMAX), .val (.int (1 : Int32)), .unset, .unset, .unset, .unset, .unset, .unset]) rfl ?_
    refine own_s_iload Xw4_41.here hx (hb hby at_96) (pc' := 98) rfl rfl ?_
    refine own_s_bipush Xw4_41.here hx (hb hby at_98) (pc' := 100) rfl (v := (7 : Int32)) (by decide) ?_
    refine own_s_iand Xw4_41.here hx (hb hby at_100) (pc' := 101) rfl (v := (4 : Int32)) w4_4_hv100 ?_
    refine own_s_istore Xw4_41.here hx (hb hby at_101) (pc' := 103) rfl (L' := #[.val (.int p0), .val (.long p1), .second, .val (.int p2), .val (.int p3), .val (.int (4 : Int32)), .val (.ref st_EMAX), .val (.int (1 : Int32)), .val (.int (4 : Int32)), .unset, .unset, .unset, .unset, .unset]) rfl ?_
    refine own_s_iload Xw4_41.here hx (hb hby at_103) (pc' := 105) rfl rfl ?_
    refine own_s_iconst Xw4_41.here hx (hb hby at_105) (pc' := 106) rfl (v := (4 : Int32)) (by decide) ?_
    refine own_s_icmpNo Xw4_41.here hx (hb hby at_106) (pc' := 109) rfl (by decide) ?_
    refine Xw4_41.ldc2DoubleC hx hown (mvT hZ (hw _ (List.mem_of_getElem? (i := 19) rfl))) (g := (mkF m 109 #[.val (.int p0), .val (.long p1), .second, .val (.int p2), .val (.int p3), .val (.int (4 : Int32)), .val (.ref st_EMAX), .val (.int (1 : Int32)), .val (.int (4 : Int32)), .unset, .unset, .unset, .unset, .unset] [])) rfl (hb hby at_109) _ ?_
    show Steps p.tables e below (Tw4_41.setTop (mkF m 112 #[.val (.int p0), .val (.long p1), .second, .val (.int p2), .val (.int p3), .val (.int (4 : Int32)), .val (.ref st_EMAX), .val (.int (1 : Int32)), .val (.int (4 : Int32)), .unset, .unset, .unset, .unset, .unset] [(.double (9218868437227405311 : UInt64))])) _
    refine own_s_dstore Xw4_41.here hx (hb hby at_112) (pc' := 114) rfl (L' := #[.val (.int p0), .val (.long p1), .second, .val (.int p2), .val (.int p3), .val (.int (4 : Int32)), .val (.ref st_EMAX), .val (.int (1 : Int32)), .val (.int (4 : Int32)), .val (.double (9218868437227405311 : UInt64)), .second, .unset, .unset, .unset]) rfl ?_
    refine own_s_iload Xw4_41.here hx (hb hby at_114) (pc' := 116) rfl rfl ?_
    refine own_s_istore Xw4_41.here hx (hb hby at_116) (pc' := 118) rfl (L' := #[.val (.int p0), .val (.long p1), .second, .val (.int p2), .val (.int p3), .val (.int (4 : Int32)), .val (.ref st_EMAX), .val (.int (1 : Int32)), .val (.int (4 : Int32)), .val (.double (9218868437227405311 : UInt64)), .second, .val (.int (1 : Int32)), .unset, .unset]) rfl ?_
    refine own_s_goto Xw4_41.here hx (hb hby at_118) (by decide) (pc' := 215) (by decide) ?_
    refine own_s_aload Xw4_41.here hx (hb hby at_215) (pc' := 217) rfl rfl rfl ?_
    refine own_s_dload Xw4_41.here hx (hb hby at_217) (pc' := 219) rfl rfl ?_
    refine stw4_42.trans ?_
    show Steps p.tables e below (Tw4_42.setTop (mkF m 222 #[.val (.int p0), .val (.long p1), .second, .val (.int p2), .val (.int p3), .val (.int (4 : Int32)), .val (.ref st_EMAX), .val (.int (1 : Int32)), .val (.int (4 : Int32)), .val (.double (9218868437227405311 : UInt64)), .second, .val (.int (1 : Int32)), .unset, .unset] [(.int (1 : Int32))])) _
    refine own_s_iload Xw4_42.here hx (hb hby at_222) (pc' := 224) rfl rfl ?_
    refine own_s_icmpNo Xw4_42.here hx (hb hby at_224) (pc' := 227) rfl (by decide) ?_
    refine own_s_iconst Xw4_42.here hx (hb hby at_227) (pc' := 228) rfl (v := (1 : Int32)) (by decide) ?_
    refine own_s_goto Xw4_42.here hx (hb hby at_228) (by decide) (pc' := 232) (by decide) ?_
    exact retN Xw4_42 hx (t := .boolean) Bd.returns (by simp) (hb hby at_232) hr
  · show own_Q0 n0 _ Tw4_42.heap _
    rw [ew4_42]
    exact ⟨rfl, Nw4_42⟩
theorem own_ef_w4_5 (m : MethodId) (p0 : Int32) (p1 : Int64) (p2 : Int32) (p3 : Int32) : entryFrame m #[(.int p0), (.long p1), (.int p2), (.int p3)] maxLocals = mkF m 0 #[.val (.int p0), .val (.long p1), .second, .val (.int p2), .val (.int p3), .unset, .unset, .unset, .unset, .unset, .unset, .unset, .unset, .unset] [] := by first | (simp [entryFrame, mkF, argsToLocals, Value.category, maxLocals]; done) | rfl
set_option maxRecDepth 65536 in
set_option maxHeartbeats 40000000 in
theorem own_rm_w4_5 (l : Launch) (Z : State) (a0 : Array Value) (hw : ∀ d ∈ tables_1, d.before a0 Z = true) (ws : List Jvm.Cond) (p0 : Int32) (p1 : Int64) (p2 : Int32) (p3 : Int32) (st_EMAX : Addr) {w4_5_v3 : Int32} (h0 : Heap) (n0 : Nat) (Z0 : n0 ≤ h0.size) (E_st_EMAX : Exa Z h0 st_EMAX "com/example/libcredal/libcredal/checker/Query$Operator") (F_reward_st_EMAX : Fld Z h0 st_EMAX "com/example/libcredal/libcredal/checker/Query$Operator" "reward" "Z" (.int (1 : Int32))) (S_EMAX : Sta Z h0 "com/example/libcredal/libcredal/checker/Query$Operator" "EMAX" "Lcom/example/libcredal/libcredal/checker/Query$Operator;" (.ref st_EMAX)) (w4_5_hv3 : p0 &&& (2147483647 : Int32) = w4_5_v3) (w4_5_hv6 : w4_5_v3 % (6 : Int32) = (4 : Int32)) (w4_5_hv100 : p3 &&& (7 : Int32) = (5 : Int32)) (w4_5_c219_c1ft_hb3 : ifCond.holds .lt (Op.cmpValue (FP.dcmp (9218868437227405312 : UInt64) 0) .l) = false) (w4_5_c219_c1ft_hb22 : ifCond.holds .gt (Op.cmpValue (FP.dcmp (9218868437227405312 : UInt64) (9218868437227405311 : UInt64)) .g) = true) :
    MetFree l x (head1 (Jvm.Cond.code x code maxLocals ret :: ws) room_1) (fun a U => a = #[(.int p0), (.long p1), (.int p2), (.int p3)] ∧ Z.Warmed39 U.vm ∧ U.heap = h0) (fun _ _ _ _ _ => True) (fun _ U o U' => ∃ v L, o = .returned v ∧ own_Q0 n0 v U'.heap L ∧ FrameEnd U o U' L room_1.cells room_1.slots) := by
  refine MetFree.of_bodySF (plainFor_of_name own_pn_com_example_libcredal_libcredal_checker_OperatorAdmitsPinLaw) hisR ?_
  intro p e s m args below meth c s₁ Bd hml0 hP hK
  obtain ⟨rfl, hZ, hh⟩ := hP
  have hx := Bd.exec
  have hby := Bd.bytes
  have hml : c.maxLocals = 14 := hml0
  have hown : s.vm.findClass "com/example/libcredal/libcredal/checker/OperatorAdmitsPinLaw" = some m.cls := findClass_of_methodNamed Bd.named
  have hnm := (name_of_methodNamed Bd.named Bd.method).1
  have X0 : Stand p l e room_1 s m #[(.int p0), (.long p1), (.int p2), (.int p3)] below meth c s₁ [] 0 0 := Stand.of_body Bd
  have e0 : s₁.heap = h0 := by rw [← hh, Bd.state]; rfl
  have N0 := Fr.nil n0
  have pre0 : ∀ t, Steps p.tables e below (s₁.setTop (mkF m 0 #[.val (.int p0), .val (.long p1), .second, .val (.int p2), .val (.int p3), .unset, .unset, .unset, .unset, .unset, .unset, .unset, .unset, .unset] [])) t → Steps p.tables e below (s₁.setTop (entryFrame m #[(.int p0), (.long p1), (.int p2), (.int p3)] maxLocals)) t := fun t k => castTop (own_ef_w4_5 m p0 p1 p2 p3) k
  obtain ⟨Tw4_51, Xw4_51, ew4_51, stw4_51⟩ := getS2 X0 hx hZ hown (host := "") (Or.inl (hw _ (List.mem_of_getElem? (i := 21) rfl))) Via.refl e0 S_EMAX (g := (mkF m 70 #[.val (.int p0), .val (.long p1), .second, .val (.int p2), .val (.int p3), .val (.int (4 : Int32)), .unset, .unset, .unset, .unset, .unset, .unset, .unset, .unset] [])) rfl (hb hby at_70)
  obtain ⟨cqw4_52, kqw4_52, qw4_52a, qw4_52b, qw4_52c⟩ := isOf hZ ew4_51 E_st_EMAX
  obtain ⟨_, _, ⟨Tw4_52, Lw4_52, kw4_52, nw4_52⟩, -, Xw4_52, ⟨Lcw4_52, hQw4_52, lw4_52, yw4_52, zw4_52⟩, stw4_52⟩ := Xw4_51.virtualBack hx (y := (⟨"com/example/libcredal/libcredal/checker/Query$Operator", "admits", "(D)Z"⟩ : MethodName)) (z := (⟨"com/example/libcredal/libcredal/checker/Query$Operator", "admits", "(D)Z"⟩ : MethodName)) hown (mvT hZ (hw _ (List.mem_of_getElem? (i := 4) rfl))) (mvT hZ (hw _ (List.mem_of_getElem? (i := 5) rfl))) (notFace_of_selects (args := #[]) (mvT hZ (hw _ (List.mem_of_getElem? (i := 7) rfl)))) (mvT hZ (hw _ (List.mem_of_getElem? (i := 7) rfl))) (mvT hZ (hw _ (List.mem_of_getElem? (i := 6) rfl))) (by decide) (backOf (W := 0) (own_rm_c1ft l Z a0 hw [] st_EMAX (9218868437227405312 : UInt64) h0 n0 Z0 E_st_EMAX F_reward_st_EMAX w4_5_c219_c1ft_hb3 w4_5_c219_c1ft_hb22) hZ (hw _ (List.mem_of_getElem? (i := 8) rfl)) (hw _ (List.mem_of_getElem? (i := 2) rfl)) (by decide) (by decide)) qw4_52a qw4_52c (g := (mkF m 219 #[.val (.int p0), .val (.long p1), .second, .val (.int p2), .val (.int p3), .val (.int (4 : Int32)), .val (.ref st_EMAX), .val (.int (1 : Int32)), .val (.int (5 : Int32)), .val (.double (9218868437227405312 : UInt64)), .second, .val (.int (0 : Int32)), .unset, .unset] [(.double (9218868437227405312 : UInt64)), (.ref st_EMAX)])) rfl (by rw [hml]; rfl) (Steps.refl _) (argsL := [(.double (9218868437227405312 : UInt64))]) (rest := []) (lenOf own_pd_28D29Z rfl) rfl (by show 2 * 0 + _ ≤ _; exact Nat.le_of_eq rfl) (hb hby at_219) (fun _ _ => ⟨rfl, ew4_51, (by decide : 0 + 0 ≤ _), (by decide : 0 + 0 ≤ _)⟩)
  dsimp only [Pt.U, Pt.locs, Pt.cells, Pt.slots] at Xw4_52 lw4_52 yw4_52 zw4_52 stw4_52 hQw4_52
  rw [lw4_52, yw4_52, zw4_52] at Xw4_52
  obtain ⟨rfl, Nw4_52q, ew4_52⟩ := hQw4_52
  have Nw4_52 := Fr.app N0 Nw4_52q
  obtain ⟨fs, hr, hrun, hended, hW, hsame⟩ := Xw4_52.leave (v := some (.int (1 : Int32))) (fun h => by rw [Bd.returns] at h; cases h)
  refine ⟨_, _, pre0 _ ?_, hrun, hended, _, _, rfl, ?_, ⟨_, rfl⟩, hW, hsame.mono (by decide) (by decide)⟩
  · refine own_s_iloadN X0.here hx (hb hby at_0) (pc' := 1) rfl rfl ?_
    refine X0.ldcInt hx hown (mvT hZ (hw _ (List.mem_of_getElem? (i := 0) rfl))) (g := (mkF m 1 #[.val (.int p0), .val (.long p1), .second, .val (.int p2), .val (.int p3), .unset, .unset, .unset, .unset, .unset, .unset, .unset, .unset, .unset] [(.int p0)])) rfl (hb hby at_1) _ ?_
    show Steps p.tables e below (s₁.setTop (mkF m 3 #[.val (.int p0), .val (.long p1), .second, .val (.int p2), .val (.int p3), .unset, .unset, .unset, .unset, .unset, .unset, .unset, .unset, .unset] [(.int (2147483647 : Int32)), (.int p0)])) _
    refine own_s_iand X0.here hx (hb hby at_3) (pc' := 4) rfl (v := w4_5_v3) w4_5_hv3 ?_
    refine own_s_bipush X0.here hx (hb hby at_4) (pc' := 6) rfl (v := (6 : Int32)) (by decide) ?_
    refine own_s_irem X0.here hx (hb hby at_6) (pc' := 7) rfl (by decide) (v := (4 : Int32)) w4_5_hv6 ?_
    refine own_s_istore X0.here hx (hb hby at_7) (pc' := 9) rfl (L' := #[.val (.int p0), .val (.long p1), .second, .val (.int p2), .val (.int p3), .val (.int (4 : Int32)), .unset, .unset, .unset, .unset, .unset, .unset, .unset, .unset]) rfl ?_
    refine own_s_iload X0.here hx (hb hby at_9) (pc' := 11) rfl rfl ?_
    refine own_s_ifYes X0.here hx (hb hby at_11) (by decide) (pc' := 22) (by decide) (by decide) ?_
    refine own_s_iload X0.here hx (hb hby at_22) (pc' := 24) rfl rfl ?_
    refine own_s_iconst X0.here hx (hb hby at_24) (pc' := 25) rfl (v := (1 : Int32)) (by decide) ?_
    refine own_s_icmpYes X0.here hx (hb hby at_25) (by decide) (pc' := 36) (by decide) (by decide) ?_
    refine own_s_iload X0.here hx (hb hby at_36) (pc' := 38) rfl rfl ?_
    refine own_s_iconst X0.here hx (hb hby at_38) (pc' := 39) rfl (v := (2 : Int32)) (by decide) ?_
    refine own_s_icmpYes X0.here hx (hb hby at_39) (by decide) (pc' := 50) (by decide) (by decide) ?_
    refine own_s_iload X0.here hx (hb hby at_50) (pc' := 52) rfl rfl ?_
    refine own_s_iconst X0.here hx (hb hby at_52) (pc' := 53) rfl (v := (3 : Int32)) (by decide) ?_
    refine own_s_icmpYes X0.here hx (hb hby at_53) (by decide) (pc' := 64) (by decide) (by decide) ?_
    refine own_s_iload X0.here hx (hb hby at_64) (pc' := 66) rfl rfl ?_
    refine own_s_iconst X0.here hx (hb hby at_66) (pc' := 67) rfl (v := (4 : Int32)) (by decide) ?_
    refine own_s_icmpNo X0.here hx (hb hby at_67) (pc' := 70) rfl (by decide) ?_
    refine stw4_51 _ ?_
    show Steps p.tables e below (Tw4_51.setTop (mkF m 73 #[.val (.int p0), .val (.long p1), .second, .val (.int p2), .val (.int p3), .val (.int (4 : Int32)), .unset, .unset, .unset, .unset, .unset, .unset, .unset, .unset] [(.ref st_EMAX)])) _
    refine own_s_astore Xw4_51.here hx (hb hby at_73) (pc' := 75) rfl rfl (L' := #[.val (.int p0), .val (.long p1), .second, .val (.int p2), .val (.int p3), .val (.int (4 : Int32)), .val (.ref st_EMAX), .unset, .unset, .unset, .unset, .unset, .unset, .unset]) rfl ?_
    refine own_s_goto Xw4_51.here hx (hb hby at_75) (by decide) (pc' := 83) (by decide) ?_
    refine own_s_iload Xw4_51.here hx (hb hby at_83) (pc' := 85) rfl rfl ?_
    refine own_s_iconst Xw4_51.here hx (hb hby at_85) (pc' := 86) rfl (v := (3 : Int32)) (by decide) ?_
    refine own_s_icmpNo Xw4_51.here hx (hb hby at_86) (pc' := 89) rfl (by decide) ?_
    refine own_s_iconst Xw4_51.here hx (hb hby at_89) (pc' := 90) rfl (v := (1 : Int32)) (by decide) ?_
    refine own_s_goto Xw4_51.here hx (hb hby at_90) (by decide) (pc' := 94) (by decide) ?_
    refine own_s_istore Xw4_51.here hx (hb hby at_94) (pc' := 96) rfl (L' := #[.val (.int p0), .val (.long p1), .second, .val (.int p2), .val (.int p3), .val (.int (4 : Int32)), .val (.ref st_EMAX), .val (.int (1 : Int32)), .unset, .unset, .unset, .unset, .unset, .unset]) rfl ?_
    refine own_s_iload Xw4_51.here hx (hb hby at_96) (pc' := 98) rfl rfl ?_
    refine own_s_bipush Xw4_51.here hx (hb hby at_98) (pc' := 100) rfl (v := (7 : Int32)) (by decide) ?_
    refine own_s_iand Xw4_51.here hx (hb hby at_100) (pc' := 101) rfl (v := (5 : Int32)) w4_5_hv100 ?_
    refine own_s_istore Xw4_51.here hx (hb hby at_101) (pc' := 103) rfl (L' := #[.val (.int p0), .val (.long p1), .second, .val (.int p2), .val (.int p3), .val (.int (4 : Int32)), .val (.ref st_EMAX), .val (.int (1 : Int32)), .val (.int (5 : Int32)), .unset, .unset, .unset, .unset, .unset]) rfl ?_
    refine own_s_iload Xw4_51.here hx (hb hby at_103) (pc' := 105) rfl rfl ?_
    refine own_s_iconst Xw4_51.here hx (hb hby at_105) (pc' := 106) rfl (v := (4 : Int32)) (by decide) ?_
    refine own_s_icmpYes Xw4_51.here hx (hb hby at_106) (by decide) (pc' := 121) (by decide) (by decide) ?_
    refine own_s_iload Xw4_51.here hx (hb hby at_121) (pc' := 123) rfl rfl ?_
    refine own_s_iconst Xw4_51.here hx (hb hby at_123) (pc' := 124) rfl (v := (5 : Int32)) (by decide) ?_
    refine own_s_icmpNo Xw4_51.here hx (hb hby at_124) (pc' := 127) rfl (by decide) ?_
    refine Xw4_51.ldc2DoubleC hx hown (mvT hZ (hw _ (List.mem_of_getElem? (i := 23) rfl))) (g := (mkF m 127 #[.val (.int p0), .val (.long p1), .second, .val (.int p2), .val (.int p3), .val (.int (4 : Int32)), .val (.ref st_EMAX), .val (.int (1 : Int32)), .val (.int (5 : Int32)), .unset, .unset, .unset, .unset, .unset] [])) rfl (hb hby at_127) _ ?_
    show Steps p.tables e below (Tw4_51.setTop (mkF m 130 #[.val (.int p0), .val (.long p1), .second, .val (.int p2), .val (.int p3), .val (.int (4 : Int32)), .val (.ref st_EMAX), .val (.int (1 : Int32)), .val (.int (5 : Int32)), .unset, .unset, .unset, .unset, .unset] [(.double (9218868437227405312 : UInt64))])) _
    refine own_s_dstore Xw4_51.here hx (hb hby at_130) (pc' := 132) rfl (L' := #[.val (.int p0), .val (.long p1), .second, .val (.int p2), .val (.int p3), .val (.int (4 : Int32)), .val (.ref st_EMAX), .val (.int (1 : Int32)), .val (.int (5 : Int32)), .val (.double (9218868437227405312 : UInt64)), .second, .unset, .unset, .unset]) rfl ?_
    refine own_s_iconst Xw4_51.here hx (hb hby at_132) (pc' := 133) rfl (v := (0 : Int32)) (by decide) ?_
    refine own_s_istore Xw4_51.here hx (hb hby at_133) (pc' := 135) rfl (L' := #[.val (.int p0), .val (.long p1), .second, .val (.int p2), .val (.int p3), .val (.int (4 : Int32)), .val (.ref st_EMAX), .val (.int (1 : Int32)), .val (.int (5 : Int32)), .val (.double (9218868437227405312 : UInt64)), .second, .val (.int (0 : Int32)), .unset, .unset]) rfl ?_
    refine own_s_goto Xw4_51.here hx (hb hby at_135) (by decide) (pc' := 215) (by decide) ?_
    refine own_s_aload Xw4_51.here hx (hb hby at_215) (pc' := 217) rfl rfl rfl ?_
    refine own_s_dload Xw4_51.here hx (hb hby at_217) (pc' := 219) rfl rfl ?_
    refine stw4_52.trans ?_
    show Steps p.tables e below (Tw4_52.setTop (mkF m 222 #[.val (.int p0), .val (.long p1), .second, .val (.int p2), .val (.int p3), .val (.int (4 : Int32)), .val (.ref st_EMAX), .val (.int (1 : Int32)), .val (.int (5 : Int32)), .val (.double (9218868437227405312 : UInt64)), .second, .val (.int (0 : Int32)), .unset, .unset] [(.int (0 : Int32))])) _
    refine own_s_iload Xw4_52.here hx (hb hby at_222) (pc' := 224) rfl rfl ?_
    refine own_s_icmpNo Xw4_52.here hx (hb hby at_224) (pc' := 227) rfl (by decide) ?_
    refine own_s_iconst Xw4_52.here hx (hb hby at_227) (pc' := 228) rfl (v := (1 : Int32)) (by decide) ?_
    refine own_s_goto Xw4_52.here hx (hb hby at_228) (by decide) (pc' := 232) (by decide) ?_
    exact retN Xw4_52 hx (t := .boolean) Bd.returns (by simp) (hb hby at_232) hr
  · show own_Q0 n0 _ Tw4_52.heap _
    rw [ew4_52]
    exact ⟨rfl, Nw4_52⟩
theorem own_ef_w4_6 (m : MethodId) (p0 : Int32) (p1 : Int64) (p2 : Int32) (p3 : Int32) : entryFrame m #[(.int p0), (.long p1), (.int p2), (.int p3)] maxLocals = mkF m 0 #[.val (.int p0), .val (.long p1), .second, .val (.int p2), .val (.int p3), .unset, .unset, .unset, .unset, .unset, .unset, .unset, .unset, .unset] [] := by first | (simp [entryFrame, mkF, argsToLocals, Value.category, maxLocals]; done) | rfl
set_option maxRecDepth 65536 in
set_option maxHeartbeats 40000000 in
theorem own_rm_w4_6 (l : Launch) (Z : State) (a0 : Array Value) (hw : ∀ d ∈ tables_1, d.before a0 Z = true) (ws : List Jvm.Cond) (p0 : Int32) (p1 : Int64) (p2 : Int32) (p3 : Int32) (st_EMAX : Addr) {w4_6_v3 : Int32} (h0 : Heap) (n0 : Nat) (Z0 : n0 ≤ h0.size) (E_st_EMAX : Exa Z h0 st_EMAX "com/example/libcredal/libcredal/checker/Query$Operator") (F_reward_st_EMAX : Fld Z h0 st_EMAX "com/example/libcredal/libcredal/checker/Query$Operator" "reward" "Z" (.int (1 : Int32))) (S_EMAX : Sta Z h0 "com/example/libcredal/libcredal/checker/Query$Operator" "EMAX" "Lcom/example/libcredal/libcredal/checker/Query$Operator;" (.ref st_EMAX)) (w4_6_hv3 : p0 &&& (2147483647 : Int32) = w4_6_v3) (w4_6_hv6 : w4_6_v3 % (6 : Int32) = (4 : Int32)) (w4_6_hv100 : p3 &&& (7 : Int32) = (6 : Int32)) (w4_6_c219_c1t_hb3 : ifCond.holds .lt (Op.cmpValue (FP.dcmp (18442240474082181120 : UInt64) 0) .l) = true) :
    MetFree l x (head1 (Jvm.Cond.code x code maxLocals ret :: ws) room_1) (fun a U => a = #[(.int p0), (.long p1), (.int p2), (.int p3)] ∧ Z.Warmed39 U.vm ∧ U.heap = h0) (fun _ _ _ _ _ => True) (fun _ U o U' => ∃ v L, o = .returned v ∧ own_Q0 n0 v U'.heap L ∧ FrameEnd U o U' L room_1.cells room_1.slots) := by
  refine MetFree.of_bodySF (plainFor_of_name own_pn_com_example_libcredal_libcredal_checker_OperatorAdmitsPinLaw) hisR ?_
  intro p e s m args below meth c s₁ Bd hml0 hP hK
  obtain ⟨rfl, hZ, hh⟩ := hP
  have hx := Bd.exec
  have hby := Bd.bytes
  have hml : c.maxLocals = 14 := hml0
  have hown : s.vm.findClass "com/example/libcredal/libcredal/checker/OperatorAdmitsPinLaw" = some m.cls := findClass_of_methodNamed Bd.named
  have hnm := (name_of_methodNamed Bd.named Bd.method).1
  have X0 : Stand p l e room_1 s m #[(.int p0), (.long p1), (.int p2), (.int p3)] below meth c s₁ [] 0 0 := Stand.of_body Bd
  have e0 : s₁.heap = h0 := by rw [← hh, Bd.state]; rfl
  have N0 := Fr.nil n0
  have pre0 : ∀ t, Steps p.tables e below (s₁.setTop (mkF m 0 #[.val (.int p0), .val (.long p1), .second, .val (.int p2), .val (.int p3), .unset, .unset, .unset, .unset, .unset, .unset, .unset, .unset, .unset] [])) t → Steps p.tables e below (s₁.setTop (entryFrame m #[(.int p0), (.long p1), (.int p2), (.int p3)] maxLocals)) t := fun t k => castTop (own_ef_w4_6 m p0 p1 p2 p3) k
  obtain ⟨Tw4_61, Xw4_61, ew4_61, stw4_61⟩ := getS2 X0 hx hZ hown (host := "") (Or.inl (hw _ (List.mem_of_getElem? (i := 21) rfl))) Via.refl e0 S_EMAX (g := (mkF m 70 #[.val (.int p0), .val (.long p1), .second, .val (.int p2), .val (.int p3), .val (.int (4 : Int32)), .unset, .unset, .unset, .unset, .unset, .unset, .unset, .unset] [])) rfl (hb hby at_70)
  obtain ⟨cqw4_62, kqw4_62, qw4_62a, qw4_62b, qw4_62c⟩ := isOf hZ ew4_61 E_st_EMAX
  obtain ⟨_, _, ⟨Tw4_62, Lw4_62, kw4_62, nw4_62⟩, -, Xw4_62, ⟨Lcw4_62, hQw4_62, lw4_62, yw4_62, zw4_62⟩, stw4_62⟩ := Xw4_61.virtualBack hx (y := (⟨"com/example/libcredal/libcredal/checker/Query$Operator", "admits", "(D)Z"⟩ : MethodName)) (z := (⟨"com/example/libcredal/libcredal/checker/Query$Operator", "admits", "(D)Z"⟩ : MethodName)) hown (mvT hZ (hw _ (List.mem_of_getElem? (i := 4) rfl))) (mvT hZ (hw _ (List.mem_of_getElem? (i := 5) rfl))) (notFace_of_selects (args := #[]) (mvT hZ (hw _ (List.mem_of_getElem? (i := 7) rfl)))) (mvT hZ (hw _ (List.mem_of_getElem? (i := 7) rfl))) (mvT hZ (hw _ (List.mem_of_getElem? (i := 6) rfl))) (by decide) (backOf (W := 0) (own_rm_c1t l Z a0 hw [] st_EMAX (18442240474082181120 : UInt64) h0 n0 Z0 E_st_EMAX F_reward_st_EMAX w4_6_c219_c1t_hb3) hZ (hw _ (List.mem_of_getElem? (i := 8) rfl)) (hw _ (List.mem_of_getElem? (i := 2) rfl)) (by decide) (by decide)) qw4_62a qw4_62c (g := (mkF m 219 #[.val (.int p0), .val (.long p1), .second, .val (.int p2), .val (.int p3), .val (.int (4 : Int32)), .val (.ref st_EMAX), .val (.int (1 : Int32)), .val (.int (6 : Int32)), .val (.double (18442240474082181120 : UInt64)), .second, .val (.int (0 : Int32)), .unset, .unset] [(.double (18442240474082181120 : UInt64)), (.ref st_EMAX)])) rfl (by rw [hml]; rfl) (Steps.refl _) (argsL := [(.double (18442240474082181120 : UInt64))]) (rest := []) (lenOf own_pd_28D29Z rfl) rfl (by show 2 * 0 + _ ≤ _; exact Nat.le_of_eq rfl) (hb hby at_219) (fun _ _ => ⟨rfl, ew4_61, (by decide : 0 + 0 ≤ _), (by decide : 0 + 0 ≤ _)⟩)
  dsimp only [Pt.U, Pt.locs, Pt.cells, Pt.slots] at Xw4_62 lw4_62 yw4_62 zw4_62 stw4_62 hQw4_62
  rw [lw4_62, yw4_62, zw4_62] at Xw4_62
  obtain ⟨rfl, Nw4_62q, ew4_62⟩ := hQw4_62
  have Nw4_62 := Fr.app N0 Nw4_62q
  obtain ⟨fs, hr, hrun, hended, hW, hsame⟩ := Xw4_62.leave (v := some (.int (1 : Int32))) (fun h => by rw [Bd.returns] at h; cases h)
  refine ⟨_, _, pre0 _ ?_, hrun, hended, _, _, rfl, ?_, ⟨_, rfl⟩, hW, hsame.mono (by decide) (by decide)⟩
  · refine own_s_iloadN X0.here hx (hb hby at_0) (pc' := 1) rfl rfl ?_
    refine X0.ldcInt hx hown (mvT hZ (hw _ (List.mem_of_getElem? (i := 0) rfl))) (g := (mkF m 1 #[.val (.int p0), .val (.long p1), .second, .val (.int p2), .val (.int p3), .unset, .unset, .unset, .unset, .unset, .unset, .unset, .unset, .unset] [(.int p0)])) rfl (hb hby at_1) _ ?_
    show Steps p.tables e below (s₁.setTop (mkF m 3 #[.val (.int p0), .val (.long p1), .second, .val (.int p2), .val (.int p3), .unset, .unset, .unset, .unset, .unset, .unset, .unset, .unset, .unset] [(.int (2147483647 : Int32)), (.int p0)])) _
    refine own_s_iand X0.here hx (hb hby at_3) (pc' := 4) rfl (v := w4_6_v3) w4_6_hv3 ?_
    refine own_s_bipush X0.here hx (hb hby at_4) (pc' := 6) rfl (v := (6 : Int32)) (by decide) ?_
    refine own_s_irem X0.here hx (hb hby at_6) (pc' := 7) rfl (by decide) (v := (4 : Int32)) w4_6_hv6 ?_
    refine own_s_istore X0.here hx (hb hby at_7) (pc' := 9) rfl (L' := #[.val (.int p0), .val (.long p1), .second, .val (.int p2), .val (.int p3), .val (.int (4 : Int32)), .unset, .unset, .unset, .unset, .unset, .unset, .unset, .unset]) rfl ?_
    refine own_s_iload X0.here hx (hb hby at_9) (pc' := 11) rfl rfl ?_
    refine own_s_ifYes X0.here hx (hb hby at_11) (by decide) (pc' := 22) (by decide) (by decide) ?_
    refine own_s_iload X0.here hx (hb hby at_22) (pc' := 24) rfl rfl ?_
    refine own_s_iconst X0.here hx (hb hby at_24) (pc' := 25) rfl (v := (1 : Int32)) (by decide) ?_
    refine own_s_icmpYes X0.here hx (hb hby at_25) (by decide) (pc' := 36) (by decide) (by decide) ?_
    refine own_s_iload X0.here hx (hb hby at_36) (pc' := 38) rfl rfl ?_
    refine own_s_iconst X0.here hx (hb hby at_38) (pc' := 39) rfl (v := (2 : Int32)) (by decide) ?_
    refine own_s_icmpYes X0.here hx (hb hby at_39) (by decide) (pc' := 50) (by decide) (by decide) ?_
    refine own_s_iload X0.here hx (hb hby at_50) (pc' := 52) rfl rfl ?_
    refine own_s_iconst X0.here hx (hb hby at_52) (pc' := 53) rfl (v := (3 : Int32)) (by decide) ?_
    refine own_s_icmpYes X0.here hx (hb hby at_53) (by decide) (pc' := 64) (by decide) (by decide) ?_
    refine own_s_iload X0.here hx (hb hby at_64) (pc' := 66) rfl rfl ?_
    refine own_s_iconst X0.here hx (hb hby at_66) (pc' := 67) rfl (v := (4 : Int32)) (by decide) ?_
    refine own_s_icmpNo X0.here hx (hb hby at_67) (pc' := 70) rfl (by decide) ?_
    refine stw4_61 _ ?_
    show Steps p.tables e below (Tw4_61.setTop (mkF m 73 #[.val (.int p0), .val (.long p1), .second, .val (.int p2), .val (.int p3), .val (.int (4 : Int32)), .unset, .unset, .unset, .unset, .unset, .unset, .unset, .unset] [(.ref st_EMAX)])) _
    refine own_s_astore Xw4_61.here hx (hb hby at_73) (pc' := 75) rfl rfl (L' := #[.val (.int p0), .val (.long p1), .second, .val (.int p2), .val (.int p3), .val (.int (4 : Int32)), .val (.ref st_EMAX), .unset, .unset, .unset, .unset, .unset, .unset, .unset]) rfl ?_
    refine own_s_goto Xw4_61.here hx (hb hby at_75) (by decide) (pc' := 83) (by decide) ?_
    refine own_s_iload Xw4_61.here hx (hb hby at_83) (pc' := 85) rfl rfl ?_
    refine own_s_iconst Xw4_61.here hx (hb hby at_85) (pc' := 86) rfl (v := (3 : Int32)) (by decide) ?_
    refine own_s_icmpNo Xw4_61.here hx (hb hby at_86) (pc' := 89) rfl (by decide) ?_
    refine own_s_iconst Xw4_61.here hx (hb hby at_89) (pc' := 90) rfl (v := (1 : Int32)) (by decide) ?_
    refine own_s_goto Xw4_61.here hx (hb hby at_90) (by decide) (pc' := 94) (by decide) ?_
    refine own_s_istore Xw4_61.here hx (hb hby at_94) (pc' := 96) rfl (L' := #[.val (.int p0), .val (.long p1), .second, .val (.int p2), .val (.int p3), .val (.int (4 : Int32)), .val (.ref st_EMAX), .val (.int (1 : Int32)), .unset, .unset, .unset, .unset, .unset, .unset]) rfl ?_
    refine own_s_iload Xw4_61.here hx (hb hby at_96) (pc' := 98) rfl rfl ?_
    refine own_s_bipush Xw4_61.here hx (hb hby at_98) (pc' := 100) rfl (v := (7 : Int32)) (by decide) ?_
    refine own_s_iand Xw4_61.here hx (hb hby at_100) (pc' := 101) rfl (v := (6 : Int32)) w4_6_hv100 ?_
    refine own_s_istore Xw4_61.here hx (hb hby at_101) (pc' := 103) rfl (L' := #[.val (.int p0), .val (.long p1), .second, .val (.int p2), .val (.int p3), .val (.int (4 : Int32)), .val (.ref st_EMAX), .val (.int (1 : Int32)), .val (.int (6 : Int32)), .unset, .unset, .unset, .unset, .unset]) rfl ?_
    refine own_s_iload Xw4_61.here hx (hb hby at_103) (pc' := 105) rfl rfl ?_
    refine own_s_iconst Xw4_61.here hx (hb hby at_105) (pc' := 106) rfl (v := (4 : Int32)) (by decide) ?_
    refine own_s_icmpYes Xw4_61.here hx (hb hby at_106) (by decide) (pc' := 121) (by decide) (by decide) ?_
    refine own_s_iload Xw4_61.here hx (hb hby at_121) (pc' := 123) rfl rfl ?_
    refine own_s_iconst Xw4_61.here hx (hb hby at_123) (pc' := 124) rfl (v := (5 : Int32)) (by decide) ?_
    refine own_s_icmpYes Xw4_61.here hx (hb hby at_124) (by decide) (pc' := 138) (by decide) (by decide) ?_
    refine own_s_iload Xw4_61.here hx (hb hby at_138) (pc' := 140) rfl rfl ?_
    refine own_s_bipush Xw4_61.here hx (hb hby at_140) (pc' := 142) rfl (v := (6 : Int32)) (by decide) ?_
    refine own_s_icmpNo Xw4_61.here hx (hb hby at_142) (pc' := 145) rfl (by decide) ?_
    refine Xw4_61.ldc2DoubleC hx hown (mvT hZ (hw _ (List.mem_of_getElem? (i := 20) rfl))) (g := (mkF m 145 #[.val (.int p0), .val (.long p1), .second, .val (.int p2), .val (.int p3), .val (.int (4 : Int32)), .val (.ref st_EMAX), .val (.int (1 : Int32)), .val (.int (6 : Int32)), .unset, .unset, .unset, .unset, .unset] [])) rfl (hb hby at_145) _ ?_
    show Steps p.tables e below (Tw4_61.setTop (mkF m 148 #[.val (.int p0), .val (.long p1), .second, .val (.int p2), .val (.int p3), .val (.int (4 : Int32)), .val (.ref st_EMAX), .val (.int (1 : Int32)), .val (.int (6 : Int32)), .unset, .unset, .unset, .unset, .unset] [(.double (18442240474082181120 : UInt64))])) _
    refine own_s_dstore Xw4_61.here hx (hb hby at_148) (pc' := 150) rfl (L' := #[.val (.int p0), .val (.long p1), .second, .val (.int p2), .val (.int p3), .val (.int (4 : Int32)), .val (.ref st_EMAX), .val (.int (1 : Int32)), .val (.int (6 : Int32)), .val (.double (18442240474082181120 : UInt64)), .second, .unset, .unset, .unset]) rfl ?_
    refine own_s_iconst Xw4_61.here hx (hb hby at_150) (pc' := 151) rfl (v := (0 : Int32)) (by decide) ?_
    refine own_s_istore Xw4_61.here hx (hb hby at_151) (pc' := 153) rfl (L' := #[.val (.int p0), .val (.long p1), .second, .val (.int p2), .val (.int p3), .val (.int (4 : Int32)), .val (.ref st_EMAX), .val (.int (1 : Int32)), .val (.int (6 : Int32)), .val (.double (18442240474082181120 : UInt64)), .second, .val (.int (0 : Int32)), .unset, .unset]) rfl ?_
    refine own_s_goto Xw4_61.here hx (hb hby at_153) (by decide) (pc' := 215) (by decide) ?_
    refine own_s_aload Xw4_61.here hx (hb hby at_215) (pc' := 217) rfl rfl rfl ?_
    refine own_s_dload Xw4_61.here hx (hb hby at_217) (pc' := 219) rfl rfl ?_
    refine stw4_62.trans ?_
    show Steps p.tables e below (Tw4_62.setTop (mkF m 222 #[.val (.int p0), .val (.long p1), .second, .val (.int p2), .val (.int p3), .val (.int (4 : Int32)), .val (.ref st_EMAX), .val (.int (1 : Int32)), .val (.int (6 : Int32)), .val (.double (18442240474082181120 : UInt64)), .second, .val (.int (0 : Int32)), .unset, .unset] [(.int (0 : Int32))])) _
    refine own_s_iload Xw4_62.here hx (hb hby at_222) (pc' := 224) rfl rfl ?_
    refine own_s_icmpNo Xw4_62.here hx (hb hby at_224) (pc' := 227) rfl (by decide) ?_
    refine own_s_iconst Xw4_62.here hx (hb hby at_227) (pc' := 228) rfl (v := (1 : Int32)) (by decide) ?_
    refine own_s_goto Xw4_62.here hx (hb hby at_228) (by decide) (pc' := 232) (by decide) ?_
    exact retN Xw4_62 hx (t := .boolean) Bd.returns (by simp) (hb hby at_232) hr
  · show own_Q0 n0 _ Tw4_62.heap _
    rw [ew4_62]
    exact ⟨rfl, Nw4_62⟩
theorem own_ef_w4_7 (m : MethodId) (p0 : Int32) (p1 : Int64) (p2 : Int32) (p3 : Int32) : entryFrame m #[(.int p0), (.long p1), (.int p2), (.int p3)] maxLocals = mkF m 0 #[.val (.int p0), .val (.long p1), .second, .val (.int p2), .val (.int p3), .unset, .unset, .unset, .unset, .unset, .unset, .unset, .unset, .unset] [] := by first | (simp [entryFrame, mkF, argsToLocals, Value.category, maxLocals]; done) | rfl
set_option maxRecDepth 65536 in
set_option maxHeartbeats 40000000 in
theorem own_rm_w4_7 (l : Launch) (Z : State) (a0 : Array Value) (hw : ∀ d ∈ tables_1, d.before a0 Z = true) (ws : List Jvm.Cond) (p0 : Int32) (p1 : Int64) (p2 : Int32) (p3 : Int32) (st_EMAX : Addr) {w4_7_v3 : Int32} (h0 : Heap) (n0 : Nat) (Z0 : n0 ≤ h0.size) (E_st_EMAX : Exa Z h0 st_EMAX "com/example/libcredal/libcredal/checker/Query$Operator") (F_reward_st_EMAX : Fld Z h0 st_EMAX "com/example/libcredal/libcredal/checker/Query$Operator" "reward" "Z" (.int (1 : Int32))) (S_EMAX : Sta Z h0 "com/example/libcredal/libcredal/checker/Query$Operator" "EMAX" "Lcom/example/libcredal/libcredal/checker/Query$Operator;" (.ref st_EMAX)) (w4_7_hv3 : p0 &&& (2147483647 : Int32) = w4_7_v3) (w4_7_hv6 : w4_7_v3 % (6 : Int32) = (4 : Int32)) (w4_7_hv100 : p3 &&& (7 : Int32) = (7 : Int32)) (w4_7_c219_c1ff_hb3 : ifCond.holds .lt (Op.cmpValue (FP.dcmp (9223372036854775808 : UInt64) 0) .l) = false) (w4_7_c219_c1ff_hb22 : ifCond.holds .gt (Op.cmpValue (FP.dcmp (9223372036854775808 : UInt64) (9218868437227405311 : UInt64)) .g) = false) :
    MetFree l x (head1 (Jvm.Cond.code x code maxLocals ret :: ws) room_1) (fun a U => a = #[(.int p0), (.long p1), (.int p2), (.int p3)] ∧ Z.Warmed39 U.vm ∧ U.heap = h0) (fun _ _ _ _ _ => True) (fun _ U o U' => ∃ v L, o = .returned v ∧ own_Q0 n0 v U'.heap L ∧ FrameEnd U o U' L room_1.cells room_1.slots) := by
  refine MetFree.of_bodySF (plainFor_of_name own_pn_com_example_libcredal_libcredal_checker_OperatorAdmitsPinLaw) hisR ?_
  intro p e s m args below meth c s₁ Bd hml0 hP hK
  obtain ⟨rfl, hZ, hh⟩ := hP
  have hx := Bd.exec
  have hby := Bd.bytes
  have hml : c.maxLocals = 14 := hml0
  have hown : s.vm.findClass "com/example/libcredal/libcredal/checker/OperatorAdmitsPinLaw" = some m.cls := findClass_of_methodNamed Bd.named
  have hnm := (name_of_methodNamed Bd.named Bd.method).1
  have X0 : Stand p l e room_1 s m #[(.int p0), (.long p1), (.int p2), (.int p3)] below meth c s₁ [] 0 0 := Stand.of_body Bd
  have e0 : s₁.heap = h0 := by rw [← hh, Bd.state]; rfl
  have N0 := Fr.nil n0
  have pre0 : ∀ t, Steps p.tables e below (s₁.setTop (mkF m 0 #[.val (.int p0), .val (.long p1), .second, .val (.int p2), .val (.int p3), .unset, .unset, .unset, .unset, .unset, .unset, .unset, .unset, .unset] [])) t → Steps p.tables e below (s₁.setTop (entryFrame m #[(.int p0), (.long p1), (.int p2), (.int p3)] maxLocals)) t := fun t k => castTop (own_ef_w4_7 m p0 p1 p2 p3) k
  obtain ⟨Tw4_71, Xw4_71, ew4_71, stw4_71⟩ := getS2 X0 hx hZ hown (host := "") (Or.inl (hw _ (List.mem_of_getElem? (i := 21) rfl))) Via.refl e0 S_EMAX (g := (mkF m 70 #[.val (.int p0), .val (.long p1), .second, .val (.int p2), .val (.int p3), .val (.int (4 : Int32)), .unset, .unset, .unset, .unset, .unset, .unset, .unset, .unset] [])) rfl (hb hby at_70)
  obtain ⟨cqw4_72, kqw4_72, qw4_72a, qw4_72b, qw4_72c⟩ := isOf hZ ew4_71 E_st_EMAX
  obtain ⟨_, _, ⟨Tw4_72, Lw4_72, kw4_72, nw4_72⟩, -, Xw4_72, ⟨Lcw4_72, hQw4_72, lw4_72, yw4_72, zw4_72⟩, stw4_72⟩ := Xw4_71.virtualBack hx (y := (⟨"com/example/libcredal/libcredal/checker/Query$Operator", "admits", "(D)Z"⟩ : MethodName)) (z := (⟨"com/example/libcredal/libcredal/checker/Query$Operator", "admits", "(D)Z"⟩ : MethodName)) hown (mvT hZ (hw _ (List.mem_of_getElem? (i := 4) rfl))) (mvT hZ (hw _ (List.mem_of_getElem? (i := 5) rfl))) (notFace_of_selects (args := #[]) (mvT hZ (hw _ (List.mem_of_getElem? (i := 7) rfl)))) (mvT hZ (hw _ (List.mem_of_getElem? (i := 7) rfl))) (mvT hZ (hw _ (List.mem_of_getElem? (i := 6) rfl))) (by decide) (backOf (W := 0) (own_rm_c1ff l Z a0 hw [] st_EMAX (9223372036854775808 : UInt64) h0 n0 Z0 E_st_EMAX F_reward_st_EMAX w4_7_c219_c1ff_hb3 w4_7_c219_c1ff_hb22) hZ (hw _ (List.mem_of_getElem? (i := 8) rfl)) (hw _ (List.mem_of_getElem? (i := 2) rfl)) (by decide) (by decide)) qw4_72a qw4_72c (g := (mkF m 219 #[.val (.int p0), .val (.long p1), .second, .val (.int p2), .val (.int p3), .val (.int (4 : Int32)), .val (.ref st_EMAX), .val (.int (1 : Int32)), .val (.int (7 : Int32)), .val (.double (9223372036854775808 : UInt64)), .second, .val (.int (1 : Int32)), .unset, .unset] [(.double (9223372036854775808 : UInt64)), (.ref st_EMAX)])) rfl (by rw [hml]; rfl) (Steps.refl _) (argsL := [(.double (9223372036854775808 : UInt64))]) (rest := []) (lenOf own_pd_28D29Z rfl) rfl (by show 2 * 0 + _ ≤ _; exact Nat.le_of_eq rfl) (hb hby at_219) (fun _ _ => ⟨rfl, ew4_71, (by decide : 0 + 0 ≤ _), (by decide : 0 + 0 ≤ _)⟩)
  dsimp only [Pt.U, Pt.locs, Pt.cells, Pt.slots] at Xw4_72 lw4_72 yw4_72 zw4_72 stw4_72 hQw4_72
  rw [lw4_72, yw4_72, zw4_72] at Xw4_72
  obtain ⟨rfl, Nw4_72q, ew4_72⟩ := hQw4_72
  have Nw4_72 := Fr.app N0 Nw4_72q
  obtain ⟨fs, hr, hrun, hended, hW, hsame⟩ := Xw4_72.leave (v := some (.int (1 : Int32))) (fun h => by rw [Bd.returns] at h; cases h)
  refine ⟨_, _, pre0 _ ?_, hrun, hended, _, _, rfl, ?_, ⟨_, rfl⟩, hW, hsame.mono (by decide) (by decide)⟩
  · refine own_s_iloadN X0.here hx (hb hby at_0) (pc' := 1) rfl rfl ?_
    refine X0.ldcInt hx hown (mvT hZ (hw _ (List.mem_of_getElem? (i := 0) rfl))) (g := (mkF m 1 #[.val (.int p0), .val (.long p1), .second, .val (.int p2), .val (.int p3), .unset, .unset, .unset, .unset, .unset, .unset, .unset, .unset, .unset] [(.int p0)])) rfl (hb hby at_1) _ ?_
    show Steps p.tables e below (s₁.setTop (mkF m 3 #[.val (.int p0), .val (.long p1), .second, .val (.int p2), .val (.int p3), .unset, .unset, .unset, .unset, .unset, .unset, .unset, .unset, .unset] [(.int (2147483647 : Int32)), (.int p0)])) _
    refine own_s_iand X0.here hx (hb hby at_3) (pc' := 4) rfl (v := w4_7_v3) w4_7_hv3 ?_
    refine own_s_bipush X0.here hx (hb hby at_4) (pc' := 6) rfl (v := (6 : Int32)) (by decide) ?_
    refine own_s_irem X0.here hx (hb hby at_6) (pc' := 7) rfl (by decide) (v := (4 : Int32)) w4_7_hv6 ?_
    refine own_s_istore X0.here hx (hb hby at_7) (pc' := 9) rfl (L' := #[.val (.int p0), .val (.long p1), .second, .val (.int p2), .val (.int p3), .val (.int (4 : Int32)), .unset, .unset, .unset, .unset, .unset, .unset, .unset, .unset]) rfl ?_
    refine own_s_iload X0.here hx (hb hby at_9) (pc' := 11) rfl rfl ?_
    refine own_s_ifYes X0.here hx (hb hby at_11) (by decide) (pc' := 22) (by decide) (by decide) ?_
    refine own_s_iload X0.here hx (hb hby at_22) (pc' := 24) rfl rfl ?_
    refine own_s_iconst X0.here hx (hb hby at_24) (pc' := 25) rfl (v := (1 : Int32)) (by decide) ?_
    refine own_s_icmpYes X0.here hx (hb hby at_25) (by decide) (pc' := 36) (by decide) (by decide) ?_
    refine own_s_iload X0.here hx (hb hby at_36) (pc' := 38) rfl rfl ?_
    refine own_s_iconst X0.here hx (hb hby at_38) (pc' := 39) rfl (v := (2 : Int32)) (by decide) ?_
    refine own_s_icmpYes X0.here hx (hb hby at_39) (by decide) (pc' := 50) (by decide) (by decide) ?_
    refine own_s_iload X0.here hx (hb hby at_50) (pc' := 52) rfl rfl ?_
    refine own_s_iconst X0.here hx (hb hby at_52) (pc' := 53) rfl (v := (3 : Int32)) (by decide) ?_
    refine own_s_icmpYes X0.here hx (hb hby at_53) (by decide) (pc' := 64) (by decide) (by decide) ?_
    refine own_s_iload X0.here hx (hb hby at_64) (pc' := 66) rfl rfl ?_
    refine own_s_iconst X0.here hx (hb hby at_66) (pc' := 67) rfl (v := (4 : Int32)) (by decide) ?_
    refine own_s_icmpNo X0.here hx (hb hby at_67) (pc' := 70) rfl (by decide) ?_
    refine stw4_71 _ ?_
    show Steps p.tables e below (Tw4_71.setTop (mkF m 73 #[.val (.int p0), .val (.long p1), .second, .val (.int p2), .val (.int p3), .val (.int (4 : Int32)), .unset, .unset, .unset, .unset, .unset, .unset, .unset, .unset] [(.ref st_EMAX)])) _
    refine own_s_astore Xw4_71.here hx (hb hby at_73) (pc' := 75) rfl rfl (L' := #[.val (.int p0), .val (.long p1), .second, .val (.int p2), .val (.int p3), .val (.int (4 : Int32)), .val (.ref st_EMAX), .unset, .unset, .unset, .unset, .unset, .unset, .unset]) rfl ?_
    refine own_s_goto Xw4_71.here hx (hb hby at_75) (by decide) (pc' := 83) (by decide) ?_
    refine own_s_iload Xw4_71.here hx (hb hby at_83) (pc' := 85) rfl rfl ?_
    refine own_s_iconst Xw4_71.here hx (hb hby at_85) (pc' := 86) rfl (v := (3 : Int32)) (by decide) ?_
    refine own_s_icmpNo Xw4_71.here hx (hb hby at_86) (pc' := 89) rfl (by decide) ?_
    refine own_s_iconst Xw4_71.here hx (hb hby at_89) (pc' := 90) rfl (v := (1 : Int32)) (by decide) ?_
    refine own_s_goto Xw4_71.here hx (hb hby at_90) (by decide) (pc' := 94) (by decide) ?_
    refine own_s_istore Xw4_71.here hx (hb hby at_94) (pc' := 96) rfl (L' := #[.val (.int p0), .val (.long p1), .second, .val (.int p2), .val (.int p3), .val (.int (4 : Int32)), .val (.ref st_EMAX), .val (.int (1 : Int32)), .unset, .unset, .unset, .unset, .unset, .unset]) rfl ?_
    refine own_s_iload Xw4_71.here hx (hb hby at_96) (pc' := 98) rfl rfl ?_
    refine own_s_bipush Xw4_71.here hx (hb hby at_98) (pc' := 100) rfl (v := (7 : Int32)) (by decide) ?_
    refine own_s_iand Xw4_71.here hx (hb hby at_100) (pc' := 101) rfl (v := (7 : Int32)) w4_7_hv100 ?_
    refine own_s_istore Xw4_71.here hx (hb hby at_101) (pc' := 103) rfl (L' := #[.val (.int p0), .val (.long p1), .second, .val (.int p2), .val (.int p3), .val (.int (4 : Int32)), .val (.ref st_EMAX), .val (.int (1 : Int32)), .val (.int (7 : Int32)), .unset, .unset, .unset, .unset, .unset]) rfl ?_
    refine own_s_iload Xw4_71.here hx (hb hby at_103) (pc' := 105) rfl rfl ?_
    refine own_s_iconst Xw4_71.here hx (hb hby at_105) (pc' := 106) rfl (v := (4 : Int32)) (by decide) ?_
    refine own_s_icmpYes Xw4_71.here hx (hb hby at_106) (by decide) (pc' := 121) (by decide) (by decide) ?_
    refine own_s_iload Xw4_71.here hx (hb hby at_121) (pc' := 123) rfl rfl ?_
    refine own_s_iconst Xw4_71.here hx (hb hby at_123) (pc' := 124) rfl (v := (5 : Int32)) (by decide) ?_
    refine own_s_icmpYes Xw4_71.here hx (hb hby at_124) (by decide) (pc' := 138) (by decide) (by decide) ?_
    refine own_s_iload Xw4_71.here hx (hb hby at_138) (pc' := 140) rfl rfl ?_
    refine own_s_bipush Xw4_71.here hx (hb hby at_140) (pc' := 142) rfl (v := (6 : Int32)) (by decide) ?_
    refine own_s_icmpYes Xw4_71.here hx (hb hby at_142) (by decide) (pc' := 156) (by decide) (by decide) ?_
    refine own_s_iload Xw4_71.here hx (hb hby at_156) (pc' := 158) rfl rfl ?_
    refine own_s_bipush Xw4_71.here hx (hb hby at_158) (pc' := 160) rfl (v := (7 : Int32)) (by decide) ?_
    refine own_s_icmpNo Xw4_71.here hx (hb hby at_160) (pc' := 163) rfl (by decide) ?_
    refine Xw4_71.ldc2DoubleC hx hown (mvT hZ (hw _ (List.mem_of_getElem? (i := 13) rfl))) (g := (mkF m 163 #[.val (.int p0), .val (.long p1), .second, .val (.int p2), .val (.int p3), .val (.int (4 : Int32)), .val (.ref st_EMAX), .val (.int (1 : Int32)), .val (.int (7 : Int32)), .unset, .unset, .unset, .unset, .unset] [])) rfl (hb hby at_163) _ ?_
    show Steps p.tables e below (Tw4_71.setTop (mkF m 166 #[.val (.int p0), .val (.long p1), .second, .val (.int p2), .val (.int p3), .val (.int (4 : Int32)), .val (.ref st_EMAX), .val (.int (1 : Int32)), .val (.int (7 : Int32)), .unset, .unset, .unset, .unset, .unset] [(.double (9223372036854775808 : UInt64))])) _
    refine own_s_dstore Xw4_71.here hx (hb hby at_166) (pc' := 168) rfl (L' := #[.val (.int p0), .val (.long p1), .second, .val (.int p2), .val (.int p3), .val (.int (4 : Int32)), .val (.ref st_EMAX), .val (.int (1 : Int32)), .val (.int (7 : Int32)), .val (.double (9223372036854775808 : UInt64)), .second, .unset, .unset, .unset]) rfl ?_
    refine own_s_iconst Xw4_71.here hx (hb hby at_168) (pc' := 169) rfl (v := (1 : Int32)) (by decide) ?_
    refine own_s_istore Xw4_71.here hx (hb hby at_169) (pc' := 171) rfl (L' := #[.val (.int p0), .val (.long p1), .second, .val (.int p2), .val (.int p3), .val (.int (4 : Int32)), .val (.ref st_EMAX), .val (.int (1 : Int32)), .val (.int (7 : Int32)), .val (.double (9223372036854775808 : UInt64)), .second, .val (.int (1 : Int32)), .unset, .unset]) rfl ?_
    refine own_s_goto Xw4_71.here hx (hb hby at_171) (by decide) (pc' := 215) (by decide) ?_
    refine own_s_aload Xw4_71.here hx (hb hby at_215) (pc' := 217) rfl rfl rfl ?_
    refine own_s_dload Xw4_71.here hx (hb hby at_217) (pc' := 219) rfl rfl ?_
    refine stw4_72.trans ?_
    show Steps p.tables e below (Tw4_72.setTop (mkF m 222 #[.val (.int p0), .val (.long p1), .second, .val (.int p2), .val (.int p3), .val (.int (4 : Int32)), .val (.ref st_EMAX), .val (.int (1 : Int32)), .val (.int (7 : Int32)), .val (.double (9223372036854775808 : UInt64)), .second, .val (.int (1 : Int32)), .unset, .unset] [(.int (1 : Int32))])) _
    refine own_s_iload Xw4_72.here hx (hb hby at_222) (pc' := 224) rfl rfl ?_
    refine own_s_icmpNo Xw4_72.here hx (hb hby at_224) (pc' := 227) rfl (by decide) ?_
    refine own_s_iconst Xw4_72.here hx (hb hby at_227) (pc' := 228) rfl (v := (1 : Int32)) (by decide) ?_
    refine own_s_goto Xw4_72.here hx (hb hby at_228) (by decide) (pc' := 232) (by decide) ?_
    exact retN Xw4_72 hx (t := .boolean) Bd.returns (by simp) (hb hby at_232) hr
  · show own_Q0 n0 _ Tw4_72.heap _
    rw [ew4_72]
    exact ⟨rfl, Nw4_72⟩
theorem own_ef_w4_n (m : MethodId) (p0 : Int32) (p1 : Int64) (p2 : Int32) (p3 : Int32) : entryFrame m #[(.int p0), (.long p1), (.int p2), (.int p3)] maxLocals = mkF m 0 #[.val (.int p0), .val (.long p1), .second, .val (.int p2), .val (.int p3), .unset, .unset, .unset, .unset, .unset, .unset, .unset, .unset, .unset] [] := by first | (simp [entryFrame, mkF, argsToLocals, Value.category, maxLocals]; done) | rfl
set_option maxRecDepth 65536 in
set_option maxHeartbeats 40000000 in
theorem own_rm_w4_n (l : Launch) (Z : State) (a0 : Array Value) (hw : ∀ d ∈ tables_1, d.before a0 Z = true) (ws : List Jvm.Cond) (p0 : Int32) (p1 : Int64) (p2 : Int32) (p3 : Int32) (st_EMAX : Addr) {w4_n_v3 : Int32} {w4_n_v100 : Int32} {w4_n_v178 : Int32} {w4_n_v179 : Int64} {w4_n_v187 : UInt64} (h0 : Heap) (n0 : Nat) (Z0 : n0 ≤ h0.size) (E_st_EMAX : Exa Z h0 st_EMAX "com/example/libcredal/libcredal/checker/Query$Operator") (F_reward_st_EMAX : Fld Z h0 st_EMAX "com/example/libcredal/libcredal/checker/Query$Operator" "reward" "Z" (.int (1 : Int32))) (S_EMAX : Sta Z h0 "com/example/libcredal/libcredal/checker/Query$Operator" "EMAX" "Lcom/example/libcredal/libcredal/checker/Query$Operator;" (.ref st_EMAX)) (w4_n_hv3 : p0 &&& (2147483647 : Int32) = w4_n_v3) (w4_n_hv6 : w4_n_v3 % (6 : Int32) = (4 : Int32)) (w4_n_hv100 : p3 &&& (7 : Int32) = w4_n_v100) (w4_n_hb106 : if_icmp.holds .ne w4_n_v100 (4 : Int32) = true) (w4_n_hb124 : if_icmp.holds .ne w4_n_v100 (5 : Int32) = true) (w4_n_hb142 : if_icmp.holds .ne w4_n_v100 (6 : Int32) = true) (w4_n_hb160 : if_icmp.holds .ne w4_n_v100 (7 : Int32) = true) (w4_n_hv178 : p2 &&& (31 : Int32) = w4_n_v178) (w4_n_hv179 : (1 : Int64) <<< (w4_n_v178 &&& 63).toInt64 = w4_n_v179) (w4_n_hn187 : Jvm.Free.Fl.NoNaN64 (FP.ddiv (FP.l2d p1) (FP.l2d w4_n_v179))) (w4_n_hv187 : FP.ddiv (FP.l2d p1) (FP.l2d w4_n_v179) = w4_n_v187) (w4_n_hb193 : ifCond.holds .lt (lcmpW p1 (0 : Int64)) = true) (w4_n_c219_c1t_hb3 : ifCond.holds .lt (Op.cmpValue (FP.dcmp w4_n_v187 0) .l) = true) :
    MetFree l x (head1 (Jvm.Cond.code x code maxLocals ret :: ws) room_1) (fun a U => a = #[(.int p0), (.long p1), (.int p2), (.int p3)] ∧ Z.Warmed39 U.vm ∧ U.heap = h0) (fun _ _ _ _ _ => True) (fun _ U o U' => ∃ v L, o = .returned v ∧ own_Q0 n0 v U'.heap L ∧ FrameEnd U o U' L room_1.cells room_1.slots) := by
  refine MetFree.of_bodySF (plainFor_of_name own_pn_com_example_libcredal_libcredal_checker_OperatorAdmitsPinLaw) hisR ?_
  intro p e s m args below meth c s₁ Bd hml0 hP hK
  obtain ⟨rfl, hZ, hh⟩ := hP
  have hx := Bd.exec
  have hby := Bd.bytes
  have hml : c.maxLocals = 14 := hml0
  have hown : s.vm.findClass "com/example/libcredal/libcredal/checker/OperatorAdmitsPinLaw" = some m.cls := findClass_of_methodNamed Bd.named
  have hnm := (name_of_methodNamed Bd.named Bd.method).1
  have X0 : Stand p l e room_1 s m #[(.int p0), (.long p1), (.int p2), (.int p3)] below meth c s₁ [] 0 0 := Stand.of_body Bd
  have e0 : s₁.heap = h0 := by rw [← hh, Bd.state]; rfl
  have N0 := Fr.nil n0
  have pre0 : ∀ t, Steps p.tables e below (s₁.setTop (mkF m 0 #[.val (.int p0), .val (.long p1), .second, .val (.int p2), .val (.int p3), .unset, .unset, .unset, .unset, .unset, .unset, .unset, .unset, .unset] [])) t → Steps p.tables e below (s₁.setTop (entryFrame m #[(.int p0), (.long p1), (.int p2), (.int p3)] maxLocals)) t := fun t k => castTop (own_ef_w4_n m p0 p1 p2 p3) k
  obtain ⟨Tw4_n1, Xw4_n1, ew4_n1, stw4_n1⟩ := getS2 X0 hx hZ hown (host := "") (Or.inl (hw _ (List.mem_of_getElem? (i := 21) rfl))) Via.refl e0 S_EMAX (g := (mkF m 70 #[.val (.int p0), .val (.long p1), .second, .val (.int p2), .val (.int p3), .val (.int (4 : Int32)), .unset, .unset, .unset, .unset, .unset, .unset, .unset, .unset] [])) rfl (hb hby at_70)
  obtain ⟨cqw4_n2, kqw4_n2, qw4_n2a, qw4_n2b, qw4_n2c⟩ := isOf hZ ew4_n1 E_st_EMAX
  obtain ⟨_, _, ⟨Tw4_n2, Lw4_n2, kw4_n2, nw4_n2⟩, -, Xw4_n2, ⟨Lcw4_n2, hQw4_n2, lw4_n2, yw4_n2, zw4_n2⟩, stw4_n2⟩ := Xw4_n1.virtualBack hx (y := (⟨"com/example/libcredal/libcredal/checker/Query$Operator", "admits", "(D)Z"⟩ : MethodName)) (z := (⟨"com/example/libcredal/libcredal/checker/Query$Operator", "admits", "(D)Z"⟩ : MethodName)) hown (mvT hZ (hw _ (List.mem_of_getElem? (i := 4) rfl))) (mvT hZ (hw _ (List.mem_of_getElem? (i := 5) rfl))) (notFace_of_selects (args := #[]) (mvT hZ (hw _ (List.mem_of_getElem? (i := 7) rfl)))) (mvT hZ (hw _ (List.mem_of_getElem? (i := 7) rfl))) (mvT hZ (hw _ (List.mem_of_getElem? (i := 6) rfl))) (by decide) (backOf (W := 0) (own_rm_c1t l Z a0 hw [] st_EMAX w4_n_v187 h0 n0 Z0 E_st_EMAX F_reward_st_EMAX w4_n_c219_c1t_hb3) hZ (hw _ (List.mem_of_getElem? (i := 8) rfl)) (hw _ (List.mem_of_getElem? (i := 2) rfl)) (by decide) (by decide)) qw4_n2a qw4_n2c (g := (mkF m 219 #[.val (.int p0), .val (.long p1), .second, .val (.int p2), .val (.int p3), .val (.int (4 : Int32)), .val (.ref st_EMAX), .val (.int (1 : Int32)), .val (.int w4_n_v100), .val (.double w4_n_v187), .second, .val (.int (0 : Int32)), .val (.long w4_n_v179), .second] [(.double w4_n_v187), (.ref st_EMAX)])) rfl (by rw [hml]; rfl) (Steps.refl _) (argsL := [(.double w4_n_v187)]) (rest := []) (lenOf own_pd_28D29Z rfl) rfl (by show 2 * 0 + _ ≤ _; exact Nat.le_of_eq rfl) (hb hby at_219) (fun _ _ => ⟨rfl, ew4_n1, (by decide : 0 + 0 ≤ _), (by decide : 0 + 0 ≤ _)⟩)
  dsimp only [Pt.U, Pt.locs, Pt.cells, Pt.slots] at Xw4_n2 lw4_n2 yw4_n2 zw4_n2 stw4_n2 hQw4_n2
  rw [lw4_n2, yw4_n2, zw4_n2] at Xw4_n2
  obtain ⟨rfl, Nw4_n2q, ew4_n2⟩ := hQw4_n2
  have Nw4_n2 := Fr.app N0 Nw4_n2q
  obtain ⟨fs, hr, hrun, hended, hW, hsame⟩ := Xw4_n2.leave (v := some (.int (1 : Int32))) (fun h => by rw [Bd.returns] at h; cases h)
  refine ⟨_, _, pre0 _ ?_, hrun, hended, _, _, rfl, ?_, ⟨_, rfl⟩, hW, hsame.mono (by decide) (by decide)⟩
  · refine own_s_iloadN X0.here hx (hb hby at_0) (pc' := 1) rfl rfl ?_
    refine X0.ldcInt hx hown (mvT hZ (hw _ (List.mem_of_getElem? (i := 0) rfl))) (g := (mkF m 1 #[.val (.int p0), .val (.long p1), .second, .val (.int p2), .val (.int p3), .unset, .unset, .unset, .unset, .unset, .unset, .unset, .unset, .unset] [(.int p0)])) rfl (hb hby at_1) _ ?_
    show Steps p.tables e below (s₁.setTop (mkF m 3 #[.val (.int p0), .val (.long p1), .second, .val (.int p2), .val (.int p3), .unset, .unset, .unset, .unset, .unset, .unset, .unset, .unset, .unset] [(.int (2147483647 : Int32)), (.int p0)])) _
    refine own_s_iand X0.here hx (hb hby at_3) (pc' := 4) rfl (v := w4_n_v3) w4_n_hv3 ?_
    refine own_s_bipush X0.here hx (hb hby at_4) (pc' := 6) rfl (v := (6 : Int32)) (by decide) ?_
    refine own_s_irem X0.here hx (hb hby at_6) (pc' := 7) rfl (by decide) (v := (4 : Int32)) w4_n_hv6 ?_
    refine own_s_istore X0.here hx (hb hby at_7) (pc' := 9) rfl (L' := #[.val (.int p0), .val (.long p1), .second, .val (.int p2), .val (.int p3), .val (.int (4 : Int32)), .unset, .unset, .unset, .unset, .unset, .unset, .unset, .unset]) rfl ?_
    refine own_s_iload X0.here hx (hb hby at_9) (pc' := 11) rfl rfl ?_
    refine own_s_ifYes X0.here hx (hb hby at_11) (by decide) (pc' := 22) (by decide) (by decide) ?_
    refine own_s_iload X0.here hx (hb hby at_22) (pc' := 24) rfl rfl ?_
    refine own_s_iconst X0.here hx (hb hby at_24) (pc' := 25) rfl (v := (1 : Int32)) (by decide) ?_
    refine own_s_icmpYes X0.here hx (hb hby at_25) (by decide) (pc' := 36) (by decide) (by decide) ?_
    refine own_s_iload X0.here hx (hb hby at_36) (pc' := 38) rfl rfl ?_
    refine own_s_iconst X0.here hx (hb hby at_38) (pc' := 39) rfl (v := (2 : Int32)) (by decide) ?_
    refine own_s_icmpYes X0.here hx (hb hby at_39) (by decide) (pc' := 50) (by decide) (by decide) ?_
    refine own_s_iload X0.here hx (hb hby at_50) (pc' := 52) rfl rfl ?_
    refine own_s_iconst X0.here hx (hb hby at_52) (pc' := 53) rfl (v := (3 : Int32)) (by decide) ?_
    refine own_s_icmpYes X0.here hx (hb hby at_53) (by decide) (pc' := 64) (by decide) (by decide) ?_
    refine own_s_iload X0.here hx (hb hby at_64) (pc' := 66) rfl rfl ?_
    refine own_s_iconst X0.here hx (hb hby at_66) (pc' := 67) rfl (v := (4 : Int32)) (by decide) ?_
    refine own_s_icmpNo X0.here hx (hb hby at_67) (pc' := 70) rfl (by decide) ?_
    refine stw4_n1 _ ?_
    show Steps p.tables e below (Tw4_n1.setTop (mkF m 73 #[.val (.int p0), .val (.long p1), .second, .val (.int p2), .val (.int p3), .val (.int (4 : Int32)), .unset, .unset, .unset, .unset, .unset, .unset, .unset, .unset] [(.ref st_EMAX)])) _
    refine own_s_astore Xw4_n1.here hx (hb hby at_73) (pc' := 75) rfl rfl (L' := #[.val (.int p0), .val (.long p1), .second, .val (.int p2), .val (.int p3), .val (.int (4 : Int32)), .val (.ref st_EMAX), .unset, .unset, .unset, .unset, .unset, .unset, .unset]) rfl ?_
    refine own_s_goto Xw4_n1.here hx (hb hby at_75) (by decide) (pc' := 83) (by decide) ?_
    refine own_s_iload Xw4_n1.here hx (hb hby at_83) (pc' := 85) rfl rfl ?_
    refine own_s_iconst Xw4_n1.here hx (hb hby at_85) (pc' := 86) rfl (v := (3 : Int32)) (by decide) ?_
    refine own_s_icmpNo Xw4_n1.here hx (hb hby at_86) (pc' := 89) rfl (by decide) ?_
    refine own_s_iconst Xw4_n1.here hx (hb hby at_89) (pc' := 90) rfl (v := (1 : Int32)) (by decide) ?_
    refine own_s_goto Xw4_n1.here hx (hb hby at_90) (by decide) (pc' := 94) (by decide) ?_
    refine own_s_istore Xw4_n1.here hx (hb hby at_94) (pc' := 96) rfl (L' := #[.val (.int p0), .val (.long p1), .second, .val (.int p2), .val (.int p3), .val (.int (4 : Int32)), .val (.ref st_EMAX), .val (.int (1 : Int32)), .unset, .unset, .unset, .unset, .unset, .unset]) rfl ?_
    refine own_s_iload Xw4_n1.here hx (hb hby at_96) (pc' := 98) rfl rfl ?_
    refine own_s_bipush Xw4_n1.here hx (hb hby at_98) (pc' := 100) rfl (v := (7 : Int32)) (by decide) ?_
    refine own_s_iand Xw4_n1.here hx (hb hby at_100) (pc' := 101) rfl (v := w4_n_v100) w4_n_hv100 ?_
    refine own_s_istore Xw4_n1.here hx (hb hby at_101) (pc' := 103) rfl (L' := #[.val (.int p0), .val (.long p1), .second, .val (.int p2), .val (.int p3), .val (.int (4 : Int32)), .val (.ref st_EMAX), .val (.int (1 : Int32)), .val (.int w4_n_v100), .unset, .unset, .unset, .unset, .unset]) rfl ?_
    refine own_s_iload Xw4_n1.here hx (hb hby at_103) (pc' := 105) rfl rfl ?_
    refine own_s_iconst Xw4_n1.here hx (hb hby at_105) (pc' := 106) rfl (v := (4 : Int32)) (by decide) ?_
    refine own_s_icmpYes Xw4_n1.here hx (hb hby at_106) (by decide) (pc' := 121) (by decide) w4_n_hb106 ?_
    refine own_s_iload Xw4_n1.here hx (hb hby at_121) (pc' := 123) rfl rfl ?_
    refine own_s_iconst Xw4_n1.here hx (hb hby at_123) (pc' := 124) rfl (v := (5 : Int32)) (by decide) ?_
    refine own_s_icmpYes Xw4_n1.here hx (hb hby at_124) (by decide) (pc' := 138) (by decide) w4_n_hb124 ?_
    refine own_s_iload Xw4_n1.here hx (hb hby at_138) (pc' := 140) rfl rfl ?_
    refine own_s_bipush Xw4_n1.here hx (hb hby at_140) (pc' := 142) rfl (v := (6 : Int32)) (by decide) ?_
    refine own_s_icmpYes Xw4_n1.here hx (hb hby at_142) (by decide) (pc' := 156) (by decide) w4_n_hb142 ?_
    refine own_s_iload Xw4_n1.here hx (hb hby at_156) (pc' := 158) rfl rfl ?_
    refine own_s_bipush Xw4_n1.here hx (hb hby at_158) (pc' := 160) rfl (v := (7 : Int32)) (by decide) ?_
    refine own_s_icmpYes Xw4_n1.here hx (hb hby at_160) (by decide) (pc' := 174) (by decide) w4_n_hb160 ?_
    refine own_s_lconst Xw4_n1.here hx (hb hby at_174) (pc' := 175) rfl (v := (1 : Int64)) (by decide) ?_
    refine own_s_iloadN Xw4_n1.here hx (hb hby at_175) (pc' := 176) rfl rfl ?_
    refine own_s_bipush Xw4_n1.here hx (hb hby at_176) (pc' := 178) rfl (v := (31 : Int32)) (by decide) ?_
    refine own_s_iand Xw4_n1.here hx (hb hby at_178) (pc' := 179) rfl (v := w4_n_v178) w4_n_hv178 ?_
    refine own_s_lshl Xw4_n1.here hx (hb hby at_179) (pc' := 180) rfl (v := w4_n_v179) w4_n_hv179 ?_
    refine own_s_lstore Xw4_n1.here hx (hb hby at_180) (pc' := 182) rfl (L' := #[.val (.int p0), .val (.long p1), .second, .val (.int p2), .val (.int p3), .val (.int (4 : Int32)), .val (.ref st_EMAX), .val (.int (1 : Int32)), .val (.int w4_n_v100), .unset, .unset, .unset, .val (.long w4_n_v179), .second]) rfl ?_
    refine own_s_lloadN Xw4_n1.here hx (hb hby at_182) (pc' := 183) rfl rfl ?_
    refine own_s_l2d Xw4_n1.here hx (hb hby at_183) (pc' := 184) rfl (v := (FP.l2d p1)) rfl ?_
    refine own_s_lload Xw4_n1.here hx (hb hby at_184) (pc' := 186) rfl rfl ?_
    refine own_s_l2d Xw4_n1.here hx (hb hby at_186) (pc' := 187) rfl (v := (FP.l2d w4_n_v179)) rfl ?_
    refine own_s_ddiv Xw4_n1.here hx (hb hby at_187) (pc' := 188) rfl w4_n_hn187 (v := w4_n_v187) w4_n_hv187 ?_
    refine own_s_dstore Xw4_n1.here hx (hb hby at_188) (pc' := 190) rfl (L' := #[.val (.int p0), .val (.long p1), .second, .val (.int p2), .val (.int p3), .val (.int (4 : Int32)), .val (.ref st_EMAX), .val (.int (1 : Int32)), .val (.int w4_n_v100), .val (.double w4_n_v187), .second, .unset, .val (.long w4_n_v179), .second]) rfl ?_
    refine own_s_lloadN Xw4_n1.here hx (hb hby at_190) (pc' := 191) rfl rfl ?_
    refine own_s_lconst Xw4_n1.here hx (hb hby at_191) (pc' := 192) rfl (v := (0 : Int64)) (by decide) ?_
    refine own_s_lcmp Xw4_n1.here hx (hb hby at_192) (pc' := 193) rfl (v := (lcmpW p1 (0 : Int64))) rfl ?_
    refine own_s_ifYes Xw4_n1.here hx (hb hby at_193) (by decide) (pc' := 212) (by decide) w4_n_hb193 ?_
    refine own_s_iconst Xw4_n1.here hx (hb hby at_212) (pc' := 213) rfl (v := (0 : Int32)) (by decide) ?_
    refine own_s_istore Xw4_n1.here hx (hb hby at_213) (pc' := 215) rfl (L' := #[.val (.int p0), .val (.long p1), .second, .val (.int p2), .val (.int p3), .val (.int (4 : Int32)), .val (.ref st_EMAX), .val (.int (1 : Int32)), .val (.int w4_n_v100), .val (.double w4_n_v187), .second, .val (.int (0 : Int32)), .val (.long w4_n_v179), .second]) rfl ?_
    refine own_s_aload Xw4_n1.here hx (hb hby at_215) (pc' := 217) rfl rfl rfl ?_
    refine own_s_dload Xw4_n1.here hx (hb hby at_217) (pc' := 219) rfl rfl ?_
    refine stw4_n2.trans ?_
    show Steps p.tables e below (Tw4_n2.setTop (mkF m 222 #[.val (.int p0), .val (.long p1), .second, .val (.int p2), .val (.int p3), .val (.int (4 : Int32)), .val (.ref st_EMAX), .val (.int (1 : Int32)), .val (.int w4_n_v100), .val (.double w4_n_v187), .second, .val (.int (0 : Int32)), .val (.long w4_n_v179), .second] [(.int (0 : Int32))])) _
    refine own_s_iload Xw4_n2.here hx (hb hby at_222) (pc' := 224) rfl rfl ?_
    refine own_s_icmpNo Xw4_n2.here hx (hb hby at_224) (pc' := 227) rfl (by decide) ?_
    refine own_s_iconst Xw4_n2.here hx (hb hby at_227) (pc' := 228) rfl (v := (1 : Int32)) (by decide) ?_
    refine own_s_goto Xw4_n2.here hx (hb hby at_228) (by decide) (pc' := 232) (by decide) ?_
    exact retN Xw4_n2 hx (t := .boolean) Bd.returns (by simp) (hb hby at_232) hr
  · show own_Q0 n0 _ Tw4_n2.heap _
    rw [ew4_n2]
    exact ⟨rfl, Nw4_n2⟩
theorem own_ef_w4_y (m : MethodId) (p0 : Int32) (p1 : Int64) (p2 : Int32) (p3 : Int32) : entryFrame m #[(.int p0), (.long p1), (.int p2), (.int p3)] maxLocals = mkF m 0 #[.val (.int p0), .val (.long p1), .second, .val (.int p2), .val (.int p3), .unset, .unset, .unset, .unset, .unset, .unset, .unset, .unset, .unset] [] := by first | (simp [entryFrame, mkF, argsToLocals, Value.category, maxLocals]; done) | rfl
set_option maxRecDepth 65536 in
set_option maxHeartbeats 40000000 in
theorem own_rm_w4_y (l : Launch) (Z : State) (a0 : Array Value) (hw : ∀ d ∈ tables_1, d.before a0 Z = true) (ws : List Jvm.Cond) (p0 : Int32) (p1 : Int64) (p2 : Int32) (p3 : Int32) (st_EMAX : Addr) {w4_y_v3 : Int32} {w4_y_v100 : Int32} {w4_y_v178 : Int32} {w4_y_v179 : Int64} {w4_y_v187 : UInt64} (h0 : Heap) (n0 : Nat) (Z0 : n0 ≤ h0.size) (E_st_EMAX : Exa Z h0 st_EMAX "com/example/libcredal/libcredal/checker/Query$Operator") (F_reward_st_EMAX : Fld Z h0 st_EMAX "com/example/libcredal/libcredal/checker/Query$Operator" "reward" "Z" (.int (1 : Int32))) (S_EMAX : Sta Z h0 "com/example/libcredal/libcredal/checker/Query$Operator" "EMAX" "Lcom/example/libcredal/libcredal/checker/Query$Operator;" (.ref st_EMAX)) (w4_y_hv3 : p0 &&& (2147483647 : Int32) = w4_y_v3) (w4_y_hv6 : w4_y_v3 % (6 : Int32) = (4 : Int32)) (w4_y_hv100 : p3 &&& (7 : Int32) = w4_y_v100) (w4_y_hb106 : if_icmp.holds .ne w4_y_v100 (4 : Int32) = true) (w4_y_hb124 : if_icmp.holds .ne w4_y_v100 (5 : Int32) = true) (w4_y_hb142 : if_icmp.holds .ne w4_y_v100 (6 : Int32) = true) (w4_y_hb160 : if_icmp.holds .ne w4_y_v100 (7 : Int32) = true) (w4_y_hv178 : p2 &&& (31 : Int32) = w4_y_v178) (w4_y_hv179 : (1 : Int64) <<< (w4_y_v178 &&& 63).toInt64 = w4_y_v179) (w4_y_hn187 : Jvm.Free.Fl.NoNaN64 (FP.ddiv (FP.l2d p1) (FP.l2d w4_y_v179))) (w4_y_hv187 : FP.ddiv (FP.l2d p1) (FP.l2d w4_y_v179) = w4_y_v187) (w4_y_hb193 : ifCond.holds .lt (lcmpW p1 (0 : Int64)) = false) (w4_y_c219_c1ff_hb3 : ifCond.holds .lt (Op.cmpValue (FP.dcmp w4_y_v187 0) .l) = false) (w4_y_c219_c1ff_hb22 : ifCond.holds .gt (Op.cmpValue (FP.dcmp w4_y_v187 (9218868437227405311 : UInt64)) .g) = false) :
    MetFree l x (head1 (Jvm.Cond.code x code maxLocals ret :: ws) room_1) (fun a U => a = #[(.int p0), (.long p1), (.int p2), (.int p3)] ∧ Z.Warmed39 U.vm ∧ U.heap = h0) (fun _ _ _ _ _ => True) (fun _ U o U' => ∃ v L, o = .returned v ∧ own_Q0 n0 v U'.heap L ∧ FrameEnd U o U' L room_1.cells room_1.slots) := by
  refine MetFree.of_bodySF (plainFor_of_name own_pn_com_example_libcredal_libcredal_checker_OperatorAdmitsPinLaw) hisR ?_
  intro p e s m args below meth c s₁ Bd hml0 hP hK
  obtain ⟨rfl, hZ, hh⟩ := hP
  have hx := Bd.exec
  have hby := Bd.bytes
  have hml : c.maxLocals = 14 := hml0
  have hown : s.vm.findClass "com/example/libcredal/libcredal/checker/OperatorAdmitsPinLaw" = some m.cls := findClass_of_methodNamed Bd.named
  have hnm := (name_of_methodNamed Bd.named Bd.method).1
  have X0 : Stand p l e room_1 s m #[(.int p0), (.long p1), (.int p2), (.int p3)] below meth c s₁ [] 0 0 := Stand.of_body Bd
  have e0 : s₁.heap = h0 := by rw [← hh, Bd.state]; rfl
  have N0 := Fr.nil n0
  have pre0 : ∀ t, Steps p.tables e below (s₁.setTop (mkF m 0 #[.val (.int p0), .val (.long p1), .second, .val (.int p2), .val (.int p3), .unset, .unset, .unset, .unset, .unset, .unset, .unset, .unset, .unset] [])) t → Steps p.tables e below (s₁.setTop (entryFrame m #[(.int p0), (.long p1), (.int p2), (.int p3)] maxLocals)) t := fun t k => castTop (own_ef_w4_y m p0 p1 p2 p3) k
  obtain ⟨Tw4_y1, Xw4_y1, ew4_y1, stw4_y1⟩ := getS2 X0 hx hZ hown (host := "") (Or.inl (hw _ (List.mem_of_getElem? (i := 21) rfl))) Via.refl e0 S_EMAX (g := (mkF m 70 #[.val (.int p0), .val (.long p1), .second, .val (.int p2), .val (.int p3), .val (.int (4 : Int32)), .unset, .unset, .unset, .unset, .unset, .unset, .unset, .unset] [])) rfl (hb hby at_70)
  obtain ⟨cqw4_y2, kqw4_y2, qw4_y2a, qw4_y2b, qw4_y2c⟩ := isOf hZ ew4_y1 E_st_EMAX
  obtain ⟨_, _, ⟨Tw4_y2, Lw4_y2, kw4_y2, nw4_y2⟩, -, Xw4_y2, ⟨Lcw4_y2, hQw4_y2, lw4_y2, yw4_y2, zw4_y2⟩, stw4_y2⟩ := Xw4_y1.virtualBack hx (y := (⟨"com/example/libcredal/libcredal/checker/Query$Operator", "admits", "(D)Z"⟩ : MethodName)) (z := (⟨"com/example/libcredal/libcredal/checker/Query$Operator", "admits", "(D)Z"⟩ : MethodName)) hown (mvT hZ (hw _ (List.mem_of_getElem? (i := 4) rfl))) (mvT hZ (hw _ (List.mem_of_getElem? (i := 5) rfl))) (notFace_of_selects (args := #[]) (mvT hZ (hw _ (List.mem_of_getElem? (i := 7) rfl)))) (mvT hZ (hw _ (List.mem_of_getElem? (i := 7) rfl))) (mvT hZ (hw _ (List.mem_of_getElem? (i := 6) rfl))) (by decide) (backOf (W := 0) (own_rm_c1ff l Z a0 hw [] st_EMAX w4_y_v187 h0 n0 Z0 E_st_EMAX F_reward_st_EMAX w4_y_c219_c1ff_hb3 w4_y_c219_c1ff_hb22) hZ (hw _ (List.mem_of_getElem? (i := 8) rfl)) (hw _ (List.mem_of_getElem? (i := 2) rfl)) (by decide) (by decide)) qw4_y2a qw4_y2c (g := (mkF m 219 #[.val (.int p0), .val (.long p1), .second, .val (.int p2), .val (.int p3), .val (.int (4 : Int32)), .val (.ref st_EMAX), .val (.int (1 : Int32)), .val (.int w4_y_v100), .val (.double w4_y_v187), .second, .val (.int (1 : Int32)), .val (.long w4_y_v179), .second] [(.double w4_y_v187), (.ref st_EMAX)])) rfl (by rw [hml]; rfl) (Steps.refl _) (argsL := [(.double w4_y_v187)]) (rest := []) (lenOf own_pd_28D29Z rfl) rfl (by show 2 * 0 + _ ≤ _; exact Nat.le_of_eq rfl) (hb hby at_219) (fun _ _ => ⟨rfl, ew4_y1, (by decide : 0 + 0 ≤ _), (by decide : 0 + 0 ≤ _)⟩)
  dsimp only [Pt.U, Pt.locs, Pt.cells, Pt.slots] at Xw4_y2 lw4_y2 yw4_y2 zw4_y2 stw4_y2 hQw4_y2
  rw [lw4_y2, yw4_y2, zw4_y2] at Xw4_y2
  obtain ⟨rfl, Nw4_y2q, ew4_y2⟩ := hQw4_y2
  have Nw4_y2 := Fr.app N0 Nw4_y2q
  obtain ⟨fs, hr, hrun, hended, hW, hsame⟩ := Xw4_y2.leave (v := some (.int (1 : Int32))) (fun h => by rw [Bd.returns] at h; cases h)
  refine ⟨_, _, pre0 _ ?_, hrun, hended, _, _, rfl, ?_, ⟨_, rfl⟩, hW, hsame.mono (by decide) (by decide)⟩
  · refine own_s_iloadN X0.here hx (hb hby at_0) (pc' := 1) rfl rfl ?_
    refine X0.ldcInt hx hown (mvT hZ (hw _ (List.mem_of_getElem? (i := 0) rfl))) (g := (mkF m 1 #[.val (.int p0), .val (.long p1), .second, .val (.int p2), .val (.int p3), .unset, .unset, .unset, .unset, .unset, .unset, .unset, .unset, .unset] [(.int p0)])) rfl (hb hby at_1) _ ?_
    show Steps p.tables e below (s₁.setTop (mkF m 3 #[.val (.int p0), .val (.long p1), .second, .val (.int p2), .val (.int p3), .unset, .unset, .unset, .unset, .unset, .unset, .unset, .unset, .unset] [(.int (2147483647 : Int32)), (.int p0)])) _
    refine own_s_iand X0.here hx (hb hby at_3) (pc' := 4) rfl (v := w4_y_v3) w4_y_hv3 ?_
    refine own_s_bipush X0.here hx (hb hby at_4) (pc' := 6) rfl (v := (6 : Int32)) (by decide) ?_
    refine own_s_irem X0.here hx (hb hby at_6) (pc' := 7) rfl (by decide) (v := (4 : Int32)) w4_y_hv6 ?_
    refine own_s_istore X0.here hx (hb hby at_7) (pc' := 9) rfl (L' := #[.val (.int p0), .val (.long p1), .second, .val (.int p2), .val (.int p3), .val (.int (4 : Int32)), .unset, .unset, .unset, .unset, .unset, .unset, .unset, .unset]) rfl ?_
    refine own_s_iload X0.here hx (hb hby at_9) (pc' := 11) rfl rfl ?_
    refine own_s_ifYes X0.here hx (hb hby at_11) (by decide) (pc' := 22) (by decide) (by decide) ?_
    refine own_s_iload X0.here hx (hb hby at_22) (pc' := 24) rfl rfl ?_
    refine own_s_iconst X0.here hx (hb hby at_24) (pc' := 25) rfl (v := (1 : Int32)) (by decide) ?_
    refine own_s_icmpYes X0.here hx (hb hby at_25) (by decide) (pc' := 36) (by decide) (by decide) ?_
    refine own_s_iload X0.here hx (hb hby at_36) (pc' := 38) rfl rfl ?_
    refine own_s_iconst X0.here hx (hb hby at_38) (pc' := 39) rfl (v := (2 : Int32)) (by decide) ?_
    refine own_s_icmpYes X0.here hx (hb hby at_39) (by decide) (pc' := 50) (by decide) (by decide) ?_
    refine own_s_iload X0.here hx (hb hby at_50) (pc' := 52) rfl rfl ?_
    refine own_s_iconst X0.here hx (hb hby at_52) (pc' := 53) rfl (v := (3 : Int32)) (by decide) ?_
    refine own_s_icmpYes X0.here hx (hb hby at_53) (by decide) (pc' := 64) (by decide) (by decide) ?_
    refine own_s_iload X0.here hx (hb hby at_64) (pc' := 66) rfl rfl ?_
    refine own_s_iconst X0.here hx (hb hby at_66) (pc' := 67) rfl (v := (4 : Int32)) (by decide) ?_
    refine own_s_icmpNo X0.here hx (hb hby at_67) (pc' := 70) rfl (by decide) ?_
    refine stw4_y1 _ ?_
    show Steps p.tables e below (Tw4_y1.setTop (mkF m 73 #[.val (.int p0), .val (.long p1), .second, .val (.int p2), .val (.int p3), .val (.int (4 : Int32)), .unset, .unset, .unset, .unset, .unset, .unset, .unset, .unset] [(.ref st_EMAX)])) _
    refine own_s_astore Xw4_y1.here hx (hb hby at_73) (pc' := 75) rfl rfl (L' := #[.val (.int p0), .val (.long p1), .second, .val (.int p2), .val (.int p3), .val (.int (4 : Int32)), .val (.ref st_EMAX), .unset, .unset, .unset, .unset, .unset, .unset, .unset]) rfl ?_
    refine own_s_goto Xw4_y1.here hx (hb hby at_75) (by decide) (pc' := 83) (by decide) ?_
    refine own_s_iload Xw4_y1.here hx (hb hby at_83) (pc' := 85) rfl rfl ?_
    refine own_s_iconst Xw4_y1.here hx (hb hby at_85) (pc' := 86) rfl (v := (3 : Int32)) (by decide) ?_
    refine own_s_icmpNo Xw4_y1.here hx (hb hby at_86) (pc' := 89) rfl (by decide) ?_
    refine own_s_iconst Xw4_y1.here hx (hb hby at_89) (pc' := 90) rfl (v := (1 : Int32)) (by decide) ?_
    refine own_s_goto Xw4_y1.here hx (hb hby at_90) (by decide) (pc' := 94) (by decide) ?_
    refine own_s_istore Xw4_y1.here hx (hb hby at_94) (pc' := 96) rfl (L' := #[.val (.int p0), .val (.long p1), .second, .val (.int p2), .val (.int p3), .val (.int (4 : Int32)), .val (.ref st_EMAX), .val (.int (1 : Int32)), .unset, .unset, .unset, .unset, .unset, .unset]) rfl ?_
    refine own_s_iload Xw4_y1.here hx (hb hby at_96) (pc' := 98) rfl rfl ?_
    refine own_s_bipush Xw4_y1.here hx (hb hby at_98) (pc' := 100) rfl (v := (7 : Int32)) (by decide) ?_
    refine own_s_iand Xw4_y1.here hx (hb hby at_100) (pc' := 101) rfl (v := w4_y_v100) w4_y_hv100 ?_
    refine own_s_istore Xw4_y1.here hx (hb hby at_101) (pc' := 103) rfl (L' := #[.val (.int p0), .val (.long p1), .second, .val (.int p2), .val (.int p3), .val (.int (4 : Int32)), .val (.ref st_EMAX), .val (.int (1 : Int32)), .val (.int w4_y_v100), .unset, .unset, .unset, .unset, .unset]) rfl ?_
    refine own_s_iload Xw4_y1.here hx (hb hby at_103) (pc' := 105) rfl rfl ?_
    refine own_s_iconst Xw4_y1.here hx (hb hby at_105) (pc' := 106) rfl (v := (4 : Int32)) (by decide) ?_
    refine own_s_icmpYes Xw4_y1.here hx (hb hby at_106) (by decide) (pc' := 121) (by decide) w4_y_hb106 ?_
    refine own_s_iload Xw4_y1.here hx (hb hby at_121) (pc' := 123) rfl rfl ?_
    refine own_s_iconst Xw4_y1.here hx (hb hby at_123) (pc' := 124) rfl (v := (5 : Int32)) (by decide) ?_
    refine own_s_icmpYes Xw4_y1.here hx (hb hby at_124) (by decide) (pc' := 138) (by decide) w4_y_hb124 ?_
    refine own_s_iload Xw4_y1.here hx (hb hby at_138) (pc' := 140) rfl rfl ?_
    refine own_s_bipush Xw4_y1.here hx (hb hby at_140) (pc' := 142) rfl (v := (6 : Int32)) (by decide) ?_
    refine own_s_icmpYes Xw4_y1.here hx (hb hby at_142) (by decide) (pc' := 156) (by decide) w4_y_hb142 ?_
    refine own_s_iload Xw4_y1.here hx (hb hby at_156) (pc' := 158) rfl rfl ?_
    refine own_s_bipush Xw4_y1.here hx (hb hby at_158) (pc' := 160) rfl (v := (7 : Int32)) (by decide) ?_
    refine own_s_icmpYes Xw4_y1.here hx (hb hby at_160) (by decide) (pc' := 174) (by decide) w4_y_hb160 ?_
    refine own_s_lconst Xw4_y1.here hx (hb hby at_174) (pc' := 175) rfl (v := (1 : Int64)) (by decide) ?_
    refine own_s_iloadN Xw4_y1.here hx (hb hby at_175) (pc' := 176) rfl rfl ?_
    refine own_s_bipush Xw4_y1.here hx (hb hby at_176) (pc' := 178) rfl (v := (31 : Int32)) (by decide) ?_
    refine own_s_iand Xw4_y1.here hx (hb hby at_178) (pc' := 179) rfl (v := w4_y_v178) w4_y_hv178 ?_
    refine own_s_lshl Xw4_y1.here hx (hb hby at_179) (pc' := 180) rfl (v := w4_y_v179) w4_y_hv179 ?_
    refine own_s_lstore Xw4_y1.here hx (hb hby at_180) (pc' := 182) rfl (L' := #[.val (.int p0), .val (.long p1), .second, .val (.int p2), .val (.int p3), .val (.int (4 : Int32)), .val (.ref st_EMAX), .val (.int (1 : Int32)), .val (.int w4_y_v100), .unset, .unset, .unset, .val (.long w4_y_v179), .second]) rfl ?_
    refine own_s_lloadN Xw4_y1.here hx (hb hby at_182) (pc' := 183) rfl rfl ?_
    refine own_s_l2d Xw4_y1.here hx (hb hby at_183) (pc' := 184) rfl (v := (FP.l2d p1)) rfl ?_
    refine own_s_lload Xw4_y1.here hx (hb hby at_184) (pc' := 186) rfl rfl ?_
    refine own_s_l2d Xw4_y1.here hx (hb hby at_186) (pc' := 187) rfl (v := (FP.l2d w4_y_v179)) rfl ?_
    refine own_s_ddiv Xw4_y1.here hx (hb hby at_187) (pc' := 188) rfl w4_y_hn187 (v := w4_y_v187) w4_y_hv187 ?_
    refine own_s_dstore Xw4_y1.here hx (hb hby at_188) (pc' := 190) rfl (L' := #[.val (.int p0), .val (.long p1), .second, .val (.int p2), .val (.int p3), .val (.int (4 : Int32)), .val (.ref st_EMAX), .val (.int (1 : Int32)), .val (.int w4_y_v100), .val (.double w4_y_v187), .second, .unset, .val (.long w4_y_v179), .second]) rfl ?_
    refine own_s_lloadN Xw4_y1.here hx (hb hby at_190) (pc' := 191) rfl rfl ?_
    refine own_s_lconst Xw4_y1.here hx (hb hby at_191) (pc' := 192) rfl (v := (0 : Int64)) (by decide) ?_
    refine own_s_lcmp Xw4_y1.here hx (hb hby at_192) (pc' := 193) rfl (v := (lcmpW p1 (0 : Int64))) rfl ?_
    refine own_s_ifNo Xw4_y1.here hx (hb hby at_193) (pc' := 196) rfl w4_y_hb193 ?_
    refine own_s_iload Xw4_y1.here hx (hb hby at_196) (pc' := 198) rfl rfl ?_
    refine own_s_ifYes Xw4_y1.here hx (hb hby at_198) (by decide) (pc' := 208) (by decide) (by decide) ?_
    refine own_s_iconst Xw4_y1.here hx (hb hby at_208) (pc' := 209) rfl (v := (1 : Int32)) (by decide) ?_
    refine own_s_goto Xw4_y1.here hx (hb hby at_209) (by decide) (pc' := 213) (by decide) ?_
    refine own_s_istore Xw4_y1.here hx (hb hby at_213) (pc' := 215) rfl (L' := #[.val (.int p0), .val (.long p1), .second, .val (.int p2), .val (.int p3), .val (.int (4 : Int32)), .val (.ref st_EMAX), .val (.int (1 : Int32)), .val (.int w4_y_v100), .val (.double w4_y_v187), .second, .val (.int (1 : Int32)), .val (.long w4_y_v179), .second]) rfl ?_
    refine own_s_aload Xw4_y1.here hx (hb hby at_215) (pc' := 217) rfl rfl rfl ?_
    refine own_s_dload Xw4_y1.here hx (hb hby at_217) (pc' := 219) rfl rfl ?_
    refine stw4_y2.trans ?_
    show Steps p.tables e below (Tw4_y2.setTop (mkF m 222 #[.val (.int p0), .val (.long p1), .second, .val (.int p2), .val (.int p3), .val (.int (4 : Int32)), .val (.ref st_EMAX), .val (.int (1 : Int32)), .val (.int w4_y_v100), .val (.double w4_y_v187), .second, .val (.int (1 : Int32)), .val (.long w4_y_v179), .second] [(.int (1 : Int32))])) _
    refine own_s_iload Xw4_y2.here hx (hb hby at_222) (pc' := 224) rfl rfl ?_
    refine own_s_icmpNo Xw4_y2.here hx (hb hby at_224) (pc' := 227) rfl (by decide) ?_
    refine own_s_iconst Xw4_y2.here hx (hb hby at_227) (pc' := 228) rfl (v := (1 : Int32)) (by decide) ?_
    refine own_s_goto Xw4_y2.here hx (hb hby at_228) (by decide) (pc' := 232) (by decide) ?_
    exact retN Xw4_y2 hx (t := .boolean) Bd.returns (by simp) (hb hby at_232) hr
  · show own_Q0 n0 _ Tw4_y2.heap _
    rw [ew4_y2]
    exact ⟨rfl, Nw4_y2⟩
theorem own_ef_w5_4 (m : MethodId) (p0 : Int32) (p1 : Int64) (p2 : Int32) (p3 : Int32) : entryFrame m #[(.int p0), (.long p1), (.int p2), (.int p3)] maxLocals = mkF m 0 #[.val (.int p0), .val (.long p1), .second, .val (.int p2), .val (.int p3), .unset, .unset, .unset, .unset, .unset, .unset, .unset, .unset, .unset] [] := by first | (simp [entryFrame, mkF, argsToLocals, Value.category, maxLocals]; done) | rfl
set_option maxRecDepth 65536 in
set_option maxHeartbeats 40000000 in
theorem own_rm_w5_4 (l : Launch) (Z : State) (a0 : Array Value) (hw : ∀ d ∈ tables_1, d.before a0 Z = true) (ws : List Jvm.Cond) (p0 : Int32) (p1 : Int64) (p2 : Int32) (p3 : Int32) (st_E : Addr) {w5_4_v3 : Int32} (h0 : Heap) (n0 : Nat) (Z0 : n0 ≤ h0.size) (E_st_E : Exa Z h0 st_E "com/example/libcredal/libcredal/checker/Query$Operator") (F_reward_st_E : Fld Z h0 st_E "com/example/libcredal/libcredal/checker/Query$Operator" "reward" "Z" (.int (1 : Int32))) (S_E : Sta Z h0 "com/example/libcredal/libcredal/checker/Query$Operator" "E" "Lcom/example/libcredal/libcredal/checker/Query$Operator;" (.ref st_E)) (w5_4_hv3 : p0 &&& (2147483647 : Int32) = w5_4_v3) (w5_4_hv6 : w5_4_v3 % (6 : Int32) = (5 : Int32)) (w5_4_hv100 : p3 &&& (7 : Int32) = (4 : Int32)) (w5_4_c219_c1ff_hb3 : ifCond.holds .lt (Op.cmpValue (FP.dcmp (9218868437227405311 : UInt64) 0) .l) = false) (w5_4_c219_c1ff_hb22 : ifCond.holds .gt (Op.cmpValue (FP.dcmp (9218868437227405311 : UInt64) (9218868437227405311 : UInt64)) .g) = false) :
    MetFree l x (head1 (Jvm.Cond.code x code maxLocals ret :: ws) room_1) (fun a U => a = #[(.int p0), (.long p1), (.int p2), (.int p3)] ∧ Z.Warmed39 U.vm ∧ U.heap = h0) (fun _ _ _ _ _ => True) (fun _ U o U' => ∃ v L, o = .returned v ∧ own_Q0 n0 v U'.heap L ∧ FrameEnd U o U' L room_1.cells room_1.slots) := by
  refine MetFree.of_bodySF (plainFor_of_name own_pn_com_example_libcredal_libcredal_checker_OperatorAdmitsPinLaw) hisR ?_
  intro p e s m args below meth c s₁ Bd hml0 hP hK
  obtain ⟨rfl, hZ, hh⟩ := hP
  have hx := Bd.exec
  have hby := Bd.bytes
  have hml : c.maxLocals = 14 := hml0
  have hown : s.vm.findClass "com/example/libcredal/libcredal/checker/OperatorAdmitsPinLaw" = some m.cls := findClass_of_methodNamed Bd.named
  have hnm := (name_of_methodNamed Bd.named Bd.method).1
  have X0 : Stand p l e room_1 s m #[(.int p0), (.long p1), (.int p2), (.int p3)] below meth c s₁ [] 0 0 := Stand.of_body Bd
  have e0 : s₁.heap = h0 := by rw [← hh, Bd.state]; rfl
  have N0 := Fr.nil n0
  have pre0 : ∀ t, Steps p.tables e below (s₁.setTop (mkF m 0 #[.val (.int p0), .val (.long p1), .second, .val (.int p2), .val (.int p3), .unset, .unset, .unset, .unset, .unset, .unset, .unset, .unset, .unset] [])) t → Steps p.tables e below (s₁.setTop (entryFrame m #[(.int p0), (.long p1), (.int p2), (.int p3)] maxLocals)) t := fun t k => castTop (own_ef_w5_4 m p0 p1 p2 p3) k
  obtain ⟨Tw5_41, Xw5_41, ew5_41, stw5_41⟩ := getS2 X0 hx hZ hown (host := "") (Or.inl (hw _ (List.mem_of_getElem? (i := 24) rfl))) Via.refl e0 S_E (g := (mkF m 78 #[.val (.int p0), .val (.long p1), .second, .val (.int p2), .val (.int p3), .val (.int (5 : Int32)), .unset, .unset, .unset, .unset, .unset, .unset, .unset, .unset] [])) rfl (hb hby at_78)
  obtain ⟨cqw5_42, kqw5_42, qw5_42a, qw5_42b, qw5_42c⟩ := isOf hZ ew5_41 E_st_E
  obtain ⟨_, _, ⟨Tw5_42, Lw5_42, kw5_42, nw5_42⟩, -, Xw5_42, ⟨Lcw5_42, hQw5_42, lw5_42, yw5_42, zw5_42⟩, stw5_42⟩ := Xw5_41.virtualBack hx (y := (⟨"com/example/libcredal/libcredal/checker/Query$Operator", "admits", "(D)Z"⟩ : MethodName)) (z := (⟨"com/example/libcredal/libcredal/checker/Query$Operator", "admits", "(D)Z"⟩ : MethodName)) hown (mvT hZ (hw _ (List.mem_of_getElem? (i := 4) rfl))) (mvT hZ (hw _ (List.mem_of_getElem? (i := 5) rfl))) (notFace_of_selects (args := #[]) (mvT hZ (hw _ (List.mem_of_getElem? (i := 7) rfl)))) (mvT hZ (hw _ (List.mem_of_getElem? (i := 7) rfl))) (mvT hZ (hw _ (List.mem_of_getElem? (i := 6) rfl))) (by decide) (backOf (W := 0) (own_rm_c1ff l Z a0 hw [] st_E (9218868437227405311 : UInt64) h0 n0 Z0 E_st_E F_reward_st_E w5_4_c219_c1ff_hb3 w5_4_c219_c1ff_hb22) hZ (hw _ (List.mem_of_getElem? (i := 8) rfl)) (hw _ (List.mem_of_getElem? (i := 2) rfl)) (by decide) (by decide)) qw5_42a qw5_42c (g := (mkF m 219 #[.val (.int p0), .val (.long p1), .second, .val (.int p2), .val (.int p3), .val (.int (5 : Int32)), .val (.ref st_E), .val (.int (1 : Int32)), .val (.int (4 : Int32)), .val (.double (9218868437227405311 : UInt64)), .second, .val (.int (1 : Int32)), .unset, .unset] [(.double (9218868437227405311 : UInt64)), (.ref st_E)])) rfl (by rw [hml]; rfl) (Steps.refl _) (argsL := [(.double (9218868437227405311 : UInt64))]) (rest := []) (lenOf own_pd_28D29Z rfl) rfl (by show 2 * 0 + _ ≤ _; exact Nat.le_of_eq rfl) (hb hby at_219) (fun _ _ => ⟨rfl, ew5_41, (by decide : 0 + 0 ≤ _), (by decide : 0 + 0 ≤ _)⟩)
  dsimp only [Pt.U, Pt.locs, Pt.cells, Pt.slots] at Xw5_42 lw5_42 yw5_42 zw5_42 stw5_42 hQw5_42
  rw [lw5_42, yw5_42, zw5_42] at Xw5_42
  obtain ⟨rfl, Nw5_42q, ew5_42⟩ := hQw5_42
  have Nw5_42 := Fr.app N0 Nw5_42q
  obtain ⟨fs, hr, hrun, hended, hW, hsame⟩ := Xw5_42.leave (v := some (.int (1 : Int32))) (fun h => by rw [Bd.returns] at h; cases h)
  refine ⟨_, _, pre0 _ ?_, hrun, hended, _, _, rfl, ?_, ⟨_, rfl⟩, hW, hsame.mono (by decide) (by decide)⟩
  · refine own_s_iloadN X0.here hx (hb hby at_0) (pc' := 1) rfl rfl ?_
    refine X0.ldcInt hx hown (mvT hZ (hw _ (List.mem_of_getElem? (i := 0) rfl))) (g := (mkF m 1 #[.val (.int p0), .val (.long p1), .second, .val (.int p2), .val (.int p3), .unset, .unset, .unset, .unset, .unset, .unset, .unset, .unset, .unset] [(.int p0)])) rfl (hb hby at_1) _ ?_
    show Steps p.tables e below (s₁.setTop (mkF m 3 #[.val (.int p0), .val (.long p1), .second, .val (.int p2), .val (.int p3), .unset, .unset, .unset, .unset, .unset, .unset, .unset, .unset, .unset] [(.int (2147483647 : Int32)), (.int p0)])) _
    refine own_s_iand X0.here hx (hb hby at_3) (pc' := 4) rfl (v := w5_4_v3) w5_4_hv3 ?_
    refine own_s_bipush X0.here hx (hb hby at_4) (pc' := 6) rfl (v := (6 : Int32)) (by decide) ?_
    refine own_s_irem X0.here hx (hb hby at_6) (pc' := 7) rfl (by decide) (v := (5 : Int32)) w5_4_hv6 ?_
    refine own_s_istore X0.here hx (hb hby at_7) (pc' := 9) rfl (L' := #[.val (.int p0), .val (.long p1), .second, .val (.int p2), .val (.int p3), .val (.int (5 : Int32)), .unset, .unset, .unset, .unset, .unset, .unset, .unset, .unset]) rfl ?_
    refine own_s_iload X0.here hx (hb hby at_9) (pc' := 11) rfl rfl ?_
    refine own_s_ifYes X0.here hx (hb hby at_11) (by decide) (pc' := 22) (by decide) (by decide) ?_
    refine own_s_iload X0.here hx (hb hby at_22) (pc' := 24) rfl rfl ?_
    refine own_s_iconst X0.here hx (hb hby at_24) (pc' := 25) rfl (v := (1 : Int32)) (by decide) ?_
    refine own_s_icmpYes X0.here hx (hb hby at_25) (by decide) (pc' := 36) (by decide) (by decide) ?_
    refine own_s_iload X0.here hx (hb hby at_36) (pc' := 38) rfl rfl ?_
    refine own_s_iconst X0.here hx (hb hby at_38) (pc' := 39) rfl (v := (2 : Int32)) (by decide) ?_
    refine own_s_icmpYes X0.here hx (hb hby at_39) (by decide) (pc' := 50) (by decide) (by decide) ?_
    refine own_s_iload X0.here hx (hb hby at_50) (pc' := 52) rfl rfl ?_
    refine own_s_iconst X0.here hx (hb hby at_52) (pc' := 53) rfl (v := (3 : Int32)) (by decide) ?_
    refine own_s_icmpYes X0.here hx (hb hby at_53) (by decide) (pc' := 64) (by decide) (by decide) ?_
    refine own_s_iload X0.here hx (hb hby at_64) (pc' := 66) rfl rfl ?_
    refine own_s_iconst X0.here hx (hb hby at_66) (pc' := 67) rfl (v := (4 : Int32)) (by decide) ?_
    refine own_s_icmpYes X0.here hx (hb hby at_67) (by decide) (pc' := 78) (by decide) (by decide) ?_
    refine stw5_41 _ ?_
    show Steps p.tables e below (Tw5_41.setTop (mkF m 81 #[.val (.int p0), .val (.long p1), .second, .val (.int p2), .val (.int p3), .val (.int (5 : Int32)), .unset, .unset, .unset, .unset, .unset, .unset, .unset, .unset] [(.ref st_E)])) _
    refine own_s_astore Xw5_41.here hx (hb hby at_81) (pc' := 83) rfl rfl (L' := #[.val (.int p0), .val (.long p1), .second, .val (.int p2), .val (.int p3), .val (.int (5 : Int32)), .val (.ref st_E), .unset, .unset, .unset, .unset, .unset, .unset, .unset]) rfl ?_
    refine own_s_iload Xw5_41.here hx (hb hby at_83) (pc' := 85) rfl rfl ?_
    refine own_s_iconst Xw5_41.here hx (hb hby at_85) (pc' := 86) rfl (v := (3 : Int32)) (by decide) ?_
    refine own_s_icmpNo Xw5_41.here hx (hb hby at_86) (pc' := 89) rfl (by decide) ?_
    refine own_s_iconst Xw5_41.here hx (hb hby at_89) (pc' := 90) rfl (v := (1 : Int32)) (by decide) ?_
    refine own_s_goto Xw5_41.here hx (hb hby at_90) (by decide) (pc' := 94) (by decide) ?_
    refine own_s_istore Xw5_41.here hx (hb hby at_94) (pc' := 96) rfl (L' := #[.val (.int p0), .val (.long p1), .second, .val (.int p2), .val (.int p3), .val (.int (5 : Int32)), .val (.ref st_E), .val (.int (1 : Int32)), .unset, .unset, .unset, .unset, .unset, .unset]) rfl ?_
    refine own_s_iload Xw5_41.here hx (hb hby at_96) (pc' := 98) rfl rfl ?_
    refine own_s_bipush Xw5_41.here hx (hb hby at_98) (pc' := 100) rfl (v := (7 : Int32)) (by decide) ?_
    refine own_s_iand Xw5_41.here hx (hb hby at_100) (pc' := 101) rfl (v := (4 : Int32)) w5_4_hv100 ?_
    refine own_s_istore Xw5_41.here hx (hb hby at_101) (pc' := 103) rfl (L' := #[.val (.int p0), .val (.long p1), .second, .val (.int p2), .val (.int p3), .val (.int (5 : Int32)), .val (.ref st_E), .val (.int (1 : Int32)), .val (.int (4 : Int32)), .unset, .unset, .unset, .unset, .unset]) rfl ?_
    refine own_s_iload Xw5_41.here hx (hb hby at_103) (pc' := 105) rfl rfl ?_
    refine own_s_iconst Xw5_41.here hx (hb hby at_105) (pc' := 106) rfl (v := (4 : Int32)) (by decide) ?_
    refine own_s_icmpNo Xw5_41.here hx (hb hby at_106) (pc' := 109) rfl (by decide) ?_
    refine Xw5_41.ldc2DoubleC hx hown (mvT hZ (hw _ (List.mem_of_getElem? (i := 19) rfl))) (g := (mkF m 109 #[.val (.int p0), .val (.long p1), .second, .val (.int p2), .val (.int p3), .val (.int (5 : Int32)), .val (.ref st_E), .val (.int (1 : Int32)), .val (.int (4 : Int32)), .unset, .unset, .unset, .unset, .unset] [])) rfl (hb hby at_109) _ ?_
    show Steps p.tables e below (Tw5_41.setTop (mkF m 112 #[.val (.int p0), .val (.long p1), .second, .val (.int p2), .val (.int p3), .val (.int (5 : Int32)), .val (.ref st_E), .val (.int (1 : Int32)), .val (.int (4 : Int32)), .unset, .unset, .unset, .unset, .unset] [(.double (9218868437227405311 : UInt64))])) _
    refine own_s_dstore Xw5_41.here hx (hb hby at_112) (pc' := 114) rfl (L' := #[.val (.int p0), .val (.long p1), .second, .val (.int p2), .val (.int p3), .val (.int (5 : Int32)), .val (.ref st_E), .val (.int (1 : Int32)), .val (.int (4 : Int32)), .val (.double (9218868437227405311 : UInt64)), .second, .unset, .unset, .unset]) rfl ?_
    refine own_s_iload Xw5_41.here hx (hb hby at_114) (pc' := 116) rfl rfl ?_
    refine own_s_istore Xw5_41.here hx (hb hby at_116) (pc' := 118) rfl (L' := #[.val (.int p0), .val (.long p1), .second, .val (.int p2), .val (.int p3), .val (.int (5 : Int32)), .val (.ref st_E), .val (.int (1 : Int32)), .val (.int (4 : Int32)), .val (.double (9218868437227405311 : UInt64)), .second, .val (.int (1 : Int32)), .unset, .unset]) rfl ?_
    refine own_s_goto Xw5_41.here hx (hb hby at_118) (by decide) (pc' := 215) (by decide) ?_
    refine own_s_aload Xw5_41.here hx (hb hby at_215) (pc' := 217) rfl rfl rfl ?_
    refine own_s_dload Xw5_41.here hx (hb hby at_217) (pc' := 219) rfl rfl ?_
    refine stw5_42.trans ?_
    show Steps p.tables e below (Tw5_42.setTop (mkF m 222 #[.val (.int p0), .val (.long p1), .second, .val (.int p2), .val (.int p3), .val (.int (5 : Int32)), .val (.ref st_E), .val (.int (1 : Int32)), .val (.int (4 : Int32)), .val (.double (9218868437227405311 : UInt64)), .second, .val (.int (1 : Int32)), .unset, .unset] [(.int (1 : Int32))])) _
    refine own_s_iload Xw5_42.here hx (hb hby at_222) (pc' := 224) rfl rfl ?_
    refine own_s_icmpNo Xw5_42.here hx (hb hby at_224) (pc' := 227) rfl (by decide) ?_
    refine own_s_iconst Xw5_42.here hx (hb hby at_227) (pc' := 228) rfl (v := (1 : Int32)) (by decide) ?_
    refine own_s_goto Xw5_42.here hx (hb hby at_228) (by decide) (pc' := 232) (by decide) ?_
    exact retN Xw5_42 hx (t := .boolean) Bd.returns (by simp) (hb hby at_232) hr
  · show own_Q0 n0 _ Tw5_42.heap _
    rw [ew5_42]
    exact ⟨rfl, Nw5_42⟩
theorem own_ef_w5_5 (m : MethodId) (p0 : Int32) (p1 : Int64) (p2 : Int32) (p3 : Int32) : entryFrame m #[(.int p0), (.long p1), (.int p2), (.int p3)] maxLocals = mkF m 0 #[.val (.int p0), .val (.long p1), .second, .val (.int p2), .val (.int p3), .unset, .unset, .unset, .unset, .unset, .unset, .unset, .unset, .unset] [] := by first | (simp [entryFrame, mkF, argsToLocals, Value.category, maxLocals]; done) | rfl
set_option maxRecDepth 65536 in
set_option maxHeartbeats 40000000 in
theorem own_rm_w5_5 (l : Launch) (Z : State) (a0 : Array Value) (hw : ∀ d ∈ tables_1, d.before a0 Z = true) (ws : List Jvm.Cond) (p0 : Int32) (p1 : Int64) (p2 : Int32) (p3 : Int32) (st_E : Addr) {w5_5_v3 : Int32} (h0 : Heap) (n0 : Nat) (Z0 : n0 ≤ h0.size) (E_st_E : Exa Z h0 st_E "com/example/libcredal/libcredal/checker/Query$Operator") (F_reward_st_E : Fld Z h0 st_E "com/example/libcredal/libcredal/checker/Query$Operator" "reward" "Z" (.int (1 : Int32))) (S_E : Sta Z h0 "com/example/libcredal/libcredal/checker/Query$Operator" "E" "Lcom/example/libcredal/libcredal/checker/Query$Operator;" (.ref st_E)) (w5_5_hv3 : p0 &&& (2147483647 : Int32) = w5_5_v3) (w5_5_hv6 : w5_5_v3 % (6 : Int32) = (5 : Int32)) (w5_5_hv100 : p3 &&& (7 : Int32) = (5 : Int32)) (w5_5_c219_c1ft_hb3 : ifCond.holds .lt (Op.cmpValue (FP.dcmp (9218868437227405312 : UInt64) 0) .l) = false) (w5_5_c219_c1ft_hb22 : ifCond.holds .gt (Op.cmpValue (FP.dcmp (9218868437227405312 : UInt64) (9218868437227405311 : UInt64)) .g) = true) :
    MetFree l x (head1 (Jvm.Cond.code x code maxLocals ret :: ws) room_1) (fun a U => a = #[(.int p0), (.long p1), (.int p2), (.int p3)] ∧ Z.Warmed39 U.vm ∧ U.heap = h0) (fun _ _ _ _ _ => True) (fun _ U o U' => ∃ v L, o = .returned v ∧ own_Q0 n0 v U'.heap L ∧ FrameEnd U o U' L room_1.cells room_1.slots) := by
  refine MetFree.of_bodySF (plainFor_of_name own_pn_com_example_libcredal_libcredal_checker_OperatorAdmitsPinLaw) hisR ?_
  intro p e s m args below meth c s₁ Bd hml0 hP hK
  obtain ⟨rfl, hZ, hh⟩ := hP
  have hx := Bd.exec
  have hby := Bd.bytes
  have hml : c.maxLocals = 14 := hml0
  have hown : s.vm.findClass "com/example/libcredal/libcredal/checker/OperatorAdmitsPinLaw" = some m.cls := findClass_of_methodNamed Bd.named
  have hnm := (name_of_methodNamed Bd.named Bd.method).1
  have X0 : Stand p l e room_1 s m #[(.int p0), (.long p1), (.int p2), (.int p3)] below meth c s₁ [] 0 0 := Stand.of_body Bd
  have e0 : s₁.heap = h0 := by rw [← hh, Bd.state]; rfl
  have N0 := Fr.nil n0
  have pre0 : ∀ t, Steps p.tables e below (s₁.setTop (mkF m 0 #[.val (.int p0), .val (.long p1), .second, .val (.int p2), .val (.int p3), .unset, .unset, .unset, .unset, .unset, .unset, .unset, .unset, .unset] [])) t → Steps p.tables e below (s₁.setTop (entryFrame m #[(.int p0), (.long p1), (.int p2), (.int p3)] maxLocals)) t := fun t k => castTop (own_ef_w5_5 m p0 p1 p2 p3) k
  obtain ⟨Tw5_51, Xw5_51, ew5_51, stw5_51⟩ := getS2 X0 hx hZ hown (host := "") (Or.inl (hw _ (List.mem_of_getElem? (i := 24) rfl))) Via.refl e0 S_E (g := (mkF m 78 #[.val (.int p0), .val (.long p1), .second, .val (.int p2), .val (.int p3), .val (.int (5 : Int32)), .unset, .unset, .unset, .unset, .unset, .unset, .unset, .unset] [])) rfl (hb hby at_78)
  obtain ⟨cqw5_52, kqw5_52, qw5_52a, qw5_52b, qw5_52c⟩ := isOf hZ ew5_51 E_st_E
  obtain ⟨_, _, ⟨Tw5_52, Lw5_52, kw5_52, nw5_52⟩, -, Xw5_52, ⟨Lcw5_52, hQw5_52, lw5_52, yw5_52, zw5_52⟩, stw5_52⟩ := Xw5_51.virtualBack hx (y := (⟨"com/example/libcredal/libcredal/checker/Query$Operator", "admits", "(D)Z"⟩ : MethodName)) (z := (⟨"com/example/libcredal/libcredal/checker/Query$Operator", "admits", "(D)Z"⟩ : MethodName)) hown (mvT hZ (hw _ (List.mem_of_getElem? (i := 4) rfl))) (mvT hZ (hw _ (List.mem_of_getElem? (i := 5) rfl))) (notFace_of_selects (args := #[]) (mvT hZ (hw _ (List.mem_of_getElem? (i := 7) rfl)))) (mvT hZ (hw _ (List.mem_of_getElem? (i := 7) rfl))) (mvT hZ (hw _ (List.mem_of_getElem? (i := 6) rfl))) (by decide) (backOf (W := 0) (own_rm_c1ft l Z a0 hw [] st_E (9218868437227405312 : UInt64) h0 n0 Z0 E_st_E F_reward_st_E w5_5_c219_c1ft_hb3 w5_5_c219_c1ft_hb22) hZ (hw _ (List.mem_of_getElem? (i := 8) rfl)) (hw _ (List.mem_of_getElem? (i := 2) rfl)) (by decide) (by decide)) qw5_52a qw5_52c (g := (mkF m 219 #[.val (.int p0), .val (.long p1), .second, .val (.int p2), .val (.int p3), .val (.int (5 : Int32)), .val (.ref st_E), .val (.int (1 : Int32)), .val (.int (5 : Int32)), .val (.double (9218868437227405312 : UInt64)), .second, .val (.int (0 : Int32)), .unset, .unset] [(.double (9218868437227405312 : UInt64)), (.ref st_E)])) rfl (by rw [hml]; rfl) (Steps.refl _) (argsL := [(.double (9218868437227405312 : UInt64))]) (rest := []) (lenOf own_pd_28D29Z rfl) rfl (by show 2 * 0 + _ ≤ _; exact Nat.le_of_eq rfl) (hb hby at_219) (fun _ _ => ⟨rfl, ew5_51, (by decide : 0 + 0 ≤ _), (by decide : 0 + 0 ≤ _)⟩)
  dsimp only [Pt.U, Pt.locs, Pt.cells, Pt.slots] at Xw5_52 lw5_52 yw5_52 zw5_52 stw5_52 hQw5_52
  rw [lw5_52, yw5_52, zw5_52] at Xw5_52
  obtain ⟨rfl, Nw5_52q, ew5_52⟩ := hQw5_52
  have Nw5_52 := Fr.app N0 Nw5_52q
  obtain ⟨fs, hr, hrun, hended, hW, hsame⟩ := Xw5_52.leave (v := some (.int (1 : Int32))) (fun h => by rw [Bd.returns] at h; cases h)
  refine ⟨_, _, pre0 _ ?_, hrun, hended, _, _, rfl, ?_, ⟨_, rfl⟩, hW, hsame.mono (by decide) (by decide)⟩
  · refine own_s_iloadN X0.here hx (hb hby at_0) (pc' := 1) rfl rfl ?_
    refine X0.ldcInt hx hown (mvT hZ (hw _ (List.mem_of_getElem? (i := 0) rfl))) (g := (mkF m 1 #[.val (.int p0), .val (.long p1), .second, .val (.int p2), .val (.int p3), .unset, .unset, .unset, .unset, .unset, .unset, .unset, .unset, .unset] [(.int p0)])) rfl (hb hby at_1) _ ?_
    show Steps p.tables e below (s₁.setTop (mkF m 3 #[.val (.int p0), .val (.long p1), .second, .val (.int p2), .val (.int p3), .unset, .unset, .unset, .unset, .unset, .unset, .unset, .unset, .unset] [(.int (2147483647 : Int32)), (.int p0)])) _
    refine own_s_iand X0.here hx (hb hby at_3) (pc' := 4) rfl (v := w5_5_v3) w5_5_hv3 ?_
    refine own_s_bipush X0.here hx (hb hby at_4) (pc' := 6) rfl (v := (6 : Int32)) (by decide) ?_
    refine own_s_irem X0.here hx (hb hby at_6) (pc' := 7) rfl (by decide) (v := (5 : Int32)) w5_5_hv6 ?_
    refine own_s_istore X0.here hx (hb hby at_7) (pc' := 9) rfl (L' := #[.val (.int p0), .val (.long p1), .second, .val (.int p2), .val (.int p3), .val (.int (5 : Int32)), .unset, .unset, .unset, .unset, .unset, .unset, .unset, .unset]) rfl ?_
    refine own_s_iload X0.here hx (hb hby at_9) (pc' := 11) rfl rfl ?_
    refine own_s_ifYes X0.here hx (hb hby at_11) (by decide) (pc' := 22) (by decide) (by decide) ?_
    refine own_s_iload X0.here hx (hb hby at_22) (pc' := 24) rfl rfl ?_
    refine own_s_iconst X0.here hx (hb hby at_24) (pc' := 25) rfl (v := (1 : Int32)) (by decide) ?_
    refine own_s_icmpYes X0.here hx (hb hby at_25) (by decide) (pc' := 36) (by decide) (by decide) ?_
    refine own_s_iload X0.here hx (hb hby at_36) (pc' := 38) rfl rfl ?_
    refine own_s_iconst X0.here hx (hb hby at_38) (pc' := 39) rfl (v := (2 : Int32)) (by decide) ?_
    refine own_s_icmpYes X0.here hx (hb hby at_39) (by decide) (pc' := 50) (by decide) (by decide) ?_
    refine own_s_iload X0.here hx (hb hby at_50) (pc' := 52) rfl rfl ?_
    refine own_s_iconst X0.here hx (hb hby at_52) (pc' := 53) rfl (v := (3 : Int32)) (by decide) ?_
    refine own_s_icmpYes X0.here hx (hb hby at_53) (by decide) (pc' := 64) (by decide) (by decide) ?_
    refine own_s_iload X0.here hx (hb hby at_64) (pc' := 66) rfl rfl ?_
    refine own_s_iconst X0.here hx (hb hby at_66) (pc' := 67) rfl (v := (4 : Int32)) (by decide) ?_
    refine own_s_icmpYes X0.here hx (hb hby at_67) (by decide) (pc' := 78) (by decide) (by decide) ?_
    refine stw5_51 _ ?_
    show Steps p.tables e below (Tw5_51.setTop (mkF m 81 #[.val (.int p0), .val (.long p1), .second, .val (.int p2), .val (.int p3), .val (.int (5 : Int32)), .unset, .unset, .unset, .unset, .unset, .unset, .unset, .unset] [(.ref st_E)])) _
    refine own_s_astore Xw5_51.here hx (hb hby at_81) (pc' := 83) rfl rfl (L' := #[.val (.int p0), .val (.long p1), .second, .val (.int p2), .val (.int p3), .val (.int (5 : Int32)), .val (.ref st_E), .unset, .unset, .unset, .unset, .unset, .unset, .unset]) rfl ?_
    refine own_s_iload Xw5_51.here hx (hb hby at_83) (pc' := 85) rfl rfl ?_
    refine own_s_iconst Xw5_51.here hx (hb hby at_85) (pc' := 86) rfl (v := (3 : Int32)) (by decide) ?_
    refine own_s_icmpNo Xw5_51.here hx (hb hby at_86) (pc' := 89) rfl (by decide) ?_
    refine own_s_iconst Xw5_51.here hx (hb hby at_89) (pc' := 90) rfl (v := (1 : Int32)) (by decide) ?_
    refine own_s_goto Xw5_51.here hx (hb hby at_90) (by decide) (pc' := 94) (by decide) ?_
    refine own_s_istore Xw5_51.here hx (hb hby at_94) (pc' := 96) rfl (L' := #[.val (.int p0), .val (.long p1), .second, .val (.int p2), .val (.int p3), .val (.int (5 : Int32)), .val (.ref st_E), .val (.int (1 : Int32)), .unset, .unset, .unset, .unset, .unset, .unset]) rfl ?_
    refine own_s_iload Xw5_51.here hx (hb hby at_96) (pc' := 98) rfl rfl ?_
    refine own_s_bipush Xw5_51.here hx (hb hby at_98) (pc' := 100) rfl (v := (7 : Int32)) (by decide) ?_
    refine own_s_iand Xw5_51.here hx (hb hby at_100) (pc' := 101) rfl (v := (5 : Int32)) w5_5_hv100 ?_
    refine own_s_istore Xw5_51.here hx (hb hby at_101) (pc' := 103) rfl (L' := #[.val (.int p0), .val (.long p1), .second, .val (.int p2), .val (.int p3), .val (.int (5 : Int32)), .val (.ref st_E), .val (.int (1 : Int32)), .val (.int (5 : Int32)), .unset, .unset, .unset, .unset, .unset]) rfl ?_
    refine own_s_iload Xw5_51.here hx (hb hby at_103) (pc' := 105) rfl rfl ?_
    refine own_s_iconst Xw5_51.here hx (hb hby at_105) (pc' := 106) rfl (v := (4 : Int32)) (by decide) ?_
    refine own_s_icmpYes Xw5_51.here hx (hb hby at_106) (by decide) (pc' := 121) (by decide) (by decide) ?_
    refine own_s_iload Xw5_51.here hx (hb hby at_121) (pc' := 123) rfl rfl ?_
    refine own_s_iconst Xw5_51.here hx (hb hby at_123) (pc' := 124) rfl (v := (5 : Int32)) (by decide) ?_
    refine own_s_icmpNo Xw5_51.here hx (hb hby at_124) (pc' := 127) rfl (by decide) ?_
    refine Xw5_51.ldc2DoubleC hx hown (mvT hZ (hw _ (List.mem_of_getElem? (i := 23) rfl))) (g := (mkF m 127 #[.val (.int p0), .val (.long p1), .second, .val (.int p2), .val (.int p3), .val (.int (5 : Int32)), .val (.ref st_E), .val (.int (1 : Int32)), .val (.int (5 : Int32)), .unset, .unset, .unset, .unset, .unset] [])) rfl (hb hby at_127) _ ?_
    show Steps p.tables e below (Tw5_51.setTop (mkF m 130 #[.val (.int p0), .val (.long p1), .second, .val (.int p2), .val (.int p3), .val (.int (5 : Int32)), .val (.ref st_E), .val (.int (1 : Int32)), .val (.int (5 : Int32)), .unset, .unset, .unset, .unset, .unset] [(.double (9218868437227405312 : UInt64))])) _
    refine own_s_dstore Xw5_51.here hx (hb hby at_130) (pc' := 132) rfl (L' := #[.val (.int p0), .val (.long p1), .second, .val (.int p2), .val (.int p3), .val (.int (5 : Int32)), .val (.ref st_E), .val (.int (1 : Int32)), .val (.int (5 : Int32)), .val (.double (9218868437227405312 : UInt64)), .second, .unset, .unset, .unset]) rfl ?_
    refine own_s_iconst Xw5_51.here hx (hb hby at_132) (pc' := 133) rfl (v := (0 : Int32)) (by decide) ?_
    refine own_s_istore Xw5_51.here hx (hb hby at_133) (pc' := 135) rfl (L' := #[.val (.int p0), .val (.long p1), .second, .val (.int p2), .val (.int p3), .val (.int (5 : Int32)), .val (.ref st_E), .val (.int (1 : Int32)), .val (.int (5 : Int32)), .val (.double (9218868437227405312 : UInt64)), .second, .val (.int (0 : Int32)), .unset, .unset]) rfl ?_
    refine own_s_goto Xw5_51.here hx (hb hby at_135) (by decide) (pc' := 215) (by decide) ?_
    refine own_s_aload Xw5_51.here hx (hb hby at_215) (pc' := 217) rfl rfl rfl ?_
    refine own_s_dload Xw5_51.here hx (hb hby at_217) (pc' := 219) rfl rfl ?_
    refine stw5_52.trans ?_
    show Steps p.tables e below (Tw5_52.setTop (mkF m 222 #[.val (.int p0), .val (.long p1), .second, .val (.int p2), .val (.int p3), .val (.int (5 : Int32)), .val (.ref st_E), .val (.int (1 : Int32)), .val (.int (5 : Int32)), .val (.double (9218868437227405312 : UInt64)), .second, .val (.int (0 : Int32)), .unset, .unset] [(.int (0 : Int32))])) _
    refine own_s_iload Xw5_52.here hx (hb hby at_222) (pc' := 224) rfl rfl ?_
    refine own_s_icmpNo Xw5_52.here hx (hb hby at_224) (pc' := 227) rfl (by decide) ?_
    refine own_s_iconst Xw5_52.here hx (hb hby at_227) (pc' := 228) rfl (v := (1 : Int32)) (by decide) ?_
    refine own_s_goto Xw5_52.here hx (hb hby at_228) (by decide) (pc' := 232) (by decide) ?_
    exact retN Xw5_52 hx (t := .boolean) Bd.returns (by simp) (hb hby at_232) hr
  · show own_Q0 n0 _ Tw5_52.heap _
    rw [ew5_52]
    exact ⟨rfl, Nw5_52⟩
theorem own_ef_w5_6 (m : MethodId) (p0 : Int32) (p1 : Int64) (p2 : Int32) (p3 : Int32) : entryFrame m #[(.int p0), (.long p1), (.int p2), (.int p3)] maxLocals = mkF m 0 #[.val (.int p0), .val (.long p1), .second, .val (.int p2), .val (.int p3), .unset, .unset, .unset, .unset, .unset, .unset, .unset, .unset, .unset] [] := by first | (simp [entryFrame, mkF, argsToLocals, Value.category, maxLocals]; done) | rfl
set_option maxRecDepth 65536 in
set_option maxHeartbeats 40000000 in
theorem own_rm_w5_6 (l : Launch) (Z : State) (a0 : Array Value) (hw : ∀ d ∈ tables_1, d.before a0 Z = true) (ws : List Jvm.Cond) (p0 : Int32) (p1 : Int64) (p2 : Int32) (p3 : Int32) (st_E : Addr) {w5_6_v3 : Int32} (h0 : Heap) (n0 : Nat) (Z0 : n0 ≤ h0.size) (E_st_E : Exa Z h0 st_E "com/example/libcredal/libcredal/checker/Query$Operator") (F_reward_st_E : Fld Z h0 st_E "com/example/libcredal/libcredal/checker/Query$Operator" "reward" "Z" (.int (1 : Int32))) (S_E : Sta Z h0 "com/example/libcredal/libcredal/checker/Query$Operator" "E" "Lcom/example/libcredal/libcredal/checker/Query$Operator;" (.ref st_E)) (w5_6_hv3 : p0 &&& (2147483647 : Int32) = w5_6_v3) (w5_6_hv6 : w5_6_v3 % (6 : Int32) = (5 : Int32)) (w5_6_hv100 : p3 &&& (7 : Int32) = (6 : Int32)) (w5_6_c219_c1t_hb3 : ifCond.holds .lt (Op.cmpValue (FP.dcmp (18442240474082181120 : UInt64) 0) .l) = true) :
    MetFree l x (head1 (Jvm.Cond.code x code maxLocals ret :: ws) room_1) (fun a U => a = #[(.int p0), (.long p1), (.int p2), (.int p3)] ∧ Z.Warmed39 U.vm ∧ U.heap = h0) (fun _ _ _ _ _ => True) (fun _ U o U' => ∃ v L, o = .returned v ∧ own_Q0 n0 v U'.heap L ∧ FrameEnd U o U' L room_1.cells room_1.slots) := by
  refine MetFree.of_bodySF (plainFor_of_name own_pn_com_example_libcredal_libcredal_checker_OperatorAdmitsPinLaw) hisR ?_
  intro p e s m args below meth c s₁ Bd hml0 hP hK
  obtain ⟨rfl, hZ, hh⟩ := hP
  have hx := Bd.exec
  have hby := Bd.bytes
  have hml : c.maxLocals = 14 := hml0
  have hown : s.vm.findClass "com/example/libcredal/libcredal/checker/OperatorAdmitsPinLaw" = some m.cls := findClass_of_methodNamed Bd.named
  have hnm := (name_of_methodNamed Bd.named Bd.method).1
  have X0 : Stand p l e room_1 s m #[(.int p0), (.long p1), (.int p2), (.int p3)] below meth c s₁ [] 0 0 := Stand.of_body Bd
  have e0 : s₁.heap = h0 := by rw [← hh, Bd.state]; rfl
  have N0 := Fr.nil n0
  have pre0 : ∀ t, Steps p.tables e below (s₁.setTop (mkF m 0 #[.val (.int p0), .val (.long p1), .second, .val (.int p2), .val (.int p3), .unset, .unset, .unset, .unset, .unset, .unset, .unset, .unset, .unset] [])) t → Steps p.tables e below (s₁.setTop (entryFrame m #[(.int p0), (.long p1), (.int p2), (.int p3)] maxLocals)) t := fun t k => castTop (own_ef_w5_6 m p0 p1 p2 p3) k
  obtain ⟨Tw5_61, Xw5_61, ew5_61, stw5_61⟩ := getS2 X0 hx hZ hown (host := "") (Or.inl (hw _ (List.mem_of_getElem? (i := 24) rfl))) Via.refl e0 S_E (g := (mkF m 78 #[.val (.int p0), .val (.long p1), .second, .val (.int p2), .val (.int p3), .val (.int (5 : Int32)), .unset, .unset, .unset, .unset, .unset, .unset, .unset, .unset] [])) rfl (hb hby at_78)
  obtain ⟨cqw5_62, kqw5_62, qw5_62a, qw5_62b, qw5_62c⟩ := isOf hZ ew5_61 E_st_E
  obtain ⟨_, _, ⟨Tw5_62, Lw5_62, kw5_62, nw5_62⟩, -, Xw5_62, ⟨Lcw5_62, hQw5_62, lw5_62, yw5_62, zw5_62⟩, stw5_62⟩ := Xw5_61.virtualBack hx (y := (⟨"com/example/libcredal/libcredal/checker/Query$Operator", "admits", "(D)Z"⟩ : MethodName)) (z := (⟨"com/example/libcredal/libcredal/checker/Query$Operator", "admits", "(D)Z"⟩ : MethodName)) hown (mvT hZ (hw _ (List.mem_of_getElem? (i := 4) rfl))) (mvT hZ (hw _ (List.mem_of_getElem? (i := 5) rfl))) (notFace_of_selects (args := #[]) (mvT hZ (hw _ (List.mem_of_getElem? (i := 7) rfl)))) (mvT hZ (hw _ (List.mem_of_getElem? (i := 7) rfl))) (mvT hZ (hw _ (List.mem_of_getElem? (i := 6) rfl))) (by decide) (backOf (W := 0) (own_rm_c1t l Z a0 hw [] st_E (18442240474082181120 : UInt64) h0 n0 Z0 E_st_E F_reward_st_E w5_6_c219_c1t_hb3) hZ (hw _ (List.mem_of_getElem? (i := 8) rfl)) (hw _ (List.mem_of_getElem? (i := 2) rfl)) (by decide) (by decide)) qw5_62a qw5_62c (g := (mkF m 219 #[.val (.int p0), .val (.long p1), .second, .val (.int p2), .val (.int p3), .val (.int (5 : Int32)), .val (.ref st_E), .val (.int (1 : Int32)), .val (.int (6 : Int32)), .val (.double (18442240474082181120 : UInt64)), .second, .val (.int (0 : Int32)), .unset, .unset] [(.double (18442240474082181120 : UInt64)), (.ref st_E)])) rfl (by rw [hml]; rfl) (Steps.refl _) (argsL := [(.double (18442240474082181120 : UInt64))]) (rest := []) (lenOf own_pd_28D29Z rfl) rfl (by show 2 * 0 + _ ≤ _; exact Nat.le_of_eq rfl) (hb hby at_219) (fun _ _ => ⟨rfl, ew5_61, (by decide : 0 + 0 ≤ _), (by decide : 0 + 0 ≤ _)⟩)
  dsimp only [Pt.U, Pt.locs, Pt.cells, Pt.slots] at Xw5_62 lw5_62 yw5_62 zw5_62 stw5_62 hQw5_62
  rw [lw5_62, yw5_62, zw5_62] at Xw5_62
  obtain ⟨rfl, Nw5_62q, ew5_62⟩ := hQw5_62
  have Nw5_62 := Fr.app N0 Nw5_62q
  obtain ⟨fs, hr, hrun, hended, hW, hsame⟩ := Xw5_62.leave (v := some (.int (1 : Int32))) (fun h => by rw [Bd.returns] at h; cases h)
  refine ⟨_, _, pre0 _ ?_, hrun, hended, _, _, rfl, ?_, ⟨_, rfl⟩, hW, hsame.mono (by decide) (by decide)⟩
  · refine own_s_iloadN X0.here hx (hb hby at_0) (pc' := 1) rfl rfl ?_
    refine X0.ldcInt hx hown (mvT hZ (hw _ (List.mem_of_getElem? (i := 0) rfl))) (g := (mkF m 1 #[.val (.int p0), .val (.long p1), .second, .val (.int p2), .val (.int p3), .unset, .unset, .unset, .unset, .unset, .unset, .unset, .unset, .unset] [(.int p0)])) rfl (hb hby at_1) _ ?_
    show Steps p.tables e below (s₁.setTop (mkF m 3 #[.val (.int p0), .val (.long p1), .second, .val (.int p2), .val (.int p3), .unset, .unset, .unset, .unset, .unset, .unset, .unset, .unset, .unset] [(.int (2147483647 : Int32)), (.int p0)])) _
    refine own_s_iand X0.here hx (hb hby at_3) (pc' := 4) rfl (v := w5_6_v3) w5_6_hv3 ?_
    refine own_s_bipush X0.here hx (hb hby at_4) (pc' := 6) rfl (v := (6 : Int32)) (by decide) ?_
    refine own_s_irem X0.here hx (hb hby at_6) (pc' := 7) rfl (by decide) (v := (5 : Int32)) w5_6_hv6 ?_
    refine own_s_istore X0.here hx (hb hby at_7) (pc' := 9) rfl (L' := #[.val (.int p0), .val (.long p1), .second, .val (.int p2), .val (.int p3), .val (.int (5 : Int32)), .unset, .unset, .unset, .unset, .unset, .unset, .unset, .unset]) rfl ?_
    refine own_s_iload X0.here hx (hb hby at_9) (pc' := 11) rfl rfl ?_
    refine own_s_ifYes X0.here hx (hb hby at_11) (by decide) (pc' := 22) (by decide) (by decide) ?_
    refine own_s_iload X0.here hx (hb hby at_22) (pc' := 24) rfl rfl ?_
    refine own_s_iconst X0.here hx (hb hby at_24) (pc' := 25) rfl (v := (1 : Int32)) (by decide) ?_
    refine own_s_icmpYes X0.here hx (hb hby at_25) (by decide) (pc' := 36) (by decide) (by decide) ?_
    refine own_s_iload X0.here hx (hb hby at_36) (pc' := 38) rfl rfl ?_
    refine own_s_iconst X0.here hx (hb hby at_38) (pc' := 39) rfl (v := (2 : Int32)) (by decide) ?_
    refine own_s_icmpYes X0.here hx (hb hby at_39) (by decide) (pc' := 50) (by decide) (by decide) ?_
    refine own_s_iload X0.here hx (hb hby at_50) (pc' := 52) rfl rfl ?_
    refine own_s_iconst X0.here hx (hb hby at_52) (pc' := 53) rfl (v := (3 : Int32)) (by decide) ?_
    refine own_s_icmpYes X0.here hx (hb hby at_53) (by decide) (pc' := 64) (by decide) (by decide) ?_
    refine own_s_iload X0.here hx (hb hby at_64) (pc' := 66) rfl rfl ?_
    refine own_s_iconst X0.here hx (hb hby at_66) (pc' := 67) rfl (v := (4 : Int32)) (by decide) ?_
    refine own_s_icmpYes X0.here hx (hb hby at_67) (by decide) (pc' := 78) (by decide) (by decide) ?_
    refine stw5_61 _ ?_
    show Steps p.tables e below (Tw5_61.setTop (mkF m 81 #[.val (.int p0), .val (.long p1), .second, .val (.int p2), .val (.int p3), .val (.int (5 : Int32)), .unset, .unset, .unset, .unset, .unset, .unset, .unset, .unset] [(.ref st_E)])) _
    refine own_s_astore Xw5_61.here hx (hb hby at_81) (pc' := 83) rfl rfl (L' := #[.val (.int p0), .val (.long p1), .second, .val (.int p2), .val (.int p3), .val (.int (5 : Int32)), .val (.ref st_E), .unset, .unset, .unset, .unset, .unset, .unset, .unset]) rfl ?_
    refine own_s_iload Xw5_61.here hx (hb hby at_83) (pc' := 85) rfl rfl ?_
    refine own_s_iconst Xw5_61.here hx (hb hby at_85) (pc' := 86) rfl (v := (3 : Int32)) (by decide) ?_
    refine own_s_icmpNo Xw5_61.here hx (hb hby at_86) (pc' := 89) rfl (by decide) ?_
    refine own_s_iconst Xw5_61.here hx (hb hby at_89) (pc' := 90) rfl (v := (1 : Int32)) (by decide) ?_
    refine own_s_goto Xw5_61.here hx (hb hby at_90) (by decide) (pc' := 94) (by decide) ?_
    refine own_s_istore Xw5_61.here hx (hb hby at_94) (pc' := 96) rfl (L' := #[.val (.int p0), .val (.long p1), .second, .val (.int p2), .val (.int p3), .val (.int (5 : Int32)), .val (.ref st_E), .val (.int (1 : Int32)), .unset, .unset, .unset, .unset, .unset, .unset]) rfl ?_
    refine own_s_iload Xw5_61.here hx (hb hby at_96) (pc' := 98) rfl rfl ?_
    refine own_s_bipush Xw5_61.here hx (hb hby at_98) (pc' := 100) rfl (v := (7 : Int32)) (by decide) ?_
    refine own_s_iand Xw5_61.here hx (hb hby at_100) (pc' := 101) rfl (v := (6 : Int32)) w5_6_hv100 ?_
    refine own_s_istore Xw5_61.here hx (hb hby at_101) (pc' := 103) rfl (L' := #[.val (.int p0), .val (.long p1), .second, .val (.int p2), .val (.int p3), .val (.int (5 : Int32)), .val (.ref st_E), .val (.int (1 : Int32)), .val (.int (6 : Int32)), .unset, .unset, .unset, .unset, .unset]) rfl ?_
    refine own_s_iload Xw5_61.here hx (hb hby at_103) (pc' := 105) rfl rfl ?_
    refine own_s_iconst Xw5_61.here hx (hb hby at_105) (pc' := 106) rfl (v := (4 : Int32)) (by decide) ?_
    refine own_s_icmpYes Xw5_61.here hx (hb hby at_106) (by decide) (pc' := 121) (by decide) (by decide) ?_
    refine own_s_iload Xw5_61.here hx (hb hby at_121) (pc' := 123) rfl rfl ?_
    refine own_s_iconst Xw5_61.here hx (hb hby at_123) (pc' := 124) rfl (v := (5 : Int32)) (by decide) ?_
    refine own_s_icmpYes Xw5_61.here hx (hb hby at_124) (by decide) (pc' := 138) (by decide) (by decide) ?_
    refine own_s_iload Xw5_61.here hx (hb hby at_138) (pc' := 140) rfl rfl ?_
    refine own_s_bipush Xw5_61.here hx (hb hby at_140) (pc' := 142) rfl (v := (6 : Int32)) (by decide) ?_
    refine own_s_icmpNo Xw5_61.here hx (hb hby at_142) (pc' := 145) rfl (by decide) ?_
    refine Xw5_61.ldc2DoubleC hx hown (mvT hZ (hw _ (List.mem_of_getElem? (i := 20) rfl))) (g := (mkF m 145 #[.val (.int p0), .val (.long p1), .second, .val (.int p2), .val (.int p3), .val (.int (5 : Int32)), .val (.ref st_E), .val (.int (1 : Int32)), .val (.int (6 : Int32)), .unset, .unset, .unset, .unset, .unset] [])) rfl (hb hby at_145) _ ?_
    show Steps p.tables e below (Tw5_61.setTop (mkF m 148 #[.val (.int p0), .val (.long p1), .second, .val (.int p2), .val (.int p3), .val (.int (5 : Int32)), .val (.ref st_E), .val (.int (1 : Int32)), .val (.int (6 : Int32)), .unset, .unset, .unset, .unset, .unset] [(.double (18442240474082181120 : UInt64))])) _
    refine own_s_dstore Xw5_61.here hx (hb hby at_148) (pc' := 150) rfl (L' := #[.val (.int p0), .val (.long p1), .second, .val (.int p2), .val (.int p3), .val (.int (5 : Int32)), .val (.ref st_E), .val (.int (1 : Int32)), .val (.int (6 : Int32)), .val (.double (18442240474082181120 : UInt64)), .second, .unset, .unset, .unset]) rfl ?_
    refine own_s_iconst Xw5_61.here hx (hb hby at_150) (pc' := 151) rfl (v := (0 : Int32)) (by decide) ?_
    refine own_s_istore Xw5_61.here hx (hb hby at_151) (pc' := 153) rfl (L' := #[.val (.int p0), .val (.long p1), .second, .val (.int p2), .val (.int p3), .val (.int (5 : Int32)), .val (.ref st_E), .val (.int (1 : Int32)), .val (.int (6 : Int32)), .val (.double (18442240474082181120 : UInt64)), .second, .val (.int (0 : Int32)), .unset, .unset]) rfl ?_
    refine own_s_goto Xw5_61.here hx (hb hby at_153) (by decide) (pc' := 215) (by decide) ?_
    refine own_s_aload Xw5_61.here hx (hb hby at_215) (pc' := 217) rfl rfl rfl ?_
    refine own_s_dload Xw5_61.here hx (hb hby at_217) (pc' := 219) rfl rfl ?_
    refine stw5_62.trans ?_
    show Steps p.tables e below (Tw5_62.setTop (mkF m 222 #[.val (.int p0), .val (.long p1), .second, .val (.int p2), .val (.int p3), .val (.int (5 : Int32)), .val (.ref st_E), .val (.int (1 : Int32)), .val (.int (6 : Int32)), .val (.double (18442240474082181120 : UInt64)), .second, .val (.int (0 : Int32)), .unset, .unset] [(.int (0 : Int32))])) _
    refine own_s_iload Xw5_62.here hx (hb hby at_222) (pc' := 224) rfl rfl ?_
    refine own_s_icmpNo Xw5_62.here hx (hb hby at_224) (pc' := 227) rfl (by decide) ?_
    refine own_s_iconst Xw5_62.here hx (hb hby at_227) (pc' := 228) rfl (v := (1 : Int32)) (by decide) ?_
    refine own_s_goto Xw5_62.here hx (hb hby at_228) (by decide) (pc' := 232) (by decide) ?_
    exact retN Xw5_62 hx (t := .boolean) Bd.returns (by simp) (hb hby at_232) hr
  · show own_Q0 n0 _ Tw5_62.heap _
    rw [ew5_62]
    exact ⟨rfl, Nw5_62⟩
theorem own_ef_w5_7 (m : MethodId) (p0 : Int32) (p1 : Int64) (p2 : Int32) (p3 : Int32) : entryFrame m #[(.int p0), (.long p1), (.int p2), (.int p3)] maxLocals = mkF m 0 #[.val (.int p0), .val (.long p1), .second, .val (.int p2), .val (.int p3), .unset, .unset, .unset, .unset, .unset, .unset, .unset, .unset, .unset] [] := by first | (simp [entryFrame, mkF, argsToLocals, Value.category, maxLocals]; done) | rfl
set_option maxRecDepth 65536 in
set_option maxHeartbeats 40000000 in
theorem own_rm_w5_7 (l : Launch) (Z : State) (a0 : Array Value) (hw : ∀ d ∈ tables_1, d.before a0 Z = true) (ws : List Jvm.Cond) (p0 : Int32) (p1 : Int64) (p2 : Int32) (p3 : Int32) (st_E : Addr) {w5_7_v3 : Int32} (h0 : Heap) (n0 : Nat) (Z0 : n0 ≤ h0.size) (E_st_E : Exa Z h0 st_E "com/example/libcredal/libcredal/checker/Query$Operator") (F_reward_st_E : Fld Z h0 st_E "com/example/libcredal/libcredal/checker/Query$Operator" "reward" "Z" (.int (1 : Int32))) (S_E : Sta Z h0 "com/example/libcredal/libcredal/checker/Query$Operator" "E" "Lcom/example/libcredal/libcredal/checker/Query$Operator;" (.ref st_E)) (w5_7_hv3 : p0 &&& (2147483647 : Int32) = w5_7_v3) (w5_7_hv6 : w5_7_v3 % (6 : Int32) = (5 : Int32)) (w5_7_hv100 : p3 &&& (7 : Int32) = (7 : Int32)) (w5_7_c219_c1ff_hb3 : ifCond.holds .lt (Op.cmpValue (FP.dcmp (9223372036854775808 : UInt64) 0) .l) = false) (w5_7_c219_c1ff_hb22 : ifCond.holds .gt (Op.cmpValue (FP.dcmp (9223372036854775808 : UInt64) (9218868437227405311 : UInt64)) .g) = false) :
    MetFree l x (head1 (Jvm.Cond.code x code maxLocals ret :: ws) room_1) (fun a U => a = #[(.int p0), (.long p1), (.int p2), (.int p3)] ∧ Z.Warmed39 U.vm ∧ U.heap = h0) (fun _ _ _ _ _ => True) (fun _ U o U' => ∃ v L, o = .returned v ∧ own_Q0 n0 v U'.heap L ∧ FrameEnd U o U' L room_1.cells room_1.slots) := by
  refine MetFree.of_bodySF (plainFor_of_name own_pn_com_example_libcredal_libcredal_checker_OperatorAdmitsPinLaw) hisR ?_
  intro p e s m args below meth c s₁ Bd hml0 hP hK
  obtain ⟨rfl, hZ, hh⟩ := hP
  have hx := Bd.exec
  have hby := Bd.bytes
  have hml : c.maxLocals = 14 := hml0
  have hown : s.vm.findClass "com/example/libcredal/libcredal/checker/OperatorAdmitsPinLaw" = some m.cls := findClass_of_methodNamed Bd.named
  have hnm := (name_of_methodNamed Bd.named Bd.method).1
  have X0 : Stand p l e room_1 s m #[(.int p0), (.long p1), (.int p2), (.int p3)] below meth c s₁ [] 0 0 := Stand.of_body Bd
  have e0 : s₁.heap = h0 := by rw [← hh, Bd.state]; rfl
  have N0 := Fr.nil n0
  have pre0 : ∀ t, Steps p.tables e below (s₁.setTop (mkF m 0 #[.val (.int p0), .val (.long p1), .second, .val (.int p2), .val (.int p3), .unset, .unset, .unset, .unset, .unset, .unset, .unset, .unset, .unset] [])) t → Steps p.tables e below (s₁.setTop (entryFrame m #[(.int p0), (.long p1), (.int p2), (.int p3)] maxLocals)) t := fun t k => castTop (own_ef_w5_7 m p0 p1 p2 p3) k
  obtain ⟨Tw5_71, Xw5_71, ew5_71, stw5_71⟩ := getS2 X0 hx hZ hown (host := "") (Or.inl (hw _ (List.mem_of_getElem? (i := 24) rfl))) Via.refl e0 S_E (g := (mkF m 78 #[.val (.int p0), .val (.long p1), .second, .val (.int p2), .val (.int p3), .val (.int (5 : Int32)), .unset, .unset, .unset, .unset, .unset, .unset, .unset, .unset] [])) rfl (hb hby at_78)
  obtain ⟨cqw5_72, kqw5_72, qw5_72a, qw5_72b, qw5_72c⟩ := isOf hZ ew5_71 E_st_E
  obtain ⟨_, _, ⟨Tw5_72, Lw5_72, kw5_72, nw5_72⟩, -, Xw5_72, ⟨Lcw5_72, hQw5_72, lw5_72, yw5_72, zw5_72⟩, stw5_72⟩ := Xw5_71.virtualBack hx (y := (⟨"com/example/libcredal/libcredal/checker/Query$Operator", "admits", "(D)Z"⟩ : MethodName)) (z := (⟨"com/example/libcredal/libcredal/checker/Query$Operator", "admits", "(D)Z"⟩ : MethodName)) hown (mvT hZ (hw _ (List.mem_of_getElem? (i := 4) rfl))) (mvT hZ (hw _ (List.mem_of_getElem? (i := 5) rfl))) (notFace_of_selects (args := #[]) (mvT hZ (hw _ (List.mem_of_getElem? (i := 7) rfl)))) (mvT hZ (hw _ (List.mem_of_getElem? (i := 7) rfl))) (mvT hZ (hw _ (List.mem_of_getElem? (i := 6) rfl))) (by decide) (backOf (W := 0) (own_rm_c1ff l Z a0 hw [] st_E (9223372036854775808 : UInt64) h0 n0 Z0 E_st_E F_reward_st_E w5_7_c219_c1ff_hb3 w5_7_c219_c1ff_hb22) hZ (hw _ (List.mem_of_getElem? (i := 8) rfl)) (hw _ (List.mem_of_getElem? (i := 2) rfl)) (by decide) (by decide)) qw5_72a qw5_72c (g := (mkF m 219 #[.val (.int p0), .val (.long p1), .second, .val (.int p2), .val (.int p3), .val (.int (5 : Int32)), .val (.ref st_E), .val (.int (1 : Int32)), .val (.int (7 : Int32)), .val (.double (9223372036854775808 : UInt64)), .second, .val (.int (1 : Int32)), .unset, .unset] [(.double (9223372036854775808 : UInt64)), (.ref st_E)])) rfl (by rw [hml]; rfl) (Steps.refl _) (argsL := [(.double (9223372036854775808 : UInt64))]) (rest := []) (lenOf own_pd_28D29Z rfl) rfl (by show 2 * 0 + _ ≤ _; exact Nat.le_of_eq rfl) (hb hby at_219) (fun _ _ => ⟨rfl, ew5_71, (by decide : 0 + 0 ≤ _), (by decide : 0 + 0 ≤ _)⟩)
  dsimp only [Pt.U, Pt.locs, Pt.cells, Pt.slots] at Xw5_72 lw5_72 yw5_72 zw5_72 stw5_72 hQw5_72
  rw [lw5_72, yw5_72, zw5_72] at Xw5_72
  obtain ⟨rfl, Nw5_72q, ew5_72⟩ := hQw5_72
  have Nw5_72 := Fr.app N0 Nw5_72q
  obtain ⟨fs, hr, hrun, hended, hW, hsame⟩ := Xw5_72.leave (v := some (.int (1 : Int32))) (fun h => by rw [Bd.returns] at h; cases h)
  refine ⟨_, _, pre0 _ ?_, hrun, hended, _, _, rfl, ?_, ⟨_, rfl⟩, hW, hsame.mono (by decide) (by decide)⟩
  · refine own_s_iloadN X0.here hx (hb hby at_0) (pc' := 1) rfl rfl ?_
    refine X0.ldcInt hx hown (mvT hZ (hw _ (List.mem_of_getElem? (i := 0) rfl))) (g := (mkF m 1 #[.val (.int p0), .val (.long p1), .second, .val (.int p2), .val (.int p3), .unset, .unset, .unset, .unset, .unset, .unset, .unset, .unset, .unset] [(.int p0)])) rfl (hb hby at_1) _ ?_
    show Steps p.tables e below (s₁.setTop (mkF m 3 #[.val (.int p0), .val (.long p1), .second, .val (.int p2), .val (.int p3), .unset, .unset, .unset, .unset, .unset, .unset, .unset, .unset, .unset] [(.int (2147483647 : Int32)), (.int p0)])) _
    refine own_s_iand X0.here hx (hb hby at_3) (pc' := 4) rfl (v := w5_7_v3) w5_7_hv3 ?_
    refine own_s_bipush X0.here hx (hb hby at_4) (pc' := 6) rfl (v := (6 : Int32)) (by decide) ?_
    refine own_s_irem X0.here hx (hb hby at_6) (pc' := 7) rfl (by decide) (v := (5 : Int32)) w5_7_hv6 ?_
    refine own_s_istore X0.here hx (hb hby at_7) (pc' := 9) rfl (L' := #[.val (.int p0), .val (.long p1), .second, .val (.int p2), .val (.int p3), .val (.int (5 : Int32)), .unset, .unset, .unset, .unset, .unset, .unset, .unset, .unset]) rfl ?_
    refine own_s_iload X0.here hx (hb hby at_9) (pc' := 11) rfl rfl ?_
    refine own_s_ifYes X0.here hx (hb hby at_11) (by decide) (pc' := 22) (by decide) (by decide) ?_
    refine own_s_iload X0.here hx (hb hby at_22) (pc' := 24) rfl rfl ?_
    refine own_s_iconst X0.here hx (hb hby at_24) (pc' := 25) rfl (v := (1 : Int32)) (by decide) ?_
    refine own_s_icmpYes X0.here hx (hb hby at_25) (by decide) (pc' := 36) (by decide) (by decide) ?_
    refine own_s_iload X0.here hx (hb hby at_36) (pc' := 38) rfl rfl ?_
    refine own_s_iconst X0.here hx (hb hby at_38) (pc' := 39) rfl (v := (2 : Int32)) (by decide) ?_
    refine own_s_icmpYes X0.here hx (hb hby at_39) (by decide) (pc' := 50) (by decide) (by decide) ?_
    refine own_s_iload X0.here hx (hb hby at_50) (pc' := 52) rfl rfl ?_
    refine own_s_iconst X0.here hx (hb hby at_52) (pc' := 53) rfl (v := (3 : Int32)) (by decide) ?_
    refine own_s_icmpYes X0.here hx (hb hby at_53) (by decide) (pc' := 64) (by decide) (by decide) ?_
    refine own_s_iload X0.here hx (hb hby at_64) (pc' := 66) rfl rfl ?_
    refine own_s_iconst X0.here hx (hb hby at_66) (pc' := 67) rfl (v := (4 : Int32)) (by decide) ?_
    refine own_s_icmpYes X0.here hx (hb hby at_67) (by decide) (pc' := 78) (by decide) (by decide) ?_
    refine stw5_71 _ ?_
    show Steps p.tables e below (Tw5_71.setTop (mkF m 81 #[.val (.int p0), .val (.long p1), .second, .val (.int p2), .val (.int p3), .val (.int (5 : Int32)), .unset, .unset, .unset, .unset, .unset, .unset, .unset, .unset] [(.ref st_E)])) _
    refine own_s_astore Xw5_71.here hx (hb hby at_81) (pc' := 83) rfl rfl (L' := #[.val (.int p0), .val (.long p1), .second, .val (.int p2), .val (.int p3), .val (.int (5 : Int32)), .val (.ref st_E), .unset, .unset, .unset, .unset, .unset, .unset, .unset]) rfl ?_
    refine own_s_iload Xw5_71.here hx (hb hby at_83) (pc' := 85) rfl rfl ?_
    refine own_s_iconst Xw5_71.here hx (hb hby at_85) (pc' := 86) rfl (v := (3 : Int32)) (by decide) ?_
    refine own_s_icmpNo Xw5_71.here hx (hb hby at_86) (pc' := 89) rfl (by decide) ?_
    refine own_s_iconst Xw5_71.here hx (hb hby at_89) (pc' := 90) rfl (v := (1 : Int32)) (by decide) ?_
    refine own_s_goto Xw5_71.here hx (hb hby at_90) (by decide) (pc' := 94) (by decide) ?_
    refine own_s_istore Xw5_71.here hx (hb hby at_94) (pc' := 96) rfl (L' := #[.val (.int p0), .val (.long p1), .second, .val (.int p2), .val (.int p3), .val (.int (5 : Int32)), .val (.ref st_E), .val (.int (1 : Int32)), .unset, .unset, .unset, .unset, .unset, .unset]) rfl ?_
    refine own_s_iload Xw5_71.here hx (hb hby at_96) (pc' := 98) rfl rfl ?_
    refine own_s_bipush Xw5_71.here hx (hb hby at_98) (pc' := 100) rfl (v := (7 : Int32)) (by decide) ?_
    refine own_s_iand Xw5_71.here hx (hb hby at_100) (pc' := 101) rfl (v := (7 : Int32)) w5_7_hv100 ?_
    refine own_s_istore Xw5_71.here hx (hb hby at_101) (pc' := 103) rfl (L' := #[.val (.int p0), .val (.long p1), .second, .val (.int p2), .val (.int p3), .val (.int (5 : Int32)), .val (.ref st_E), .val (.int (1 : Int32)), .val (.int (7 : Int32)), .unset, .unset, .unset, .unset, .unset]) rfl ?_
    refine own_s_iload Xw5_71.here hx (hb hby at_103) (pc' := 105) rfl rfl ?_
    refine own_s_iconst Xw5_71.here hx (hb hby at_105) (pc' := 106) rfl (v := (4 : Int32)) (by decide) ?_
    refine own_s_icmpYes Xw5_71.here hx (hb hby at_106) (by decide) (pc' := 121) (by decide) (by decide) ?_
    refine own_s_iload Xw5_71.here hx (hb hby at_121) (pc' := 123) rfl rfl ?_
    refine own_s_iconst Xw5_71.here hx (hb hby at_123) (pc' := 124) rfl (v := (5 : Int32)) (by decide) ?_
    refine own_s_icmpYes Xw5_71.here hx (hb hby at_124) (by decide) (pc' := 138) (by decide) (by decide) ?_
    refine own_s_iload Xw5_71.here hx (hb hby at_138) (pc' := 140) rfl rfl ?_
    refine own_s_bipush Xw5_71.here hx (hb hby at_140) (pc' := 142) rfl (v := (6 : Int32)) (by decide) ?_
    refine own_s_icmpYes Xw5_71.here hx (hb hby at_142) (by decide) (pc' := 156) (by decide) (by decide) ?_
    refine own_s_iload Xw5_71.here hx (hb hby at_156) (pc' := 158) rfl rfl ?_
    refine own_s_bipush Xw5_71.here hx (hb hby at_158) (pc' := 160) rfl (v := (7 : Int32)) (by decide) ?_
    refine own_s_icmpNo Xw5_71.here hx (hb hby at_160) (pc' := 163) rfl (by decide) ?_
    refine Xw5_71.ldc2DoubleC hx hown (mvT hZ (hw _ (List.mem_of_getElem? (i := 13) rfl))) (g := (mkF m 163 #[.val (.int p0), .val (.long p1), .second, .val (.int p2), .val (.int p3), .val (.int (5 : Int32)), .val (.ref st_E), .val (.int (1 : Int32)), .val (.int (7 : Int32)), .unset, .unset, .unset, .unset, .unset] [])) rfl (hb hby at_163) _ ?_
    show Steps p.tables e below (Tw5_71.setTop (mkF m 166 #[.val (.int p0), .val (.long p1), .second, .val (.int p2), .val (.int p3), .val (.int (5 : Int32)), .val (.ref st_E), .val (.int (1 : Int32)), .val (.int (7 : Int32)), .unset, .unset, .unset, .unset, .unset] [(.double (9223372036854775808 : UInt64))])) _
    refine own_s_dstore Xw5_71.here hx (hb hby at_166) (pc' := 168) rfl (L' := #[.val (.int p0), .val (.long p1), .second, .val (.int p2), .val (.int p3), .val (.int (5 : Int32)), .val (.ref st_E), .val (.int (1 : Int32)), .val (.int (7 : Int32)), .val (.double (9223372036854775808 : UInt64)), .second, .unset, .unset, .unset]) rfl ?_
    refine own_s_iconst Xw5_71.here hx (hb hby at_168) (pc' := 169) rfl (v := (1 : Int32)) (by decide) ?_
    refine own_s_istore Xw5_71.here hx (hb hby at_169) (pc' := 171) rfl (L' := #[.val (.int p0), .val (.long p1), .second, .val (.int p2), .val (.int p3), .val (.int (5 : Int32)), .val (.ref st_E), .val (.int (1 : Int32)), .val (.int (7 : Int32)), .val (.double (9223372036854775808 : UInt64)), .second, .val (.int (1 : Int32)), .unset, .unset]) rfl ?_
    refine own_s_goto Xw5_71.here hx (hb hby at_171) (by decide) (pc' := 215) (by decide) ?_
    refine own_s_aload Xw5_71.here hx (hb hby at_215) (pc' := 217) rfl rfl rfl ?_
    refine own_s_dload Xw5_71.here hx (hb hby at_217) (pc' := 219) rfl rfl ?_
    refine stw5_72.trans ?_
    show Steps p.tables e below (Tw5_72.setTop (mkF m 222 #[.val (.int p0), .val (.long p1), .second, .val (.int p2), .val (.int p3), .val (.int (5 : Int32)), .val (.ref st_E), .val (.int (1 : Int32)), .val (.int (7 : Int32)), .val (.double (9223372036854775808 : UInt64)), .second, .val (.int (1 : Int32)), .unset, .unset] [(.int (1 : Int32))])) _
    refine own_s_iload Xw5_72.here hx (hb hby at_222) (pc' := 224) rfl rfl ?_
    refine own_s_icmpNo Xw5_72.here hx (hb hby at_224) (pc' := 227) rfl (by decide) ?_
    refine own_s_iconst Xw5_72.here hx (hb hby at_227) (pc' := 228) rfl (v := (1 : Int32)) (by decide) ?_
    refine own_s_goto Xw5_72.here hx (hb hby at_228) (by decide) (pc' := 232) (by decide) ?_
    exact retN Xw5_72 hx (t := .boolean) Bd.returns (by simp) (hb hby at_232) hr
  · show own_Q0 n0 _ Tw5_72.heap _
    rw [ew5_72]
    exact ⟨rfl, Nw5_72⟩
theorem own_ef_w5_n (m : MethodId) (p0 : Int32) (p1 : Int64) (p2 : Int32) (p3 : Int32) : entryFrame m #[(.int p0), (.long p1), (.int p2), (.int p3)] maxLocals = mkF m 0 #[.val (.int p0), .val (.long p1), .second, .val (.int p2), .val (.int p3), .unset, .unset, .unset, .unset, .unset, .unset, .unset, .unset, .unset] [] := by first | (simp [entryFrame, mkF, argsToLocals, Value.category, maxLocals]; done) | rfl
set_option maxRecDepth 65536 in
set_option maxHeartbeats 40000000 in
theorem own_rm_w5_n (l : Launch) (Z : State) (a0 : Array Value) (hw : ∀ d ∈ tables_1, d.before a0 Z = true) (ws : List Jvm.Cond) (p0 : Int32) (p1 : Int64) (p2 : Int32) (p3 : Int32) (st_E : Addr) {w5_n_v3 : Int32} {w5_n_v100 : Int32} {w5_n_v178 : Int32} {w5_n_v179 : Int64} {w5_n_v187 : UInt64} (h0 : Heap) (n0 : Nat) (Z0 : n0 ≤ h0.size) (E_st_E : Exa Z h0 st_E "com/example/libcredal/libcredal/checker/Query$Operator") (F_reward_st_E : Fld Z h0 st_E "com/example/libcredal/libcredal/checker/Query$Operator" "reward" "Z" (.int (1 : Int32))) (S_E : Sta Z h0 "com/example/libcredal/libcredal/checker/Query$Operator" "E" "Lcom/example/libcredal/libcredal/checker/Query$Operator;" (.ref st_E)) (w5_n_hv3 : p0 &&& (2147483647 : Int32) = w5_n_v3) (w5_n_hv6 : w5_n_v3 % (6 : Int32) = (5 : Int32)) (w5_n_hv100 : p3 &&& (7 : Int32) = w5_n_v100) (w5_n_hb106 : if_icmp.holds .ne w5_n_v100 (4 : Int32) = true) (w5_n_hb124 : if_icmp.holds .ne w5_n_v100 (5 : Int32) = true) (w5_n_hb142 : if_icmp.holds .ne w5_n_v100 (6 : Int32) = true) (w5_n_hb160 : if_icmp.holds .ne w5_n_v100 (7 : Int32) = true) (w5_n_hv178 : p2 &&& (31 : Int32) = w5_n_v178) (w5_n_hv179 : (1 : Int64) <<< (w5_n_v178 &&& 63).toInt64 = w5_n_v179) (w5_n_hn187 : Jvm.Free.Fl.NoNaN64 (FP.ddiv (FP.l2d p1) (FP.l2d w5_n_v179))) (w5_n_hv187 : FP.ddiv (FP.l2d p1) (FP.l2d w5_n_v179) = w5_n_v187) (w5_n_hb193 : ifCond.holds .lt (lcmpW p1 (0 : Int64)) = true) (w5_n_c219_c1t_hb3 : ifCond.holds .lt (Op.cmpValue (FP.dcmp w5_n_v187 0) .l) = true) :
    MetFree l x (head1 (Jvm.Cond.code x code maxLocals ret :: ws) room_1) (fun a U => a = #[(.int p0), (.long p1), (.int p2), (.int p3)] ∧ Z.Warmed39 U.vm ∧ U.heap = h0) (fun _ _ _ _ _ => True) (fun _ U o U' => ∃ v L, o = .returned v ∧ own_Q0 n0 v U'.heap L ∧ FrameEnd U o U' L room_1.cells room_1.slots) := by
  refine MetFree.of_bodySF (plainFor_of_name own_pn_com_example_libcredal_libcredal_checker_OperatorAdmitsPinLaw) hisR ?_
  intro p e s m args below meth c s₁ Bd hml0 hP hK
  obtain ⟨rfl, hZ, hh⟩ := hP
  have hx := Bd.exec
  have hby := Bd.bytes
  have hml : c.maxLocals = 14 := hml0
  have hown : s.vm.findClass "com/example/libcredal/libcredal/checker/OperatorAdmitsPinLaw" = some m.cls := findClass_of_methodNamed Bd.named
  have hnm := (name_of_methodNamed Bd.named Bd.method).1
  have X0 : Stand p l e room_1 s m #[(.int p0), (.long p1), (.int p2), (.int p3)] below meth c s₁ [] 0 0 := Stand.of_body Bd
  have e0 : s₁.heap = h0 := by rw [← hh, Bd.state]; rfl
  have N0 := Fr.nil n0
  have pre0 : ∀ t, Steps p.tables e below (s₁.setTop (mkF m 0 #[.val (.int p0), .val (.long p1), .second, .val (.int p2), .val (.int p3), .unset, .unset, .unset, .unset, .unset, .unset, .unset, .unset, .unset] [])) t → Steps p.tables e below (s₁.setTop (entryFrame m #[(.int p0), (.long p1), (.int p2), (.int p3)] maxLocals)) t := fun t k => castTop (own_ef_w5_n m p0 p1 p2 p3) k
  obtain ⟨Tw5_n1, Xw5_n1, ew5_n1, stw5_n1⟩ := getS2 X0 hx hZ hown (host := "") (Or.inl (hw _ (List.mem_of_getElem? (i := 24) rfl))) Via.refl e0 S_E (g := (mkF m 78 #[.val (.int p0), .val (.long p1), .second, .val (.int p2), .val (.int p3), .val (.int (5 : Int32)), .unset, .unset, .unset, .unset, .unset, .unset, .unset, .unset] [])) rfl (hb hby at_78)
  obtain ⟨cqw5_n2, kqw5_n2, qw5_n2a, qw5_n2b, qw5_n2c⟩ := isOf hZ ew5_n1 E_st_E
  obtain ⟨_, _, ⟨Tw5_n2, Lw5_n2, kw5_n2, nw5_n2⟩, -, Xw5_n2, ⟨Lcw5_n2, hQw5_n2, lw5_n2, yw5_n2, zw5_n2⟩, stw5_n2⟩ := Xw5_n1.virtualBack hx (y := (⟨"com/example/libcredal/libcredal/checker/Query$Operator", "admits", "(D)Z"⟩ : MethodName)) (z := (⟨"com/example/libcredal/libcredal/checker/Query$Operator", "admits", "(D)Z"⟩ : MethodName)) hown (mvT hZ (hw _ (List.mem_of_getElem? (i := 4) rfl))) (mvT hZ (hw _ (List.mem_of_getElem? (i := 5) rfl))) (notFace_of_selects (args := #[]) (mvT hZ (hw _ (List.mem_of_getElem? (i := 7) rfl)))) (mvT hZ (hw _ (List.mem_of_getElem? (i := 7) rfl))) (mvT hZ (hw _ (List.mem_of_getElem? (i := 6) rfl))) (by decide) (backOf (W := 0) (own_rm_c1t l Z a0 hw [] st_E w5_n_v187 h0 n0 Z0 E_st_E F_reward_st_E w5_n_c219_c1t_hb3) hZ (hw _ (List.mem_of_getElem? (i := 8) rfl)) (hw _ (List.mem_of_getElem? (i := 2) rfl)) (by decide) (by decide)) qw5_n2a qw5_n2c (g := (mkF m 219 #[.val (.int p0), .val (.long p1), .second, .val (.int p2), .val (.int p3), .val (.int (5 : Int32)), .val (.ref st_E), .val (.int (1 : Int32)), .val (.int w5_n_v100), .val (.double w5_n_v187), .second, .val (.int (0 : Int32)), .val (.long w5_n_v179), .second] [(.double w5_n_v187), (.ref st_E)])) rfl (by rw [hml]; rfl) (Steps.refl _) (argsL := [(.double w5_n_v187)]) (rest := []) (lenOf own_pd_28D29Z rfl) rfl (by show 2 * 0 + _ ≤ _; exact Nat.le_of_eq rfl) (hb hby at_219) (fun _ _ => ⟨rfl, ew5_n1, (by decide : 0 + 0 ≤ _), (by decide : 0 + 0 ≤ _)⟩)
  dsimp only [Pt.U, Pt.locs, Pt.cells, Pt.slots] at Xw5_n2 lw5_n2 yw5_n2 zw5_n2 stw5_n2 hQw5_n2
  rw [lw5_n2, yw5_n2, zw5_n2] at Xw5_n2
  obtain ⟨rfl, Nw5_n2q, ew5_n2⟩ := hQw5_n2
  have Nw5_n2 := Fr.app N0 Nw5_n2q
  obtain ⟨fs, hr, hrun, hended, hW, hsame⟩ := Xw5_n2.leave (v := some (.int (1 : Int32))) (fun h => by rw [Bd.returns] at h; cases h)
  refine ⟨_, _, pre0 _ ?_, hrun, hended, _, _, rfl, ?_, ⟨_, rfl⟩, hW, hsame.mono (by decide) (by decide)⟩
  · refine own_s_iloadN X0.here hx (hb hby at_0) (pc' := 1) rfl rfl ?_
    refine X0.ldcInt hx hown (mvT hZ (hw _ (List.mem_of_getElem? (i := 0) rfl))) (g := (mkF m 1 #[.val (.int p0), .val (.long p1), .second, .val (.int p2), .val (.int p3), .unset, .unset, .unset, .unset, .unset, .unset, .unset, .unset, .unset] [(.int p0)])) rfl (hb hby at_1) _ ?_
    show Steps p.tables e below (s₁.setTop (mkF m 3 #[.val (.int p0), .val (.long p1), .second, .val (.int p2), .val (.int p3), .unset, .unset, .unset, .unset, .unset, .unset, .unset, .unset, .unset] [(.int (2147483647 : Int32)), (.int p0)])) _
    refine own_s_iand X0.here hx (hb hby at_3) (pc' := 4) rfl (v := w5_n_v3) w5_n_hv3 ?_
    refine own_s_bipush X0.here hx (hb hby at_4) (pc' := 6) rfl (v := (6 : Int32)) (by decide) ?_
    refine own_s_irem X0.here hx (hb hby at_6) (pc' := 7) rfl (by decide) (v := (5 : Int32)) w5_n_hv6 ?_
    refine own_s_istore X0.here hx (hb hby at_7) (pc' := 9) rfl (L' := #[.val (.int p0), .val (.long p1), .second, .val (.int p2), .val (.int p3), .val (.int (5 : Int32)), .unset, .unset, .unset, .unset, .unset, .unset, .unset, .unset]) rfl ?_
    refine own_s_iload X0.here hx (hb hby at_9) (pc' := 11) rfl rfl ?_
    refine own_s_ifYes X0.here hx (hb hby at_11) (by decide) (pc' := 22) (by decide) (by decide) ?_
    refine own_s_iload X0.here hx (hb hby at_22) (pc' := 24) rfl rfl ?_
    refine own_s_iconst X0.here hx (hb hby at_24) (pc' := 25) rfl (v := (1 : Int32)) (by decide) ?_
    refine own_s_icmpYes X0.here hx (hb hby at_25) (by decide) (pc' := 36) (by decide) (by decide) ?_
    refine own_s_iload X0.here hx (hb hby at_36) (pc' := 38) rfl rfl ?_
    refine own_s_iconst X0.here hx (hb hby at_38) (pc' := 39) rfl (v := (2 : Int32)) (by decide) ?_
    refine own_s_icmpYes X0.here hx (hb hby at_39) (by decide) (pc' := 50) (by decide) (by decide) ?_
    refine own_s_iload X0.here hx (hb hby at_50) (pc' := 52) rfl rfl ?_
    refine own_s_iconst X0.here hx (hb hby at_52) (pc' := 53) rfl (v := (3 : Int32)) (by decide) ?_
    refine own_s_icmpYes X0.here hx (hb hby at_53) (by decide) (pc' := 64) (by decide) (by decide) ?_
    refine own_s_iload X0.here hx (hb hby at_64) (pc' := 66) rfl rfl ?_
    refine own_s_iconst X0.here hx (hb hby at_66) (pc' := 67) rfl (v := (4 : Int32)) (by decide) ?_
    refine own_s_icmpYes X0.here hx (hb hby at_67) (by decide) (pc' := 78) (by decide) (by decide) ?_
    refine stw5_n1 _ ?_
    show Steps p.tables e below (Tw5_n1.setTop (mkF m 81 #[.val (.int p0), .val (.long p1), .second, .val (.int p2), .val (.int p3), .val (.int (5 : Int32)), .unset, .unset, .unset, .unset, .unset, .unset, .unset, .unset] [(.ref st_E)])) _
    refine own_s_astore Xw5_n1.here hx (hb hby at_81) (pc' := 83) rfl rfl (L' := #[.val (.int p0), .val (.long p1), .second, .val (.int p2), .val (.int p3), .val (.int (5 : Int32)), .val (.ref st_E), .unset, .unset, .unset, .unset, .unset, .unset, .unset]) rfl ?_
    refine own_s_iload Xw5_n1.here hx (hb hby at_83) (pc' := 85) rfl rfl ?_
    refine own_s_iconst Xw5_n1.here hx (hb hby at_85) (pc' := 86) rfl (v := (3 : Int32)) (by decide) ?_
    refine own_s_icmpNo Xw5_n1.here hx (hb hby at_86) (pc' := 89) rfl (by decide) ?_
    refine own_s_iconst Xw5_n1.here hx (hb hby at_89) (pc' := 90) rfl (v := (1 : Int32)) (by decide) ?_
    refine own_s_goto Xw5_n1.here hx (hb hby at_90) (by decide) (pc' := 94) (by decide) ?_
    refine own_s_istore Xw5_n1.here hx (hb hby at_94) (pc' := 96) rfl (L' := #[.val (.int p0), .val (.long p1), .second, .val (.int p2), .val (.int p3), .val (.int (5 : Int32)), .val (.ref st_E), .val (.int (1 : Int32)), .unset, .unset, .unset, .unset, .unset, .unset]) rfl ?_
    refine own_s_iload Xw5_n1.here hx (hb hby at_96) (pc' := 98) rfl rfl ?_
    refine own_s_bipush Xw5_n1.here hx (hb hby at_98) (pc' := 100) rfl (v := (7 : Int32)) (by decide) ?_
    refine own_s_iand Xw5_n1.here hx (hb hby at_100) (pc' := 101) rfl (v := w5_n_v100) w5_n_hv100 ?_
    refine own_s_istore Xw5_n1.here hx (hb hby at_101) (pc' := 103) rfl (L' := #[.val (.int p0), .val (.long p1), .second, .val (.int p2), .val (.int p3), .val (.int (5 : Int32)), .val (.ref st_E), .val (.int (1 : Int32)), .val (.int w5_n_v100), .unset, .unset, .unset, .unset, .unset]) rfl ?_
    refine own_s_iload Xw5_n1.here hx (hb hby at_103) (pc' := 105) rfl rfl ?_
    refine own_s_iconst Xw5_n1.here hx (hb hby at_105) (pc' := 106) rfl (v := (4 : Int32)) (by decide) ?_
    refine own_s_icmpYes Xw5_n1.here hx (hb hby at_106) (by decide) (pc' := 121) (by decide) w5_n_hb106 ?_
    refine own_s_iload Xw5_n1.here hx (hb hby at_121) (pc' := 123) rfl rfl ?_
    refine own_s_iconst Xw5_n1.here hx (hb hby at_123) (pc' := 124) rfl (v := (5 : Int32)) (by decide) ?_
    refine own_s_icmpYes Xw5_n1.here hx (hb hby at_124) (by decide) (pc' := 138) (by decide) w5_n_hb124 ?_
    refine own_s_iload Xw5_n1.here hx (hb hby at_138) (pc' := 140) rfl rfl ?_
    refine own_s_bipush Xw5_n1.here hx (hb hby at_140) (pc' := 142) rfl (v := (6 : Int32)) (by decide) ?_
    refine own_s_icmpYes Xw5_n1.here hx (hb hby at_142) (by decide) (pc' := 156) (by decide) w5_n_hb142 ?_
    refine own_s_iload Xw5_n1.here hx (hb hby at_156) (pc' := 158) rfl rfl ?_
    refine own_s_bipush Xw5_n1.here hx (hb hby at_158) (pc' := 160) rfl (v := (7 : Int32)) (by decide) ?_
    refine own_s_icmpYes Xw5_n1.here hx (hb hby at_160) (by decide) (pc' := 174) (by decide) w5_n_hb160 ?_
    refine own_s_lconst Xw5_n1.here hx (hb hby at_174) (pc' := 175) rfl (v := (1 : Int64)) (by decide) ?_
    refine own_s_iloadN Xw5_n1.here hx (hb hby at_175) (pc' := 176) rfl rfl ?_
    refine own_s_bipush Xw5_n1.here hx (hb hby at_176) (pc' := 178) rfl (v := (31 : Int32)) (by decide) ?_
    refine own_s_iand Xw5_n1.here hx (hb hby at_178) (pc' := 179) rfl (v := w5_n_v178) w5_n_hv178 ?_
    refine own_s_lshl Xw5_n1.here hx (hb hby at_179) (pc' := 180) rfl (v := w5_n_v179) w5_n_hv179 ?_
    refine own_s_lstore Xw5_n1.here hx (hb hby at_180) (pc' := 182) rfl (L' := #[.val (.int p0), .val (.long p1), .second, .val (.int p2), .val (.int p3), .val (.int (5 : Int32)), .val (.ref st_E), .val (.int (1 : Int32)), .val (.int w5_n_v100), .unset, .unset, .unset, .val (.long w5_n_v179), .second]) rfl ?_
    refine own_s_lloadN Xw5_n1.here hx (hb hby at_182) (pc' := 183) rfl rfl ?_
    refine own_s_l2d Xw5_n1.here hx (hb hby at_183) (pc' := 184) rfl (v := (FP.l2d p1)) rfl ?_
    refine own_s_lload Xw5_n1.here hx (hb hby at_184) (pc' := 186) rfl rfl ?_
    refine own_s_l2d Xw5_n1.here hx (hb hby at_186) (pc' := 187) rfl (v := (FP.l2d w5_n_v179)) rfl ?_
    refine own_s_ddiv Xw5_n1.here hx (hb hby at_187) (pc' := 188) rfl w5_n_hn187 (v := w5_n_v187) w5_n_hv187 ?_
    refine own_s_dstore Xw5_n1.here hx (hb hby at_188) (pc' := 190) rfl (L' := #[.val (.int p0), .val (.long p1), .second, .val (.int p2), .val (.int p3), .val (.int (5 : Int32)), .val (.ref st_E), .val (.int (1 : Int32)), .val (.int w5_n_v100), .val (.double w5_n_v187), .second, .unset, .val (.long w5_n_v179), .second]) rfl ?_
    refine own_s_lloadN Xw5_n1.here hx (hb hby at_190) (pc' := 191) rfl rfl ?_
    refine own_s_lconst Xw5_n1.here hx (hb hby at_191) (pc' := 192) rfl (v := (0 : Int64)) (by decide) ?_
    refine own_s_lcmp Xw5_n1.here hx (hb hby at_192) (pc' := 193) rfl (v := (lcmpW p1 (0 : Int64))) rfl ?_
    refine own_s_ifYes Xw5_n1.here hx (hb hby at_193) (by decide) (pc' := 212) (by decide) w5_n_hb193 ?_
    refine own_s_iconst Xw5_n1.here hx (hb hby at_212) (pc' := 213) rfl (v := (0 : Int32)) (by decide) ?_
    refine own_s_istore Xw5_n1.here hx (hb hby at_213) (pc' := 215) rfl (L' := #[.val (.int p0), .val (.long p1), .second, .val (.int p2), .val (.int p3), .val (.int (5 : Int32)), .val (.ref st_E), .val (.int (1 : Int32)), .val (.int w5_n_v100), .val (.double w5_n_v187), .second, .val (.int (0 : Int32)), .val (.long w5_n_v179), .second]) rfl ?_
    refine own_s_aload Xw5_n1.here hx (hb hby at_215) (pc' := 217) rfl rfl rfl ?_
    refine own_s_dload Xw5_n1.here hx (hb hby at_217) (pc' := 219) rfl rfl ?_
    refine stw5_n2.trans ?_
    show Steps p.tables e below (Tw5_n2.setTop (mkF m 222 #[.val (.int p0), .val (.long p1), .second, .val (.int p2), .val (.int p3), .val (.int (5 : Int32)), .val (.ref st_E), .val (.int (1 : Int32)), .val (.int w5_n_v100), .val (.double w5_n_v187), .second, .val (.int (0 : Int32)), .val (.long w5_n_v179), .second] [(.int (0 : Int32))])) _
    refine own_s_iload Xw5_n2.here hx (hb hby at_222) (pc' := 224) rfl rfl ?_
    refine own_s_icmpNo Xw5_n2.here hx (hb hby at_224) (pc' := 227) rfl (by decide) ?_
    refine own_s_iconst Xw5_n2.here hx (hb hby at_227) (pc' := 228) rfl (v := (1 : Int32)) (by decide) ?_
    refine own_s_goto Xw5_n2.here hx (hb hby at_228) (by decide) (pc' := 232) (by decide) ?_
    exact retN Xw5_n2 hx (t := .boolean) Bd.returns (by simp) (hb hby at_232) hr
  · show own_Q0 n0 _ Tw5_n2.heap _
    rw [ew5_n2]
    exact ⟨rfl, Nw5_n2⟩
theorem own_ef_w5_y (m : MethodId) (p0 : Int32) (p1 : Int64) (p2 : Int32) (p3 : Int32) : entryFrame m #[(.int p0), (.long p1), (.int p2), (.int p3)] maxLocals = mkF m 0 #[.val (.int p0), .val (.long p1), .second, .val (.int p2), .val (.int p3), .unset, .unset, .unset, .unset, .unset, .unset, .unset, .unset, .unset] [] := by first | (simp [entryFrame, mkF, argsToLocals, Value.category, maxLocals]; done) | rfl
set_option maxRecDepth 65536 in
set_option maxHeartbeats 40000000 in
theorem own_rm_w5_y (l : Launch) (Z : State) (a0 : Array Value) (hw : ∀ d ∈ tables_1, d.before a0 Z = true) (ws : List Jvm.Cond) (p0 : Int32) (p1 : Int64) (p2 : Int32) (p3 : Int32) (st_E : Addr) {w5_y_v3 : Int32} {w5_y_v100 : Int32} {w5_y_v178 : Int32} {w5_y_v179 : Int64} {w5_y_v187 : UInt64} (h0 : Heap) (n0 : Nat) (Z0 : n0 ≤ h0.size) (E_st_E : Exa Z h0 st_E "com/example/libcredal/libcredal/checker/Query$Operator") (F_reward_st_E : Fld Z h0 st_E "com/example/libcredal/libcredal/checker/Query$Operator" "reward" "Z" (.int (1 : Int32))) (S_E : Sta Z h0 "com/example/libcredal/libcredal/checker/Query$Operator" "E" "Lcom/example/libcredal/libcredal/checker/Query$Operator;" (.ref st_E)) (w5_y_hv3 : p0 &&& (2147483647 : Int32) = w5_y_v3) (w5_y_hv6 : w5_y_v3 % (6 : Int32) = (5 : Int32)) (w5_y_hv100 : p3 &&& (7 : Int32) = w5_y_v100) (w5_y_hb106 : if_icmp.holds .ne w5_y_v100 (4 : Int32) = true) (w5_y_hb124 : if_icmp.holds .ne w5_y_v100 (5 : Int32) = true) (w5_y_hb142 : if_icmp.holds .ne w5_y_v100 (6 : Int32) = true) (w5_y_hb160 : if_icmp.holds .ne w5_y_v100 (7 : Int32) = true) (w5_y_hv178 : p2 &&& (31 : Int32) = w5_y_v178) (w5_y_hv179 : (1 : Int64) <<< (w5_y_v178 &&& 63).toInt64 = w5_y_v179) (w5_y_hn187 : Jvm.Free.Fl.NoNaN64 (FP.ddiv (FP.l2d p1) (FP.l2d w5_y_v179))) (w5_y_hv187 : FP.ddiv (FP.l2d p1) (FP.l2d w5_y_v179) = w5_y_v187) (w5_y_hb193 : ifCond.holds .lt (lcmpW p1 (0 : Int64)) = false) (w5_y_c219_c1ff_hb3 : ifCond.holds .lt (Op.cmpValue (FP.dcmp w5_y_v187 0) .l) = false) (w5_y_c219_c1ff_hb22 : ifCond.holds .gt (Op.cmpValue (FP.dcmp w5_y_v187 (9218868437227405311 : UInt64)) .g) = false) :
    MetFree l x (head1 (Jvm.Cond.code x code maxLocals ret :: ws) room_1) (fun a U => a = #[(.int p0), (.long p1), (.int p2), (.int p3)] ∧ Z.Warmed39 U.vm ∧ U.heap = h0) (fun _ _ _ _ _ => True) (fun _ U o U' => ∃ v L, o = .returned v ∧ own_Q0 n0 v U'.heap L ∧ FrameEnd U o U' L room_1.cells room_1.slots) := by
  refine MetFree.of_bodySF (plainFor_of_name own_pn_com_example_libcredal_libcredal_checker_OperatorAdmitsPinLaw) hisR ?_
  intro p e s m args below meth c s₁ Bd hml0 hP hK
  obtain ⟨rfl, hZ, hh⟩ := hP
  have hx := Bd.exec
  have hby := Bd.bytes
  have hml : c.maxLocals = 14 := hml0
  have hown : s.vm.findClass "com/example/libcredal/libcredal/checker/OperatorAdmitsPinLaw" = some m.cls := findClass_of_methodNamed Bd.named
  have hnm := (name_of_methodNamed Bd.named Bd.method).1
  have X0 : Stand p l e room_1 s m #[(.int p0), (.long p1), (.int p2), (.int p3)] below meth c s₁ [] 0 0 := Stand.of_body Bd
  have e0 : s₁.heap = h0 := by rw [← hh, Bd.state]; rfl
  have N0 := Fr.nil n0
  have pre0 : ∀ t, Steps p.tables e below (s₁.setTop (mkF m 0 #[.val (.int p0), .val (.long p1), .second, .val (.int p2), .val (.int p3), .unset, .unset, .unset, .unset, .unset, .unset, .unset, .unset, .unset] [])) t → Steps p.tables e below (s₁.setTop (entryFrame m #[(.int p0), (.long p1), (.int p2), (.int p3)] maxLocals)) t := fun t k => castTop (own_ef_w5_y m p0 p1 p2 p3) k
  obtain ⟨Tw5_y1, Xw5_y1, ew5_y1, stw5_y1⟩ := getS2 X0 hx hZ hown (host := "") (Or.inl (hw _ (List.mem_of_getElem? (i := 24) rfl))) Via.refl e0 S_E (g := (mkF m 78 #[.val (.int p0), .val (.long p1), .second, .val (.int p2), .val (.int p3), .val (.int (5 : Int32)), .unset, .unset, .unset, .unset, .unset, .unset, .unset, .unset] [])) rfl (hb hby at_78)
  obtain ⟨cqw5_y2, kqw5_y2, qw5_y2a, qw5_y2b, qw5_y2c⟩ := isOf hZ ew5_y1 E_st_E
  obtain ⟨_, _, ⟨Tw5_y2, Lw5_y2, kw5_y2, nw5_y2⟩, -, Xw5_y2, ⟨Lcw5_y2, hQw5_y2, lw5_y2, yw5_y2, zw5_y2⟩, stw5_y2⟩ := Xw5_y1.virtualBack hx (y := (⟨"com/example/libcredal/libcredal/checker/Query$Operator", "admits", "(D)Z"⟩ : MethodName)) (z := (⟨"com/example/libcredal/libcredal/checker/Query$Operator", "admits", "(D)Z"⟩ : MethodName)) hown (mvT hZ (hw _ (List.mem_of_getElem? (i := 4) rfl))) (mvT hZ (hw _ (List.mem_of_getElem? (i := 5) rfl))) (notFace_of_selects (args := #[]) (mvT hZ (hw _ (List.mem_of_getElem? (i := 7) rfl)))) (mvT hZ (hw _ (List.mem_of_getElem? (i := 7) rfl))) (mvT hZ (hw _ (List.mem_of_getElem? (i := 6) rfl))) (by decide) (backOf (W := 0) (own_rm_c1ff l Z a0 hw [] st_E w5_y_v187 h0 n0 Z0 E_st_E F_reward_st_E w5_y_c219_c1ff_hb3 w5_y_c219_c1ff_hb22) hZ (hw _ (List.mem_of_getElem? (i := 8) rfl)) (hw _ (List.mem_of_getElem? (i := 2) rfl)) (by decide) (by decide)) qw5_y2a qw5_y2c (g := (mkF m 219 #[.val (.int p0), .val (.long p1), .second, .val (.int p2), .val (.int p3), .val (.int (5 : Int32)), .val (.ref st_E), .val (.int (1 : Int32)), .val (.int w5_y_v100), .val (.double w5_y_v187), .second, .val (.int (1 : Int32)), .val (.long w5_y_v179), .second] [(.double w5_y_v187), (.ref st_E)])) rfl (by rw [hml]; rfl) (Steps.refl _) (argsL := [(.double w5_y_v187)]) (rest := []) (lenOf own_pd_28D29Z rfl) rfl (by show 2 * 0 + _ ≤ _; exact Nat.le_of_eq rfl) (hb hby at_219) (fun _ _ => ⟨rfl, ew5_y1, (by decide : 0 + 0 ≤ _), (by decide : 0 + 0 ≤ _)⟩)
  dsimp only [Pt.U, Pt.locs, Pt.cells, Pt.slots] at Xw5_y2 lw5_y2 yw5_y2 zw5_y2 stw5_y2 hQw5_y2
  rw [lw5_y2, yw5_y2, zw5_y2] at Xw5_y2
  obtain ⟨rfl, Nw5_y2q, ew5_y2⟩ := hQw5_y2
  have Nw5_y2 := Fr.app N0 Nw5_y2q
  obtain ⟨fs, hr, hrun, hended, hW, hsame⟩ := Xw5_y2.leave (v := some (.int (1 : Int32))) (fun h => by rw [Bd.returns] at h; cases h)
  refine ⟨_, _, pre0 _ ?_, hrun, hended, _, _, rfl, ?_, ⟨_, rfl⟩, hW, hsame.mono (by decide) (by decide)⟩
  · refine own_s_iloadN X0.here hx (hb hby at_0) (pc' := 1) rfl rfl ?_
    refine X0.ldcInt hx hown (mvT hZ (hw _ (List.mem_of_getElem? (i := 0) rfl))) (g := (mkF m 1 #[.val (.int p0), .val (.long p1), .second, .val (.int p2), .val (.int p3), .unset, .unset, .unset, .unset, .unset, .unset, .unset, .unset, .unset] [(.int p0)])) rfl (hb hby at_1) _ ?_
    show Steps p.tables e below (s₁.setTop (mkF m 3 #[.val (.int p0), .val (.long p1), .second, .val (.int p2), .val (.int p3), .unset, .unset, .unset, .unset, .unset, .unset, .unset, .unset, .unset] [(.int (2147483647 : Int32)), (.int p0)])) _
    refine own_s_iand X0.here hx (hb hby at_3) (pc' := 4) rfl (v := w5_y_v3) w5_y_hv3 ?_
    refine own_s_bipush X0.here hx (hb hby at_4) (pc' := 6) rfl (v := (6 : Int32)) (by decide) ?_
    refine own_s_irem X0.here hx (hb hby at_6) (pc' := 7) rfl (by decide) (v := (5 : Int32)) w5_y_hv6 ?_
    refine own_s_istore X0.here hx (hb hby at_7) (pc' := 9) rfl (L' := #[.val (.int p0), .val (.long p1), .second, .val (.int p2), .val (.int p3), .val (.int (5 : Int32)), .unset, .unset, .unset, .unset, .unset, .unset, .unset, .unset]) rfl ?_
    refine own_s_iload X0.here hx (hb hby at_9) (pc' := 11) rfl rfl ?_
    refine own_s_ifYes X0.here hx (hb hby at_11) (by decide) (pc' := 22) (by decide) (by decide) ?_
    refine own_s_iload X0.here hx (hb hby at_22) (pc' := 24) rfl rfl ?_
    refine own_s_iconst X0.here hx (hb hby at_24) (pc' := 25) rfl (v := (1 : Int32)) (by decide) ?_
    refine own_s_icmpYes X0.here hx (hb hby at_25) (by decide) (pc' := 36) (by decide) (by decide) ?_
    refine own_s_iload X0.here hx (hb hby at_36) (pc' := 38) rfl rfl ?_
    refine own_s_iconst X0.here hx (hb hby at_38) (pc' := 39) rfl (v := (2 : Int32)) (by decide) ?_
    refine own_s_icmpYes X0.here hx (hb hby at_39) (by decide) (pc' := 50) (by decide) (by decide) ?_
    refine own_s_iload X0.here hx (hb hby at_50) (pc' := 52) rfl rfl ?_
    refine own_s_iconst X0.here hx (hb hby at_52) (pc' := 53) rfl (v := (3 : Int32)) (by decide) ?_
    refine own_s_icmpYes X0.here hx (hb hby at_53) (by decide) (pc' := 64) (by decide) (by decide) ?_
    refine own_s_iload X0.here hx (hb hby at_64) (pc' := 66) rfl rfl ?_
    refine own_s_iconst X0.here hx (hb hby at_66) (pc' := 67) rfl (v := (4 : Int32)) (by decide) ?_
    refine own_s_icmpYes X0.here hx (hb hby at_67) (by decide) (pc' := 78) (by decide) (by decide) ?_
    refine stw5_y1 _ ?_
    show Steps p.tables e below (Tw5_y1.setTop (mkF m 81 #[.val (.int p0), .val (.long p1), .second, .val (.int p2), .val (.int p3), .val (.int (5 : Int32)), .unset, .unset, .unset, .unset, .unset, .unset, .unset, .unset] [(.ref st_E)])) _
    refine own_s_astore Xw5_y1.here hx (hb hby at_81) (pc' := 83) rfl rfl (L' := #[.val (.int p0), .val (.long p1), .second, .val (.int p2), .val (.int p3), .val (.int (5 : Int32)), .val (.ref st_E), .unset, .unset, .unset, .unset, .unset, .unset, .unset]) rfl ?_
    refine own_s_iload Xw5_y1.here hx (hb hby at_83) (pc' := 85) rfl rfl ?_
    refine own_s_iconst Xw5_y1.here hx (hb hby at_85) (pc' := 86) rfl (v := (3 : Int32)) (by decide) ?_
    refine own_s_icmpNo Xw5_y1.here hx (hb hby at_86) (pc' := 89) rfl (by decide) ?_
    refine own_s_iconst Xw5_y1.here hx (hb hby at_89) (pc' := 90) rfl (v := (1 : Int32)) (by decide) ?_
    refine own_s_goto Xw5_y1.here hx (hb hby at_90) (by decide) (pc' := 94) (by decide) ?_
    refine own_s_istore Xw5_y1.here hx (hb hby at_94) (pc' := 96) rfl (L' := #[.val (.int p0), .val (.long p1), .second, .val (.int p2), .val (.int p3), .val (.int (5 : Int32)), .val (.ref st_E), .val (.int (1 : Int32)), .unset, .unset, .unset, .unset, .unset, .unset]) rfl ?_
    refine own_s_iload Xw5_y1.here hx (hb hby at_96) (pc' := 98) rfl rfl ?_
    refine own_s_bipush Xw5_y1.here hx (hb hby at_98) (pc' := 100) rfl (v := (7 : Int32)) (by decide) ?_
    refine own_s_iand Xw5_y1.here hx (hb hby at_100) (pc' := 101) rfl (v := w5_y_v100) w5_y_hv100 ?_
    refine own_s_istore Xw5_y1.here hx (hb hby at_101) (pc' := 103) rfl (L' := #[.val (.int p0), .val (.long p1), .second, .val (.int p2), .val (.int p3), .val (.int (5 : Int32)), .val (.ref st_E), .val (.int (1 : Int32)), .val (.int w5_y_v100), .unset, .unset, .unset, .unset, .unset]) rfl ?_
    refine own_s_iload Xw5_y1.here hx (hb hby at_103) (pc' := 105) rfl rfl ?_
    refine own_s_iconst Xw5_y1.here hx (hb hby at_105) (pc' := 106) rfl (v := (4 : Int32)) (by decide) ?_
    refine own_s_icmpYes Xw5_y1.here hx (hb hby at_106) (by decide) (pc' := 121) (by decide) w5_y_hb106 ?_
    refine own_s_iload Xw5_y1.here hx (hb hby at_121) (pc' := 123) rfl rfl ?_
    refine own_s_iconst Xw5_y1.here hx (hb hby at_123) (pc' := 124) rfl (v := (5 : Int32)) (by decide) ?_
    refine own_s_icmpYes Xw5_y1.here hx (hb hby at_124) (by decide) (pc' := 138) (by decide) w5_y_hb124 ?_
    refine own_s_iload Xw5_y1.here hx (hb hby at_138) (pc' := 140) rfl rfl ?_
    refine own_s_bipush Xw5_y1.here hx (hb hby at_140) (pc' := 142) rfl (v := (6 : Int32)) (by decide) ?_
    refine own_s_icmpYes Xw5_y1.here hx (hb hby at_142) (by decide) (pc' := 156) (by decide) w5_y_hb142 ?_
    refine own_s_iload Xw5_y1.here hx (hb hby at_156) (pc' := 158) rfl rfl ?_
    refine own_s_bipush Xw5_y1.here hx (hb hby at_158) (pc' := 160) rfl (v := (7 : Int32)) (by decide) ?_
    refine own_s_icmpYes Xw5_y1.here hx (hb hby at_160) (by decide) (pc' := 174) (by decide) w5_y_hb160 ?_
    refine own_s_lconst Xw5_y1.here hx (hb hby at_174) (pc' := 175) rfl (v := (1 : Int64)) (by decide) ?_
    refine own_s_iloadN Xw5_y1.here hx (hb hby at_175) (pc' := 176) rfl rfl ?_
    refine own_s_bipush Xw5_y1.here hx (hb hby at_176) (pc' := 178) rfl (v := (31 : Int32)) (by decide) ?_
    refine own_s_iand Xw5_y1.here hx (hb hby at_178) (pc' := 179) rfl (v := w5_y_v178) w5_y_hv178 ?_
    refine own_s_lshl Xw5_y1.here hx (hb hby at_179) (pc' := 180) rfl (v := w5_y_v179) w5_y_hv179 ?_
    refine own_s_lstore Xw5_y1.here hx (hb hby at_180) (pc' := 182) rfl (L' := #[.val (.int p0), .val (.long p1), .second, .val (.int p2), .val (.int p3), .val (.int (5 : Int32)), .val (.ref st_E), .val (.int (1 : Int32)), .val (.int w5_y_v100), .unset, .unset, .unset, .val (.long w5_y_v179), .second]) rfl ?_
    refine own_s_lloadN Xw5_y1.here hx (hb hby at_182) (pc' := 183) rfl rfl ?_
    refine own_s_l2d Xw5_y1.here hx (hb hby at_183) (pc' := 184) rfl (v := (FP.l2d p1)) rfl ?_
    refine own_s_lload Xw5_y1.here hx (hb hby at_184) (pc' := 186) rfl rfl ?_
    refine own_s_l2d Xw5_y1.here hx (hb hby at_186) (pc' := 187) rfl (v := (FP.l2d w5_y_v179)) rfl ?_
    refine own_s_ddiv Xw5_y1.here hx (hb hby at_187) (pc' := 188) rfl w5_y_hn187 (v := w5_y_v187) w5_y_hv187 ?_
    refine own_s_dstore Xw5_y1.here hx (hb hby at_188) (pc' := 190) rfl (L' := #[.val (.int p0), .val (.long p1), .second, .val (.int p2), .val (.int p3), .val (.int (5 : Int32)), .val (.ref st_E), .val (.int (1 : Int32)), .val (.int w5_y_v100), .val (.double w5_y_v187), .second, .unset, .val (.long w5_y_v179), .second]) rfl ?_
    refine own_s_lloadN Xw5_y1.here hx (hb hby at_190) (pc' := 191) rfl rfl ?_
    refine own_s_lconst Xw5_y1.here hx (hb hby at_191) (pc' := 192) rfl (v := (0 : Int64)) (by decide) ?_
    refine own_s_lcmp Xw5_y1.here hx (hb hby at_192) (pc' := 193) rfl (v := (lcmpW p1 (0 : Int64))) rfl ?_
    refine own_s_ifNo Xw5_y1.here hx (hb hby at_193) (pc' := 196) rfl w5_y_hb193 ?_
    refine own_s_iload Xw5_y1.here hx (hb hby at_196) (pc' := 198) rfl rfl ?_
    refine own_s_ifYes Xw5_y1.here hx (hb hby at_198) (by decide) (pc' := 208) (by decide) (by decide) ?_
    refine own_s_iconst Xw5_y1.here hx (hb hby at_208) (pc' := 209) rfl (v := (1 : Int32)) (by decide) ?_
    refine own_s_goto Xw5_y1.here hx (hb hby at_209) (by decide) (pc' := 213) (by decide) ?_
    refine own_s_istore Xw5_y1.here hx (hb hby at_213) (pc' := 215) rfl (L' := #[.val (.int p0), .val (.long p1), .second, .val (.int p2), .val (.int p3), .val (.int (5 : Int32)), .val (.ref st_E), .val (.int (1 : Int32)), .val (.int w5_y_v100), .val (.double w5_y_v187), .second, .val (.int (1 : Int32)), .val (.long w5_y_v179), .second]) rfl ?_
    refine own_s_aload Xw5_y1.here hx (hb hby at_215) (pc' := 217) rfl rfl rfl ?_
    refine own_s_dload Xw5_y1.here hx (hb hby at_217) (pc' := 219) rfl rfl ?_
    refine stw5_y2.trans ?_
    show Steps p.tables e below (Tw5_y2.setTop (mkF m 222 #[.val (.int p0), .val (.long p1), .second, .val (.int p2), .val (.int p3), .val (.int (5 : Int32)), .val (.ref st_E), .val (.int (1 : Int32)), .val (.int w5_y_v100), .val (.double w5_y_v187), .second, .val (.int (1 : Int32)), .val (.long w5_y_v179), .second] [(.int (1 : Int32))])) _
    refine own_s_iload Xw5_y2.here hx (hb hby at_222) (pc' := 224) rfl rfl ?_
    refine own_s_icmpNo Xw5_y2.here hx (hb hby at_224) (pc' := 227) rfl (by decide) ?_
    refine own_s_iconst Xw5_y2.here hx (hb hby at_227) (pc' := 228) rfl (v := (1 : Int32)) (by decide) ?_
    refine own_s_goto Xw5_y2.here hx (hb hby at_228) (by decide) (pc' := 232) (by decide) ?_
    exact retN Xw5_y2 hx (t := .boolean) Bd.returns (by simp) (hb hby at_232) hr
  · show own_Q0 n0 _ Tw5_y2.heap _
    rw [ew5_y2]
    exact ⟨rfl, Nw5_y2⟩
set_option maxRecDepth 65536 in
set_option maxHeartbeats 40000000 in
theorem own_rm0 (l : Launch) (Z : State) (a0 : Array Value) (hw : ∀ d ∈ tables_1, d.before a0 Z = true) (ws : List Jvm.Cond) (p0 : Int32) (p1 : Int64) (p2 : Int32) (p3 : Int32) (h0 : Heap) (n0 : Nat) (Z0 : n0 ≤ h0.size) (st_P : Addr) (E_P : Exa Z h0 st_P "com/example/libcredal/libcredal/checker/Query$Operator") (F_P : Fld Z h0 st_P "com/example/libcredal/libcredal/checker/Query$Operator" "reward" "Z" (.int (0 : Int32))) (S_P : Sta Z h0 "com/example/libcredal/libcredal/checker/Query$Operator" "P" "Lcom/example/libcredal/libcredal/checker/Query$Operator;" (.ref st_P)) (st_PMIN : Addr) (E_PMIN : Exa Z h0 st_PMIN "com/example/libcredal/libcredal/checker/Query$Operator") (F_PMIN : Fld Z h0 st_PMIN "com/example/libcredal/libcredal/checker/Query$Operator" "reward" "Z" (.int (0 : Int32))) (S_PMIN : Sta Z h0 "com/example/libcredal/libcredal/checker/Query$Operator" "PMIN" "Lcom/example/libcredal/libcredal/checker/Query$Operator;" (.ref st_PMIN)) (st_PMAX : Addr) (E_PMAX : Exa Z h0 st_PMAX "com/example/libcredal/libcredal/checker/Query$Operator") (F_PMAX : Fld Z h0 st_PMAX "com/example/libcredal/libcredal/checker/Query$Operator" "reward" "Z" (.int (0 : Int32))) (S_PMAX : Sta Z h0 "com/example/libcredal/libcredal/checker/Query$Operator" "PMAX" "Lcom/example/libcredal/libcredal/checker/Query$Operator;" (.ref st_PMAX)) (st_EMIN : Addr) (E_EMIN : Exa Z h0 st_EMIN "com/example/libcredal/libcredal/checker/Query$Operator") (F_EMIN : Fld Z h0 st_EMIN "com/example/libcredal/libcredal/checker/Query$Operator" "reward" "Z" (.int (1 : Int32))) (S_EMIN : Sta Z h0 "com/example/libcredal/libcredal/checker/Query$Operator" "EMIN" "Lcom/example/libcredal/libcredal/checker/Query$Operator;" (.ref st_EMIN)) (st_EMAX : Addr) (E_EMAX : Exa Z h0 st_EMAX "com/example/libcredal/libcredal/checker/Query$Operator") (F_EMAX : Fld Z h0 st_EMAX "com/example/libcredal/libcredal/checker/Query$Operator" "reward" "Z" (.int (1 : Int32))) (S_EMAX : Sta Z h0 "com/example/libcredal/libcredal/checker/Query$Operator" "EMAX" "Lcom/example/libcredal/libcredal/checker/Query$Operator;" (.ref st_EMAX)) (st_E : Addr) (E_E : Exa Z h0 st_E "com/example/libcredal/libcredal/checker/Query$Operator") (F_E : Fld Z h0 st_E "com/example/libcredal/libcredal/checker/Query$Operator" "reward" "Z" (.int (1 : Int32))) (S_E : Sta Z h0 "com/example/libcredal/libcredal/checker/Query$Operator" "E" "Lcom/example/libcredal/libcredal/checker/Query$Operator;" (.ref st_E)) :
    MetFree l x (head1 (Jvm.Cond.code x code maxLocals ret :: ws) room_1) (fun a U => a = #[(.int p0), (.long p1), (.int p2), (.int p3)] ∧ Z.Warmed39 U.vm ∧ U.heap = h0) (fun _ _ _ _ _ => True) (fun _ U o U' => ∃ v L, o = .returned v ∧ own_Q0 n0 v U'.heap L ∧ FrameEnd U o U' L room_1.cells room_1.slots) := by
  obtain ⟨v3, hv3⟩ : ∃ v, p0 &&& 2147483647 = v := ⟨_, rfl⟩
  obtain ⟨v100, hv100⟩ : ∃ v, p3 &&& 7 = v := ⟨_, rfl⟩
  obtain ⟨S, hS⟩ := own_masked p2 31 5 (by decide) (by decide) 32 (by decide)
  obtain ⟨a, ha⟩ : ∃ v, (1 : Int64) <<< (Int32.ofNat S.val &&& 63).toInt64 = v := ⟨_, rfl⟩
  have hA := own_shl1 S
  rw [ha] at hA
  obtain ⟨w, hw187⟩ : ∃ v, FP.ddiv (FP.l2d p1) (FP.l2d a) = v := ⟨_, rfl⟩
  obtain ⟨n187, z0, z1, zM⟩ := own_adm p1 a S hA.1 hA.2.1 hA.2.2 hw187
  have hlt0 : ∀ {y : Int64}, p1.toInt < y.toInt → ifCond.holds .lt (lcmpW p1 y) = true := fun h => XT.i0_lt_t ((lw_lt _ _).mpr (Int64.lt_iff_toInt_lt.mpr h))
  have hge0 : ∀ {y : Int64}, ¬ p1.toInt < y.toInt → ifCond.holds .lt (lcmpW p1 y) = false := fun h => XT.i0_lt_f (fun q => h (Int64.lt_iff_toInt_lt.mp ((lw_lt _ _).mp q)))
  have hgt : ∀ {y : Int64}, y.toInt < p1.toInt → ifCond.holds .gt (lcmpW p1 y) = true := fun h => XT.i0_gt_t ((lw_gt _ _).mpr (Int64.lt_iff_toInt_lt.mpr h))
  have hng : ∀ {y : Int64}, ¬ y.toInt < p1.toInt → ifCond.holds .gt (lcmpW p1 y) = false := fun h => XT.i0_gt_f (fun q => h (Int64.lt_iff_toInt_lt.mp ((lw_gt _ _).mp q)))
  have t0 : (0 : Int64).toInt = 0 := by decide
  rcases own_mod6 p0 v3 hv3 with hn | hn | hn | hn | hn | hn
  · by_cases s4 : v100 = 4
    · skip
      exact own_rm_w0_4 l Z a0 hw ws p0 p1 p2 p3 st_P h0 n0 Z0 E_P F_P S_P (w0_4_hv3 := hv3) (w0_4_hv6 := hn) (w0_4_hv100 := (hv100.trans s4)) (w0_4_c219_c0ft_hb3 := (by decide +kernel)) (w0_4_c219_c0ft_hb22 := (by decide +kernel))
    · by_cases s5 : v100 = 5
      · skip
        exact own_rm_w0_5 l Z a0 hw ws p0 p1 p2 p3 st_P h0 n0 Z0 E_P F_P S_P (w0_5_hv3 := hv3) (w0_5_hv6 := hn) (w0_5_hv100 := (hv100.trans s5)) (w0_5_c219_c0ft_hb3 := (by decide +kernel)) (w0_5_c219_c0ft_hb22 := (by decide +kernel))
      · by_cases s6 : v100 = 6
        · skip
          exact own_rm_w0_6 l Z a0 hw ws p0 p1 p2 p3 st_P h0 n0 Z0 E_P F_P S_P (w0_6_hv3 := hv3) (w0_6_hv6 := hn) (w0_6_hv100 := (hv100.trans s6)) (w0_6_c219_c0t_hb3 := (by decide +kernel))
        · by_cases s7 : v100 = 7
          · skip
            exact own_rm_w0_7 l Z a0 hw ws p0 p1 p2 p3 st_P h0 n0 Z0 E_P F_P S_P (w0_7_hv3 := hv3) (w0_7_hv6 := hn) (w0_7_hv100 := (hv100.trans s7)) (w0_7_c219_c0ff_hb3 := (by decide +kernel)) (w0_7_c219_c0ff_hb22 := (by decide +kernel))
          · have f106 := XT.ii_ne_t s4
            have f124 := XT.ii_ne_t s5
            have f142 := XT.ii_ne_t s6
            have f160 := XT.ii_ne_t s7
            by_cases c0 : p1.toInt < (0 : Int64).toInt
            · skip
              exact own_rm_w0_n l Z a0 hw ws p0 p1 p2 p3 st_P h0 n0 Z0 E_P F_P S_P (w0_n_hv3 := hv3) (w0_n_hv6 := hn) (w0_n_hv100 := hv100) (w0_n_hb106 := f106) (w0_n_hb124 := f124) (w0_n_hb142 := f142) (w0_n_hb160 := f160) (w0_n_hv178 := hS) (w0_n_hv179 := ha) (w0_n_hn187 := n187) (w0_n_hv187 := hw187) (w0_n_hb193 := (hlt0 c0)) (w0_n_c219_c0t_hb3 := (by rw [z0]; exact decide_eq_true (t0 ▸ c0)))
            · by_cases c1 : a.toInt < p1.toInt
              · skip
                exact own_rm_w0_g l Z a0 hw ws p0 p1 p2 p3 st_P h0 n0 Z0 E_P F_P S_P (w0_g_hv3 := hv3) (w0_g_hv6 := hn) (w0_g_hv100 := hv100) (w0_g_hb106 := f106) (w0_g_hb124 := f124) (w0_g_hb142 := f142) (w0_g_hb160 := f160) (w0_g_hv178 := hS) (w0_g_hv179 := ha) (w0_g_hn187 := n187) (w0_g_hv187 := hw187) (w0_g_hb193 := (hge0 c0)) (w0_g_hb205 := (hgt c1)) (w0_g_c219_c0ft_hb3 := (by rw [z0]; exact decide_eq_false (t0 ▸ c0))) (w0_g_c219_c0ft_hb22 := (by rw [z1]; exact decide_eq_true c1))
              · skip
                exact own_rm_w0_y l Z a0 hw ws p0 p1 p2 p3 st_P h0 n0 Z0 E_P F_P S_P (w0_y_hv3 := hv3) (w0_y_hv6 := hn) (w0_y_hv100 := hv100) (w0_y_hb106 := f106) (w0_y_hb124 := f124) (w0_y_hb142 := f142) (w0_y_hb160 := f160) (w0_y_hv178 := hS) (w0_y_hv179 := ha) (w0_y_hn187 := n187) (w0_y_hv187 := hw187) (w0_y_hb193 := (hge0 c0)) (w0_y_hb205 := (hng c1)) (w0_y_c219_c0ff_hb3 := (by rw [z0]; exact decide_eq_false (t0 ▸ c0))) (w0_y_c219_c0ff_hb22 := (by rw [z1]; exact decide_eq_false c1))
  · by_cases s4 : v100 = 4
    · skip
      exact own_rm_w1_4 l Z a0 hw ws p0 p1 p2 p3 st_PMIN h0 n0 Z0 E_PMIN F_PMIN S_PMIN (w1_4_hv3 := hv3) (w1_4_hv6 := hn) (w1_4_hv100 := (hv100.trans s4)) (w1_4_c219_c0ft_hb3 := (by decide +kernel)) (w1_4_c219_c0ft_hb22 := (by decide +kernel))
    · by_cases s5 : v100 = 5
      · skip
        exact own_rm_w1_5 l Z a0 hw ws p0 p1 p2 p3 st_PMIN h0 n0 Z0 E_PMIN F_PMIN S_PMIN (w1_5_hv3 := hv3) (w1_5_hv6 := hn) (w1_5_hv100 := (hv100.trans s5)) (w1_5_c219_c0ft_hb3 := (by decide +kernel)) (w1_5_c219_c0ft_hb22 := (by decide +kernel))
      · by_cases s6 : v100 = 6
        · skip
          exact own_rm_w1_6 l Z a0 hw ws p0 p1 p2 p3 st_PMIN h0 n0 Z0 E_PMIN F_PMIN S_PMIN (w1_6_hv3 := hv3) (w1_6_hv6 := hn) (w1_6_hv100 := (hv100.trans s6)) (w1_6_c219_c0t_hb3 := (by decide +kernel))
        · by_cases s7 : v100 = 7
          · skip
            exact own_rm_w1_7 l Z a0 hw ws p0 p1 p2 p3 st_PMIN h0 n0 Z0 E_PMIN F_PMIN S_PMIN (w1_7_hv3 := hv3) (w1_7_hv6 := hn) (w1_7_hv100 := (hv100.trans s7)) (w1_7_c219_c0ff_hb3 := (by decide +kernel)) (w1_7_c219_c0ff_hb22 := (by decide +kernel))
          · have f106 := XT.ii_ne_t s4
            have f124 := XT.ii_ne_t s5
            have f142 := XT.ii_ne_t s6
            have f160 := XT.ii_ne_t s7
            by_cases c0 : p1.toInt < (0 : Int64).toInt
            · skip
              exact own_rm_w1_n l Z a0 hw ws p0 p1 p2 p3 st_PMIN h0 n0 Z0 E_PMIN F_PMIN S_PMIN (w1_n_hv3 := hv3) (w1_n_hv6 := hn) (w1_n_hv100 := hv100) (w1_n_hb106 := f106) (w1_n_hb124 := f124) (w1_n_hb142 := f142) (w1_n_hb160 := f160) (w1_n_hv178 := hS) (w1_n_hv179 := ha) (w1_n_hn187 := n187) (w1_n_hv187 := hw187) (w1_n_hb193 := (hlt0 c0)) (w1_n_c219_c0t_hb3 := (by rw [z0]; exact decide_eq_true (t0 ▸ c0)))
            · by_cases c1 : a.toInt < p1.toInt
              · skip
                exact own_rm_w1_g l Z a0 hw ws p0 p1 p2 p3 st_PMIN h0 n0 Z0 E_PMIN F_PMIN S_PMIN (w1_g_hv3 := hv3) (w1_g_hv6 := hn) (w1_g_hv100 := hv100) (w1_g_hb106 := f106) (w1_g_hb124 := f124) (w1_g_hb142 := f142) (w1_g_hb160 := f160) (w1_g_hv178 := hS) (w1_g_hv179 := ha) (w1_g_hn187 := n187) (w1_g_hv187 := hw187) (w1_g_hb193 := (hge0 c0)) (w1_g_hb205 := (hgt c1)) (w1_g_c219_c0ft_hb3 := (by rw [z0]; exact decide_eq_false (t0 ▸ c0))) (w1_g_c219_c0ft_hb22 := (by rw [z1]; exact decide_eq_true c1))
              · skip
                exact own_rm_w1_y l Z a0 hw ws p0 p1 p2 p3 st_PMIN h0 n0 Z0 E_PMIN F_PMIN S_PMIN (w1_y_hv3 := hv3) (w1_y_hv6 := hn) (w1_y_hv100 := hv100) (w1_y_hb106 := f106) (w1_y_hb124 := f124) (w1_y_hb142 := f142) (w1_y_hb160 := f160) (w1_y_hv178 := hS) (w1_y_hv179 := ha) (w1_y_hn187 := n187) (w1_y_hv187 := hw187) (w1_y_hb193 := (hge0 c0)) (w1_y_hb205 := (hng c1)) (w1_y_c219_c0ff_hb3 := (by rw [z0]; exact decide_eq_false (t0 ▸ c0))) (w1_y_c219_c0ff_hb22 := (by rw [z1]; exact decide_eq_false c1))
  · by_cases s4 : v100 = 4
    · skip
      exact own_rm_w2_4 l Z a0 hw ws p0 p1 p2 p3 st_PMAX h0 n0 Z0 E_PMAX F_PMAX S_PMAX (w2_4_hv3 := hv3) (w2_4_hv6 := hn) (w2_4_hv100 := (hv100.trans s4)) (w2_4_c219_c0ft_hb3 := (by decide +kernel)) (w2_4_c219_c0ft_hb22 := (by decide +kernel))
    · by_cases s5 : v100 = 5
      · skip
        exact own_rm_w2_5 l Z a0 hw ws p0 p1 p2 p3 st_PMAX h0 n0 Z0 E_PMAX F_PMAX S_PMAX (w2_5_hv3 := hv3) (w2_5_hv6 := hn) (w2_5_hv100 := (hv100.trans s5)) (w2_5_c219_c0ft_hb3 := (by decide +kernel)) (w2_5_c219_c0ft_hb22 := (by decide +kernel))
      · by_cases s6 : v100 = 6
        · skip
          exact own_rm_w2_6 l Z a0 hw ws p0 p1 p2 p3 st_PMAX h0 n0 Z0 E_PMAX F_PMAX S_PMAX (w2_6_hv3 := hv3) (w2_6_hv6 := hn) (w2_6_hv100 := (hv100.trans s6)) (w2_6_c219_c0t_hb3 := (by decide +kernel))
        · by_cases s7 : v100 = 7
          · skip
            exact own_rm_w2_7 l Z a0 hw ws p0 p1 p2 p3 st_PMAX h0 n0 Z0 E_PMAX F_PMAX S_PMAX (w2_7_hv3 := hv3) (w2_7_hv6 := hn) (w2_7_hv100 := (hv100.trans s7)) (w2_7_c219_c0ff_hb3 := (by decide +kernel)) (w2_7_c219_c0ff_hb22 := (by decide +kernel))
          · have f106 := XT.ii_ne_t s4
            have f124 := XT.ii_ne_t s5
            have f142 := XT.ii_ne_t s6
            have f160 := XT.ii_ne_t s7
            by_cases c0 : p1.toInt < (0 : Int64).toInt
            · skip
              exact own_rm_w2_n l Z a0 hw ws p0 p1 p2 p3 st_PMAX h0 n0 Z0 E_PMAX F_PMAX S_PMAX (w2_n_hv3 := hv3) (w2_n_hv6 := hn) (w2_n_hv100 := hv100) (w2_n_hb106 := f106) (w2_n_hb124 := f124) (w2_n_hb142 := f142) (w2_n_hb160 := f160) (w2_n_hv178 := hS) (w2_n_hv179 := ha) (w2_n_hn187 := n187) (w2_n_hv187 := hw187) (w2_n_hb193 := (hlt0 c0)) (w2_n_c219_c0t_hb3 := (by rw [z0]; exact decide_eq_true (t0 ▸ c0)))
            · by_cases c1 : a.toInt < p1.toInt
              · skip
                exact own_rm_w2_g l Z a0 hw ws p0 p1 p2 p3 st_PMAX h0 n0 Z0 E_PMAX F_PMAX S_PMAX (w2_g_hv3 := hv3) (w2_g_hv6 := hn) (w2_g_hv100 := hv100) (w2_g_hb106 := f106) (w2_g_hb124 := f124) (w2_g_hb142 := f142) (w2_g_hb160 := f160) (w2_g_hv178 := hS) (w2_g_hv179 := ha) (w2_g_hn187 := n187) (w2_g_hv187 := hw187) (w2_g_hb193 := (hge0 c0)) (w2_g_hb205 := (hgt c1)) (w2_g_c219_c0ft_hb3 := (by rw [z0]; exact decide_eq_false (t0 ▸ c0))) (w2_g_c219_c0ft_hb22 := (by rw [z1]; exact decide_eq_true c1))
              · skip
                exact own_rm_w2_y l Z a0 hw ws p0 p1 p2 p3 st_PMAX h0 n0 Z0 E_PMAX F_PMAX S_PMAX (w2_y_hv3 := hv3) (w2_y_hv6 := hn) (w2_y_hv100 := hv100) (w2_y_hb106 := f106) (w2_y_hb124 := f124) (w2_y_hb142 := f142) (w2_y_hb160 := f160) (w2_y_hv178 := hS) (w2_y_hv179 := ha) (w2_y_hn187 := n187) (w2_y_hv187 := hw187) (w2_y_hb193 := (hge0 c0)) (w2_y_hb205 := (hng c1)) (w2_y_c219_c0ff_hb3 := (by rw [z0]; exact decide_eq_false (t0 ▸ c0))) (w2_y_c219_c0ff_hb22 := (by rw [z1]; exact decide_eq_false c1))
  · by_cases s4 : v100 = 4
    · skip
      exact own_rm_w3_4 l Z a0 hw ws p0 p1 p2 p3 st_EMIN h0 n0 Z0 E_EMIN F_EMIN S_EMIN (w3_4_hv3 := hv3) (w3_4_hv6 := hn) (w3_4_hv100 := (hv100.trans s4)) (w3_4_c219_c1ff_hb3 := (by decide +kernel)) (w3_4_c219_c1ff_hb22 := (by decide +kernel))
    · by_cases s5 : v100 = 5
      · skip
        exact own_rm_w3_5 l Z a0 hw ws p0 p1 p2 p3 st_EMIN h0 n0 Z0 E_EMIN F_EMIN S_EMIN (w3_5_hv3 := hv3) (w3_5_hv6 := hn) (w3_5_hv100 := (hv100.trans s5)) (w3_5_c219_c1ft_hb3 := (by decide +kernel)) (w3_5_c219_c1ft_hb22 := (by decide +kernel))
      · by_cases s6 : v100 = 6
        · skip
          exact own_rm_w3_6 l Z a0 hw ws p0 p1 p2 p3 st_EMIN h0 n0 Z0 E_EMIN F_EMIN S_EMIN (w3_6_hv3 := hv3) (w3_6_hv6 := hn) (w3_6_hv100 := (hv100.trans s6)) (w3_6_c219_c1t_hb3 := (by decide +kernel))
        · by_cases s7 : v100 = 7
          · skip
            exact own_rm_w3_7 l Z a0 hw ws p0 p1 p2 p3 st_EMIN h0 n0 Z0 E_EMIN F_EMIN S_EMIN (w3_7_hv3 := hv3) (w3_7_hv6 := hn) (w3_7_hv100 := (hv100.trans s7)) (w3_7_c219_c1ff_hb3 := (by decide +kernel)) (w3_7_c219_c1ff_hb22 := (by decide +kernel))
          · have f106 := XT.ii_ne_t s4
            have f124 := XT.ii_ne_t s5
            have f142 := XT.ii_ne_t s6
            have f160 := XT.ii_ne_t s7
            by_cases c0 : p1.toInt < (0 : Int64).toInt
            · skip
              exact own_rm_w3_n l Z a0 hw ws p0 p1 p2 p3 st_EMIN h0 n0 Z0 E_EMIN F_EMIN S_EMIN (w3_n_hv3 := hv3) (w3_n_hv6 := hn) (w3_n_hv100 := hv100) (w3_n_hb106 := f106) (w3_n_hb124 := f124) (w3_n_hb142 := f142) (w3_n_hb160 := f160) (w3_n_hv178 := hS) (w3_n_hv179 := ha) (w3_n_hn187 := n187) (w3_n_hv187 := hw187) (w3_n_hb193 := (hlt0 c0)) (w3_n_c219_c1t_hb3 := (by rw [z0]; exact decide_eq_true (t0 ▸ c0)))
            · skip
              exact own_rm_w3_y l Z a0 hw ws p0 p1 p2 p3 st_EMIN h0 n0 Z0 E_EMIN F_EMIN S_EMIN (w3_y_hv3 := hv3) (w3_y_hv6 := hn) (w3_y_hv100 := hv100) (w3_y_hb106 := f106) (w3_y_hb124 := f124) (w3_y_hb142 := f142) (w3_y_hb160 := f160) (w3_y_hv178 := hS) (w3_y_hv179 := ha) (w3_y_hn187 := n187) (w3_y_hv187 := hw187) (w3_y_hb193 := (hge0 c0)) (w3_y_c219_c1ff_hb3 := (by rw [z0]; exact decide_eq_false (t0 ▸ c0))) (w3_y_c219_c1ff_hb22 := (zM (by rw [t0] at c0; omega)))
  · by_cases s4 : v100 = 4
    · skip
      exact own_rm_w4_4 l Z a0 hw ws p0 p1 p2 p3 st_EMAX h0 n0 Z0 E_EMAX F_EMAX S_EMAX (w4_4_hv3 := hv3) (w4_4_hv6 := hn) (w4_4_hv100 := (hv100.trans s4)) (w4_4_c219_c1ff_hb3 := (by decide +kernel)) (w4_4_c219_c1ff_hb22 := (by decide +kernel))
    · by_cases s5 : v100 = 5
      · skip
        exact own_rm_w4_5 l Z a0 hw ws p0 p1 p2 p3 st_EMAX h0 n0 Z0 E_EMAX F_EMAX S_EMAX (w4_5_hv3 := hv3) (w4_5_hv6 := hn) (w4_5_hv100 := (hv100.trans s5)) (w4_5_c219_c1ft_hb3 := (by decide +kernel)) (w4_5_c219_c1ft_hb22 := (by decide +kernel))
      · by_cases s6 : v100 = 6
        · skip
          exact own_rm_w4_6 l Z a0 hw ws p0 p1 p2 p3 st_EMAX h0 n0 Z0 E_EMAX F_EMAX S_EMAX (w4_6_hv3 := hv3) (w4_6_hv6 := hn) (w4_6_hv100 := (hv100.trans s6)) (w4_6_c219_c1t_hb3 := (by decide +kernel))
        · by_cases s7 : v100 = 7
          · skip
            exact own_rm_w4_7 l Z a0 hw ws p0 p1 p2 p3 st_EMAX h0 n0 Z0 E_EMAX F_EMAX S_EMAX (w4_7_hv3 := hv3) (w4_7_hv6 := hn) (w4_7_hv100 := (hv100.trans s7)) (w4_7_c219_c1ff_hb3 := (by decide +kernel)) (w4_7_c219_c1ff_hb22 := (by decide +kernel))
          · have f106 := XT.ii_ne_t s4
            have f124 := XT.ii_ne_t s5
            have f142 := XT.ii_ne_t s6
            have f160 := XT.ii_ne_t s7
            by_cases c0 : p1.toInt < (0 : Int64).toInt
            · skip
              exact own_rm_w4_n l Z a0 hw ws p0 p1 p2 p3 st_EMAX h0 n0 Z0 E_EMAX F_EMAX S_EMAX (w4_n_hv3 := hv3) (w4_n_hv6 := hn) (w4_n_hv100 := hv100) (w4_n_hb106 := f106) (w4_n_hb124 := f124) (w4_n_hb142 := f142) (w4_n_hb160 := f160) (w4_n_hv178 := hS) (w4_n_hv179 := ha) (w4_n_hn187 := n187) (w4_n_hv187 := hw187) (w4_n_hb193 := (hlt0 c0)) (w4_n_c219_c1t_hb3 := (by rw [z0]; exact decide_eq_true (t0 ▸ c0)))
            · skip
              exact own_rm_w4_y l Z a0 hw ws p0 p1 p2 p3 st_EMAX h0 n0 Z0 E_EMAX F_EMAX S_EMAX (w4_y_hv3 := hv3) (w4_y_hv6 := hn) (w4_y_hv100 := hv100) (w4_y_hb106 := f106) (w4_y_hb124 := f124) (w4_y_hb142 := f142) (w4_y_hb160 := f160) (w4_y_hv178 := hS) (w4_y_hv179 := ha) (w4_y_hn187 := n187) (w4_y_hv187 := hw187) (w4_y_hb193 := (hge0 c0)) (w4_y_c219_c1ff_hb3 := (by rw [z0]; exact decide_eq_false (t0 ▸ c0))) (w4_y_c219_c1ff_hb22 := (zM (by rw [t0] at c0; omega)))
  · by_cases s4 : v100 = 4
    · skip
      exact own_rm_w5_4 l Z a0 hw ws p0 p1 p2 p3 st_E h0 n0 Z0 E_E F_E S_E (w5_4_hv3 := hv3) (w5_4_hv6 := hn) (w5_4_hv100 := (hv100.trans s4)) (w5_4_c219_c1ff_hb3 := (by decide +kernel)) (w5_4_c219_c1ff_hb22 := (by decide +kernel))
    · by_cases s5 : v100 = 5
      · skip
        exact own_rm_w5_5 l Z a0 hw ws p0 p1 p2 p3 st_E h0 n0 Z0 E_E F_E S_E (w5_5_hv3 := hv3) (w5_5_hv6 := hn) (w5_5_hv100 := (hv100.trans s5)) (w5_5_c219_c1ft_hb3 := (by decide +kernel)) (w5_5_c219_c1ft_hb22 := (by decide +kernel))
      · by_cases s6 : v100 = 6
        · skip
          exact own_rm_w5_6 l Z a0 hw ws p0 p1 p2 p3 st_E h0 n0 Z0 E_E F_E S_E (w5_6_hv3 := hv3) (w5_6_hv6 := hn) (w5_6_hv100 := (hv100.trans s6)) (w5_6_c219_c1t_hb3 := (by decide +kernel))
        · by_cases s7 : v100 = 7
          · skip
            exact own_rm_w5_7 l Z a0 hw ws p0 p1 p2 p3 st_E h0 n0 Z0 E_E F_E S_E (w5_7_hv3 := hv3) (w5_7_hv6 := hn) (w5_7_hv100 := (hv100.trans s7)) (w5_7_c219_c1ff_hb3 := (by decide +kernel)) (w5_7_c219_c1ff_hb22 := (by decide +kernel))
          · have f106 := XT.ii_ne_t s4
            have f124 := XT.ii_ne_t s5
            have f142 := XT.ii_ne_t s6
            have f160 := XT.ii_ne_t s7
            by_cases c0 : p1.toInt < (0 : Int64).toInt
            · skip
              exact own_rm_w5_n l Z a0 hw ws p0 p1 p2 p3 st_E h0 n0 Z0 E_E F_E S_E (w5_n_hv3 := hv3) (w5_n_hv6 := hn) (w5_n_hv100 := hv100) (w5_n_hb106 := f106) (w5_n_hb124 := f124) (w5_n_hb142 := f142) (w5_n_hb160 := f160) (w5_n_hv178 := hS) (w5_n_hv179 := ha) (w5_n_hn187 := n187) (w5_n_hv187 := hw187) (w5_n_hb193 := (hlt0 c0)) (w5_n_c219_c1t_hb3 := (by rw [z0]; exact decide_eq_true (t0 ▸ c0)))
            · skip
              exact own_rm_w5_y l Z a0 hw ws p0 p1 p2 p3 st_E h0 n0 Z0 E_E F_E S_E (w5_y_hv3 := hv3) (w5_y_hv6 := hn) (w5_y_hv100 := hv100) (w5_y_hb106 := f106) (w5_y_hb124 := f124) (w5_y_hb142 := f142) (w5_y_hb160 := f160) (w5_y_hv178 := hS) (w5_y_hv179 := ha) (w5_y_hn187 := n187) (w5_y_hv187 := hw187) (w5_y_hb193 := (hge0 c0)) (w5_y_c219_c1ff_hb3 := (by rw [z0]; exact decide_eq_false (t0 ▸ c0))) (w5_y_c219_c1ff_hb22 := (zM (by rw [t0] at c0; omega)))
set_option maxRecDepth 65536 in
set_option maxHeartbeats 40000000 in
theorem comes_1 {Post : Tables → Env → Array Value → State → Outcome → State → Prop} (hpost : ∀ tb e args s v u, (limb_1_1.after args s (.returned v) u = true ∧ limb_1_2.after args s (.returned v) u = true ∧ True) → FrameEnd s (.returned v) u (Jvm.fieldLocs frame_1_writes args s ++ Jvm.arrayLocs frame_1_arrays args s ++ Jvm.staticLocs frame_1_statics s) 0 0 → Post tb e args s (.returned v) u) :
    ArmFor flags0 classFile x code maxLocals ret World_1 tables_1 room_1 Calls_1 rest_1 Pre_1 Post := by
  intro l hfl _ _ p e ha hc hk s m args below hf hA hF happ hP
  obtain ⟨hcalls, hrest, hpre⟩ := hP
  obtain ⟨-, -, -, hnamed, -, -, -, hat⟩ := (Spec.applies_iff hf).mp happ
  obtain ⟨hg, hn⟩ := and_e (Cond.before_iff.mp (show (Jvm.Cond.and given_1 narrow_1).before args s = true from hpre))
  obtain ⟨hcount, g0⟩ := and_e hg
  obtain ⟨a0, g1⟩ := and_e g0
  obtain ⟨a1, g2⟩ := and_e g1
  obtain ⟨a2, g3⟩ := and_e g2
  have a3 := g3
  obtain ⟨w0, w1, w2, w3, rfl⟩ : ∃ w0 w1 w2 w3 : Value, args = #[w0, w1, w2, w3] := by
    have hs : args.size = 4 := by simpa [Cond.value, given_1] using hcount
    obtain ⟨L⟩ := args
    match L, hs with
    | [w0, w1, w2, w3], _ => exact ⟨w0, w1, w2, w3, rfl⟩
  have hw := fun d (hd : d ∈ tables_1) => atoms_spec (ws := Jvm.Cond.code x code maxLocals ret :: tables_1) hat d (List.mem_cons_of_mem _ hd)
  have hfit : Fit s := fun {y c} hc i hi => by
    obtain ⟨ha, rfl⟩ := Array.getElem?_eq_some_iff.mp hc
    have q := List.all_eq_true.mp ((Array.all_eq_true_iff_forall_mem.mp hF) _ (Array.getElem_mem ha)) i (List.mem_range.mpr hi)
    simpa [Array.getElem?_eq_getElem hi] using q
  obtain ⟨x1a, x1b⟩ := and_e hn
  obtain ⟨x2a, x2b⟩ := and_e x1b
  obtain ⟨x3a, x3b⟩ := and_e x2b
  obtain ⟨x4a, x4b⟩ := and_e x3b
  obtain ⟨x5a, x5b⟩ := and_e x4b
  obtain ⟨x6a, x6b⟩ := and_e x5b
  obtain ⟨x7a, x7b⟩ := and_e x6b
  obtain ⟨x8a, x8b⟩ := and_e x7b
  obtain ⟨x9a, x9b⟩ := and_e x8b
  obtain ⟨x10a, x10b⟩ := and_e x9b
  obtain ⟨x11a, x11b⟩ := and_e x10b
  obtain ⟨st_P, ev_P⟩ := exa_v x1a
  have E_P := Exa.start ev_P x1a
  have F_P := Fld.start (own_eqF ev_P x2a)
  have S_P := Sta.start ev_P (Or.inr ⟨hw _ (List.mem_of_getElem? (i := 2) rfl), hw _ (List.mem_of_getElem? (i := 3) rfl)⟩)
  obtain ⟨st_PMIN, ev_PMIN⟩ := exa_v x7a
  have E_PMIN := Exa.start ev_PMIN x7a
  have F_PMIN := Fld.start (own_eqF ev_PMIN x9a)
  have S_PMIN := Sta.start ev_PMIN (Or.inr ⟨hw _ (List.mem_of_getElem? (i := 2) rfl), hw _ (List.mem_of_getElem? (i := 18) rfl)⟩)
  obtain ⟨st_PMAX, ev_PMAX⟩ := exa_v x5a
  have E_PMAX := Exa.start ev_PMAX x5a
  have F_PMAX := Fld.start (own_eqF ev_PMAX x6a)
  have S_PMAX := Sta.start ev_PMAX (Or.inr ⟨hw _ (List.mem_of_getElem? (i := 2) rfl), hw _ (List.mem_of_getElem? (i := 16) rfl)⟩)
  obtain ⟨st_EMIN, ev_EMIN⟩ := exa_v x3a
  have E_EMIN := Exa.start ev_EMIN x3a
  have F_EMIN := Fld.start (own_eqF ev_EMIN x4a)
  have S_EMIN := Sta.start ev_EMIN (Or.inr ⟨hw _ (List.mem_of_getElem? (i := 2) rfl), hw _ (List.mem_of_getElem? (i := 12) rfl)⟩)
  obtain ⟨st_EMAX, ev_EMAX⟩ := exa_v x8a
  have E_EMAX := Exa.start ev_EMAX x8a
  have F_EMAX := Fld.start (own_eqF ev_EMAX x11a)
  have S_EMAX := Sta.start ev_EMAX (Or.inr ⟨hw _ (List.mem_of_getElem? (i := 2) rfl), hw _ (List.mem_of_getElem? (i := 22) rfl)⟩)
  obtain ⟨st_E, ev_E⟩ := exa_v x10a
  have E_E := Exa.start ev_E x10a
  have F_E := Fld.start (own_eqF ev_E x11b)
  have S_E := Sta.start ev_E (Or.inr ⟨hw _ (List.mem_of_getElem? (i := 2) rfl), hw _ (List.mem_of_getElem? (i := 25) rfl)⟩)
  obtain ⟨i0, ei0⟩ := is_v a0
  obtain rfl : w0 = (.int i0) := Option.some.inj ei0
  obtain ⟨i1, ei1⟩ := isL_v a1
  obtain rfl : w1 = (.long i1) := Option.some.inj ei1
  obtain ⟨i2, ei2⟩ := is_v a2
  obtain rfl : w2 = (.int i2) := Option.some.inj ei2
  obtain ⟨i3, ei3⟩ := is_v a3
  obtain rfl : w3 = (.int i3) := Option.some.inj ei3
  obtain ⟨n, o, h1, h2, h3, _, L, rfl, ⟨rfl, N⟩, hq⟩ := own_rm0 l s _ hw tables_1 i0 i1 i2 i3 s.heap s.heap.size (Nat.le_refl _) st_P E_P F_P S_P st_PMIN E_PMIN F_PMIN S_PMIN st_PMAX E_PMAX F_PMAX S_PMAX st_EMIN E_EMIN F_EMIN S_EMIN st_EMAX E_EMAX F_EMAX S_EMAX st_E E_E F_E S_E p e ha hc hk s m _ below hf ((Spec.applies_iff_loose hf).mp happ).1 ⟨rfl, State.Warmed39.refl s, rfl⟩ trivial
  refine ⟨n, _, h1, h2, h3, hpost _ _ _ _ _ _ ⟨Cond.after_iff.mpr rfl, Cond.after_iff.mpr (eq_i res_at (Term.int_eval (1)) rfl), trivial⟩ ⟨hq.1, hq.2.1, (hq.2.2.sift fun y hy => Or.inr (N y hy)).mono (by decide) (by decide)⟩⟩
theorem main_1_1 : Claimed_1_1 := comes_1 fun _ _ _ _ _ _ h hF => ⟨h.1, hF⟩
theorem main_1_2 : Claimed_1_2 := comes_1 fun _ _ _ _ _ _ h hF => ⟨h.2.1, hF⟩
end Jvm.Pilot.@@N@@
namespace Jvm.Pilot.@@N@@
open Jvm Jvm.ClassFile Sem Op Lib Jvm.Free Jvm.Stand Jvm.Pilot.@@N@@.Jvm.D
/-! MADE BY PROGRAM (witnessworld.py) out of the Statement's table words and the real class files: 12 classes; the members and pool entries that the words name. The judged class is class 1, her method 1. -/
namespace start1
open Jvm.ClassFile
def u (s : String) : CpInfo := .utf8 (stringToUtf16 s)
/-- a pool by its gaps: so many unusable entries, then the entry; so many at the end -/
def gap : Nat → List CpInfo → List CpInfo
  | 0, r => r
  | n + 1, r => .unusable :: gap n r
def poolList (es : List (Nat × CpInfo)) (last : Nat) : List CpInfo := es.foldr (fun e r => gap e.1 (e.2 :: r)) (gap last [])
def pool (es : List (Nat × CpInfo)) (last : Nat) : Array CpInfo := ⟨poolList es last⟩
def fileOf (pool : Array CpInfo) (this : Nat) (attrs : Array Attribute := #[]) (ms : Array MethodInfo := #[]) (fl : Nat := 33) (sup : Nat := 0) (ifs : Array Nat := #[]) (fds : Array FieldInfo := #[]) : ClassFile where
  minorVersion := 0
  majorVersion := 65
  constantPool := pool
  accessFlags := fl
  thisClass := this
  superClass := sup
  interfaces := ifs
  fields := fds
  methods := ms
  attributes := attrs
def plain (name : String) (sup : Option ClassId) : Class where
  name := name
  kind := .ordinary
  loader := none
  accessFlags := 33
  super := sup
  interfaces := #[]
  cf := none
  fields := #[]
  methods := #[]
  instanceTypes := #[]
  staticTypes := #[]
  resolved := #[]
  callSites := []
  init := .initialized
  statics := none
  mirror := none

def pool0 : Array CpInfo := pool [(5, u "<init>"), (0, u "()V"), (1, .class_ 10), (1, u "java/lang/Object")] 113

def k0m0 : Method := { name := "<init>", desc := "()V", sig := { parameters := [], returnType := none }, accessFlags := 1, code := none }
/-- java/lang/Object -/
def k0 : Class := { plain "java/lang/Object" none with
  accessFlags := 33
  interfaces := #[]
  cf := some (fileOf pool0 8 #[] #[{ accessFlags := 1, nameIndex := 5, descriptorIndex := 6, attributes := #[] }] 33 0 #[] #[])
  fields := #[]
  methods := #[k0m0]
  instanceTypes := #[]
  staticTypes := #[]
  resolved := Array.replicate 124 none
  statics := none }

def pool1 : Array CpInfo := pool [(2, .class_ 4), (1, u "java/lang/Object"), (0, u "<init>"), (0, u "()V"), (0, .integer 2147483647), (0, .fieldref 9 10), (0, .class_ 11), (0, .nameAndType 12 13), (0, u "com/example/libcredal/libcredal/checker/Query$Operator"), (0, u "P"), (0, u "Lcom/example/libcredal/libcredal/checker/Query$Operator;"), (0, .fieldref 9 15), (0, .nameAndType 16 13), (0, u "PMIN"), (0, .fieldref 9 18), (0, .nameAndType 19 13), (0, u "PMAX"), (0, .fieldref 9 21), (0, .nameAndType 22 13), (0, u "EMIN"), (0, .fieldref 9 24), (0, .nameAndType 25 13), (0, u "EMAX"), (0, .fieldref 9 27), (0, .nameAndType 28 13), (0, u "E"), (2, .double 9218868437227405311), (1, .double 9218868437227405312), (1, .double 18442240474082181120), (1, .double 9223372036854775808), (1, .methodref 9 40), (0, .nameAndType 41 42), (0, u "admits"), (0, u "(D)Z"), (0, .class_ 44), (0, u "com/example/libcredal/libcredal/checker/OperatorAdmitsPinLaw"), (2, u "law"), (0, u "(IJII)Z")] 7

def k1m0 : Method := { name := "<init>", desc := "()V", sig := { parameters := [], returnType := none }, accessFlags := 1, code := none }
def k1c1 : Code := { maxStack := 4, maxLocals := 14, code := code, exceptionTable := #[], attributes := #[] }
def k1m1 : Method := { name := "law", desc := "(IJII)Z", sig := { parameters := [.int, .long, .int, .int], returnType := some .boolean }, accessFlags := 9, code := some k1c1 }
/-- com/example/libcredal/libcredal/checker/OperatorAdmitsPinLaw -/
def k1 : Class := { plain "com/example/libcredal/libcredal/checker/OperatorAdmitsPinLaw" (some 0) with
  accessFlags := 49
  interfaces := #[]
  cf := some (fileOf pool1 43 #[] #[{ accessFlags := 1, nameIndex := 5, descriptorIndex := 6, attributes := #[] }, { accessFlags := 9, nameIndex := 47, descriptorIndex := 48, attributes := #[] }] 49 2 #[] #[])
  fields := #[]
  methods := #[k1m0, k1m1]
  instanceTypes := #[]
  staticTypes := #[]
  resolved := Array.replicate 56 none
  statics := none }

def pool2 : Array CpInfo := pool [(1, .class_ 2), (0, u "java/lang/constant/Constable"), (0, .class_ 4), (0, u "java/lang/Object")] 6

/-- java/lang/constant/Constable -/
def k2 : Class := { plain "java/lang/constant/Constable" (some 0) with
  accessFlags := 1537
  interfaces := #[]
  cf := some (fileOf pool2 1 #[] #[] 1537 3 #[] #[])
  fields := #[]
  methods := #[]
  instanceTypes := #[]
  staticTypes := #[]
  resolved := Array.replicate 11 none
  statics := none }

def pool3 : Array CpInfo := pool [(1, .class_ 2), (0, u "java/lang/Comparable"), (0, .class_ 4), (0, u "java/lang/Object")] 7

/-- java/lang/Comparable -/
def k3 : Class := { plain "java/lang/Comparable" (some 0) with
  accessFlags := 1537
  interfaces := #[]
  cf := some (fileOf pool3 1 #[] #[] 1537 3 #[] #[])
  fields := #[]
  methods := #[]
  instanceTypes := #[]
  staticTypes := #[]
  resolved := Array.replicate 12 none
  statics := none }

def pool4 : Array CpInfo := pool [(1, .class_ 2), (0, u "java/io/Serializable"), (0, .class_ 4), (0, u "java/lang/Object")] 2

/-- java/io/Serializable -/
def k4 : Class := { plain "java/io/Serializable" (some 0) with
  accessFlags := 1537
  interfaces := #[]
  cf := some (fileOf pool4 1 #[] #[] 1537 3 #[] #[])
  fields := #[]
  methods := #[]
  instanceTypes := #[]
  staticTypes := #[]
  resolved := Array.replicate 7 none
  statics := none }

def pool5 : Array CpInfo := pool [(2, .class_ 4), (1, u "java/lang/Enum"), (0, u "name"), (0, u "Ljava/lang/String;"), (2, u "ordinal"), (0, u "I"), (1, .class_ 14), (1, u "java/lang/Object"), (4, u "hash"), (86, .class_ 108), (1, u "java/lang/Enum$EnumDesc"), (2, .class_ 112), (0, u "java/lang/constant/Constable"), (0, .class_ 114), (0, u "java/lang/Comparable"), (0, .class_ 116), (0, u "java/io/Serializable")] 87

/-- java/lang/Enum -/
def k5 : Class := { plain "java/lang/Enum" (some 0) with
  accessFlags := 1057
  interfaces := #[2, 3, 4]
  cf := some (fileOf pool5 2 #[.nestMembers #[106]] #[] 1057 12 #[111, 113, 115] #[{ accessFlags := 18, nameIndex := 5, descriptorIndex := 6, attributes := #[] }, { accessFlags := 18, nameIndex := 9, descriptorIndex := 10, attributes := #[] }, { accessFlags := 2, nameIndex := 19, descriptorIndex := 10, attributes := #[] }])
  fields := #[{ name := "name", type := (.object "java/lang/String"), accessFlags := 18, slot := 0, constantValue := 0 }, { name := "ordinal", type := .int, accessFlags := 18, slot := 1, constantValue := 0 }, { name := "hash", type := .int, accessFlags := 2, slot := 2, constantValue := 0 }]
  methods := #[]
  instanceTypes := #[(.object "java/lang/String"), .int, .int]
  staticTypes := #[]
  resolved := Array.replicate 204 none
  statics := none }

def pool6 : Array CpInfo := pool [(1, .class_ 2), (0, u "com/example/libcredal/libcredal/checker/Query$Operator"), (2, u "P"), (0, u "Lcom/example/libcredal/libcredal/checker/Query$Operator;"), (2, u "PMIN"), (2, u "PMAX"), (2, u "EMIN"), (2, u "EMAX"), (2, u "E"), (2, u "$VALUES"), (0, u "[Lcom/example/libcredal/libcredal/checker/Query$Operator;"), (6, .class_ 34), (1, u "java/lang/Enum"), (8, u "word"), (0, u "Ljava/lang/String;"), (0, .fieldref 1 46), (0, .nameAndType 47 48), (0, u "reward"), (0, u "Z"), (2, u "end"), (0, u "Lcom/example/libcredal/libcredal/core/Bound;"), (2, .double 9218868437227405311), (41, u "admits"), (0, u "(D)Z"), (7, .class_ 107), (0, u "com/example/libcredal/libcredal/checker/Query")] 2

def k6c0 : Code := { maxStack := 4, maxLocals := 3, code := prog_17_method_7_code, exceptionTable := #[], attributes := #[] }
def k6m0 : Method := { name := "admits", desc := "(D)Z", sig := { parameters := [.double], returnType := some .boolean }, accessFlags := 1, code := some k6c0 }
/-- com/example/libcredal/libcredal/checker/Query$Operator -/
def k6 : Class := { plain "com/example/libcredal/libcredal/checker/Query$Operator" (some 5) with
  accessFlags := 16433
  interfaces := #[]
  cf := some (fileOf pool6 1 #[.nestHost 106] #[{ accessFlags := 1, nameIndex := 97, descriptorIndex := 98, attributes := #[] }] 16433 32 #[] #[{ accessFlags := 16409, nameIndex := 5, descriptorIndex := 6, attributes := #[] }, { accessFlags := 16409, nameIndex := 9, descriptorIndex := 6, attributes := #[] }, { accessFlags := 16409, nameIndex := 12, descriptorIndex := 6, attributes := #[] }, { accessFlags := 16409, nameIndex := 15, descriptorIndex := 6, attributes := #[] }, { accessFlags := 16409, nameIndex := 18, descriptorIndex := 6, attributes := #[] }, { accessFlags := 16409, nameIndex := 21, descriptorIndex := 6, attributes := #[] }, { accessFlags := 18, nameIndex := 43, descriptorIndex := 44, attributes := #[] }, { accessFlags := 18, nameIndex := 47, descriptorIndex := 48, attributes := #[] }, { accessFlags := 18, nameIndex := 51, descriptorIndex := 52, attributes := #[] }, { accessFlags := 4122, nameIndex := 24, descriptorIndex := 25, attributes := #[] }])
  fields := #[{ name := "P", type := (.object "com/example/libcredal/libcredal/checker/Query$Operator"), accessFlags := 16409, slot := 0, constantValue := 0 }, { name := "PMIN", type := (.object "com/example/libcredal/libcredal/checker/Query$Operator"), accessFlags := 16409, slot := 1, constantValue := 0 }, { name := "PMAX", type := (.object "com/example/libcredal/libcredal/checker/Query$Operator"), accessFlags := 16409, slot := 2, constantValue := 0 }, { name := "EMIN", type := (.object "com/example/libcredal/libcredal/checker/Query$Operator"), accessFlags := 16409, slot := 3, constantValue := 0 }, { name := "EMAX", type := (.object "com/example/libcredal/libcredal/checker/Query$Operator"), accessFlags := 16409, slot := 4, constantValue := 0 }, { name := "E", type := (.object "com/example/libcredal/libcredal/checker/Query$Operator"), accessFlags := 16409, slot := 5, constantValue := 0 }, { name := "word", type := (.object "java/lang/String"), accessFlags := 18, slot := 3, constantValue := 0 }, { name := "reward", type := .boolean, accessFlags := 18, slot := 4, constantValue := 0 }, { name := "end", type := (.object "com/example/libcredal/libcredal/core/Bound"), accessFlags := 18, slot := 5, constantValue := 0 }, { name := "$VALUES", type := (.array (.object "com/example/libcredal/libcredal/checker/Query$Operator")), accessFlags := 4122, slot := 6, constantValue := 0 }]
  methods := #[k6m0]
  instanceTypes := #[(.object "java/lang/String"), .int, .int, (.object "java/lang/String"), .boolean, (.object "com/example/libcredal/libcredal/core/Bound")]
  staticTypes := #[(.object "com/example/libcredal/libcredal/checker/Query$Operator"), (.object "com/example/libcredal/libcredal/checker/Query$Operator"), (.object "com/example/libcredal/libcredal/checker/Query$Operator"), (.object "com/example/libcredal/libcredal/checker/Query$Operator"), (.object "com/example/libcredal/libcredal/checker/Query$Operator"), (.object "com/example/libcredal/libcredal/checker/Query$Operator"), (.array (.object "com/example/libcredal/libcredal/checker/Query$Operator"))]
  resolved := Array.replicate 110 none
  statics := some 0 }

def pool7 : Array CpInfo := pool [(1, u "java/lang/Cloneable"), (0, .class_ 1), (0, u "java/lang/Object"), (0, .class_ 3)] 3

/-- java/lang/Cloneable -/
def k7 : Class := { plain "java/lang/Cloneable" (some 0) with
  accessFlags := 1537
  interfaces := #[]
  cf := some (fileOf pool7 2 #[] #[] 1537 4 #[] #[])
  fields := #[]
  methods := #[]
  instanceTypes := #[]
  staticTypes := #[]
  resolved := Array.replicate 8 none
  statics := none }

/-- the primitive byte -/
def k8 : Class := { plain "byte" none with kind := .primitive 'B', accessFlags := 0x411 }
/-- [B -/
def k9 : Class := { plain "[B" (some 0) with kind := .array 8 .byte, interfaces := #[7, 4], accessFlags := 1041 }

/-- the primitive int -/
def k10 : Class := { plain "int" none with kind := .primitive 'I', accessFlags := 0x411 }
/-- [I -/
def k11 : Class := { plain "[I" (some 0) with kind := .array 10 .int, interfaces := #[7, 4], accessFlags := 1041 }

def heap : Heap := #[{ cls := 6, slots := #[.ref 1, .ref 1, .ref 1, .ref 2, .ref 2, .ref 2, .null], vm := .statics 6 },
  { cls := 6, slots := #[.null, .int 0, .int 0, .null, .int 0, .null], vm := .none },
  { cls := 6, slots := #[.null, .int 0, .int 0, .null, .int 1, .null], vm := .none }]
def classes : Array Class := #[k0, k1, k2, k3, k4, k5, k6, k7, k8, k9, k10, k11]
def interned : List (Array UInt16 × Addr) := []
def slotsUsed : Nat := 19
def theMethod : MethodId := ⟨1, 1⟩
def args0 : Array Value := #[.int 1, .long 2, .int 3, .int 4]
def aboutOver (below : List Frame) : State where
  vm := { classes := classes, interned := interned.toArray }
  heap := heap
  slotsUsed := slotsUsed
  threads := #[{ frames := .invoking theMethod args0 :: below }]
def below0 : List Frame := [.native { method := ⟨0, 0⟩, args := #[] }]
def about1 : State := aboutOver below0
def p0 : Program := .bare "" "" ""
def e0 : Env := launch0.env 0 0 0
theorem w_frames : about1.frames = Frame.invoking theMethod args0 :: below0 := rfl
set_option maxRecDepth 65536 in
theorem w_args : argsFit about1.vm theMethod args0 = true := by decide +kernel
set_option maxRecDepth 65536 in
theorem w_heap : heapFits about1 = true := by decide +kernel
set_option maxRecDepth 65536 in
theorem w_runnable : about1.curStatus? = some .runnable := by decide +kernel
set_option maxRecDepth 65536 in
theorem w_alone : about1.alone = true := by decide +kernel
set_option maxRecDepth 65536 in
theorem w_named : about1.methodNamed? x = some theMethod := by decide +kernel
set_option maxRecDepth 65536 in
theorem w_hears : about1.hears theMethod below0 = true := by decide +kernel
set_option maxRecDepth 65536 in
theorem w_ripe : about1.ripe theMethod args0 below0 = true := by decide +kernel
theorem w_running : about1.status = .running := rfl
set_option maxRecDepth 65536 in
theorem w_room : about1.hasRoom e0.platform room_1 = true :=
  launch0.hasRoom_least _ room_1 (by decide +kernel) (by decide +kernel) (by decide +kernel) (by decide +kernel) (by decide +kernel) (by decide +kernel)
theorem allAtoms_all (ts : List Jvm.Cond) (a : Array Jvm.Value) (st : Jvm.State) : (allAtoms ts).before a st = ts.all (fun c => c.before a st) := by
  induction ts with
  | nil => rfl
  | cons c t ih =>
    show (Jvm.Cond.and c (allAtoms t)).before a st = _
    rw [Jvm.Cond.before_and, ih, List.all_cons]
def words1 : List Jvm.Cond := Jvm.Cond.code x code maxLocals ret :: tables_1
/-- a 'code' word, met by the world's own term for the bytes: nothing is compared byte by byte -/
theorem code_word {y : MethodName} {bytes : ByteArray} {mx : Nat} {rt : Option FieldType} {a : Array Value} {s : State} {m : MethodId} {meth : Method} {c : Code} (h1 : s.methodNamed? y = some m) (h2 : s.vm.method? m = some meth) (h3 : meth.code = some c) (h4 : c.code = bytes)
    (h5 : (c.maxLocals == mx && c.exceptionTable.isEmpty && decide (c.maxStack ≤ mostOperands) && decide (meth.sig.returnType = rt) && !meth.locks && decide (parseMethodDescriptor y.desc = some meth.sig)) = true) : (Jvm.Cond.code y bytes mx rt).before a s = true := by
  simp only [Bool.and_eq_true, beq_iff_eq, Bool.not_eq_true', decide_eq_true_eq] at h5
  obtain ⟨⟨⟨⟨⟨g1, g2⟩, g3⟩, g4⟩, g5⟩, g6⟩ := h5
  simp [Cond.before, Cond.holds, Cond.value, h1, h2, h3, h4, g1, g2, g3, g4, g5, g6]
def isCode : Jvm.Cond → Bool
  | .code _ _ _ _ => true
  | _ => false
theorem all_split {L : List Jvm.Cond} {P : Jvm.Cond → Bool} (h1 : L.all (fun c => isCode c || P c) = true) (h2 : ∀ c ∈ L.filter isCode, P c = true) : L.all P = true := by
  refine List.all_eq_true.mpr fun c hc => ?_
  have h := List.all_eq_true.mp h1 c hc
  rcases Bool.eq_false_or_eq_true (isCode c) with hi | hi
  · exact h2 c (List.mem_filter.mpr ⟨hc, hi⟩)
  · simpa [hi] using h
set_option maxRecDepth 65536 in
theorem w_c0 : (Jvm.Cond.code x code maxLocals ret).before args0 about1 = true := code_word (m := ⟨1, 1⟩) (meth := k1m1) (c := k1c1) (by decide +kernel) rfl rfl rfl (by decide +kernel)
set_option maxRecDepth 65536 in
theorem w_c1 : (Jvm.Cond.code ({ cls := "com/example/libcredal/libcredal/checker/Query$Operator", name := "admits", desc := "(D)Z" } : Jvm.MethodName) prog_17_method_7_code (3 : Nat) (Option.some Jvm.ClassFile.FieldType.boolean)).before args0 about1 = true := code_word (m := ⟨6, 0⟩) (meth := k6m0) (c := k6c0) (by decide +kernel) rfl rfl rfl (by decide +kernel)
def codes1 : List Jvm.Cond := [Jvm.Cond.code x code maxLocals ret, Jvm.Cond.code ({ cls := "com/example/libcredal/libcredal/checker/Query$Operator", name := "admits", desc := "(D)Z" } : Jvm.MethodName) prog_17_method_7_code (3 : Nat) (Option.some Jvm.ClassFile.FieldType.boolean)]
set_option maxRecDepth 65536 in
theorem codes_eq : words1.filter isCode = codes1 := rfl
theorem w_codes : ∀ c ∈ words1.filter isCode, c.before args0 about1 = true := by
  rw [codes_eq]
  intro c hc
  simp only [codes1, List.mem_cons, List.not_mem_nil, or_false] at hc
  rcases hc with rfl | rfl
  · exact w_c0
  · exact w_c1
set_option maxRecDepth 65536 in
theorem w_t1 : (words1.take 24).all (fun c => isCode c || c.before args0 about1) = true := by decide +kernel
set_option maxRecDepth 65536 in
theorem w_t2 : (words1.drop 24).all (fun c => isCode c || c.before args0 about1) = true := by decide +kernel
theorem w_tables : (allAtoms (Jvm.Cond.code x code maxLocals ret :: tables_1)).before args0 about1 = true := by
  rw [allAtoms_all]
  show words1.all (fun c => c.before args0 about1) = true
  refine all_split ?_ w_codes
  rw [← List.take_append_drop 24 words1, List.all_append, w_t1, w_t2]
  rfl
set_option maxRecDepth 65536 in
theorem w_case : (Jvm.Cond.and given_1 narrow_1).before args0 about1 = true := by decide +kernel
theorem w_applies : (headSpec (Jvm.Cond.code x code maxLocals ret :: tables_1) room_1).applies x e0.platform about1 = true :=
  (Spec.applies_iff w_frames).mpr ⟨w_running, w_runnable, w_alone, w_named, w_hears, w_ripe, w_room, w_tables⟩
theorem atStart : AtStart classFile x code maxLocals ret World_1 tables_1 room_1 Calls_1 rest_1 Pre_1 launch0 p0 e0 about1 theMethod args0 below0 :=
  ⟨lists_1, trivial, launch0.admits_env _ _ _, launch0.least_env, fairChoices_fair.cas, fairChoices_fair.clock, w_frames, w_args, w_heap, w_applies, trivial, trivial, w_case⟩
end start1
theorem witness_1 : WitnessClaimed_1 := ⟨start1.p0, start1.e0, start1.about1, start1.theMethod, start1.args0, start1.below0, start1.atStart⟩
end Jvm.Pilot.@@N@@
