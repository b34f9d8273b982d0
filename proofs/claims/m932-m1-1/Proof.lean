import JvmDerived
import JvmDerived.Pilot.@@N@@Statement
import JvmDerived.Pilot.@@N@@Code
set_option linter.unusedVariables false
set_option linter.unusedSimpArgs false
namespace Jvm.Pilot.@@N@@
section OwnFP
open Jvm.FP.Core
/-! Exact doubles: own_Is x n e says that the double x is finite and worth n * 2^e. -/
def own_Is (x : UInt64) (n : Int) (e : Int) : Prop := DFin x ∧ -1074 ≤ e ∧ zval b64 (val64 x) = n * ((2 ^ (e + 1074).toNat : Nat) : Int)
theorem own_qmax : b64.qmax = 971 := by decide
theorem own_pp : b64.p = 53 := rfl
theorem own_powc {a b u v : Nat} (h : a * 2 ^ u = b * 2 ^ v) {w : Int} (hw : w = (u : Int) - v) : a * 2 ^ w.toNat = b * 2 ^ (-w).toNat := by
  subst hw
  have hu : u = ((u : Int) - v).toNat + min u v := by omega
  have hv : v = (-((u : Int) - v)).toNat + min u v := by omega
  have h2 : a * 2 ^ (((u : Int) - v).toNat + min u v) = b * 2 ^ ((-((u : Int) - v)).toNat + min u v) := by rw [← hu, ← hv]; exact h
  rw [Nat.pow_add, Nat.pow_add, ← Nat.mul_assoc, ← Nat.mul_assoc] at h2
  exact Nat.eq_of_mul_eq_mul_right (Nat.two_pow_pos _) h2
theorem own_signed_abs (s : Bool) (c : Nat) : (signed s c).natAbs = c := by cases s <;> simp [signed]
theorem own_signed_mul (s t : Bool) (c d : Nat) : signed (s != t) (c * d) = signed s c * signed t d := by
  cases s <;> cases t <;> simp [signed, Int.natCast_mul, Int.neg_mul, Int.mul_neg]
theorem own_signed_scale (s : Bool) (c d : Nat) : signed s (c * d) = signed s c * (d : Int) := by cases s <;> simp [signed, Int.natCast_mul, Int.neg_mul]
theorem own_round {s : Bool} {c : Nat} {q : Int} {M : Nat} {e : Int} (h2 : -2148 ≤ q) (hM : M < 9007199254740992) (he1 : -1074 ≤ e) (he2 : e ≤ 971) (h : inUnits c q (-2148) = M * 2 ^ (e + 2148).toNat) :
    ∃ c' q', round b64 (.fin s c q) = .fin s c' q' ∧ inUnits c' q' b64.qmin = M * 2 ^ (e + 1074).toNat := by
  have hq : b64.qmin = -1074 := qmin_b64
  obtain ⟨c', q', h1, h3⟩ := round_exact good_b64 s (c := M) (q := e) (show M < 2 ^ 53 from hM) (by rw [hq]; omega) (by rw [own_qmax]; omega)
  refine ⟨c', q', ?_, ?_⟩
  · rw [← h1]
    show roundRatio b64 s c 1 q = roundRatio b64 s M 1 e
    refine roundRatio_congr (by decide) (by decide) ?_
    unfold inUnits at h
    have h4 := own_powc (u := (q - -2148).toNat) (v := (e + 2148).toNat) h (w := q - e) (by omega)
    rw [Nat.mul_one, Nat.mul_one, h4, show -(q - e) = e - q by omega]
  · rw [h3]; unfold inUnits; rw [hq, show e - -1074 = e + 1074 by omega]
theorem own_fin_split {x : UInt64} {n e : Int} (h : own_Is x n e) : ∃ s c q, val64 x = .fin s c q ∧ Jvm.FP.Core.fits b64 (.fin s c q) ∧ signed s (inUnits c q b64.qmin) = n * ((2 ^ (e + 1074).toNat : Nat) : Int) ∧ -1074 ≤ q := by
  obtain ⟨⟨s, c, q, hv⟩, he, hz⟩ := h
  have hf := val64_fits x
  rw [hv] at hf hz
  have := hf.2.1
  rw [qmin_b64] at this
  exact ⟨s, c, q, hv, hf, hz, this⟩
theorem own_Is_of {x : UInt64} {s : Bool} {c : Nat} {q n e : Int} (hv : val64 x = .fin s c q) (he : -1074 ≤ e) (h : signed s (inUnits c q b64.qmin) = n * ((2 ^ (e + 1074).toNat : Nat) : Int)) : own_Is x n e :=
  ⟨⟨s, c, q, hv⟩, he, by rw [hv]; exact h⟩
theorem own_sum {s : Bool} {c : Nat} {q n e : Int} (hq : -1074 ≤ q) (hn : n.natAbs < 9007199254740992) (he1 : -1074 ≤ e) (he2 : e ≤ 971) (h : signed s (inUnits c q b64.qmin) = n * ((2 ^ (e + 1074).toNat : Nat) : Int)) :
    ∃ c' q', round b64 (.fin s c q) = .fin s c' q' ∧ signed s (inUnits c' q' b64.qmin) = n * ((2 ^ (e + 1074).toNat : Nat) : Int) := by
  have h1 : inUnits c q b64.qmin = n.natAbs * 2 ^ (e + 1074).toNat := by
    rw [← own_signed_abs s (inUnits c q b64.qmin), h, Int.natAbs_mul, Int.natAbs_natCast]
  have h2 : inUnits c q (-2148) = n.natAbs * 2 ^ (e + 2148).toNat := by
    rw [inUnits_move c (r := b64.qmin) (by rw [qmin_b64]; omega) (by rw [qmin_b64]; omega), h1, qmin_b64, Nat.mul_assoc, ← Nat.pow_add]
    congr 2; omega
  obtain ⟨c', q', h3, h4⟩ := own_round (s := s) (by omega) hn he1 he2 h2
  exact ⟨c', q', h3, by rw [h4, ← h1, h]⟩
theorem own_add {x y : UInt64} {m n e : Int} (hx : own_Is x m e) (hy : own_Is y n e) (he : e ≤ 971) (hb : (m + n).natAbs < 9007199254740992) : own_Is (dadd x y) (m + n) e := by
  have he1 := hx.2.1
  obtain ⟨s, c, q, vx, fx, zx, -⟩ := own_fin_split hx
  obtain ⟨t, d, r, vy, fy, zy, -⟩ := own_fin_split hy
  obtain ⟨sg, N, E, h1, h2, h3⟩ := sum_units fx fy
  have h4 : signed sg (inUnits N E b64.qmin) = (m + n) * ((2 ^ (e + 1074).toNat : Nat) : Int) := by
    rw [h3, Int.add_mul, ← zx, ← zy]; rfl
  obtain ⟨c', q', h5, h6⟩ := own_sum (by rw [qmin_b64] at h2; exact h2) hb he1 he h4
  exact own_Is_of (by rw [val64_dadd, vx, vy, h1, h5]) he1 h6
theorem own_sub {x y : UInt64} {m n e : Int} (hx : own_Is x m e) (hy : own_Is y n e) (he : e ≤ 971) (hb : (m - n).natAbs < 9007199254740992) : own_Is (dsub x y) (m - n) e := by
  have he1 := hx.2.1
  obtain ⟨s, c, q, vx, fx, zx, -⟩ := own_fin_split hx
  obtain ⟨t, d, r, vy, fy, zy, -⟩ := own_fin_split hy
  have fy' : Jvm.FP.Core.fits b64 (.fin (!t) d r) := fy
  obtain ⟨sg, N, E, h1, h2, h3⟩ := sum_units (t := !t) fx fy'
  have h4 : signed sg (inUnits N E b64.qmin) = (m - n) * ((2 ^ (e + 1074).toNat : Nat) : Int) := by
    rw [h3, Int.sub_mul, ← zx, ← zy]
    show signed s (inUnits c q b64.qmin) + signed (!t) (inUnits d r b64.qmin) = _
    rw [signed_not]; omega
  obtain ⟨c', q', h5, h6⟩ := own_sum (by rw [qmin_b64] at h2; exact h2) hb he1 he h4
  refine own_Is_of (s := sg) (c := c') (q := q') ?_ he1 h6
  rw [val64_dsub, vx, vy]
  show round b64 (exactSum (.fin s c q) (.fin (!t) d r)) = _
  rw [h1, h5]
theorem own_mul {x y : UInt64} {m n e1 e2 e : Int} (hx : own_Is x m e1) (hy : own_Is y n e2) (hee : e1 + e2 = e) (he1 : -1074 ≤ e) (he2 : e ≤ 971) (hb : (m * n).natAbs < 9007199254740992) : own_Is (dmul x y) (m * n) e := by
  subst hee
  have hx1 := hx.2.1
  have hy1 := hy.2.1
  obtain ⟨s, c, q, vx, fx, zx, qx⟩ := own_fin_split hx
  obtain ⟨t, d, r, vy, fy, zy, qy⟩ := own_fin_split hy
  obtain ⟨h1, h2, h3⟩ := product_units fx fy
  have hs : signed (s != t) (inUnits (c * d) (q + r) (-2148)) = (m * n) * ((2 ^ (e1 + e2 + 2148).toNat : Nat) : Int) := by
    have h4 : inUnits (c * d) (q + r) (-2148) = inUnits c q b64.qmin * inUnits d r b64.qmin := by
      have := h3
      rw [qmin_b64] at this ⊢
      exact this
    rw [h4, own_signed_mul, zx, zy, show (e1 + e2 + 2148).toNat = (e1 + 1074).toNat + (e2 + 1074).toNat by omega, Nat.pow_add, Int.natCast_mul]
    simp only [Int.mul_assoc, Int.mul_left_comm, Int.mul_comm]
  have h5 : inUnits (c * d) (q + r) (-2148) = (m * n).natAbs * 2 ^ (e1 + e2 + 2148).toNat := by
    rw [← own_signed_abs (s != t) (inUnits (c * d) (q + r) (-2148)), hs, Int.natAbs_mul, Int.natAbs_natCast]
  obtain ⟨c', q', h6, h7⟩ := own_round (s := (s != t)) (by omega) hb he1 he2 h5
  refine own_Is_of (s := (s != t)) (c := c') (q := q') (by rw [val64_dmul, vx, vy, h1, h6]) he1 ?_
  rw [h5, own_signed_scale] at hs
  have h8 : signed (s != t) (m * n).natAbs = m * n := Int.eq_of_mul_eq_mul_right (by have := Nat.two_pow_pos (e1 + e2 + 2148).toNat; omega) hs
  rw [h7, own_signed_scale, h8]
/-- the quotient of two exact doubles is the rounded ratio of their numbers -/
theorem own_divR {x y : UInt64} {m n e1 e2 : Int} (hx : own_Is x m e1) (hy : own_Is y n e2) (hn : n ≠ 0) :
    val64 (ddiv x y) = roundRatio b64 (sgn (val64 x) != sgn (val64 y)) m.natAbs n.natAbs (e1 - e2) ∧ signed (sgn (val64 x)) m.natAbs = m ∧ signed (sgn (val64 y)) n.natAbs = n := by
  have hx1 := hx.2.1
  have hy1 := hy.2.1
  obtain ⟨s, c, q, vx, fx, zx, qx⟩ := own_fin_split hx
  obtain ⟨t, d, r, vy, fy, zy, qy⟩ := own_fin_split hy
  have ax : inUnits c q b64.qmin = m.natAbs * 2 ^ (e1 + 1074).toNat := by
    rw [← own_signed_abs s (inUnits c q b64.qmin), zx, Int.natAbs_mul, Int.natAbs_natCast]
  have ay : inUnits d r b64.qmin = n.natAbs * 2 ^ (e2 + 1074).toNat := by
    rw [← own_signed_abs t (inUnits d r b64.qmin), zy, Int.natAbs_mul, Int.natAbs_natCast]
  have sx : signed s m.natAbs = m := by
    rw [ax, own_signed_scale] at zx
    exact Int.eq_of_mul_eq_mul_right (by have := Nat.two_pow_pos (e1 + 1074).toNat; omega) zx
  have sy : signed t n.natAbs = n := by
    rw [ay, own_signed_scale] at zy
    exact Int.eq_of_mul_eq_mul_right (by have := Nat.two_pow_pos (e2 + 1074).toNat; omega) zy
  have nn : n.natAbs ≠ 0 := by omega
  have hd : d ≠ 0 := by
    rintro rfl
    have : n.natAbs * 2 ^ (e2 + 1074).toNat = 0 := by rw [← ay]; unfold inUnits; simp
    rcases Nat.mul_eq_zero.mp this with h | h
    · exact nn h
    · have := Nat.two_pow_pos (e2 + 1074).toNat; omega
  refine ⟨?_, by rw [vx]; exact sx, by rw [vy]; exact sy⟩
  rw [val64_ddiv, vx, vy]
  show (if d = 0 then _ else roundRatio b64 (s != t) c d (q - r)) = roundRatio b64 (s != t) _ _ _
  rw [if_neg hd]
  refine roundRatio_congr (by omega) (by omega) ?_
  unfold inUnits at ax ay
  rw [qmin_b64] at ax ay
  have key : c * n.natAbs * 2 ^ ((q - -1074).toNat + (e2 + 1074).toNat) = m.natAbs * d * 2 ^ ((e1 + 1074).toNat + (r - -1074).toNat) := by
    have e3 : c * n.natAbs * 2 ^ ((q - -1074).toNat + (e2 + 1074).toNat) = (c * 2 ^ (q - -1074).toNat) * (n.natAbs * 2 ^ (e2 + 1074).toNat) := by
      rw [Nat.pow_add]; simp only [Nat.mul_assoc, Nat.mul_left_comm, Nat.mul_comm]
    rw [e3, ax, ← ay, Nat.pow_add]
    simp only [Nat.mul_assoc, Nat.mul_left_comm, Nat.mul_comm]
  have h4 := own_powc key (w := (q - r) - (e1 - e2)) (by omega)
  rw [h4, show -((q - r) - (e1 - e2)) = (e1 - e2) - (q - r) by omega]
theorem own_div {x y : UInt64} {m n N e1 e2 e : Int} (hx : own_Is x m e1) (hy : own_Is y n e2) (hn : n ≠ 0) (hm : m = N * n) (hee : e1 - e2 = e) (he1 : -1074 ≤ e) (he2 : e ≤ 971) (hb : N.natAbs < 9007199254740992) : own_Is (ddiv x y) N e := by
  subst hee
  obtain ⟨h1, h2, h3⟩ := own_divR hx hy hn
  have hq : b64.qmin = -1074 := qmin_b64
  obtain ⟨c', q', h5, h6⟩ := round_exact good_b64 (sgn (val64 x) != sgn (val64 y)) (c := N.natAbs) (q := e1 - e2) (show _ < 2 ^ 53 from hb) (by rw [hq]; omega) (by rw [own_qmax]; omega)
  refine own_Is_of (s := (sgn (val64 x) != sgn (val64 y))) (c := c') (q := q') ?_ he1 ?_
  · rw [h1, ← h5]
    show roundRatio _ _ _ _ _ = roundRatio b64 (sgn (val64 x) != sgn (val64 y)) N.natAbs 1 (e1 - e2)
    refine roundRatio_congr (by omega) (by decide) ?_
    rw [hm, Int.natAbs_mul]; simp
  · rw [h6]; unfold inUnits
    rw [hq, show e1 - e2 - -1074 = e1 - e2 + 1074 by omega, own_signed_scale]
    congr 1
    have h7 := own_signed_mul (sgn (val64 x)) (sgn (val64 y)) N.natAbs (n.natAbs * n.natAbs)
    have h8 : signed (sgn (val64 x) != sgn (val64 y)) (m.natAbs * n.natAbs) = m * n := by rw [own_signed_mul, h2, h3]
    rw [hm, Int.natAbs_mul, Nat.mul_assoc, own_signed_scale] at h8
    have h9 : ((n.natAbs * n.natAbs : Nat) : Int) = n * n := Int.natAbs_mul_self
    rw [h9, Int.mul_assoc] at h8
    refine Int.eq_of_mul_eq_mul_right ?_ h8
    intro h0
    rcases Int.mul_eq_zero.mp h0 with h | h <;> exact hn h
theorem own_shift {x : UInt64} {n e e' : Int} (j : Nat) (hx : own_Is x n e) (hj : e' = e - j) (he : -1074 ≤ e') : own_Is x (n * (2 ^ j : Nat)) e' := by
  subst hj
  refine ⟨hx.1, he, ?_⟩
  rw [hx.2.2, show (e + 1074).toNat = j + (e - j + 1074).toNat by omega, Nat.pow_add, Int.natCast_mul, ← Int.mul_assoc]
theorem own_nn {x : UInt64} {n e : Int} (h : own_Is x n e) : Jvm.Free.Fl.NoNaN64 x := Jvm.Free.Fl.noNaN64_no.mpr h.1.notNaN
theorem own_cmp {x y : UInt64} {m n e : Int} (hx : own_Is x m e) (hy : own_Is y n e) : dcmp x y = some (compare m n) := by
  rw [dcmp_zval hx.1.ne_nan hy.1.ne_nan, hx.2.2, hy.2.2]
  have hp : (0 : Int) < ((2 ^ (e + 1074).toNat : Nat) : Int) := by have := Nat.two_pow_pos (e + 1074).toNat; omega
  congr 1
  refine compare_congr ⟨fun h => Int.lt_of_mul_lt_mul_right h (Int.le_of_lt hp), fun h => Int.mul_lt_mul_of_pos_right h hp⟩ ⟨fun h => Int.eq_of_mul_eq_mul_right (Int.ne_of_gt hp) h, fun h => by rw [h]⟩
theorem own_i2d (a : Int32) : own_Is (i2d a) a.toInt 0 := by
  have h := i2d_int a
  refine ⟨?_, by decide, ?_⟩
  · rw [i2d_l2d]; exact l2d_fin _
  · rw [DInt_zval h]; rfl
theorem own_l2d {a : Int64} (h : a.toInt.natAbs ≤ 9007199254740992) : own_Is (l2d a) a.toInt 0 := by
  have h := l2d_int (a := a) h
  exact ⟨l2d_fin _, by decide, by rw [DInt_zval h]; rfl⟩
/-- with a bound on the number -/
def own_B (x : UInt64) (n e B : Int) : Prop := own_Is x n e ∧ -B ≤ n ∧ n ≤ B
theorem own_B.is {x : UInt64} {n e B : Int} (h : own_B x n e B) : own_Is x n e := h.1
theorem own_B.nn {x : UInt64} {n e B : Int} (h : own_B x n e B) : Jvm.Free.Fl.NoNaN64 x := own_nn h.1
theorem own_Badd {x y : UInt64} {m n e A B : Int} (hx : own_B x m e A) (hy : own_B y n e B) (h : (decide (e ≤ 971) && decide (A + B < 9007199254740992)) = true) : own_B (dadd x y) (m + n) e (A + B) := by
  simp only [Bool.and_eq_true, decide_eq_true_eq] at h
  have := hx.2; have := hy.2
  exact ⟨own_add hx.1 hy.1 h.1 (by omega), by omega, by omega⟩
theorem own_Bsub {x y : UInt64} {m n e A B : Int} (hx : own_B x m e A) (hy : own_B y n e B) (h : (decide (e ≤ 971) && decide (A + B < 9007199254740992)) = true) : own_B (dsub x y) (m - n) e (A + B) := by
  simp only [Bool.and_eq_true, decide_eq_true_eq] at h
  have := hx.2; have := hy.2
  exact ⟨own_sub hx.1 hy.1 h.1 (by omega), by omega, by omega⟩
theorem own_bmul {m n A B : Int} (hm : -A ≤ m ∧ m ≤ A) (hn : -B ≤ n ∧ n ≤ B) : -(A * B) ≤ m * n ∧ m * n ≤ A * B := by
  have h : (m * n).natAbs ≤ A.toNat * B.toNat := by rw [Int.natAbs_mul]; exact Nat.mul_le_mul (by omega) (by omega)
  have h2 : ((A.toNat * B.toNat : Nat) : Int) = A * B := by rw [Int.natCast_mul, Int.toNat_of_nonneg (by omega), Int.toNat_of_nonneg (by omega)]
  omega
theorem own_Bmul {x y : UInt64} {m n e1 e2 A B : Int} (hx : own_B x m e1 A) (hy : own_B y n e2 B) (h : (decide (-1074 ≤ e1 + e2) && decide (e1 + e2 ≤ 971) && decide (A * B < 9007199254740992)) = true) : own_B (dmul x y) (m * n) (e1 + e2) (A * B) := by
  simp only [Bool.and_eq_true, decide_eq_true_eq] at h
  have hb := own_bmul hx.2 hy.2
  exact ⟨own_mul hx.1 hy.1 rfl h.1.1 h.1.2 (by omega), hb⟩
/-- an exact quotient by a power of two (n = 1 in y = 1 * 2^e2) -/
theorem own_Bdiv {x y : UInt64} {m e1 e2 A : Int} (hx : own_B x m e1 A) (hy : own_Is y 1 e2) (h : (decide (-1074 ≤ e1 - e2) && decide (e1 - e2 ≤ 971) && decide (A < 9007199254740992)) = true) : own_B (ddiv x y) m (e1 - e2) A := by
  simp only [Bool.and_eq_true, decide_eq_true_eq] at h
  have := hx.2
  exact ⟨own_div hx.1 hy (by decide) (Int.mul_one _).symm rfl h.1.1 h.1.2 (by omega), hx.2⟩
theorem own_Bshift {x : UInt64} {n e A : Int} (j : Nat) (P : Int) (hx : own_B x n e A) (h : (decide (-1074 ≤ e - j) && decide (((2 ^ j : Nat) : Int) = P)) = true) : own_B x (n * P) (e - j) (A * P) := by
  simp only [Bool.and_eq_true, decide_eq_true_eq] at h
  obtain ⟨h, rfl⟩ := h
  refine ⟨own_shift j hx.1 rfl h, ?_⟩
  have hp : (0 : Int) ≤ (2 ^ j : Nat) := Int.natCast_nonneg _
  have := hx.2
  constructor
  · rw [← Int.neg_mul]; exact Int.mul_le_mul_of_nonneg_right this.1 hp
  · exact Int.mul_le_mul_of_nonneg_right this.2 hp
theorem own_Bcast {x : UInt64} {n n' e e' A A' : Int} (h : own_B x n e A) (hn : n = n') (he : e = e') (hA : A ≤ A') : own_B x n' e' A' := by
  subst hn he; exact ⟨h.1, by have := h.2; omega, by have := h.2; omega⟩
theorem own_eq0 {x y : UInt64} {m n e : Int} (hx : own_Is x m e) (hy : own_Is y n e) (h : m = n) (o : ClassFile.CmpOp) : Op.cmpValue (Jvm.FP.dcmp x y) o = 0 := by
  show Op.cmpValue (dcmp x y) o = 0
  subst h
  rw [own_cmp hx hy, show compare m m = .eq from (compare_eq_iff m m).mpr rfl]; cases o <;> rfl
theorem own_cmpv {x y : UInt64} {m n e : Int} (hx : own_Is x m e) (hy : own_Is y n e) (o : ClassFile.CmpOp) : (m < n → Op.cmpValue (Jvm.FP.dcmp x y) o = -1) ∧ (m = n → Op.cmpValue (Jvm.FP.dcmp x y) o = 0) ∧ (n < m → Op.cmpValue (Jvm.FP.dcmp x y) o = 1) := by
  refine ⟨fun h => ?_, fun h => own_eq0 hx hy h o, fun h => ?_⟩
  · show Op.cmpValue (dcmp x y) o = -1
    rw [own_cmp hx hy, (compare_lt_iff m n).mpr h]; cases o <;> rfl
  · show Op.cmpValue (dcmp x y) o = 1
    rw [own_cmp hx hy, (compare_gt_iff m n).mpr h]; cases o <;> rfl
theorem own_one : own_Is 4607182418800017408 1 0 := ⟨(fin_bits _).mpr (by decide), by decide, by decide +kernel⟩
theorem own_zero : own_Is 0 0 0 := ⟨(fin_bits _).mpr (by decide), by decide, by decide +kernel⟩
/-! ints and longs with their numbers and bounds -/
def own_I (v : Int32) (n B : Int) : Prop := v.toInt = n ∧ -B ≤ n ∧ n ≤ B
def own_L (v : Int64) (n B : Int) : Prop := v.toInt = n ∧ -B ≤ n ∧ n ≤ B
theorem own_Iadd {a b v : Int32} {m n A B : Int} (hv : a + b = v) (ha : own_I a m A) (hb : own_I b n B) (h : decide (A + B < 2147483648) = true) : own_I v (m + n) (A + B) := by
  subst hv; simp only [decide_eq_true_eq] at h; obtain ⟨rfl, h1, h2⟩ := ha; obtain ⟨rfl, h3, h4⟩ := hb
  exact ⟨by rw [Int32.toInt_add]; exact Int.bmod_eq_of_le (by omega) (by omega), by omega, by omega⟩
theorem own_Isub {a b v : Int32} {m n A B : Int} (hv : a - b = v) (ha : own_I a m A) (hb : own_I b n B) (h : decide (A + B < 2147483648) = true) : own_I v (m - n) (A + B) := by
  subst hv; simp only [decide_eq_true_eq] at h; obtain ⟨rfl, h1, h2⟩ := ha; obtain ⟨rfl, h3, h4⟩ := hb
  exact ⟨by rw [Int32.toInt_sub]; exact Int.bmod_eq_of_le (by omega) (by omega), by omega, by omega⟩
theorem own_Imul {a b v : Int32} {m n A B : Int} (hv : a * b = v) (ha : own_I a m A) (hb : own_I b n B) (h : decide (A * B < 2147483648) = true) : own_I v (m * n) (A * B) := by
  subst hv; simp only [decide_eq_true_eq] at h; obtain ⟨rfl, h1⟩ := ha; obtain ⟨rfl, h3⟩ := hb
  have hb := own_bmul h1 h3
  exact ⟨by rw [Int32.toInt_mul]; exact Int.bmod_eq_of_le (by omega) (by omega), hb⟩
theorem own_Ladd {a b v : Int64} {m n A B : Int} (hv : a + b = v) (ha : own_L a m A) (hb : own_L b n B) (h : decide (A + B < 9223372036854775808) = true) : own_L v (m + n) (A + B) := by
  subst hv; simp only [decide_eq_true_eq] at h; obtain ⟨rfl, h1, h2⟩ := ha; obtain ⟨rfl, h3, h4⟩ := hb
  exact ⟨by rw [Int64.toInt_add]; exact Int.bmod_eq_of_le (by omega) (by omega), by omega, by omega⟩
theorem own_Lsub {a b v : Int64} {m n A B : Int} (hv : a - b = v) (ha : own_L a m A) (hb : own_L b n B) (h : decide (A + B < 9223372036854775808) = true) : own_L v (m - n) (A + B) := by
  subst hv; simp only [decide_eq_true_eq] at h; obtain ⟨rfl, h1, h2⟩ := ha; obtain ⟨rfl, h3, h4⟩ := hb
  exact ⟨by rw [Int64.toInt_sub]; exact Int.bmod_eq_of_le (by omega) (by omega), by omega, by omega⟩
theorem own_Lmul {a b v : Int64} {m n A B : Int} (hv : a * b = v) (ha : own_L a m A) (hb : own_L b n B) (h : decide (A * B < 9223372036854775808) = true) : own_L v (m * n) (A * B) := by
  subst hv; simp only [decide_eq_true_eq] at h; obtain ⟨rfl, h1⟩ := ha; obtain ⟨rfl, h3⟩ := hb
  have hb := own_bmul h1 h3
  exact ⟨by rw [Int64.toInt_mul]; exact Int.bmod_eq_of_le (by omega) (by omega), hb⟩
theorem own_Ii2l {a : Int32} {v : Int64} {m A : Int} (hv : Int32.toInt64 a = v) (ha : own_I a m A) : own_L v m A := by
  subst hv; exact ⟨by rw [Int32.toInt_toInt64]; exact ha.1, ha.2⟩
theorem own_Icast {v : Int32} {n n' A A' : Int} (h : own_I v n A) (hn : n = n') (hA : A ≤ A') : own_I v n' A' := by
  subst hn; exact ⟨h.1, by have := h.2; omega, by have := h.2; omega⟩
theorem own_Lcast {v : Int64} {n n' A A' : Int} (h : own_L v n A) (hn : n = n') (hA : A ≤ A') : own_L v n' A' := by
  subst hn; exact ⟨h.1, by have := h.2; omega, by have := h.2; omega⟩
theorem own_Bi2d {v : Int32} {n A : Int} (h : own_I v n A) : own_B (i2d v) n 0 A := by
  obtain ⟨rfl, h1⟩ := h; exact ⟨own_i2d v, h1⟩
theorem own_Bl2d {v : Int64} {n A : Int} (h : own_L v n A) (hA : decide (A ≤ 9007199254740992) = true) : own_B (l2d v) n 0 A := by
  simp only [decide_eq_true_eq] at hA; obtain ⟨rfl, h1⟩ := h; exact ⟨own_l2d (by omega), h1⟩
theorem own_Irng (v : Int32) : own_I v v.toInt 2147483648 := ⟨rfl, by have := Jvm.RoadKit.rng32 v; omega, by have := Jvm.RoadKit.rng32 v; omega⟩
theorem own_Iand {x m v : Int32} {B : Int} (hv : x &&& m = v) (hB : m.toInt = B) (h0 : 0 ≤ B) : own_I v v.toInt B := by
  have := Jvm.RoadKit.c_and x m (by omega); rw [hv] at this; exact ⟨rfl, by omega, by omega⟩
end OwnFP
section OwnStep
open Jvm Jvm.ClassFile Sem Op Lib Jvm.Free Jvm.Stand Jvm.LawKit Jvm.RoadKit
variable {tb : Tables} [Ours tb] {e : Env} {below : List Frame} {T target : State} {m : MethodId} {c : Code} {pc pc' : Nat} {L : Array Slot} {S : List Value}
theorem own_s_iadd (h : At T m c below) (hx : tb.exec = Jvm.exec) {x y v : Int32} (hd : decode c.code pc = .ok (.iadd, 1)) (hp : pc + 1 = pc') (hv : x + y = v)
    (hr : Steps tb e below (T.setTop (mkF m pc' L (.int v :: S))) target) : Steps tb e below (T.setTop (mkF m pc L (.int y :: .int x :: S))) target := by
  subst hv hp; exact XS.iadd h hx rfl hd rfl hr
theorem own_s_ladd (h : At T m c below) (hx : tb.exec = Jvm.exec) {x y v : Int64} (hd : decode c.code pc = .ok (.ladd, 1)) (hp : pc + 1 = pc') (hv : x + y = v)
    (hr : Steps tb e below (T.setTop (mkF m pc' L (.long v :: S))) target) : Steps tb e below (T.setTop (mkF m pc L (.long y :: .long x :: S))) target := by
  subst hv hp; exact XS.ladd h hx rfl hd rfl hr
theorem own_s_isub (h : At T m c below) (hx : tb.exec = Jvm.exec) {x y v : Int32} (hd : decode c.code pc = .ok (.isub, 1)) (hp : pc + 1 = pc') (hv : x - y = v)
    (hr : Steps tb e below (T.setTop (mkF m pc' L (.int v :: S))) target) : Steps tb e below (T.setTop (mkF m pc L (.int y :: .int x :: S))) target := by
  subst hv hp; exact XS.isub h hx rfl hd rfl hr
theorem own_s_lsub (h : At T m c below) (hx : tb.exec = Jvm.exec) {x y v : Int64} (hd : decode c.code pc = .ok (.lsub, 1)) (hp : pc + 1 = pc') (hv : x - y = v)
    (hr : Steps tb e below (T.setTop (mkF m pc' L (.long v :: S))) target) : Steps tb e below (T.setTop (mkF m pc L (.long y :: .long x :: S))) target := by
  subst hv hp; exact XS.lsub h hx rfl hd rfl hr
theorem own_s_imul (h : At T m c below) (hx : tb.exec = Jvm.exec) {x y v : Int32} (hd : decode c.code pc = .ok (.imul, 1)) (hp : pc + 1 = pc') (hv : x * y = v)
    (hr : Steps tb e below (T.setTop (mkF m pc' L (.int v :: S))) target) : Steps tb e below (T.setTop (mkF m pc L (.int y :: .int x :: S))) target := by
  subst hv hp; exact XS.imul h hx rfl hd rfl hr
theorem own_s_lmul (h : At T m c below) (hx : tb.exec = Jvm.exec) {x y v : Int64} (hd : decode c.code pc = .ok (.lmul, 1)) (hp : pc + 1 = pc') (hv : x * y = v)
    (hr : Steps tb e below (T.setTop (mkF m pc' L (.long v :: S))) target) : Steps tb e below (T.setTop (mkF m pc L (.long y :: .long x :: S))) target := by
  subst hv hp; exact XS.lmul h hx rfl hd rfl hr
theorem own_s_iand (h : At T m c below) (hx : tb.exec = Jvm.exec) {x y v : Int32} (hd : decode c.code pc = .ok (.iand, 1)) (hp : pc + 1 = pc') (hv : x &&& y = v)
    (hr : Steps tb e below (T.setTop (mkF m pc' L (.int v :: S))) target) : Steps tb e below (T.setTop (mkF m pc L (.int y :: .int x :: S))) target := by
  subst hv hp; exact XS.iand h hx rfl hd rfl hr
theorem own_s_land (h : At T m c below) (hx : tb.exec = Jvm.exec) {x y v : Int64} (hd : decode c.code pc = .ok (.land, 1)) (hp : pc + 1 = pc') (hv : x &&& y = v)
    (hr : Steps tb e below (T.setTop (mkF m pc' L (.long v :: S))) target) : Steps tb e below (T.setTop (mkF m pc L (.long y :: .long x :: S))) target := by
  subst hv hp; exact XS.land h hx rfl hd rfl hr
theorem own_s_ior (h : At T m c below) (hx : tb.exec = Jvm.exec) {x y v : Int32} (hd : decode c.code pc = .ok (.ior, 1)) (hp : pc + 1 = pc') (hv : x ||| y = v)
    (hr : Steps tb e below (T.setTop (mkF m pc' L (.int v :: S))) target) : Steps tb e below (T.setTop (mkF m pc L (.int y :: .int x :: S))) target := by
  subst hv hp; exact XS.ior h hx rfl hd rfl hr
theorem own_s_lor (h : At T m c below) (hx : tb.exec = Jvm.exec) {x y v : Int64} (hd : decode c.code pc = .ok (.lor, 1)) (hp : pc + 1 = pc') (hv : x ||| y = v)
    (hr : Steps tb e below (T.setTop (mkF m pc' L (.long v :: S))) target) : Steps tb e below (T.setTop (mkF m pc L (.long y :: .long x :: S))) target := by
  subst hv hp; exact XS.lor h hx rfl hd rfl hr
theorem own_s_ixor (h : At T m c below) (hx : tb.exec = Jvm.exec) {x y v : Int32} (hd : decode c.code pc = .ok (.ixor, 1)) (hp : pc + 1 = pc') (hv : x ^^^ y = v)
    (hr : Steps tb e below (T.setTop (mkF m pc' L (.int v :: S))) target) : Steps tb e below (T.setTop (mkF m pc L (.int y :: .int x :: S))) target := by
  subst hv hp; exact XS.ixor h hx rfl hd rfl hr
theorem own_s_lxor (h : At T m c below) (hx : tb.exec = Jvm.exec) {x y v : Int64} (hd : decode c.code pc = .ok (.lxor, 1)) (hp : pc + 1 = pc') (hv : x ^^^ y = v)
    (hr : Steps tb e below (T.setTop (mkF m pc' L (.long v :: S))) target) : Steps tb e below (T.setTop (mkF m pc L (.long y :: .long x :: S))) target := by
  subst hv hp; exact XS.lxor h hx rfl hd rfl hr
theorem own_s_idiv (h : At T m c below) (hx : tb.exec = Jvm.exec) {x y v : Int32} (hd : decode c.code pc = .ok (.idiv, 1)) (hp : pc + 1 = pc') (hy : y ≠ 0) (hv : x / y = v)
    (hr : Steps tb e below (T.setTop (mkF m pc' L (.int v :: S))) target) : Steps tb e below (T.setTop (mkF m pc L (.int y :: .int x :: S))) target := by
  subst hv hp; exact XS.idiv h hx rfl hd rfl hy hr
theorem own_s_irem (h : At T m c below) (hx : tb.exec = Jvm.exec) {x y v : Int32} (hd : decode c.code pc = .ok (.irem, 1)) (hp : pc + 1 = pc') (hy : y ≠ 0) (hv : x % y = v)
    (hr : Steps tb e below (T.setTop (mkF m pc' L (.int v :: S))) target) : Steps tb e below (T.setTop (mkF m pc L (.int y :: .int x :: S))) target := by
  subst hv hp; rw [← irem_eq_mod] at hr; exact XS.irem h hx rfl hd rfl hy hr
theorem own_s_ldiv (h : At T m c below) (hx : tb.exec = Jvm.exec) {x y v : Int64} (hd : decode c.code pc = .ok (.ldiv, 1)) (hp : pc + 1 = pc') (hy : y ≠ 0) (hv : x / y = v)
    (hr : Steps tb e below (T.setTop (mkF m pc' L (.long v :: S))) target) : Steps tb e below (T.setTop (mkF m pc L (.long y :: .long x :: S))) target := by
  subst hv hp; exact XS.ldiv h hx rfl hd rfl hy hr
theorem own_s_lrem (h : At T m c below) (hx : tb.exec = Jvm.exec) {x y v : Int64} (hd : decode c.code pc = .ok (.lrem, 1)) (hp : pc + 1 = pc') (hy : y ≠ 0) (hv : x % y = v)
    (hr : Steps tb e below (T.setTop (mkF m pc' L (.long v :: S))) target) : Steps tb e below (T.setTop (mkF m pc L (.long y :: .long x :: S))) target := by
  subst hv hp; rw [← lrem_mod] at hr; exact XS.lrem h hx rfl hd rfl hy hr
theorem own_s_ishl (h : At T m c below) (hx : tb.exec = Jvm.exec) {x y v : Int32} (hd : decode c.code pc = .ok (.ishl, 1)) (hp : pc + 1 = pc') (hv : x <<< (y &&& 31) = v)
    (hr : Steps tb e below (T.setTop (mkF m pc' L (.int v :: S))) target) : Steps tb e below (T.setTop (mkF m pc L (.int y :: .int x :: S))) target := by
  subst hv hp; exact XS.ishl h hx rfl hd rfl hr
theorem own_s_ishr (h : At T m c below) (hx : tb.exec = Jvm.exec) {x y v : Int32} (hd : decode c.code pc = .ok (.ishr, 1)) (hp : pc + 1 = pc') (hv : x >>> (y &&& 31) = v)
    (hr : Steps tb e below (T.setTop (mkF m pc' L (.int v :: S))) target) : Steps tb e below (T.setTop (mkF m pc L (.int y :: .int x :: S))) target := by
  subst hv hp; exact XS.ishr h hx rfl hd rfl hr
theorem own_s_iushr (h : At T m c below) (hx : tb.exec = Jvm.exec) {x y v : Int32} (hd : decode c.code pc = .ok (.iushr, 1)) (hp : pc + 1 = pc') (hv : (x.toUInt32 >>> (y &&& 31).toUInt32).toInt32 = v)
    (hr : Steps tb e below (T.setTop (mkF m pc' L (.int v :: S))) target) : Steps tb e below (T.setTop (mkF m pc L (.int y :: .int x :: S))) target := by
  subst hv hp; exact XS.iushr h hx rfl hd rfl hr
theorem own_s_lshl (h : At T m c below) (hx : tb.exec = Jvm.exec) {x v : Int64} {y : Int32} (hd : decode c.code pc = .ok (.lshl, 1)) (hp : pc + 1 = pc') (hv : x <<< (y &&& 63).toInt64 = v)
    (hr : Steps tb e below (T.setTop (mkF m pc' L (.long v :: S))) target) : Steps tb e below (T.setTop (mkF m pc L (.int y :: .long x :: S))) target := by
  subst hv hp; exact XS.lshl h hx rfl hd rfl hr
theorem own_s_lshr (h : At T m c below) (hx : tb.exec = Jvm.exec) {x v : Int64} {y : Int32} (hd : decode c.code pc = .ok (.lshr, 1)) (hp : pc + 1 = pc') (hv : x >>> (y &&& 63).toInt64 = v)
    (hr : Steps tb e below (T.setTop (mkF m pc' L (.long v :: S))) target) : Steps tb e below (T.setTop (mkF m pc L (.int y :: .long x :: S))) target := by
  subst hv hp; exact XS.lshr h hx rfl hd rfl hr
theorem own_s_lushr (h : At T m c below) (hx : tb.exec = Jvm.exec) {x v : Int64} {y : Int32} (hd : decode c.code pc = .ok (.lushr, 1)) (hp : pc + 1 = pc') (hv : (x.toUInt64 >>> (y &&& 63).toInt64.toUInt64).toInt64 = v)
    (hr : Steps tb e below (T.setTop (mkF m pc' L (.long v :: S))) target) : Steps tb e below (T.setTop (mkF m pc L (.int y :: .long x :: S))) target := by
  subst hv hp; exact XS.lushr h hx rfl hd rfl hr
theorem own_s_i2l (h : At T m c below) (hx : tb.exec = Jvm.exec) {x : Int32} {v : Int64} (hd : decode c.code pc = .ok (.i2l, 1)) (hp : pc + 1 = pc') (hv : x.toInt64 = v)
    (hr : Steps tb e below (T.setTop (mkF m pc' L (.long v :: S))) target) : Steps tb e below (T.setTop (mkF m pc L (.int x :: S))) target := by
  subst hv hp; exact XS.i2l h hx rfl hd rfl hr
theorem own_s_l2i (h : At T m c below) (hx : tb.exec = Jvm.exec) {x : Int64} {v : Int32} (hd : decode c.code pc = .ok (.l2i, 1)) (hp : pc + 1 = pc') (hv : x.toInt32 = v)
    (hr : Steps tb e below (T.setTop (mkF m pc' L (.int v :: S))) target) : Steps tb e below (T.setTop (mkF m pc L (.long x :: S))) target := by
  subst hv hp; exact XS.l2i h hx rfl hd rfl hr
theorem own_s_i2b (h : At T m c below) (hx : tb.exec = Jvm.exec) {x : Int32} {v : Int32} (hd : decode c.code pc = .ok (.i2b, 1)) (hp : pc + 1 = pc') (hv : x.toInt8.toInt32 = v)
    (hr : Steps tb e below (T.setTop (mkF m pc' L (.int v :: S))) target) : Steps tb e below (T.setTop (mkF m pc L (.int x :: S))) target := by
  subst hv hp; exact XS.i2b h hx rfl hd rfl hr
theorem own_s_i2s (h : At T m c below) (hx : tb.exec = Jvm.exec) {x : Int32} {v : Int32} (hd : decode c.code pc = .ok (.i2s, 1)) (hp : pc + 1 = pc') (hv : x.toInt16.toInt32 = v)
    (hr : Steps tb e below (T.setTop (mkF m pc' L (.int v :: S))) target) : Steps tb e below (T.setTop (mkF m pc L (.int x :: S))) target := by
  subst hv hp; exact XS.i2s h hx rfl hd rfl hr
theorem own_s_ineg (h : At T m c below) (hx : tb.exec = Jvm.exec) {x : Int32} {v : Int32} (hd : decode c.code pc = .ok (.ineg, 1)) (hp : pc + 1 = pc') (hv : -x = v)
    (hr : Steps tb e below (T.setTop (mkF m pc' L (.int v :: S))) target) : Steps tb e below (T.setTop (mkF m pc L (.int x :: S))) target := by
  subst hv hp; exact XS.ineg h hx rfl hd rfl hr
theorem own_s_lneg (h : At T m c below) (hx : tb.exec = Jvm.exec) {x : Int64} {v : Int64} (hd : decode c.code pc = .ok (.lneg, 1)) (hp : pc + 1 = pc') (hv : -x = v)
    (hr : Steps tb e below (T.setTop (mkF m pc' L (.long v :: S))) target) : Steps tb e below (T.setTop (mkF m pc L (.long x :: S))) target := by
  subst hv hp; exact XS.lneg h hx rfl hd rfl hr
theorem own_s_i2d (h : At T m c below) (hx : tb.exec = Jvm.exec) {x : Int32} {v : UInt64} (hd : decode c.code pc = .ok (.i2d, 1)) (hp : pc + 1 = pc') (hv : FP.i2d x = v)
    (hr : Steps tb e below (T.setTop (mkF m pc' L (.double v :: S))) target) : Steps tb e below (T.setTop (mkF m pc L (.int x :: S))) target := by
  subst hv hp; exact XS.i2dS h hx rfl hd rfl rfl hr
theorem own_s_l2d (h : At T m c below) (hx : tb.exec = Jvm.exec) {x : Int64} {v : UInt64} (hd : decode c.code pc = .ok (.l2d, 1)) (hp : pc + 1 = pc') (hv : FP.l2d x = v)
    (hr : Steps tb e below (T.setTop (mkF m pc' L (.double v :: S))) target) : Steps tb e below (T.setTop (mkF m pc L (.long x :: S))) target := by
  subst hv hp; exact XS.l2dS h hx rfl hd rfl rfl hr
theorem own_s_dneg (h : At T m c below) (hx : tb.exec = Jvm.exec) {x : UInt64} {v : UInt64} (hd : decode c.code pc = .ok (.dneg, 1)) (hp : pc + 1 = pc') (hv : FP.dneg x = v)
    (hr : Steps tb e below (T.setTop (mkF m pc' L (.double v :: S))) target) : Steps tb e below (T.setTop (mkF m pc L (.double x :: S))) target := by
  subst hv hp; exact XS.dnegS h hx rfl hd rfl rfl hr
theorem own_s_dadd (h : At T m c below) (hx : tb.exec = Jvm.exec) {x y v : UInt64} (hd : decode c.code pc = .ok (.dadd, 1)) (hp : pc + 1 = pc') (hn : Jvm.Free.Fl.NoNaN64 (FP.dadd x y)) (hv : FP.dadd x y = v)
    (hr : Steps tb e below (T.setTop (mkF m pc' L (.double v :: S))) target) : Steps tb e below (T.setTop (mkF m pc L (.double y :: .double x :: S))) target := by
  subst hv hp; exact XS.daddS h hx rfl hd rfl hn rfl hr
theorem own_s_dsub (h : At T m c below) (hx : tb.exec = Jvm.exec) {x y v : UInt64} (hd : decode c.code pc = .ok (.dsub, 1)) (hp : pc + 1 = pc') (hn : Jvm.Free.Fl.NoNaN64 (FP.dsub x y)) (hv : FP.dsub x y = v)
    (hr : Steps tb e below (T.setTop (mkF m pc' L (.double v :: S))) target) : Steps tb e below (T.setTop (mkF m pc L (.double y :: .double x :: S))) target := by
  subst hv hp; exact XS.dsubS h hx rfl hd rfl hn rfl hr
theorem own_s_dmul (h : At T m c below) (hx : tb.exec = Jvm.exec) {x y v : UInt64} (hd : decode c.code pc = .ok (.dmul, 1)) (hp : pc + 1 = pc') (hn : Jvm.Free.Fl.NoNaN64 (FP.dmul x y)) (hv : FP.dmul x y = v)
    (hr : Steps tb e below (T.setTop (mkF m pc' L (.double v :: S))) target) : Steps tb e below (T.setTop (mkF m pc L (.double y :: .double x :: S))) target := by
  subst hv hp; exact XS.dmulS h hx rfl hd rfl hn rfl hr
theorem own_s_ddiv (h : At T m c below) (hx : tb.exec = Jvm.exec) {x y v : UInt64} (hd : decode c.code pc = .ok (.ddiv, 1)) (hp : pc + 1 = pc') (hn : Jvm.Free.Fl.NoNaN64 (FP.ddiv x y)) (hv : FP.ddiv x y = v)
    (hr : Steps tb e below (T.setTop (mkF m pc' L (.double v :: S))) target) : Steps tb e below (T.setTop (mkF m pc L (.double y :: .double x :: S))) target := by
  subst hv hp; exact XS.ddivS h hx rfl hd rfl hn rfl hr
theorem own_s_dcmp (h : At T m c below) (hx : tb.exec = Jvm.exec) {o : CmpOp} {x y : UInt64} {v : Int32} (hd : decode c.code pc = .ok (.dcmp o, 1)) (hp : pc + 1 = pc') (hv : Op.cmpValue (FP.dcmp x y) o = v)
    (hr : Steps tb e below (T.setTop (mkF m pc' L (.int v :: S))) target) : Steps tb e below (T.setTop (mkF m pc L (.double y :: .double x :: S))) target := by
  subst hv hp; exact XS.dcmpS h hx rfl hd rfl rfl hr
theorem own_s_lcmp (h : At T m c below) (hx : tb.exec = Jvm.exec) {x y : Int64} {v : Int32} (hd : decode c.code pc = .ok (.lcmp, 1)) (hp : pc + 1 = pc') (hv : lcmpW x y = v)
    (hr : Steps tb e below (T.setTop (mkF m pc' L (.int v :: S))) target) : Steps tb e below (T.setTop (mkF m pc L (.long y :: .long x :: S))) target := by
  subst hv hp; exact XS.lcmp h hx rfl hd rfl hr
theorem own_s_iconst (h : At T m c below) (hx : tb.exec = Jvm.exec) {i : Int} {v : Int32} (hd : decode c.code pc = .ok (.iconst i, 1)) (hp : pc + 1 = pc') (hv : Int32.ofInt i = v)
    (hr : Steps tb e below (T.setTop (mkF m pc' L (.int v :: S))) target) : Steps tb e below (T.setTop (mkF m pc L S)) target := by
  subst hv hp; exact XS.iconst h hx rfl hd hr
theorem own_s_bipush (h : At T m c below) (hx : tb.exec = Jvm.exec) {i : Int} {v : Int32} (hd : decode c.code pc = .ok (.bipush i, 2)) (hp : pc + 2 = pc') (hv : (Int8.ofInt i).toInt32 = v)
    (hr : Steps tb e below (T.setTop (mkF m pc' L (.int v :: S))) target) : Steps tb e below (T.setTop (mkF m pc L S)) target := by
  subst hv hp; exact XS.bipush h hx rfl hd hr
theorem own_s_sipush (h : At T m c below) (hx : tb.exec = Jvm.exec) {i : Int} {v : Int32} (hd : decode c.code pc = .ok (.sipush i, 3)) (hp : pc + 3 = pc') (hv : (Int16.ofInt i).toInt32 = v)
    (hr : Steps tb e below (T.setTop (mkF m pc' L (.int v :: S))) target) : Steps tb e below (T.setTop (mkF m pc L S)) target := by
  subst hv hp; exact XS.sipush h hx rfl hd hr
theorem own_s_lconst (h : At T m c below) (hx : tb.exec = Jvm.exec) {k : Fin 2} {v : Int64} (hd : decode c.code pc = .ok (.lconst k, 1)) (hp : pc + 1 = pc') (hv : Int64.ofNat k = v)
    (hr : Steps tb e below (T.setTop (mkF m pc' L (.long v :: S))) target) : Steps tb e below (T.setTop (mkF m pc L S)) target := by
  subst hv hp; exact XS.lconst h hx rfl hd hr
theorem own_s_dconst0 (h : At T m c below) (hx : tb.exec = Jvm.exec)  (hd : decode c.code pc = .ok (.dconst 0, 1)) (hp : pc + 1 = pc') 
    (hr : Steps tb e below (T.setTop (mkF m pc' L (.double 0 :: S))) target) : Steps tb e below (T.setTop (mkF m pc L S)) target := by
  subst hp; exact XS.dconst0 h hx rfl hd rfl hr
theorem own_s_dconst1 (h : At T m c below) (hx : tb.exec = Jvm.exec)  (hd : decode c.code pc = .ok (.dconst 1, 1)) (hp : pc + 1 = pc') 
    (hr : Steps tb e below (T.setTop (mkF m pc' L (.double 4607182418800017408 :: S))) target) : Steps tb e below (T.setTop (mkF m pc L S)) target := by
  subst hp; exact XS.dconst1 h hx rfl hd rfl hr
theorem own_s_aconst_null (h : At T m c below) (hx : tb.exec = Jvm.exec)  (hd : decode c.code pc = .ok (.aconst_null, 1)) (hp : pc + 1 = pc') 
    (hr : Steps tb e below (T.setTop (mkF m pc' L (.null :: S))) target) : Steps tb e below (T.setTop (mkF m pc L S)) target := by
  subst hp; exact XS.aconstNull h hx rfl hd hr
theorem own_s_dup (h : At T m c below) (hx : tb.exec = Jvm.exec) {x : Value} (hd : decode c.code pc = .ok (.dup, 1)) (hp : pc + 1 = pc') (hc : x.category = 1)
    (hr : Steps tb e below (T.setTop (mkF m pc' L (x :: x :: S))) target) : Steps tb e below (T.setTop (mkF m pc L (x :: S))) target := by
  subst hp; exact XS.dup h hx rfl hd rfl hc hr
theorem own_s_dupX1 (h : At T m c below) (hx : tb.exec = Jvm.exec) {x y : Value} (hd : decode c.code pc = .ok (.dup_x1, 1)) (hp : pc + 1 = pc') (hc : x.category = 1) (hc' : y.category = 1)
    (hr : Steps tb e below (T.setTop (mkF m pc' L (x :: y :: x :: S))) target) : Steps tb e below (T.setTop (mkF m pc L (x :: y :: S))) target := by
  subst hp; exact XS.dupX1 h hx rfl hd rfl hc hc' hr
theorem own_s_pop (h : At T m c below) (hx : tb.exec = Jvm.exec) {x : Value} (hd : decode c.code pc = .ok (.pop, 1)) (hp : pc + 1 = pc') (hc : x.category = 1)
    (hr : Steps tb e below (T.setTop (mkF m pc' L S)) target) : Steps tb e below (T.setTop (mkF m pc L (x :: S))) target := by
  subst hp; exact XS.pop h hx rfl hd rfl hc hr
theorem own_s_iloadN (h : At T m c below) (hx : tb.exec = Jvm.exec) {k : Fin 4} {v : Int32} (hd : decode c.code pc = .ok (.iload_n k, 1)) (hp : pc + 1 = pc') (hl : L[k.val]? = some (.val (.int v)))
    (hr : Steps tb e below (T.setTop (mkF m pc' L (.int v :: S))) target) : Steps tb e below (T.setTop (mkF m pc L S)) target := by
  subst hp; exact XS.iloadN h hx rfl hd hl hr
theorem own_s_iload (h : At T m c below) (hx : tb.exec = Jvm.exec) {k : Nat} {v : Int32} (hd : decode c.code pc = .ok (.iload k, 2)) (hp : pc + 2 = pc') (hl : L[k]? = some (.val (.int v)))
    (hr : Steps tb e below (T.setTop (mkF m pc' L (.int v :: S))) target) : Steps tb e below (T.setTop (mkF m pc L S)) target := by
  subst hp; exact XS.iload h hx rfl hd hl hr
theorem own_s_istoreN (h : At T m c below) (hx : tb.exec = Jvm.exec) {k : Fin 4} {v : Int32} {L' : Array Slot} (hd : decode c.code pc = .ok (.istore_n k, 1)) (hp : pc + 1 = pc') (hl : storeLocals L k.val (.int v) = some L')
    (hr : Steps tb e below (T.setTop (mkF m pc' L' S)) target) : Steps tb e below (T.setTop (mkF m pc L (.int v :: S))) target := by
  subst hp; exact XS.istoreN h hx rfl hd rfl hl hr
theorem own_s_istore (h : At T m c below) (hx : tb.exec = Jvm.exec) {k : Nat} {v : Int32} {L' : Array Slot} (hd : decode c.code pc = .ok (.istore k, 2)) (hp : pc + 2 = pc') (hl : storeLocals L k (.int v) = some L')
    (hr : Steps tb e below (T.setTop (mkF m pc' L' S)) target) : Steps tb e below (T.setTop (mkF m pc L (.int v :: S))) target := by
  subst hp; exact XS.istore h hx rfl hd rfl hl hr
theorem own_s_lloadN (h : At T m c below) (hx : tb.exec = Jvm.exec) {k : Fin 4} {v : Int64} (hd : decode c.code pc = .ok (.lload_n k, 1)) (hp : pc + 1 = pc') (hl : L[k.val]? = some (.val (.long v)))
    (hr : Steps tb e below (T.setTop (mkF m pc' L (.long v :: S))) target) : Steps tb e below (T.setTop (mkF m pc L S)) target := by
  subst hp; exact XS.lloadN h hx rfl hd hl hr
theorem own_s_lload (h : At T m c below) (hx : tb.exec = Jvm.exec) {k : Nat} {v : Int64} (hd : decode c.code pc = .ok (.lload k, 2)) (hp : pc + 2 = pc') (hl : L[k]? = some (.val (.long v)))
    (hr : Steps tb e below (T.setTop (mkF m pc' L (.long v :: S))) target) : Steps tb e below (T.setTop (mkF m pc L S)) target := by
  subst hp; exact XS.lload h hx rfl hd hl hr
theorem own_s_lstoreN (h : At T m c below) (hx : tb.exec = Jvm.exec) {k : Fin 4} {v : Int64} {L' : Array Slot} (hd : decode c.code pc = .ok (.lstore_n k, 1)) (hp : pc + 1 = pc') (hl : storeLocals L k.val (.long v) = some L')
    (hr : Steps tb e below (T.setTop (mkF m pc' L' S)) target) : Steps tb e below (T.setTop (mkF m pc L (.long v :: S))) target := by
  subst hp; exact XS.lstoreN h hx rfl hd rfl hl hr
theorem own_s_lstore (h : At T m c below) (hx : tb.exec = Jvm.exec) {k : Nat} {v : Int64} {L' : Array Slot} (hd : decode c.code pc = .ok (.lstore k, 2)) (hp : pc + 2 = pc') (hl : storeLocals L k (.long v) = some L')
    (hr : Steps tb e below (T.setTop (mkF m pc' L' S)) target) : Steps tb e below (T.setTop (mkF m pc L (.long v :: S))) target := by
  subst hp; exact XS.lstore h hx rfl hd rfl hl hr
theorem own_s_dloadN (h : At T m c below) (hx : tb.exec = Jvm.exec) {k : Fin 4} {v : UInt64} (hd : decode c.code pc = .ok (.dload_n k, 1)) (hp : pc + 1 = pc') (hl : L[k.val]? = some (.val (.double v)))
    (hr : Steps tb e below (T.setTop (mkF m pc' L (.double v :: S))) target) : Steps tb e below (T.setTop (mkF m pc L S)) target := by
  subst hp; exact XS.dloadN h hx rfl hd hl hr
theorem own_s_dload (h : At T m c below) (hx : tb.exec = Jvm.exec) {k : Nat} {v : UInt64} (hd : decode c.code pc = .ok (.dload k, 2)) (hp : pc + 2 = pc') (hl : L[k]? = some (.val (.double v)))
    (hr : Steps tb e below (T.setTop (mkF m pc' L (.double v :: S))) target) : Steps tb e below (T.setTop (mkF m pc L S)) target := by
  subst hp; exact XS.dload h hx rfl hd hl hr
theorem own_s_dstoreN (h : At T m c below) (hx : tb.exec = Jvm.exec) {k : Fin 4} {v : UInt64} {L' : Array Slot} (hd : decode c.code pc = .ok (.dstore_n k, 1)) (hp : pc + 1 = pc') (hl : storeLocals L k.val (.double v) = some L')
    (hr : Steps tb e below (T.setTop (mkF m pc' L' S)) target) : Steps tb e below (T.setTop (mkF m pc L (.double v :: S))) target := by
  subst hp; exact XS.dstoreN h hx rfl hd rfl hl hr
theorem own_s_dstore (h : At T m c below) (hx : tb.exec = Jvm.exec) {k : Nat} {v : UInt64} {L' : Array Slot} (hd : decode c.code pc = .ok (.dstore k, 2)) (hp : pc + 2 = pc') (hl : storeLocals L k (.double v) = some L')
    (hr : Steps tb e below (T.setTop (mkF m pc' L' S)) target) : Steps tb e below (T.setTop (mkF m pc L (.double v :: S))) target := by
  subst hp; exact XS.dstore h hx rfl hd rfl hl hr
theorem own_s_aloadN (h : At T m c below) (hx : tb.exec = Jvm.exec) {k : Fin 4} {v : Value} (hd : decode c.code pc = .ok (.aload_n k, 1)) (hp : pc + 1 = pc') (hl : L[k.val]? = some (.val v)) (hr0 : v.isRef = true)
    (hr : Steps tb e below (T.setTop (mkF m pc' L (v :: S))) target) : Steps tb e below (T.setTop (mkF m pc L S)) target := by
  subst hp; exact XS.aloadN h hx rfl hd hl hr0 hr
theorem own_s_aload (h : At T m c below) (hx : tb.exec = Jvm.exec) {k : Nat} {v : Value} (hd : decode c.code pc = .ok (.aload k, 2)) (hp : pc + 2 = pc') (hl : L[k]? = some (.val v)) (hr0 : v.isRef = true)
    (hr : Steps tb e below (T.setTop (mkF m pc' L (v :: S))) target) : Steps tb e below (T.setTop (mkF m pc L S)) target := by
  subst hp; exact XS.aload h hx rfl hd hl hr0 hr
theorem own_s_astoreN (h : At T m c below) (hx : tb.exec = Jvm.exec) {k : Fin 4} {v : Value} {L' : Array Slot} (hd : decode c.code pc = .ok (.astore_n k, 1)) (hp : pc + 1 = pc') (hr0 : v.isRef = true) (hl : storeLocals L k.val v = some L')
    (hr : Steps tb e below (T.setTop (mkF m pc' L' S)) target) : Steps tb e below (T.setTop (mkF m pc L (v :: S))) target := by
  subst hp; exact XS.astoreN h hx rfl hd rfl hr0 hl hr
theorem own_s_astore (h : At T m c below) (hx : tb.exec = Jvm.exec) {k : Nat} {v : Value} {L' : Array Slot} (hd : decode c.code pc = .ok (.astore k, 2)) (hp : pc + 2 = pc') (hr0 : v.isRef = true) (hl : storeLocals L k v = some L')
    (hr : Steps tb e below (T.setTop (mkF m pc' L' S)) target) : Steps tb e below (T.setTop (mkF m pc L (v :: S))) target := by
  subst hp; exact XS.astore h hx rfl hd rfl hr0 hl hr
theorem own_s_iinc (h : At T m c below) (hx : tb.exec = Jvm.exec) {k : Nat} {cst : Int} {x v : Int32} {L' : Array Slot} (hd : decode c.code pc = .ok (.iinc k cst, 3)) (hp : pc + 3 = pc') (hl : L[k]? = some (.val (.int x))) (hv : x + Int32.ofInt cst = v) (hl' : storeLocals L k (.int v) = some L')
    (hr : Steps tb e below (T.setTop (mkF m pc' L' S)) target) : Steps tb e below (T.setTop (mkF m pc L S)) target := by
  subst hv hp; exact XS.iinc h hx rfl hd hl hl' hr
theorem own_s_goto (h : At T m c below) (hx : tb.exec = Jvm.exec)  {o : Int} (hd : decode c.code pc = .ok (.goto o, 3)) (ho : 0 ≤ (pc : Int) + o) (hp : ((pc : Int) + o).toNat = pc') 
    (hr : Steps tb e below (T.setTop (mkF m pc' L S)) target) : Steps tb e below (T.setTop (mkF m pc L S)) target := by
  exact XS.goto h hx rfl rfl hd ho hp hr
theorem own_s_ifYes (h : At T m c below) (hx : tb.exec = Jvm.exec) {cd : ClassFile.Cond} {x : Int32} {o : Int} (hd : decode c.code pc = .ok (.ifCond cd o, 3)) (ho : 0 ≤ (pc : Int) + o) (hp : ((pc : Int) + o).toNat = pc') (hc : ifCond.holds cd x = true)
    (hr : Steps tb e below (T.setTop (mkF m pc' L S)) target) : Steps tb e below (T.setTop (mkF m pc L (.int x :: S))) target := by
  exact XS.ifYes h hx rfl rfl hd rfl hc ho hp hr
theorem own_s_icmpYes (h : At T m c below) (hx : tb.exec = Jvm.exec) {cd : ClassFile.Cond} {x y : Int32} {o : Int} (hd : decode c.code pc = .ok (.if_icmp cd o, 3)) (ho : 0 ≤ (pc : Int) + o) (hp : ((pc : Int) + o).toNat = pc') (hc : if_icmp.holds cd x y = true)
    (hr : Steps tb e below (T.setTop (mkF m pc' L S)) target) : Steps tb e below (T.setTop (mkF m pc L (.int y :: .int x :: S))) target := by
  exact XS.icmpYes h hx rfl rfl hd rfl hc ho hp hr
theorem own_s_ifNo (h : At T m c below) (hx : tb.exec = Jvm.exec) {cd : ClassFile.Cond} {o : Int} {x : Int32} (hd : decode c.code pc = .ok (.ifCond cd o, 3)) (hp : pc + 3 = pc') (hc : ifCond.holds cd x = false)
    (hr : Steps tb e below (T.setTop (mkF m pc' L S)) target) : Steps tb e below (T.setTop (mkF m pc L (.int x :: S))) target := by
  subst hp; exact XS.ifNo h hx rfl hd rfl hc hr
theorem own_s_icmpNo (h : At T m c below) (hx : tb.exec = Jvm.exec) {cd : ClassFile.Cond} {o : Int} {x y : Int32} (hd : decode c.code pc = .ok (.if_icmp cd o, 3)) (hp : pc + 3 = pc') (hc : if_icmp.holds cd x y = false)
    (hr : Steps tb e below (T.setTop (mkF m pc' L S)) target) : Steps tb e below (T.setTop (mkF m pc L (.int y :: .int x :: S))) target := by
  subst hp; exact XS.icmpNo h hx rfl hd rfl hc hr
theorem own_s_ifnullYes (h : At T m c below) (hx : tb.exec = Jvm.exec)  {o : Int} (hd : decode c.code pc = .ok (.ifnull o, 3)) (ho : 0 ≤ (pc : Int) + o) (hp : ((pc : Int) + o).toNat = pc') 
    (hr : Steps tb e below (T.setTop (mkF m pc' L S)) target) : Steps tb e below (T.setTop (mkF m pc L (.null :: S))) target := by
  exact XS.ifnullYes h hx rfl rfl hd rfl ho hp hr
theorem own_s_ifnullNo (h : At T m c below) (hx : tb.exec = Jvm.exec) {o : Int} {b : Addr} (hd : decode c.code pc = .ok (.ifnull o, 3)) (hp : pc + 3 = pc') 
    (hr : Steps tb e below (T.setTop (mkF m pc' L S)) target) : Steps tb e below (T.setTop (mkF m pc L (.ref b :: S))) target := by
  subst hp; exact XS.ifnullNo h hx rfl hd rfl hr
theorem own_s_ifnonnullYes (h : At T m c below) (hx : tb.exec = Jvm.exec) {b : Addr} {o : Int} (hd : decode c.code pc = .ok (.ifnonnull o, 3)) (ho : 0 ≤ (pc : Int) + o) (hp : ((pc : Int) + o).toNat = pc') 
    (hr : Steps tb e below (T.setTop (mkF m pc' L S)) target) : Steps tb e below (T.setTop (mkF m pc L (.ref b :: S))) target := by
  exact XS.ifnonnullYes h hx rfl rfl hd rfl ho hp hr
theorem own_s_ifnonnullNo (h : At T m c below) (hx : tb.exec = Jvm.exec) {o : Int} (hd : decode c.code pc = .ok (.ifnonnull o, 3)) (hp : pc + 3 = pc') 
    (hr : Steps tb e below (T.setTop (mkF m pc' L S)) target) : Steps tb e below (T.setTop (mkF m pc L (.null :: S))) target := by
  subst hp; exact XS.ifnonnullNo h hx rfl hd rfl hr
end OwnStep
section OwnHeap
open Jvm Jvm.ClassFile Sem Op Lib Jvm.Free Jvm.Stand Jvm.LawKit Jvm.RoadKit
variable {p : Program} {l : Launch} {e : Env} {R : Room} {s : State} {m : MethodId} {args : Array Value} {below : List Frame} {meth : Method} {c : Code} {T : State} {locs : List Loc} {cells slots : Nat} {Z : State} {a0 : Array Value} {h : Heap} {pc pc' : Nat} {L : Array Slot} {S : List Value} {a : Addr} {k : ClassId} {z : Int32} {vs : List Value} {dv : Value}
theorem own_newD (X : Stand p l e R s m args below meth c T locs cells slots) (hx : p.tables.exec = Jvm.exec) (hZ : Z.Warmed39 s.vm) (w : (Jvm.Cond.arrayClass .double).before a0 Z = true) (eT : T.heap = h) (n : Nat) (hz : z.toNatClampNeg = n) (hz0 : ¬ z < 0) (hb : n * 8 ≤ 536870912) (hc : cells + 1 ≤ R.cells) (hl : slots + n ≤ R.slots) (hd : decode c.code pc = .ok (.newarray .double, 2)) (hp : pc + 2 = pc') :
    ∃ T' h' k b, Stand p l e R s m args below meth c T' locs (cells + 1) (slots + n) ∧ T'.heap = h' ∧ Ext h h' ∧ b = h.size ∧ Arv Z h' b k .double z (List.replicate n (.double 0)) (.double 0) ∧ ∀ target, Steps p.tables e below (T'.setTop (mkF m pc' L (.ref b :: S))) target → Steps p.tables e below (T.setTop (mkF m pc L (.int z :: S))) target := by
  subst hp
  obtain ⟨T', h', k, X', e', E, A, st⟩ := newP X hx hZ (aty := .double) w eT (g := mkF m pc L (.int z :: S)) rfl hd rfl hz0 (cap := n) (Nat.le_of_eq hz) hb hc hl
  exact ⟨T', h', k, h.size, X', e', E, rfl, (Arv.new A hz0).pad (pad_rep [] (.double 0) n), st⟩
theorem own_newJ (X : Stand p l e R s m args below meth c T locs cells slots) (hx : p.tables.exec = Jvm.exec) (hZ : Z.Warmed39 s.vm) (w : (Jvm.Cond.arrayClass .long).before a0 Z = true) (eT : T.heap = h) (n : Nat) (hz : z.toNatClampNeg = n) (hz0 : ¬ z < 0) (hb : n * 8 ≤ 536870912) (hc : cells + 1 ≤ R.cells) (hl : slots + n ≤ R.slots) (hd : decode c.code pc = .ok (.newarray .long, 2)) (hp : pc + 2 = pc') :
    ∃ T' h' k b, Stand p l e R s m args below meth c T' locs (cells + 1) (slots + n) ∧ T'.heap = h' ∧ Ext h h' ∧ b = h.size ∧ Arv Z h' b k .long z (List.replicate n (.long 0)) (.long 0) ∧ ∀ target, Steps p.tables e below (T'.setTop (mkF m pc' L (.ref b :: S))) target → Steps p.tables e below (T.setTop (mkF m pc L (.int z :: S))) target := by
  subst hp
  obtain ⟨T', h', k, X', e', E, A, st⟩ := newP X hx hZ (aty := .long) w eT (g := mkF m pc L (.int z :: S)) rfl hd rfl hz0 (cap := n) (Nat.le_of_eq hz) hb hc hl
  exact ⟨T', h', k, h.size, X', e', E, rfl, (Arv.new A hz0).pad (pad_rep [] (.long 0) n), st⟩
theorem own_stD (X : Stand p l e R s m args below meth c T locs cells slots) (hx : p.tables.exec = Jvm.exec) (hZ : Z.Warmed39 s.vm) (eT : T.heap = h) (V : Arv Z h a k .double z vs dv) {j : Int32} {x : UInt64} (hj : ¬ j < 0 ∧ j < z) (i : Nat) (hi : j.toNatClampNeg = i) (hl : i < vs.length) (hd : decode c.code pc = .ok (.dastore, 1)) (hp : pc + 1 = pc') :
    ∃ T' h', Stand p l e R s m args below meth c T' (locs ++ [⟨a, j.toNatClampNeg⟩]) cells slots ∧ T'.heap = h' ∧ Wr h h' a j.toNatClampNeg (.double x) ∧ Arv Z h' a k .double z (vs.set i (.double x)) dv ∧ ∀ target, Steps p.tables e below (T'.setTop (mkF m pc' L S)) target → Steps p.tables e below (T.setTop (mkF m pc L (.double x :: .int j :: .ref a :: S))) target := by
  subst hp
  obtain ⟨cl, A, q1, S1, q3, H, G⟩ := V
  obtain ⟨T', h', X', e', W, st⟩ := stD X hx hZ eT A (j := j) (x := x) (inb_of S1 hj) (g := mkF m pc L (.double x :: .int j :: .ref a :: S)) rfl rfl hd
  exact ⟨T', h', X', e', W, Arv.set A q1 S1 q3 H G rfl W i hi hl, st⟩
theorem own_ldD (X : Stand p l e R s m args below meth c T locs cells slots) (hx : p.tables.exec = Jvm.exec) (hZ : Z.Warmed39 s.vm) (eT : T.heap = h) (V : Arv Z h a k .double z vs dv) {j : Int32} {x : UInt64} (hj : ¬ j < 0 ∧ j < z) (hv : vs.getD j.toNatClampNeg dv = .double x) (hd : decode c.code pc = .ok (.daload, 1)) (hp : pc + 1 = pc') {target : State}
    (hr : Steps p.tables e below (T.setTop (mkF m pc' L (.double x :: S))) target) : Steps p.tables e below (T.setTop (mkF m pc L (.int j :: .ref a :: S))) target := by
  subst hp
  obtain ⟨cl, A, q1, S1, q3, H, G⟩ := V
  exact X.daload hx (j := j) (v := .double x) (by rw [eT]; exact A.1) (State.isArrayOf_alike hZ.alike A.2.1) A.2.2 (inb_of S1 hj) (H.at (inb_of S1 hj) hv) (g := mkF m pc L (.int j :: .ref a :: S)) rfl rfl hd target hr
theorem own_len {ty : FieldType} (X : Stand p l e R s m args below meth c T locs cells slots) (hx : p.tables.exec = Jvm.exec) (hZ : Z.Warmed39 s.vm) (eT : T.heap = h) (V : Arv Z h a k ty z vs dv) (hd : decode c.code pc = .ok (.arraylength, 1)) (hp : pc + 1 = pc') {target : State}
    (hr : Steps p.tables e below (T.setTop (mkF m pc' L (.int z :: S))) target) : Steps p.tables e below (T.setTop (mkF m pc L (.ref a :: S))) target := by
  subst hp
  obtain ⟨cl, A, q1, S1, q3, H, G⟩ := V
  refine X.arraylength hx (by rw [eT]; exact A.1) (State.isArrayOf_alike hZ.alike A.2.1) (g := mkF m pc L (.ref a :: S)) rfl rfl hd target ?_
  rw [len_of S1 q3]
  exact hr
theorem own_retI (X : Stand p l e R s m args below meth c T locs cells slots) (hx : p.tables.exec = Jvm.exec) {x : Int32} (hret : meth.sig.returnType = some .int) (hd : decode c.code pc = .ok (.ireturn, 1)) {fs : List Frame}
    (hl : ∀ (f : JFrame) (acts : List Action), f.method = m → f.locked = none → f.entered = [] → (doReturn e (T.setTop f) acts (some (.int x))).1 = T.setFrames fs) : Steps p.tables e below (T.setTop (mkF m pc L (.int x :: S))) (T.setFrames fs) := by
  have hm' : T.vm.method? m = some meth := X.method'
  have hn : narrow .int (.int x) = .int x := rfl
  show Steps p.tables e below (T.setTop { method := m, pc := pc, locals := L, stack := _ :: S, locked := none }) _
  jvm_step X.here [X.here.top, hx, hd, hm', hret, hn]
  first | (intro acts; rw [hl _ acts rfl rfl rfl]) | rw [hl _ _ rfl rfl rfl]
  exact Steps.refl _
theorem own_retD (X : Stand p l e R s m args below meth c T locs cells slots) (hx : p.tables.exec = Jvm.exec) {x : UInt64} (hret : meth.sig.returnType = some .double) (hd : decode c.code pc = .ok (.dreturn, 1)) {fs : List Frame}
    (hl : ∀ (f : JFrame) (acts : List Action), f.method = m → f.locked = none → f.entered = [] → (doReturn e (T.setTop f) acts (some (.double x))).1 = T.setFrames fs) : Steps p.tables e below (T.setTop (mkF m pc L (.double x :: S))) (T.setFrames fs) := by
  have hm' : T.vm.method? m = some meth := X.method'
  show Steps p.tables e below (T.setTop { method := m, pc := pc, locals := L, stack := _ :: S, locked := none }) _
  jvm_step X.here [X.here.top, hx, hd, hm', hret, narrow]
  first | (intro acts; rw [hl _ acts rfl rfl rfl]) | rw [hl _ _ rfl rfl rfl]
  exact Steps.refl _
theorem own_retJ (X : Stand p l e R s m args below meth c T locs cells slots) (hx : p.tables.exec = Jvm.exec) {x : Int64} (hret : meth.sig.returnType = some .long) (hd : decode c.code pc = .ok (.lreturn, 1)) {fs : List Frame}
    (hl : ∀ (f : JFrame) (acts : List Action), f.method = m → f.locked = none → f.entered = [] → (doReturn e (T.setTop f) acts (some (.long x))).1 = T.setFrames fs) : Steps p.tables e below (T.setTop (mkF m pc L (.long x :: S))) (T.setFrames fs) := by
  have hm' : T.vm.method? m = some meth := X.method'
  show Steps p.tables e below (T.setTop { method := m, pc := pc, locals := L, stack := _ :: S, locked := none }) _
  jvm_step X.here [X.here.top, hx, hd, hm', hret, narrow]
  first | (intro acts; rw [hl _ acts rfl rfl rfl]) | rw [hl _ _ rfl rfl rfl]
  exact Steps.refl _
theorem own_retR (X : Stand p l e R s m args below meth c T locs cells slots) (hx : p.tables.exec = Jvm.exec) {b : Addr} {t : FieldType} (hret : meth.sig.returnType = some t) (ht : t.isReference = true) (hd : decode c.code pc = .ok (.areturn, 1)) {fs : List Frame}
    (hl : ∀ (f : JFrame) (acts : List Action), f.method = m → f.locked = none → f.entered = [] → (doReturn e (T.setTop f) acts (some (.ref b))).1 = T.setFrames fs) : Steps p.tables e below (T.setTop (mkF m pc L (.ref b :: S))) (T.setFrames fs) := by
  have hm' : T.vm.method? m = some meth := X.method'
  show Steps p.tables e below (T.setTop { method := m, pc := pc, locals := L, stack := _ :: S, locked := none }) _
  jvm_step X.here [X.here.top, hx, hd, hm', hret, Value.isRef, ht]
  first | (intro acts; rw [hl _ acts rfl rfl rfl]) | rw [hl _ _ rfl rfl rfl]
  exact Steps.refl _
end OwnHeap
open Jvm Jvm.ClassFile Sem Op Lib Jvm.Free Jvm.Stand Jvm.LawKit Jvm.RoadKit Bundle Jvm.Pilot.@@N@@.Jvm.D
def own_Q0 (n0 : Nat) (v : Option Value) (h : Heap) (L : List Loc) : Prop := v = some (.int 1) ∧ Fr n0 L
def own_QP (r : Option Value) (h0 : Heap) (n0 : Nat) (v : Option Value) (h : Heap) (L : List Loc) : Prop := v = r ∧ Fr n0 L ∧ h = h0
section OwnBetween
open Jvm.FP.Core
def own_z (x : UInt64) : Int := zval b64 (val64 x)
def own_fine (x : UInt64) : Prop := val64 x ≠ .nan
theorem own_fine_nn {x : UInt64} (h : own_fine x) : Jvm.Free.Fl.NoNaN64 x := Jvm.Free.Fl.noNaN64_no.mpr ((notNaN_iff _).mpr h)
theorem own_nn_fine {x : UInt64} (h : Jvm.Free.Fl.NoNaN64 x) : own_fine x := (notNaN_iff _).mp (Jvm.Free.Fl.noNaN64_no.mp h)
theorem own_gt {x y : UInt64} (hx : own_fine x) (hy : own_fine y) (o : ClassFile.CmpOp) : Op.ifCond.holds .gt (Op.cmpValue (Jvm.FP.dcmp x y) o) = decide (own_z y < own_z x) ∧ Op.ifCond.holds .le (Op.cmpValue (Jvm.FP.dcmp x y) o) = decide (own_z x ≤ own_z y) ∧ Op.ifCond.holds .ge (Op.cmpValue (Jvm.FP.dcmp x y) o) = decide (own_z y ≤ own_z x) := by
  show Op.ifCond.holds .gt (Op.cmpValue (dcmp x y) o) = _ ∧ Op.ifCond.holds .le (Op.cmpValue (dcmp x y) o) = _ ∧ Op.ifCond.holds .ge (Op.cmpValue (dcmp x y) o) = _
  rw [dcmp_zval hx hy]
  unfold own_z
  rcases Int.lt_trichotomy (zval b64 (val64 x)) (zval b64 (val64 y)) with h | h | h
  · rw [(compare_lt_iff _ _).mpr h]; simp only [show zval b64 (val64 x) ≤ zval b64 (val64 y) by omega, show ¬ zval b64 (val64 y) < zval b64 (val64 x) by omega, show ¬ zval b64 (val64 y) ≤ zval b64 (val64 x) by omega]; cases o <;> decide
  · rw [(compare_eq_iff _ _).mpr h]; simp only [show zval b64 (val64 x) ≤ zval b64 (val64 y) by omega, show ¬ zval b64 (val64 y) < zval b64 (val64 x) by omega, show zval b64 (val64 y) ≤ zval b64 (val64 x) by omega]; cases o <;> decide
  · rw [(compare_gt_iff _ _).mpr h]; simp only [show ¬ zval b64 (val64 x) ≤ zval b64 (val64 y) by omega, show zval b64 (val64 y) < zval b64 (val64 x) by omega, show zval b64 (val64 y) ≤ zval b64 (val64 x) by omega]; cases o <;> decide
theorem own_zeq {x y : UInt64} (hx : own_fine x) (hy : own_fine y) (h : own_z x = own_z y) (o : ClassFile.CmpOp) : Op.cmpValue (Jvm.FP.dcmp x y) o = 0 := by
  show Op.cmpValue (dcmp x y) o = 0
  rw [dcmp_zval hx hy, (compare_eq_iff _ _).mpr (show zval b64 (val64 x) = zval b64 (val64 y) from h)]; cases o <;> rfl
theorem own_is_fine {x : UInt64} {n e : Int} (h : own_Is x n e) : own_fine x := h.1.ne_nan
theorem own_half_fin {x : UInt64} (h : DFin x) : DFin (ddiv x 4611686018427387904) := by
  have h1 := (fin_bits x).mp h
  exact fin_of_lt (K := 2047) (ddiv_mag (K := 2047) (L := 1024) (by omega) (by decide) (by decide) (by decide) (by decide)) (by decide)
theorem own_sum_fine {x y : UInt64} (hx : DFin x) (hy : DFin y) : own_fine (dadd x y) := (notNaN_iff _).mp (dadd_out hx.notNaN hy)
theorem own_l2dR {a : Int64} {n : Int} {e : Nat} (h : a.toInt = n * ((2 ^ e : Nat) : Int)) (hn : n.natAbs < 9007199254740992) (he : e ≤ 971) : own_Is (l2d a) n e := by
  have hu := ofInt_units b64 a.toInt
  have h1 : signed (decide (a.toInt < 0)) (inUnits a.toInt.natAbs 0 b64.qmin) = n * ((2 ^ ((e : Int) + 1074).toNat : Nat) : Int) := by
    rw [hu, h, Int.mul_assoc, ← Int.natCast_mul, ← Nat.pow_add, qmin_b64]; congr 3
  obtain ⟨c', q', h2, h3⟩ := own_sum (s := decide (a.toInt < 0)) (c := a.toInt.natAbs) (q := 0) (by decide) hn (by omega) (by omega) h1
  exact own_Is_of (by rw [val64_l2d]; exact h2) (by omega) h3
theorem own_dneg {x : UInt64} {n e : Int} (h : own_Is x n e) : own_Is (Jvm.FP.dneg x) (-n) e := by
  obtain ⟨s, c, q, hv, hf, hz, hq⟩ := own_fin_split h
  refine own_Is_of (s := !s) (c := c) (q := q) ?_ h.2.1 ?_
  · rw [Jvm.FP.val64_dneg, hv]; rfl
  · rw [signed_not, hz, Int.neg_mul]
/-- a double of 2^53 or more is an even whole number -/
theorem own_even {x : UInt64} (hx : DFin x) (h : 9007199254740992 * (2 ^ 1074 : Nat) ≤ (own_z x).natAbs) : ∃ j : Int, own_z x = j * (2 * ((2 ^ 1074 : Nat) : Int)) := by
  obtain ⟨s, c, q, hv⟩ := hx
  have hf := val64_fits x
  unfold own_z at h ⊢
  rw [hv] at hf h ⊢
  obtain ⟨h1, h2, -, -⟩ := hf
  rw [qmin_b64] at h2
  have h1' : c < 9007199254740992 := h1
  have e1 : zval b64 (.fin s c q) = signed s (c * 2 ^ (q - -1074).toNat) := by unfold zval zmag inUnits; rw [qmin_b64]; rfl
  rw [e1] at h ⊢
  rw [own_signed_abs] at h
  have hq : 1075 ≤ (q - -1074).toNat := by
    refine Nat.le_of_not_lt fun hlt => ?_
    have : c * 2 ^ (q - -1074).toNat < 9007199254740992 * 2 ^ 1074 := by
      calc c * 2 ^ (q - -1074).toNat ≤ c * 2 ^ 1074 := Nat.mul_le_mul_left _ (Nat.pow_le_pow_right (by decide) (by omega))
        _ < 9007199254740992 * 2 ^ 1074 := Nat.mul_lt_mul_of_pos_right h1' (Nat.two_pow_pos _)
    omega
  obtain ⟨t, ht⟩ : ∃ t, (q - -1074).toNat = t + 1 + 1074 := ⟨(q - -1074).toNat - 1075, by omega⟩
  refine ⟨signed s (c * 2 ^ t), ?_⟩
  rw [ht, Nat.pow_add, Nat.pow_succ, ← Nat.mul_assoc, ← Nat.mul_assoc, Nat.mul_assoc (c * 2 ^ t), own_signed_scale, Int.natCast_mul]
  rfl
theorem own_fin_between {h lo up : UInt64} (n : own_fine h) (hl : DFin lo) (hu : DFin up) (h1 : own_z lo ≤ own_z h) (h2 : own_z h ≤ own_z up) : DFin h := by
  unfold own_z at h1 h2
  cases hv : val64 h with
  | nan => exact absurd hv n
  | fin s c q => exact ⟨s, c, q, hv⟩
  | inf s =>
    exfalso
    have a1 := hl.zval_lt
    have a2 := hu.zval_lt
    have b1 : zval b64 (val64 h) = signed s (b64.tails * 2 ^ (b64.exps - 2)) := by rw [hv]; rfl
    rw [b1] at h1 h2
    have c1 : (zval b64 (val64 lo)).natAbs = zmag b64 (val64 lo) := own_signed_abs _ _
    have c2 : (zval b64 (val64 up)).natAbs = zmag b64 (val64 up) := own_signed_abs _ _
    generalize b64.tails * 2 ^ (b64.exps - 2) = T at *
    cases s <;> simp only [signed, if_true, if_false, Bool.false_eq_true] at h1 h2 <;> omega
/-- between two neighbours n and n + 1 (in units of 2) of size 2^52 or more: above the lower, at most the upper: the upper -/
theorem own_gap {h lo up : UInt64} {n : Int} (nh : own_fine h) (hl : own_Is lo n 1) (hu : own_Is up (n + 1) 1) (hn : 4503599627370496 ≤ n ∨ n + 1 ≤ -4503599627370496) (h1 : own_z lo < own_z h) (h2 : own_z h ≤ own_z up) : own_z h = own_z up := by
  have hf := own_fin_between nh hl.1 hu.1 (Int.le_of_lt h1) h2
  have el : own_z lo = n * (2 * ((2 ^ 1074 : Nat) : Int)) := by unfold own_z; rw [hl.2.2, show ((1 : Int) + 1074).toNat = 1 + 1074 by decide, Nat.pow_add, Int.natCast_mul]; rfl
  have eu : own_z up = (n + 1) * (2 * ((2 ^ 1074 : Nat) : Int)) := by unfold own_z; rw [hu.2.2, show ((1 : Int) + 1074).toNat = 1 + 1074 by decide, Nat.pow_add, Int.natCast_mul]; rfl
  have hU : (0 : Int) < 2 * ((2 ^ 1074 : Nat) : Int) := by have := Nat.two_pow_pos 1074; omega
  have hbig : 9007199254740992 * (2 ^ 1074 : Nat) ≤ (own_z h).natAbs := by
    have hU' := Nat.two_pow_pos 1074
    rcases hn with hn | hn
    · have : 4503599627370496 * (2 * ((2 ^ 1074 : Nat) : Int)) ≤ n * (2 * ((2 ^ 1074 : Nat) : Int)) := Int.mul_le_mul_of_nonneg_right hn (Int.le_of_lt hU)
      rw [← el] at this
      generalize ((2 ^ 1074 : Nat)) = U at *
      omega
    · have : (n + 1) * (2 * ((2 ^ 1074 : Nat) : Int)) ≤ -4503599627370496 * (2 * ((2 ^ 1074 : Nat) : Int)) := Int.mul_le_mul_of_nonneg_right hn (Int.le_of_lt hU)
      rw [← eu] at this
      generalize ((2 ^ 1074 : Nat)) = U at *
      omega
  obtain ⟨j, hj⟩ := own_even hf hbig
  rw [el, hj] at h1
  rw [eu, hj] at h2
  have k1 := Int.lt_of_mul_lt_mul_right h1 (Int.le_of_lt hU)
  have k2 := Int.le_of_mul_le_mul_right h2 hU
  rw [hj, eu, show j = n + 1 by omega]
end OwnBetween
def own_imin (x y : Int32) : Int32 := if y < x then y else x
theorem own_d2_0 : decode jdk_29_method_69_code 0 = .ok (.iload_n 0, 1) := by decide +kernel
theorem own_d2_1 : decode jdk_29_method_69_code 1 = .ok (.iload_n 1, 1) := by decide +kernel
theorem own_d2_2 : decode jdk_29_method_69_code 2 = .ok (.if_icmp .gt 7, 3) := by decide +kernel
theorem own_d2_9 : decode jdk_29_method_69_code 9 = .ok (.iload_n 1, 1) := by decide +kernel
theorem own_d2_10 : decode jdk_29_method_69_code 10 = .ok (.ireturn, 1) := by decide +kernel
theorem own_d2_5 : decode jdk_29_method_69_code 5 = .ok (.iload_n 0, 1) := by decide +kernel
theorem own_d2_6 : decode jdk_29_method_69_code 6 = .ok (.goto 4, 3) := by decide +kernel
theorem own_ef_mit (m : MethodId) (x : Int32) (y : Int32) : entryFrame m #[(.int x), (.int y)] 2 = mkF m 0 #[.val (.int x), .val (.int y)] [] := by first | (simp [entryFrame, mkF, argsToLocals, Value.category]; done) | rfl
set_option maxRecDepth 65536 in
set_option maxHeartbeats 40000000 in
theorem own_rm_mit (l : Launch) (Z : State) (a0 : Array Value) (hw : ∀ d ∈ tables_1, d.before a0 Z = true) (ws : List Jvm.Cond) (x : Int32) (y : Int32)  (h0 : Heap) (n0 : Nat) (Z0 : n0 ≤ h0.size)  (mit_hb2 : if_icmp.holds .gt x y = true) :
    MetFree l (⟨"java/lang/Math", "min", "(II)I"⟩ : MethodName) (head1 (Jvm.Cond.code (⟨"java/lang/Math", "min", "(II)I"⟩ : MethodName) jdk_29_method_69_code 2 (some .int) :: ws) ({ frames := 0, cells := 0, slots := 0, locals := 0 } : Room)) (fun a U => a = #[(.int x), (.int y)] ∧ Z.Warmed39 U.vm ∧ U.heap = h0) (fun _ _ _ _ _ => True) (fun _ U o U' => ∃ v L, o = .returned v ∧ own_QP (some (.int y)) h0 n0 v U'.heap L ∧ FrameEnd U o U' L ({ frames := 0, cells := 0, slots := 0, locals := 0 } : Room).cells ({ frames := 0, cells := 0, slots := 0, locals := 0 } : Room).slots) := by
  refine MetFree.of_bodySF (Jvm.Free.JP.mathPlain rfl (by decide +kernel)) hisR ?_
  intro p e s m args below meth c s₁ Bd hml0 hP hK
  obtain ⟨rfl, hZ, hh⟩ := hP
  have hx := Bd.exec
  have hby := Bd.bytes
  have hml : c.maxLocals = 2 := hml0
  have hown : s.vm.findClass "java/lang/Math" = some m.cls := findClass_of_methodNamed Bd.named
  have hnm := (name_of_methodNamed Bd.named Bd.method).1
  have X0 : Stand p l e ({ frames := 0, cells := 0, slots := 0, locals := 0 } : Room) s m #[(.int x), (.int y)] below meth c s₁ [] 0 0 := Stand.of_body Bd
  have e0 : s₁.heap = h0 := by rw [← hh, Bd.state]; rfl
  have N0 := Fr.nil n0
  have pre0 : ∀ t, Steps p.tables e below (s₁.setTop (mkF m 0 #[.val (.int x), .val (.int y)] [])) t → Steps p.tables e below (s₁.setTop (entryFrame m #[(.int x), (.int y)] 2)) t := fun t k => castTop (own_ef_mit m x y) k
  obtain ⟨fs, hr, hrun, hended, hW, hsame⟩ := X0.leave (v := some (.int y)) (fun h => by rw [Bd.returns] at h; cases h)
  refine ⟨_, _, pre0 _ ?_, hrun, hended, _, _, rfl, ?_, ⟨_, rfl⟩, hW, hsame.mono (by decide) (by decide)⟩
  · refine own_s_iloadN X0.here hx (hb hby own_d2_0) (pc' := 1) rfl rfl ?_
    refine own_s_iloadN X0.here hx (hb hby own_d2_1) (pc' := 2) rfl rfl ?_
    refine own_s_icmpYes X0.here hx (hb hby own_d2_2) (by decide) (pc' := 9) (by decide) mit_hb2 ?_
    refine own_s_iloadN X0.here hx (hb hby own_d2_9) (pc' := 10) rfl rfl ?_
    exact own_retI X0 hx Bd.returns (hb hby own_d2_10) hr
  · show own_QP (some (.int y)) h0 n0 _ s₁.heap _
    rw [e0]
    exact ⟨rfl, N0, rfl⟩
theorem own_ef_mif (m : MethodId) (x : Int32) (y : Int32) : entryFrame m #[(.int x), (.int y)] 2 = mkF m 0 #[.val (.int x), .val (.int y)] [] := by first | (simp [entryFrame, mkF, argsToLocals, Value.category]; done) | rfl
set_option maxRecDepth 65536 in
set_option maxHeartbeats 40000000 in
theorem own_rm_mif (l : Launch) (Z : State) (a0 : Array Value) (hw : ∀ d ∈ tables_1, d.before a0 Z = true) (ws : List Jvm.Cond) (x : Int32) (y : Int32)  (h0 : Heap) (n0 : Nat) (Z0 : n0 ≤ h0.size)  (mif_hb2 : if_icmp.holds .gt x y = false) :
    MetFree l (⟨"java/lang/Math", "min", "(II)I"⟩ : MethodName) (head1 (Jvm.Cond.code (⟨"java/lang/Math", "min", "(II)I"⟩ : MethodName) jdk_29_method_69_code 2 (some .int) :: ws) ({ frames := 0, cells := 0, slots := 0, locals := 0 } : Room)) (fun a U => a = #[(.int x), (.int y)] ∧ Z.Warmed39 U.vm ∧ U.heap = h0) (fun _ _ _ _ _ => True) (fun _ U o U' => ∃ v L, o = .returned v ∧ own_QP (some (.int x)) h0 n0 v U'.heap L ∧ FrameEnd U o U' L ({ frames := 0, cells := 0, slots := 0, locals := 0 } : Room).cells ({ frames := 0, cells := 0, slots := 0, locals := 0 } : Room).slots) := by
  refine MetFree.of_bodySF (Jvm.Free.JP.mathPlain rfl (by decide +kernel)) hisR ?_
  intro p e s m args below meth c s₁ Bd hml0 hP hK
  obtain ⟨rfl, hZ, hh⟩ := hP
  have hx := Bd.exec
  have hby := Bd.bytes
  have hml : c.maxLocals = 2 := hml0
  have hown : s.vm.findClass "java/lang/Math" = some m.cls := findClass_of_methodNamed Bd.named
  have hnm := (name_of_methodNamed Bd.named Bd.method).1
  have X0 : Stand p l e ({ frames := 0, cells := 0, slots := 0, locals := 0 } : Room) s m #[(.int x), (.int y)] below meth c s₁ [] 0 0 := Stand.of_body Bd
  have e0 : s₁.heap = h0 := by rw [← hh, Bd.state]; rfl
  have N0 := Fr.nil n0
  have pre0 : ∀ t, Steps p.tables e below (s₁.setTop (mkF m 0 #[.val (.int x), .val (.int y)] [])) t → Steps p.tables e below (s₁.setTop (entryFrame m #[(.int x), (.int y)] 2)) t := fun t k => castTop (own_ef_mif m x y) k
  obtain ⟨fs, hr, hrun, hended, hW, hsame⟩ := X0.leave (v := some (.int x)) (fun h => by rw [Bd.returns] at h; cases h)
  refine ⟨_, _, pre0 _ ?_, hrun, hended, _, _, rfl, ?_, ⟨_, rfl⟩, hW, hsame.mono (by decide) (by decide)⟩
  · refine own_s_iloadN X0.here hx (hb hby own_d2_0) (pc' := 1) rfl rfl ?_
    refine own_s_iloadN X0.here hx (hb hby own_d2_1) (pc' := 2) rfl rfl ?_
    refine own_s_icmpNo X0.here hx (hb hby own_d2_2) (pc' := 5) rfl mif_hb2 ?_
    refine own_s_iloadN X0.here hx (hb hby own_d2_5) (pc' := 6) rfl rfl ?_
    refine own_s_goto X0.here hx (hb hby own_d2_6) (by decide) (pc' := 10) (by decide) ?_
    exact own_retI X0 hx Bd.returns (hb hby own_d2_10) hr
  · show own_QP (some (.int x)) h0 n0 _ s₁.heap _
    rw [e0]
    exact ⟨rfl, N0, rfl⟩
set_option maxRecDepth 65536 in
set_option maxHeartbeats 40000000 in
theorem own_rm_mi (l : Launch) (Z : State) (a0 : Array Value) (hw : ∀ d ∈ tables_1, d.before a0 Z = true) (ws : List Jvm.Cond) (x : Int32) (y : Int32)  (h0 : Heap) (n0 : Nat) (Z0 : n0 ≤ h0.size)   :
    MetFree l (⟨"java/lang/Math", "min", "(II)I"⟩ : MethodName) (head1 (Jvm.Cond.code (⟨"java/lang/Math", "min", "(II)I"⟩ : MethodName) jdk_29_method_69_code 2 (some .int) :: ws) ({ frames := 0, cells := 0, slots := 0, locals := 0 } : Room)) (fun a U => a = #[(.int x), (.int y)] ∧ Z.Warmed39 U.vm ∧ U.heap = h0) (fun _ _ _ _ _ => True) (fun _ U o U' => ∃ v L, o = .returned v ∧ own_QP (some (.int (own_imin x y))) h0 n0 v U'.heap L ∧ FrameEnd U o U' L ({ frames := 0, cells := 0, slots := 0, locals := 0 } : Room).cells ({ frames := 0, cells := 0, slots := 0, locals := 0 } : Room).slots) := by
  unfold own_imin
  by_cases h : y < x
  · rw [if_pos h]; exact own_rm_mit l Z a0 hw ws x y h0 n0 Z0 (XT.ii_gt_t h)
  · rw [if_neg h]; exact own_rm_mif l Z a0 hw ws x y h0 n0 Z0 (XT.ii_gt_f h)
def own_imax (x y : Int32) : Int32 := if x < y then y else x
theorem own_d3_0 : decode jdk_29_method_65_code 0 = .ok (.iload_n 0, 1) := by decide +kernel
theorem own_d3_1 : decode jdk_29_method_65_code 1 = .ok (.iload_n 1, 1) := by decide +kernel
theorem own_d3_2 : decode jdk_29_method_65_code 2 = .ok (.if_icmp .lt 7, 3) := by decide +kernel
theorem own_d3_9 : decode jdk_29_method_65_code 9 = .ok (.iload_n 1, 1) := by decide +kernel
theorem own_d3_10 : decode jdk_29_method_65_code 10 = .ok (.ireturn, 1) := by decide +kernel
theorem own_d3_5 : decode jdk_29_method_65_code 5 = .ok (.iload_n 0, 1) := by decide +kernel
theorem own_d3_6 : decode jdk_29_method_65_code 6 = .ok (.goto 4, 3) := by decide +kernel
theorem own_ef_mat (m : MethodId) (x : Int32) (y : Int32) : entryFrame m #[(.int x), (.int y)] 2 = mkF m 0 #[.val (.int x), .val (.int y)] [] := by first | (simp [entryFrame, mkF, argsToLocals, Value.category]; done) | rfl
set_option maxRecDepth 65536 in
set_option maxHeartbeats 40000000 in
theorem own_rm_mat (l : Launch) (Z : State) (a0 : Array Value) (hw : ∀ d ∈ tables_1, d.before a0 Z = true) (ws : List Jvm.Cond) (x : Int32) (y : Int32)  (h0 : Heap) (n0 : Nat) (Z0 : n0 ≤ h0.size)  (mat_hb2 : if_icmp.holds .lt x y = true) :
    MetFree l (⟨"java/lang/Math", "max", "(II)I"⟩ : MethodName) (head1 (Jvm.Cond.code (⟨"java/lang/Math", "max", "(II)I"⟩ : MethodName) jdk_29_method_65_code 2 (some .int) :: ws) ({ frames := 0, cells := 0, slots := 0, locals := 0 } : Room)) (fun a U => a = #[(.int x), (.int y)] ∧ Z.Warmed39 U.vm ∧ U.heap = h0) (fun _ _ _ _ _ => True) (fun _ U o U' => ∃ v L, o = .returned v ∧ own_QP (some (.int y)) h0 n0 v U'.heap L ∧ FrameEnd U o U' L ({ frames := 0, cells := 0, slots := 0, locals := 0 } : Room).cells ({ frames := 0, cells := 0, slots := 0, locals := 0 } : Room).slots) := by
  refine MetFree.of_bodySF (Jvm.Free.JP.mathPlain rfl (by decide +kernel)) hisR ?_
  intro p e s m args below meth c s₁ Bd hml0 hP hK
  obtain ⟨rfl, hZ, hh⟩ := hP
  have hx := Bd.exec
  have hby := Bd.bytes
  have hml : c.maxLocals = 2 := hml0
  have hown : s.vm.findClass "java/lang/Math" = some m.cls := findClass_of_methodNamed Bd.named
  have hnm := (name_of_methodNamed Bd.named Bd.method).1
  have X0 : Stand p l e ({ frames := 0, cells := 0, slots := 0, locals := 0 } : Room) s m #[(.int x), (.int y)] below meth c s₁ [] 0 0 := Stand.of_body Bd
  have e0 : s₁.heap = h0 := by rw [← hh, Bd.state]; rfl
  have N0 := Fr.nil n0
  have pre0 : ∀ t, Steps p.tables e below (s₁.setTop (mkF m 0 #[.val (.int x), .val (.int y)] [])) t → Steps p.tables e below (s₁.setTop (entryFrame m #[(.int x), (.int y)] 2)) t := fun t k => castTop (own_ef_mat m x y) k
  obtain ⟨fs, hr, hrun, hended, hW, hsame⟩ := X0.leave (v := some (.int y)) (fun h => by rw [Bd.returns] at h; cases h)
  refine ⟨_, _, pre0 _ ?_, hrun, hended, _, _, rfl, ?_, ⟨_, rfl⟩, hW, hsame.mono (by decide) (by decide)⟩
  · refine own_s_iloadN X0.here hx (hb hby own_d3_0) (pc' := 1) rfl rfl ?_
    refine own_s_iloadN X0.here hx (hb hby own_d3_1) (pc' := 2) rfl rfl ?_
    refine own_s_icmpYes X0.here hx (hb hby own_d3_2) (by decide) (pc' := 9) (by decide) mat_hb2 ?_
    refine own_s_iloadN X0.here hx (hb hby own_d3_9) (pc' := 10) rfl rfl ?_
    exact own_retI X0 hx Bd.returns (hb hby own_d3_10) hr
  · show own_QP (some (.int y)) h0 n0 _ s₁.heap _
    rw [e0]
    exact ⟨rfl, N0, rfl⟩
theorem own_ef_maf (m : MethodId) (x : Int32) (y : Int32) : entryFrame m #[(.int x), (.int y)] 2 = mkF m 0 #[.val (.int x), .val (.int y)] [] := by first | (simp [entryFrame, mkF, argsToLocals, Value.category]; done) | rfl
set_option maxRecDepth 65536 in
set_option maxHeartbeats 40000000 in
theorem own_rm_maf (l : Launch) (Z : State) (a0 : Array Value) (hw : ∀ d ∈ tables_1, d.before a0 Z = true) (ws : List Jvm.Cond) (x : Int32) (y : Int32)  (h0 : Heap) (n0 : Nat) (Z0 : n0 ≤ h0.size)  (maf_hb2 : if_icmp.holds .lt x y = false) :
    MetFree l (⟨"java/lang/Math", "max", "(II)I"⟩ : MethodName) (head1 (Jvm.Cond.code (⟨"java/lang/Math", "max", "(II)I"⟩ : MethodName) jdk_29_method_65_code 2 (some .int) :: ws) ({ frames := 0, cells := 0, slots := 0, locals := 0 } : Room)) (fun a U => a = #[(.int x), (.int y)] ∧ Z.Warmed39 U.vm ∧ U.heap = h0) (fun _ _ _ _ _ => True) (fun _ U o U' => ∃ v L, o = .returned v ∧ own_QP (some (.int x)) h0 n0 v U'.heap L ∧ FrameEnd U o U' L ({ frames := 0, cells := 0, slots := 0, locals := 0 } : Room).cells ({ frames := 0, cells := 0, slots := 0, locals := 0 } : Room).slots) := by
  refine MetFree.of_bodySF (Jvm.Free.JP.mathPlain rfl (by decide +kernel)) hisR ?_
  intro p e s m args below meth c s₁ Bd hml0 hP hK
  obtain ⟨rfl, hZ, hh⟩ := hP
  have hx := Bd.exec
  have hby := Bd.bytes
  have hml : c.maxLocals = 2 := hml0
  have hown : s.vm.findClass "java/lang/Math" = some m.cls := findClass_of_methodNamed Bd.named
  have hnm := (name_of_methodNamed Bd.named Bd.method).1
  have X0 : Stand p l e ({ frames := 0, cells := 0, slots := 0, locals := 0 } : Room) s m #[(.int x), (.int y)] below meth c s₁ [] 0 0 := Stand.of_body Bd
  have e0 : s₁.heap = h0 := by rw [← hh, Bd.state]; rfl
  have N0 := Fr.nil n0
  have pre0 : ∀ t, Steps p.tables e below (s₁.setTop (mkF m 0 #[.val (.int x), .val (.int y)] [])) t → Steps p.tables e below (s₁.setTop (entryFrame m #[(.int x), (.int y)] 2)) t := fun t k => castTop (own_ef_maf m x y) k
  obtain ⟨fs, hr, hrun, hended, hW, hsame⟩ := X0.leave (v := some (.int x)) (fun h => by rw [Bd.returns] at h; cases h)
  refine ⟨_, _, pre0 _ ?_, hrun, hended, _, _, rfl, ?_, ⟨_, rfl⟩, hW, hsame.mono (by decide) (by decide)⟩
  · refine own_s_iloadN X0.here hx (hb hby own_d3_0) (pc' := 1) rfl rfl ?_
    refine own_s_iloadN X0.here hx (hb hby own_d3_1) (pc' := 2) rfl rfl ?_
    refine own_s_icmpNo X0.here hx (hb hby own_d3_2) (pc' := 5) rfl maf_hb2 ?_
    refine own_s_iloadN X0.here hx (hb hby own_d3_5) (pc' := 6) rfl rfl ?_
    refine own_s_goto X0.here hx (hb hby own_d3_6) (by decide) (pc' := 10) (by decide) ?_
    exact own_retI X0 hx Bd.returns (hb hby own_d3_10) hr
  · show own_QP (some (.int x)) h0 n0 _ s₁.heap _
    rw [e0]
    exact ⟨rfl, N0, rfl⟩
set_option maxRecDepth 65536 in
set_option maxHeartbeats 40000000 in
theorem own_rm_ma (l : Launch) (Z : State) (a0 : Array Value) (hw : ∀ d ∈ tables_1, d.before a0 Z = true) (ws : List Jvm.Cond) (x : Int32) (y : Int32)  (h0 : Heap) (n0 : Nat) (Z0 : n0 ≤ h0.size)   :
    MetFree l (⟨"java/lang/Math", "max", "(II)I"⟩ : MethodName) (head1 (Jvm.Cond.code (⟨"java/lang/Math", "max", "(II)I"⟩ : MethodName) jdk_29_method_65_code 2 (some .int) :: ws) ({ frames := 0, cells := 0, slots := 0, locals := 0 } : Room)) (fun a U => a = #[(.int x), (.int y)] ∧ Z.Warmed39 U.vm ∧ U.heap = h0) (fun _ _ _ _ _ => True) (fun _ U o U' => ∃ v L, o = .returned v ∧ own_QP (some (.int (own_imax x y))) h0 n0 v U'.heap L ∧ FrameEnd U o U' L ({ frames := 0, cells := 0, slots := 0, locals := 0 } : Room).cells ({ frames := 0, cells := 0, slots := 0, locals := 0 } : Room).slots) := by
  unfold own_imax
  by_cases h : x < y
  · rw [if_pos h]; exact own_rm_mat l Z a0 hw ws x y h0 n0 Z0 (XT.ii_lt_t h)
  · rw [if_neg h]; exact own_rm_maf l Z a0 hw ws x y h0 n0 Z0 (XT.ii_lt_f h)
theorem own_d1_0 : decode prog_11_method_8_code 0 = .ok (.dload_n 0, 1) := by decide +kernel
theorem own_d1_1 : decode prog_11_method_8_code 1 = .ok (.ldc2_w 78, 3) := by decide +kernel
theorem own_d1_4 : decode prog_11_method_8_code 4 = .ok (.ddiv, 1) := by decide +kernel
theorem own_d1_5 : decode prog_11_method_8_code 5 = .ok (.dload_n 2, 1) := by decide +kernel
theorem own_d1_6 : decode prog_11_method_8_code 6 = .ok (.ldc2_w 78, 3) := by decide +kernel
theorem own_d1_9 : decode prog_11_method_8_code 9 = .ok (.ddiv, 1) := by decide +kernel
theorem own_d1_10 : decode prog_11_method_8_code 10 = .ok (.dadd, 1) := by decide +kernel
theorem own_d1_11 : decode prog_11_method_8_code 11 = .ok (.dstore 4, 2) := by decide +kernel
theorem own_d1_13 : decode prog_11_method_8_code 13 = .ok (.dload 4, 2) := by decide +kernel
theorem own_d1_15 : decode prog_11_method_8_code 15 = .ok (.dload_n 0, 1) := by decide +kernel
theorem own_d1_16 : decode prog_11_method_8_code 16 = .ok (.dcmp .l, 1) := by decide +kernel
theorem own_d1_17 : decode prog_11_method_8_code 17 = .ok (.ifCond .le 15, 3) := by decide +kernel
theorem own_d1_32 : decode prog_11_method_8_code 32 = .ok (.dload_n 2, 1) := by decide +kernel
theorem own_d1_33 : decode prog_11_method_8_code 33 = .ok (.dreturn, 1) := by decide +kernel
theorem own_pn_com_example_thicket_thicket_core_CutPartitioning : plainName "com/example/thicket/thicket/core/CutPartitioning" = true := by first | (simp [plainName, overriddenIn]; done) | decide +kernel
theorem own_ef_ct (m : MethodId) (lo : UInt64) (up : UInt64) : entryFrame m #[(.double lo), (.double up)] 6 = mkF m 0 #[.val (.double lo), .second, .val (.double up), .second, .unset, .unset] [] := by first | (simp [entryFrame, mkF, argsToLocals, Value.category]; done) | rfl
set_option maxRecDepth 65536 in
set_option maxHeartbeats 40000000 in
theorem own_rm_ct (l : Launch) (Z : State) (a0 : Array Value) (hw : ∀ d ∈ tables_1, d.before a0 Z = true) (ws : List Jvm.Cond) (lo : UInt64) (up : UInt64) {ct_v4 : UInt64} {ct_v9 : UInt64} {ct_v10 : UInt64} (h0 : Heap) (n0 : Nat) (Z0 : n0 ≤ h0.size)  (ct_hn4 : Jvm.Free.Fl.NoNaN64 (FP.ddiv lo (4611686018427387904 : UInt64))) (ct_hv4 : FP.ddiv lo (4611686018427387904 : UInt64) = ct_v4) (ct_hn9 : Jvm.Free.Fl.NoNaN64 (FP.ddiv up (4611686018427387904 : UInt64))) (ct_hv9 : FP.ddiv up (4611686018427387904 : UInt64) = ct_v9) (ct_hn10 : Jvm.Free.Fl.NoNaN64 (FP.dadd ct_v4 ct_v9)) (ct_hv10 : FP.dadd ct_v4 ct_v9 = ct_v10) (ct_hb17 : ifCond.holds .le (Op.cmpValue (FP.dcmp ct_v10 lo) .l) = true) :
    MetFree l (⟨"com/example/thicket/thicket/core/CutPartitioning", "between", "(DD)D"⟩ : MethodName) (head1 (Jvm.Cond.code (⟨"com/example/thicket/thicket/core/CutPartitioning", "between", "(DD)D"⟩ : MethodName) prog_11_method_8_code 6 (some .double) :: ws) ({ frames := 0, cells := 0, slots := 0, locals := 0 } : Room)) (fun a U => a = #[(.double lo), (.double up)] ∧ Z.Warmed39 U.vm ∧ U.heap = h0) (fun _ _ _ _ _ => True) (fun _ U o U' => ∃ v L, o = .returned v ∧ own_QP (some (.double up)) h0 n0 v U'.heap L ∧ FrameEnd U o U' L ({ frames := 0, cells := 0, slots := 0, locals := 0 } : Room).cells ({ frames := 0, cells := 0, slots := 0, locals := 0 } : Room).slots) := by
  refine MetFree.of_bodySF (plainFor_of_name own_pn_com_example_thicket_thicket_core_CutPartitioning) hisR ?_
  intro p e s m args below meth c s₁ Bd hml0 hP hK
  obtain ⟨rfl, hZ, hh⟩ := hP
  have hx := Bd.exec
  have hby := Bd.bytes
  have hml : c.maxLocals = 6 := hml0
  have hown : s.vm.findClass "com/example/thicket/thicket/core/CutPartitioning" = some m.cls := findClass_of_methodNamed Bd.named
  have hnm := (name_of_methodNamed Bd.named Bd.method).1
  have X0 : Stand p l e ({ frames := 0, cells := 0, slots := 0, locals := 0 } : Room) s m #[(.double lo), (.double up)] below meth c s₁ [] 0 0 := Stand.of_body Bd
  have e0 : s₁.heap = h0 := by rw [← hh, Bd.state]; rfl
  have N0 := Fr.nil n0
  have pre0 : ∀ t, Steps p.tables e below (s₁.setTop (mkF m 0 #[.val (.double lo), .second, .val (.double up), .second, .unset, .unset] [])) t → Steps p.tables e below (s₁.setTop (entryFrame m #[(.double lo), (.double up)] 6)) t := fun t k => castTop (own_ef_ct m lo up) k
  obtain ⟨fs, hr, hrun, hended, hW, hsame⟩ := X0.leave (v := some (.double up)) (fun h => by rw [Bd.returns] at h; cases h)
  refine ⟨_, _, pre0 _ ?_, hrun, hended, _, _, rfl, ?_, ⟨_, rfl⟩, hW, hsame.mono (by decide) (by decide)⟩
  · refine own_s_dloadN X0.here hx (hb hby own_d1_0) (pc' := 1) rfl rfl ?_
    refine X0.ldc2DoubleC hx hown (mvT hZ (hw _ (List.mem_of_getElem? (i := 7) rfl))) (g := (mkF m 1 #[.val (.double lo), .second, .val (.double up), .second, .unset, .unset] [(.double lo)])) rfl (hb hby own_d1_1) _ ?_
    show Steps p.tables e below (s₁.setTop (mkF m 4 #[.val (.double lo), .second, .val (.double up), .second, .unset, .unset] [(.double (4611686018427387904 : UInt64)), (.double lo)])) _
    refine own_s_ddiv X0.here hx (hb hby own_d1_4) (pc' := 5) rfl ct_hn4 (v := ct_v4) ct_hv4 ?_
    refine own_s_dloadN X0.here hx (hb hby own_d1_5) (pc' := 6) rfl rfl ?_
    refine X0.ldc2DoubleC hx hown (mvT hZ (hw _ (List.mem_of_getElem? (i := 7) rfl))) (g := (mkF m 6 #[.val (.double lo), .second, .val (.double up), .second, .unset, .unset] [(.double up), (.double ct_v4)])) rfl (hb hby own_d1_6) _ ?_
    show Steps p.tables e below (s₁.setTop (mkF m 9 #[.val (.double lo), .second, .val (.double up), .second, .unset, .unset] [(.double (4611686018427387904 : UInt64)), (.double up), (.double ct_v4)])) _
    refine own_s_ddiv X0.here hx (hb hby own_d1_9) (pc' := 10) rfl ct_hn9 (v := ct_v9) ct_hv9 ?_
    refine own_s_dadd X0.here hx (hb hby own_d1_10) (pc' := 11) rfl ct_hn10 (v := ct_v10) ct_hv10 ?_
    refine own_s_dstore X0.here hx (hb hby own_d1_11) (pc' := 13) rfl (L' := #[.val (.double lo), .second, .val (.double up), .second, .val (.double ct_v10), .second]) rfl ?_
    refine own_s_dload X0.here hx (hb hby own_d1_13) (pc' := 15) rfl rfl ?_
    refine own_s_dloadN X0.here hx (hb hby own_d1_15) (pc' := 16) rfl rfl ?_
    refine own_s_dcmp X0.here hx (hb hby own_d1_16) (pc' := 17) rfl (v := (Op.cmpValue (FP.dcmp ct_v10 lo) .l)) rfl ?_
    refine own_s_ifYes X0.here hx (hb hby own_d1_17) (by decide) (pc' := 32) (by decide) ct_hb17 ?_
    refine own_s_dloadN X0.here hx (hb hby own_d1_32) (pc' := 33) rfl rfl ?_
    exact own_retD X0 hx Bd.returns (hb hby own_d1_33) hr
  · show own_QP (some (.double up)) h0 n0 _ s₁.heap _
    rw [e0]
    exact ⟨rfl, N0, rfl⟩
theorem own_d1_20 : decode prog_11_method_8_code 20 = .ok (.dload 4, 2) := by decide +kernel
theorem own_d1_22 : decode prog_11_method_8_code 22 = .ok (.dload_n 2, 1) := by decide +kernel
theorem own_d1_23 : decode prog_11_method_8_code 23 = .ok (.dcmp .g, 1) := by decide +kernel
theorem own_d1_24 : decode prog_11_method_8_code 24 = .ok (.ifCond .gt 8, 3) := by decide +kernel
theorem own_ef_cft (m : MethodId) (lo : UInt64) (up : UInt64) : entryFrame m #[(.double lo), (.double up)] 6 = mkF m 0 #[.val (.double lo), .second, .val (.double up), .second, .unset, .unset] [] := by first | (simp [entryFrame, mkF, argsToLocals, Value.category]; done) | rfl
set_option maxRecDepth 65536 in
set_option maxHeartbeats 40000000 in
theorem own_rm_cft (l : Launch) (Z : State) (a0 : Array Value) (hw : ∀ d ∈ tables_1, d.before a0 Z = true) (ws : List Jvm.Cond) (lo : UInt64) (up : UInt64) {cft_v4 : UInt64} {cft_v9 : UInt64} {cft_v10 : UInt64} (h0 : Heap) (n0 : Nat) (Z0 : n0 ≤ h0.size)  (cft_hn4 : Jvm.Free.Fl.NoNaN64 (FP.ddiv lo (4611686018427387904 : UInt64))) (cft_hv4 : FP.ddiv lo (4611686018427387904 : UInt64) = cft_v4) (cft_hn9 : Jvm.Free.Fl.NoNaN64 (FP.ddiv up (4611686018427387904 : UInt64))) (cft_hv9 : FP.ddiv up (4611686018427387904 : UInt64) = cft_v9) (cft_hn10 : Jvm.Free.Fl.NoNaN64 (FP.dadd cft_v4 cft_v9)) (cft_hv10 : FP.dadd cft_v4 cft_v9 = cft_v10) (cft_hb17 : ifCond.holds .le (Op.cmpValue (FP.dcmp cft_v10 lo) .l) = false) (cft_hb24 : ifCond.holds .gt (Op.cmpValue (FP.dcmp cft_v10 up) .g) = true) :
    MetFree l (⟨"com/example/thicket/thicket/core/CutPartitioning", "between", "(DD)D"⟩ : MethodName) (head1 (Jvm.Cond.code (⟨"com/example/thicket/thicket/core/CutPartitioning", "between", "(DD)D"⟩ : MethodName) prog_11_method_8_code 6 (some .double) :: ws) ({ frames := 0, cells := 0, slots := 0, locals := 0 } : Room)) (fun a U => a = #[(.double lo), (.double up)] ∧ Z.Warmed39 U.vm ∧ U.heap = h0) (fun _ _ _ _ _ => True) (fun _ U o U' => ∃ v L, o = .returned v ∧ own_QP (some (.double up)) h0 n0 v U'.heap L ∧ FrameEnd U o U' L ({ frames := 0, cells := 0, slots := 0, locals := 0 } : Room).cells ({ frames := 0, cells := 0, slots := 0, locals := 0 } : Room).slots) := by
  refine MetFree.of_bodySF (plainFor_of_name own_pn_com_example_thicket_thicket_core_CutPartitioning) hisR ?_
  intro p e s m args below meth c s₁ Bd hml0 hP hK
  obtain ⟨rfl, hZ, hh⟩ := hP
  have hx := Bd.exec
  have hby := Bd.bytes
  have hml : c.maxLocals = 6 := hml0
  have hown : s.vm.findClass "com/example/thicket/thicket/core/CutPartitioning" = some m.cls := findClass_of_methodNamed Bd.named
  have hnm := (name_of_methodNamed Bd.named Bd.method).1
  have X0 : Stand p l e ({ frames := 0, cells := 0, slots := 0, locals := 0 } : Room) s m #[(.double lo), (.double up)] below meth c s₁ [] 0 0 := Stand.of_body Bd
  have e0 : s₁.heap = h0 := by rw [← hh, Bd.state]; rfl
  have N0 := Fr.nil n0
  have pre0 : ∀ t, Steps p.tables e below (s₁.setTop (mkF m 0 #[.val (.double lo), .second, .val (.double up), .second, .unset, .unset] [])) t → Steps p.tables e below (s₁.setTop (entryFrame m #[(.double lo), (.double up)] 6)) t := fun t k => castTop (own_ef_cft m lo up) k
  obtain ⟨fs, hr, hrun, hended, hW, hsame⟩ := X0.leave (v := some (.double up)) (fun h => by rw [Bd.returns] at h; cases h)
  refine ⟨_, _, pre0 _ ?_, hrun, hended, _, _, rfl, ?_, ⟨_, rfl⟩, hW, hsame.mono (by decide) (by decide)⟩
  · refine own_s_dloadN X0.here hx (hb hby own_d1_0) (pc' := 1) rfl rfl ?_
    refine X0.ldc2DoubleC hx hown (mvT hZ (hw _ (List.mem_of_getElem? (i := 7) rfl))) (g := (mkF m 1 #[.val (.double lo), .second, .val (.double up), .second, .unset, .unset] [(.double lo)])) rfl (hb hby own_d1_1) _ ?_
    show Steps p.tables e below (s₁.setTop (mkF m 4 #[.val (.double lo), .second, .val (.double up), .second, .unset, .unset] [(.double (4611686018427387904 : UInt64)), (.double lo)])) _
    refine own_s_ddiv X0.here hx (hb hby own_d1_4) (pc' := 5) rfl cft_hn4 (v := cft_v4) cft_hv4 ?_
    refine own_s_dloadN X0.here hx (hb hby own_d1_5) (pc' := 6) rfl rfl ?_
    refine X0.ldc2DoubleC hx hown (mvT hZ (hw _ (List.mem_of_getElem? (i := 7) rfl))) (g := (mkF m 6 #[.val (.double lo), .second, .val (.double up), .second, .unset, .unset] [(.double up), (.double cft_v4)])) rfl (hb hby own_d1_6) _ ?_
    show Steps p.tables e below (s₁.setTop (mkF m 9 #[.val (.double lo), .second, .val (.double up), .second, .unset, .unset] [(.double (4611686018427387904 : UInt64)), (.double up), (.double cft_v4)])) _
    refine own_s_ddiv X0.here hx (hb hby own_d1_9) (pc' := 10) rfl cft_hn9 (v := cft_v9) cft_hv9 ?_
    refine own_s_dadd X0.here hx (hb hby own_d1_10) (pc' := 11) rfl cft_hn10 (v := cft_v10) cft_hv10 ?_
    refine own_s_dstore X0.here hx (hb hby own_d1_11) (pc' := 13) rfl (L' := #[.val (.double lo), .second, .val (.double up), .second, .val (.double cft_v10), .second]) rfl ?_
    refine own_s_dload X0.here hx (hb hby own_d1_13) (pc' := 15) rfl rfl ?_
    refine own_s_dloadN X0.here hx (hb hby own_d1_15) (pc' := 16) rfl rfl ?_
    refine own_s_dcmp X0.here hx (hb hby own_d1_16) (pc' := 17) rfl (v := (Op.cmpValue (FP.dcmp cft_v10 lo) .l)) rfl ?_
    refine own_s_ifNo X0.here hx (hb hby own_d1_17) (pc' := 20) rfl cft_hb17 ?_
    refine own_s_dload X0.here hx (hb hby own_d1_20) (pc' := 22) rfl rfl ?_
    refine own_s_dloadN X0.here hx (hb hby own_d1_22) (pc' := 23) rfl rfl ?_
    refine own_s_dcmp X0.here hx (hb hby own_d1_23) (pc' := 24) rfl (v := (Op.cmpValue (FP.dcmp cft_v10 up) .g)) rfl ?_
    refine own_s_ifYes X0.here hx (hb hby own_d1_24) (by decide) (pc' := 32) (by decide) cft_hb24 ?_
    refine own_s_dloadN X0.here hx (hb hby own_d1_32) (pc' := 33) rfl rfl ?_
    exact own_retD X0 hx Bd.returns (hb hby own_d1_33) hr
  · show own_QP (some (.double up)) h0 n0 _ s₁.heap _
    rw [e0]
    exact ⟨rfl, N0, rfl⟩
theorem own_d1_27 : decode prog_11_method_8_code 27 = .ok (.dload 4, 2) := by decide +kernel
theorem own_d1_29 : decode prog_11_method_8_code 29 = .ok (.goto 4, 3) := by decide +kernel
theorem own_ef_cff (m : MethodId) (lo : UInt64) (up : UInt64) : entryFrame m #[(.double lo), (.double up)] 6 = mkF m 0 #[.val (.double lo), .second, .val (.double up), .second, .unset, .unset] [] := by first | (simp [entryFrame, mkF, argsToLocals, Value.category]; done) | rfl
set_option maxRecDepth 65536 in
set_option maxHeartbeats 40000000 in
theorem own_rm_cff (l : Launch) (Z : State) (a0 : Array Value) (hw : ∀ d ∈ tables_1, d.before a0 Z = true) (ws : List Jvm.Cond) (lo : UInt64) (up : UInt64) {cff_v4 : UInt64} {cff_v9 : UInt64} {cff_v10 : UInt64} (h0 : Heap) (n0 : Nat) (Z0 : n0 ≤ h0.size)  (cff_hn4 : Jvm.Free.Fl.NoNaN64 (FP.ddiv lo (4611686018427387904 : UInt64))) (cff_hv4 : FP.ddiv lo (4611686018427387904 : UInt64) = cff_v4) (cff_hn9 : Jvm.Free.Fl.NoNaN64 (FP.ddiv up (4611686018427387904 : UInt64))) (cff_hv9 : FP.ddiv up (4611686018427387904 : UInt64) = cff_v9) (cff_hn10 : Jvm.Free.Fl.NoNaN64 (FP.dadd cff_v4 cff_v9)) (cff_hv10 : FP.dadd cff_v4 cff_v9 = cff_v10) (cff_hb17 : ifCond.holds .le (Op.cmpValue (FP.dcmp cff_v10 lo) .l) = false) (cff_hb24 : ifCond.holds .gt (Op.cmpValue (FP.dcmp cff_v10 up) .g) = false) :
    MetFree l (⟨"com/example/thicket/thicket/core/CutPartitioning", "between", "(DD)D"⟩ : MethodName) (head1 (Jvm.Cond.code (⟨"com/example/thicket/thicket/core/CutPartitioning", "between", "(DD)D"⟩ : MethodName) prog_11_method_8_code 6 (some .double) :: ws) ({ frames := 0, cells := 0, slots := 0, locals := 0 } : Room)) (fun a U => a = #[(.double lo), (.double up)] ∧ Z.Warmed39 U.vm ∧ U.heap = h0) (fun _ _ _ _ _ => True) (fun _ U o U' => ∃ v L, o = .returned v ∧ own_QP (some (.double cff_v10)) h0 n0 v U'.heap L ∧ FrameEnd U o U' L ({ frames := 0, cells := 0, slots := 0, locals := 0 } : Room).cells ({ frames := 0, cells := 0, slots := 0, locals := 0 } : Room).slots) := by
  refine MetFree.of_bodySF (plainFor_of_name own_pn_com_example_thicket_thicket_core_CutPartitioning) hisR ?_
  intro p e s m args below meth c s₁ Bd hml0 hP hK
  obtain ⟨rfl, hZ, hh⟩ := hP
  have hx := Bd.exec
  have hby := Bd.bytes
  have hml : c.maxLocals = 6 := hml0
  have hown : s.vm.findClass "com/example/thicket/thicket/core/CutPartitioning" = some m.cls := findClass_of_methodNamed Bd.named
  have hnm := (name_of_methodNamed Bd.named Bd.method).1
  have X0 : Stand p l e ({ frames := 0, cells := 0, slots := 0, locals := 0 } : Room) s m #[(.double lo), (.double up)] below meth c s₁ [] 0 0 := Stand.of_body Bd
  have e0 : s₁.heap = h0 := by rw [← hh, Bd.state]; rfl
  have N0 := Fr.nil n0
  have pre0 : ∀ t, Steps p.tables e below (s₁.setTop (mkF m 0 #[.val (.double lo), .second, .val (.double up), .second, .unset, .unset] [])) t → Steps p.tables e below (s₁.setTop (entryFrame m #[(.double lo), (.double up)] 6)) t := fun t k => castTop (own_ef_cff m lo up) k
  obtain ⟨fs, hr, hrun, hended, hW, hsame⟩ := X0.leave (v := some (.double cff_v10)) (fun h => by rw [Bd.returns] at h; cases h)
  refine ⟨_, _, pre0 _ ?_, hrun, hended, _, _, rfl, ?_, ⟨_, rfl⟩, hW, hsame.mono (by decide) (by decide)⟩
  · refine own_s_dloadN X0.here hx (hb hby own_d1_0) (pc' := 1) rfl rfl ?_
    refine X0.ldc2DoubleC hx hown (mvT hZ (hw _ (List.mem_of_getElem? (i := 7) rfl))) (g := (mkF m 1 #[.val (.double lo), .second, .val (.double up), .second, .unset, .unset] [(.double lo)])) rfl (hb hby own_d1_1) _ ?_
    show Steps p.tables e below (s₁.setTop (mkF m 4 #[.val (.double lo), .second, .val (.double up), .second, .unset, .unset] [(.double (4611686018427387904 : UInt64)), (.double lo)])) _
    refine own_s_ddiv X0.here hx (hb hby own_d1_4) (pc' := 5) rfl cff_hn4 (v := cff_v4) cff_hv4 ?_
    refine own_s_dloadN X0.here hx (hb hby own_d1_5) (pc' := 6) rfl rfl ?_
    refine X0.ldc2DoubleC hx hown (mvT hZ (hw _ (List.mem_of_getElem? (i := 7) rfl))) (g := (mkF m 6 #[.val (.double lo), .second, .val (.double up), .second, .unset, .unset] [(.double up), (.double cff_v4)])) rfl (hb hby own_d1_6) _ ?_
    show Steps p.tables e below (s₁.setTop (mkF m 9 #[.val (.double lo), .second, .val (.double up), .second, .unset, .unset] [(.double (4611686018427387904 : UInt64)), (.double up), (.double cff_v4)])) _
    refine own_s_ddiv X0.here hx (hb hby own_d1_9) (pc' := 10) rfl cff_hn9 (v := cff_v9) cff_hv9 ?_
    refine own_s_dadd X0.here hx (hb hby own_d1_10) (pc' := 11) rfl cff_hn10 (v := cff_v10) cff_hv10 ?_
    refine own_s_dstore X0.here hx (hb hby own_d1_11) (pc' := 13) rfl (L' := #[.val (.double lo), .second, .val (.double up), .second, .val (.double cff_v10), .second]) rfl ?_
    refine own_s_dload X0.here hx (hb hby own_d1_13) (pc' := 15) rfl rfl ?_
    refine own_s_dloadN X0.here hx (hb hby own_d1_15) (pc' := 16) rfl rfl ?_
    refine own_s_dcmp X0.here hx (hb hby own_d1_16) (pc' := 17) rfl (v := (Op.cmpValue (FP.dcmp cff_v10 lo) .l)) rfl ?_
    refine own_s_ifNo X0.here hx (hb hby own_d1_17) (pc' := 20) rfl cff_hb17 ?_
    refine own_s_dload X0.here hx (hb hby own_d1_20) (pc' := 22) rfl rfl ?_
    refine own_s_dloadN X0.here hx (hb hby own_d1_22) (pc' := 23) rfl rfl ?_
    refine own_s_dcmp X0.here hx (hb hby own_d1_23) (pc' := 24) rfl (v := (Op.cmpValue (FP.dcmp cff_v10 up) .g)) rfl ?_
    refine own_s_ifNo X0.here hx (hb hby own_d1_24) (pc' := 27) rfl cff_hb24 ?_
    refine own_s_dload X0.here hx (hb hby own_d1_27) (pc' := 29) rfl rfl ?_
    refine own_s_goto X0.here hx (hb hby own_d1_29) (by decide) (pc' := 33) (by decide) ?_
    exact own_retD X0 hx Bd.returns (hb hby own_d1_33) hr
  · show own_QP (some (.double cff_v10)) h0 n0 _ s₁.heap _
    rw [e0]
    exact ⟨rfl, N0, rfl⟩
theorem own_pd_28II29I : parseMethodDescriptor "(II)I" = some ⟨[.int, .int], some .int⟩ := by decide +kernel
theorem own_pn_com_example_thicket_thicket_core_CutPartitioningBetweenPinLaw : plainName "com/example/thicket/thicket/core/CutPartitioningBetweenPinLaw" = true := by first | (simp [plainName, overriddenIn]; done) | decide +kernel
theorem own_ef_wz (m : MethodId) (p0 : Int32) (p1 : Int32) (p2 : Int32) : entryFrame m #[(.int p0), (.int p1), (.int p2)] maxLocals = mkF m 0 #[.val (.int p0), .val (.int p1), .val (.int p2), .unset, .unset, .unset, .unset, .unset, .unset, .unset, .unset, .unset, .unset, .unset] [] := by first | (simp [entryFrame, mkF, argsToLocals, Value.category, maxLocals]; done) | rfl
set_option maxRecDepth 65536 in
set_option maxHeartbeats 40000000 in
theorem own_rm_wz (l : Launch) (Z : State) (a0 : Array Value) (hw : ∀ d ∈ tables_1, d.before a0 Z = true) (ws : List Jvm.Cond) (p0 : Int32) (p1 : Int32) (p2 : Int32) {wz_v2 : Int32} (h0 : Heap) (n0 : Nat) (Z0 : n0 ≤ h0.size)  (wz_hv2 : p2 &&& (3 : Int32) = wz_v2) (wz_hb6 : if_icmp.holds .ne wz_v2 (2 : Int32) = true) (wz_hb105 : if_icmp.holds .ne (own_imin p0 p1) (own_imax p0 p1) = false) :
    MetFree l x (head1 (Jvm.Cond.code x code maxLocals ret :: ws) room_1) (fun a U => a = #[(.int p0), (.int p1), (.int p2)] ∧ Z.Warmed39 U.vm ∧ U.heap = h0) (fun _ _ _ _ _ => True) (fun _ U o U' => ∃ v L, o = .returned v ∧ own_Q0 n0 v U'.heap L ∧ FrameEnd U o U' L room_1.cells room_1.slots) := by
  refine MetFree.of_bodySF (plainFor_of_name own_pn_com_example_thicket_thicket_core_CutPartitioningBetweenPinLaw) hisR ?_
  intro p e s m args below meth c s₁ Bd hml0 hP hK
  obtain ⟨rfl, hZ, hh⟩ := hP
  have hx := Bd.exec
  have hby := Bd.bytes
  have hml : c.maxLocals = 14 := hml0
  have hown : s.vm.findClass "com/example/thicket/thicket/core/CutPartitioningBetweenPinLaw" = some m.cls := findClass_of_methodNamed Bd.named
  have hnm := (name_of_methodNamed Bd.named Bd.method).1
  have X0 : Stand p l e room_1 s m #[(.int p0), (.int p1), (.int p2)] below meth c s₁ [] 0 0 := Stand.of_body Bd
  have e0 : s₁.heap = h0 := by rw [← hh, Bd.state]; rfl
  have N0 := Fr.nil n0
  have pre0 : ∀ t, Steps p.tables e below (s₁.setTop (mkF m 0 #[.val (.int p0), .val (.int p1), .val (.int p2), .unset, .unset, .unset, .unset, .unset, .unset, .unset, .unset, .unset, .unset, .unset] [])) t → Steps p.tables e below (s₁.setTop (entryFrame m #[(.int p0), (.int p1), (.int p2)] maxLocals)) t := fun t k => castTop (own_ef_wz m p0 p1 p2) k
  obtain ⟨_, _, ⟨Twz1, Lwz1, kwz1, nwz1⟩, -, Xwz1, ⟨Lcwz1, hQwz1, lwz1, ywz1, zwz1⟩, stwz1⟩ := Jvm.LawKit.callS X0 hx (y := (⟨"java/lang/Math", "min", "(II)I"⟩ : MethodName)) hown (mvT hZ (hw _ (List.mem_of_getElem? (i := 8) rfl))) (mvT hZ (hw _ (List.mem_of_getElem? (i := 9) rfl))) (mvT hZ (hw _ (List.mem_of_getElem? (i := 10) rfl))) (mvT hZ (hw _ (List.mem_of_getElem? (i := 11) rfl))) (by decide) (backOf (W := 0) (own_rm_mi l Z a0 hw [] p0 p1 h0 n0 Z0 ) hZ (hw _ (List.mem_of_getElem? (i := 11) rfl)) (hw _ (List.mem_of_getElem? (i := 10) rfl)) (by decide) (by decide)) (g := (mkF m 89 #[.val (.int p0), .val (.int p1), .val (.int p2), .val (.int wz_v2), .unset, .unset, .unset, .unset, .unset, .unset, .unset, .unset, .unset, .unset] [(.int p1), (.int p0)])) rfl (by rw [hml]; rfl) (argsL := [(.int p0), (.int p1)]) (rest := []) (lenOf own_pd_28II29I rfl) rfl (by show 2 * 0 + _ ≤ _; exact Nat.le_of_eq rfl) (hb hby at_89) (fun _ _ => ⟨rfl, e0, (by decide : 0 + 0 ≤ _), (by decide : 0 + 0 ≤ _)⟩)
  dsimp only [Pt.U, Pt.locs, Pt.cells, Pt.slots] at Xwz1 lwz1 ywz1 zwz1 stwz1 hQwz1
  subst lwz1 ywz1 zwz1
  obtain ⟨rfl, Nwz1q, ewz1⟩ := hQwz1
  have Nwz1 := Fr.app N0 Nwz1q
  obtain ⟨_, _, ⟨Twz2, Lwz2, kwz2, nwz2⟩, -, Xwz2, ⟨Lcwz2, hQwz2, lwz2, ywz2, zwz2⟩, stwz2⟩ := Jvm.LawKit.callS Xwz1 hx (y := (⟨"java/lang/Math", "max", "(II)I"⟩ : MethodName)) hown (mvT hZ (hw _ (List.mem_of_getElem? (i := 12) rfl))) (mvT hZ (hw _ (List.mem_of_getElem? (i := 13) rfl))) (mvT hZ (hw _ (List.mem_of_getElem? (i := 10) rfl))) (mvT hZ (hw _ (List.mem_of_getElem? (i := 14) rfl))) (by decide) (backOf (W := 0) (own_rm_ma l Z a0 hw [] p0 p1 h0 n0 Z0 ) hZ (hw _ (List.mem_of_getElem? (i := 14) rfl)) (hw _ (List.mem_of_getElem? (i := 10) rfl)) (by decide) (by decide)) (g := (mkF m 96 #[.val (.int p0), .val (.int p1), .val (.int p2), .val (.int wz_v2), .val (.int (own_imin p0 p1)), .unset, .unset, .unset, .unset, .unset, .unset, .unset, .unset, .unset] [(.int p1), (.int p0)])) rfl (by rw [hml]; rfl) (argsL := [(.int p0), (.int p1)]) (rest := []) (lenOf own_pd_28II29I rfl) rfl (by show 2 * 0 + _ ≤ _; exact Nat.le_of_eq rfl) (hb hby at_96) (fun _ _ => ⟨rfl, ewz1, (by decide : 0 + 0 ≤ _), (by decide : 0 + 0 ≤ _)⟩)
  dsimp only [Pt.U, Pt.locs, Pt.cells, Pt.slots] at Xwz2 lwz2 ywz2 zwz2 stwz2 hQwz2
  subst lwz2 ywz2 zwz2
  obtain ⟨rfl, Nwz2q, ewz2⟩ := hQwz2
  have Nwz2 := Fr.app Nwz1 Nwz2q
  obtain ⟨fs, hr, hrun, hended, hW, hsame⟩ := Xwz2.leave (v := some (.int (1 : Int32))) (fun h => by rw [Bd.returns] at h; cases h)
  refine ⟨_, _, pre0 _ ?_, hrun, hended, _, _, rfl, ?_, ⟨_, rfl⟩, hW, hsame.mono (by decide) (by decide)⟩
  · refine own_s_iloadN X0.here hx (hb hby at_0) (pc' := 1) rfl rfl ?_
    refine own_s_iconst X0.here hx (hb hby at_1) (pc' := 2) rfl (v := (3 : Int32)) (by decide) ?_
    refine own_s_iand X0.here hx (hb hby at_2) (pc' := 3) rfl (v := wz_v2) wz_hv2 ?_
    refine own_s_istoreN X0.here hx (hb hby at_3) (pc' := 4) rfl (L' := #[.val (.int p0), .val (.int p1), .val (.int p2), .val (.int wz_v2), .unset, .unset, .unset, .unset, .unset, .unset, .unset, .unset, .unset, .unset]) rfl ?_
    refine own_s_iloadN X0.here hx (hb hby at_4) (pc' := 5) rfl rfl ?_
    refine own_s_iconst X0.here hx (hb hby at_5) (pc' := 6) rfl (v := (2 : Int32)) (by decide) ?_
    refine own_s_icmpYes X0.here hx (hb hby at_6) (by decide) (pc' := 87) (by decide) wz_hb6 ?_
    refine own_s_iloadN X0.here hx (hb hby at_87) (pc' := 88) rfl rfl ?_
    refine own_s_iloadN X0.here hx (hb hby at_88) (pc' := 89) rfl rfl ?_
    refine stwz1 _ ?_
    show Steps p.tables e below (Twz1.setTop (mkF m 92 #[.val (.int p0), .val (.int p1), .val (.int p2), .val (.int wz_v2), .unset, .unset, .unset, .unset, .unset, .unset, .unset, .unset, .unset, .unset] [(.int (own_imin p0 p1))])) _
    refine own_s_istore Xwz1.here hx (hb hby at_92) (pc' := 94) rfl (L' := #[.val (.int p0), .val (.int p1), .val (.int p2), .val (.int wz_v2), .val (.int (own_imin p0 p1)), .unset, .unset, .unset, .unset, .unset, .unset, .unset, .unset, .unset]) rfl ?_
    refine own_s_iloadN Xwz1.here hx (hb hby at_94) (pc' := 95) rfl rfl ?_
    refine own_s_iloadN Xwz1.here hx (hb hby at_95) (pc' := 96) rfl rfl ?_
    refine stwz2 _ ?_
    show Steps p.tables e below (Twz2.setTop (mkF m 99 #[.val (.int p0), .val (.int p1), .val (.int p2), .val (.int wz_v2), .val (.int (own_imin p0 p1)), .unset, .unset, .unset, .unset, .unset, .unset, .unset, .unset, .unset] [(.int (own_imax p0 p1))])) _
    refine own_s_istore Xwz2.here hx (hb hby at_99) (pc' := 101) rfl (L' := #[.val (.int p0), .val (.int p1), .val (.int p2), .val (.int wz_v2), .val (.int (own_imin p0 p1)), .val (.int (own_imax p0 p1)), .unset, .unset, .unset, .unset, .unset, .unset, .unset, .unset]) rfl ?_
    refine own_s_iload Xwz2.here hx (hb hby at_101) (pc' := 103) rfl rfl ?_
    refine own_s_iload Xwz2.here hx (hb hby at_103) (pc' := 105) rfl rfl ?_
    refine own_s_icmpNo Xwz2.here hx (hb hby at_105) (pc' := 108) rfl wz_hb105 ?_
    refine own_s_iconst Xwz2.here hx (hb hby at_108) (pc' := 109) rfl (v := (1 : Int32)) (by decide) ?_
    exact retN Xwz2 hx (t := .boolean) Bd.returns (by simp) (hb hby at_109) hr
  · show own_Q0 n0 _ Twz2.heap _
    rw [ewz2]
    exact ⟨rfl, Nwz2⟩
theorem own_pd_28DD29D : parseMethodDescriptor "(DD)D" = some ⟨[.double, .double], some .double⟩ := by decide +kernel
theorem own_ef_wa0 (m : MethodId) (p0 : Int32) (p1 : Int32) (p2 : Int32) : entryFrame m #[(.int p0), (.int p1), (.int p2)] maxLocals = mkF m 0 #[.val (.int p0), .val (.int p1), .val (.int p2), .unset, .unset, .unset, .unset, .unset, .unset, .unset, .unset, .unset, .unset, .unset] [] := by first | (simp [entryFrame, mkF, argsToLocals, Value.category, maxLocals]; done) | rfl
set_option maxRecDepth 65536 in
set_option maxHeartbeats 40000000 in
theorem own_rm_wa0 (l : Launch) (Z : State) (a0 : Array Value) (hw : ∀ d ∈ tables_1, d.before a0 Z = true) (ws : List Jvm.Cond) (p0 : Int32) (p1 : Int32) (p2 : Int32) {wa0_v2 : Int32} {wa0_v112 : Int64} {wa0_v115 : Int64} {wa0_v116 : Int64} {wa0_c129_cff_v4 : UInt64} {wa0_c129_cff_v9 : UInt64} {wa0_c129_cff_v10 : UInt64} {wa0_v142 : UInt64} (h0 : Heap) (n0 : Nat) (Z0 : n0 ≤ h0.size)  (wa0_hv2 : p2 &&& (3 : Int32) = wa0_v2) (wa0_hb6 : if_icmp.holds .ne wa0_v2 (2 : Int32) = true) (wa0_hb105 : if_icmp.holds .ne (own_imin p0 p1) (own_imax p0 p1) = true) (wa0_hv112 : Int32.toInt64 (own_imin p0 p1) = wa0_v112) (wa0_hv115 : Int32.toInt64 (own_imax p0 p1) = wa0_v115) (wa0_hv116 : wa0_v112 + wa0_v115 = wa0_v116) (wa0_hb120 : ifCond.holds .ne wa0_v2 = false) (wa0_c129_cff_hn4 : Jvm.Free.Fl.NoNaN64 (FP.ddiv (FP.i2d (own_imin p0 p1)) (4611686018427387904 : UInt64))) (wa0_c129_cff_hv4 : FP.ddiv (FP.i2d (own_imin p0 p1)) (4611686018427387904 : UInt64) = wa0_c129_cff_v4) (wa0_c129_cff_hn9 : Jvm.Free.Fl.NoNaN64 (FP.ddiv (FP.i2d (own_imax p0 p1)) (4611686018427387904 : UInt64))) (wa0_c129_cff_hv9 : FP.ddiv (FP.i2d (own_imax p0 p1)) (4611686018427387904 : UInt64) = wa0_c129_cff_v9) (wa0_c129_cff_hn10 : Jvm.Free.Fl.NoNaN64 (FP.dadd wa0_c129_cff_v4 wa0_c129_cff_v9)) (wa0_c129_cff_hv10 : FP.dadd wa0_c129_cff_v4 wa0_c129_cff_v9 = wa0_c129_cff_v10) (wa0_c129_cff_hb17 : ifCond.holds .le (Op.cmpValue (FP.dcmp wa0_c129_cff_v10 (FP.i2d (own_imin p0 p1))) .l) = false) (wa0_c129_cff_hb24 : ifCond.holds .gt (Op.cmpValue (FP.dcmp wa0_c129_cff_v10 (FP.i2d (own_imax p0 p1))) .g) = false) (wa0_hn142 : Jvm.Free.Fl.NoNaN64 (FP.ddiv (FP.l2d wa0_v116) (4611686018427387904 : UInt64))) (wa0_hv142 : FP.ddiv (FP.l2d wa0_v116) (4611686018427387904 : UInt64) = wa0_v142) (wa0_hc143 : Op.cmpValue (FP.dcmp wa0_c129_cff_v10 wa0_v142) .l = (0 : Int32)) :
    MetFree l x (head1 (Jvm.Cond.code x code maxLocals ret :: ws) room_1) (fun a U => a = #[(.int p0), (.int p1), (.int p2)] ∧ Z.Warmed39 U.vm ∧ U.heap = h0) (fun _ _ _ _ _ => True) (fun _ U o U' => ∃ v L, o = .returned v ∧ own_Q0 n0 v U'.heap L ∧ FrameEnd U o U' L room_1.cells room_1.slots) := by
  refine MetFree.of_bodySF (plainFor_of_name own_pn_com_example_thicket_thicket_core_CutPartitioningBetweenPinLaw) hisR ?_
  intro p e s m args below meth c s₁ Bd hml0 hP hK
  obtain ⟨rfl, hZ, hh⟩ := hP
  have hx := Bd.exec
  have hby := Bd.bytes
  have hml : c.maxLocals = 14 := hml0
  have hown : s.vm.findClass "com/example/thicket/thicket/core/CutPartitioningBetweenPinLaw" = some m.cls := findClass_of_methodNamed Bd.named
  have hnm := (name_of_methodNamed Bd.named Bd.method).1
  have X0 : Stand p l e room_1 s m #[(.int p0), (.int p1), (.int p2)] below meth c s₁ [] 0 0 := Stand.of_body Bd
  have e0 : s₁.heap = h0 := by rw [← hh, Bd.state]; rfl
  have N0 := Fr.nil n0
  have pre0 : ∀ t, Steps p.tables e below (s₁.setTop (mkF m 0 #[.val (.int p0), .val (.int p1), .val (.int p2), .unset, .unset, .unset, .unset, .unset, .unset, .unset, .unset, .unset, .unset, .unset] [])) t → Steps p.tables e below (s₁.setTop (entryFrame m #[(.int p0), (.int p1), (.int p2)] maxLocals)) t := fun t k => castTop (own_ef_wa0 m p0 p1 p2) k
  obtain ⟨_, _, ⟨Twa01, Lwa01, kwa01, nwa01⟩, -, Xwa01, ⟨Lcwa01, hQwa01, lwa01, ywa01, zwa01⟩, stwa01⟩ := Jvm.LawKit.callS X0 hx (y := (⟨"java/lang/Math", "min", "(II)I"⟩ : MethodName)) hown (mvT hZ (hw _ (List.mem_of_getElem? (i := 8) rfl))) (mvT hZ (hw _ (List.mem_of_getElem? (i := 9) rfl))) (mvT hZ (hw _ (List.mem_of_getElem? (i := 10) rfl))) (mvT hZ (hw _ (List.mem_of_getElem? (i := 11) rfl))) (by decide) (backOf (W := 0) (own_rm_mi l Z a0 hw [] p0 p1 h0 n0 Z0 ) hZ (hw _ (List.mem_of_getElem? (i := 11) rfl)) (hw _ (List.mem_of_getElem? (i := 10) rfl)) (by decide) (by decide)) (g := (mkF m 89 #[.val (.int p0), .val (.int p1), .val (.int p2), .val (.int wa0_v2), .unset, .unset, .unset, .unset, .unset, .unset, .unset, .unset, .unset, .unset] [(.int p1), (.int p0)])) rfl (by rw [hml]; rfl) (argsL := [(.int p0), (.int p1)]) (rest := []) (lenOf own_pd_28II29I rfl) rfl (by show 2 * 0 + _ ≤ _; exact Nat.le_of_eq rfl) (hb hby at_89) (fun _ _ => ⟨rfl, e0, (by decide : 0 + 0 ≤ _), (by decide : 0 + 0 ≤ _)⟩)
  dsimp only [Pt.U, Pt.locs, Pt.cells, Pt.slots] at Xwa01 lwa01 ywa01 zwa01 stwa01 hQwa01
  subst lwa01 ywa01 zwa01
  obtain ⟨rfl, Nwa01q, ewa01⟩ := hQwa01
  have Nwa01 := Fr.app N0 Nwa01q
  obtain ⟨_, _, ⟨Twa02, Lwa02, kwa02, nwa02⟩, -, Xwa02, ⟨Lcwa02, hQwa02, lwa02, ywa02, zwa02⟩, stwa02⟩ := Jvm.LawKit.callS Xwa01 hx (y := (⟨"java/lang/Math", "max", "(II)I"⟩ : MethodName)) hown (mvT hZ (hw _ (List.mem_of_getElem? (i := 12) rfl))) (mvT hZ (hw _ (List.mem_of_getElem? (i := 13) rfl))) (mvT hZ (hw _ (List.mem_of_getElem? (i := 10) rfl))) (mvT hZ (hw _ (List.mem_of_getElem? (i := 14) rfl))) (by decide) (backOf (W := 0) (own_rm_ma l Z a0 hw [] p0 p1 h0 n0 Z0 ) hZ (hw _ (List.mem_of_getElem? (i := 14) rfl)) (hw _ (List.mem_of_getElem? (i := 10) rfl)) (by decide) (by decide)) (g := (mkF m 96 #[.val (.int p0), .val (.int p1), .val (.int p2), .val (.int wa0_v2), .val (.int (own_imin p0 p1)), .unset, .unset, .unset, .unset, .unset, .unset, .unset, .unset, .unset] [(.int p1), (.int p0)])) rfl (by rw [hml]; rfl) (argsL := [(.int p0), (.int p1)]) (rest := []) (lenOf own_pd_28II29I rfl) rfl (by show 2 * 0 + _ ≤ _; exact Nat.le_of_eq rfl) (hb hby at_96) (fun _ _ => ⟨rfl, ewa01, (by decide : 0 + 0 ≤ _), (by decide : 0 + 0 ≤ _)⟩)
  dsimp only [Pt.U, Pt.locs, Pt.cells, Pt.slots] at Xwa02 lwa02 ywa02 zwa02 stwa02 hQwa02
  subst lwa02 ywa02 zwa02
  obtain ⟨rfl, Nwa02q, ewa02⟩ := hQwa02
  have Nwa02 := Fr.app Nwa01 Nwa02q
  obtain ⟨_, _, ⟨Twa03, Lwa03, kwa03, nwa03⟩, -, Xwa03, ⟨Lcwa03, hQwa03, lwa03, ywa03, zwa03⟩, stwa03⟩ := Jvm.LawKit.callS Xwa02 hx (y := (⟨"com/example/thicket/thicket/core/CutPartitioning", "between", "(DD)D"⟩ : MethodName)) hown (mvT hZ (hw _ (List.mem_of_getElem? (i := 3) rfl))) (mvT hZ (hw _ (List.mem_of_getElem? (i := 4) rfl))) (mvT hZ (hw _ (List.mem_of_getElem? (i := 5) rfl))) (mvT hZ (hw _ (List.mem_of_getElem? (i := 6) rfl))) (by decide) (backOf (W := 0) (own_rm_cff l Z a0 hw [] (FP.i2d (own_imin p0 p1)) (FP.i2d (own_imax p0 p1)) h0 n0 Z0 wa0_c129_cff_hn4 wa0_c129_cff_hv4 wa0_c129_cff_hn9 wa0_c129_cff_hv9 wa0_c129_cff_hn10 wa0_c129_cff_hv10 wa0_c129_cff_hb17 wa0_c129_cff_hb24) hZ (hw _ (List.mem_of_getElem? (i := 6) rfl)) (hw _ (List.mem_of_getElem? (i := 5) rfl)) (by decide) (by decide)) (g := (mkF m 129 #[.val (.int p0), .val (.int p1), .val (.int p2), .val (.int wa0_v2), .val (.int (own_imin p0 p1)), .val (.int (own_imax p0 p1)), .val (.long wa0_v116), .second, .unset, .unset, .unset, .unset, .unset, .unset] [(.double (FP.i2d (own_imax p0 p1))), (.double (FP.i2d (own_imin p0 p1)))])) rfl (by rw [hml]; rfl) (argsL := [(.double (FP.i2d (own_imin p0 p1))), (.double (FP.i2d (own_imax p0 p1)))]) (rest := []) (lenOf own_pd_28DD29D rfl) rfl (by show 2 * 0 + _ ≤ _; exact Nat.le_of_eq rfl) (hb hby at_129) (fun _ _ => ⟨rfl, ewa02, (by decide : 0 + 0 ≤ _), (by decide : 0 + 0 ≤ _)⟩)
  dsimp only [Pt.U, Pt.locs, Pt.cells, Pt.slots] at Xwa03 lwa03 ywa03 zwa03 stwa03 hQwa03
  subst lwa03 ywa03 zwa03
  obtain ⟨rfl, Nwa03q, ewa03⟩ := hQwa03
  have Nwa03 := Fr.app Nwa02 Nwa03q
  obtain ⟨fs, hr, hrun, hended, hW, hsame⟩ := Xwa03.leave (v := some (.int (1 : Int32))) (fun h => by rw [Bd.returns] at h; cases h)
  refine ⟨_, _, pre0 _ ?_, hrun, hended, _, _, rfl, ?_, ⟨_, rfl⟩, hW, hsame.mono (by decide) (by decide)⟩
  · refine own_s_iloadN X0.here hx (hb hby at_0) (pc' := 1) rfl rfl ?_
    refine own_s_iconst X0.here hx (hb hby at_1) (pc' := 2) rfl (v := (3 : Int32)) (by decide) ?_
    refine own_s_iand X0.here hx (hb hby at_2) (pc' := 3) rfl (v := wa0_v2) wa0_hv2 ?_
    refine own_s_istoreN X0.here hx (hb hby at_3) (pc' := 4) rfl (L' := #[.val (.int p0), .val (.int p1), .val (.int p2), .val (.int wa0_v2), .unset, .unset, .unset, .unset, .unset, .unset, .unset, .unset, .unset, .unset]) rfl ?_
    refine own_s_iloadN X0.here hx (hb hby at_4) (pc' := 5) rfl rfl ?_
    refine own_s_iconst X0.here hx (hb hby at_5) (pc' := 6) rfl (v := (2 : Int32)) (by decide) ?_
    refine own_s_icmpYes X0.here hx (hb hby at_6) (by decide) (pc' := 87) (by decide) wa0_hb6 ?_
    refine own_s_iloadN X0.here hx (hb hby at_87) (pc' := 88) rfl rfl ?_
    refine own_s_iloadN X0.here hx (hb hby at_88) (pc' := 89) rfl rfl ?_
    refine stwa01 _ ?_
    show Steps p.tables e below (Twa01.setTop (mkF m 92 #[.val (.int p0), .val (.int p1), .val (.int p2), .val (.int wa0_v2), .unset, .unset, .unset, .unset, .unset, .unset, .unset, .unset, .unset, .unset] [(.int (own_imin p0 p1))])) _
    refine own_s_istore Xwa01.here hx (hb hby at_92) (pc' := 94) rfl (L' := #[.val (.int p0), .val (.int p1), .val (.int p2), .val (.int wa0_v2), .val (.int (own_imin p0 p1)), .unset, .unset, .unset, .unset, .unset, .unset, .unset, .unset, .unset]) rfl ?_
    refine own_s_iloadN Xwa01.here hx (hb hby at_94) (pc' := 95) rfl rfl ?_
    refine own_s_iloadN Xwa01.here hx (hb hby at_95) (pc' := 96) rfl rfl ?_
    refine stwa02 _ ?_
    show Steps p.tables e below (Twa02.setTop (mkF m 99 #[.val (.int p0), .val (.int p1), .val (.int p2), .val (.int wa0_v2), .val (.int (own_imin p0 p1)), .unset, .unset, .unset, .unset, .unset, .unset, .unset, .unset, .unset] [(.int (own_imax p0 p1))])) _
    refine own_s_istore Xwa02.here hx (hb hby at_99) (pc' := 101) rfl (L' := #[.val (.int p0), .val (.int p1), .val (.int p2), .val (.int wa0_v2), .val (.int (own_imin p0 p1)), .val (.int (own_imax p0 p1)), .unset, .unset, .unset, .unset, .unset, .unset, .unset, .unset]) rfl ?_
    refine own_s_iload Xwa02.here hx (hb hby at_101) (pc' := 103) rfl rfl ?_
    refine own_s_iload Xwa02.here hx (hb hby at_103) (pc' := 105) rfl rfl ?_
    refine own_s_icmpYes Xwa02.here hx (hb hby at_105) (by decide) (pc' := 110) (by decide) wa0_hb105 ?_
    refine own_s_iload Xwa02.here hx (hb hby at_110) (pc' := 112) rfl rfl ?_
    refine own_s_i2l Xwa02.here hx (hb hby at_112) (pc' := 113) rfl (v := wa0_v112) wa0_hv112 ?_
    refine own_s_iload Xwa02.here hx (hb hby at_113) (pc' := 115) rfl rfl ?_
    refine own_s_i2l Xwa02.here hx (hb hby at_115) (pc' := 116) rfl (v := wa0_v115) wa0_hv115 ?_
    refine own_s_ladd Xwa02.here hx (hb hby at_116) (pc' := 117) rfl (v := wa0_v116) wa0_hv116 ?_
    refine own_s_lstore Xwa02.here hx (hb hby at_117) (pc' := 119) rfl (L' := #[.val (.int p0), .val (.int p1), .val (.int p2), .val (.int wa0_v2), .val (.int (own_imin p0 p1)), .val (.int (own_imax p0 p1)), .val (.long wa0_v116), .second, .unset, .unset, .unset, .unset, .unset, .unset]) rfl ?_
    refine own_s_iloadN Xwa02.here hx (hb hby at_119) (pc' := 120) rfl rfl ?_
    refine own_s_ifNo Xwa02.here hx (hb hby at_120) (pc' := 123) rfl wa0_hb120 ?_
    refine own_s_iload Xwa02.here hx (hb hby at_123) (pc' := 125) rfl rfl ?_
    refine own_s_i2d Xwa02.here hx (hb hby at_125) (pc' := 126) rfl (v := (FP.i2d (own_imin p0 p1))) rfl ?_
    refine own_s_iload Xwa02.here hx (hb hby at_126) (pc' := 128) rfl rfl ?_
    refine own_s_i2d Xwa02.here hx (hb hby at_128) (pc' := 129) rfl (v := (FP.i2d (own_imax p0 p1))) rfl ?_
    refine stwa03 _ ?_
    show Steps p.tables e below (Twa03.setTop (mkF m 132 #[.val (.int p0), .val (.int p1), .val (.int p2), .val (.int wa0_v2), .val (.int (own_imin p0 p1)), .val (.int (own_imax p0 p1)), .val (.long wa0_v116), .second, .unset, .unset, .unset, .unset, .unset, .unset] [(.double wa0_c129_cff_v10)])) _
    refine own_s_dstore Xwa03.here hx (hb hby at_132) (pc' := 134) rfl (L' := #[.val (.int p0), .val (.int p1), .val (.int p2), .val (.int wa0_v2), .val (.int (own_imin p0 p1)), .val (.int (own_imax p0 p1)), .val (.long wa0_v116), .second, .val (.double wa0_c129_cff_v10), .second, .unset, .unset, .unset, .unset]) rfl ?_
    refine own_s_dload Xwa03.here hx (hb hby at_134) (pc' := 136) rfl rfl ?_
    refine own_s_lload Xwa03.here hx (hb hby at_136) (pc' := 138) rfl rfl ?_
    refine own_s_l2d Xwa03.here hx (hb hby at_138) (pc' := 139) rfl (v := (FP.l2d wa0_v116)) rfl ?_
    refine Xwa03.ldc2DoubleC hx hown (mvT hZ (hw _ (List.mem_of_getElem? (i := 18) rfl))) (g := (mkF m 139 #[.val (.int p0), .val (.int p1), .val (.int p2), .val (.int wa0_v2), .val (.int (own_imin p0 p1)), .val (.int (own_imax p0 p1)), .val (.long wa0_v116), .second, .val (.double wa0_c129_cff_v10), .second, .unset, .unset, .unset, .unset] [(.double (FP.l2d wa0_v116)), (.double wa0_c129_cff_v10)])) rfl (hb hby at_139) _ ?_
    show Steps p.tables e below (Twa03.setTop (mkF m 142 #[.val (.int p0), .val (.int p1), .val (.int p2), .val (.int wa0_v2), .val (.int (own_imin p0 p1)), .val (.int (own_imax p0 p1)), .val (.long wa0_v116), .second, .val (.double wa0_c129_cff_v10), .second, .unset, .unset, .unset, .unset] [(.double (4611686018427387904 : UInt64)), (.double (FP.l2d wa0_v116)), (.double wa0_c129_cff_v10)])) _
    refine own_s_ddiv Xwa03.here hx (hb hby at_142) (pc' := 143) rfl wa0_hn142 (v := wa0_v142) wa0_hv142 ?_
    refine own_s_dcmp Xwa03.here hx (hb hby at_143) (pc' := 144) rfl (v := (0 : Int32)) wa0_hc143 ?_
    refine own_s_ifNo Xwa03.here hx (hb hby at_144) (pc' := 147) rfl (by decide) ?_
    refine own_s_iconst Xwa03.here hx (hb hby at_147) (pc' := 148) rfl (v := (1 : Int32)) (by decide) ?_
    refine own_s_goto Xwa03.here hx (hb hby at_148) (by decide) (pc' := 152) (by decide) ?_
    exact retN Xwa03 hx (t := .boolean) Bd.returns (by simp) (hb hby at_152) hr
  · show own_Q0 n0 _ Twa03.heap _
    rw [ewa03]
    exact ⟨rfl, Nwa03⟩
theorem own_ef_wa1 (m : MethodId) (p0 : Int32) (p1 : Int32) (p2 : Int32) : entryFrame m #[(.int p0), (.int p1), (.int p2)] maxLocals = mkF m 0 #[.val (.int p0), .val (.int p1), .val (.int p2), .unset, .unset, .unset, .unset, .unset, .unset, .unset, .unset, .unset, .unset, .unset] [] := by first | (simp [entryFrame, mkF, argsToLocals, Value.category, maxLocals]; done) | rfl
set_option maxRecDepth 65536 in
set_option maxHeartbeats 40000000 in
theorem own_rm_wa1 (l : Launch) (Z : State) (a0 : Array Value) (hw : ∀ d ∈ tables_1, d.before a0 Z = true) (ws : List Jvm.Cond) (p0 : Int32) (p1 : Int32) (p2 : Int32) {wa1_v2 : Int32} {wa1_v112 : Int64} {wa1_v115 : Int64} {wa1_v116 : Int64} {wa1_v164 : UInt64} {wa1_v171 : UInt64} {wa1_c172_cff_v4 : UInt64} {wa1_c172_cff_v9 : UInt64} {wa1_c172_cff_v10 : UInt64} {wa1_v185 : UInt64} (h0 : Heap) (n0 : Nat) (Z0 : n0 ≤ h0.size)  (wa1_hv2 : p2 &&& (3 : Int32) = wa1_v2) (wa1_hb6 : if_icmp.holds .ne wa1_v2 (2 : Int32) = true) (wa1_hb105 : if_icmp.holds .ne (own_imin p0 p1) (own_imax p0 p1) = true) (wa1_hv112 : Int32.toInt64 (own_imin p0 p1) = wa1_v112) (wa1_hv115 : Int32.toInt64 (own_imax p0 p1) = wa1_v115) (wa1_hv116 : wa1_v112 + wa1_v115 = wa1_v116) (wa1_hb120 : ifCond.holds .ne wa1_v2 = true) (wa1_hb155 : if_icmp.holds .ne wa1_v2 (1 : Int32) = false) (wa1_hn164 : Jvm.Free.Fl.NoNaN64 (FP.dmul (FP.i2d (own_imin p0 p1)) (9074753249151549440 : UInt64))) (wa1_hv164 : FP.dmul (FP.i2d (own_imin p0 p1)) (9074753249151549440 : UInt64) = wa1_v164) (wa1_hn171 : Jvm.Free.Fl.NoNaN64 (FP.dmul (FP.i2d (own_imax p0 p1)) (9074753249151549440 : UInt64))) (wa1_hv171 : FP.dmul (FP.i2d (own_imax p0 p1)) (9074753249151549440 : UInt64) = wa1_v171) (wa1_c172_cff_hn4 : Jvm.Free.Fl.NoNaN64 (FP.ddiv wa1_v164 (4611686018427387904 : UInt64))) (wa1_c172_cff_hv4 : FP.ddiv wa1_v164 (4611686018427387904 : UInt64) = wa1_c172_cff_v4) (wa1_c172_cff_hn9 : Jvm.Free.Fl.NoNaN64 (FP.ddiv wa1_v171 (4611686018427387904 : UInt64))) (wa1_c172_cff_hv9 : FP.ddiv wa1_v171 (4611686018427387904 : UInt64) = wa1_c172_cff_v9) (wa1_c172_cff_hn10 : Jvm.Free.Fl.NoNaN64 (FP.dadd wa1_c172_cff_v4 wa1_c172_cff_v9)) (wa1_c172_cff_hv10 : FP.dadd wa1_c172_cff_v4 wa1_c172_cff_v9 = wa1_c172_cff_v10) (wa1_c172_cff_hb17 : ifCond.holds .le (Op.cmpValue (FP.dcmp wa1_c172_cff_v10 wa1_v164) .l) = false) (wa1_c172_cff_hb24 : ifCond.holds .gt (Op.cmpValue (FP.dcmp wa1_c172_cff_v10 wa1_v171) .g) = false) (wa1_hn185 : Jvm.Free.Fl.NoNaN64 (FP.dmul (FP.l2d wa1_v116) (9070249649524178944 : UInt64))) (wa1_hv185 : FP.dmul (FP.l2d wa1_v116) (9070249649524178944 : UInt64) = wa1_v185) (wa1_hc186 : Op.cmpValue (FP.dcmp wa1_c172_cff_v10 wa1_v185) .l = (0 : Int32)) :
    MetFree l x (head1 (Jvm.Cond.code x code maxLocals ret :: ws) room_1) (fun a U => a = #[(.int p0), (.int p1), (.int p2)] ∧ Z.Warmed39 U.vm ∧ U.heap = h0) (fun _ _ _ _ _ => True) (fun _ U o U' => ∃ v L, o = .returned v ∧ own_Q0 n0 v U'.heap L ∧ FrameEnd U o U' L room_1.cells room_1.slots) := by
  refine MetFree.of_bodySF (plainFor_of_name own_pn_com_example_thicket_thicket_core_CutPartitioningBetweenPinLaw) hisR ?_
  intro p e s m args below meth c s₁ Bd hml0 hP hK
  obtain ⟨rfl, hZ, hh⟩ := hP
  have hx := Bd.exec
  have hby := Bd.bytes
  have hml : c.maxLocals = 14 := hml0
  have hown : s.vm.findClass "com/example/thicket/thicket/core/CutPartitioningBetweenPinLaw" = some m.cls := findClass_of_methodNamed Bd.named
  have hnm := (name_of_methodNamed Bd.named Bd.method).1
  have X0 : Stand p l e room_1 s m #[(.int p0), (.int p1), (.int p2)] below meth c s₁ [] 0 0 := Stand.of_body Bd
  have e0 : s₁.heap = h0 := by rw [← hh, Bd.state]; rfl
  have N0 := Fr.nil n0
  have pre0 : ∀ t, Steps p.tables e below (s₁.setTop (mkF m 0 #[.val (.int p0), .val (.int p1), .val (.int p2), .unset, .unset, .unset, .unset, .unset, .unset, .unset, .unset, .unset, .unset, .unset] [])) t → Steps p.tables e below (s₁.setTop (entryFrame m #[(.int p0), (.int p1), (.int p2)] maxLocals)) t := fun t k => castTop (own_ef_wa1 m p0 p1 p2) k
  obtain ⟨_, _, ⟨Twa11, Lwa11, kwa11, nwa11⟩, -, Xwa11, ⟨Lcwa11, hQwa11, lwa11, ywa11, zwa11⟩, stwa11⟩ := Jvm.LawKit.callS X0 hx (y := (⟨"java/lang/Math", "min", "(II)I"⟩ : MethodName)) hown (mvT hZ (hw _ (List.mem_of_getElem? (i := 8) rfl))) (mvT hZ (hw _ (List.mem_of_getElem? (i := 9) rfl))) (mvT hZ (hw _ (List.mem_of_getElem? (i := 10) rfl))) (mvT hZ (hw _ (List.mem_of_getElem? (i := 11) rfl))) (by decide) (backOf (W := 0) (own_rm_mi l Z a0 hw [] p0 p1 h0 n0 Z0 ) hZ (hw _ (List.mem_of_getElem? (i := 11) rfl)) (hw _ (List.mem_of_getElem? (i := 10) rfl)) (by decide) (by decide)) (g := (mkF m 89 #[.val (.int p0), .val (.int p1), .val (.int p2), .val (.int wa1_v2), .unset, .unset, .unset, .unset, .unset, .unset, .unset, .unset, .unset, .unset] [(.int p1), (.int p0)])) rfl (by rw [hml]; rfl) (argsL := [(.int p0), (.int p1)]) (rest := []) (lenOf own_pd_28II29I rfl) rfl (by show 2 * 0 + _ ≤ _; exact Nat.le_of_eq rfl) (hb hby at_89) (fun _ _ => ⟨rfl, e0, (by decide : 0 + 0 ≤ _), (by decide : 0 + 0 ≤ _)⟩)
  dsimp only [Pt.U, Pt.locs, Pt.cells, Pt.slots] at Xwa11 lwa11 ywa11 zwa11 stwa11 hQwa11
  subst lwa11 ywa11 zwa11
  obtain ⟨rfl, Nwa11q, ewa11⟩ := hQwa11
  have Nwa11 := Fr.app N0 Nwa11q
  obtain ⟨_, _, ⟨Twa12, Lwa12, kwa12, nwa12⟩, -, Xwa12, ⟨Lcwa12, hQwa12, lwa12, ywa12, zwa12⟩, stwa12⟩ := Jvm.LawKit.callS Xwa11 hx (y := (⟨"java/lang/Math", "max", "(II)I"⟩ : MethodName)) hown (mvT hZ (hw _ (List.mem_of_getElem? (i := 12) rfl))) (mvT hZ (hw _ (List.mem_of_getElem? (i := 13) rfl))) (mvT hZ (hw _ (List.mem_of_getElem? (i := 10) rfl))) (mvT hZ (hw _ (List.mem_of_getElem? (i := 14) rfl))) (by decide) (backOf (W := 0) (own_rm_ma l Z a0 hw [] p0 p1 h0 n0 Z0 ) hZ (hw _ (List.mem_of_getElem? (i := 14) rfl)) (hw _ (List.mem_of_getElem? (i := 10) rfl)) (by decide) (by decide)) (g := (mkF m 96 #[.val (.int p0), .val (.int p1), .val (.int p2), .val (.int wa1_v2), .val (.int (own_imin p0 p1)), .unset, .unset, .unset, .unset, .unset, .unset, .unset, .unset, .unset] [(.int p1), (.int p0)])) rfl (by rw [hml]; rfl) (argsL := [(.int p0), (.int p1)]) (rest := []) (lenOf own_pd_28II29I rfl) rfl (by show 2 * 0 + _ ≤ _; exact Nat.le_of_eq rfl) (hb hby at_96) (fun _ _ => ⟨rfl, ewa11, (by decide : 0 + 0 ≤ _), (by decide : 0 + 0 ≤ _)⟩)
  dsimp only [Pt.U, Pt.locs, Pt.cells, Pt.slots] at Xwa12 lwa12 ywa12 zwa12 stwa12 hQwa12
  subst lwa12 ywa12 zwa12
  obtain ⟨rfl, Nwa12q, ewa12⟩ := hQwa12
  have Nwa12 := Fr.app Nwa11 Nwa12q
  obtain ⟨_, _, ⟨Twa13, Lwa13, kwa13, nwa13⟩, -, Xwa13, ⟨Lcwa13, hQwa13, lwa13, ywa13, zwa13⟩, stwa13⟩ := Jvm.LawKit.callS Xwa12 hx (y := (⟨"com/example/thicket/thicket/core/CutPartitioning", "between", "(DD)D"⟩ : MethodName)) hown (mvT hZ (hw _ (List.mem_of_getElem? (i := 3) rfl))) (mvT hZ (hw _ (List.mem_of_getElem? (i := 4) rfl))) (mvT hZ (hw _ (List.mem_of_getElem? (i := 5) rfl))) (mvT hZ (hw _ (List.mem_of_getElem? (i := 6) rfl))) (by decide) (backOf (W := 0) (own_rm_cff l Z a0 hw [] wa1_v164 wa1_v171 h0 n0 Z0 wa1_c172_cff_hn4 wa1_c172_cff_hv4 wa1_c172_cff_hn9 wa1_c172_cff_hv9 wa1_c172_cff_hn10 wa1_c172_cff_hv10 wa1_c172_cff_hb17 wa1_c172_cff_hb24) hZ (hw _ (List.mem_of_getElem? (i := 6) rfl)) (hw _ (List.mem_of_getElem? (i := 5) rfl)) (by decide) (by decide)) (g := (mkF m 172 #[.val (.int p0), .val (.int p1), .val (.int p2), .val (.int wa1_v2), .val (.int (own_imin p0 p1)), .val (.int (own_imax p0 p1)), .val (.long wa1_v116), .second, .unset, .unset, .unset, .unset, .unset, .unset] [(.double wa1_v171), (.double wa1_v164)])) rfl (by rw [hml]; rfl) (argsL := [(.double wa1_v164), (.double wa1_v171)]) (rest := []) (lenOf own_pd_28DD29D rfl) rfl (by show 2 * 0 + _ ≤ _; exact Nat.le_of_eq rfl) (hb hby at_172) (fun _ _ => ⟨rfl, ewa12, (by decide : 0 + 0 ≤ _), (by decide : 0 + 0 ≤ _)⟩)
  dsimp only [Pt.U, Pt.locs, Pt.cells, Pt.slots] at Xwa13 lwa13 ywa13 zwa13 stwa13 hQwa13
  subst lwa13 ywa13 zwa13
  obtain ⟨rfl, Nwa13q, ewa13⟩ := hQwa13
  have Nwa13 := Fr.app Nwa12 Nwa13q
  obtain ⟨fs, hr, hrun, hended, hW, hsame⟩ := Xwa13.leave (v := some (.int (1 : Int32))) (fun h => by rw [Bd.returns] at h; cases h)
  refine ⟨_, _, pre0 _ ?_, hrun, hended, _, _, rfl, ?_, ⟨_, rfl⟩, hW, hsame.mono (by decide) (by decide)⟩
  · refine own_s_iloadN X0.here hx (hb hby at_0) (pc' := 1) rfl rfl ?_
    refine own_s_iconst X0.here hx (hb hby at_1) (pc' := 2) rfl (v := (3 : Int32)) (by decide) ?_
    refine own_s_iand X0.here hx (hb hby at_2) (pc' := 3) rfl (v := wa1_v2) wa1_hv2 ?_
    refine own_s_istoreN X0.here hx (hb hby at_3) (pc' := 4) rfl (L' := #[.val (.int p0), .val (.int p1), .val (.int p2), .val (.int wa1_v2), .unset, .unset, .unset, .unset, .unset, .unset, .unset, .unset, .unset, .unset]) rfl ?_
    refine own_s_iloadN X0.here hx (hb hby at_4) (pc' := 5) rfl rfl ?_
    refine own_s_iconst X0.here hx (hb hby at_5) (pc' := 6) rfl (v := (2 : Int32)) (by decide) ?_
    refine own_s_icmpYes X0.here hx (hb hby at_6) (by decide) (pc' := 87) (by decide) wa1_hb6 ?_
    refine own_s_iloadN X0.here hx (hb hby at_87) (pc' := 88) rfl rfl ?_
    refine own_s_iloadN X0.here hx (hb hby at_88) (pc' := 89) rfl rfl ?_
    refine stwa11 _ ?_
    show Steps p.tables e below (Twa11.setTop (mkF m 92 #[.val (.int p0), .val (.int p1), .val (.int p2), .val (.int wa1_v2), .unset, .unset, .unset, .unset, .unset, .unset, .unset, .unset, .unset, .unset] [(.int (own_imin p0 p1))])) _
    refine own_s_istore Xwa11.here hx (hb hby at_92) (pc' := 94) rfl (L' := #[.val (.int p0), .val (.int p1), .val (.int p2), .val (.int wa1_v2), .val (.int (own_imin p0 p1)), .unset, .unset, .unset, .unset, .unset, .unset, .unset, .unset, .unset]) rfl ?_
    refine own_s_iloadN Xwa11.here hx (hb hby at_94) (pc' := 95) rfl rfl ?_
    refine own_s_iloadN Xwa11.here hx (hb hby at_95) (pc' := 96) rfl rfl ?_
    refine stwa12 _ ?_
    show Steps p.tables e below (Twa12.setTop (mkF m 99 #[.val (.int p0), .val (.int p1), .val (.int p2), .val (.int wa1_v2), .val (.int (own_imin p0 p1)), .unset, .unset, .unset, .unset, .unset, .unset, .unset, .unset, .unset] [(.int (own_imax p0 p1))])) _
    refine own_s_istore Xwa12.here hx (hb hby at_99) (pc' := 101) rfl (L' := #[.val (.int p0), .val (.int p1), .val (.int p2), .val (.int wa1_v2), .val (.int (own_imin p0 p1)), .val (.int (own_imax p0 p1)), .unset, .unset, .unset, .unset, .unset, .unset, .unset, .unset]) rfl ?_
    refine own_s_iload Xwa12.here hx (hb hby at_101) (pc' := 103) rfl rfl ?_
    refine own_s_iload Xwa12.here hx (hb hby at_103) (pc' := 105) rfl rfl ?_
    refine own_s_icmpYes Xwa12.here hx (hb hby at_105) (by decide) (pc' := 110) (by decide) wa1_hb105 ?_
    refine own_s_iload Xwa12.here hx (hb hby at_110) (pc' := 112) rfl rfl ?_
    refine own_s_i2l Xwa12.here hx (hb hby at_112) (pc' := 113) rfl (v := wa1_v112) wa1_hv112 ?_
    refine own_s_iload Xwa12.here hx (hb hby at_113) (pc' := 115) rfl rfl ?_
    refine own_s_i2l Xwa12.here hx (hb hby at_115) (pc' := 116) rfl (v := wa1_v115) wa1_hv115 ?_
    refine own_s_ladd Xwa12.here hx (hb hby at_116) (pc' := 117) rfl (v := wa1_v116) wa1_hv116 ?_
    refine own_s_lstore Xwa12.here hx (hb hby at_117) (pc' := 119) rfl (L' := #[.val (.int p0), .val (.int p1), .val (.int p2), .val (.int wa1_v2), .val (.int (own_imin p0 p1)), .val (.int (own_imax p0 p1)), .val (.long wa1_v116), .second, .unset, .unset, .unset, .unset, .unset, .unset]) rfl ?_
    refine own_s_iloadN Xwa12.here hx (hb hby at_119) (pc' := 120) rfl rfl ?_
    refine own_s_ifYes Xwa12.here hx (hb hby at_120) (by decide) (pc' := 153) (by decide) wa1_hb120 ?_
    refine own_s_iloadN Xwa12.here hx (hb hby at_153) (pc' := 154) rfl rfl ?_
    refine own_s_iconst Xwa12.here hx (hb hby at_154) (pc' := 155) rfl (v := (1 : Int32)) (by decide) ?_
    refine own_s_icmpNo Xwa12.here hx (hb hby at_155) (pc' := 158) rfl wa1_hb155 ?_
    refine own_s_iload Xwa12.here hx (hb hby at_158) (pc' := 160) rfl rfl ?_
    refine own_s_i2d Xwa12.here hx (hb hby at_160) (pc' := 161) rfl (v := (FP.i2d (own_imin p0 p1))) rfl ?_
    refine Xwa12.ldc2DoubleC hx hown (mvT hZ (hw _ (List.mem_of_getElem? (i := 16) rfl))) (g := (mkF m 161 #[.val (.int p0), .val (.int p1), .val (.int p2), .val (.int wa1_v2), .val (.int (own_imin p0 p1)), .val (.int (own_imax p0 p1)), .val (.long wa1_v116), .second, .unset, .unset, .unset, .unset, .unset, .unset] [(.double (FP.i2d (own_imin p0 p1)))])) rfl (hb hby at_161) _ ?_
    show Steps p.tables e below (Twa12.setTop (mkF m 164 #[.val (.int p0), .val (.int p1), .val (.int p2), .val (.int wa1_v2), .val (.int (own_imin p0 p1)), .val (.int (own_imax p0 p1)), .val (.long wa1_v116), .second, .unset, .unset, .unset, .unset, .unset, .unset] [(.double (9074753249151549440 : UInt64)), (.double (FP.i2d (own_imin p0 p1)))])) _
    refine own_s_dmul Xwa12.here hx (hb hby at_164) (pc' := 165) rfl wa1_hn164 (v := wa1_v164) wa1_hv164 ?_
    refine own_s_iload Xwa12.here hx (hb hby at_165) (pc' := 167) rfl rfl ?_
    refine own_s_i2d Xwa12.here hx (hb hby at_167) (pc' := 168) rfl (v := (FP.i2d (own_imax p0 p1))) rfl ?_
    refine Xwa12.ldc2DoubleC hx hown (mvT hZ (hw _ (List.mem_of_getElem? (i := 16) rfl))) (g := (mkF m 168 #[.val (.int p0), .val (.int p1), .val (.int p2), .val (.int wa1_v2), .val (.int (own_imin p0 p1)), .val (.int (own_imax p0 p1)), .val (.long wa1_v116), .second, .unset, .unset, .unset, .unset, .unset, .unset] [(.double (FP.i2d (own_imax p0 p1))), (.double wa1_v164)])) rfl (hb hby at_168) _ ?_
    show Steps p.tables e below (Twa12.setTop (mkF m 171 #[.val (.int p0), .val (.int p1), .val (.int p2), .val (.int wa1_v2), .val (.int (own_imin p0 p1)), .val (.int (own_imax p0 p1)), .val (.long wa1_v116), .second, .unset, .unset, .unset, .unset, .unset, .unset] [(.double (9074753249151549440 : UInt64)), (.double (FP.i2d (own_imax p0 p1))), (.double wa1_v164)])) _
    refine own_s_dmul Xwa12.here hx (hb hby at_171) (pc' := 172) rfl wa1_hn171 (v := wa1_v171) wa1_hv171 ?_
    refine stwa13 _ ?_
    show Steps p.tables e below (Twa13.setTop (mkF m 175 #[.val (.int p0), .val (.int p1), .val (.int p2), .val (.int wa1_v2), .val (.int (own_imin p0 p1)), .val (.int (own_imax p0 p1)), .val (.long wa1_v116), .second, .unset, .unset, .unset, .unset, .unset, .unset] [(.double wa1_c172_cff_v10)])) _
    refine own_s_dstore Xwa13.here hx (hb hby at_175) (pc' := 177) rfl (L' := #[.val (.int p0), .val (.int p1), .val (.int p2), .val (.int wa1_v2), .val (.int (own_imin p0 p1)), .val (.int (own_imax p0 p1)), .val (.long wa1_v116), .second, .val (.double wa1_c172_cff_v10), .second, .unset, .unset, .unset, .unset]) rfl ?_
    refine own_s_dload Xwa13.here hx (hb hby at_177) (pc' := 179) rfl rfl ?_
    refine own_s_lload Xwa13.here hx (hb hby at_179) (pc' := 181) rfl rfl ?_
    refine own_s_l2d Xwa13.here hx (hb hby at_181) (pc' := 182) rfl (v := (FP.l2d wa1_v116)) rfl ?_
    refine Xwa13.ldc2DoubleC hx hown (mvT hZ (hw _ (List.mem_of_getElem? (i := 17) rfl))) (g := (mkF m 182 #[.val (.int p0), .val (.int p1), .val (.int p2), .val (.int wa1_v2), .val (.int (own_imin p0 p1)), .val (.int (own_imax p0 p1)), .val (.long wa1_v116), .second, .val (.double wa1_c172_cff_v10), .second, .unset, .unset, .unset, .unset] [(.double (FP.l2d wa1_v116)), (.double wa1_c172_cff_v10)])) rfl (hb hby at_182) _ ?_
    show Steps p.tables e below (Twa13.setTop (mkF m 185 #[.val (.int p0), .val (.int p1), .val (.int p2), .val (.int wa1_v2), .val (.int (own_imin p0 p1)), .val (.int (own_imax p0 p1)), .val (.long wa1_v116), .second, .val (.double wa1_c172_cff_v10), .second, .unset, .unset, .unset, .unset] [(.double (9070249649524178944 : UInt64)), (.double (FP.l2d wa1_v116)), (.double wa1_c172_cff_v10)])) _
    refine own_s_dmul Xwa13.here hx (hb hby at_185) (pc' := 186) rfl wa1_hn185 (v := wa1_v185) wa1_hv185 ?_
    refine own_s_dcmp Xwa13.here hx (hb hby at_186) (pc' := 187) rfl (v := (0 : Int32)) wa1_hc186 ?_
    refine own_s_ifNo Xwa13.here hx (hb hby at_187) (pc' := 190) rfl (by decide) ?_
    refine own_s_iconst Xwa13.here hx (hb hby at_190) (pc' := 191) rfl (v := (1 : Int32)) (by decide) ?_
    refine own_s_goto Xwa13.here hx (hb hby at_191) (by decide) (pc' := 195) (by decide) ?_
    exact retN Xwa13 hx (t := .boolean) Bd.returns (by simp) (hb hby at_195) hr
  · show own_Q0 n0 _ Twa13.heap _
    rw [ewa13]
    exact ⟨rfl, Nwa13⟩
theorem own_ef_wa3t (m : MethodId) (p0 : Int32) (p1 : Int32) (p2 : Int32) : entryFrame m #[(.int p0), (.int p1), (.int p2)] maxLocals = mkF m 0 #[.val (.int p0), .val (.int p1), .val (.int p2), .unset, .unset, .unset, .unset, .unset, .unset, .unset, .unset, .unset, .unset, .unset] [] := by first | (simp [entryFrame, mkF, argsToLocals, Value.category, maxLocals]; done) | rfl
set_option maxRecDepth 65536 in
set_option maxHeartbeats 40000000 in
theorem own_rm_wa3t (l : Launch) (Z : State) (a0 : Array Value) (hw : ∀ d ∈ tables_1, d.before a0 Z = true) (ws : List Jvm.Cond) (p0 : Int32) (p1 : Int32) (p2 : Int32) {wa3t_v2 : Int32} {wa3t_v112 : Int64} {wa3t_v115 : Int64} {wa3t_v116 : Int64} {wa3t_v202 : UInt64} {wa3t_v211 : UInt64} {wa3t_c218_ct_v4 : UInt64} {wa3t_c218_ct_v9 : UInt64} {wa3t_c218_ct_v10 : UInt64} (h0 : Heap) (n0 : Nat) (Z0 : n0 ≤ h0.size)  (wa3t_hv2 : p2 &&& (3 : Int32) = wa3t_v2) (wa3t_hb6 : if_icmp.holds .ne wa3t_v2 (2 : Int32) = true) (wa3t_hb105 : if_icmp.holds .ne (own_imin p0 p1) (own_imax p0 p1) = true) (wa3t_hv112 : Int32.toInt64 (own_imin p0 p1) = wa3t_v112) (wa3t_hv115 : Int32.toInt64 (own_imax p0 p1) = wa3t_v115) (wa3t_hv116 : wa3t_v112 + wa3t_v115 = wa3t_v116) (wa3t_hb120 : ifCond.holds .ne wa3t_v2 = true) (wa3t_hb155 : if_icmp.holds .ne wa3t_v2 (1 : Int32) = true) (wa3t_hn202 : Jvm.Free.Fl.NoNaN64 (FP.dmul (FP.i2d (own_imin p0 p1)) (1 : UInt64))) (wa3t_hv202 : FP.dmul (FP.i2d (own_imin p0 p1)) (1 : UInt64) = wa3t_v202) (wa3t_hn211 : Jvm.Free.Fl.NoNaN64 (FP.dmul (FP.i2d (own_imax p0 p1)) (1 : UInt64))) (wa3t_hv211 : FP.dmul (FP.i2d (own_imax p0 p1)) (1 : UInt64) = wa3t_v211) (wa3t_c218_ct_hn4 : Jvm.Free.Fl.NoNaN64 (FP.ddiv wa3t_v202 (4611686018427387904 : UInt64))) (wa3t_c218_ct_hv4 : FP.ddiv wa3t_v202 (4611686018427387904 : UInt64) = wa3t_c218_ct_v4) (wa3t_c218_ct_hn9 : Jvm.Free.Fl.NoNaN64 (FP.ddiv wa3t_v211 (4611686018427387904 : UInt64))) (wa3t_c218_ct_hv9 : FP.ddiv wa3t_v211 (4611686018427387904 : UInt64) = wa3t_c218_ct_v9) (wa3t_c218_ct_hn10 : Jvm.Free.Fl.NoNaN64 (FP.dadd wa3t_c218_ct_v4 wa3t_c218_ct_v9)) (wa3t_c218_ct_hv10 : FP.dadd wa3t_c218_ct_v4 wa3t_c218_ct_v9 = wa3t_c218_ct_v10) (wa3t_c218_ct_hb17 : ifCond.holds .le (Op.cmpValue (FP.dcmp wa3t_c218_ct_v10 wa3t_v202) .l) = true) (wa3t_hb228 : ifCond.holds .ge (Op.cmpValue (FP.dcmp wa3t_v202 wa3t_v211) .g) = false) (wa3t_hb236 : ifCond.holds .gt (Op.cmpValue (FP.dcmp wa3t_v211 wa3t_v211) .g) = false) :
    MetFree l x (head1 (Jvm.Cond.code x code maxLocals ret :: ws) room_1) (fun a U => a = #[(.int p0), (.int p1), (.int p2)] ∧ Z.Warmed39 U.vm ∧ U.heap = h0) (fun _ _ _ _ _ => True) (fun _ U o U' => ∃ v L, o = .returned v ∧ own_Q0 n0 v U'.heap L ∧ FrameEnd U o U' L room_1.cells room_1.slots) := by
  refine MetFree.of_bodySF (plainFor_of_name own_pn_com_example_thicket_thicket_core_CutPartitioningBetweenPinLaw) hisR ?_
  intro p e s m args below meth c s₁ Bd hml0 hP hK
  obtain ⟨rfl, hZ, hh⟩ := hP
  have hx := Bd.exec
  have hby := Bd.bytes
  have hml : c.maxLocals = 14 := hml0
  have hown : s.vm.findClass "com/example/thicket/thicket/core/CutPartitioningBetweenPinLaw" = some m.cls := findClass_of_methodNamed Bd.named
  have hnm := (name_of_methodNamed Bd.named Bd.method).1
  have X0 : Stand p l e room_1 s m #[(.int p0), (.int p1), (.int p2)] below meth c s₁ [] 0 0 := Stand.of_body Bd
  have e0 : s₁.heap = h0 := by rw [← hh, Bd.state]; rfl
  have N0 := Fr.nil n0
  have pre0 : ∀ t, Steps p.tables e below (s₁.setTop (mkF m 0 #[.val (.int p0), .val (.int p1), .val (.int p2), .unset, .unset, .unset, .unset, .unset, .unset, .unset, .unset, .unset, .unset, .unset] [])) t → Steps p.tables e below (s₁.setTop (entryFrame m #[(.int p0), (.int p1), (.int p2)] maxLocals)) t := fun t k => castTop (own_ef_wa3t m p0 p1 p2) k
  obtain ⟨_, _, ⟨Twa3t1, Lwa3t1, kwa3t1, nwa3t1⟩, -, Xwa3t1, ⟨Lcwa3t1, hQwa3t1, lwa3t1, ywa3t1, zwa3t1⟩, stwa3t1⟩ := Jvm.LawKit.callS X0 hx (y := (⟨"java/lang/Math", "min", "(II)I"⟩ : MethodName)) hown (mvT hZ (hw _ (List.mem_of_getElem? (i := 8) rfl))) (mvT hZ (hw _ (List.mem_of_getElem? (i := 9) rfl))) (mvT hZ (hw _ (List.mem_of_getElem? (i := 10) rfl))) (mvT hZ (hw _ (List.mem_of_getElem? (i := 11) rfl))) (by decide) (backOf (W := 0) (own_rm_mi l Z a0 hw [] p0 p1 h0 n0 Z0 ) hZ (hw _ (List.mem_of_getElem? (i := 11) rfl)) (hw _ (List.mem_of_getElem? (i := 10) rfl)) (by decide) (by decide)) (g := (mkF m 89 #[.val (.int p0), .val (.int p1), .val (.int p2), .val (.int wa3t_v2), .unset, .unset, .unset, .unset, .unset, .unset, .unset, .unset, .unset, .unset] [(.int p1), (.int p0)])) rfl (by rw [hml]; rfl) (argsL := [(.int p0), (.int p1)]) (rest := []) (lenOf own_pd_28II29I rfl) rfl (by show 2 * 0 + _ ≤ _; exact Nat.le_of_eq rfl) (hb hby at_89) (fun _ _ => ⟨rfl, e0, (by decide : 0 + 0 ≤ _), (by decide : 0 + 0 ≤ _)⟩)
  dsimp only [Pt.U, Pt.locs, Pt.cells, Pt.slots] at Xwa3t1 lwa3t1 ywa3t1 zwa3t1 stwa3t1 hQwa3t1
  subst lwa3t1 ywa3t1 zwa3t1
  obtain ⟨rfl, Nwa3t1q, ewa3t1⟩ := hQwa3t1
  have Nwa3t1 := Fr.app N0 Nwa3t1q
  obtain ⟨_, _, ⟨Twa3t2, Lwa3t2, kwa3t2, nwa3t2⟩, -, Xwa3t2, ⟨Lcwa3t2, hQwa3t2, lwa3t2, ywa3t2, zwa3t2⟩, stwa3t2⟩ := Jvm.LawKit.callS Xwa3t1 hx (y := (⟨"java/lang/Math", "max", "(II)I"⟩ : MethodName)) hown (mvT hZ (hw _ (List.mem_of_getElem? (i := 12) rfl))) (mvT hZ (hw _ (List.mem_of_getElem? (i := 13) rfl))) (mvT hZ (hw _ (List.mem_of_getElem? (i := 10) rfl))) (mvT hZ (hw _ (List.mem_of_getElem? (i := 14) rfl))) (by decide) (backOf (W := 0) (own_rm_ma l Z a0 hw [] p0 p1 h0 n0 Z0 ) hZ (hw _ (List.mem_of_getElem? (i := 14) rfl)) (hw _ (List.mem_of_getElem? (i := 10) rfl)) (by decide) (by decide)) (g := (mkF m 96 #[.val (.int p0), .val (.int p1), .val (.int p2), .val (.int wa3t_v2), .val (.int (own_imin p0 p1)), .unset, .unset, .unset, .unset, .unset, .unset, .unset, .unset, .unset] [(.int p1), (.int p0)])) rfl (by rw [hml]; rfl) (argsL := [(.int p0), (.int p1)]) (rest := []) (lenOf own_pd_28II29I rfl) rfl (by show 2 * 0 + _ ≤ _; exact Nat.le_of_eq rfl) (hb hby at_96) (fun _ _ => ⟨rfl, ewa3t1, (by decide : 0 + 0 ≤ _), (by decide : 0 + 0 ≤ _)⟩)
  dsimp only [Pt.U, Pt.locs, Pt.cells, Pt.slots] at Xwa3t2 lwa3t2 ywa3t2 zwa3t2 stwa3t2 hQwa3t2
  subst lwa3t2 ywa3t2 zwa3t2
  obtain ⟨rfl, Nwa3t2q, ewa3t2⟩ := hQwa3t2
  have Nwa3t2 := Fr.app Nwa3t1 Nwa3t2q
  obtain ⟨_, _, ⟨Twa3t3, Lwa3t3, kwa3t3, nwa3t3⟩, -, Xwa3t3, ⟨Lcwa3t3, hQwa3t3, lwa3t3, ywa3t3, zwa3t3⟩, stwa3t3⟩ := Jvm.LawKit.callS Xwa3t2 hx (y := (⟨"com/example/thicket/thicket/core/CutPartitioning", "between", "(DD)D"⟩ : MethodName)) hown (mvT hZ (hw _ (List.mem_of_getElem? (i := 3) rfl))) (mvT hZ (hw _ (List.mem_of_getElem? (i := 4) rfl))) (mvT hZ (hw _ (List.mem_of_getElem? (i := 5) rfl))) (mvT hZ (hw _ (List.mem_of_getElem? (i := 6) rfl))) (by decide) (backOf (W := 0) (own_rm_ct l Z a0 hw [] wa3t_v202 wa3t_v211 h0 n0 Z0 wa3t_c218_ct_hn4 wa3t_c218_ct_hv4 wa3t_c218_ct_hn9 wa3t_c218_ct_hv9 wa3t_c218_ct_hn10 wa3t_c218_ct_hv10 wa3t_c218_ct_hb17) hZ (hw _ (List.mem_of_getElem? (i := 6) rfl)) (hw _ (List.mem_of_getElem? (i := 5) rfl)) (by decide) (by decide)) (g := (mkF m 218 #[.val (.int p0), .val (.int p1), .val (.int p2), .val (.int wa3t_v2), .val (.int (own_imin p0 p1)), .val (.int (own_imax p0 p1)), .val (.long wa3t_v116), .second, .val (.double wa3t_v202), .second, .val (.double wa3t_v211), .second, .unset, .unset] [(.double wa3t_v211), (.double wa3t_v202)])) rfl (by rw [hml]; rfl) (argsL := [(.double wa3t_v202), (.double wa3t_v211)]) (rest := []) (lenOf own_pd_28DD29D rfl) rfl (by show 2 * 0 + _ ≤ _; exact Nat.le_of_eq rfl) (hb hby at_218) (fun _ _ => ⟨rfl, ewa3t2, (by decide : 0 + 0 ≤ _), (by decide : 0 + 0 ≤ _)⟩)
  dsimp only [Pt.U, Pt.locs, Pt.cells, Pt.slots] at Xwa3t3 lwa3t3 ywa3t3 zwa3t3 stwa3t3 hQwa3t3
  subst lwa3t3 ywa3t3 zwa3t3
  obtain ⟨rfl, Nwa3t3q, ewa3t3⟩ := hQwa3t3
  have Nwa3t3 := Fr.app Nwa3t2 Nwa3t3q
  obtain ⟨fs, hr, hrun, hended, hW, hsame⟩ := Xwa3t3.leave (v := some (.int (1 : Int32))) (fun h => by rw [Bd.returns] at h; cases h)
  refine ⟨_, _, pre0 _ ?_, hrun, hended, _, _, rfl, ?_, ⟨_, rfl⟩, hW, hsame.mono (by decide) (by decide)⟩
  · refine own_s_iloadN X0.here hx (hb hby at_0) (pc' := 1) rfl rfl ?_
    refine own_s_iconst X0.here hx (hb hby at_1) (pc' := 2) rfl (v := (3 : Int32)) (by decide) ?_
    refine own_s_iand X0.here hx (hb hby at_2) (pc' := 3) rfl (v := wa3t_v2) wa3t_hv2 ?_
    refine own_s_istoreN X0.here hx (hb hby at_3) (pc' := 4) rfl (L' := #[.val (.int p0), .val (.int p1), .val (.int p2), .val (.int wa3t_v2), .unset, .unset, .unset, .unset, .unset, .unset, .unset, .unset, .unset, .unset]) rfl ?_
    refine own_s_iloadN X0.here hx (hb hby at_4) (pc' := 5) rfl rfl ?_
    refine own_s_iconst X0.here hx (hb hby at_5) (pc' := 6) rfl (v := (2 : Int32)) (by decide) ?_
    refine own_s_icmpYes X0.here hx (hb hby at_6) (by decide) (pc' := 87) (by decide) wa3t_hb6 ?_
    refine own_s_iloadN X0.here hx (hb hby at_87) (pc' := 88) rfl rfl ?_
    refine own_s_iloadN X0.here hx (hb hby at_88) (pc' := 89) rfl rfl ?_
    refine stwa3t1 _ ?_
    show Steps p.tables e below (Twa3t1.setTop (mkF m 92 #[.val (.int p0), .val (.int p1), .val (.int p2), .val (.int wa3t_v2), .unset, .unset, .unset, .unset, .unset, .unset, .unset, .unset, .unset, .unset] [(.int (own_imin p0 p1))])) _
    refine own_s_istore Xwa3t1.here hx (hb hby at_92) (pc' := 94) rfl (L' := #[.val (.int p0), .val (.int p1), .val (.int p2), .val (.int wa3t_v2), .val (.int (own_imin p0 p1)), .unset, .unset, .unset, .unset, .unset, .unset, .unset, .unset, .unset]) rfl ?_
    refine own_s_iloadN Xwa3t1.here hx (hb hby at_94) (pc' := 95) rfl rfl ?_
    refine own_s_iloadN Xwa3t1.here hx (hb hby at_95) (pc' := 96) rfl rfl ?_
    refine stwa3t2 _ ?_
    show Steps p.tables e below (Twa3t2.setTop (mkF m 99 #[.val (.int p0), .val (.int p1), .val (.int p2), .val (.int wa3t_v2), .val (.int (own_imin p0 p1)), .unset, .unset, .unset, .unset, .unset, .unset, .unset, .unset, .unset] [(.int (own_imax p0 p1))])) _
    refine own_s_istore Xwa3t2.here hx (hb hby at_99) (pc' := 101) rfl (L' := #[.val (.int p0), .val (.int p1), .val (.int p2), .val (.int wa3t_v2), .val (.int (own_imin p0 p1)), .val (.int (own_imax p0 p1)), .unset, .unset, .unset, .unset, .unset, .unset, .unset, .unset]) rfl ?_
    refine own_s_iload Xwa3t2.here hx (hb hby at_101) (pc' := 103) rfl rfl ?_
    refine own_s_iload Xwa3t2.here hx (hb hby at_103) (pc' := 105) rfl rfl ?_
    refine own_s_icmpYes Xwa3t2.here hx (hb hby at_105) (by decide) (pc' := 110) (by decide) wa3t_hb105 ?_
    refine own_s_iload Xwa3t2.here hx (hb hby at_110) (pc' := 112) rfl rfl ?_
    refine own_s_i2l Xwa3t2.here hx (hb hby at_112) (pc' := 113) rfl (v := wa3t_v112) wa3t_hv112 ?_
    refine own_s_iload Xwa3t2.here hx (hb hby at_113) (pc' := 115) rfl rfl ?_
    refine own_s_i2l Xwa3t2.here hx (hb hby at_115) (pc' := 116) rfl (v := wa3t_v115) wa3t_hv115 ?_
    refine own_s_ladd Xwa3t2.here hx (hb hby at_116) (pc' := 117) rfl (v := wa3t_v116) wa3t_hv116 ?_
    refine own_s_lstore Xwa3t2.here hx (hb hby at_117) (pc' := 119) rfl (L' := #[.val (.int p0), .val (.int p1), .val (.int p2), .val (.int wa3t_v2), .val (.int (own_imin p0 p1)), .val (.int (own_imax p0 p1)), .val (.long wa3t_v116), .second, .unset, .unset, .unset, .unset, .unset, .unset]) rfl ?_
    refine own_s_iloadN Xwa3t2.here hx (hb hby at_119) (pc' := 120) rfl rfl ?_
    refine own_s_ifYes Xwa3t2.here hx (hb hby at_120) (by decide) (pc' := 153) (by decide) wa3t_hb120 ?_
    refine own_s_iloadN Xwa3t2.here hx (hb hby at_153) (pc' := 154) rfl rfl ?_
    refine own_s_iconst Xwa3t2.here hx (hb hby at_154) (pc' := 155) rfl (v := (1 : Int32)) (by decide) ?_
    refine own_s_icmpYes Xwa3t2.here hx (hb hby at_155) (by decide) (pc' := 196) (by decide) wa3t_hb155 ?_
    refine own_s_iload Xwa3t2.here hx (hb hby at_196) (pc' := 198) rfl rfl ?_
    refine own_s_i2d Xwa3t2.here hx (hb hby at_198) (pc' := 199) rfl (v := (FP.i2d (own_imin p0 p1))) rfl ?_
    refine Xwa3t2.ldc2DoubleC hx hown (mvT hZ (hw _ (List.mem_of_getElem? (i := 15) rfl))) (g := (mkF m 199 #[.val (.int p0), .val (.int p1), .val (.int p2), .val (.int wa3t_v2), .val (.int (own_imin p0 p1)), .val (.int (own_imax p0 p1)), .val (.long wa3t_v116), .second, .unset, .unset, .unset, .unset, .unset, .unset] [(.double (FP.i2d (own_imin p0 p1)))])) rfl (hb hby at_199) _ ?_
    show Steps p.tables e below (Twa3t2.setTop (mkF m 202 #[.val (.int p0), .val (.int p1), .val (.int p2), .val (.int wa3t_v2), .val (.int (own_imin p0 p1)), .val (.int (own_imax p0 p1)), .val (.long wa3t_v116), .second, .unset, .unset, .unset, .unset, .unset, .unset] [(.double (1 : UInt64)), (.double (FP.i2d (own_imin p0 p1)))])) _
    refine own_s_dmul Xwa3t2.here hx (hb hby at_202) (pc' := 203) rfl wa3t_hn202 (v := wa3t_v202) wa3t_hv202 ?_
    refine own_s_dstore Xwa3t2.here hx (hb hby at_203) (pc' := 205) rfl (L' := #[.val (.int p0), .val (.int p1), .val (.int p2), .val (.int wa3t_v2), .val (.int (own_imin p0 p1)), .val (.int (own_imax p0 p1)), .val (.long wa3t_v116), .second, .val (.double wa3t_v202), .second, .unset, .unset, .unset, .unset]) rfl ?_
    refine own_s_iload Xwa3t2.here hx (hb hby at_205) (pc' := 207) rfl rfl ?_
    refine own_s_i2d Xwa3t2.here hx (hb hby at_207) (pc' := 208) rfl (v := (FP.i2d (own_imax p0 p1))) rfl ?_
    refine Xwa3t2.ldc2DoubleC hx hown (mvT hZ (hw _ (List.mem_of_getElem? (i := 15) rfl))) (g := (mkF m 208 #[.val (.int p0), .val (.int p1), .val (.int p2), .val (.int wa3t_v2), .val (.int (own_imin p0 p1)), .val (.int (own_imax p0 p1)), .val (.long wa3t_v116), .second, .val (.double wa3t_v202), .second, .unset, .unset, .unset, .unset] [(.double (FP.i2d (own_imax p0 p1)))])) rfl (hb hby at_208) _ ?_
    show Steps p.tables e below (Twa3t2.setTop (mkF m 211 #[.val (.int p0), .val (.int p1), .val (.int p2), .val (.int wa3t_v2), .val (.int (own_imin p0 p1)), .val (.int (own_imax p0 p1)), .val (.long wa3t_v116), .second, .val (.double wa3t_v202), .second, .unset, .unset, .unset, .unset] [(.double (1 : UInt64)), (.double (FP.i2d (own_imax p0 p1)))])) _
    refine own_s_dmul Xwa3t2.here hx (hb hby at_211) (pc' := 212) rfl wa3t_hn211 (v := wa3t_v211) wa3t_hv211 ?_
    refine own_s_dstore Xwa3t2.here hx (hb hby at_212) (pc' := 214) rfl (L' := #[.val (.int p0), .val (.int p1), .val (.int p2), .val (.int wa3t_v2), .val (.int (own_imin p0 p1)), .val (.int (own_imax p0 p1)), .val (.long wa3t_v116), .second, .val (.double wa3t_v202), .second, .val (.double wa3t_v211), .second, .unset, .unset]) rfl ?_
    refine own_s_dload Xwa3t2.here hx (hb hby at_214) (pc' := 216) rfl rfl ?_
    refine own_s_dload Xwa3t2.here hx (hb hby at_216) (pc' := 218) rfl rfl ?_
    refine stwa3t3 _ ?_
    show Steps p.tables e below (Twa3t3.setTop (mkF m 221 #[.val (.int p0), .val (.int p1), .val (.int p2), .val (.int wa3t_v2), .val (.int (own_imin p0 p1)), .val (.int (own_imax p0 p1)), .val (.long wa3t_v116), .second, .val (.double wa3t_v202), .second, .val (.double wa3t_v211), .second, .unset, .unset] [(.double wa3t_v211)])) _
    refine own_s_dstore Xwa3t3.here hx (hb hby at_221) (pc' := 223) rfl (L' := #[.val (.int p0), .val (.int p1), .val (.int p2), .val (.int wa3t_v2), .val (.int (own_imin p0 p1)), .val (.int (own_imax p0 p1)), .val (.long wa3t_v116), .second, .val (.double wa3t_v202), .second, .val (.double wa3t_v211), .second, .val (.double wa3t_v211), .second]) rfl ?_
    refine own_s_dload Xwa3t3.here hx (hb hby at_223) (pc' := 225) rfl rfl ?_
    refine own_s_dload Xwa3t3.here hx (hb hby at_225) (pc' := 227) rfl rfl ?_
    refine own_s_dcmp Xwa3t3.here hx (hb hby at_227) (pc' := 228) rfl (v := (Op.cmpValue (FP.dcmp wa3t_v202 wa3t_v211) .g)) rfl ?_
    refine own_s_ifNo Xwa3t3.here hx (hb hby at_228) (pc' := 231) rfl wa3t_hb228 ?_
    refine own_s_dload Xwa3t3.here hx (hb hby at_231) (pc' := 233) rfl rfl ?_
    refine own_s_dload Xwa3t3.here hx (hb hby at_233) (pc' := 235) rfl rfl ?_
    refine own_s_dcmp Xwa3t3.here hx (hb hby at_235) (pc' := 236) rfl (v := (Op.cmpValue (FP.dcmp wa3t_v211 wa3t_v211) .g)) rfl ?_
    refine own_s_ifNo Xwa3t3.here hx (hb hby at_236) (pc' := 239) rfl wa3t_hb236 ?_
    refine own_s_iconst Xwa3t3.here hx (hb hby at_239) (pc' := 240) rfl (v := (1 : Int32)) (by decide) ?_
    refine own_s_goto Xwa3t3.here hx (hb hby at_240) (by decide) (pc' := 244) (by decide) ?_
    exact retN Xwa3t3 hx (t := .boolean) Bd.returns (by simp) (hb hby at_244) hr
  · show own_Q0 n0 _ Twa3t3.heap _
    rw [ewa3t3]
    exact ⟨rfl, Nwa3t3⟩
theorem own_ef_wbpt (m : MethodId) (p0 : Int32) (p1 : Int32) (p2 : Int32) : entryFrame m #[(.int p0), (.int p1), (.int p2)] maxLocals = mkF m 0 #[.val (.int p0), .val (.int p1), .val (.int p2), .unset, .unset, .unset, .unset, .unset, .unset, .unset, .unset, .unset, .unset, .unset] [] := by first | (simp [entryFrame, mkF, argsToLocals, Value.category, maxLocals]; done) | rfl
set_option maxRecDepth 65536 in
set_option maxHeartbeats 40000000 in
theorem own_rm_wbpt (l : Launch) (Z : State) (a0 : Array Value) (hw : ∀ d ∈ tables_1, d.before a0 Z = true) (ws : List Jvm.Cond) (p0 : Int32) (p1 : Int32) (p2 : Int32) {wbpt_v2 : Int32} {wbpt_v16 : Int64} {wbpt_v20 : Int64} {wbpt_v21 : Int64} {wbpt_v22 : Int64} {wbpt_v27 : Int32} {wbpt_v60 : Int64} {wbpt_c68_ct_v4 : UInt64} {wbpt_c68_ct_v9 : UInt64} {wbpt_c68_ct_v10 : UInt64} (h0 : Heap) (n0 : Nat) (Z0 : n0 ≤ h0.size)  (wbpt_hv2 : p2 &&& (3 : Int32) = wbpt_v2) (wbpt_hb6 : if_icmp.holds .ne wbpt_v2 (2 : Int32) = false) (wbpt_hv16 : Int32.toInt64 p0 = wbpt_v16) (wbpt_hv20 : wbpt_v16 &&& (4294967295 : Int64) = wbpt_v20) (wbpt_hv21 : (2 : Int64) * wbpt_v20 = wbpt_v21) (wbpt_hv22 : (9007199254740992 : Int64) + wbpt_v21 = wbpt_v22) (wbpt_hv27 : p2 &&& (4 : Int32) = wbpt_v27) (wbpt_hb28 : ifCond.holds .eq wbpt_v27 = true) (wbpt_hv60 : wbpt_v22 + (2 : Int64) = wbpt_v60) (wbpt_c68_ct_hn4 : Jvm.Free.Fl.NoNaN64 (FP.ddiv (FP.l2d wbpt_v22) (4611686018427387904 : UInt64))) (wbpt_c68_ct_hv4 : FP.ddiv (FP.l2d wbpt_v22) (4611686018427387904 : UInt64) = wbpt_c68_ct_v4) (wbpt_c68_ct_hn9 : Jvm.Free.Fl.NoNaN64 (FP.ddiv (FP.l2d wbpt_v60) (4611686018427387904 : UInt64))) (wbpt_c68_ct_hv9 : FP.ddiv (FP.l2d wbpt_v60) (4611686018427387904 : UInt64) = wbpt_c68_ct_v9) (wbpt_c68_ct_hn10 : Jvm.Free.Fl.NoNaN64 (FP.dadd wbpt_c68_ct_v4 wbpt_c68_ct_v9)) (wbpt_c68_ct_hv10 : FP.dadd wbpt_c68_ct_v4 wbpt_c68_ct_v9 = wbpt_c68_ct_v10) (wbpt_c68_ct_hb17 : ifCond.holds .le (Op.cmpValue (FP.dcmp wbpt_c68_ct_v10 (FP.l2d wbpt_v22)) .l) = true) (wbpt_hc77 : Op.cmpValue (FP.dcmp (FP.l2d wbpt_v60) (FP.l2d wbpt_v60)) .l = (0 : Int32)) :
    MetFree l x (head1 (Jvm.Cond.code x code maxLocals ret :: ws) room_1) (fun a U => a = #[(.int p0), (.int p1), (.int p2)] ∧ Z.Warmed39 U.vm ∧ U.heap = h0) (fun _ _ _ _ _ => True) (fun _ U o U' => ∃ v L, o = .returned v ∧ own_Q0 n0 v U'.heap L ∧ FrameEnd U o U' L room_1.cells room_1.slots) := by
  refine MetFree.of_bodySF (plainFor_of_name own_pn_com_example_thicket_thicket_core_CutPartitioningBetweenPinLaw) hisR ?_
  intro p e s m args below meth c s₁ Bd hml0 hP hK
  obtain ⟨rfl, hZ, hh⟩ := hP
  have hx := Bd.exec
  have hby := Bd.bytes
  have hml : c.maxLocals = 14 := hml0
  have hown : s.vm.findClass "com/example/thicket/thicket/core/CutPartitioningBetweenPinLaw" = some m.cls := findClass_of_methodNamed Bd.named
  have hnm := (name_of_methodNamed Bd.named Bd.method).1
  have X0 : Stand p l e room_1 s m #[(.int p0), (.int p1), (.int p2)] below meth c s₁ [] 0 0 := Stand.of_body Bd
  have e0 : s₁.heap = h0 := by rw [← hh, Bd.state]; rfl
  have N0 := Fr.nil n0
  have pre0 : ∀ t, Steps p.tables e below (s₁.setTop (mkF m 0 #[.val (.int p0), .val (.int p1), .val (.int p2), .unset, .unset, .unset, .unset, .unset, .unset, .unset, .unset, .unset, .unset, .unset] [])) t → Steps p.tables e below (s₁.setTop (entryFrame m #[(.int p0), (.int p1), (.int p2)] maxLocals)) t := fun t k => castTop (own_ef_wbpt m p0 p1 p2) k
  obtain ⟨_, _, ⟨Twbpt1, Lwbpt1, kwbpt1, nwbpt1⟩, -, Xwbpt1, ⟨Lcwbpt1, hQwbpt1, lwbpt1, ywbpt1, zwbpt1⟩, stwbpt1⟩ := Jvm.LawKit.callS X0 hx (y := (⟨"com/example/thicket/thicket/core/CutPartitioning", "between", "(DD)D"⟩ : MethodName)) hown (mvT hZ (hw _ (List.mem_of_getElem? (i := 3) rfl))) (mvT hZ (hw _ (List.mem_of_getElem? (i := 4) rfl))) (mvT hZ (hw _ (List.mem_of_getElem? (i := 5) rfl))) (mvT hZ (hw _ (List.mem_of_getElem? (i := 6) rfl))) (by decide) (backOf (W := 0) (own_rm_ct l Z a0 hw [] (FP.l2d wbpt_v22) (FP.l2d wbpt_v60) h0 n0 Z0 wbpt_c68_ct_hn4 wbpt_c68_ct_hv4 wbpt_c68_ct_hn9 wbpt_c68_ct_hv9 wbpt_c68_ct_hn10 wbpt_c68_ct_hv10 wbpt_c68_ct_hb17) hZ (hw _ (List.mem_of_getElem? (i := 6) rfl)) (hw _ (List.mem_of_getElem? (i := 5) rfl)) (by decide) (by decide)) (g := (mkF m 68 #[.val (.int p0), .val (.int p1), .val (.int p2), .val (.int wbpt_v2), .val (.long wbpt_v22), .second, .val (.double (FP.l2d wbpt_v22)), .second, .val (.double (FP.l2d wbpt_v60)), .second, .unset, .unset, .unset, .unset] [(.double (FP.l2d wbpt_v60)), (.double (FP.l2d wbpt_v22))])) rfl (by rw [hml]; rfl) (argsL := [(.double (FP.l2d wbpt_v22)), (.double (FP.l2d wbpt_v60))]) (rest := []) (lenOf own_pd_28DD29D rfl) rfl (by show 2 * 0 + _ ≤ _; exact Nat.le_of_eq rfl) (hb hby at_68) (fun _ _ => ⟨rfl, e0, (by decide : 0 + 0 ≤ _), (by decide : 0 + 0 ≤ _)⟩)
  dsimp only [Pt.U, Pt.locs, Pt.cells, Pt.slots] at Xwbpt1 lwbpt1 ywbpt1 zwbpt1 stwbpt1 hQwbpt1
  subst lwbpt1 ywbpt1 zwbpt1
  obtain ⟨rfl, Nwbpt1q, ewbpt1⟩ := hQwbpt1
  have Nwbpt1 := Fr.app N0 Nwbpt1q
  obtain ⟨fs, hr, hrun, hended, hW, hsame⟩ := Xwbpt1.leave (v := some (.int (1 : Int32))) (fun h => by rw [Bd.returns] at h; cases h)
  refine ⟨_, _, pre0 _ ?_, hrun, hended, _, _, rfl, ?_, ⟨_, rfl⟩, hW, hsame.mono (by decide) (by decide)⟩
  · refine own_s_iloadN X0.here hx (hb hby at_0) (pc' := 1) rfl rfl ?_
    refine own_s_iconst X0.here hx (hb hby at_1) (pc' := 2) rfl (v := (3 : Int32)) (by decide) ?_
    refine own_s_iand X0.here hx (hb hby at_2) (pc' := 3) rfl (v := wbpt_v2) wbpt_hv2 ?_
    refine own_s_istoreN X0.here hx (hb hby at_3) (pc' := 4) rfl (L' := #[.val (.int p0), .val (.int p1), .val (.int p2), .val (.int wbpt_v2), .unset, .unset, .unset, .unset, .unset, .unset, .unset, .unset, .unset, .unset]) rfl ?_
    refine own_s_iloadN X0.here hx (hb hby at_4) (pc' := 5) rfl rfl ?_
    refine own_s_iconst X0.here hx (hb hby at_5) (pc' := 6) rfl (v := (2 : Int32)) (by decide) ?_
    refine own_s_icmpNo X0.here hx (hb hby at_6) (pc' := 9) rfl wbpt_hb6 ?_
    refine X0.ldc2Long hx hown (mvT hZ (hw _ (List.mem_of_getElem? (i := 0) rfl))) (g := (mkF m 9 #[.val (.int p0), .val (.int p1), .val (.int p2), .val (.int wbpt_v2), .unset, .unset, .unset, .unset, .unset, .unset, .unset, .unset, .unset, .unset] [])) rfl (hb hby at_9) _ ?_
    show Steps p.tables e below (s₁.setTop (mkF m 12 #[.val (.int p0), .val (.int p1), .val (.int p2), .val (.int wbpt_v2), .unset, .unset, .unset, .unset, .unset, .unset, .unset, .unset, .unset, .unset] [(.long (9007199254740992 : Int64))])) _
    refine X0.ldc2Long hx hown (mvT hZ (hw _ (List.mem_of_getElem? (i := 1) rfl))) (g := (mkF m 12 #[.val (.int p0), .val (.int p1), .val (.int p2), .val (.int wbpt_v2), .unset, .unset, .unset, .unset, .unset, .unset, .unset, .unset, .unset, .unset] [(.long (9007199254740992 : Int64))])) rfl (hb hby at_12) _ ?_
    show Steps p.tables e below (s₁.setTop (mkF m 15 #[.val (.int p0), .val (.int p1), .val (.int p2), .val (.int wbpt_v2), .unset, .unset, .unset, .unset, .unset, .unset, .unset, .unset, .unset, .unset] [(.long (2 : Int64)), (.long (9007199254740992 : Int64))])) _
    refine own_s_iloadN X0.here hx (hb hby at_15) (pc' := 16) rfl rfl ?_
    refine own_s_i2l X0.here hx (hb hby at_16) (pc' := 17) rfl (v := wbpt_v16) wbpt_hv16 ?_
    refine X0.ldc2Long hx hown (mvT hZ (hw _ (List.mem_of_getElem? (i := 2) rfl))) (g := (mkF m 17 #[.val (.int p0), .val (.int p1), .val (.int p2), .val (.int wbpt_v2), .unset, .unset, .unset, .unset, .unset, .unset, .unset, .unset, .unset, .unset] [(.long wbpt_v16), (.long (2 : Int64)), (.long (9007199254740992 : Int64))])) rfl (hb hby at_17) _ ?_
    show Steps p.tables e below (s₁.setTop (mkF m 20 #[.val (.int p0), .val (.int p1), .val (.int p2), .val (.int wbpt_v2), .unset, .unset, .unset, .unset, .unset, .unset, .unset, .unset, .unset, .unset] [(.long (4294967295 : Int64)), (.long wbpt_v16), (.long (2 : Int64)), (.long (9007199254740992 : Int64))])) _
    refine own_s_land X0.here hx (hb hby at_20) (pc' := 21) rfl (v := wbpt_v20) wbpt_hv20 ?_
    refine own_s_lmul X0.here hx (hb hby at_21) (pc' := 22) rfl (v := wbpt_v21) wbpt_hv21 ?_
    refine own_s_ladd X0.here hx (hb hby at_22) (pc' := 23) rfl (v := wbpt_v22) wbpt_hv22 ?_
    refine own_s_lstore X0.here hx (hb hby at_23) (pc' := 25) rfl (L' := #[.val (.int p0), .val (.int p1), .val (.int p2), .val (.int wbpt_v2), .val (.long wbpt_v22), .second, .unset, .unset, .unset, .unset, .unset, .unset, .unset, .unset]) rfl ?_
    refine own_s_iloadN X0.here hx (hb hby at_25) (pc' := 26) rfl rfl ?_
    refine own_s_iconst X0.here hx (hb hby at_26) (pc' := 27) rfl (v := (4 : Int32)) (by decide) ?_
    refine own_s_iand X0.here hx (hb hby at_27) (pc' := 28) rfl (v := wbpt_v27) wbpt_hv27 ?_
    refine own_s_ifYes X0.here hx (hb hby at_28) (by decide) (pc' := 50) (by decide) wbpt_hb28 ?_
    refine own_s_lload X0.here hx (hb hby at_50) (pc' := 52) rfl rfl ?_
    refine own_s_l2d X0.here hx (hb hby at_52) (pc' := 53) rfl (v := (FP.l2d wbpt_v22)) rfl ?_
    refine own_s_dstore X0.here hx (hb hby at_53) (pc' := 55) rfl (L' := #[.val (.int p0), .val (.int p1), .val (.int p2), .val (.int wbpt_v2), .val (.long wbpt_v22), .second, .val (.double (FP.l2d wbpt_v22)), .second, .unset, .unset, .unset, .unset, .unset, .unset]) rfl ?_
    refine own_s_lload X0.here hx (hb hby at_55) (pc' := 57) rfl rfl ?_
    refine X0.ldc2Long hx hown (mvT hZ (hw _ (List.mem_of_getElem? (i := 1) rfl))) (g := (mkF m 57 #[.val (.int p0), .val (.int p1), .val (.int p2), .val (.int wbpt_v2), .val (.long wbpt_v22), .second, .val (.double (FP.l2d wbpt_v22)), .second, .unset, .unset, .unset, .unset, .unset, .unset] [(.long wbpt_v22)])) rfl (hb hby at_57) _ ?_
    show Steps p.tables e below (s₁.setTop (mkF m 60 #[.val (.int p0), .val (.int p1), .val (.int p2), .val (.int wbpt_v2), .val (.long wbpt_v22), .second, .val (.double (FP.l2d wbpt_v22)), .second, .unset, .unset, .unset, .unset, .unset, .unset] [(.long (2 : Int64)), (.long wbpt_v22)])) _
    refine own_s_ladd X0.here hx (hb hby at_60) (pc' := 61) rfl (v := wbpt_v60) wbpt_hv60 ?_
    refine own_s_l2d X0.here hx (hb hby at_61) (pc' := 62) rfl (v := (FP.l2d wbpt_v60)) rfl ?_
    refine own_s_dstore X0.here hx (hb hby at_62) (pc' := 64) rfl (L' := #[.val (.int p0), .val (.int p1), .val (.int p2), .val (.int wbpt_v2), .val (.long wbpt_v22), .second, .val (.double (FP.l2d wbpt_v22)), .second, .val (.double (FP.l2d wbpt_v60)), .second, .unset, .unset, .unset, .unset]) rfl ?_
    refine own_s_dload X0.here hx (hb hby at_64) (pc' := 66) rfl rfl ?_
    refine own_s_dload X0.here hx (hb hby at_66) (pc' := 68) rfl rfl ?_
    refine stwbpt1 _ ?_
    show Steps p.tables e below (Twbpt1.setTop (mkF m 71 #[.val (.int p0), .val (.int p1), .val (.int p2), .val (.int wbpt_v2), .val (.long wbpt_v22), .second, .val (.double (FP.l2d wbpt_v22)), .second, .val (.double (FP.l2d wbpt_v60)), .second, .unset, .unset, .unset, .unset] [(.double (FP.l2d wbpt_v60))])) _
    refine own_s_dstore Xwbpt1.here hx (hb hby at_71) (pc' := 73) rfl (L' := #[.val (.int p0), .val (.int p1), .val (.int p2), .val (.int wbpt_v2), .val (.long wbpt_v22), .second, .val (.double (FP.l2d wbpt_v22)), .second, .val (.double (FP.l2d wbpt_v60)), .second, .val (.double (FP.l2d wbpt_v60)), .second, .unset, .unset]) rfl ?_
    refine own_s_dload Xwbpt1.here hx (hb hby at_73) (pc' := 75) rfl rfl ?_
    refine own_s_dload Xwbpt1.here hx (hb hby at_75) (pc' := 77) rfl rfl ?_
    refine own_s_dcmp Xwbpt1.here hx (hb hby at_77) (pc' := 78) rfl (v := (0 : Int32)) wbpt_hc77 ?_
    refine own_s_ifNo Xwbpt1.here hx (hb hby at_78) (pc' := 81) rfl (by decide) ?_
    refine own_s_iconst Xwbpt1.here hx (hb hby at_81) (pc' := 82) rfl (v := (1 : Int32)) (by decide) ?_
    refine own_s_goto Xwbpt1.here hx (hb hby at_82) (by decide) (pc' := 86) (by decide) ?_
    exact retN Xwbpt1 hx (t := .boolean) Bd.returns (by simp) (hb hby at_86) hr
  · show own_Q0 n0 _ Twbpt1.heap _
    rw [ewbpt1]
    exact ⟨rfl, Nwbpt1⟩
theorem own_ef_wbnt (m : MethodId) (p0 : Int32) (p1 : Int32) (p2 : Int32) : entryFrame m #[(.int p0), (.int p1), (.int p2)] maxLocals = mkF m 0 #[.val (.int p0), .val (.int p1), .val (.int p2), .unset, .unset, .unset, .unset, .unset, .unset, .unset, .unset, .unset, .unset, .unset] [] := by first | (simp [entryFrame, mkF, argsToLocals, Value.category, maxLocals]; done) | rfl
set_option maxRecDepth 65536 in
set_option maxHeartbeats 40000000 in
theorem own_rm_wbnt (l : Launch) (Z : State) (a0 : Array Value) (hw : ∀ d ∈ tables_1, d.before a0 Z = true) (ws : List Jvm.Cond) (p0 : Int32) (p1 : Int32) (p2 : Int32) {wbnt_v2 : Int32} {wbnt_v16 : Int64} {wbnt_v20 : Int64} {wbnt_v21 : Int64} {wbnt_v22 : Int64} {wbnt_v27 : Int32} {wbnt_v36 : Int64} {wbnt_c68_ct_v4 : UInt64} {wbnt_c68_ct_v9 : UInt64} {wbnt_c68_ct_v10 : UInt64} (h0 : Heap) (n0 : Nat) (Z0 : n0 ≤ h0.size)  (wbnt_hv2 : p2 &&& (3 : Int32) = wbnt_v2) (wbnt_hb6 : if_icmp.holds .ne wbnt_v2 (2 : Int32) = false) (wbnt_hv16 : Int32.toInt64 p0 = wbnt_v16) (wbnt_hv20 : wbnt_v16 &&& (4294967295 : Int64) = wbnt_v20) (wbnt_hv21 : (2 : Int64) * wbnt_v20 = wbnt_v21) (wbnt_hv22 : (9007199254740992 : Int64) + wbnt_v21 = wbnt_v22) (wbnt_hv27 : p2 &&& (4 : Int32) = wbnt_v27) (wbnt_hb28 : ifCond.holds .eq wbnt_v27 = false) (wbnt_hv36 : wbnt_v22 + (2 : Int64) = wbnt_v36) (wbnt_c68_ct_hn4 : Jvm.Free.Fl.NoNaN64 (FP.ddiv (FP.dneg (FP.l2d wbnt_v36)) (4611686018427387904 : UInt64))) (wbnt_c68_ct_hv4 : FP.ddiv (FP.dneg (FP.l2d wbnt_v36)) (4611686018427387904 : UInt64) = wbnt_c68_ct_v4) (wbnt_c68_ct_hn9 : Jvm.Free.Fl.NoNaN64 (FP.ddiv (FP.dneg (FP.l2d wbnt_v22)) (4611686018427387904 : UInt64))) (wbnt_c68_ct_hv9 : FP.ddiv (FP.dneg (FP.l2d wbnt_v22)) (4611686018427387904 : UInt64) = wbnt_c68_ct_v9) (wbnt_c68_ct_hn10 : Jvm.Free.Fl.NoNaN64 (FP.dadd wbnt_c68_ct_v4 wbnt_c68_ct_v9)) (wbnt_c68_ct_hv10 : FP.dadd wbnt_c68_ct_v4 wbnt_c68_ct_v9 = wbnt_c68_ct_v10) (wbnt_c68_ct_hb17 : ifCond.holds .le (Op.cmpValue (FP.dcmp wbnt_c68_ct_v10 (FP.dneg (FP.l2d wbnt_v36))) .l) = true) (wbnt_hc77 : Op.cmpValue (FP.dcmp (FP.dneg (FP.l2d wbnt_v22)) (FP.dneg (FP.l2d wbnt_v22))) .l = (0 : Int32)) :
    MetFree l x (head1 (Jvm.Cond.code x code maxLocals ret :: ws) room_1) (fun a U => a = #[(.int p0), (.int p1), (.int p2)] ∧ Z.Warmed39 U.vm ∧ U.heap = h0) (fun _ _ _ _ _ => True) (fun _ U o U' => ∃ v L, o = .returned v ∧ own_Q0 n0 v U'.heap L ∧ FrameEnd U o U' L room_1.cells room_1.slots) := by
  refine MetFree.of_bodySF (plainFor_of_name own_pn_com_example_thicket_thicket_core_CutPartitioningBetweenPinLaw) hisR ?_
  intro p e s m args below meth c s₁ Bd hml0 hP hK
  obtain ⟨rfl, hZ, hh⟩ := hP
  have hx := Bd.exec
  have hby := Bd.bytes
  have hml : c.maxLocals = 14 := hml0
  have hown : s.vm.findClass "com/example/thicket/thicket/core/CutPartitioningBetweenPinLaw" = some m.cls := findClass_of_methodNamed Bd.named
  have hnm := (name_of_methodNamed Bd.named Bd.method).1
  have X0 : Stand p l e room_1 s m #[(.int p0), (.int p1), (.int p2)] below meth c s₁ [] 0 0 := Stand.of_body Bd
  have e0 : s₁.heap = h0 := by rw [← hh, Bd.state]; rfl
  have N0 := Fr.nil n0
  have pre0 : ∀ t, Steps p.tables e below (s₁.setTop (mkF m 0 #[.val (.int p0), .val (.int p1), .val (.int p2), .unset, .unset, .unset, .unset, .unset, .unset, .unset, .unset, .unset, .unset, .unset] [])) t → Steps p.tables e below (s₁.setTop (entryFrame m #[(.int p0), (.int p1), (.int p2)] maxLocals)) t := fun t k => castTop (own_ef_wbnt m p0 p1 p2) k
  obtain ⟨_, _, ⟨Twbnt1, Lwbnt1, kwbnt1, nwbnt1⟩, -, Xwbnt1, ⟨Lcwbnt1, hQwbnt1, lwbnt1, ywbnt1, zwbnt1⟩, stwbnt1⟩ := Jvm.LawKit.callS X0 hx (y := (⟨"com/example/thicket/thicket/core/CutPartitioning", "between", "(DD)D"⟩ : MethodName)) hown (mvT hZ (hw _ (List.mem_of_getElem? (i := 3) rfl))) (mvT hZ (hw _ (List.mem_of_getElem? (i := 4) rfl))) (mvT hZ (hw _ (List.mem_of_getElem? (i := 5) rfl))) (mvT hZ (hw _ (List.mem_of_getElem? (i := 6) rfl))) (by decide) (backOf (W := 0) (own_rm_ct l Z a0 hw [] (FP.dneg (FP.l2d wbnt_v36)) (FP.dneg (FP.l2d wbnt_v22)) h0 n0 Z0 wbnt_c68_ct_hn4 wbnt_c68_ct_hv4 wbnt_c68_ct_hn9 wbnt_c68_ct_hv9 wbnt_c68_ct_hn10 wbnt_c68_ct_hv10 wbnt_c68_ct_hb17) hZ (hw _ (List.mem_of_getElem? (i := 6) rfl)) (hw _ (List.mem_of_getElem? (i := 5) rfl)) (by decide) (by decide)) (g := (mkF m 68 #[.val (.int p0), .val (.int p1), .val (.int p2), .val (.int wbnt_v2), .val (.long wbnt_v22), .second, .val (.double (FP.dneg (FP.l2d wbnt_v36))), .second, .val (.double (FP.dneg (FP.l2d wbnt_v22))), .second, .unset, .unset, .unset, .unset] [(.double (FP.dneg (FP.l2d wbnt_v22))), (.double (FP.dneg (FP.l2d wbnt_v36)))])) rfl (by rw [hml]; rfl) (argsL := [(.double (FP.dneg (FP.l2d wbnt_v36))), (.double (FP.dneg (FP.l2d wbnt_v22)))]) (rest := []) (lenOf own_pd_28DD29D rfl) rfl (by show 2 * 0 + _ ≤ _; exact Nat.le_of_eq rfl) (hb hby at_68) (fun _ _ => ⟨rfl, e0, (by decide : 0 + 0 ≤ _), (by decide : 0 + 0 ≤ _)⟩)
  dsimp only [Pt.U, Pt.locs, Pt.cells, Pt.slots] at Xwbnt1 lwbnt1 ywbnt1 zwbnt1 stwbnt1 hQwbnt1
  subst lwbnt1 ywbnt1 zwbnt1
  obtain ⟨rfl, Nwbnt1q, ewbnt1⟩ := hQwbnt1
  have Nwbnt1 := Fr.app N0 Nwbnt1q
  obtain ⟨fs, hr, hrun, hended, hW, hsame⟩ := Xwbnt1.leave (v := some (.int (1 : Int32))) (fun h => by rw [Bd.returns] at h; cases h)
  refine ⟨_, _, pre0 _ ?_, hrun, hended, _, _, rfl, ?_, ⟨_, rfl⟩, hW, hsame.mono (by decide) (by decide)⟩
  · refine own_s_iloadN X0.here hx (hb hby at_0) (pc' := 1) rfl rfl ?_
    refine own_s_iconst X0.here hx (hb hby at_1) (pc' := 2) rfl (v := (3 : Int32)) (by decide) ?_
    refine own_s_iand X0.here hx (hb hby at_2) (pc' := 3) rfl (v := wbnt_v2) wbnt_hv2 ?_
    refine own_s_istoreN X0.here hx (hb hby at_3) (pc' := 4) rfl (L' := #[.val (.int p0), .val (.int p1), .val (.int p2), .val (.int wbnt_v2), .unset, .unset, .unset, .unset, .unset, .unset, .unset, .unset, .unset, .unset]) rfl ?_
    refine own_s_iloadN X0.here hx (hb hby at_4) (pc' := 5) rfl rfl ?_
    refine own_s_iconst X0.here hx (hb hby at_5) (pc' := 6) rfl (v := (2 : Int32)) (by decide) ?_
    refine own_s_icmpNo X0.here hx (hb hby at_6) (pc' := 9) rfl wbnt_hb6 ?_
    refine X0.ldc2Long hx hown (mvT hZ (hw _ (List.mem_of_getElem? (i := 0) rfl))) (g := (mkF m 9 #[.val (.int p0), .val (.int p1), .val (.int p2), .val (.int wbnt_v2), .unset, .unset, .unset, .unset, .unset, .unset, .unset, .unset, .unset, .unset] [])) rfl (hb hby at_9) _ ?_
    show Steps p.tables e below (s₁.setTop (mkF m 12 #[.val (.int p0), .val (.int p1), .val (.int p2), .val (.int wbnt_v2), .unset, .unset, .unset, .unset, .unset, .unset, .unset, .unset, .unset, .unset] [(.long (9007199254740992 : Int64))])) _
    refine X0.ldc2Long hx hown (mvT hZ (hw _ (List.mem_of_getElem? (i := 1) rfl))) (g := (mkF m 12 #[.val (.int p0), .val (.int p1), .val (.int p2), .val (.int wbnt_v2), .unset, .unset, .unset, .unset, .unset, .unset, .unset, .unset, .unset, .unset] [(.long (9007199254740992 : Int64))])) rfl (hb hby at_12) _ ?_
    show Steps p.tables e below (s₁.setTop (mkF m 15 #[.val (.int p0), .val (.int p1), .val (.int p2), .val (.int wbnt_v2), .unset, .unset, .unset, .unset, .unset, .unset, .unset, .unset, .unset, .unset] [(.long (2 : Int64)), (.long (9007199254740992 : Int64))])) _
    refine own_s_iloadN X0.here hx (hb hby at_15) (pc' := 16) rfl rfl ?_
    refine own_s_i2l X0.here hx (hb hby at_16) (pc' := 17) rfl (v := wbnt_v16) wbnt_hv16 ?_
    refine X0.ldc2Long hx hown (mvT hZ (hw _ (List.mem_of_getElem? (i := 2) rfl))) (g := (mkF m 17 #[.val (.int p0), .val (.int p1), .val (.int p2), .val (.int wbnt_v2), .unset, .unset, .unset, .unset, .unset, .unset, .unset, .unset, .unset, .unset] [(.long wbnt_v16), (.long (2 : Int64)), (.long (9007199254740992 : Int64))])) rfl (hb hby at_17) _ ?_
    show Steps p.tables e below (s₁.setTop (mkF m 20 #[.val (.int p0), .val (.int p1), .val (.int p2), .val (.int wbnt_v2), .unset, .unset, .unset, .unset, .unset, .unset, .unset, .unset, .unset, .unset] [(.long (4294967295 : Int64)), (.long wbnt_v16), (.long (2 : Int64)), (.long (9007199254740992 : Int64))])) _
    refine own_s_land X0.here hx (hb hby at_20) (pc' := 21) rfl (v := wbnt_v20) wbnt_hv20 ?_
    refine own_s_lmul X0.here hx (hb hby at_21) (pc' := 22) rfl (v := wbnt_v21) wbnt_hv21 ?_
    refine own_s_ladd X0.here hx (hb hby at_22) (pc' := 23) rfl (v := wbnt_v22) wbnt_hv22 ?_
    refine own_s_lstore X0.here hx (hb hby at_23) (pc' := 25) rfl (L' := #[.val (.int p0), .val (.int p1), .val (.int p2), .val (.int wbnt_v2), .val (.long wbnt_v22), .second, .unset, .unset, .unset, .unset, .unset, .unset, .unset, .unset]) rfl ?_
    refine own_s_iloadN X0.here hx (hb hby at_25) (pc' := 26) rfl rfl ?_
    refine own_s_iconst X0.here hx (hb hby at_26) (pc' := 27) rfl (v := (4 : Int32)) (by decide) ?_
    refine own_s_iand X0.here hx (hb hby at_27) (pc' := 28) rfl (v := wbnt_v27) wbnt_hv27 ?_
    refine own_s_ifNo X0.here hx (hb hby at_28) (pc' := 31) rfl wbnt_hb28 ?_
    refine own_s_lload X0.here hx (hb hby at_31) (pc' := 33) rfl rfl ?_
    refine X0.ldc2Long hx hown (mvT hZ (hw _ (List.mem_of_getElem? (i := 1) rfl))) (g := (mkF m 33 #[.val (.int p0), .val (.int p1), .val (.int p2), .val (.int wbnt_v2), .val (.long wbnt_v22), .second, .unset, .unset, .unset, .unset, .unset, .unset, .unset, .unset] [(.long wbnt_v22)])) rfl (hb hby at_33) _ ?_
    show Steps p.tables e below (s₁.setTop (mkF m 36 #[.val (.int p0), .val (.int p1), .val (.int p2), .val (.int wbnt_v2), .val (.long wbnt_v22), .second, .unset, .unset, .unset, .unset, .unset, .unset, .unset, .unset] [(.long (2 : Int64)), (.long wbnt_v22)])) _
    refine own_s_ladd X0.here hx (hb hby at_36) (pc' := 37) rfl (v := wbnt_v36) wbnt_hv36 ?_
    refine own_s_l2d X0.here hx (hb hby at_37) (pc' := 38) rfl (v := (FP.l2d wbnt_v36)) rfl ?_
    refine own_s_dneg X0.here hx (hb hby at_38) (pc' := 39) rfl (v := (FP.dneg (FP.l2d wbnt_v36))) rfl ?_
    refine own_s_dstore X0.here hx (hb hby at_39) (pc' := 41) rfl (L' := #[.val (.int p0), .val (.int p1), .val (.int p2), .val (.int wbnt_v2), .val (.long wbnt_v22), .second, .val (.double (FP.dneg (FP.l2d wbnt_v36))), .second, .unset, .unset, .unset, .unset, .unset, .unset]) rfl ?_
    refine own_s_lload X0.here hx (hb hby at_41) (pc' := 43) rfl rfl ?_
    refine own_s_l2d X0.here hx (hb hby at_43) (pc' := 44) rfl (v := (FP.l2d wbnt_v22)) rfl ?_
    refine own_s_dneg X0.here hx (hb hby at_44) (pc' := 45) rfl (v := (FP.dneg (FP.l2d wbnt_v22))) rfl ?_
    refine own_s_dstore X0.here hx (hb hby at_45) (pc' := 47) rfl (L' := #[.val (.int p0), .val (.int p1), .val (.int p2), .val (.int wbnt_v2), .val (.long wbnt_v22), .second, .val (.double (FP.dneg (FP.l2d wbnt_v36))), .second, .val (.double (FP.dneg (FP.l2d wbnt_v22))), .second, .unset, .unset, .unset, .unset]) rfl ?_
    refine own_s_goto X0.here hx (hb hby at_47) (by decide) (pc' := 64) (by decide) ?_
    refine own_s_dload X0.here hx (hb hby at_64) (pc' := 66) rfl rfl ?_
    refine own_s_dload X0.here hx (hb hby at_66) (pc' := 68) rfl rfl ?_
    refine stwbnt1 _ ?_
    show Steps p.tables e below (Twbnt1.setTop (mkF m 71 #[.val (.int p0), .val (.int p1), .val (.int p2), .val (.int wbnt_v2), .val (.long wbnt_v22), .second, .val (.double (FP.dneg (FP.l2d wbnt_v36))), .second, .val (.double (FP.dneg (FP.l2d wbnt_v22))), .second, .unset, .unset, .unset, .unset] [(.double (FP.dneg (FP.l2d wbnt_v22)))])) _
    refine own_s_dstore Xwbnt1.here hx (hb hby at_71) (pc' := 73) rfl (L' := #[.val (.int p0), .val (.int p1), .val (.int p2), .val (.int wbnt_v2), .val (.long wbnt_v22), .second, .val (.double (FP.dneg (FP.l2d wbnt_v36))), .second, .val (.double (FP.dneg (FP.l2d wbnt_v22))), .second, .val (.double (FP.dneg (FP.l2d wbnt_v22))), .second, .unset, .unset]) rfl ?_
    refine own_s_dload Xwbnt1.here hx (hb hby at_73) (pc' := 75) rfl rfl ?_
    refine own_s_dload Xwbnt1.here hx (hb hby at_75) (pc' := 77) rfl rfl ?_
    refine own_s_dcmp Xwbnt1.here hx (hb hby at_77) (pc' := 78) rfl (v := (0 : Int32)) wbnt_hc77 ?_
    refine own_s_ifNo Xwbnt1.here hx (hb hby at_78) (pc' := 81) rfl (by decide) ?_
    refine own_s_iconst Xwbnt1.here hx (hb hby at_81) (pc' := 82) rfl (v := (1 : Int32)) (by decide) ?_
    refine own_s_goto Xwbnt1.here hx (hb hby at_82) (by decide) (pc' := 86) (by decide) ?_
    exact retN Xwbnt1 hx (t := .boolean) Bd.returns (by simp) (hb hby at_86) hr
  · show own_Q0 n0 _ Twbnt1.heap _
    rw [ewbnt1]
    exact ⟨rfl, Nwbnt1⟩
theorem own_ef_wa3ft (m : MethodId) (p0 : Int32) (p1 : Int32) (p2 : Int32) : entryFrame m #[(.int p0), (.int p1), (.int p2)] maxLocals = mkF m 0 #[.val (.int p0), .val (.int p1), .val (.int p2), .unset, .unset, .unset, .unset, .unset, .unset, .unset, .unset, .unset, .unset, .unset] [] := by first | (simp [entryFrame, mkF, argsToLocals, Value.category, maxLocals]; done) | rfl
set_option maxRecDepth 65536 in
set_option maxHeartbeats 40000000 in
theorem own_rm_wa3ft (l : Launch) (Z : State) (a0 : Array Value) (hw : ∀ d ∈ tables_1, d.before a0 Z = true) (ws : List Jvm.Cond) (p0 : Int32) (p1 : Int32) (p2 : Int32) {wa3ft_v2 : Int32} {wa3ft_v112 : Int64} {wa3ft_v115 : Int64} {wa3ft_v116 : Int64} {wa3ft_v202 : UInt64} {wa3ft_v211 : UInt64} {wa3ft_c218_cft_v4 : UInt64} {wa3ft_c218_cft_v9 : UInt64} {wa3ft_c218_cft_v10 : UInt64} (h0 : Heap) (n0 : Nat) (Z0 : n0 ≤ h0.size)  (wa3ft_hv2 : p2 &&& (3 : Int32) = wa3ft_v2) (wa3ft_hb6 : if_icmp.holds .ne wa3ft_v2 (2 : Int32) = true) (wa3ft_hb105 : if_icmp.holds .ne (own_imin p0 p1) (own_imax p0 p1) = true) (wa3ft_hv112 : Int32.toInt64 (own_imin p0 p1) = wa3ft_v112) (wa3ft_hv115 : Int32.toInt64 (own_imax p0 p1) = wa3ft_v115) (wa3ft_hv116 : wa3ft_v112 + wa3ft_v115 = wa3ft_v116) (wa3ft_hb120 : ifCond.holds .ne wa3ft_v2 = true) (wa3ft_hb155 : if_icmp.holds .ne wa3ft_v2 (1 : Int32) = true) (wa3ft_hn202 : Jvm.Free.Fl.NoNaN64 (FP.dmul (FP.i2d (own_imin p0 p1)) (1 : UInt64))) (wa3ft_hv202 : FP.dmul (FP.i2d (own_imin p0 p1)) (1 : UInt64) = wa3ft_v202) (wa3ft_hn211 : Jvm.Free.Fl.NoNaN64 (FP.dmul (FP.i2d (own_imax p0 p1)) (1 : UInt64))) (wa3ft_hv211 : FP.dmul (FP.i2d (own_imax p0 p1)) (1 : UInt64) = wa3ft_v211) (wa3ft_c218_cft_hn4 : Jvm.Free.Fl.NoNaN64 (FP.ddiv wa3ft_v202 (4611686018427387904 : UInt64))) (wa3ft_c218_cft_hv4 : FP.ddiv wa3ft_v202 (4611686018427387904 : UInt64) = wa3ft_c218_cft_v4) (wa3ft_c218_cft_hn9 : Jvm.Free.Fl.NoNaN64 (FP.ddiv wa3ft_v211 (4611686018427387904 : UInt64))) (wa3ft_c218_cft_hv9 : FP.ddiv wa3ft_v211 (4611686018427387904 : UInt64) = wa3ft_c218_cft_v9) (wa3ft_c218_cft_hn10 : Jvm.Free.Fl.NoNaN64 (FP.dadd wa3ft_c218_cft_v4 wa3ft_c218_cft_v9)) (wa3ft_c218_cft_hv10 : FP.dadd wa3ft_c218_cft_v4 wa3ft_c218_cft_v9 = wa3ft_c218_cft_v10) (wa3ft_c218_cft_hb17 : ifCond.holds .le (Op.cmpValue (FP.dcmp wa3ft_c218_cft_v10 wa3ft_v202) .l) = false) (wa3ft_c218_cft_hb24 : ifCond.holds .gt (Op.cmpValue (FP.dcmp wa3ft_c218_cft_v10 wa3ft_v211) .g) = true) (wa3ft_hb228 : ifCond.holds .ge (Op.cmpValue (FP.dcmp wa3ft_v202 wa3ft_v211) .g) = false) (wa3ft_hb236 : ifCond.holds .gt (Op.cmpValue (FP.dcmp wa3ft_v211 wa3ft_v211) .g) = false) :
    MetFree l x (head1 (Jvm.Cond.code x code maxLocals ret :: ws) room_1) (fun a U => a = #[(.int p0), (.int p1), (.int p2)] ∧ Z.Warmed39 U.vm ∧ U.heap = h0) (fun _ _ _ _ _ => True) (fun _ U o U' => ∃ v L, o = .returned v ∧ own_Q0 n0 v U'.heap L ∧ FrameEnd U o U' L room_1.cells room_1.slots) := by
  refine MetFree.of_bodySF (plainFor_of_name own_pn_com_example_thicket_thicket_core_CutPartitioningBetweenPinLaw) hisR ?_
  intro p e s m args below meth c s₁ Bd hml0 hP hK
  obtain ⟨rfl, hZ, hh⟩ := hP
  have hx := Bd.exec
  have hby := Bd.bytes
  have hml : c.maxLocals = 14 := hml0
  have hown : s.vm.findClass "com/example/thicket/thicket/core/CutPartitioningBetweenPinLaw" = some m.cls := findClass_of_methodNamed Bd.named
  have hnm := (name_of_methodNamed Bd.named Bd.method).1
  have X0 : Stand p l e room_1 s m #[(.int p0), (.int p1), (.int p2)] below meth c s₁ [] 0 0 := Stand.of_body Bd
  have e0 : s₁.heap = h0 := by rw [← hh, Bd.state]; rfl
  have N0 := Fr.nil n0
  have pre0 : ∀ t, Steps p.tables e below (s₁.setTop (mkF m 0 #[.val (.int p0), .val (.int p1), .val (.int p2), .unset, .unset, .unset, .unset, .unset, .unset, .unset, .unset, .unset, .unset, .unset] [])) t → Steps p.tables e below (s₁.setTop (entryFrame m #[(.int p0), (.int p1), (.int p2)] maxLocals)) t := fun t k => castTop (own_ef_wa3ft m p0 p1 p2) k
  obtain ⟨_, _, ⟨Twa3ft1, Lwa3ft1, kwa3ft1, nwa3ft1⟩, -, Xwa3ft1, ⟨Lcwa3ft1, hQwa3ft1, lwa3ft1, ywa3ft1, zwa3ft1⟩, stwa3ft1⟩ := Jvm.LawKit.callS X0 hx (y := (⟨"java/lang/Math", "min", "(II)I"⟩ : MethodName)) hown (mvT hZ (hw _ (List.mem_of_getElem? (i := 8) rfl))) (mvT hZ (hw _ (List.mem_of_getElem? (i := 9) rfl))) (mvT hZ (hw _ (List.mem_of_getElem? (i := 10) rfl))) (mvT hZ (hw _ (List.mem_of_getElem? (i := 11) rfl))) (by decide) (backOf (W := 0) (own_rm_mi l Z a0 hw [] p0 p1 h0 n0 Z0 ) hZ (hw _ (List.mem_of_getElem? (i := 11) rfl)) (hw _ (List.mem_of_getElem? (i := 10) rfl)) (by decide) (by decide)) (g := (mkF m 89 #[.val (.int p0), .val (.int p1), .val (.int p2), .val (.int wa3ft_v2), .unset, .unset, .unset, .unset, .unset, .unset, .unset, .unset, .unset, .unset] [(.int p1), (.int p0)])) rfl (by rw [hml]; rfl) (argsL := [(.int p0), (.int p1)]) (rest := []) (lenOf own_pd_28II29I rfl) rfl (by show 2 * 0 + _ ≤ _; exact Nat.le_of_eq rfl) (hb hby at_89) (fun _ _ => ⟨rfl, e0, (by decide : 0 + 0 ≤ _), (by decide : 0 + 0 ≤ _)⟩)
  dsimp only [Pt.U, Pt.locs, Pt.cells, Pt.slots] at Xwa3ft1 lwa3ft1 ywa3ft1 zwa3ft1 stwa3ft1 hQwa3ft1
  subst lwa3ft1 ywa3ft1 zwa3ft1
  obtain ⟨rfl, Nwa3ft1q, ewa3ft1⟩ := hQwa3ft1
  have Nwa3ft1 := Fr.app N0 Nwa3ft1q
  obtain ⟨_, _, ⟨Twa3ft2, Lwa3ft2, kwa3ft2, nwa3ft2⟩, -, Xwa3ft2, ⟨Lcwa3ft2, hQwa3ft2, lwa3ft2, ywa3ft2, zwa3ft2⟩, stwa3ft2⟩ := Jvm.LawKit.callS Xwa3ft1 hx (y := (⟨"java/lang/Math", "max", "(II)I"⟩ : MethodName)) hown (mvT hZ (hw _ (List.mem_of_getElem? (i := 12) rfl))) (mvT hZ (hw _ (List.mem_of_getElem? (i := 13) rfl))) (mvT hZ (hw _ (List.mem_of_getElem? (i := 10) rfl))) (mvT hZ (hw _ (List.mem_of_getElem? (i := 14) rfl))) (by decide) (backOf (W := 0) (own_rm_ma l Z a0 hw [] p0 p1 h0 n0 Z0 ) hZ (hw _ (List.mem_of_getElem? (i := 14) rfl)) (hw _ (List.mem_of_getElem? (i := 10) rfl)) (by decide) (by decide)) (g := (mkF m 96 #[.val (.int p0), .val (.int p1), .val (.int p2), .val (.int wa3ft_v2), .val (.int (own_imin p0 p1)), .unset, .unset, .unset, .unset, .unset, .unset, .unset, .unset, .unset] [(.int p1), (.int p0)])) rfl (by rw [hml]; rfl) (argsL := [(.int p0), (.int p1)]) (rest := []) (lenOf own_pd_28II29I rfl) rfl (by show 2 * 0 + _ ≤ _; exact Nat.le_of_eq rfl) (hb hby at_96) (fun _ _ => ⟨rfl, ewa3ft1, (by decide : 0 + 0 ≤ _), (by decide : 0 + 0 ≤ _)⟩)
  dsimp only [Pt.U, Pt.locs, Pt.cells, Pt.slots] at Xwa3ft2 lwa3ft2 ywa3ft2 zwa3ft2 stwa3ft2 hQwa3ft2
  subst lwa3ft2 ywa3ft2 zwa3ft2
  obtain ⟨rfl, Nwa3ft2q, ewa3ft2⟩ := hQwa3ft2
  have Nwa3ft2 := Fr.app Nwa3ft1 Nwa3ft2q
  obtain ⟨_, _, ⟨Twa3ft3, Lwa3ft3, kwa3ft3, nwa3ft3⟩, -, Xwa3ft3, ⟨Lcwa3ft3, hQwa3ft3, lwa3ft3, ywa3ft3, zwa3ft3⟩, stwa3ft3⟩ := Jvm.LawKit.callS Xwa3ft2 hx (y := (⟨"com/example/thicket/thicket/core/CutPartitioning", "between", "(DD)D"⟩ : MethodName)) hown (mvT hZ (hw _ (List.mem_of_getElem? (i := 3) rfl))) (mvT hZ (hw _ (List.mem_of_getElem? (i := 4) rfl))) (mvT hZ (hw _ (List.mem_of_getElem? (i := 5) rfl))) (mvT hZ (hw _ (List.mem_of_getElem? (i := 6) rfl))) (by decide) (backOf (W := 0) (own_rm_cft l Z a0 hw [] wa3ft_v202 wa3ft_v211 h0 n0 Z0 wa3ft_c218_cft_hn4 wa3ft_c218_cft_hv4 wa3ft_c218_cft_hn9 wa3ft_c218_cft_hv9 wa3ft_c218_cft_hn10 wa3ft_c218_cft_hv10 wa3ft_c218_cft_hb17 wa3ft_c218_cft_hb24) hZ (hw _ (List.mem_of_getElem? (i := 6) rfl)) (hw _ (List.mem_of_getElem? (i := 5) rfl)) (by decide) (by decide)) (g := (mkF m 218 #[.val (.int p0), .val (.int p1), .val (.int p2), .val (.int wa3ft_v2), .val (.int (own_imin p0 p1)), .val (.int (own_imax p0 p1)), .val (.long wa3ft_v116), .second, .val (.double wa3ft_v202), .second, .val (.double wa3ft_v211), .second, .unset, .unset] [(.double wa3ft_v211), (.double wa3ft_v202)])) rfl (by rw [hml]; rfl) (argsL := [(.double wa3ft_v202), (.double wa3ft_v211)]) (rest := []) (lenOf own_pd_28DD29D rfl) rfl (by show 2 * 0 + _ ≤ _; exact Nat.le_of_eq rfl) (hb hby at_218) (fun _ _ => ⟨rfl, ewa3ft2, (by decide : 0 + 0 ≤ _), (by decide : 0 + 0 ≤ _)⟩)
  dsimp only [Pt.U, Pt.locs, Pt.cells, Pt.slots] at Xwa3ft3 lwa3ft3 ywa3ft3 zwa3ft3 stwa3ft3 hQwa3ft3
  subst lwa3ft3 ywa3ft3 zwa3ft3
  obtain ⟨rfl, Nwa3ft3q, ewa3ft3⟩ := hQwa3ft3
  have Nwa3ft3 := Fr.app Nwa3ft2 Nwa3ft3q
  obtain ⟨fs, hr, hrun, hended, hW, hsame⟩ := Xwa3ft3.leave (v := some (.int (1 : Int32))) (fun h => by rw [Bd.returns] at h; cases h)
  refine ⟨_, _, pre0 _ ?_, hrun, hended, _, _, rfl, ?_, ⟨_, rfl⟩, hW, hsame.mono (by decide) (by decide)⟩
  · refine own_s_iloadN X0.here hx (hb hby at_0) (pc' := 1) rfl rfl ?_
    refine own_s_iconst X0.here hx (hb hby at_1) (pc' := 2) rfl (v := (3 : Int32)) (by decide) ?_
    refine own_s_iand X0.here hx (hb hby at_2) (pc' := 3) rfl (v := wa3ft_v2) wa3ft_hv2 ?_
    refine own_s_istoreN X0.here hx (hb hby at_3) (pc' := 4) rfl (L' := #[.val (.int p0), .val (.int p1), .val (.int p2), .val (.int wa3ft_v2), .unset, .unset, .unset, .unset, .unset, .unset, .unset, .unset, .unset, .unset]) rfl ?_
    refine own_s_iloadN X0.here hx (hb hby at_4) (pc' := 5) rfl rfl ?_
    refine own_s_iconst X0.here hx (hb hby at_5) (pc' := 6) rfl (v := (2 : Int32)) (by decide) ?_
    refine own_s_icmpYes X0.here hx (hb hby at_6) (by decide) (pc' := 87) (by decide) wa3ft_hb6 ?_
    refine own_s_iloadN X0.here hx (hb hby at_87) (pc' := 88) rfl rfl ?_
    refine own_s_iloadN X0.here hx (hb hby at_88) (pc' := 89) rfl rfl ?_
    refine stwa3ft1 _ ?_
    show Steps p.tables e below (Twa3ft1.setTop (mkF m 92 #[.val (.int p0), .val (.int p1), .val (.int p2), .val (.int wa3ft_v2), .unset, .unset, .unset, .unset, .unset, .unset, .unset, .unset, .unset, .unset] [(.int (own_imin p0 p1))])) _
    refine own_s_istore Xwa3ft1.here hx (hb hby at_92) (pc' := 94) rfl (L' := #[.val (.int p0), .val (.int p1), .val (.int p2), .val (.int wa3ft_v2), .val (.int (own_imin p0 p1)), .unset, .unset, .unset, .unset, .unset, .unset, .unset, .unset, .unset]) rfl ?_
    refine own_s_iloadN Xwa3ft1.here hx (hb hby at_94) (pc' := 95) rfl rfl ?_
    refine own_s_iloadN Xwa3ft1.here hx (hb hby at_95) (pc' := 96) rfl rfl ?_
    refine stwa3ft2 _ ?_
    show Steps p.tables e below (Twa3ft2.setTop (mkF m 99 #[.val (.int p0), .val (.int p1), .val (.int p2), .val (.int wa3ft_v2), .val (.int (own_imin p0 p1)), .unset, .unset, .unset, .unset, .unset, .unset, .unset, .unset, .unset] [(.int (own_imax p0 p1))])) _
    refine own_s_istore Xwa3ft2.here hx (hb hby at_99) (pc' := 101) rfl (L' := #[.val (.int p0), .val (.int p1), .val (.int p2), .val (.int wa3ft_v2), .val (.int (own_imin p0 p1)), .val (.int (own_imax p0 p1)), .unset, .unset, .unset, .unset, .unset, .unset, .unset, .unset]) rfl ?_
    refine own_s_iload Xwa3ft2.here hx (hb hby at_101) (pc' := 103) rfl rfl ?_
    refine own_s_iload Xwa3ft2.here hx (hb hby at_103) (pc' := 105) rfl rfl ?_
    refine own_s_icmpYes Xwa3ft2.here hx (hb hby at_105) (by decide) (pc' := 110) (by decide) wa3ft_hb105 ?_
    refine own_s_iload Xwa3ft2.here hx (hb hby at_110) (pc' := 112) rfl rfl ?_
    refine own_s_i2l Xwa3ft2.here hx (hb hby at_112) (pc' := 113) rfl (v := wa3ft_v112) wa3ft_hv112 ?_
    refine own_s_iload Xwa3ft2.here hx (hb hby at_113) (pc' := 115) rfl rfl ?_
    refine own_s_i2l Xwa3ft2.here hx (hb hby at_115) (pc' := 116) rfl (v := wa3ft_v115) wa3ft_hv115 ?_
    refine own_s_ladd Xwa3ft2.here hx (hb hby at_116) (pc' := 117) rfl (v := wa3ft_v116) wa3ft_hv116 ?_
    refine own_s_lstore Xwa3ft2.here hx (hb hby at_117) (pc' := 119) rfl (L' := #[.val (.int p0), .val (.int p1), .val (.int p2), .val (.int wa3ft_v2), .val (.int (own_imin p0 p1)), .val (.int (own_imax p0 p1)), .val (.long wa3ft_v116), .second, .unset, .unset, .unset, .unset, .unset, .unset]) rfl ?_
    refine own_s_iloadN Xwa3ft2.here hx (hb hby at_119) (pc' := 120) rfl rfl ?_
    refine own_s_ifYes Xwa3ft2.here hx (hb hby at_120) (by decide) (pc' := 153) (by decide) wa3ft_hb120 ?_
    refine own_s_iloadN Xwa3ft2.here hx (hb hby at_153) (pc' := 154) rfl rfl ?_
    refine own_s_iconst Xwa3ft2.here hx (hb hby at_154) (pc' := 155) rfl (v := (1 : Int32)) (by decide) ?_
    refine own_s_icmpYes Xwa3ft2.here hx (hb hby at_155) (by decide) (pc' := 196) (by decide) wa3ft_hb155 ?_
    refine own_s_iload Xwa3ft2.here hx (hb hby at_196) (pc' := 198) rfl rfl ?_
    refine own_s_i2d Xwa3ft2.here hx (hb hby at_198) (pc' := 199) rfl (v := (FP.i2d (own_imin p0 p1))) rfl ?_
    refine Xwa3ft2.ldc2DoubleC hx hown (mvT hZ (hw _ (List.mem_of_getElem? (i := 15) rfl))) (g := (mkF m 199 #[.val (.int p0), .val (.int p1), .val (.int p2), .val (.int wa3ft_v2), .val (.int (own_imin p0 p1)), .val (.int (own_imax p0 p1)), .val (.long wa3ft_v116), .second, .unset, .unset, .unset, .unset, .unset, .unset] [(.double (FP.i2d (own_imin p0 p1)))])) rfl (hb hby at_199) _ ?_
    show Steps p.tables e below (Twa3ft2.setTop (mkF m 202 #[.val (.int p0), .val (.int p1), .val (.int p2), .val (.int wa3ft_v2), .val (.int (own_imin p0 p1)), .val (.int (own_imax p0 p1)), .val (.long wa3ft_v116), .second, .unset, .unset, .unset, .unset, .unset, .unset] [(.double (1 : UInt64)), (.double (FP.i2d (own_imin p0 p1)))])) _
    refine own_s_dmul Xwa3ft2.here hx (hb hby at_202) (pc' := 203) rfl wa3ft_hn202 (v := wa3ft_v202) wa3ft_hv202 ?_
    refine own_s_dstore Xwa3ft2.here hx (hb hby at_203) (pc' := 205) rfl (L' := #[.val (.int p0), .val (.int p1), .val (.int p2), .val (.int wa3ft_v2), .val (.int (own_imin p0 p1)), .val (.int (own_imax p0 p1)), .val (.long wa3ft_v116), .second, .val (.double wa3ft_v202), .second, .unset, .unset, .unset, .unset]) rfl ?_
    refine own_s_iload Xwa3ft2.here hx (hb hby at_205) (pc' := 207) rfl rfl ?_
    refine own_s_i2d Xwa3ft2.here hx (hb hby at_207) (pc' := 208) rfl (v := (FP.i2d (own_imax p0 p1))) rfl ?_
    refine Xwa3ft2.ldc2DoubleC hx hown (mvT hZ (hw _ (List.mem_of_getElem? (i := 15) rfl))) (g := (mkF m 208 #[.val (.int p0), .val (.int p1), .val (.int p2), .val (.int wa3ft_v2), .val (.int (own_imin p0 p1)), .val (.int (own_imax p0 p1)), .val (.long wa3ft_v116), .second, .val (.double wa3ft_v202), .second, .unset, .unset, .unset, .unset] [(.double (FP.i2d (own_imax p0 p1)))])) rfl (hb hby at_208) _ ?_
    show Steps p.tables e below (Twa3ft2.setTop (mkF m 211 #[.val (.int p0), .val (.int p1), .val (.int p2), .val (.int wa3ft_v2), .val (.int (own_imin p0 p1)), .val (.int (own_imax p0 p1)), .val (.long wa3ft_v116), .second, .val (.double wa3ft_v202), .second, .unset, .unset, .unset, .unset] [(.double (1 : UInt64)), (.double (FP.i2d (own_imax p0 p1)))])) _
    refine own_s_dmul Xwa3ft2.here hx (hb hby at_211) (pc' := 212) rfl wa3ft_hn211 (v := wa3ft_v211) wa3ft_hv211 ?_
    refine own_s_dstore Xwa3ft2.here hx (hb hby at_212) (pc' := 214) rfl (L' := #[.val (.int p0), .val (.int p1), .val (.int p2), .val (.int wa3ft_v2), .val (.int (own_imin p0 p1)), .val (.int (own_imax p0 p1)), .val (.long wa3ft_v116), .second, .val (.double wa3ft_v202), .second, .val (.double wa3ft_v211), .second, .unset, .unset]) rfl ?_
    refine own_s_dload Xwa3ft2.here hx (hb hby at_214) (pc' := 216) rfl rfl ?_
    refine own_s_dload Xwa3ft2.here hx (hb hby at_216) (pc' := 218) rfl rfl ?_
    refine stwa3ft3 _ ?_
    show Steps p.tables e below (Twa3ft3.setTop (mkF m 221 #[.val (.int p0), .val (.int p1), .val (.int p2), .val (.int wa3ft_v2), .val (.int (own_imin p0 p1)), .val (.int (own_imax p0 p1)), .val (.long wa3ft_v116), .second, .val (.double wa3ft_v202), .second, .val (.double wa3ft_v211), .second, .unset, .unset] [(.double wa3ft_v211)])) _
    refine own_s_dstore Xwa3ft3.here hx (hb hby at_221) (pc' := 223) rfl (L' := #[.val (.int p0), .val (.int p1), .val (.int p2), .val (.int wa3ft_v2), .val (.int (own_imin p0 p1)), .val (.int (own_imax p0 p1)), .val (.long wa3ft_v116), .second, .val (.double wa3ft_v202), .second, .val (.double wa3ft_v211), .second, .val (.double wa3ft_v211), .second]) rfl ?_
    refine own_s_dload Xwa3ft3.here hx (hb hby at_223) (pc' := 225) rfl rfl ?_
    refine own_s_dload Xwa3ft3.here hx (hb hby at_225) (pc' := 227) rfl rfl ?_
    refine own_s_dcmp Xwa3ft3.here hx (hb hby at_227) (pc' := 228) rfl (v := (Op.cmpValue (FP.dcmp wa3ft_v202 wa3ft_v211) .g)) rfl ?_
    refine own_s_ifNo Xwa3ft3.here hx (hb hby at_228) (pc' := 231) rfl wa3ft_hb228 ?_
    refine own_s_dload Xwa3ft3.here hx (hb hby at_231) (pc' := 233) rfl rfl ?_
    refine own_s_dload Xwa3ft3.here hx (hb hby at_233) (pc' := 235) rfl rfl ?_
    refine own_s_dcmp Xwa3ft3.here hx (hb hby at_235) (pc' := 236) rfl (v := (Op.cmpValue (FP.dcmp wa3ft_v211 wa3ft_v211) .g)) rfl ?_
    refine own_s_ifNo Xwa3ft3.here hx (hb hby at_236) (pc' := 239) rfl wa3ft_hb236 ?_
    refine own_s_iconst Xwa3ft3.here hx (hb hby at_239) (pc' := 240) rfl (v := (1 : Int32)) (by decide) ?_
    refine own_s_goto Xwa3ft3.here hx (hb hby at_240) (by decide) (pc' := 244) (by decide) ?_
    exact retN Xwa3ft3 hx (t := .boolean) Bd.returns (by simp) (hb hby at_244) hr
  · show own_Q0 n0 _ Twa3ft3.heap _
    rw [ewa3ft3]
    exact ⟨rfl, Nwa3ft3⟩
theorem own_ef_wbpft (m : MethodId) (p0 : Int32) (p1 : Int32) (p2 : Int32) : entryFrame m #[(.int p0), (.int p1), (.int p2)] maxLocals = mkF m 0 #[.val (.int p0), .val (.int p1), .val (.int p2), .unset, .unset, .unset, .unset, .unset, .unset, .unset, .unset, .unset, .unset, .unset] [] := by first | (simp [entryFrame, mkF, argsToLocals, Value.category, maxLocals]; done) | rfl
set_option maxRecDepth 65536 in
set_option maxHeartbeats 40000000 in
theorem own_rm_wbpft (l : Launch) (Z : State) (a0 : Array Value) (hw : ∀ d ∈ tables_1, d.before a0 Z = true) (ws : List Jvm.Cond) (p0 : Int32) (p1 : Int32) (p2 : Int32) {wbpft_v2 : Int32} {wbpft_v16 : Int64} {wbpft_v20 : Int64} {wbpft_v21 : Int64} {wbpft_v22 : Int64} {wbpft_v27 : Int32} {wbpft_v60 : Int64} {wbpft_c68_cft_v4 : UInt64} {wbpft_c68_cft_v9 : UInt64} {wbpft_c68_cft_v10 : UInt64} (h0 : Heap) (n0 : Nat) (Z0 : n0 ≤ h0.size)  (wbpft_hv2 : p2 &&& (3 : Int32) = wbpft_v2) (wbpft_hb6 : if_icmp.holds .ne wbpft_v2 (2 : Int32) = false) (wbpft_hv16 : Int32.toInt64 p0 = wbpft_v16) (wbpft_hv20 : wbpft_v16 &&& (4294967295 : Int64) = wbpft_v20) (wbpft_hv21 : (2 : Int64) * wbpft_v20 = wbpft_v21) (wbpft_hv22 : (9007199254740992 : Int64) + wbpft_v21 = wbpft_v22) (wbpft_hv27 : p2 &&& (4 : Int32) = wbpft_v27) (wbpft_hb28 : ifCond.holds .eq wbpft_v27 = true) (wbpft_hv60 : wbpft_v22 + (2 : Int64) = wbpft_v60) (wbpft_c68_cft_hn4 : Jvm.Free.Fl.NoNaN64 (FP.ddiv (FP.l2d wbpft_v22) (4611686018427387904 : UInt64))) (wbpft_c68_cft_hv4 : FP.ddiv (FP.l2d wbpft_v22) (4611686018427387904 : UInt64) = wbpft_c68_cft_v4) (wbpft_c68_cft_hn9 : Jvm.Free.Fl.NoNaN64 (FP.ddiv (FP.l2d wbpft_v60) (4611686018427387904 : UInt64))) (wbpft_c68_cft_hv9 : FP.ddiv (FP.l2d wbpft_v60) (4611686018427387904 : UInt64) = wbpft_c68_cft_v9) (wbpft_c68_cft_hn10 : Jvm.Free.Fl.NoNaN64 (FP.dadd wbpft_c68_cft_v4 wbpft_c68_cft_v9)) (wbpft_c68_cft_hv10 : FP.dadd wbpft_c68_cft_v4 wbpft_c68_cft_v9 = wbpft_c68_cft_v10) (wbpft_c68_cft_hb17 : ifCond.holds .le (Op.cmpValue (FP.dcmp wbpft_c68_cft_v10 (FP.l2d wbpft_v22)) .l) = false) (wbpft_c68_cft_hb24 : ifCond.holds .gt (Op.cmpValue (FP.dcmp wbpft_c68_cft_v10 (FP.l2d wbpft_v60)) .g) = true) (wbpft_hc77 : Op.cmpValue (FP.dcmp (FP.l2d wbpft_v60) (FP.l2d wbpft_v60)) .l = (0 : Int32)) :
    MetFree l x (head1 (Jvm.Cond.code x code maxLocals ret :: ws) room_1) (fun a U => a = #[(.int p0), (.int p1), (.int p2)] ∧ Z.Warmed39 U.vm ∧ U.heap = h0) (fun _ _ _ _ _ => True) (fun _ U o U' => ∃ v L, o = .returned v ∧ own_Q0 n0 v U'.heap L ∧ FrameEnd U o U' L room_1.cells room_1.slots) := by
  refine MetFree.of_bodySF (plainFor_of_name own_pn_com_example_thicket_thicket_core_CutPartitioningBetweenPinLaw) hisR ?_
  intro p e s m args below meth c s₁ Bd hml0 hP hK
  obtain ⟨rfl, hZ, hh⟩ := hP
  have hx := Bd.exec
  have hby := Bd.bytes
  have hml : c.maxLocals = 14 := hml0
  have hown : s.vm.findClass "com/example/thicket/thicket/core/CutPartitioningBetweenPinLaw" = some m.cls := findClass_of_methodNamed Bd.named
  have hnm := (name_of_methodNamed Bd.named Bd.method).1
  have X0 : Stand p l e room_1 s m #[(.int p0), (.int p1), (.int p2)] below meth c s₁ [] 0 0 := Stand.of_body Bd
  have e0 : s₁.heap = h0 := by rw [← hh, Bd.state]; rfl
  have N0 := Fr.nil n0
  have pre0 : ∀ t, Steps p.tables e below (s₁.setTop (mkF m 0 #[.val (.int p0), .val (.int p1), .val (.int p2), .unset, .unset, .unset, .unset, .unset, .unset, .unset, .unset, .unset, .unset, .unset] [])) t → Steps p.tables e below (s₁.setTop (entryFrame m #[(.int p0), (.int p1), (.int p2)] maxLocals)) t := fun t k => castTop (own_ef_wbpft m p0 p1 p2) k
  obtain ⟨_, _, ⟨Twbpft1, Lwbpft1, kwbpft1, nwbpft1⟩, -, Xwbpft1, ⟨Lcwbpft1, hQwbpft1, lwbpft1, ywbpft1, zwbpft1⟩, stwbpft1⟩ := Jvm.LawKit.callS X0 hx (y := (⟨"com/example/thicket/thicket/core/CutPartitioning", "between", "(DD)D"⟩ : MethodName)) hown (mvT hZ (hw _ (List.mem_of_getElem? (i := 3) rfl))) (mvT hZ (hw _ (List.mem_of_getElem? (i := 4) rfl))) (mvT hZ (hw _ (List.mem_of_getElem? (i := 5) rfl))) (mvT hZ (hw _ (List.mem_of_getElem? (i := 6) rfl))) (by decide) (backOf (W := 0) (own_rm_cft l Z a0 hw [] (FP.l2d wbpft_v22) (FP.l2d wbpft_v60) h0 n0 Z0 wbpft_c68_cft_hn4 wbpft_c68_cft_hv4 wbpft_c68_cft_hn9 wbpft_c68_cft_hv9 wbpft_c68_cft_hn10 wbpft_c68_cft_hv10 wbpft_c68_cft_hb17 wbpft_c68_cft_hb24) hZ (hw _ (List.mem_of_getElem? (i := 6) rfl)) (hw _ (List.mem_of_getElem? (i := 5) rfl)) (by decide) (by decide)) (g := (mkF m 68 #[.val (.int p0), .val (.int p1), .val (.int p2), .val (.int wbpft_v2), .val (.long wbpft_v22), .second, .val (.double (FP.l2d wbpft_v22)), .second, .val (.double (FP.l2d wbpft_v60)), .second, .unset, .unset, .unset, .unset] [(.double (FP.l2d wbpft_v60)), (.double (FP.l2d wbpft_v22))])) rfl (by rw [hml]; rfl) (argsL := [(.double (FP.l2d wbpft_v22)), (.double (FP.l2d wbpft_v60))]) (rest := []) (lenOf own_pd_28DD29D rfl) rfl (by show 2 * 0 + _ ≤ _; exact Nat.le_of_eq rfl) (hb hby at_68) (fun _ _ => ⟨rfl, e0, (by decide : 0 + 0 ≤ _), (by decide : 0 + 0 ≤ _)⟩)
  dsimp only [Pt.U, Pt.locs, Pt.cells, Pt.slots] at Xwbpft1 lwbpft1 ywbpft1 zwbpft1 stwbpft1 hQwbpft1
  subst lwbpft1 ywbpft1 zwbpft1
  obtain ⟨rfl, Nwbpft1q, ewbpft1⟩ := hQwbpft1
  have Nwbpft1 := Fr.app N0 Nwbpft1q
  obtain ⟨fs, hr, hrun, hended, hW, hsame⟩ := Xwbpft1.leave (v := some (.int (1 : Int32))) (fun h => by rw [Bd.returns] at h; cases h)
  refine ⟨_, _, pre0 _ ?_, hrun, hended, _, _, rfl, ?_, ⟨_, rfl⟩, hW, hsame.mono (by decide) (by decide)⟩
  · refine own_s_iloadN X0.here hx (hb hby at_0) (pc' := 1) rfl rfl ?_
    refine own_s_iconst X0.here hx (hb hby at_1) (pc' := 2) rfl (v := (3 : Int32)) (by decide) ?_
    refine own_s_iand X0.here hx (hb hby at_2) (pc' := 3) rfl (v := wbpft_v2) wbpft_hv2 ?_
    refine own_s_istoreN X0.here hx (hb hby at_3) (pc' := 4) rfl (L' := #[.val (.int p0), .val (.int p1), .val (.int p2), .val (.int wbpft_v2), .unset, .unset, .unset, .unset, .unset, .unset, .unset, .unset, .unset, .unset]) rfl ?_
    refine own_s_iloadN X0.here hx (hb hby at_4) (pc' := 5) rfl rfl ?_
    refine own_s_iconst X0.here hx (hb hby at_5) (pc' := 6) rfl (v := (2 : Int32)) (by decide) ?_
    refine own_s_icmpNo X0.here hx (hb hby at_6) (pc' := 9) rfl wbpft_hb6 ?_
    refine X0.ldc2Long hx hown (mvT hZ (hw _ (List.mem_of_getElem? (i := 0) rfl))) (g := (mkF m 9 #[.val (.int p0), .val (.int p1), .val (.int p2), .val (.int wbpft_v2), .unset, .unset, .unset, .unset, .unset, .unset, .unset, .unset, .unset, .unset] [])) rfl (hb hby at_9) _ ?_
    show Steps p.tables e below (s₁.setTop (mkF m 12 #[.val (.int p0), .val (.int p1), .val (.int p2), .val (.int wbpft_v2), .unset, .unset, .unset, .unset, .unset, .unset, .unset, .unset, .unset, .unset] [(.long (9007199254740992 : Int64))])) _
    refine X0.ldc2Long hx hown (mvT hZ (hw _ (List.mem_of_getElem? (i := 1) rfl))) (g := (mkF m 12 #[.val (.int p0), .val (.int p1), .val (.int p2), .val (.int wbpft_v2), .unset, .unset, .unset, .unset, .unset, .unset, .unset, .unset, .unset, .unset] [(.long (9007199254740992 : Int64))])) rfl (hb hby at_12) _ ?_
    show Steps p.tables e below (s₁.setTop (mkF m 15 #[.val (.int p0), .val (.int p1), .val (.int p2), .val (.int wbpft_v2), .unset, .unset, .unset, .unset, .unset, .unset, .unset, .unset, .unset, .unset] [(.long (2 : Int64)), (.long (9007199254740992 : Int64))])) _
    refine own_s_iloadN X0.here hx (hb hby at_15) (pc' := 16) rfl rfl ?_
    refine own_s_i2l X0.here hx (hb hby at_16) (pc' := 17) rfl (v := wbpft_v16) wbpft_hv16 ?_
    refine X0.ldc2Long hx hown (mvT hZ (hw _ (List.mem_of_getElem? (i := 2) rfl))) (g := (mkF m 17 #[.val (.int p0), .val (.int p1), .val (.int p2), .val (.int wbpft_v2), .unset, .unset, .unset, .unset, .unset, .unset, .unset, .unset, .unset, .unset] [(.long wbpft_v16), (.long (2 : Int64)), (.long (9007199254740992 : Int64))])) rfl (hb hby at_17) _ ?_
    show Steps p.tables e below (s₁.setTop (mkF m 20 #[.val (.int p0), .val (.int p1), .val (.int p2), .val (.int wbpft_v2), .unset, .unset, .unset, .unset, .unset, .unset, .unset, .unset, .unset, .unset] [(.long (4294967295 : Int64)), (.long wbpft_v16), (.long (2 : Int64)), (.long (9007199254740992 : Int64))])) _
    refine own_s_land X0.here hx (hb hby at_20) (pc' := 21) rfl (v := wbpft_v20) wbpft_hv20 ?_
    refine own_s_lmul X0.here hx (hb hby at_21) (pc' := 22) rfl (v := wbpft_v21) wbpft_hv21 ?_
    refine own_s_ladd X0.here hx (hb hby at_22) (pc' := 23) rfl (v := wbpft_v22) wbpft_hv22 ?_
    refine own_s_lstore X0.here hx (hb hby at_23) (pc' := 25) rfl (L' := #[.val (.int p0), .val (.int p1), .val (.int p2), .val (.int wbpft_v2), .val (.long wbpft_v22), .second, .unset, .unset, .unset, .unset, .unset, .unset, .unset, .unset]) rfl ?_
    refine own_s_iloadN X0.here hx (hb hby at_25) (pc' := 26) rfl rfl ?_
    refine own_s_iconst X0.here hx (hb hby at_26) (pc' := 27) rfl (v := (4 : Int32)) (by decide) ?_
    refine own_s_iand X0.here hx (hb hby at_27) (pc' := 28) rfl (v := wbpft_v27) wbpft_hv27 ?_
    refine own_s_ifYes X0.here hx (hb hby at_28) (by decide) (pc' := 50) (by decide) wbpft_hb28 ?_
    refine own_s_lload X0.here hx (hb hby at_50) (pc' := 52) rfl rfl ?_
    refine own_s_l2d X0.here hx (hb hby at_52) (pc' := 53) rfl (v := (FP.l2d wbpft_v22)) rfl ?_
    refine own_s_dstore X0.here hx (hb hby at_53) (pc' := 55) rfl (L' := #[.val (.int p0), .val (.int p1), .val (.int p2), .val (.int wbpft_v2), .val (.long wbpft_v22), .second, .val (.double (FP.l2d wbpft_v22)), .second, .unset, .unset, .unset, .unset, .unset, .unset]) rfl ?_
    refine own_s_lload X0.here hx (hb hby at_55) (pc' := 57) rfl rfl ?_
    refine X0.ldc2Long hx hown (mvT hZ (hw _ (List.mem_of_getElem? (i := 1) rfl))) (g := (mkF m 57 #[.val (.int p0), .val (.int p1), .val (.int p2), .val (.int wbpft_v2), .val (.long wbpft_v22), .second, .val (.double (FP.l2d wbpft_v22)), .second, .unset, .unset, .unset, .unset, .unset, .unset] [(.long wbpft_v22)])) rfl (hb hby at_57) _ ?_
    show Steps p.tables e below (s₁.setTop (mkF m 60 #[.val (.int p0), .val (.int p1), .val (.int p2), .val (.int wbpft_v2), .val (.long wbpft_v22), .second, .val (.double (FP.l2d wbpft_v22)), .second, .unset, .unset, .unset, .unset, .unset, .unset] [(.long (2 : Int64)), (.long wbpft_v22)])) _
    refine own_s_ladd X0.here hx (hb hby at_60) (pc' := 61) rfl (v := wbpft_v60) wbpft_hv60 ?_
    refine own_s_l2d X0.here hx (hb hby at_61) (pc' := 62) rfl (v := (FP.l2d wbpft_v60)) rfl ?_
    refine own_s_dstore X0.here hx (hb hby at_62) (pc' := 64) rfl (L' := #[.val (.int p0), .val (.int p1), .val (.int p2), .val (.int wbpft_v2), .val (.long wbpft_v22), .second, .val (.double (FP.l2d wbpft_v22)), .second, .val (.double (FP.l2d wbpft_v60)), .second, .unset, .unset, .unset, .unset]) rfl ?_
    refine own_s_dload X0.here hx (hb hby at_64) (pc' := 66) rfl rfl ?_
    refine own_s_dload X0.here hx (hb hby at_66) (pc' := 68) rfl rfl ?_
    refine stwbpft1 _ ?_
    show Steps p.tables e below (Twbpft1.setTop (mkF m 71 #[.val (.int p0), .val (.int p1), .val (.int p2), .val (.int wbpft_v2), .val (.long wbpft_v22), .second, .val (.double (FP.l2d wbpft_v22)), .second, .val (.double (FP.l2d wbpft_v60)), .second, .unset, .unset, .unset, .unset] [(.double (FP.l2d wbpft_v60))])) _
    refine own_s_dstore Xwbpft1.here hx (hb hby at_71) (pc' := 73) rfl (L' := #[.val (.int p0), .val (.int p1), .val (.int p2), .val (.int wbpft_v2), .val (.long wbpft_v22), .second, .val (.double (FP.l2d wbpft_v22)), .second, .val (.double (FP.l2d wbpft_v60)), .second, .val (.double (FP.l2d wbpft_v60)), .second, .unset, .unset]) rfl ?_
    refine own_s_dload Xwbpft1.here hx (hb hby at_73) (pc' := 75) rfl rfl ?_
    refine own_s_dload Xwbpft1.here hx (hb hby at_75) (pc' := 77) rfl rfl ?_
    refine own_s_dcmp Xwbpft1.here hx (hb hby at_77) (pc' := 78) rfl (v := (0 : Int32)) wbpft_hc77 ?_
    refine own_s_ifNo Xwbpft1.here hx (hb hby at_78) (pc' := 81) rfl (by decide) ?_
    refine own_s_iconst Xwbpft1.here hx (hb hby at_81) (pc' := 82) rfl (v := (1 : Int32)) (by decide) ?_
    refine own_s_goto Xwbpft1.here hx (hb hby at_82) (by decide) (pc' := 86) (by decide) ?_
    exact retN Xwbpft1 hx (t := .boolean) Bd.returns (by simp) (hb hby at_86) hr
  · show own_Q0 n0 _ Twbpft1.heap _
    rw [ewbpft1]
    exact ⟨rfl, Nwbpft1⟩
theorem own_ef_wbnft (m : MethodId) (p0 : Int32) (p1 : Int32) (p2 : Int32) : entryFrame m #[(.int p0), (.int p1), (.int p2)] maxLocals = mkF m 0 #[.val (.int p0), .val (.int p1), .val (.int p2), .unset, .unset, .unset, .unset, .unset, .unset, .unset, .unset, .unset, .unset, .unset] [] := by first | (simp [entryFrame, mkF, argsToLocals, Value.category, maxLocals]; done) | rfl
set_option maxRecDepth 65536 in
set_option maxHeartbeats 40000000 in
theorem own_rm_wbnft (l : Launch) (Z : State) (a0 : Array Value) (hw : ∀ d ∈ tables_1, d.before a0 Z = true) (ws : List Jvm.Cond) (p0 : Int32) (p1 : Int32) (p2 : Int32) {wbnft_v2 : Int32} {wbnft_v16 : Int64} {wbnft_v20 : Int64} {wbnft_v21 : Int64} {wbnft_v22 : Int64} {wbnft_v27 : Int32} {wbnft_v36 : Int64} {wbnft_c68_cft_v4 : UInt64} {wbnft_c68_cft_v9 : UInt64} {wbnft_c68_cft_v10 : UInt64} (h0 : Heap) (n0 : Nat) (Z0 : n0 ≤ h0.size)  (wbnft_hv2 : p2 &&& (3 : Int32) = wbnft_v2) (wbnft_hb6 : if_icmp.holds .ne wbnft_v2 (2 : Int32) = false) (wbnft_hv16 : Int32.toInt64 p0 = wbnft_v16) (wbnft_hv20 : wbnft_v16 &&& (4294967295 : Int64) = wbnft_v20) (wbnft_hv21 : (2 : Int64) * wbnft_v20 = wbnft_v21) (wbnft_hv22 : (9007199254740992 : Int64) + wbnft_v21 = wbnft_v22) (wbnft_hv27 : p2 &&& (4 : Int32) = wbnft_v27) (wbnft_hb28 : ifCond.holds .eq wbnft_v27 = false) (wbnft_hv36 : wbnft_v22 + (2 : Int64) = wbnft_v36) (wbnft_c68_cft_hn4 : Jvm.Free.Fl.NoNaN64 (FP.ddiv (FP.dneg (FP.l2d wbnft_v36)) (4611686018427387904 : UInt64))) (wbnft_c68_cft_hv4 : FP.ddiv (FP.dneg (FP.l2d wbnft_v36)) (4611686018427387904 : UInt64) = wbnft_c68_cft_v4) (wbnft_c68_cft_hn9 : Jvm.Free.Fl.NoNaN64 (FP.ddiv (FP.dneg (FP.l2d wbnft_v22)) (4611686018427387904 : UInt64))) (wbnft_c68_cft_hv9 : FP.ddiv (FP.dneg (FP.l2d wbnft_v22)) (4611686018427387904 : UInt64) = wbnft_c68_cft_v9) (wbnft_c68_cft_hn10 : Jvm.Free.Fl.NoNaN64 (FP.dadd wbnft_c68_cft_v4 wbnft_c68_cft_v9)) (wbnft_c68_cft_hv10 : FP.dadd wbnft_c68_cft_v4 wbnft_c68_cft_v9 = wbnft_c68_cft_v10) (wbnft_c68_cft_hb17 : ifCond.holds .le (Op.cmpValue (FP.dcmp wbnft_c68_cft_v10 (FP.dneg (FP.l2d wbnft_v36))) .l) = false) (wbnft_c68_cft_hb24 : ifCond.holds .gt (Op.cmpValue (FP.dcmp wbnft_c68_cft_v10 (FP.dneg (FP.l2d wbnft_v22))) .g) = true) (wbnft_hc77 : Op.cmpValue (FP.dcmp (FP.dneg (FP.l2d wbnft_v22)) (FP.dneg (FP.l2d wbnft_v22))) .l = (0 : Int32)) :
    MetFree l x (head1 (Jvm.Cond.code x code maxLocals ret :: ws) room_1) (fun a U => a = #[(.int p0), (.int p1), (.int p2)] ∧ Z.Warmed39 U.vm ∧ U.heap = h0) (fun _ _ _ _ _ => True) (fun _ U o U' => ∃ v L, o = .returned v ∧ own_Q0 n0 v U'.heap L ∧ FrameEnd U o U' L room_1.cells room_1.slots) := by
  refine MetFree.of_bodySF (plainFor_of_name own_pn_com_example_thicket_thicket_core_CutPartitioningBetweenPinLaw) hisR ?_
  intro p e s m args below meth c s₁ Bd hml0 hP hK
  obtain ⟨rfl, hZ, hh⟩ := hP
  have hx := Bd.exec
  have hby := Bd.bytes
  have hml : c.maxLocals = 14 := hml0
  have hown : s.vm.findClass "com/example/thicket/thicket/core/CutPartitioningBetweenPinLaw" = some m.cls := findClass_of_methodNamed Bd.named
  have hnm := (name_of_methodNamed Bd.named Bd.method).1
  have X0 : Stand p l e room_1 s m #[(.int p0), (.int p1), (.int p2)] below meth c s₁ [] 0 0 := Stand.of_body Bd
  have e0 : s₁.heap = h0 := by rw [← hh, Bd.state]; rfl
  have N0 := Fr.nil n0
  have pre0 : ∀ t, Steps p.tables e below (s₁.setTop (mkF m 0 #[.val (.int p0), .val (.int p1), .val (.int p2), .unset, .unset, .unset, .unset, .unset, .unset, .unset, .unset, .unset, .unset, .unset] [])) t → Steps p.tables e below (s₁.setTop (entryFrame m #[(.int p0), (.int p1), (.int p2)] maxLocals)) t := fun t k => castTop (own_ef_wbnft m p0 p1 p2) k
  obtain ⟨_, _, ⟨Twbnft1, Lwbnft1, kwbnft1, nwbnft1⟩, -, Xwbnft1, ⟨Lcwbnft1, hQwbnft1, lwbnft1, ywbnft1, zwbnft1⟩, stwbnft1⟩ := Jvm.LawKit.callS X0 hx (y := (⟨"com/example/thicket/thicket/core/CutPartitioning", "between", "(DD)D"⟩ : MethodName)) hown (mvT hZ (hw _ (List.mem_of_getElem? (i := 3) rfl))) (mvT hZ (hw _ (List.mem_of_getElem? (i := 4) rfl))) (mvT hZ (hw _ (List.mem_of_getElem? (i := 5) rfl))) (mvT hZ (hw _ (List.mem_of_getElem? (i := 6) rfl))) (by decide) (backOf (W := 0) (own_rm_cft l Z a0 hw [] (FP.dneg (FP.l2d wbnft_v36)) (FP.dneg (FP.l2d wbnft_v22)) h0 n0 Z0 wbnft_c68_cft_hn4 wbnft_c68_cft_hv4 wbnft_c68_cft_hn9 wbnft_c68_cft_hv9 wbnft_c68_cft_hn10 wbnft_c68_cft_hv10 wbnft_c68_cft_hb17 wbnft_c68_cft_hb24) hZ (hw _ (List.mem_of_getElem? (i := 6) rfl)) (hw _ (List.mem_of_getElem? (i := 5) rfl)) (by decide) (by decide)) (g := (mkF m 68 #[.val (.int p0), .val (.int p1), .val (.int p2), .val (.int wbnft_v2), .val (.long wbnft_v22), .second, .val (.double (FP.dneg (FP.l2d wbnft_v36))), .second, .val (.double (FP.dneg (FP.l2d wbnft_v22))), .second, .unset, .unset, .unset, .unset] [(.double (FP.dneg (FP.l2d wbnft_v22))), (.double (FP.dneg (FP.l2d wbnft_v36)))])) rfl (by rw [hml]; rfl) (argsL := [(.double (FP.dneg (FP.l2d wbnft_v36))), (.double (FP.dneg (FP.l2d wbnft_v22)))]) (rest := []) (lenOf own_pd_28DD29D rfl) rfl (by show 2 * 0 + _ ≤ _; exact Nat.le_of_eq rfl) (hb hby at_68) (fun _ _ => ⟨rfl, e0, (by decide : 0 + 0 ≤ _), (by decide : 0 + 0 ≤ _)⟩)
  dsimp only [Pt.U, Pt.locs, Pt.cells, Pt.slots] at Xwbnft1 lwbnft1 ywbnft1 zwbnft1 stwbnft1 hQwbnft1
  subst lwbnft1 ywbnft1 zwbnft1
  obtain ⟨rfl, Nwbnft1q, ewbnft1⟩ := hQwbnft1
  have Nwbnft1 := Fr.app N0 Nwbnft1q
  obtain ⟨fs, hr, hrun, hended, hW, hsame⟩ := Xwbnft1.leave (v := some (.int (1 : Int32))) (fun h => by rw [Bd.returns] at h; cases h)
  refine ⟨_, _, pre0 _ ?_, hrun, hended, _, _, rfl, ?_, ⟨_, rfl⟩, hW, hsame.mono (by decide) (by decide)⟩
  · refine own_s_iloadN X0.here hx (hb hby at_0) (pc' := 1) rfl rfl ?_
    refine own_s_iconst X0.here hx (hb hby at_1) (pc' := 2) rfl (v := (3 : Int32)) (by decide) ?_
    refine own_s_iand X0.here hx (hb hby at_2) (pc' := 3) rfl (v := wbnft_v2) wbnft_hv2 ?_
    refine own_s_istoreN X0.here hx (hb hby at_3) (pc' := 4) rfl (L' := #[.val (.int p0), .val (.int p1), .val (.int p2), .val (.int wbnft_v2), .unset, .unset, .unset, .unset, .unset, .unset, .unset, .unset, .unset, .unset]) rfl ?_
    refine own_s_iloadN X0.here hx (hb hby at_4) (pc' := 5) rfl rfl ?_
    refine own_s_iconst X0.here hx (hb hby at_5) (pc' := 6) rfl (v := (2 : Int32)) (by decide) ?_
    refine own_s_icmpNo X0.here hx (hb hby at_6) (pc' := 9) rfl wbnft_hb6 ?_
    refine X0.ldc2Long hx hown (mvT hZ (hw _ (List.mem_of_getElem? (i := 0) rfl))) (g := (mkF m 9 #[.val (.int p0), .val (.int p1), .val (.int p2), .val (.int wbnft_v2), .unset, .unset, .unset, .unset, .unset, .unset, .unset, .unset, .unset, .unset] [])) rfl (hb hby at_9) _ ?_
    show Steps p.tables e below (s₁.setTop (mkF m 12 #[.val (.int p0), .val (.int p1), .val (.int p2), .val (.int wbnft_v2), .unset, .unset, .unset, .unset, .unset, .unset, .unset, .unset, .unset, .unset] [(.long (9007199254740992 : Int64))])) _
    refine X0.ldc2Long hx hown (mvT hZ (hw _ (List.mem_of_getElem? (i := 1) rfl))) (g := (mkF m 12 #[.val (.int p0), .val (.int p1), .val (.int p2), .val (.int wbnft_v2), .unset, .unset, .unset, .unset, .unset, .unset, .unset, .unset, .unset, .unset] [(.long (9007199254740992 : Int64))])) rfl (hb hby at_12) _ ?_
    show Steps p.tables e below (s₁.setTop (mkF m 15 #[.val (.int p0), .val (.int p1), .val (.int p2), .val (.int wbnft_v2), .unset, .unset, .unset, .unset, .unset, .unset, .unset, .unset, .unset, .unset] [(.long (2 : Int64)), (.long (9007199254740992 : Int64))])) _
    refine own_s_iloadN X0.here hx (hb hby at_15) (pc' := 16) rfl rfl ?_
    refine own_s_i2l X0.here hx (hb hby at_16) (pc' := 17) rfl (v := wbnft_v16) wbnft_hv16 ?_
    refine X0.ldc2Long hx hown (mvT hZ (hw _ (List.mem_of_getElem? (i := 2) rfl))) (g := (mkF m 17 #[.val (.int p0), .val (.int p1), .val (.int p2), .val (.int wbnft_v2), .unset, .unset, .unset, .unset, .unset, .unset, .unset, .unset, .unset, .unset] [(.long wbnft_v16), (.long (2 : Int64)), (.long (9007199254740992 : Int64))])) rfl (hb hby at_17) _ ?_
    show Steps p.tables e below (s₁.setTop (mkF m 20 #[.val (.int p0), .val (.int p1), .val (.int p2), .val (.int wbnft_v2), .unset, .unset, .unset, .unset, .unset, .unset, .unset, .unset, .unset, .unset] [(.long (4294967295 : Int64)), (.long wbnft_v16), (.long (2 : Int64)), (.long (9007199254740992 : Int64))])) _
    refine own_s_land X0.here hx (hb hby at_20) (pc' := 21) rfl (v := wbnft_v20) wbnft_hv20 ?_
    refine own_s_lmul X0.here hx (hb hby at_21) (pc' := 22) rfl (v := wbnft_v21) wbnft_hv21 ?_
    refine own_s_ladd X0.here hx (hb hby at_22) (pc' := 23) rfl (v := wbnft_v22) wbnft_hv22 ?_
    refine own_s_lstore X0.here hx (hb hby at_23) (pc' := 25) rfl (L' := #[.val (.int p0), .val (.int p1), .val (.int p2), .val (.int wbnft_v2), .val (.long wbnft_v22), .second, .unset, .unset, .unset, .unset, .unset, .unset, .unset, .unset]) rfl ?_
    refine own_s_iloadN X0.here hx (hb hby at_25) (pc' := 26) rfl rfl ?_
    refine own_s_iconst X0.here hx (hb hby at_26) (pc' := 27) rfl (v := (4 : Int32)) (by decide) ?_
    refine own_s_iand X0.here hx (hb hby at_27) (pc' := 28) rfl (v := wbnft_v27) wbnft_hv27 ?_
    refine own_s_ifNo X0.here hx (hb hby at_28) (pc' := 31) rfl wbnft_hb28 ?_
    refine own_s_lload X0.here hx (hb hby at_31) (pc' := 33) rfl rfl ?_
    refine X0.ldc2Long hx hown (mvT hZ (hw _ (List.mem_of_getElem? (i := 1) rfl))) (g := (mkF m 33 #[.val (.int p0), .val (.int p1), .val (.int p2), .val (.int wbnft_v2), .val (.long wbnft_v22), .second, .unset, .unset, .unset, .unset, .unset, .unset, .unset, .unset] [(.long wbnft_v22)])) rfl (hb hby at_33) _ ?_
    show Steps p.tables e below (s₁.setTop (mkF m 36 #[.val (.int p0), .val (.int p1), .val (.int p2), .val (.int wbnft_v2), .val (.long wbnft_v22), .second, .unset, .unset, .unset, .unset, .unset, .unset, .unset, .unset] [(.long (2 : Int64)), (.long wbnft_v22)])) _
    refine own_s_ladd X0.here hx (hb hby at_36) (pc' := 37) rfl (v := wbnft_v36) wbnft_hv36 ?_
    refine own_s_l2d X0.here hx (hb hby at_37) (pc' := 38) rfl (v := (FP.l2d wbnft_v36)) rfl ?_
    refine own_s_dneg X0.here hx (hb hby at_38) (pc' := 39) rfl (v := (FP.dneg (FP.l2d wbnft_v36))) rfl ?_
    refine own_s_dstore X0.here hx (hb hby at_39) (pc' := 41) rfl (L' := #[.val (.int p0), .val (.int p1), .val (.int p2), .val (.int wbnft_v2), .val (.long wbnft_v22), .second, .val (.double (FP.dneg (FP.l2d wbnft_v36))), .second, .unset, .unset, .unset, .unset, .unset, .unset]) rfl ?_
    refine own_s_lload X0.here hx (hb hby at_41) (pc' := 43) rfl rfl ?_
    refine own_s_l2d X0.here hx (hb hby at_43) (pc' := 44) rfl (v := (FP.l2d wbnft_v22)) rfl ?_
    refine own_s_dneg X0.here hx (hb hby at_44) (pc' := 45) rfl (v := (FP.dneg (FP.l2d wbnft_v22))) rfl ?_
    refine own_s_dstore X0.here hx (hb hby at_45) (pc' := 47) rfl (L' := #[.val (.int p0), .val (.int p1), .val (.int p2), .val (.int wbnft_v2), .val (.long wbnft_v22), .second, .val (.double (FP.dneg (FP.l2d wbnft_v36))), .second, .val (.double (FP.dneg (FP.l2d wbnft_v22))), .second, .unset, .unset, .unset, .unset]) rfl ?_
    refine own_s_goto X0.here hx (hb hby at_47) (by decide) (pc' := 64) (by decide) ?_
    refine own_s_dload X0.here hx (hb hby at_64) (pc' := 66) rfl rfl ?_
    refine own_s_dload X0.here hx (hb hby at_66) (pc' := 68) rfl rfl ?_
    refine stwbnft1 _ ?_
    show Steps p.tables e below (Twbnft1.setTop (mkF m 71 #[.val (.int p0), .val (.int p1), .val (.int p2), .val (.int wbnft_v2), .val (.long wbnft_v22), .second, .val (.double (FP.dneg (FP.l2d wbnft_v36))), .second, .val (.double (FP.dneg (FP.l2d wbnft_v22))), .second, .unset, .unset, .unset, .unset] [(.double (FP.dneg (FP.l2d wbnft_v22)))])) _
    refine own_s_dstore Xwbnft1.here hx (hb hby at_71) (pc' := 73) rfl (L' := #[.val (.int p0), .val (.int p1), .val (.int p2), .val (.int wbnft_v2), .val (.long wbnft_v22), .second, .val (.double (FP.dneg (FP.l2d wbnft_v36))), .second, .val (.double (FP.dneg (FP.l2d wbnft_v22))), .second, .val (.double (FP.dneg (FP.l2d wbnft_v22))), .second, .unset, .unset]) rfl ?_
    refine own_s_dload Xwbnft1.here hx (hb hby at_73) (pc' := 75) rfl rfl ?_
    refine own_s_dload Xwbnft1.here hx (hb hby at_75) (pc' := 77) rfl rfl ?_
    refine own_s_dcmp Xwbnft1.here hx (hb hby at_77) (pc' := 78) rfl (v := (0 : Int32)) wbnft_hc77 ?_
    refine own_s_ifNo Xwbnft1.here hx (hb hby at_78) (pc' := 81) rfl (by decide) ?_
    refine own_s_iconst Xwbnft1.here hx (hb hby at_81) (pc' := 82) rfl (v := (1 : Int32)) (by decide) ?_
    refine own_s_goto Xwbnft1.here hx (hb hby at_82) (by decide) (pc' := 86) (by decide) ?_
    exact retN Xwbnft1 hx (t := .boolean) Bd.returns (by simp) (hb hby at_86) hr
  · show own_Q0 n0 _ Twbnft1.heap _
    rw [ewbnft1]
    exact ⟨rfl, Nwbnft1⟩
theorem own_ef_wa3ff (m : MethodId) (p0 : Int32) (p1 : Int32) (p2 : Int32) : entryFrame m #[(.int p0), (.int p1), (.int p2)] maxLocals = mkF m 0 #[.val (.int p0), .val (.int p1), .val (.int p2), .unset, .unset, .unset, .unset, .unset, .unset, .unset, .unset, .unset, .unset, .unset] [] := by first | (simp [entryFrame, mkF, argsToLocals, Value.category, maxLocals]; done) | rfl
set_option maxRecDepth 65536 in
set_option maxHeartbeats 40000000 in
theorem own_rm_wa3ff (l : Launch) (Z : State) (a0 : Array Value) (hw : ∀ d ∈ tables_1, d.before a0 Z = true) (ws : List Jvm.Cond) (p0 : Int32) (p1 : Int32) (p2 : Int32) {wa3ff_v2 : Int32} {wa3ff_v112 : Int64} {wa3ff_v115 : Int64} {wa3ff_v116 : Int64} {wa3ff_v202 : UInt64} {wa3ff_v211 : UInt64} {wa3ff_c218_cff_v4 : UInt64} {wa3ff_c218_cff_v9 : UInt64} {wa3ff_c218_cff_v10 : UInt64} (h0 : Heap) (n0 : Nat) (Z0 : n0 ≤ h0.size)  (wa3ff_hv2 : p2 &&& (3 : Int32) = wa3ff_v2) (wa3ff_hb6 : if_icmp.holds .ne wa3ff_v2 (2 : Int32) = true) (wa3ff_hb105 : if_icmp.holds .ne (own_imin p0 p1) (own_imax p0 p1) = true) (wa3ff_hv112 : Int32.toInt64 (own_imin p0 p1) = wa3ff_v112) (wa3ff_hv115 : Int32.toInt64 (own_imax p0 p1) = wa3ff_v115) (wa3ff_hv116 : wa3ff_v112 + wa3ff_v115 = wa3ff_v116) (wa3ff_hb120 : ifCond.holds .ne wa3ff_v2 = true) (wa3ff_hb155 : if_icmp.holds .ne wa3ff_v2 (1 : Int32) = true) (wa3ff_hn202 : Jvm.Free.Fl.NoNaN64 (FP.dmul (FP.i2d (own_imin p0 p1)) (1 : UInt64))) (wa3ff_hv202 : FP.dmul (FP.i2d (own_imin p0 p1)) (1 : UInt64) = wa3ff_v202) (wa3ff_hn211 : Jvm.Free.Fl.NoNaN64 (FP.dmul (FP.i2d (own_imax p0 p1)) (1 : UInt64))) (wa3ff_hv211 : FP.dmul (FP.i2d (own_imax p0 p1)) (1 : UInt64) = wa3ff_v211) (wa3ff_c218_cff_hn4 : Jvm.Free.Fl.NoNaN64 (FP.ddiv wa3ff_v202 (4611686018427387904 : UInt64))) (wa3ff_c218_cff_hv4 : FP.ddiv wa3ff_v202 (4611686018427387904 : UInt64) = wa3ff_c218_cff_v4) (wa3ff_c218_cff_hn9 : Jvm.Free.Fl.NoNaN64 (FP.ddiv wa3ff_v211 (4611686018427387904 : UInt64))) (wa3ff_c218_cff_hv9 : FP.ddiv wa3ff_v211 (4611686018427387904 : UInt64) = wa3ff_c218_cff_v9) (wa3ff_c218_cff_hn10 : Jvm.Free.Fl.NoNaN64 (FP.dadd wa3ff_c218_cff_v4 wa3ff_c218_cff_v9)) (wa3ff_c218_cff_hv10 : FP.dadd wa3ff_c218_cff_v4 wa3ff_c218_cff_v9 = wa3ff_c218_cff_v10) (wa3ff_c218_cff_hb17 : ifCond.holds .le (Op.cmpValue (FP.dcmp wa3ff_c218_cff_v10 wa3ff_v202) .l) = false) (wa3ff_c218_cff_hb24 : ifCond.holds .gt (Op.cmpValue (FP.dcmp wa3ff_c218_cff_v10 wa3ff_v211) .g) = false) (wa3ff_hb228 : ifCond.holds .ge (Op.cmpValue (FP.dcmp wa3ff_v202 wa3ff_c218_cff_v10) .g) = false) (wa3ff_hb236 : ifCond.holds .gt (Op.cmpValue (FP.dcmp wa3ff_c218_cff_v10 wa3ff_v211) .g) = false) :
    MetFree l x (head1 (Jvm.Cond.code x code maxLocals ret :: ws) room_1) (fun a U => a = #[(.int p0), (.int p1), (.int p2)] ∧ Z.Warmed39 U.vm ∧ U.heap = h0) (fun _ _ _ _ _ => True) (fun _ U o U' => ∃ v L, o = .returned v ∧ own_Q0 n0 v U'.heap L ∧ FrameEnd U o U' L room_1.cells room_1.slots) := by
  refine MetFree.of_bodySF (plainFor_of_name own_pn_com_example_thicket_thicket_core_CutPartitioningBetweenPinLaw) hisR ?_
  intro p e s m args below meth c s₁ Bd hml0 hP hK
  obtain ⟨rfl, hZ, hh⟩ := hP
  have hx := Bd.exec
  have hby := Bd.bytes
  have hml : c.maxLocals = 14 := hml0
  have hown : s.vm.findClass "com/example/thicket/thicket/core/CutPartitioningBetweenPinLaw" = some m.cls := findClass_of_methodNamed Bd.named
  have hnm := (name_of_methodNamed Bd.named Bd.method).1
  have X0 : Stand p l e room_1 s m #[(.int p0), (.int p1), (.int p2)] below meth c s₁ [] 0 0 := Stand.of_body Bd
  have e0 : s₁.heap = h0 := by rw [← hh, Bd.state]; rfl
  have N0 := Fr.nil n0
  have pre0 : ∀ t, Steps p.tables e below (s₁.setTop (mkF m 0 #[.val (.int p0), .val (.int p1), .val (.int p2), .unset, .unset, .unset, .unset, .unset, .unset, .unset, .unset, .unset, .unset, .unset] [])) t → Steps p.tables e below (s₁.setTop (entryFrame m #[(.int p0), (.int p1), (.int p2)] maxLocals)) t := fun t k => castTop (own_ef_wa3ff m p0 p1 p2) k
  obtain ⟨_, _, ⟨Twa3ff1, Lwa3ff1, kwa3ff1, nwa3ff1⟩, -, Xwa3ff1, ⟨Lcwa3ff1, hQwa3ff1, lwa3ff1, ywa3ff1, zwa3ff1⟩, stwa3ff1⟩ := Jvm.LawKit.callS X0 hx (y := (⟨"java/lang/Math", "min", "(II)I"⟩ : MethodName)) hown (mvT hZ (hw _ (List.mem_of_getElem? (i := 8) rfl))) (mvT hZ (hw _ (List.mem_of_getElem? (i := 9) rfl))) (mvT hZ (hw _ (List.mem_of_getElem? (i := 10) rfl))) (mvT hZ (hw _ (List.mem_of_getElem? (i := 11) rfl))) (by decide) (backOf (W := 0) (own_rm_mi l Z a0 hw [] p0 p1 h0 n0 Z0 ) hZ (hw _ (List.mem_of_getElem? (i := 11) rfl)) (hw _ (List.mem_of_getElem? (i := 10) rfl)) (by decide) (by decide)) (g := (mkF m 89 #[.val (.int p0), .val (.int p1), .val (.int p2), .val (.int wa3ff_v2), .unset, .unset, .unset, .unset, .unset, .unset, .unset, .unset, .unset, .unset] [(.int p1), (.int p0)])) rfl (by rw [hml]; rfl) (argsL := [(.int p0), (.int p1)]) (rest := []) (lenOf own_pd_28II29I rfl) rfl (by show 2 * 0 + _ ≤ _; exact Nat.le_of_eq rfl) (hb hby at_89) (fun _ _ => ⟨rfl, e0, (by decide : 0 + 0 ≤ _), (by decide : 0 + 0 ≤ _)⟩)
  dsimp only [Pt.U, Pt.locs, Pt.cells, Pt.slots] at Xwa3ff1 lwa3ff1 ywa3ff1 zwa3ff1 stwa3ff1 hQwa3ff1
  subst lwa3ff1 ywa3ff1 zwa3ff1
  obtain ⟨rfl, Nwa3ff1q, ewa3ff1⟩ := hQwa3ff1
  have Nwa3ff1 := Fr.app N0 Nwa3ff1q
  obtain ⟨_, _, ⟨Twa3ff2, Lwa3ff2, kwa3ff2, nwa3ff2⟩, -, Xwa3ff2, ⟨Lcwa3ff2, hQwa3ff2, lwa3ff2, ywa3ff2, zwa3ff2⟩, stwa3ff2⟩ := Jvm.LawKit.callS Xwa3ff1 hx (y := (⟨"java/lang/Math", "max", "(II)I"⟩ : MethodName)) hown (mvT hZ (hw _ (List.mem_of_getElem? (i := 12) rfl))) (mvT hZ (hw _ (List.mem_of_getElem? (i := 13) rfl))) (mvT hZ (hw _ (List.mem_of_getElem? (i := 10) rfl))) (mvT hZ (hw _ (List.mem_of_getElem? (i := 14) rfl))) (by decide) (backOf (W := 0) (own_rm_ma l Z a0 hw [] p0 p1 h0 n0 Z0 ) hZ (hw _ (List.mem_of_getElem? (i := 14) rfl)) (hw _ (List.mem_of_getElem? (i := 10) rfl)) (by decide) (by decide)) (g := (mkF m 96 #[.val (.int p0), .val (.int p1), .val (.int p2), .val (.int wa3ff_v2), .val (.int (own_imin p0 p1)), .unset, .unset, .unset, .unset, .unset, .unset, .unset, .unset, .unset] [(.int p1), (.int p0)])) rfl (by rw [hml]; rfl) (argsL := [(.int p0), (.int p1)]) (rest := []) (lenOf own_pd_28II29I rfl) rfl (by show 2 * 0 + _ ≤ _; exact Nat.le_of_eq rfl) (hb hby at_96) (fun _ _ => ⟨rfl, ewa3ff1, (by decide : 0 + 0 ≤ _), (by decide : 0 + 0 ≤ _)⟩)
  dsimp only [Pt.U, Pt.locs, Pt.cells, Pt.slots] at Xwa3ff2 lwa3ff2 ywa3ff2 zwa3ff2 stwa3ff2 hQwa3ff2
  subst lwa3ff2 ywa3ff2 zwa3ff2
  obtain ⟨rfl, Nwa3ff2q, ewa3ff2⟩ := hQwa3ff2
  have Nwa3ff2 := Fr.app Nwa3ff1 Nwa3ff2q
  obtain ⟨_, _, ⟨Twa3ff3, Lwa3ff3, kwa3ff3, nwa3ff3⟩, -, Xwa3ff3, ⟨Lcwa3ff3, hQwa3ff3, lwa3ff3, ywa3ff3, zwa3ff3⟩, stwa3ff3⟩ := Jvm.LawKit.callS Xwa3ff2 hx (y := (⟨"com/example/thicket/thicket/core/CutPartitioning", "between", "(DD)D"⟩ : MethodName)) hown (mvT hZ (hw _ (List.mem_of_getElem? (i := 3) rfl))) (mvT hZ (hw _ (List.mem_of_getElem? (i := 4) rfl))) (mvT hZ (hw _ (List.mem_of_getElem? (i := 5) rfl))) (mvT hZ (hw _ (List.mem_of_getElem? (i := 6) rfl))) (by decide) (backOf (W := 0) (own_rm_cff l Z a0 hw [] wa3ff_v202 wa3ff_v211 h0 n0 Z0 wa3ff_c218_cff_hn4 wa3ff_c218_cff_hv4 wa3ff_c218_cff_hn9 wa3ff_c218_cff_hv9 wa3ff_c218_cff_hn10 wa3ff_c218_cff_hv10 wa3ff_c218_cff_hb17 wa3ff_c218_cff_hb24) hZ (hw _ (List.mem_of_getElem? (i := 6) rfl)) (hw _ (List.mem_of_getElem? (i := 5) rfl)) (by decide) (by decide)) (g := (mkF m 218 #[.val (.int p0), .val (.int p1), .val (.int p2), .val (.int wa3ff_v2), .val (.int (own_imin p0 p1)), .val (.int (own_imax p0 p1)), .val (.long wa3ff_v116), .second, .val (.double wa3ff_v202), .second, .val (.double wa3ff_v211), .second, .unset, .unset] [(.double wa3ff_v211), (.double wa3ff_v202)])) rfl (by rw [hml]; rfl) (argsL := [(.double wa3ff_v202), (.double wa3ff_v211)]) (rest := []) (lenOf own_pd_28DD29D rfl) rfl (by show 2 * 0 + _ ≤ _; exact Nat.le_of_eq rfl) (hb hby at_218) (fun _ _ => ⟨rfl, ewa3ff2, (by decide : 0 + 0 ≤ _), (by decide : 0 + 0 ≤ _)⟩)
  dsimp only [Pt.U, Pt.locs, Pt.cells, Pt.slots] at Xwa3ff3 lwa3ff3 ywa3ff3 zwa3ff3 stwa3ff3 hQwa3ff3
  subst lwa3ff3 ywa3ff3 zwa3ff3
  obtain ⟨rfl, Nwa3ff3q, ewa3ff3⟩ := hQwa3ff3
  have Nwa3ff3 := Fr.app Nwa3ff2 Nwa3ff3q
  obtain ⟨fs, hr, hrun, hended, hW, hsame⟩ := Xwa3ff3.leave (v := some (.int (1 : Int32))) (fun h => by rw [Bd.returns] at h; cases h)
  refine ⟨_, _, pre0 _ ?_, hrun, hended, _, _, rfl, ?_, ⟨_, rfl⟩, hW, hsame.mono (by decide) (by decide)⟩
  · refine own_s_iloadN X0.here hx (hb hby at_0) (pc' := 1) rfl rfl ?_
    refine own_s_iconst X0.here hx (hb hby at_1) (pc' := 2) rfl (v := (3 : Int32)) (by decide) ?_
    refine own_s_iand X0.here hx (hb hby at_2) (pc' := 3) rfl (v := wa3ff_v2) wa3ff_hv2 ?_
    refine own_s_istoreN X0.here hx (hb hby at_3) (pc' := 4) rfl (L' := #[.val (.int p0), .val (.int p1), .val (.int p2), .val (.int wa3ff_v2), .unset, .unset, .unset, .unset, .unset, .unset, .unset, .unset, .unset, .unset]) rfl ?_
    refine own_s_iloadN X0.here hx (hb hby at_4) (pc' := 5) rfl rfl ?_
    refine own_s_iconst X0.here hx (hb hby at_5) (pc' := 6) rfl (v := (2 : Int32)) (by decide) ?_
    refine own_s_icmpYes X0.here hx (hb hby at_6) (by decide) (pc' := 87) (by decide) wa3ff_hb6 ?_
    refine own_s_iloadN X0.here hx (hb hby at_87) (pc' := 88) rfl rfl ?_
    refine own_s_iloadN X0.here hx (hb hby at_88) (pc' := 89) rfl rfl ?_
    refine stwa3ff1 _ ?_
    show Steps p.tables e below (Twa3ff1.setTop (mkF m 92 #[.val (.int p0), .val (.int p1), .val (.int p2), .val (.int wa3ff_v2), .unset, .unset, .unset, .unset, .unset, .unset, .unset, .unset, .unset, .unset] [(.int (own_imin p0 p1))])) _
    refine own_s_istore Xwa3ff1.here hx (hb hby at_92) (pc' := 94) rfl (L' := #[.val (.int p0), .val (.int p1), .val (.int p2), .val (.int wa3ff_v2), .val (.int (own_imin p0 p1)), .unset, .unset, .unset, .unset, .unset, .unset, .unset, .unset, .unset]) rfl ?_
    refine own_s_iloadN Xwa3ff1.here hx (hb hby at_94) (pc' := 95) rfl rfl ?_
    refine own_s_iloadN Xwa3ff1.here hx (hb hby at_95) (pc' := 96) rfl rfl ?_
    refine stwa3ff2 _ ?_
    show Steps p.tables e below (Twa3ff2.setTop (mkF m 99 #[.val (.int p0), .val (.int p1), .val (.int p2), .val (.int wa3ff_v2), .val (.int (own_imin p0 p1)), .unset, .unset, .unset, .unset, .unset, .unset, .unset, .unset, .unset] [(.int (own_imax p0 p1))])) _
    refine own_s_istore Xwa3ff2.here hx (hb hby at_99) (pc' := 101) rfl (L' := #[.val (.int p0), .val (.int p1), .val (.int p2), .val (.int wa3ff_v2), .val (.int (own_imin p0 p1)), .val (.int (own_imax p0 p1)), .unset, .unset, .unset, .unset, .unset, .unset, .unset, .unset]) rfl ?_
    refine own_s_iload Xwa3ff2.here hx (hb hby at_101) (pc' := 103) rfl rfl ?_
    refine own_s_iload Xwa3ff2.here hx (hb hby at_103) (pc' := 105) rfl rfl ?_
    refine own_s_icmpYes Xwa3ff2.here hx (hb hby at_105) (by decide) (pc' := 110) (by decide) wa3ff_hb105 ?_
    refine own_s_iload Xwa3ff2.here hx (hb hby at_110) (pc' := 112) rfl rfl ?_
    refine own_s_i2l Xwa3ff2.here hx (hb hby at_112) (pc' := 113) rfl (v := wa3ff_v112) wa3ff_hv112 ?_
    refine own_s_iload Xwa3ff2.here hx (hb hby at_113) (pc' := 115) rfl rfl ?_
    refine own_s_i2l Xwa3ff2.here hx (hb hby at_115) (pc' := 116) rfl (v := wa3ff_v115) wa3ff_hv115 ?_
    refine own_s_ladd Xwa3ff2.here hx (hb hby at_116) (pc' := 117) rfl (v := wa3ff_v116) wa3ff_hv116 ?_
    refine own_s_lstore Xwa3ff2.here hx (hb hby at_117) (pc' := 119) rfl (L' := #[.val (.int p0), .val (.int p1), .val (.int p2), .val (.int wa3ff_v2), .val (.int (own_imin p0 p1)), .val (.int (own_imax p0 p1)), .val (.long wa3ff_v116), .second, .unset, .unset, .unset, .unset, .unset, .unset]) rfl ?_
    refine own_s_iloadN Xwa3ff2.here hx (hb hby at_119) (pc' := 120) rfl rfl ?_
    refine own_s_ifYes Xwa3ff2.here hx (hb hby at_120) (by decide) (pc' := 153) (by decide) wa3ff_hb120 ?_
    refine own_s_iloadN Xwa3ff2.here hx (hb hby at_153) (pc' := 154) rfl rfl ?_
    refine own_s_iconst Xwa3ff2.here hx (hb hby at_154) (pc' := 155) rfl (v := (1 : Int32)) (by decide) ?_
    refine own_s_icmpYes Xwa3ff2.here hx (hb hby at_155) (by decide) (pc' := 196) (by decide) wa3ff_hb155 ?_
    refine own_s_iload Xwa3ff2.here hx (hb hby at_196) (pc' := 198) rfl rfl ?_
    refine own_s_i2d Xwa3ff2.here hx (hb hby at_198) (pc' := 199) rfl (v := (FP.i2d (own_imin p0 p1))) rfl ?_
    refine Xwa3ff2.ldc2DoubleC hx hown (mvT hZ (hw _ (List.mem_of_getElem? (i := 15) rfl))) (g := (mkF m 199 #[.val (.int p0), .val (.int p1), .val (.int p2), .val (.int wa3ff_v2), .val (.int (own_imin p0 p1)), .val (.int (own_imax p0 p1)), .val (.long wa3ff_v116), .second, .unset, .unset, .unset, .unset, .unset, .unset] [(.double (FP.i2d (own_imin p0 p1)))])) rfl (hb hby at_199) _ ?_
    show Steps p.tables e below (Twa3ff2.setTop (mkF m 202 #[.val (.int p0), .val (.int p1), .val (.int p2), .val (.int wa3ff_v2), .val (.int (own_imin p0 p1)), .val (.int (own_imax p0 p1)), .val (.long wa3ff_v116), .second, .unset, .unset, .unset, .unset, .unset, .unset] [(.double (1 : UInt64)), (.double (FP.i2d (own_imin p0 p1)))])) _
    refine own_s_dmul Xwa3ff2.here hx (hb hby at_202) (pc' := 203) rfl wa3ff_hn202 (v := wa3ff_v202) wa3ff_hv202 ?_
    refine own_s_dstore Xwa3ff2.here hx (hb hby at_203) (pc' := 205) rfl (L' := #[.val (.int p0), .val (.int p1), .val (.int p2), .val (.int wa3ff_v2), .val (.int (own_imin p0 p1)), .val (.int (own_imax p0 p1)), .val (.long wa3ff_v116), .second, .val (.double wa3ff_v202), .second, .unset, .unset, .unset, .unset]) rfl ?_
    refine own_s_iload Xwa3ff2.here hx (hb hby at_205) (pc' := 207) rfl rfl ?_
    refine own_s_i2d Xwa3ff2.here hx (hb hby at_207) (pc' := 208) rfl (v := (FP.i2d (own_imax p0 p1))) rfl ?_
    refine Xwa3ff2.ldc2DoubleC hx hown (mvT hZ (hw _ (List.mem_of_getElem? (i := 15) rfl))) (g := (mkF m 208 #[.val (.int p0), .val (.int p1), .val (.int p2), .val (.int wa3ff_v2), .val (.int (own_imin p0 p1)), .val (.int (own_imax p0 p1)), .val (.long wa3ff_v116), .second, .val (.double wa3ff_v202), .second, .unset, .unset, .unset, .unset] [(.double (FP.i2d (own_imax p0 p1)))])) rfl (hb hby at_208) _ ?_
    show Steps p.tables e below (Twa3ff2.setTop (mkF m 211 #[.val (.int p0), .val (.int p1), .val (.int p2), .val (.int wa3ff_v2), .val (.int (own_imin p0 p1)), .val (.int (own_imax p0 p1)), .val (.long wa3ff_v116), .second, .val (.double wa3ff_v202), .second, .unset, .unset, .unset, .unset] [(.double (1 : UInt64)), (.double (FP.i2d (own_imax p0 p1)))])) _
    refine own_s_dmul Xwa3ff2.here hx (hb hby at_211) (pc' := 212) rfl wa3ff_hn211 (v := wa3ff_v211) wa3ff_hv211 ?_
    refine own_s_dstore Xwa3ff2.here hx (hb hby at_212) (pc' := 214) rfl (L' := #[.val (.int p0), .val (.int p1), .val (.int p2), .val (.int wa3ff_v2), .val (.int (own_imin p0 p1)), .val (.int (own_imax p0 p1)), .val (.long wa3ff_v116), .second, .val (.double wa3ff_v202), .second, .val (.double wa3ff_v211), .second, .unset, .unset]) rfl ?_
    refine own_s_dload Xwa3ff2.here hx (hb hby at_214) (pc' := 216) rfl rfl ?_
    refine own_s_dload Xwa3ff2.here hx (hb hby at_216) (pc' := 218) rfl rfl ?_
    refine stwa3ff3 _ ?_
    show Steps p.tables e below (Twa3ff3.setTop (mkF m 221 #[.val (.int p0), .val (.int p1), .val (.int p2), .val (.int wa3ff_v2), .val (.int (own_imin p0 p1)), .val (.int (own_imax p0 p1)), .val (.long wa3ff_v116), .second, .val (.double wa3ff_v202), .second, .val (.double wa3ff_v211), .second, .unset, .unset] [(.double wa3ff_c218_cff_v10)])) _
    refine own_s_dstore Xwa3ff3.here hx (hb hby at_221) (pc' := 223) rfl (L' := #[.val (.int p0), .val (.int p1), .val (.int p2), .val (.int wa3ff_v2), .val (.int (own_imin p0 p1)), .val (.int (own_imax p0 p1)), .val (.long wa3ff_v116), .second, .val (.double wa3ff_v202), .second, .val (.double wa3ff_v211), .second, .val (.double wa3ff_c218_cff_v10), .second]) rfl ?_
    refine own_s_dload Xwa3ff3.here hx (hb hby at_223) (pc' := 225) rfl rfl ?_
    refine own_s_dload Xwa3ff3.here hx (hb hby at_225) (pc' := 227) rfl rfl ?_
    refine own_s_dcmp Xwa3ff3.here hx (hb hby at_227) (pc' := 228) rfl (v := (Op.cmpValue (FP.dcmp wa3ff_v202 wa3ff_c218_cff_v10) .g)) rfl ?_
    refine own_s_ifNo Xwa3ff3.here hx (hb hby at_228) (pc' := 231) rfl wa3ff_hb228 ?_
    refine own_s_dload Xwa3ff3.here hx (hb hby at_231) (pc' := 233) rfl rfl ?_
    refine own_s_dload Xwa3ff3.here hx (hb hby at_233) (pc' := 235) rfl rfl ?_
    refine own_s_dcmp Xwa3ff3.here hx (hb hby at_235) (pc' := 236) rfl (v := (Op.cmpValue (FP.dcmp wa3ff_c218_cff_v10 wa3ff_v211) .g)) rfl ?_
    refine own_s_ifNo Xwa3ff3.here hx (hb hby at_236) (pc' := 239) rfl wa3ff_hb236 ?_
    refine own_s_iconst Xwa3ff3.here hx (hb hby at_239) (pc' := 240) rfl (v := (1 : Int32)) (by decide) ?_
    refine own_s_goto Xwa3ff3.here hx (hb hby at_240) (by decide) (pc' := 244) (by decide) ?_
    exact retN Xwa3ff3 hx (t := .boolean) Bd.returns (by simp) (hb hby at_244) hr
  · show own_Q0 n0 _ Twa3ff3.heap _
    rw [ewa3ff3]
    exact ⟨rfl, Nwa3ff3⟩
theorem own_ef_wbpff (m : MethodId) (p0 : Int32) (p1 : Int32) (p2 : Int32) : entryFrame m #[(.int p0), (.int p1), (.int p2)] maxLocals = mkF m 0 #[.val (.int p0), .val (.int p1), .val (.int p2), .unset, .unset, .unset, .unset, .unset, .unset, .unset, .unset, .unset, .unset, .unset] [] := by first | (simp [entryFrame, mkF, argsToLocals, Value.category, maxLocals]; done) | rfl
set_option maxRecDepth 65536 in
set_option maxHeartbeats 40000000 in
theorem own_rm_wbpff (l : Launch) (Z : State) (a0 : Array Value) (hw : ∀ d ∈ tables_1, d.before a0 Z = true) (ws : List Jvm.Cond) (p0 : Int32) (p1 : Int32) (p2 : Int32) {wbpff_v2 : Int32} {wbpff_v16 : Int64} {wbpff_v20 : Int64} {wbpff_v21 : Int64} {wbpff_v22 : Int64} {wbpff_v27 : Int32} {wbpff_v60 : Int64} {wbpff_c68_cff_v4 : UInt64} {wbpff_c68_cff_v9 : UInt64} {wbpff_c68_cff_v10 : UInt64} (h0 : Heap) (n0 : Nat) (Z0 : n0 ≤ h0.size)  (wbpff_hv2 : p2 &&& (3 : Int32) = wbpff_v2) (wbpff_hb6 : if_icmp.holds .ne wbpff_v2 (2 : Int32) = false) (wbpff_hv16 : Int32.toInt64 p0 = wbpff_v16) (wbpff_hv20 : wbpff_v16 &&& (4294967295 : Int64) = wbpff_v20) (wbpff_hv21 : (2 : Int64) * wbpff_v20 = wbpff_v21) (wbpff_hv22 : (9007199254740992 : Int64) + wbpff_v21 = wbpff_v22) (wbpff_hv27 : p2 &&& (4 : Int32) = wbpff_v27) (wbpff_hb28 : ifCond.holds .eq wbpff_v27 = true) (wbpff_hv60 : wbpff_v22 + (2 : Int64) = wbpff_v60) (wbpff_c68_cff_hn4 : Jvm.Free.Fl.NoNaN64 (FP.ddiv (FP.l2d wbpff_v22) (4611686018427387904 : UInt64))) (wbpff_c68_cff_hv4 : FP.ddiv (FP.l2d wbpff_v22) (4611686018427387904 : UInt64) = wbpff_c68_cff_v4) (wbpff_c68_cff_hn9 : Jvm.Free.Fl.NoNaN64 (FP.ddiv (FP.l2d wbpff_v60) (4611686018427387904 : UInt64))) (wbpff_c68_cff_hv9 : FP.ddiv (FP.l2d wbpff_v60) (4611686018427387904 : UInt64) = wbpff_c68_cff_v9) (wbpff_c68_cff_hn10 : Jvm.Free.Fl.NoNaN64 (FP.dadd wbpff_c68_cff_v4 wbpff_c68_cff_v9)) (wbpff_c68_cff_hv10 : FP.dadd wbpff_c68_cff_v4 wbpff_c68_cff_v9 = wbpff_c68_cff_v10) (wbpff_c68_cff_hb17 : ifCond.holds .le (Op.cmpValue (FP.dcmp wbpff_c68_cff_v10 (FP.l2d wbpff_v22)) .l) = false) (wbpff_c68_cff_hb24 : ifCond.holds .gt (Op.cmpValue (FP.dcmp wbpff_c68_cff_v10 (FP.l2d wbpff_v60)) .g) = false) (wbpff_hc77 : Op.cmpValue (FP.dcmp wbpff_c68_cff_v10 (FP.l2d wbpff_v60)) .l = (0 : Int32)) :
    MetFree l x (head1 (Jvm.Cond.code x code maxLocals ret :: ws) room_1) (fun a U => a = #[(.int p0), (.int p1), (.int p2)] ∧ Z.Warmed39 U.vm ∧ U.heap = h0) (fun _ _ _ _ _ => True) (fun _ U o U' => ∃ v L, o = .returned v ∧ own_Q0 n0 v U'.heap L ∧ FrameEnd U o U' L room_1.cells room_1.slots) := by
  refine MetFree.of_bodySF (plainFor_of_name own_pn_com_example_thicket_thicket_core_CutPartitioningBetweenPinLaw) hisR ?_
  intro p e s m args below meth c s₁ Bd hml0 hP hK
  obtain ⟨rfl, hZ, hh⟩ := hP
  have hx := Bd.exec
  have hby := Bd.bytes
  have hml : c.maxLocals = 14 := hml0
  have hown : s.vm.findClass "com/example/thicket/thicket/core/CutPartitioningBetweenPinLaw" = some m.cls := findClass_of_methodNamed Bd.named
  have hnm := (name_of_methodNamed Bd.named Bd.method).1
  have X0 : Stand p l e room_1 s m #[(.int p0), (.int p1), (.int p2)] below meth c s₁ [] 0 0 := Stand.of_body Bd
  have e0 : s₁.heap = h0 := by rw [← hh, Bd.state]; rfl
  have N0 := Fr.nil n0
  have pre0 : ∀ t, Steps p.tables e below (s₁.setTop (mkF m 0 #[.val (.int p0), .val (.int p1), .val (.int p2), .unset, .unset, .unset, .unset, .unset, .unset, .unset, .unset, .unset, .unset, .unset] [])) t → Steps p.tables e below (s₁.setTop (entryFrame m #[(.int p0), (.int p1), (.int p2)] maxLocals)) t := fun t k => castTop (own_ef_wbpff m p0 p1 p2) k
  obtain ⟨_, _, ⟨Twbpff1, Lwbpff1, kwbpff1, nwbpff1⟩, -, Xwbpff1, ⟨Lcwbpff1, hQwbpff1, lwbpff1, ywbpff1, zwbpff1⟩, stwbpff1⟩ := Jvm.LawKit.callS X0 hx (y := (⟨"com/example/thicket/thicket/core/CutPartitioning", "between", "(DD)D"⟩ : MethodName)) hown (mvT hZ (hw _ (List.mem_of_getElem? (i := 3) rfl))) (mvT hZ (hw _ (List.mem_of_getElem? (i := 4) rfl))) (mvT hZ (hw _ (List.mem_of_getElem? (i := 5) rfl))) (mvT hZ (hw _ (List.mem_of_getElem? (i := 6) rfl))) (by decide) (backOf (W := 0) (own_rm_cff l Z a0 hw [] (FP.l2d wbpff_v22) (FP.l2d wbpff_v60) h0 n0 Z0 wbpff_c68_cff_hn4 wbpff_c68_cff_hv4 wbpff_c68_cff_hn9 wbpff_c68_cff_hv9 wbpff_c68_cff_hn10 wbpff_c68_cff_hv10 wbpff_c68_cff_hb17 wbpff_c68_cff_hb24) hZ (hw _ (List.mem_of_getElem? (i := 6) rfl)) (hw _ (List.mem_of_getElem? (i := 5) rfl)) (by decide) (by decide)) (g := (mkF m 68 #[.val (.int p0), .val (.int p1), .val (.int p2), .val (.int wbpff_v2), .val (.long wbpff_v22), .second, .val (.double (FP.l2d wbpff_v22)), .second, .val (.double (FP.l2d wbpff_v60)), .second, .unset, .unset, .unset, .unset] [(.double (FP.l2d wbpff_v60)), (.double (FP.l2d wbpff_v22))])) rfl (by rw [hml]; rfl) (argsL := [(.double (FP.l2d wbpff_v22)), (.double (FP.l2d wbpff_v60))]) (rest := []) (lenOf own_pd_28DD29D rfl) rfl (by show 2 * 0 + _ ≤ _; exact Nat.le_of_eq rfl) (hb hby at_68) (fun _ _ => ⟨rfl, e0, (by decide : 0 + 0 ≤ _), (by decide : 0 + 0 ≤ _)⟩)
  dsimp only [Pt.U, Pt.locs, Pt.cells, Pt.slots] at Xwbpff1 lwbpff1 ywbpff1 zwbpff1 stwbpff1 hQwbpff1
  subst lwbpff1 ywbpff1 zwbpff1
  obtain ⟨rfl, Nwbpff1q, ewbpff1⟩ := hQwbpff1
  have Nwbpff1 := Fr.app N0 Nwbpff1q
  obtain ⟨fs, hr, hrun, hended, hW, hsame⟩ := Xwbpff1.leave (v := some (.int (1 : Int32))) (fun h => by rw [Bd.returns] at h; cases h)
  refine ⟨_, _, pre0 _ ?_, hrun, hended, _, _, rfl, ?_, ⟨_, rfl⟩, hW, hsame.mono (by decide) (by decide)⟩
  · refine own_s_iloadN X0.here hx (hb hby at_0) (pc' := 1) rfl rfl ?_
    refine own_s_iconst X0.here hx (hb hby at_1) (pc' := 2) rfl (v := (3 : Int32)) (by decide) ?_
    refine own_s_iand X0.here hx (hb hby at_2) (pc' := 3) rfl (v := wbpff_v2) wbpff_hv2 ?_
    refine own_s_istoreN X0.here hx (hb hby at_3) (pc' := 4) rfl (L' := #[.val (.int p0), .val (.int p1), .val (.int p2), .val (.int wbpff_v2), .unset, .unset, .unset, .unset, .unset, .unset, .unset, .unset, .unset, .unset]) rfl ?_
    refine own_s_iloadN X0.here hx (hb hby at_4) (pc' := 5) rfl rfl ?_
    refine own_s_iconst X0.here hx (hb hby at_5) (pc' := 6) rfl (v := (2 : Int32)) (by decide) ?_
    refine own_s_icmpNo X0.here hx (hb hby at_6) (pc' := 9) rfl wbpff_hb6 ?_
    refine X0.ldc2Long hx hown (mvT hZ (hw _ (List.mem_of_getElem? (i := 0) rfl))) (g := (mkF m 9 #[.val (.int p0), .val (.int p1), .val (.int p2), .val (.int wbpff_v2), .unset, .unset, .unset, .unset, .unset, .unset, .unset, .unset, .unset, .unset] [])) rfl (hb hby at_9) _ ?_
    show Steps p.tables e below (s₁.setTop (mkF m 12 #[.val (.int p0), .val (.int p1), .val (.int p2), .val (.int wbpff_v2), .unset, .unset, .unset, .unset, .unset, .unset, .unset, .unset, .unset, .unset] [(.long (9007199254740992 : Int64))])) _
    refine X0.ldc2Long hx hown (mvT hZ (hw _ (List.mem_of_getElem? (i := 1) rfl))) (g := (mkF m 12 #[.val (.int p0), .val (.int p1), .val (.int p2), .val (.int wbpff_v2), .unset, .unset, .unset, .unset, .unset, .unset, .unset, .unset, .unset, .unset] [(.long (9007199254740992 : Int64))])) rfl (hb hby at_12) _ ?_
    show Steps p.tables e below (s₁.setTop (mkF m 15 #[.val (.int p0), .val (.int p1), .val (.int p2), .val (.int wbpff_v2), .unset, .unset, .unset, .unset, .unset, .unset, .unset, .unset, .unset, .unset] [(.long (2 : Int64)), (.long (9007199254740992 : Int64))])) _
    refine own_s_iloadN X0.here hx (hb hby at_15) (pc' := 16) rfl rfl ?_
    refine own_s_i2l X0.here hx (hb hby at_16) (pc' := 17) rfl (v := wbpff_v16) wbpff_hv16 ?_
    refine X0.ldc2Long hx hown (mvT hZ (hw _ (List.mem_of_getElem? (i := 2) rfl))) (g := (mkF m 17 #[.val (.int p0), .val (.int p1), .val (.int p2), .val (.int wbpff_v2), .unset, .unset, .unset, .unset, .unset, .unset, .unset, .unset, .unset, .unset] [(.long wbpff_v16), (.long (2 : Int64)), (.long (9007199254740992 : Int64))])) rfl (hb hby at_17) _ ?_
    show Steps p.tables e below (s₁.setTop (mkF m 20 #[.val (.int p0), .val (.int p1), .val (.int p2), .val (.int wbpff_v2), .unset, .unset, .unset, .unset, .unset, .unset, .unset, .unset, .unset, .unset] [(.long (4294967295 : Int64)), (.long wbpff_v16), (.long (2 : Int64)), (.long (9007199254740992 : Int64))])) _
    refine own_s_land X0.here hx (hb hby at_20) (pc' := 21) rfl (v := wbpff_v20) wbpff_hv20 ?_
    refine own_s_lmul X0.here hx (hb hby at_21) (pc' := 22) rfl (v := wbpff_v21) wbpff_hv21 ?_
    refine own_s_ladd X0.here hx (hb hby at_22) (pc' := 23) rfl (v := wbpff_v22) wbpff_hv22 ?_
    refine own_s_lstore X0.here hx (hb hby at_23) (pc' := 25) rfl (L' := #[.val (.int p0), .val (.int p1), .val (.int p2), .val (.int wbpff_v2), .val (.long wbpff_v22), .second, .unset, .unset, .unset, .unset, .unset, .unset, .unset, .unset]) rfl ?_
    refine own_s_iloadN X0.here hx (hb hby at_25) (pc' := 26) rfl rfl ?_
    refine own_s_iconst X0.here hx (hb hby at_26) (pc' := 27) rfl (v := (4 : Int32)) (by decide) ?_
    refine own_s_iand X0.here hx (hb hby at_27) (pc' := 28) rfl (v := wbpff_v27) wbpff_hv27 ?_
    refine own_s_ifYes X0.here hx (hb hby at_28) (by decide) (pc' := 50) (by decide) wbpff_hb28 ?_
    refine own_s_lload X0.here hx (hb hby at_50) (pc' := 52) rfl rfl ?_
    refine own_s_l2d X0.here hx (hb hby at_52) (pc' := 53) rfl (v := (FP.l2d wbpff_v22)) rfl ?_
    refine own_s_dstore X0.here hx (hb hby at_53) (pc' := 55) rfl (L' := #[.val (.int p0), .val (.int p1), .val (.int p2), .val (.int wbpff_v2), .val (.long wbpff_v22), .second, .val (.double (FP.l2d wbpff_v22)), .second, .unset, .unset, .unset, .unset, .unset, .unset]) rfl ?_
    refine own_s_lload X0.here hx (hb hby at_55) (pc' := 57) rfl rfl ?_
    refine X0.ldc2Long hx hown (mvT hZ (hw _ (List.mem_of_getElem? (i := 1) rfl))) (g := (mkF m 57 #[.val (.int p0), .val (.int p1), .val (.int p2), .val (.int wbpff_v2), .val (.long wbpff_v22), .second, .val (.double (FP.l2d wbpff_v22)), .second, .unset, .unset, .unset, .unset, .unset, .unset] [(.long wbpff_v22)])) rfl (hb hby at_57) _ ?_
    show Steps p.tables e below (s₁.setTop (mkF m 60 #[.val (.int p0), .val (.int p1), .val (.int p2), .val (.int wbpff_v2), .val (.long wbpff_v22), .second, .val (.double (FP.l2d wbpff_v22)), .second, .unset, .unset, .unset, .unset, .unset, .unset] [(.long (2 : Int64)), (.long wbpff_v22)])) _
    refine own_s_ladd X0.here hx (hb hby at_60) (pc' := 61) rfl (v := wbpff_v60) wbpff_hv60 ?_
    refine own_s_l2d X0.here hx (hb hby at_61) (pc' := 62) rfl (v := (FP.l2d wbpff_v60)) rfl ?_
    refine own_s_dstore X0.here hx (hb hby at_62) (pc' := 64) rfl (L' := #[.val (.int p0), .val (.int p1), .val (.int p2), .val (.int wbpff_v2), .val (.long wbpff_v22), .second, .val (.double (FP.l2d wbpff_v22)), .second, .val (.double (FP.l2d wbpff_v60)), .second, .unset, .unset, .unset, .unset]) rfl ?_
    refine own_s_dload X0.here hx (hb hby at_64) (pc' := 66) rfl rfl ?_
    refine own_s_dload X0.here hx (hb hby at_66) (pc' := 68) rfl rfl ?_
    refine stwbpff1 _ ?_
    show Steps p.tables e below (Twbpff1.setTop (mkF m 71 #[.val (.int p0), .val (.int p1), .val (.int p2), .val (.int wbpff_v2), .val (.long wbpff_v22), .second, .val (.double (FP.l2d wbpff_v22)), .second, .val (.double (FP.l2d wbpff_v60)), .second, .unset, .unset, .unset, .unset] [(.double wbpff_c68_cff_v10)])) _
    refine own_s_dstore Xwbpff1.here hx (hb hby at_71) (pc' := 73) rfl (L' := #[.val (.int p0), .val (.int p1), .val (.int p2), .val (.int wbpff_v2), .val (.long wbpff_v22), .second, .val (.double (FP.l2d wbpff_v22)), .second, .val (.double (FP.l2d wbpff_v60)), .second, .val (.double wbpff_c68_cff_v10), .second, .unset, .unset]) rfl ?_
    refine own_s_dload Xwbpff1.here hx (hb hby at_73) (pc' := 75) rfl rfl ?_
    refine own_s_dload Xwbpff1.here hx (hb hby at_75) (pc' := 77) rfl rfl ?_
    refine own_s_dcmp Xwbpff1.here hx (hb hby at_77) (pc' := 78) rfl (v := (0 : Int32)) wbpff_hc77 ?_
    refine own_s_ifNo Xwbpff1.here hx (hb hby at_78) (pc' := 81) rfl (by decide) ?_
    refine own_s_iconst Xwbpff1.here hx (hb hby at_81) (pc' := 82) rfl (v := (1 : Int32)) (by decide) ?_
    refine own_s_goto Xwbpff1.here hx (hb hby at_82) (by decide) (pc' := 86) (by decide) ?_
    exact retN Xwbpff1 hx (t := .boolean) Bd.returns (by simp) (hb hby at_86) hr
  · show own_Q0 n0 _ Twbpff1.heap _
    rw [ewbpff1]
    exact ⟨rfl, Nwbpff1⟩
theorem own_ef_wbnff (m : MethodId) (p0 : Int32) (p1 : Int32) (p2 : Int32) : entryFrame m #[(.int p0), (.int p1), (.int p2)] maxLocals = mkF m 0 #[.val (.int p0), .val (.int p1), .val (.int p2), .unset, .unset, .unset, .unset, .unset, .unset, .unset, .unset, .unset, .unset, .unset] [] := by first | (simp [entryFrame, mkF, argsToLocals, Value.category, maxLocals]; done) | rfl
set_option maxRecDepth 65536 in
set_option maxHeartbeats 40000000 in
theorem own_rm_wbnff (l : Launch) (Z : State) (a0 : Array Value) (hw : ∀ d ∈ tables_1, d.before a0 Z = true) (ws : List Jvm.Cond) (p0 : Int32) (p1 : Int32) (p2 : Int32) {wbnff_v2 : Int32} {wbnff_v16 : Int64} {wbnff_v20 : Int64} {wbnff_v21 : Int64} {wbnff_v22 : Int64} {wbnff_v27 : Int32} {wbnff_v36 : Int64} {wbnff_c68_cff_v4 : UInt64} {wbnff_c68_cff_v9 : UInt64} {wbnff_c68_cff_v10 : UInt64} (h0 : Heap) (n0 : Nat) (Z0 : n0 ≤ h0.size)  (wbnff_hv2 : p2 &&& (3 : Int32) = wbnff_v2) (wbnff_hb6 : if_icmp.holds .ne wbnff_v2 (2 : Int32) = false) (wbnff_hv16 : Int32.toInt64 p0 = wbnff_v16) (wbnff_hv20 : wbnff_v16 &&& (4294967295 : Int64) = wbnff_v20) (wbnff_hv21 : (2 : Int64) * wbnff_v20 = wbnff_v21) (wbnff_hv22 : (9007199254740992 : Int64) + wbnff_v21 = wbnff_v22) (wbnff_hv27 : p2 &&& (4 : Int32) = wbnff_v27) (wbnff_hb28 : ifCond.holds .eq wbnff_v27 = false) (wbnff_hv36 : wbnff_v22 + (2 : Int64) = wbnff_v36) (wbnff_c68_cff_hn4 : Jvm.Free.Fl.NoNaN64 (FP.ddiv (FP.dneg (FP.l2d wbnff_v36)) (4611686018427387904 : UInt64))) (wbnff_c68_cff_hv4 : FP.ddiv (FP.dneg (FP.l2d wbnff_v36)) (4611686018427387904 : UInt64) = wbnff_c68_cff_v4) (wbnff_c68_cff_hn9 : Jvm.Free.Fl.NoNaN64 (FP.ddiv (FP.dneg (FP.l2d wbnff_v22)) (4611686018427387904 : UInt64))) (wbnff_c68_cff_hv9 : FP.ddiv (FP.dneg (FP.l2d wbnff_v22)) (4611686018427387904 : UInt64) = wbnff_c68_cff_v9) (wbnff_c68_cff_hn10 : Jvm.Free.Fl.NoNaN64 (FP.dadd wbnff_c68_cff_v4 wbnff_c68_cff_v9)) (wbnff_c68_cff_hv10 : FP.dadd wbnff_c68_cff_v4 wbnff_c68_cff_v9 = wbnff_c68_cff_v10) (wbnff_c68_cff_hb17 : ifCond.holds .le (Op.cmpValue (FP.dcmp wbnff_c68_cff_v10 (FP.dneg (FP.l2d wbnff_v36))) .l) = false) (wbnff_c68_cff_hb24 : ifCond.holds .gt (Op.cmpValue (FP.dcmp wbnff_c68_cff_v10 (FP.dneg (FP.l2d wbnff_v22))) .g) = false) (wbnff_hc77 : Op.cmpValue (FP.dcmp wbnff_c68_cff_v10 (FP.dneg (FP.l2d wbnff_v22))) .l = (0 : Int32)) :
    MetFree l x (head1 (Jvm.Cond.code x code maxLocals ret :: ws) room_1) (fun a U => a = #[(.int p0), (.int p1), (.int p2)] ∧ Z.Warmed39 U.vm ∧ U.heap = h0) (fun _ _ _ _ _ => True) (fun _ U o U' => ∃ v L, o = .returned v ∧ own_Q0 n0 v U'.heap L ∧ FrameEnd U o U' L room_1.cells room_1.slots) := by
  refine MetFree.of_bodySF (plainFor_of_name own_pn_com_example_thicket_thicket_core_CutPartitioningBetweenPinLaw) hisR ?_
  intro p e s m args below meth c s₁ Bd hml0 hP hK
  obtain ⟨rfl, hZ, hh⟩ := hP
  have hx := Bd.exec
  have hby := Bd.bytes
  have hml : c.maxLocals = 14 := hml0
  have hown : s.vm.findClass "com/example/thicket/thicket/core/CutPartitioningBetweenPinLaw" = some m.cls := findClass_of_methodNamed Bd.named
  have hnm := (name_of_methodNamed Bd.named Bd.method).1
  have X0 : Stand p l e room_1 s m #[(.int p0), (.int p1), (.int p2)] below meth c s₁ [] 0 0 := Stand.of_body Bd
  have e0 : s₁.heap = h0 := by rw [← hh, Bd.state]; rfl
  have N0 := Fr.nil n0
  have pre0 : ∀ t, Steps p.tables e below (s₁.setTop (mkF m 0 #[.val (.int p0), .val (.int p1), .val (.int p2), .unset, .unset, .unset, .unset, .unset, .unset, .unset, .unset, .unset, .unset, .unset] [])) t → Steps p.tables e below (s₁.setTop (entryFrame m #[(.int p0), (.int p1), (.int p2)] maxLocals)) t := fun t k => castTop (own_ef_wbnff m p0 p1 p2) k
  obtain ⟨_, _, ⟨Twbnff1, Lwbnff1, kwbnff1, nwbnff1⟩, -, Xwbnff1, ⟨Lcwbnff1, hQwbnff1, lwbnff1, ywbnff1, zwbnff1⟩, stwbnff1⟩ := Jvm.LawKit.callS X0 hx (y := (⟨"com/example/thicket/thicket/core/CutPartitioning", "between", "(DD)D"⟩ : MethodName)) hown (mvT hZ (hw _ (List.mem_of_getElem? (i := 3) rfl))) (mvT hZ (hw _ (List.mem_of_getElem? (i := 4) rfl))) (mvT hZ (hw _ (List.mem_of_getElem? (i := 5) rfl))) (mvT hZ (hw _ (List.mem_of_getElem? (i := 6) rfl))) (by decide) (backOf (W := 0) (own_rm_cff l Z a0 hw [] (FP.dneg (FP.l2d wbnff_v36)) (FP.dneg (FP.l2d wbnff_v22)) h0 n0 Z0 wbnff_c68_cff_hn4 wbnff_c68_cff_hv4 wbnff_c68_cff_hn9 wbnff_c68_cff_hv9 wbnff_c68_cff_hn10 wbnff_c68_cff_hv10 wbnff_c68_cff_hb17 wbnff_c68_cff_hb24) hZ (hw _ (List.mem_of_getElem? (i := 6) rfl)) (hw _ (List.mem_of_getElem? (i := 5) rfl)) (by decide) (by decide)) (g := (mkF m 68 #[.val (.int p0), .val (.int p1), .val (.int p2), .val (.int wbnff_v2), .val (.long wbnff_v22), .second, .val (.double (FP.dneg (FP.l2d wbnff_v36))), .second, .val (.double (FP.dneg (FP.l2d wbnff_v22))), .second, .unset, .unset, .unset, .unset] [(.double (FP.dneg (FP.l2d wbnff_v22))), (.double (FP.dneg (FP.l2d wbnff_v36)))])) rfl (by rw [hml]; rfl) (argsL := [(.double (FP.dneg (FP.l2d wbnff_v36))), (.double (FP.dneg (FP.l2d wbnff_v22)))]) (rest := []) (lenOf own_pd_28DD29D rfl) rfl (by show 2 * 0 + _ ≤ _; exact Nat.le_of_eq rfl) (hb hby at_68) (fun _ _ => ⟨rfl, e0, (by decide : 0 + 0 ≤ _), (by decide : 0 + 0 ≤ _)⟩)
  dsimp only [Pt.U, Pt.locs, Pt.cells, Pt.slots] at Xwbnff1 lwbnff1 ywbnff1 zwbnff1 stwbnff1 hQwbnff1
  subst lwbnff1 ywbnff1 zwbnff1
  obtain ⟨rfl, Nwbnff1q, ewbnff1⟩ := hQwbnff1
  have Nwbnff1 := Fr.app N0 Nwbnff1q
  obtain ⟨fs, hr, hrun, hended, hW, hsame⟩ := Xwbnff1.leave (v := some (.int (1 : Int32))) (fun h => by rw [Bd.returns] at h; cases h)
  refine ⟨_, _, pre0 _ ?_, hrun, hended, _, _, rfl, ?_, ⟨_, rfl⟩, hW, hsame.mono (by decide) (by decide)⟩
  · refine own_s_iloadN X0.here hx (hb hby at_0) (pc' := 1) rfl rfl ?_
    refine own_s_iconst X0.here hx (hb hby at_1) (pc' := 2) rfl (v := (3 : Int32)) (by decide) ?_
    refine own_s_iand X0.here hx (hb hby at_2) (pc' := 3) rfl (v := wbnff_v2) wbnff_hv2 ?_
    refine own_s_istoreN X0.here hx (hb hby at_3) (pc' := 4) rfl (L' := #[.val (.int p0), .val (.int p1), .val (.int p2), .val (.int wbnff_v2), .unset, .unset, .unset, .unset, .unset, .unset, .unset, .unset, .unset, .unset]) rfl ?_
    refine own_s_iloadN X0.here hx (hb hby at_4) (pc' := 5) rfl rfl ?_
    refine own_s_iconst X0.here hx (hb hby at_5) (pc' := 6) rfl (v := (2 : Int32)) (by decide) ?_
    refine own_s_icmpNo X0.here hx (hb hby at_6) (pc' := 9) rfl wbnff_hb6 ?_
    refine X0.ldc2Long hx hown (mvT hZ (hw _ (List.mem_of_getElem? (i := 0) rfl))) (g := (mkF m 9 #[.val (.int p0), .val (.int p1), .val (.int p2), .val (.int wbnff_v2), .unset, .unset, .unset, .unset, .unset, .unset, .unset, .unset, .unset, .unset] [])) rfl (hb hby at_9) _ ?_
    show Steps p.tables e below (s₁.setTop (mkF m 12 #[.val (.int p0), .val (.int p1), .val (.int p2), .val (.int wbnff_v2), .unset, .unset, .unset, .unset, .unset, .unset, .unset, .unset, .unset, .unset] [(.long (9007199254740992 : Int64))])) _
    refine X0.ldc2Long hx hown (mvT hZ (hw _ (List.mem_of_getElem? (i := 1) rfl))) (g := (mkF m 12 #[.val (.int p0), .val (.int p1), .val (.int p2), .val (.int wbnff_v2), .unset, .unset, .unset, .unset, .unset, .unset, .unset, .unset, .unset, .unset] [(.long (9007199254740992 : Int64))])) rfl (hb hby at_12) _ ?_
    show Steps p.tables e below (s₁.setTop (mkF m 15 #[.val (.int p0), .val (.int p1), .val (.int p2), .val (.int wbnff_v2), .unset, .unset, .unset, .unset, .unset, .unset, .unset, .unset, .unset, .unset] [(.long (2 : Int64)), (.long (9007199254740992 : Int64))])) _
    refine own_s_iloadN X0.here hx (hb hby at_15) (pc' := 16) rfl rfl ?_
    refine own_s_i2l X0.here hx (hb hby at_16) (pc' := 17) rfl (v := wbnff_v16) wbnff_hv16 ?_
    refine X0.ldc2Long hx hown (mvT hZ (hw _ (List.mem_of_getElem? (i := 2) rfl))) (g := (mkF m 17 #[.val (.int p0), .val (.int p1), .val (.int p2), .val (.int wbnff_v2), .unset, .unset, .unset, .unset, .unset, .unset, .unset, .unset, .unset, .unset] [(.long wbnff_v16), (.long (2 : Int64)), (.long (9007199254740992 : Int64))])) rfl (hb hby at_17) _ ?_
    show Steps p.tables e below (s₁.setTop (mkF m 20 #[.val (.int p0), .val (.int p1), .val (.int p2), .val (.int wbnff_v2), .unset, .unset, .unset, .unset, .unset, .unset, .unset, .unset, .unset, .unset] [(.long (4294967295 : Int64)), (.long wbnff_v16), (.long (2 : Int64)), (.long (9007199254740992 : Int64))])) _
    refine own_s_land X0.here hx (hb hby at_20) (pc' := 21) rfl (v := wbnff_v20) wbnff_hv20 ?_
    refine own_s_lmul X0.here hx (hb hby at_21) (pc' := 22) rfl (v := wbnff_v21) wbnff_hv21 ?_
    refine own_s_ladd X0.here hx (hb hby at_22) (pc' := 23) rfl (v := wbnff_v22) wbnff_hv22 ?_
    refine own_s_lstore X0.here hx (hb hby at_23) (pc' := 25) rfl (L' := #[.val (.int p0), .val (.int p1), .val (.int p2), .val (.int wbnff_v2), .val (.long wbnff_v22), .second, .unset, .unset, .unset, .unset, .unset, .unset, .unset, .unset]) rfl ?_
    refine own_s_iloadN X0.here hx (hb hby at_25) (pc' := 26) rfl rfl ?_
    refine own_s_iconst X0.here hx (hb hby at_26) (pc' := 27) rfl (v := (4 : Int32)) (by decide) ?_
    refine own_s_iand X0.here hx (hb hby at_27) (pc' := 28) rfl (v := wbnff_v27) wbnff_hv27 ?_
    refine own_s_ifNo X0.here hx (hb hby at_28) (pc' := 31) rfl wbnff_hb28 ?_
    refine own_s_lload X0.here hx (hb hby at_31) (pc' := 33) rfl rfl ?_
    refine X0.ldc2Long hx hown (mvT hZ (hw _ (List.mem_of_getElem? (i := 1) rfl))) (g := (mkF m 33 #[.val (.int p0), .val (.int p1), .val (.int p2), .val (.int wbnff_v2), .val (.long wbnff_v22), .second, .unset, .unset, .unset, .unset, .unset, .unset, .unset, .unset] [(.long wbnff_v22)])) rfl (hb hby at_33) _ ?_
    show Steps p.tables e below (s₁.setTop (mkF m 36 #[.val (.int p0), .val (.int p1), .val (.int p2), .val (.int wbnff_v2), .val (.long wbnff_v22), .second, .unset, .unset, .unset, .unset, .unset, .unset, .unset, .unset] [(.long (2 : Int64)), (.long wbnff_v22)])) _
    refine own_s_ladd X0.here hx (hb hby at_36) (pc' := 37) rfl (v := wbnff_v36) wbnff_hv36 ?_
    refine own_s_l2d X0.here hx (hb hby at_37) (pc' := 38) rfl (v := (FP.l2d wbnff_v36)) rfl ?_
    refine own_s_dneg X0.here hx (hb hby at_38) (pc' := 39) rfl (v := (FP.dneg (FP.l2d wbnff_v36))) rfl ?_
    refine own_s_dstore X0.here hx (hb hby at_39) (pc' := 41) rfl (L' := #[.val (.int p0), .val (.int p1), .val (.int p2), .val (.int wbnff_v2), .val (.long wbnff_v22), .second, .val (.double (FP.dneg (FP.l2d wbnff_v36))), .second, .unset, .unset, .unset, .unset, .unset, .unset]) rfl ?_
    refine own_s_lload X0.here hx (hb hby at_41) (pc' := 43) rfl rfl ?_
    refine own_s_l2d X0.here hx (hb hby at_43) (pc' := 44) rfl (v := (FP.l2d wbnff_v22)) rfl ?_
    refine own_s_dneg X0.here hx (hb hby at_44) (pc' := 45) rfl (v := (FP.dneg (FP.l2d wbnff_v22))) rfl ?_
    refine own_s_dstore X0.here hx (hb hby at_45) (pc' := 47) rfl (L' := #[.val (.int p0), .val (.int p1), .val (.int p2), .val (.int wbnff_v2), .val (.long wbnff_v22), .second, .val (.double (FP.dneg (FP.l2d wbnff_v36))), .second, .val (.double (FP.dneg (FP.l2d wbnff_v22))), .second, .unset, .unset, .unset, .unset]) rfl ?_
    refine own_s_goto X0.here hx (hb hby at_47) (by decide) (pc' := 64) (by decide) ?_
    refine own_s_dload X0.here hx (hb hby at_64) (pc' := 66) rfl rfl ?_
    refine own_s_dload X0.here hx (hb hby at_66) (pc' := 68) rfl rfl ?_
    refine stwbnff1 _ ?_
    show Steps p.tables e below (Twbnff1.setTop (mkF m 71 #[.val (.int p0), .val (.int p1), .val (.int p2), .val (.int wbnff_v2), .val (.long wbnff_v22), .second, .val (.double (FP.dneg (FP.l2d wbnff_v36))), .second, .val (.double (FP.dneg (FP.l2d wbnff_v22))), .second, .unset, .unset, .unset, .unset] [(.double wbnff_c68_cff_v10)])) _
    refine own_s_dstore Xwbnff1.here hx (hb hby at_71) (pc' := 73) rfl (L' := #[.val (.int p0), .val (.int p1), .val (.int p2), .val (.int wbnff_v2), .val (.long wbnff_v22), .second, .val (.double (FP.dneg (FP.l2d wbnff_v36))), .second, .val (.double (FP.dneg (FP.l2d wbnff_v22))), .second, .val (.double wbnff_c68_cff_v10), .second, .unset, .unset]) rfl ?_
    refine own_s_dload Xwbnff1.here hx (hb hby at_73) (pc' := 75) rfl rfl ?_
    refine own_s_dload Xwbnff1.here hx (hb hby at_75) (pc' := 77) rfl rfl ?_
    refine own_s_dcmp Xwbnff1.here hx (hb hby at_77) (pc' := 78) rfl (v := (0 : Int32)) wbnff_hc77 ?_
    refine own_s_ifNo Xwbnff1.here hx (hb hby at_78) (pc' := 81) rfl (by decide) ?_
    refine own_s_iconst Xwbnff1.here hx (hb hby at_81) (pc' := 82) rfl (v := (1 : Int32)) (by decide) ?_
    refine own_s_goto Xwbnff1.here hx (hb hby at_82) (by decide) (pc' := 86) (by decide) ?_
    exact retN Xwbnff1 hx (t := .boolean) Bd.returns (by simp) (hb hby at_86) hr
  · show own_Q0 n0 _ Twbnff1.heap _
    rw [ewbnff1]
    exact ⟨rfl, Nwbnff1⟩
set_option maxRecDepth 65536 in
set_option maxHeartbeats 40000000 in
theorem own_rm0 (l : Launch) (Z : State) (a0 : Array Value) (hw : ∀ d ∈ tables_1, d.before a0 Z = true) (ws : List Jvm.Cond) (p0 : Int32) (p1 : Int32) (p2 : Int32) (h0 : Heap) (n0 : Nat) (Z0 : n0 ≤ h0.size)  :
    MetFree l x (head1 (Jvm.Cond.code x code maxLocals ret :: ws) room_1) (fun a U => a = #[(.int p0), (.int p1), (.int p2)] ∧ Z.Warmed39 U.vm ∧ U.heap = h0) (fun _ _ _ _ _ => True) (fun _ U o U' => ∃ v L, o = .returned v ∧ own_Q0 n0 v U'.heap L ∧ FrameEnd U o U' L room_1.cells room_1.slots) := by
  obtain ⟨v2, hv2⟩ : ∃ v, p2 &&& 3 = v := ⟨_, rfl⟩
  have i2 : own_Is 4611686018427387904 1 1 := ⟨(Jvm.FP.Core.fin_bits _).mpr (by decide), by decide, by decide +kernel⟩
  by_cases q6 : v2 = 2
  · have f6 : if_icmp.holds .ne v2 2 = false := XT.ii_ne_f q6
    obtain ⟨v16, hv16⟩ : ∃ v, Int32.toInt64 p0 = v := ⟨_, rfl⟩
    obtain ⟨v20, hv20⟩ : ∃ v, v16 &&& 4294967295 = v := ⟨_, rfl⟩
    have b20 : 0 ≤ v20.toInt ∧ v20.toInt < 4294967296 := by have := c_maskL v16 4294967295 32 (by decide) (by decide); rw [hv20] at this; omega
    obtain ⟨v21, hv21⟩ : ∃ v, 2 * v20 = v := ⟨_, rfl⟩
    have t21 : v21.toInt = 2 * v20.toInt := (own_Lmul (B := 4294967296) hv21 (⟨by decide, by decide, by decide⟩ : own_L (2 : Int64) 2 2) ⟨rfl, by omega, by omega⟩ (by decide)).1
    obtain ⟨v22, hv22⟩ : ∃ v, 9007199254740992 + v21 = v := ⟨_, rfl⟩
    have t22 : v22.toInt = 9007199254740992 + v21.toInt := (own_Ladd (B := 8589934592) hv22 (⟨by decide, by decide, by decide⟩ : own_L (9007199254740992 : Int64) 9007199254740992 9007199254740992) ⟨rfl, by omega, by omega⟩ (by decide)).1
    obtain ⟨v36, hv36⟩ : ∃ v, v22 + 2 = v := ⟨_, rfl⟩
    have t36 : v36.toInt = v22.toInt + 2 := (own_Ladd (A := 9007207844675584) hv36 ⟨rfl, by omega, by omega⟩ (⟨by decide, by decide, by decide⟩ : own_L (2 : Int64) 2 2) (by decide)).1
    have p1' : ((2 ^ 1 : Nat) : Int) = 2 := by decide
    have il := own_l2dR (a := v22) (n := 4503599627370496 + v20.toInt) (e := 1) (by omega) (by omega) (by decide)
    have iu := own_l2dR (a := v36) (n := 4503599627370496 + v20.toInt + 1) (e := 1) (by omega) (by omega) (by decide)
    obtain ⟨v27, hv27⟩ : ∃ v, p2 &&& 4 = v := ⟨_, rfl⟩
    by_cases q28 : v27 = 0
    · have f28 : ifCond.holds .eq v27 = true := XT.i0_eq_t q28
      have jl := il
      have ju := iu
      have hn : (4503599627370496 : Int) ≤ 4503599627370496 + v20.toInt ∨ 4503599627370496 + v20.toInt + 1 ≤ -4503599627370496 := Or.inl (by omega)
      obtain ⟨lo, hlo⟩ : ∃ v, v = (FP.l2d v22) := ⟨_, rfl⟩
      obtain ⟨up, hup⟩ : ∃ v, v = (FP.l2d v36) := ⟨_, rfl⟩
      have jl' := jl
      have ju' := ju
      obtain ⟨h4, h4e⟩ : ∃ v, FP.ddiv (FP.l2d v22) 4611686018427387904 = v := ⟨_, rfl⟩
      obtain ⟨h9, h9e⟩ : ∃ v, FP.ddiv (FP.l2d v36) 4611686018427387904 = v := ⟨_, rfl⟩
      obtain ⟨h10, h10e⟩ : ∃ v, FP.dadd h4 h9 = v := ⟨_, rfl⟩
      have d4 : Jvm.FP.Core.DFin (FP.ddiv (FP.l2d v22) 4611686018427387904) := own_half_fin jl.1
      have d9 : Jvm.FP.Core.DFin (FP.ddiv (FP.l2d v36) 4611686018427387904) := own_half_fin ju.1
      have n4 : Jvm.Free.Fl.NoNaN64 (FP.ddiv (FP.l2d v22) 4611686018427387904) := own_fine_nn d4.ne_nan
      have n9 : Jvm.Free.Fl.NoNaN64 (FP.ddiv (FP.l2d v36) 4611686018427387904) := own_fine_nn d9.ne_nan
      rw [h4e] at d4
      rw [h9e] at d9
      have nh : own_fine (FP.dadd h4 h9) := own_sum_fine d4 d9
      have n10 := own_fine_nn nh
      rw [h10e] at nh
      have nl := own_is_fine jl
      have nu := own_is_fine ju
      have G1 := own_gt nh nl .l
      have G2 := own_gt nh nu .g
      by_cases c1 : own_z h10 ≤ own_z (FP.l2d v22)
      · have g17 : ifCond.holds .le (Op.cmpValue (FP.dcmp h10 (FP.l2d v22)) .l) = true := by rw [G1.2.1]; simpa using c1
        have e77 : Op.cmpValue (FP.dcmp (FP.l2d v36) (FP.l2d v36)) .l = 0 := own_zeq nu nu rfl _
        exact own_rm_wbpt l Z a0 hw ws p0 p1 p2 h0 n0 Z0 (wbpt_hv2 := hv2) (wbpt_hb6 := f6) (wbpt_hv16 := hv16) (wbpt_hv20 := hv20) (wbpt_hv21 := hv21) (wbpt_hv22 := hv22) (wbpt_hv27 := hv27) (wbpt_hb28 := f28) (wbpt_hv60 := hv36) (wbpt_c68_ct_hn4 := n4) (wbpt_c68_ct_hv4 := h4e) (wbpt_c68_ct_hn9 := n9) (wbpt_c68_ct_hv9 := h9e) (wbpt_c68_ct_hn10 := n10) (wbpt_c68_ct_hv10 := h10e) (wbpt_c68_ct_hb17 := g17) (wbpt_hc77 := e77)
      · have g17 : ifCond.holds .le (Op.cmpValue (FP.dcmp h10 (FP.l2d v22)) .l) = false := by rw [G1.2.1]; simpa using c1
        by_cases c2 : own_z (FP.l2d v36) < own_z h10
        · have g24 : ifCond.holds .gt (Op.cmpValue (FP.dcmp h10 (FP.l2d v36)) .g) = true := by rw [G2.1]; simpa using c2
          have e77 : Op.cmpValue (FP.dcmp (FP.l2d v36) (FP.l2d v36)) .l = 0 := own_zeq nu nu rfl _
          exact own_rm_wbpft l Z a0 hw ws p0 p1 p2 h0 n0 Z0 (wbpft_hv2 := hv2) (wbpft_hb6 := f6) (wbpft_hv16 := hv16) (wbpft_hv20 := hv20) (wbpft_hv21 := hv21) (wbpft_hv22 := hv22) (wbpft_hv27 := hv27) (wbpft_hb28 := f28) (wbpft_hv60 := hv36) (wbpft_c68_cft_hn4 := n4) (wbpft_c68_cft_hv4 := h4e) (wbpft_c68_cft_hn9 := n9) (wbpft_c68_cft_hv9 := h9e) (wbpft_c68_cft_hn10 := n10) (wbpft_c68_cft_hv10 := h10e) (wbpft_c68_cft_hb17 := g17) (wbpft_c68_cft_hb24 := g24) (wbpft_hc77 := e77)
        · have g24 : ifCond.holds .gt (Op.cmpValue (FP.dcmp h10 (FP.l2d v36)) .g) = false := by rw [G2.1]; simpa using c2
          have e77 : Op.cmpValue (FP.dcmp h10 (FP.l2d v36)) .l = 0 := own_zeq nh nu (own_gap nh jl ju hn (show own_z (FP.l2d v22) < own_z h10 by omega) (show own_z h10 ≤ own_z (FP.l2d v36) by omega)) _
          exact own_rm_wbpff l Z a0 hw ws p0 p1 p2 h0 n0 Z0 (wbpff_hv2 := hv2) (wbpff_hb6 := f6) (wbpff_hv16 := hv16) (wbpff_hv20 := hv20) (wbpff_hv21 := hv21) (wbpff_hv22 := hv22) (wbpff_hv27 := hv27) (wbpff_hb28 := f28) (wbpff_hv60 := hv36) (wbpff_c68_cff_hn4 := n4) (wbpff_c68_cff_hv4 := h4e) (wbpff_c68_cff_hn9 := n9) (wbpff_c68_cff_hv9 := h9e) (wbpff_c68_cff_hn10 := n10) (wbpff_c68_cff_hv10 := h10e) (wbpff_c68_cff_hb17 := g17) (wbpff_c68_cff_hb24 := g24) (wbpff_hc77 := e77)
    · have f28 : ifCond.holds .eq v27 = false := XT.i0_eq_f q28
      have jl := own_dneg iu
      have ju := own_dneg il
      rw [show -(4503599627370496 + v20.toInt) = -(4503599627370496 + v20.toInt + 1) + 1 by omega] at ju
      have hn : (4503599627370496 : Int) ≤ -(4503599627370496 + v20.toInt + 1) ∨ -(4503599627370496 + v20.toInt + 1) + 1 ≤ -4503599627370496 := Or.inr (by omega)
      obtain ⟨lo, hlo⟩ : ∃ v, v = (FP.dneg (FP.l2d v36)) := ⟨_, rfl⟩
      obtain ⟨up, hup⟩ : ∃ v, v = (FP.dneg (FP.l2d v22)) := ⟨_, rfl⟩
      have jl' := jl
      have ju' := ju
      obtain ⟨h4, h4e⟩ : ∃ v, FP.ddiv (FP.dneg (FP.l2d v36)) 4611686018427387904 = v := ⟨_, rfl⟩
      obtain ⟨h9, h9e⟩ : ∃ v, FP.ddiv (FP.dneg (FP.l2d v22)) 4611686018427387904 = v := ⟨_, rfl⟩
      obtain ⟨h10, h10e⟩ : ∃ v, FP.dadd h4 h9 = v := ⟨_, rfl⟩
      have d4 : Jvm.FP.Core.DFin (FP.ddiv (FP.dneg (FP.l2d v36)) 4611686018427387904) := own_half_fin jl.1
      have d9 : Jvm.FP.Core.DFin (FP.ddiv (FP.dneg (FP.l2d v22)) 4611686018427387904) := own_half_fin ju.1
      have n4 : Jvm.Free.Fl.NoNaN64 (FP.ddiv (FP.dneg (FP.l2d v36)) 4611686018427387904) := own_fine_nn d4.ne_nan
      have n9 : Jvm.Free.Fl.NoNaN64 (FP.ddiv (FP.dneg (FP.l2d v22)) 4611686018427387904) := own_fine_nn d9.ne_nan
      rw [h4e] at d4
      rw [h9e] at d9
      have nh : own_fine (FP.dadd h4 h9) := own_sum_fine d4 d9
      have n10 := own_fine_nn nh
      rw [h10e] at nh
      have nl := own_is_fine jl
      have nu := own_is_fine ju
      have G1 := own_gt nh nl .l
      have G2 := own_gt nh nu .g
      by_cases c1 : own_z h10 ≤ own_z (FP.dneg (FP.l2d v36))
      · have g17 : ifCond.holds .le (Op.cmpValue (FP.dcmp h10 (FP.dneg (FP.l2d v36))) .l) = true := by rw [G1.2.1]; simpa using c1
        have e77 : Op.cmpValue (FP.dcmp (FP.dneg (FP.l2d v22)) (FP.dneg (FP.l2d v22))) .l = 0 := own_zeq nu nu rfl _
        exact own_rm_wbnt l Z a0 hw ws p0 p1 p2 h0 n0 Z0 (wbnt_hv2 := hv2) (wbnt_hb6 := f6) (wbnt_hv16 := hv16) (wbnt_hv20 := hv20) (wbnt_hv21 := hv21) (wbnt_hv22 := hv22) (wbnt_hv27 := hv27) (wbnt_hb28 := f28) (wbnt_hv36 := hv36) (wbnt_c68_ct_hn4 := n4) (wbnt_c68_ct_hv4 := h4e) (wbnt_c68_ct_hn9 := n9) (wbnt_c68_ct_hv9 := h9e) (wbnt_c68_ct_hn10 := n10) (wbnt_c68_ct_hv10 := h10e) (wbnt_c68_ct_hb17 := g17) (wbnt_hc77 := e77)
      · have g17 : ifCond.holds .le (Op.cmpValue (FP.dcmp h10 (FP.dneg (FP.l2d v36))) .l) = false := by rw [G1.2.1]; simpa using c1
        by_cases c2 : own_z (FP.dneg (FP.l2d v22)) < own_z h10
        · have g24 : ifCond.holds .gt (Op.cmpValue (FP.dcmp h10 (FP.dneg (FP.l2d v22))) .g) = true := by rw [G2.1]; simpa using c2
          have e77 : Op.cmpValue (FP.dcmp (FP.dneg (FP.l2d v22)) (FP.dneg (FP.l2d v22))) .l = 0 := own_zeq nu nu rfl _
          exact own_rm_wbnft l Z a0 hw ws p0 p1 p2 h0 n0 Z0 (wbnft_hv2 := hv2) (wbnft_hb6 := f6) (wbnft_hv16 := hv16) (wbnft_hv20 := hv20) (wbnft_hv21 := hv21) (wbnft_hv22 := hv22) (wbnft_hv27 := hv27) (wbnft_hb28 := f28) (wbnft_hv36 := hv36) (wbnft_c68_cft_hn4 := n4) (wbnft_c68_cft_hv4 := h4e) (wbnft_c68_cft_hn9 := n9) (wbnft_c68_cft_hv9 := h9e) (wbnft_c68_cft_hn10 := n10) (wbnft_c68_cft_hv10 := h10e) (wbnft_c68_cft_hb17 := g17) (wbnft_c68_cft_hb24 := g24) (wbnft_hc77 := e77)
        · have g24 : ifCond.holds .gt (Op.cmpValue (FP.dcmp h10 (FP.dneg (FP.l2d v22))) .g) = false := by rw [G2.1]; simpa using c2
          have e77 : Op.cmpValue (FP.dcmp h10 (FP.dneg (FP.l2d v22))) .l = 0 := own_zeq nh nu (own_gap nh jl ju hn (show own_z (FP.dneg (FP.l2d v36)) < own_z h10 by omega) (show own_z h10 ≤ own_z (FP.dneg (FP.l2d v22)) by omega)) _
          exact own_rm_wbnff l Z a0 hw ws p0 p1 p2 h0 n0 Z0 (wbnff_hv2 := hv2) (wbnff_hb6 := f6) (wbnff_hv16 := hv16) (wbnff_hv20 := hv20) (wbnff_hv21 := hv21) (wbnff_hv22 := hv22) (wbnff_hv27 := hv27) (wbnff_hb28 := f28) (wbnff_hv36 := hv36) (wbnff_c68_cff_hn4 := n4) (wbnff_c68_cff_hv4 := h4e) (wbnff_c68_cff_hn9 := n9) (wbnff_c68_cff_hv9 := h9e) (wbnff_c68_cff_hn10 := n10) (wbnff_c68_cff_hv10 := h10e) (wbnff_c68_cff_hb17 := g17) (wbnff_c68_cff_hb24 := g24) (wbnff_hc77 := e77)
  · have f6 : if_icmp.holds .ne v2 2 = true := XT.ii_ne_t q6
    obtain ⟨lo, hlo⟩ : ∃ v, own_imin p0 p1 = v := ⟨_, rfl⟩
    obtain ⟨hi, hhi⟩ : ∃ v, own_imax p0 p1 = v := ⟨_, rfl⟩
    have hle : lo.toInt ≤ hi.toInt := by
      rw [← hlo, ← hhi]; unfold own_imin own_imax
      have e1 := Int32.lt_iff_toInt_lt (x := p0) (y := p1); have e2 := Int32.lt_iff_toInt_lt (x := p1) (y := p0)
      by_cases h1 : p0.toInt < p1.toInt
      · rw [if_neg (by rw [e2]; omega), if_pos (e1.mpr h1)]; omega
      · by_cases h2 : p1.toInt < p0.toInt
        · rw [if_pos (e2.mpr h2), if_neg (by rw [e1]; omega)]; omega
        · rw [if_neg (by rw [e2]; omega), if_neg (by rw [e1]; omega)]; omega
    by_cases q105 : lo = hi
    · have f105 : if_icmp.holds .ne lo hi = false := XT.ii_ne_f q105
      rw [← hlo, ← hhi] at f105
      exact own_rm_wz l Z a0 hw ws p0 p1 p2 h0 n0 Z0 (wz_hv2 := hv2) (wz_hb6 := f6) (wz_hb105 := f105)
    · have f105 : if_icmp.holds .ne lo hi = true := XT.ii_ne_t q105
      have hlt : lo.toInt < hi.toInt := by
        rcases Int.lt_or_eq_of_le hle with h | h
        · exact h
        · exact absurd (Int32.toInt_inj.mp h) q105
      have rl := rng32 lo
      have rh := rng32 hi
      obtain ⟨l1, hl1⟩ : ∃ v, Int32.toInt64 lo = v := ⟨_, rfl⟩
      obtain ⟨l2, hl2⟩ : ∃ v, Int32.toInt64 hi = v := ⟨_, rfl⟩
      obtain ⟨sm, hsm⟩ : ∃ v, l1 + l2 = v := ⟨_, rfl⟩
      have tsm : sm.toInt = lo.toInt + hi.toInt := (own_Ladd hsm (own_Ii2l hl1 (own_Irng lo)) (own_Ii2l hl2 (own_Irng hi)) (by decide)).1
      have hlo' := hlo
      by_cases q120 : v2 = 0
      · have f120 : ifCond.holds .ne v2 = false := XT.i0_ne_f q120
        subst hlo hhi
        have jl := own_i2d (own_imin p0 p1)
        have ju := own_i2d (own_imax p0 p1)
        obtain ⟨h4, h4e⟩ : ∃ v, FP.ddiv (FP.i2d (own_imin p0 p1)) 4611686018427387904 = v := ⟨_, rfl⟩
        obtain ⟨h9, h9e⟩ : ∃ v, FP.ddiv (FP.i2d (own_imax p0 p1)) 4611686018427387904 = v := ⟨_, rfl⟩
        obtain ⟨h10, h10e⟩ : ∃ v, FP.dadd h4 h9 = v := ⟨_, rfl⟩
        have d4 : Jvm.FP.Core.DFin (FP.ddiv (FP.i2d (own_imin p0 p1)) 4611686018427387904) := own_half_fin jl.1
        have d9 : Jvm.FP.Core.DFin (FP.ddiv (FP.i2d (own_imax p0 p1)) 4611686018427387904) := own_half_fin ju.1
        have n4 : Jvm.Free.Fl.NoNaN64 (FP.ddiv (FP.i2d (own_imin p0 p1)) 4611686018427387904) := own_fine_nn d4.ne_nan
        have n9 : Jvm.Free.Fl.NoNaN64 (FP.ddiv (FP.i2d (own_imax p0 p1)) 4611686018427387904) := own_fine_nn d9.ne_nan
        rw [h4e] at d4
        rw [h9e] at d9
        have nh : own_fine (FP.dadd h4 h9) := own_sum_fine d4 d9
        have n10 := own_fine_nn nh
        rw [h10e] at nh
        have k4 := own_div jl i2 (by decide) (Int.mul_one _).symm (e := -1) (by decide) (by decide) (by decide) (by omega)
        rw [show Jvm.FP.Core.ddiv (Jvm.FP.Core.i2d (own_imin p0 p1)) 4611686018427387904 = h4 from h4e] at k4
        have k9 := own_div ju i2 (by decide) (Int.mul_one _).symm (e := -1) (by decide) (by decide) (by decide) (by omega)
        rw [show Jvm.FP.Core.ddiv (Jvm.FP.Core.i2d (own_imax p0 p1)) 4611686018427387904 = h9 from h9e] at k9
        have k10 := own_add k4 k9 (by decide) (by omega)
        rw [show Jvm.FP.Core.dadd h4 h9 = h10 from h10e] at k10
        have p2' : ((2 ^ 1 : Nat) : Int) = 2 := by decide
        have jl' := own_shift 1 jl (e' := -1) (by decide) (by decide)
        have ju' := own_shift 1 ju (e' := -1) (by decide) (by decide)
        have g17 : ifCond.holds .le (Op.cmpValue (FP.dcmp h10 (FP.i2d (own_imin p0 p1))) .l) = false := by rw [(own_cmpv k10 jl' .l).2.2 (by omega)]; decide
        have g24 : ifCond.holds .gt (Op.cmpValue (FP.dcmp h10 (FP.i2d (own_imax p0 p1))) .g) = false := by rw [(own_cmpv k10 ju' .g).1 (by omega)]; decide
        have is := own_l2d (a := sm) (by omega)
        have d142 := own_div is i2 (by decide) (Int.mul_one _).symm (e := -1) (by decide) (by decide) (by decide) (by omega)
        obtain ⟨w142, h142⟩ : ∃ v, FP.ddiv (FP.l2d sm) 4611686018427387904 = v := ⟨_, rfl⟩
        have n142 : Jvm.Free.Fl.NoNaN64 (FP.ddiv (FP.l2d sm) 4611686018427387904) := own_nn d142
        rw [show Jvm.FP.Core.ddiv (Jvm.FP.Core.l2d sm) 4611686018427387904 = w142 from h142] at d142
        have e143 : Op.cmpValue (FP.dcmp h10 w142) .l = 0 := own_eq0 k10 d142 (by omega) _
        exact own_rm_wa0 l Z a0 hw ws p0 p1 p2 h0 n0 Z0 (wa0_hv2 := hv2) (wa0_hb6 := f6) (wa0_hb105 := f105) (wa0_hv112 := hl1) (wa0_hv115 := hl2) (wa0_hv116 := hsm) (wa0_hb120 := f120) (wa0_c129_cff_hn4 := n4) (wa0_c129_cff_hv4 := h4e) (wa0_c129_cff_hn9 := n9) (wa0_c129_cff_hv9 := h9e) (wa0_c129_cff_hn10 := n10) (wa0_c129_cff_hv10 := h10e) (wa0_c129_cff_hb17 := g17) (wa0_c129_cff_hb24 := g24) (wa0_hn142 := n142) (wa0_hv142 := h142) (wa0_hc143 := e143)
      · have f120 : ifCond.holds .ne v2 = true := XT.i0_ne_t q120
        subst hlo hhi
        by_cases q155 : v2 = 1
        · have f155 : if_icmp.holds .ne v2 1 = false := XT.ii_ne_f q155
          have c992 : own_Is 9074753249151549440 2097152 971 := ⟨(Jvm.FP.Core.fin_bits _).mpr (by decide), by decide, by decide +kernel⟩
          have c991 : own_Is 9070249649524178944 1048576 971 := ⟨(Jvm.FP.Core.fin_bits _).mpr (by decide), by decide, by decide +kernel⟩
          have jl := own_mul (own_i2d (own_imin p0 p1)) c992 (e := 971) (by decide) (by decide) (by decide) (by omega)
          obtain ⟨lw, hlw⟩ : ∃ v, FP.dmul (FP.i2d (own_imin p0 p1)) 9074753249151549440 = v := ⟨_, rfl⟩
          have n164 : Jvm.Free.Fl.NoNaN64 (FP.dmul (FP.i2d (own_imin p0 p1)) 9074753249151549440) := own_nn jl
          rw [show Jvm.FP.Core.dmul (Jvm.FP.Core.i2d (own_imin p0 p1)) 9074753249151549440 = lw from hlw] at jl
          have ju := own_mul (own_i2d (own_imax p0 p1)) c992 (e := 971) (by decide) (by decide) (by decide) (by omega)
          obtain ⟨uw, huw⟩ : ∃ v, FP.dmul (FP.i2d (own_imax p0 p1)) 9074753249151549440 = v := ⟨_, rfl⟩
          have n171 : Jvm.Free.Fl.NoNaN64 (FP.dmul (FP.i2d (own_imax p0 p1)) 9074753249151549440) := own_nn ju
          rw [show Jvm.FP.Core.dmul (Jvm.FP.Core.i2d (own_imax p0 p1)) 9074753249151549440 = uw from huw] at ju
          obtain ⟨h4, h4e⟩ : ∃ v, FP.ddiv lw 4611686018427387904 = v := ⟨_, rfl⟩
          obtain ⟨h9, h9e⟩ : ∃ v, FP.ddiv uw 4611686018427387904 = v := ⟨_, rfl⟩
          obtain ⟨h10, h10e⟩ : ∃ v, FP.dadd h4 h9 = v := ⟨_, rfl⟩
          have d4 : Jvm.FP.Core.DFin (FP.ddiv lw 4611686018427387904) := own_half_fin jl.1
          have d9 : Jvm.FP.Core.DFin (FP.ddiv uw 4611686018427387904) := own_half_fin ju.1
          have n4 : Jvm.Free.Fl.NoNaN64 (FP.ddiv lw 4611686018427387904) := own_fine_nn d4.ne_nan
          have n9 : Jvm.Free.Fl.NoNaN64 (FP.ddiv uw 4611686018427387904) := own_fine_nn d9.ne_nan
          rw [h4e] at d4
          rw [h9e] at d9
          have nh : own_fine (FP.dadd h4 h9) := own_sum_fine d4 d9
          have n10 := own_fine_nn nh
          rw [h10e] at nh
          have k4 := own_div jl i2 (by decide) (Int.mul_one _).symm (e := 970) (by decide) (by decide) (by decide) (by omega)
          rw [show Jvm.FP.Core.ddiv lw 4611686018427387904 = h4 from h4e] at k4
          have k9 := own_div ju i2 (by decide) (Int.mul_one _).symm (e := 970) (by decide) (by decide) (by decide) (by omega)
          rw [show Jvm.FP.Core.ddiv uw 4611686018427387904 = h9 from h9e] at k9
          have k10 := own_add k4 k9 (by decide) (by omega)
          rw [show Jvm.FP.Core.dadd h4 h9 = h10 from h10e] at k10
          have p2' : ((2 ^ 1 : Nat) : Int) = 2 := by decide
          have jl' := own_shift 1 jl (e' := 970) (by decide) (by decide)
          have ju' := own_shift 1 ju (e' := 970) (by decide) (by decide)
          have g17 : ifCond.holds .le (Op.cmpValue (FP.dcmp h10 lw) .l) = false := by rw [(own_cmpv k10 jl' .l).2.2 (by omega)]; decide
          have g24 : ifCond.holds .gt (Op.cmpValue (FP.dcmp h10 uw) .g) = false := by rw [(own_cmpv k10 ju' .g).1 (by omega)]; decide
          have is := own_l2d (a := sm) (by omega)
          have d185 := own_mul is c991 (e := 971) (by decide) (by decide) (by decide) (by omega)
          obtain ⟨w185, h185⟩ : ∃ v, FP.dmul (FP.l2d sm) 9070249649524178944 = v := ⟨_, rfl⟩
          have n185 : Jvm.Free.Fl.NoNaN64 (FP.dmul (FP.l2d sm) 9070249649524178944) := own_nn d185
          rw [show Jvm.FP.Core.dmul (Jvm.FP.Core.l2d sm) 9070249649524178944 = w185 from h185] at d185
          have d185' := own_shift 1 d185 (e' := 970) (by decide) (by decide)
          have e186 : Op.cmpValue (FP.dcmp h10 w185) .l = 0 := own_eq0 k10 d185' (by omega) _
          exact own_rm_wa1 l Z a0 hw ws p0 p1 p2 h0 n0 Z0 (wa1_hv2 := hv2) (wa1_hb6 := f6) (wa1_hb105 := f105) (wa1_hv112 := hl1) (wa1_hv115 := hl2) (wa1_hv116 := hsm) (wa1_hb120 := f120) (wa1_hb155 := f155) (wa1_hn164 := n164) (wa1_hv164 := hlw) (wa1_hn171 := n171) (wa1_hv171 := huw) (wa1_c172_cff_hn4 := n4) (wa1_c172_cff_hv4 := h4e) (wa1_c172_cff_hn9 := n9) (wa1_c172_cff_hv9 := h9e) (wa1_c172_cff_hn10 := n10) (wa1_c172_cff_hv10 := h10e) (wa1_c172_cff_hb17 := g17) (wa1_c172_cff_hb24 := g24) (wa1_hn185 := n185) (wa1_hv185 := h185) (wa1_hc186 := e186)
        · have f155 : if_icmp.holds .ne v2 1 = true := XT.ii_ne_t q155
          have c1 : own_Is 1 1 (-1074) := ⟨(Jvm.FP.Core.fin_bits _).mpr (by decide), by decide, by decide +kernel⟩
          have jl := own_mul (own_i2d (own_imin p0 p1)) c1 (e := -1074) (by decide) (by decide) (by decide) (by omega)
          obtain ⟨lw, hlw⟩ : ∃ v, FP.dmul (FP.i2d (own_imin p0 p1)) 1 = v := ⟨_, rfl⟩
          have n202 : Jvm.Free.Fl.NoNaN64 (FP.dmul (FP.i2d (own_imin p0 p1)) 1) := own_nn jl
          rw [show Jvm.FP.Core.dmul (Jvm.FP.Core.i2d (own_imin p0 p1)) 1 = lw from hlw] at jl
          have ju := own_mul (own_i2d (own_imax p0 p1)) c1 (e := -1074) (by decide) (by decide) (by decide) (by omega)
          obtain ⟨uw, huw⟩ : ∃ v, FP.dmul (FP.i2d (own_imax p0 p1)) 1 = v := ⟨_, rfl⟩
          have n211 : Jvm.Free.Fl.NoNaN64 (FP.dmul (FP.i2d (own_imax p0 p1)) 1) := own_nn ju
          rw [show Jvm.FP.Core.dmul (Jvm.FP.Core.i2d (own_imax p0 p1)) 1 = uw from huw] at ju
          obtain ⟨h4, h4e⟩ : ∃ v, FP.ddiv lw 4611686018427387904 = v := ⟨_, rfl⟩
          obtain ⟨h9, h9e⟩ : ∃ v, FP.ddiv uw 4611686018427387904 = v := ⟨_, rfl⟩
          obtain ⟨h10, h10e⟩ : ∃ v, FP.dadd h4 h9 = v := ⟨_, rfl⟩
          have d4 : Jvm.FP.Core.DFin (FP.ddiv lw 4611686018427387904) := own_half_fin jl.1
          have d9 : Jvm.FP.Core.DFin (FP.ddiv uw 4611686018427387904) := own_half_fin ju.1
          have n4 : Jvm.Free.Fl.NoNaN64 (FP.ddiv lw 4611686018427387904) := own_fine_nn d4.ne_nan
          have n9 : Jvm.Free.Fl.NoNaN64 (FP.ddiv uw 4611686018427387904) := own_fine_nn d9.ne_nan
          rw [h4e] at d4
          rw [h9e] at d9
          have nh : own_fine (FP.dadd h4 h9) := own_sum_fine d4 d9
          have n10 := own_fine_nn nh
          rw [h10e] at nh
          have nl := own_is_fine jl
          have nu := own_is_fine ju
          have G1 := own_gt nh nl .l
          have G2 := own_gt nh nu .g
          have GL := own_gt nl nu .g
          have GH := own_gt nl nh .g
          have GU := own_gt nu nu .g
          have zlt : own_z lw < own_z uw := by
            have hc := (own_cmpv jl ju .g).1 (by omega)
            have hg := GL.2.2
            rw [hc] at hg
            have : decide (own_z uw ≤ own_z lw) = false := by rw [← hg]; decide
            have := of_decide_eq_false this
            omega
          by_cases c1 : own_z h10 ≤ own_z lw
          · have g17 : ifCond.holds .le (Op.cmpValue (FP.dcmp h10 lw) .l) = true := by rw [G1.2.1]; simpa using c1
            have f228 : ifCond.holds .ge (Op.cmpValue (FP.dcmp lw uw) .g) = false := by rw [GL.2.2]; simpa using zlt
            have f236 : ifCond.holds .gt (Op.cmpValue (FP.dcmp uw uw) .g) = false := by rw [GU.1]; simp
            exact own_rm_wa3t l Z a0 hw ws p0 p1 p2 h0 n0 Z0 (wa3t_hv2 := hv2) (wa3t_hb6 := f6) (wa3t_hb105 := f105) (wa3t_hv112 := hl1) (wa3t_hv115 := hl2) (wa3t_hv116 := hsm) (wa3t_hb120 := f120) (wa3t_hb155 := f155) (wa3t_hn202 := n202) (wa3t_hv202 := hlw) (wa3t_hn211 := n211) (wa3t_hv211 := huw) (wa3t_c218_ct_hn4 := n4) (wa3t_c218_ct_hv4 := h4e) (wa3t_c218_ct_hn9 := n9) (wa3t_c218_ct_hv9 := h9e) (wa3t_c218_ct_hn10 := n10) (wa3t_c218_ct_hv10 := h10e) (wa3t_c218_ct_hb17 := g17) (wa3t_hb228 := f228) (wa3t_hb236 := f236)
          · have g17 : ifCond.holds .le (Op.cmpValue (FP.dcmp h10 lw) .l) = false := by rw [G1.2.1]; simpa using c1
            by_cases c2 : own_z uw < own_z h10
            · have g24 : ifCond.holds .gt (Op.cmpValue (FP.dcmp h10 uw) .g) = true := by rw [G2.1]; simpa using c2
              have f228 : ifCond.holds .ge (Op.cmpValue (FP.dcmp lw uw) .g) = false := by rw [GL.2.2]; simpa using zlt
              have f236 : ifCond.holds .gt (Op.cmpValue (FP.dcmp uw uw) .g) = false := by rw [GU.1]; simp
              exact own_rm_wa3ft l Z a0 hw ws p0 p1 p2 h0 n0 Z0 (wa3ft_hv2 := hv2) (wa3ft_hb6 := f6) (wa3ft_hb105 := f105) (wa3ft_hv112 := hl1) (wa3ft_hv115 := hl2) (wa3ft_hv116 := hsm) (wa3ft_hb120 := f120) (wa3ft_hb155 := f155) (wa3ft_hn202 := n202) (wa3ft_hv202 := hlw) (wa3ft_hn211 := n211) (wa3ft_hv211 := huw) (wa3ft_c218_cft_hn4 := n4) (wa3ft_c218_cft_hv4 := h4e) (wa3ft_c218_cft_hn9 := n9) (wa3ft_c218_cft_hv9 := h9e) (wa3ft_c218_cft_hn10 := n10) (wa3ft_c218_cft_hv10 := h10e) (wa3ft_c218_cft_hb17 := g17) (wa3ft_c218_cft_hb24 := g24) (wa3ft_hb228 := f228) (wa3ft_hb236 := f236)
            · have g24 : ifCond.holds .gt (Op.cmpValue (FP.dcmp h10 uw) .g) = false := by rw [G2.1]; simpa using c2
              have f228 : ifCond.holds .ge (Op.cmpValue (FP.dcmp lw h10) .g) = false := by rw [GH.2.2]; simp; omega
              have f236 : ifCond.holds .gt (Op.cmpValue (FP.dcmp h10 uw) .g) = false := g24
              exact own_rm_wa3ff l Z a0 hw ws p0 p1 p2 h0 n0 Z0 (wa3ff_hv2 := hv2) (wa3ff_hb6 := f6) (wa3ff_hb105 := f105) (wa3ff_hv112 := hl1) (wa3ff_hv115 := hl2) (wa3ff_hv116 := hsm) (wa3ff_hb120 := f120) (wa3ff_hb155 := f155) (wa3ff_hn202 := n202) (wa3ff_hv202 := hlw) (wa3ff_hn211 := n211) (wa3ff_hv211 := huw) (wa3ff_c218_cff_hn4 := n4) (wa3ff_c218_cff_hv4 := h4e) (wa3ff_c218_cff_hn9 := n9) (wa3ff_c218_cff_hv9 := h9e) (wa3ff_c218_cff_hn10 := n10) (wa3ff_c218_cff_hv10 := h10e) (wa3ff_c218_cff_hb17 := g17) (wa3ff_c218_cff_hb24 := g24) (wa3ff_hb228 := f228) (wa3ff_hb236 := f236)
set_option maxRecDepth 65536 in
set_option maxHeartbeats 40000000 in
theorem comes_1 {Post : Tables → Env → Array Value → State → Outcome → State → Prop} (hpost : ∀ tb e args s v u, (limb_1_1.after args s (.returned v) u = true ∧ limb_1_2.after args s (.returned v) u = true ∧ True) → FrameEnd s (.returned v) u (Jvm.fieldLocs frame_1_writes args s ++ Jvm.arrayLocs frame_1_arrays args s ++ Jvm.staticLocs frame_1_statics s) 0 0 → Post tb e args s (.returned v) u) :
    ArmFor flags0 classFile x code maxLocals ret World_1 tables_1 room_1 Calls_1 rest_1 Pre_1 Post := by
  intro l hfl _ _ p e ha hc hk s m args below hf hA hF happ hP
  obtain ⟨hcalls, hrest, hpre⟩ := hP
  obtain ⟨-, -, -, hnamed, -, -, -, hat⟩ := (Spec.applies_iff hf).mp happ
  obtain ⟨hg, hn⟩ := and_e (Cond.before_iff.mp (show (Jvm.Cond.and given_1 narrow_1).before args s = true from hpre))
  obtain ⟨hcount, g0⟩ := and_e hg
  obtain ⟨a0, g1⟩ := and_e g0
  obtain ⟨a1, g2⟩ := and_e g1
  have a2 := g2
  obtain ⟨w0, w1, w2, rfl⟩ : ∃ w0 w1 w2 : Value, args = #[w0, w1, w2] := by
    have hs : args.size = 3 := by simpa [Cond.value, given_1] using hcount
    obtain ⟨L⟩ := args
    match L, hs with
    | [w0, w1, w2], _ => exact ⟨w0, w1, w2, rfl⟩
  have hw := fun d (hd : d ∈ tables_1) => atoms_spec (ws := Jvm.Cond.code x code maxLocals ret :: tables_1) hat d (List.mem_cons_of_mem _ hd)
  obtain ⟨i0, ei0⟩ := is_v a0
  obtain rfl : w0 = (.int i0) := Option.some.inj ei0
  obtain ⟨i1, ei1⟩ := is_v a1
  obtain rfl : w1 = (.int i1) := Option.some.inj ei1
  obtain ⟨i2, ei2⟩ := is_v a2
  obtain rfl : w2 = (.int i2) := Option.some.inj ei2
  obtain ⟨n, o, h1, h2, h3, _, L, rfl, ⟨rfl, N⟩, hq⟩ := own_rm0 l s _ hw tables_1 i0 i1 i2 s.heap s.heap.size (Nat.le_refl _)  p e ha hc hk s m _ below hf ((Spec.applies_iff_loose hf).mp happ).1 ⟨rfl, State.Warmed39.refl s, rfl⟩ trivial
  refine ⟨n, _, h1, h2, h3, hpost _ _ _ _ _ _ ⟨Cond.after_iff.mpr rfl, Cond.after_iff.mpr (eq_i res_at (Term.int_eval (1)) rfl), trivial⟩ ⟨hq.1, hq.2.1, (hq.2.2.sift fun y hy => Or.inr (N y hy)).mono (by decide) (by decide)⟩⟩
theorem main_1_1 : Claimed_1_1 := comes_1 fun _ _ _ _ _ _ h hF => ⟨h.1, hF⟩
theorem main_1_2 : Claimed_1_2 := comes_1 fun _ _ _ _ _ _ h hF => ⟨h.2.1, hF⟩
end Jvm.Pilot.@@N@@
namespace Jvm.Pilot.@@N@@
open Jvm Jvm.ClassFile Sem Op Lib Jvm.Free Jvm.Stand Jvm.Pilot.@@N@@.Jvm.D
/-! MADE BY PROGRAM (witnessworld.py) out of the Statement's table words and the real class files: 11 classes; the members and pool entries that the words name. The judged class is class 1, her method 1. -/
namespace start1
open Jvm.ClassFile
def u (s : String) : CpInfo := .utf8 (stringToUtf16 s)
/-- a pool by its gaps: so many unusable entries, then the entry; so many at the end -/
def gap : Nat → List CpInfo → List CpInfo
  | 0, r => r
  | n + 1, r => .unusable :: gap n r
def poolList (es : List (Nat × CpInfo)) (last : Nat) : List CpInfo := es.foldr (fun e r => gap e.1 (e.2 :: r)) (gap last [])
def pool (es : List (Nat × CpInfo)) (last : Nat) : Array CpInfo := ⟨poolList es last⟩
def fileOf (pool : Array CpInfo) (this : Nat) (attrs : Array Attribute := #[]) (ms : Array MethodInfo := #[]) (fl : Nat := 33) (sup : Nat := 0) (ifs : Array Nat := #[]) (fds : Array FieldInfo := #[]) : ClassFile where
  minorVersion := 0
  majorVersion := 65
  constantPool := pool
  accessFlags := fl
  thisClass := this
  superClass := sup
  interfaces := ifs
  fields := fds
  methods := ms
  attributes := attrs
def plain (name : String) (sup : Option ClassId) : Class where
  name := name
  kind := .ordinary
  loader := none
  accessFlags := 33
  super := sup
  interfaces := #[]
  cf := none
  fields := #[]
  methods := #[]
  instanceTypes := #[]
  staticTypes := #[]
  resolved := #[]
  callSites := []
  init := .initialized
  statics := none
  mirror := none

def pool0 : Array CpInfo := pool [(5, u "<init>"), (0, u "()V"), (1, .class_ 10), (1, u "java/lang/Object")] 113

def k0m0 : Method := { name := "<init>", desc := "()V", sig := { parameters := [], returnType := none }, accessFlags := 1, code := none }
/-- java/lang/Object -/
def k0 : Class := { plain "java/lang/Object" none with
  accessFlags := 33
  interfaces := #[]
  cf := some (fileOf pool0 8 #[] #[{ accessFlags := 1, nameIndex := 5, descriptorIndex := 6, attributes := #[] }] 33 0 #[] #[])
  fields := #[]
  methods := #[k0m0]
  instanceTypes := #[]
  staticTypes := #[]
  resolved := Array.replicate 124 none
  statics := none }

def pool1 : Array CpInfo := pool [(2, .class_ 4), (1, u "java/lang/Object"), (0, u "<init>"), (0, u "()V"), (0, .long 9007199254740992), (1, .long 2), (1, .long 4294967295), (1, .methodref 14 15), (0, .class_ 16), (0, .nameAndType 17 18), (0, u "com/example/thicket/thicket/core/CutPartitioning"), (0, u "between"), (0, u "(DD)D"), (0, .methodref 20 21), (0, .class_ 22), (0, .nameAndType 23 24), (0, u "java/lang/Math"), (0, u "min"), (0, u "(II)I"), (0, .methodref 20 26), (0, .nameAndType 27 24), (0, u "max"), (0, .double 4611686018427387904), (1, .double 9074753249151549440), (1, .double 9070249649524178944), (1, .double 1), (1, .class_ 37), (0, u "com/example/thicket/thicket/core/CutPartitioningBetweenPinLaw"), (2, u "law"), (0, u "(III)Z")] 3

def k1m0 : Method := { name := "<init>", desc := "()V", sig := { parameters := [], returnType := none }, accessFlags := 1, code := none }
def k1c1 : Code := { maxStack := 8, maxLocals := 14, code := code, exceptionTable := #[], attributes := #[] }
def k1m1 : Method := { name := "law", desc := "(III)Z", sig := { parameters := [.int, .int, .int], returnType := some .boolean }, accessFlags := 9, code := some k1c1 }
/-- com/example/thicket/thicket/core/CutPartitioningBetweenPinLaw -/
def k1 : Class := { plain "com/example/thicket/thicket/core/CutPartitioningBetweenPinLaw" (some 0) with
  accessFlags := 49
  interfaces := #[]
  cf := some (fileOf pool1 36 #[] #[{ accessFlags := 1, nameIndex := 5, descriptorIndex := 6, attributes := #[] }, { accessFlags := 9, nameIndex := 40, descriptorIndex := 41, attributes := #[] }] 49 2 #[] #[])
  fields := #[]
  methods := #[k1m0, k1m1]
  instanceTypes := #[]
  staticTypes := #[]
  resolved := Array.replicate 45 none
  statics := none }

def pool2 : Array CpInfo := pool [(1, .class_ 2), (0, u "com/example/thicket/thicket/core/Partitioning"), (0, .class_ 4), (0, u "java/lang/Object")] 6

/-- com/example/thicket/thicket/core/Partitioning -/
def k2 : Class := { plain "com/example/thicket/thicket/core/Partitioning" (some 0) with
  accessFlags := 1537
  interfaces := #[]
  cf := some (fileOf pool2 1 #[] #[] 1537 3 #[] #[])
  fields := #[]
  methods := #[]
  instanceTypes := #[]
  staticTypes := #[]
  resolved := Array.replicate 11 none
  statics := none }

def pool3 : Array CpInfo := pool [(2, .class_ 4), (1, u "java/lang/Object"), (3, .class_ 10), (1, u "com/example/thicket/thicket/core/CutPartitioning"), (0, u "axes"), (0, u "[I"), (2, u "keys"), (2, u "values"), (0, u "[D"), (2, u "next"), (2, u "partitions"), (0, u "I"), (4, .class_ 32), (0, u "com/example/thicket/thicket/core/CutPartitioning$Part"), (33, .class_ 68), (1, u "com/example/thicket/thicket/core/CutPartitioning$Shares"), (9, .double 4611686018427387904), (18, u "between"), (0, u "(DD)D"), (6, u "NO_KEY"), (0, .class_ 107), (0, u "com/example/thicket/thicket/core/Partitioning"), (0, u "LEAF"), (2, u "BEFORE"), (0, u "AFTER"), (16, .class_ 130), (0, u "com/example/thicket/thicket/core/CutPartitioning$Builder")] 18

def k3c0 : Code := { maxStack := 6, maxLocals := 6, code := prog_11_method_8_code, exceptionTable := #[], attributes := #[] }
def k3m0 : Method := { name := "between", desc := "(DD)D", sig := { parameters := [.double, .double], returnType := some .double }, accessFlags := 8, code := some k3c0 }
/-- com/example/thicket/thicket/core/CutPartitioning -/
def k3 : Class := { plain "com/example/thicket/thicket/core/CutPartitioning" (some 0) with
  accessFlags := 49
  interfaces := #[2]
  cf := some (fileOf pool3 8 #[.nestMembers #[129, 31, 66]] #[{ accessFlags := 8, nameIndex := 97, descriptorIndex := 98, attributes := #[] }] 49 2 #[106] #[{ accessFlags := 26, nameIndex := 108, descriptorIndex := 26, attributes := #[] }, { accessFlags := 26, nameIndex := 105, descriptorIndex := 19, attributes := #[] }, { accessFlags := 26, nameIndex := 111, descriptorIndex := 26, attributes := #[] }, { accessFlags := 26, nameIndex := 112, descriptorIndex := 26, attributes := #[] }, { accessFlags := 18, nameIndex := 11, descriptorIndex := 12, attributes := #[] }, { accessFlags := 18, nameIndex := 15, descriptorIndex := 12, attributes := #[] }, { accessFlags := 18, nameIndex := 18, descriptorIndex := 19, attributes := #[] }, { accessFlags := 18, nameIndex := 22, descriptorIndex := 12, attributes := #[] }, { accessFlags := 18, nameIndex := 25, descriptorIndex := 26, attributes := #[] }])
  fields := #[{ name := "LEAF", type := .int, accessFlags := 26, slot := 0, constantValue := 0 }, { name := "NO_KEY", type := (.array .double), accessFlags := 26, slot := 1, constantValue := 0 }, { name := "BEFORE", type := .int, accessFlags := 26, slot := 2, constantValue := 0 }, { name := "AFTER", type := .int, accessFlags := 26, slot := 3, constantValue := 0 }, { name := "axes", type := (.array .int), accessFlags := 18, slot := 0, constantValue := 0 }, { name := "keys", type := (.array .int), accessFlags := 18, slot := 1, constantValue := 0 }, { name := "values", type := (.array .double), accessFlags := 18, slot := 2, constantValue := 0 }, { name := "next", type := (.array .int), accessFlags := 18, slot := 3, constantValue := 0 }, { name := "partitions", type := .int, accessFlags := 18, slot := 4, constantValue := 0 }]
  methods := #[k3m0]
  instanceTypes := #[(.array .int), (.array .int), (.array .double), (.array .int), .int]
  staticTypes := #[.int, (.array .double), .int, .int]
  resolved := Array.replicate 149 none
  statics := none }

def pool4 : Array CpInfo := pool [(1, .class_ 2), (0, u "java/lang/Math"), (1, .class_ 6), (1, u "java/lang/Object"), (0, u "<init>"), (0, u "()V"), (89, .class_ 100), (1, u "java/lang/Math$RandomNumberGeneratorHolder"), (71, u "negativeZeroFloatBits"), (0, u "J"), (2, u "negativeZeroDoubleBits"), (21, u "max"), (2, u "min"), (43, u "$assertionsDisabled"), (0, u "Z"), (88, u "(II)I"), (2, u "twoToTheDoubleScaleDown"), (0, u "D"), (4, u "twoToTheDoubleScaleUp"), (9, u "E"), (3, u "PI"), (2, u "TAU"), (2, u "DEGREES_TO_RADIANS"), (0, u "RADIANS_TO_DEGREES")] 94

def k4m0 : Method := { name := "<init>", desc := "()V", sig := { parameters := [], returnType := none }, accessFlags := 2, code := none }
def k4c1 : Code := { maxStack := 2, maxLocals := 2, code := jdk_29_method_65_code, exceptionTable := #[], attributes := #[] }
def k4m1 : Method := { name := "max", desc := "(II)I", sig := { parameters := [.int, .int], returnType := some .int }, accessFlags := 9, code := some k4c1 }
def k4c2 : Code := { maxStack := 2, maxLocals := 2, code := jdk_29_method_69_code, exceptionTable := #[], attributes := #[] }
def k4m2 : Method := { name := "min", desc := "(II)I", sig := { parameters := [.int, .int], returnType := some .int }, accessFlags := 9, code := some k4c2 }
/-- java/lang/Math -/
def k4 : Class := { plain "java/lang/Math" (some 0) with
  accessFlags := 49
  interfaces := #[]
  cf := some (fileOf pool4 1 #[.nestMembers #[98]] #[{ accessFlags := 2, nameIndex := 7, descriptorIndex := 8, attributes := #[] }, { accessFlags := 9, nameIndex := 198, descriptorIndex := 335, attributes := #[] }, { accessFlags := 9, nameIndex := 201, descriptorIndex := 335, attributes := #[] }] 49 4 #[] #[{ accessFlags := 25, nameIndex := 354, descriptorIndex := 339, attributes := #[] }, { accessFlags := 25, nameIndex := 358, descriptorIndex := 339, attributes := #[] }, { accessFlags := 25, nameIndex := 361, descriptorIndex := 339, attributes := #[] }, { accessFlags := 26, nameIndex := 364, descriptorIndex := 339, attributes := #[] }, { accessFlags := 26, nameIndex := 365, descriptorIndex := 339, attributes := #[] }, { accessFlags := 26, nameIndex := 172, descriptorIndex := 173, attributes := #[] }, { accessFlags := 26, nameIndex := 176, descriptorIndex := 173, attributes := #[] }, { accessFlags := 8, nameIndex := 344, descriptorIndex := 339, attributes := #[] }, { accessFlags := 8, nameIndex := 338, descriptorIndex := 339, attributes := #[] }, { accessFlags := 4120, nameIndex := 245, descriptorIndex := 246, attributes := #[] }])
  fields := #[{ name := "E", type := .double, accessFlags := 25, slot := 0, constantValue := 0 }, { name := "PI", type := .double, accessFlags := 25, slot := 1, constantValue := 0 }, { name := "TAU", type := .double, accessFlags := 25, slot := 2, constantValue := 0 }, { name := "DEGREES_TO_RADIANS", type := .double, accessFlags := 26, slot := 3, constantValue := 0 }, { name := "RADIANS_TO_DEGREES", type := .double, accessFlags := 26, slot := 4, constantValue := 0 }, { name := "negativeZeroFloatBits", type := .long, accessFlags := 26, slot := 5, constantValue := 0 }, { name := "negativeZeroDoubleBits", type := .long, accessFlags := 26, slot := 6, constantValue := 0 }, { name := "twoToTheDoubleScaleUp", type := .double, accessFlags := 8, slot := 7, constantValue := 0 }, { name := "twoToTheDoubleScaleDown", type := .double, accessFlags := 8, slot := 8, constantValue := 0 }, { name := "$assertionsDisabled", type := .boolean, accessFlags := 4120, slot := 9, constantValue := 0 }]
  methods := #[k4m0, k4m1, k4m2]
  instanceTypes := #[]
  staticTypes := #[.double, .double, .double, .double, .double, .long, .long, .double, .double, .boolean]
  resolved := Array.replicate 460 none
  statics := none }

def pool5 : Array CpInfo := pool [(1, u "java/lang/Cloneable"), (0, .class_ 1), (0, u "java/lang/Object"), (0, .class_ 3)] 3

/-- java/lang/Cloneable -/
def k5 : Class := { plain "java/lang/Cloneable" (some 0) with
  accessFlags := 1537
  interfaces := #[]
  cf := some (fileOf pool5 2 #[] #[] 1537 4 #[] #[])
  fields := #[]
  methods := #[]
  instanceTypes := #[]
  staticTypes := #[]
  resolved := Array.replicate 8 none
  statics := none }

def pool6 : Array CpInfo := pool [(1, u "java/io/Serializable"), (0, .class_ 1), (0, u "java/lang/Object"), (0, .class_ 3)] 3

/-- java/io/Serializable -/
def k6 : Class := { plain "java/io/Serializable" (some 0) with
  accessFlags := 1537
  interfaces := #[]
  cf := some (fileOf pool6 2 #[] #[] 1537 4 #[] #[])
  fields := #[]
  methods := #[]
  instanceTypes := #[]
  staticTypes := #[]
  resolved := Array.replicate 8 none
  statics := none }

/-- the primitive byte -/
def k7 : Class := { plain "byte" none with kind := .primitive 'B', accessFlags := 0x411 }
/-- [B -/
def k8 : Class := { plain "[B" (some 0) with kind := .array 7 .byte, interfaces := #[5, 6], accessFlags := 1041 }

/-- the primitive int -/
def k9 : Class := { plain "int" none with kind := .primitive 'I', accessFlags := 0x411 }
/-- [I -/
def k10 : Class := { plain "[I" (some 0) with kind := .array 9 .int, interfaces := #[5, 6], accessFlags := 1041 }

def heap : Heap := #[]
def classes : Array Class := #[k0, k1, k2, k3, k4, k5, k6, k7, k8, k9, k10]
def interned : List (Array UInt16 × Addr) := []
def slotsUsed : Nat := 0
def theMethod : MethodId := ⟨1, 1⟩
def args0 : Array Value := #[.int 3, .int 4, .int 5]
def aboutOver (below : List Frame) : State where
  vm := { classes := classes, interned := interned.toArray }
  heap := heap
  slotsUsed := slotsUsed
  threads := #[{ frames := .invoking theMethod args0 :: below }]
def below0 : List Frame := [.native { method := ⟨0, 0⟩, args := #[] }]
def about1 : State := aboutOver below0
def p0 : Program := .bare "" "" ""
def e0 : Env := launch0.env 0 0 0
theorem w_frames : about1.frames = Frame.invoking theMethod args0 :: below0 := rfl
set_option maxRecDepth 65536 in
theorem w_args : argsFit about1.vm theMethod args0 = true := by decide +kernel
set_option maxRecDepth 65536 in
theorem w_heap : heapFits about1 = true := by decide +kernel
set_option maxRecDepth 65536 in
theorem w_runnable : about1.curStatus? = some .runnable := by decide +kernel
set_option maxRecDepth 65536 in
theorem w_alone : about1.alone = true := by decide +kernel
set_option maxRecDepth 65536 in
theorem w_named : about1.methodNamed? x = some theMethod := by decide +kernel
set_option maxRecDepth 65536 in
theorem w_hears : about1.hears theMethod below0 = true := by decide +kernel
set_option maxRecDepth 65536 in
theorem w_ripe : about1.ripe theMethod args0 below0 = true := by decide +kernel
theorem w_running : about1.status = .running := rfl
set_option maxRecDepth 65536 in
theorem w_room : about1.hasRoom e0.platform room_1 = true :=
  launch0.hasRoom_least _ room_1 (by decide +kernel) (by decide +kernel) (by decide +kernel) (by decide +kernel) (by decide +kernel) (by decide +kernel)
theorem allAtoms_all (ts : List Jvm.Cond) (a : Array Jvm.Value) (st : Jvm.State) : (allAtoms ts).before a st = ts.all (fun c => c.before a st) := by
  induction ts with
  | nil => rfl
  | cons c t ih =>
    show (Jvm.Cond.and c (allAtoms t)).before a st = _
    rw [Jvm.Cond.before_and, ih, List.all_cons]
def words1 : List Jvm.Cond := Jvm.Cond.code x code maxLocals ret :: tables_1
/-- a 'code' word, met by the world's own term for the bytes: nothing is compared byte by byte -/
theorem code_word {y : MethodName} {bytes : ByteArray} {mx : Nat} {rt : Option FieldType} {a : Array Value} {s : State} {m : MethodId} {meth : Method} {c : Code} (h1 : s.methodNamed? y = some m) (h2 : s.vm.method? m = some meth) (h3 : meth.code = some c) (h4 : c.code = bytes)
    (h5 : (c.maxLocals == mx && c.exceptionTable.isEmpty && decide (c.maxStack ≤ mostOperands) && decide (meth.sig.returnType = rt) && !meth.locks && decide (parseMethodDescriptor y.desc = some meth.sig)) = true) : (Jvm.Cond.code y bytes mx rt).before a s = true := by
  simp only [Bool.and_eq_true, beq_iff_eq, Bool.not_eq_true', decide_eq_true_eq] at h5
  obtain ⟨⟨⟨⟨⟨g1, g2⟩, g3⟩, g4⟩, g5⟩, g6⟩ := h5
  simp [Cond.before, Cond.holds, Cond.value, h1, h2, h3, h4, g1, g2, g3, g4, g5, g6]
def isCode : Jvm.Cond → Bool
  | .code _ _ _ _ => true
  | _ => false
theorem all_split {L : List Jvm.Cond} {P : Jvm.Cond → Bool} (h1 : L.all (fun c => isCode c || P c) = true) (h2 : ∀ c ∈ L.filter isCode, P c = true) : L.all P = true := by
  refine List.all_eq_true.mpr fun c hc => ?_
  have h := List.all_eq_true.mp h1 c hc
  rcases Bool.eq_false_or_eq_true (isCode c) with hi | hi
  · exact h2 c (List.mem_filter.mpr ⟨hc, hi⟩)
  · simpa [hi] using h
set_option maxRecDepth 65536 in
theorem w_c0 : (Jvm.Cond.code x code maxLocals ret).before args0 about1 = true := code_word (m := ⟨1, 1⟩) (meth := k1m1) (c := k1c1) (by decide +kernel) rfl rfl rfl (by decide +kernel)
set_option maxRecDepth 65536 in
theorem w_c1 : (Jvm.Cond.code ({ cls := "com/example/thicket/thicket/core/CutPartitioning", name := "between", desc := "(DD)D" } : Jvm.MethodName) prog_11_method_8_code (6 : Nat) (Option.some Jvm.ClassFile.FieldType.double)).before args0 about1 = true := code_word (m := ⟨3, 0⟩) (meth := k3m0) (c := k3c0) (by decide +kernel) rfl rfl rfl (by decide +kernel)
set_option maxRecDepth 65536 in
theorem w_c2 : (Jvm.Cond.code ({ cls := "java/lang/Math", name := "min", desc := "(II)I" } : Jvm.MethodName) jdk_29_method_69_code (2 : Nat) (Option.some Jvm.ClassFile.FieldType.int)).before args0 about1 = true := code_word (m := ⟨4, 2⟩) (meth := k4m2) (c := k4c2) (by decide +kernel) rfl rfl rfl (by decide +kernel)
set_option maxRecDepth 65536 in
theorem w_c3 : (Jvm.Cond.code ({ cls := "java/lang/Math", name := "max", desc := "(II)I" } : Jvm.MethodName) jdk_29_method_65_code (2 : Nat) (Option.some Jvm.ClassFile.FieldType.int)).before args0 about1 = true := code_word (m := ⟨4, 1⟩) (meth := k4m1) (c := k4c1) (by decide +kernel) rfl rfl rfl (by decide +kernel)
def codes1 : List Jvm.Cond := [Jvm.Cond.code x code maxLocals ret, Jvm.Cond.code ({ cls := "com/example/thicket/thicket/core/CutPartitioning", name := "between", desc := "(DD)D" } : Jvm.MethodName) prog_11_method_8_code (6 : Nat) (Option.some Jvm.ClassFile.FieldType.double), Jvm.Cond.code ({ cls := "java/lang/Math", name := "min", desc := "(II)I" } : Jvm.MethodName) jdk_29_method_69_code (2 : Nat) (Option.some Jvm.ClassFile.FieldType.int), Jvm.Cond.code ({ cls := "java/lang/Math", name := "max", desc := "(II)I" } : Jvm.MethodName) jdk_29_method_65_code (2 : Nat) (Option.some Jvm.ClassFile.FieldType.int)]
set_option maxRecDepth 65536 in
theorem codes_eq : words1.filter isCode = codes1 := rfl
theorem w_codes : ∀ c ∈ words1.filter isCode, c.before args0 about1 = true := by
  rw [codes_eq]
  intro c hc
  simp only [codes1, List.mem_cons, List.not_mem_nil, or_false] at hc
  rcases hc with rfl | rfl | rfl | rfl
  · exact w_c0
  · exact w_c1
  · exact w_c2
  · exact w_c3
set_option maxRecDepth 65536 in
theorem w_t1 : words1.all (fun c => isCode c || c.before args0 about1) = true := by decide +kernel
theorem w_tables : (allAtoms (Jvm.Cond.code x code maxLocals ret :: tables_1)).before args0 about1 = true := by
  rw [allAtoms_all]
  show words1.all (fun c => c.before args0 about1) = true
  refine all_split ?_ w_codes
  rw [w_t1]
set_option maxRecDepth 65536 in
theorem w_case : (Jvm.Cond.and given_1 narrow_1).before args0 about1 = true := by decide +kernel
theorem w_applies : (headSpec (Jvm.Cond.code x code maxLocals ret :: tables_1) room_1).applies x e0.platform about1 = true :=
  (Spec.applies_iff w_frames).mpr ⟨w_running, w_runnable, w_alone, w_named, w_hears, w_ripe, w_room, w_tables⟩
theorem atStart : AtStart classFile x code maxLocals ret World_1 tables_1 room_1 Calls_1 rest_1 Pre_1 launch0 p0 e0 about1 theMethod args0 below0 :=
  ⟨lists_1, trivial, launch0.admits_env _ _ _, launch0.least_env, fairChoices_fair.cas, fairChoices_fair.clock, w_frames, w_args, w_heap, w_applies, trivial, trivial, w_case⟩
end start1
theorem witness_1 : WitnessClaimed_1 := ⟨start1.p0, start1.e0, start1.about1, start1.theMethod, start1.args0, start1.below0, start1.atStart⟩
end Jvm.Pilot.@@N@@
