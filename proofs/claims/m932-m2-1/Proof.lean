import JvmDerived
import JvmDerived.Pilot.@@N@@Statement
import JvmDerived.Pilot.@@N@@Code
set_option linter.unusedVariables false
set_option linter.unusedSimpArgs false
namespace Jvm.Pilot.@@N@@
section OwnFP
open Jvm.FP.Core
/-! Exact doubles: own_Is x n e says that the double x is finite and worth n * 2^e. -/
def own_Is (x : UInt64) (n : Int) (e : Int) : Prop := DFin x ∧ -1074 ≤ e ∧ zval b64 (val64 x) = n * ((2 ^ (e + 1074).toNat : Nat) : Int)
theorem own_qmax : b64.qmax = 971 := by decide
theorem own_pp : b64.p = 53 := rfl
theorem own_powc {a b u v : Nat} (h : a * 2 ^ u = b * 2 ^ v) {w : Int} (hw : w = (u : Int) - v) : a * 2 ^ w.toNat = b * 2 ^ (-w).toNat := by
  subst hw
  have hu : u = ((u : Int) - v).toNat + min u v := by omega
  have hv : v = (-((u : Int) - v)).toNat + min u v := by omega
  have h2 : a * 2 ^ (((u : Int) - v).toNat + min u v) = b * 2 ^ ((-((u : Int) - v)).toNat + min u v) := by rw [← hu, ← hv]; exact h
  rw [Nat.pow_add, Nat.pow_add, ← Nat.mul_assoc, ← Nat.mul_assoc] at h2
  exact Nat.eq_of_mul_eq_mul_right (Nat.two_pow_pos _) h2
theorem own_signed_abs (s : Bool) (c : Nat) : (signed s c).natAbs = c := by cases s <;> simp [signed]
theorem own_signed_mul (s t : Bool) (c d : Nat) : signed (s != t) (c * d) = signed s c * signed t d := by
  cases s <;> cases t <;> simp [signed, Int.natCast_mul, Int.neg_mul, Int.mul_neg]
theorem own_signed_scale (s : Bool) (c d : Nat) : signed s (c * d) = signed s c * (d : Int) := by cases s <;> simp [signed, Int.natCast_mul, Int.neg_mul]
theorem own_round {s : Bool} {c : Nat} {q : Int} {M : Nat} {e : Int} (h2 : -2148 ≤ q) (hM : M < 9007199254740992) (he1 : -1074 ≤ e) (he2 : e ≤ 971) (h : inUnits c q (-2148) = M * 2 ^ (e + 2148).toNat) :
    ∃ c' q', round b64 (.fin s c q) = .fin s c' q' ∧ inUnits c' q' b64.qmin = M * 2 ^ (e + 1074).toNat := by
  have hq : b64.qmin = -1074 := qmin_b64
  obtain ⟨c', q', h1, h3⟩ := round_exact good_b64 s (c := M) (q := e) (show M < 2 ^ 53 from hM) (by rw [hq]; omega) (by rw [own_qmax]; omega)
  refine ⟨c', q', ?_, ?_⟩
  · rw [← h1]
    show roundRatio b64 s c 1 q = roundRatio b64 s M 1 e
    refine roundRatio_congr (by decide) (by decide) ?_
    unfold inUnits at h
    have h4 := own_powc (u := (q - -2148).toNat) (v := (e + 2148).toNat) h (w := q - e) (by omega)
    rw [Nat.mul_one, Nat.mul_one, h4, show -(q - e) = e - q by omega]
  · rw [h3]; unfold inUnits; rw [hq, show e - -1074 = e + 1074 by omega]
theorem own_fin_split {x : UInt64} {n e : Int} (h : own_Is x n e) : ∃ s c q, val64 x = .fin s c q ∧ Jvm.FP.Core.fits b64 (.fin s c q) ∧ signed s (inUnits c q b64.qmin) = n * ((2 ^ (e + 1074).toNat : Nat) : Int) ∧ -1074 ≤ q := by
  obtain ⟨⟨s, c, q, hv⟩, he, hz⟩ := h
  have hf := val64_fits x
  rw [hv] at hf hz
  have := hf.2.1
  rw [qmin_b64] at this
  exact ⟨s, c, q, hv, hf, hz, this⟩
theorem own_Is_of {x : UInt64} {s : Bool} {c : Nat} {q n e : Int} (hv : val64 x = .fin s c q) (he : -1074 ≤ e) (h : signed s (inUnits c q b64.qmin) = n * ((2 ^ (e + 1074).toNat : Nat) : Int)) : own_Is x n e :=
  ⟨⟨s, c, q, hv⟩, he, by rw [hv]; exact h⟩
theorem own_sum {s : Bool} {c : Nat} {q n e : Int} (hq : -1074 ≤ q) (hn : n.natAbs < 9007199254740992) (he1 : -1074 ≤ e) (he2 : e ≤ 971) (h : signed s (inUnits c q b64.qmin) = n * ((2 ^ (e + 1074).toNat : Nat) : Int)) :
    ∃ c' q', round b64 (.fin s c q) = .fin s c' q' ∧ signed s (inUnits c' q' b64.qmin) = n * ((2 ^ (e + 1074).toNat : Nat) : Int) := by
  have h1 : inUnits c q b64.qmin = n.natAbs * 2 ^ (e + 1074).toNat := by
    rw [← own_signed_abs s (inUnits c q b64.qmin), h, Int.natAbs_mul, Int.natAbs_natCast]
  have h2 : inUnits c q (-2148) = n.natAbs * 2 ^ (e + 2148).toNat := by
    rw [inUnits_move c (r := b64.qmin) (by rw [qmin_b64]; omega) (by rw [qmin_b64]; omega), h1, qmin_b64, Nat.mul_assoc, ← Nat.pow_add]
    congr 2; omega
  obtain ⟨c', q', h3, h4⟩ := own_round (s := s) (by omega) hn he1 he2 h2
  exact ⟨c', q', h3, by rw [h4, ← h1, h]⟩
theorem own_add {x y : UInt64} {m n e : Int} (hx : own_Is x m e) (hy : own_Is y n e) (he : e ≤ 971) (hb : (m + n).natAbs < 9007199254740992) : own_Is (dadd x y) (m + n) e := by
  have he1 := hx.2.1
  obtain ⟨s, c, q, vx, fx, zx, -⟩ := own_fin_split hx
  obtain ⟨t, d, r, vy, fy, zy, -⟩ := own_fin_split hy
  obtain ⟨sg, N, E, h1, h2, h3⟩ := sum_units fx fy
  have h4 : signed sg (inUnits N E b64.qmin) = (m + n) * ((2 ^ (e + 1074).toNat : Nat) : Int) := by
    rw [h3, Int.add_mul, ← zx, ← zy]; rfl
  obtain ⟨c', q', h5, h6⟩ := own_sum (by rw [qmin_b64] at h2; exact h2) hb he1 he h4
  exact own_Is_of (by rw [val64_dadd, vx, vy, h1, h5]) he1 h6
theorem own_sub {x y : UInt64} {m n e : Int} (hx : own_Is x m e) (hy : own_Is y n e) (he : e ≤ 971) (hb : (m - n).natAbs < 9007199254740992) : own_Is (dsub x y) (m - n) e := by
  have he1 := hx.2.1
  obtain ⟨s, c, q, vx, fx, zx, -⟩ := own_fin_split hx
  obtain ⟨t, d, r, vy, fy, zy, -⟩ := own_fin_split hy
  have fy' : Jvm.FP.Core.fits b64 (.fin (!t) d r) := fy
  obtain ⟨sg, N, E, h1, h2, h3⟩ := sum_units (t := !t) fx fy'
  have h4 : signed sg (inUnits N E b64.qmin) = (m - n) * ((2 ^ (e + 1074).toNat : Nat) : Int) := by
    rw [h3, Int.sub_mul, ← zx, ← zy]
    show signed s (inUnits c q b64.qmin) + signed (!t) (inUnits d r b64.qmin) = _
    rw [signed_not]; omega
  obtain ⟨c', q', h5, h6⟩ := own_sum (by rw [qmin_b64] at h2; exact h2) hb he1 he h4
  refine own_Is_of (s := sg) (c := c') (q := q') ?_ he1 h6
  rw [val64_dsub, vx, vy]
  show round b64 (exactSum (.fin s c q) (.fin (!t) d r)) = _
  rw [h1, h5]
theorem own_mul {x y : UInt64} {m n e1 e2 e : Int} (hx : own_Is x m e1) (hy : own_Is y n e2) (hee : e1 + e2 = e) (he1 : -1074 ≤ e) (he2 : e ≤ 971) (hb : (m * n).natAbs < 9007199254740992) : own_Is (dmul x y) (m * n) e := by
  subst hee
  have hx1 := hx.2.1
  have hy1 := hy.2.1
  obtain ⟨s, c, q, vx, fx, zx, qx⟩ := own_fin_split hx
  obtain ⟨t, d, r, vy, fy, zy, qy⟩ := own_fin_split hy
  obtain ⟨h1, h2, h3⟩ := product_units fx fy
  have hs : signed (s != t) (inUnits (c * d) (q + r) (-2148)) = (m * n) * ((2 ^ (e1 + e2 + 2148).toNat : Nat) : Int) := by
    have h4 : inUnits (c * d) (q + r) (-2148) = inUnits c q b64.qmin * inUnits d r b64.qmin := by
      have := h3
      rw [qmin_b64] at this ⊢
      exact this
    rw [h4, own_signed_mul, zx, zy, show (e1 + e2 + 2148).toNat = (e1 + 1074).toNat + (e2 + 1074).toNat by omega, Nat.pow_add, Int.natCast_mul]
    simp only [Int.mul_assoc, Int.mul_left_comm, Int.mul_comm]
  have h5 : inUnits (c * d) (q + r) (-2148) = (m * n).natAbs * 2 ^ (e1 + e2 + 2148).toNat := by
    rw [← own_signed_abs (s != t) (inUnits (c * d) (q + r) (-2148)), hs, Int.natAbs_mul, Int.natAbs_natCast]
  obtain ⟨c', q', h6, h7⟩ := own_round (s := (s != t)) (by omega) hb he1 he2 h5
  refine own_Is_of (s := (s != t)) (c := c') (q := q') (by rw [val64_dmul, vx, vy, h1, h6]) he1 ?_
  rw [h5, own_signed_scale] at hs
  have h8 : signed (s != t) (m * n).natAbs = m * n := Int.eq_of_mul_eq_mul_right (by have := Nat.two_pow_pos (e1 + e2 + 2148).toNat; omega) hs
  rw [h7, own_signed_scale, h8]
/-- the quotient of two exact doubles is the rounded ratio of their numbers -/
theorem own_divR {x y : UInt64} {m n e1 e2 : Int} (hx : own_Is x m e1) (hy : own_Is y n e2) (hn : n ≠ 0) :
    val64 (ddiv x y) = roundRatio b64 (sgn (val64 x) != sgn (val64 y)) m.natAbs n.natAbs (e1 - e2) ∧ signed (sgn (val64 x)) m.natAbs = m ∧ signed (sgn (val64 y)) n.natAbs = n := by
  have hx1 := hx.2.1
  have hy1 := hy.2.1
  obtain ⟨s, c, q, vx, fx, zx, qx⟩ := own_fin_split hx
  obtain ⟨t, d, r, vy, fy, zy, qy⟩ := own_fin_split hy
  have ax : inUnits c q b64.qmin = m.natAbs * 2 ^ (e1 + 1074).toNat := by
    rw [← own_signed_abs s (inUnits c q b64.qmin), zx, Int.natAbs_mul, Int.natAbs_natCast]
  have ay : inUnits d r b64.qmin = n.natAbs * 2 ^ (e2 + 1074).toNat := by
    rw [← own_signed_abs t (inUnits d r b64.qmin), zy, Int.natAbs_mul, Int.natAbs_natCast]
  have sx : signed s m.natAbs = m := by
    rw [ax, own_signed_scale] at zx
    exact Int.eq_of_mul_eq_mul_right (by have := Nat.two_pow_pos (e1 + 1074).toNat; omega) zx
  have sy : signed t n.natAbs = n := by
    rw [ay, own_signed_scale] at zy
    exact Int.eq_of_mul_eq_mul_right (by have := Nat.two_pow_pos (e2 + 1074).toNat; omega) zy
  have nn : n.natAbs ≠ 0 := by omega
  have hd : d ≠ 0 := by
    rintro rfl
    have : n.natAbs * 2 ^ (e2 + 1074).toNat = 0 := by rw [← ay]; unfold inUnits; simp
    rcases Nat.mul_eq_zero.mp this with h | h
    · exact nn h
    · have := Nat.two_pow_pos (e2 + 1074).toNat; omega
  refine ⟨?_, by rw [vx]; exact sx, by rw [vy]; exact sy⟩
  rw [val64_ddiv, vx, vy]
  show (if d = 0 then _ else roundRatio b64 (s != t) c d (q - r)) = roundRatio b64 (s != t) _ _ _
  rw [if_neg hd]
  refine roundRatio_congr (by omega) (by omega) ?_
  unfold inUnits at ax ay
  rw [qmin_b64] at ax ay
  have key : c * n.natAbs * 2 ^ ((q - -1074).toNat + (e2 + 1074).toNat) = m.natAbs * d * 2 ^ ((e1 + 1074).toNat + (r - -1074).toNat) := by
    have e3 : c * n.natAbs * 2 ^ ((q - -1074).toNat + (e2 + 1074).toNat) = (c * 2 ^ (q - -1074).toNat) * (n.natAbs * 2 ^ (e2 + 1074).toNat) := by
      rw [Nat.pow_add]; simp only [Nat.mul_assoc, Nat.mul_left_comm, Nat.mul_comm]
    rw [e3, ax, ← ay, Nat.pow_add]
    simp only [Nat.mul_assoc, Nat.mul_left_comm, Nat.mul_comm]
  have h4 := own_powc key (w := (q - r) - (e1 - e2)) (by omega)
  rw [h4, show -((q - r) - (e1 - e2)) = (e1 - e2) - (q - r) by omega]
theorem own_div {x y : UInt64} {m n N e1 e2 e : Int} (hx : own_Is x m e1) (hy : own_Is y n e2) (hn : n ≠ 0) (hm : m = N * n) (hee : e1 - e2 = e) (he1 : -1074 ≤ e) (he2 : e ≤ 971) (hb : N.natAbs < 9007199254740992) : own_Is (ddiv x y) N e := by
  subst hee
  obtain ⟨h1, h2, h3⟩ := own_divR hx hy hn
  have hq : b64.qmin = -1074 := qmin_b64
  obtain ⟨c', q', h5, h6⟩ := round_exact good_b64 (sgn (val64 x) != sgn (val64 y)) (c := N.natAbs) (q := e1 - e2) (show _ < 2 ^ 53 from hb) (by rw [hq]; omega) (by rw [own_qmax]; omega)
  refine own_Is_of (s := (sgn (val64 x) != sgn (val64 y))) (c := c') (q := q') ?_ he1 ?_
  · rw [h1, ← h5]
    show roundRatio _ _ _ _ _ = roundRatio b64 (sgn (val64 x) != sgn (val64 y)) N.natAbs 1 (e1 - e2)
    refine roundRatio_congr (by omega) (by decide) ?_
    rw [hm, Int.natAbs_mul]; simp
  · rw [h6]; unfold inUnits
    rw [hq, show e1 - e2 - -1074 = e1 - e2 + 1074 by omega, own_signed_scale]
    congr 1
    have h7 := own_signed_mul (sgn (val64 x)) (sgn (val64 y)) N.natAbs (n.natAbs * n.natAbs)
    have h8 : signed (sgn (val64 x) != sgn (val64 y)) (m.natAbs * n.natAbs) = m * n := by rw [own_signed_mul, h2, h3]
    rw [hm, Int.natAbs_mul, Nat.mul_assoc, own_signed_scale] at h8
    have h9 : ((n.natAbs * n.natAbs : Nat) : Int) = n * n := Int.natAbs_mul_self
    rw [h9, Int.mul_assoc] at h8
    refine Int.eq_of_mul_eq_mul_right ?_ h8
    intro h0
    rcases Int.mul_eq_zero.mp h0 with h | h <;> exact hn h
theorem own_shift {x : UInt64} {n e e' : Int} (j : Nat) (hx : own_Is x n e) (hj : e' = e - j) (he : -1074 ≤ e') : own_Is x (n * (2 ^ j : Nat)) e' := by
  subst hj
  refine ⟨hx.1, he, ?_⟩
  rw [hx.2.2, show (e + 1074).toNat = j + (e - j + 1074).toNat by omega, Nat.pow_add, Int.natCast_mul, ← Int.mul_assoc]
theorem own_nn {x : UInt64} {n e : Int} (h : own_Is x n e) : Jvm.Free.Fl.NoNaN64 x := Jvm.Free.Fl.noNaN64_no.mpr h.1.notNaN
theorem own_cmp {x y : UInt64} {m n e : Int} (hx : own_Is x m e) (hy : own_Is y n e) : dcmp x y = some (compare m n) := by
  rw [dcmp_zval hx.1.ne_nan hy.1.ne_nan, hx.2.2, hy.2.2]
  have hp : (0 : Int) < ((2 ^ (e + 1074).toNat : Nat) : Int) := by have := Nat.two_pow_pos (e + 1074).toNat; omega
  congr 1
  refine compare_congr ⟨fun h => Int.lt_of_mul_lt_mul_right h (Int.le_of_lt hp), fun h => Int.mul_lt_mul_of_pos_right h hp⟩ ⟨fun h => Int.eq_of_mul_eq_mul_right (Int.ne_of_gt hp) h, fun h => by rw [h]⟩
theorem own_i2d (a : Int32) : own_Is (i2d a) a.toInt 0 := by
  have h := i2d_int a
  refine ⟨?_, by decide, ?_⟩
  · rw [i2d_l2d]; exact l2d_fin _
  · rw [DInt_zval h]; rfl
theorem own_l2d {a : Int64} (h : a.toInt.natAbs ≤ 9007199254740992) : own_Is (l2d a) a.toInt 0 := by
  have h := l2d_int (a := a) h
  exact ⟨l2d_fin _, by decide, by rw [DInt_zval h]; rfl⟩
/-- with a bound on the number -/
def own_B (x : UInt64) (n e B : Int) : Prop := own_Is x n e ∧ -B ≤ n ∧ n ≤ B
theorem own_B.is {x : UInt64} {n e B : Int} (h : own_B x n e B) : own_Is x n e := h.1
theorem own_B.nn {x : UInt64} {n e B : Int} (h : own_B x n e B) : Jvm.Free.Fl.NoNaN64 x := own_nn h.1
theorem own_Badd {x y : UInt64} {m n e A B : Int} (hx : own_B x m e A) (hy : own_B y n e B) (h : (decide (e ≤ 971) && decide (A + B < 9007199254740992)) = true) : own_B (dadd x y) (m + n) e (A + B) := by
  simp only [Bool.and_eq_true, decide_eq_true_eq] at h
  have := hx.2; have := hy.2
  exact ⟨own_add hx.1 hy.1 h.1 (by omega), by omega, by omega⟩
theorem own_Bsub {x y : UInt64} {m n e A B : Int} (hx : own_B x m e A) (hy : own_B y n e B) (h : (decide (e ≤ 971) && decide (A + B < 9007199254740992)) = true) : own_B (dsub x y) (m - n) e (A + B) := by
  simp only [Bool.and_eq_true, decide_eq_true_eq] at h
  have := hx.2; have := hy.2
  exact ⟨own_sub hx.1 hy.1 h.1 (by omega), by omega, by omega⟩
theorem own_bmul {m n A B : Int} (hm : -A ≤ m ∧ m ≤ A) (hn : -B ≤ n ∧ n ≤ B) : -(A * B) ≤ m * n ∧ m * n ≤ A * B := by
  have h : (m * n).natAbs ≤ A.toNat * B.toNat := by rw [Int.natAbs_mul]; exact Nat.mul_le_mul (by omega) (by omega)
  have h2 : ((A.toNat * B.toNat : Nat) : Int) = A * B := by rw [Int.natCast_mul, Int.toNat_of_nonneg (by omega), Int.toNat_of_nonneg (by omega)]
  omega
theorem own_Bmul {x y : UInt64} {m n e1 e2 A B : Int} (hx : own_B x m e1 A) (hy : own_B y n e2 B) (h : (decide (-1074 ≤ e1 + e2) && decide (e1 + e2 ≤ 971) && decide (A * B < 9007199254740992)) = true) : own_B (dmul x y) (m * n) (e1 + e2) (A * B) := by
  simp only [Bool.and_eq_true, decide_eq_true_eq] at h
  have hb := own_bmul hx.2 hy.2
  exact ⟨own_mul hx.1 hy.1 rfl h.1.1 h.1.2 (by omega), hb⟩
/-- an exact quotient by a power of two (n = 1 in y = 1 * 2^e2) -/
theorem own_Bdiv {x y : UInt64} {m e1 e2 A : Int} (hx : own_B x m e1 A) (hy : own_Is y 1 e2) (h : (decide (-1074 ≤ e1 - e2) && decide (e1 - e2 ≤ 971) && decide (A < 9007199254740992)) = true) : own_B (ddiv x y) m (e1 - e2) A := by
  simp only [Bool.and_eq_true, decide_eq_true_eq] at h
  have := hx.2
  exact ⟨own_div hx.1 hy (by decide) (Int.mul_one _).symm rfl h.1.1 h.1.2 (by omega), hx.2⟩
theorem own_Bshift {x : UInt64} {n e A : Int} (j : Nat) (P : Int) (hx : own_B x n e A) (h : (decide (-1074 ≤ e - j) && decide (((2 ^ j : Nat) : Int) = P)) = true) : own_B x (n * P) (e - j) (A * P) := by
  simp only [Bool.and_eq_true, decide_eq_true_eq] at h
  obtain ⟨h, rfl⟩ := h
  refine ⟨own_shift j hx.1 rfl h, ?_⟩
  have hp : (0 : Int) ≤ (2 ^ j : Nat) := Int.natCast_nonneg _
  have := hx.2
  constructor
  · rw [← Int.neg_mul]; exact Int.mul_le_mul_of_nonneg_right this.1 hp
  · exact Int.mul_le_mul_of_nonneg_right this.2 hp
theorem own_Bcast {x : UInt64} {n n' e e' A A' : Int} (h : own_B x n e A) (hn : n = n') (he : e = e') (hA : A ≤ A') : own_B x n' e' A' := by
  subst hn he; exact ⟨h.1, by have := h.2; omega, by have := h.2; omega⟩
theorem own_eq0 {x y : UInt64} {m n e : Int} (hx : own_Is x m e) (hy : own_Is y n e) (h : m = n) (o : ClassFile.CmpOp) : Op.cmpValue (Jvm.FP.dcmp x y) o = 0 := by
  show Op.cmpValue (dcmp x y) o = 0
  subst h
  rw [own_cmp hx hy, show compare m m = .eq from (compare_eq_iff m m).mpr rfl]; cases o <;> rfl
theorem own_cmpv {x y : UInt64} {m n e : Int} (hx : own_Is x m e) (hy : own_Is y n e) (o : ClassFile.CmpOp) : (m < n → Op.cmpValue (Jvm.FP.dcmp x y) o = -1) ∧ (m = n → Op.cmpValue (Jvm.FP.dcmp x y) o = 0) ∧ (n < m → Op.cmpValue (Jvm.FP.dcmp x y) o = 1) := by
  refine ⟨fun h => ?_, fun h => own_eq0 hx hy h o, fun h => ?_⟩
  · show Op.cmpValue (dcmp x y) o = -1
    rw [own_cmp hx hy, (compare_lt_iff m n).mpr h]; cases o <;> rfl
  · show Op.cmpValue (dcmp x y) o = 1
    rw [own_cmp hx hy, (compare_gt_iff m n).mpr h]; cases o <;> rfl
theorem own_one : own_Is 4607182418800017408 1 0 := ⟨(fin_bits _).mpr (by decide), by decide, by decide +kernel⟩
theorem own_zero : own_Is 0 0 0 := ⟨(fin_bits _).mpr (by decide), by decide, by decide +kernel⟩
/-! ints and longs with their numbers and bounds -/
def own_I (v : Int32) (n B : Int) : Prop := v.toInt = n ∧ -B ≤ n ∧ n ≤ B
def own_L (v : Int64) (n B : Int) : Prop := v.toInt = n ∧ -B ≤ n ∧ n ≤ B
theorem own_Iadd {a b v : Int32} {m n A B : Int} (hv : a + b = v) (ha : own_I a m A) (hb : own_I b n B) (h : decide (A + B < 2147483648) = true) : own_I v (m + n) (A + B) := by
  subst hv; simp only [decide_eq_true_eq] at h; obtain ⟨rfl, h1, h2⟩ := ha; obtain ⟨rfl, h3, h4⟩ := hb
  exact ⟨by rw [Int32.toInt_add]; exact Int.bmod_eq_of_le (by omega) (by omega), by omega, by omega⟩
theorem own_Isub {a b v : Int32} {m n A B : Int} (hv : a - b = v) (ha : own_I a m A) (hb : own_I b n B) (h : decide (A + B < 2147483648) = true) : own_I v (m - n) (A + B) := by
  subst hv; simp only [decide_eq_true_eq] at h; obtain ⟨rfl, h1, h2⟩ := ha; obtain ⟨rfl, h3, h4⟩ := hb
  exact ⟨by rw [Int32.toInt_sub]; exact Int.bmod_eq_of_le (by omega) (by omega), by omega, by omega⟩
theorem own_Imul {a b v : Int32} {m n A B : Int} (hv : a * b = v) (ha : own_I a m A) (hb : own_I b n B) (h : decide (A * B < 2147483648) = true) : own_I v (m * n) (A * B) := by
  subst hv; simp only [decide_eq_true_eq] at h; obtain ⟨rfl, h1⟩ := ha; obtain ⟨rfl, h3⟩ := hb
  have hb := own_bmul h1 h3
  exact ⟨by rw [Int32.toInt_mul]; exact Int.bmod_eq_of_le (by omega) (by omega), hb⟩
theorem own_Ladd {a b v : Int64} {m n A B : Int} (hv : a + b = v) (ha : own_L a m A) (hb : own_L b n B) (h : decide (A + B < 9223372036854775808) = true) : own_L v (m + n) (A + B) := by
  subst hv; simp only [decide_eq_true_eq] at h; obtain ⟨rfl, h1, h2⟩ := ha; obtain ⟨rfl, h3, h4⟩ := hb
  exact ⟨by rw [Int64.toInt_add]; exact Int.bmod_eq_of_le (by omega) (by omega), by omega, by omega⟩
theorem own_Lsub {a b v : Int64} {m n A B : Int} (hv : a - b = v) (ha : own_L a m A) (hb : own_L b n B) (h : decide (A + B < 9223372036854775808) = true) : own_L v (m - n) (A + B) := by
  subst hv; simp only [decide_eq_true_eq] at h; obtain ⟨rfl, h1, h2⟩ := ha; obtain ⟨rfl, h3, h4⟩ := hb
  exact ⟨by rw [Int64.toInt_sub]; exact Int.bmod_eq_of_le (by omega) (by omega), by omega, by omega⟩
theorem own_Lmul {a b v : Int64} {m n A B : Int} (hv : a * b = v) (ha : own_L a m A) (hb : own_L b n B) (h : decide (A * B < 9223372036854775808) = true) : own_L v (m * n) (A * B) := by
  subst hv; simp only [decide_eq_true_eq] at h; obtain ⟨rfl, h1⟩ := ha; obtain ⟨rfl, h3⟩ := hb
  have hb := own_bmul h1 h3
  exact ⟨by rw [Int64.toInt_mul]; exact Int.bmod_eq_of_le (by omega) (by omega), hb⟩
theorem own_Ii2l {a : Int32} {v : Int64} {m A : Int} (hv : Int32.toInt64 a = v) (ha : own_I a m A) : own_L v m A := by
  subst hv; exact ⟨by rw [Int32.toInt_toInt64]; exact ha.1, ha.2⟩
theorem own_Icast {v : Int32} {n n' A A' : Int} (h : own_I v n A) (hn : n = n') (hA : A ≤ A') : own_I v n' A' := by
  subst hn; exact ⟨h.1, by have := h.2; omega, by have := h.2; omega⟩
theorem own_Lcast {v : Int64} {n n' A A' : Int} (h : own_L v n A) (hn : n = n') (hA : A ≤ A') : own_L v n' A' := by
  subst hn; exact ⟨h.1, by have := h.2; omega, by have := h.2; omega⟩
theorem own_Bi2d {v : Int32} {n A : Int} (h : own_I v n A) : own_B (i2d v) n 0 A := by
  obtain ⟨rfl, h1⟩ := h; exact ⟨own_i2d v, h1⟩
theorem own_Bl2d {v : Int64} {n A : Int} (h : own_L v n A) (hA : decide (A ≤ 9007199254740992) = true) : own_B (l2d v) n 0 A := by
  simp only [decide_eq_true_eq] at hA; obtain ⟨rfl, h1⟩ := h; exact ⟨own_l2d (by omega), h1⟩
theorem own_Irng (v : Int32) : own_I v v.toInt 2147483648 := ⟨rfl, by have := Jvm.RoadKit.rng32 v; omega, by have := Jvm.RoadKit.rng32 v; omega⟩
theorem own_Iand {x m v : Int32} {B : Int} (hv : x &&& m = v) (hB : m.toInt = B) (h0 : 0 ≤ B) : own_I v v.toInt B := by
  have := Jvm.RoadKit.c_and x m (by omega); rw [hv] at this; exact ⟨rfl, by omega, by omega⟩
end OwnFP
section OwnStep
open Jvm Jvm.ClassFile Sem Op Lib Jvm.Free Jvm.Stand Jvm.LawKit Jvm.RoadKit
variable {tb : Tables} [Ours tb] {e : Env} {below : List Frame} {T target : State} {m : MethodId} {c : Code} {pc pc' : Nat} {L : Array Slot} {S : List Value}
theorem own_s_iadd (h : At T m c below) (hx : tb.exec = Jvm.exec) {x y v : Int32} (hd : decode c.code pc = .ok (.iadd, 1)) (hp : pc + 1 = pc') (hv : x + y = v)
    (hr : Steps tb e below (T.setTop (mkF m pc' L (.int v :: S))) target) : Steps tb e below (T.setTop (mkF m pc L (.int y :: .int x :: S))) target := by
  subst hv hp; exact XS.iadd h hx rfl hd rfl hr
theorem own_s_ladd (h : At T m c below) (hx : tb.exec = Jvm.exec) {x y v : Int64} (hd : decode c.code pc = .ok (.ladd, 1)) (hp : pc + 1 = pc') (hv : x + y = v)
    (hr : Steps tb e below (T.setTop (mkF m pc' L (.long v :: S))) target) : Steps tb e below (T.setTop (mkF m pc L (.long y :: .long x :: S))) target := by
  subst hv hp; exact XS.ladd h hx rfl hd rfl hr
theorem own_s_isub (h : At T m c below) (hx : tb.exec = Jvm.exec) {x y v : Int32} (hd : decode c.code pc = .ok (.isub, 1)) (hp : pc + 1 = pc') (hv : x - y = v)
    (hr : Steps tb e below (T.setTop (mkF m pc' L (.int v :: S))) target) : Steps tb e below (T.setTop (mkF m pc L (.int y :: .int x :: S))) target := by
  subst hv hp; exact XS.isub h hx rfl hd rfl hr
theorem own_s_lsub (h : At T m c below) (hx : tb.exec = Jvm.exec) {x y v : Int64} (hd : decode c.code pc = .ok (.lsub, 1)) (hp : pc + 1 = pc') (hv : x - y = v)
    (hr : Steps tb e below (T.setTop (mkF m pc' L (.long v :: S))) target) : Steps tb e below (T.setTop (mkF m pc L (.long y :: .long x :: S))) target := by
  subst hv hp; exact XS.lsub h hx rfl hd rfl hr
theorem own_s_imul (h : At T m c below) (hx : tb.exec = Jvm.exec) {x y v : Int32} (hd : decode c.code pc = .ok (.imul, 1)) (hp : pc + 1 = pc') (hv : x * y = v)
    (hr : Steps tb e below (T.setTop (mkF m pc' L (.int v :: S))) target) : Steps tb e below (T.setTop (mkF m pc L (.int y :: .int x :: S))) target := by
  subst hv hp; exact XS.imul h hx rfl hd rfl hr
theorem own_s_lmul (h : At T m c below) (hx : tb.exec = Jvm.exec) {x y v : Int64} (hd : decode c.code pc = .ok (.lmul, 1)) (hp : pc + 1 = pc') (hv : x * y = v)
    (hr : Steps tb e below (T.setTop (mkF m pc' L (.long v :: S))) target) : Steps tb e below (T.setTop (mkF m pc L (.long y :: .long x :: S))) target := by
  subst hv hp; exact XS.lmul h hx rfl hd rfl hr
theorem own_s_iand (h : At T m c below) (hx : tb.exec = Jvm.exec) {x y v : Int32} (hd : decode c.code pc = .ok (.iand, 1)) (hp : pc + 1 = pc') (hv : x &&& y = v)
    (hr : Steps tb e below (T.setTop (mkF m pc' L (.int v :: S))) target) : Steps tb e below (T.setTop (mkF m pc L (.int y :: .int x :: S))) target := by
  subst hv hp; exact XS.iand h hx rfl hd rfl hr
theorem own_s_land (h : At T m c below) (hx : tb.exec = Jvm.exec) {x y v : Int64} (hd : decode c.code pc = .ok (.land, 1)) (hp : pc + 1 = pc') (hv : x &&& y = v)
    (hr : Steps tb e below (T.setTop (mkF m pc' L (.long v :: S))) target) : Steps tb e below (T.setTop (mkF m pc L (.long y :: .long x :: S))) target := by
  subst hv hp; exact XS.land h hx rfl hd rfl hr
theorem own_s_ior (h : At T m c below) (hx : tb.exec = Jvm.exec) {x y v : Int32} (hd : decode c.code pc = .ok (.ior, 1)) (hp : pc + 1 = pc') (hv : x ||| y = v)
    (hr : Steps tb e below (T.setTop (mkF m pc' L (.int v :: S))) target) : Steps tb e below (T.setTop (mkF m pc L (.int y :: .int x :: S))) target := by
  subst hv hp; exact XS.ior h hx rfl hd rfl hr
theorem own_s_lor (h : At T m c below) (hx : tb.exec = Jvm.exec) {x y v : Int64} (hd : decode c.code pc = .ok (.lor, 1)) (hp : pc + 1 = pc') (hv : x ||| y = v)
    (hr : Steps tb e below (T.setTop (mkF m pc' L (.long v :: S))) target) : Steps tb e below (T.setTop (mkF m pc L (.long y :: .long x :: S))) target := by
  subst hv hp; exact XS.lor h hx rfl hd rfl hr
theorem own_s_ixor (h : At T m c below) (hx : tb.exec = Jvm.exec) {x y v : Int32} (hd : decode c.code pc = .ok (.ixor, 1)) (hp : pc + 1 = pc') (hv : x ^^^ y = v)
    (hr : Steps tb e below (T.setTop (mkF m pc' L (.int v :: S))) target) : Steps tb e below (T.setTop (mkF m pc L (.int y :: .int x :: S))) target := by
  subst hv hp; exact XS.ixor h hx rfl hd rfl hr
theorem own_s_lxor (h : At T m c below) (hx : tb.exec = Jvm.exec) {x y v : Int64} (hd : decode c.code pc = .ok (.lxor, 1)) (hp : pc + 1 = pc') (hv : x ^^^ y = v)
    (hr : Steps tb e below (T.setTop (mkF m pc' L (.long v :: S))) target) : Steps tb e below (T.setTop (mkF m pc L (.long y :: .long x :: S))) target := by
  subst hv hp; exact XS.lxor h hx rfl hd rfl hr
theorem own_s_idiv (h : At T m c below) (hx : tb.exec = Jvm.exec) {x y v : Int32} (hd : decode c.code pc = .ok (.idiv, 1)) (hp : pc + 1 = pc') (hy : y ≠ 0) (hv : x / y = v)
    (hr : Steps tb e below (T.setTop (mkF m pc' L (.int v :: S))) target) : Steps tb e below (T.setTop (mkF m pc L (.int y :: .int x :: S))) target := by
  subst hv hp; exact XS.idiv h hx rfl hd rfl hy hr
theorem own_s_irem (h : At T m c below) (hx : tb.exec = Jvm.exec) {x y v : Int32} (hd : decode c.code pc = .ok (.irem, 1)) (hp : pc + 1 = pc') (hy : y ≠ 0) (hv : x % y = v)
    (hr : Steps tb e below (T.setTop (mkF m pc' L (.int v :: S))) target) : Steps tb e below (T.setTop (mkF m pc L (.int y :: .int x :: S))) target := by
  subst hv hp; rw [← irem_eq_mod] at hr; exact XS.irem h hx rfl hd rfl hy hr
theorem own_s_ldiv (h : At T m c below) (hx : tb.exec = Jvm.exec) {x y v : Int64} (hd : decode c.code pc = .ok (.ldiv, 1)) (hp : pc + 1 = pc') (hy : y ≠ 0) (hv : x / y = v)
    (hr : Steps tb e below (T.setTop (mkF m pc' L (.long v :: S))) target) : Steps tb e below (T.setTop (mkF m pc L (.long y :: .long x :: S))) target := by
  subst hv hp; exact XS.ldiv h hx rfl hd rfl hy hr
theorem own_s_lrem (h : At T m c below) (hx : tb.exec = Jvm.exec) {x y v : Int64} (hd : decode c.code pc = .ok (.lrem, 1)) (hp : pc + 1 = pc') (hy : y ≠ 0) (hv : x % y = v)
    (hr : Steps tb e below (T.setTop (mkF m pc' L (.long v :: S))) target) : Steps tb e below (T.setTop (mkF m pc L (.long y :: .long x :: S))) target := by
  subst hv hp; rw [← lrem_mod] at hr; exact XS.lrem h hx rfl hd rfl hy hr
theorem own_s_ishl (h : At T m c below) (hx : tb.exec = Jvm.exec) {x y v : Int32} (hd : decode c.code pc = .ok (.ishl, 1)) (hp : pc + 1 = pc') (hv : x <<< (y &&& 31) = v)
    (hr : Steps tb e below (T.setTop (mkF m pc' L (.int v :: S))) target) : Steps tb e below (T.setTop (mkF m pc L (.int y :: .int x :: S))) target := by
  subst hv hp; exact XS.ishl h hx rfl hd rfl hr
theorem own_s_ishr (h : At T m c below) (hx : tb.exec = Jvm.exec) {x y v : Int32} (hd : decode c.code pc = .ok (.ishr, 1)) (hp : pc + 1 = pc') (hv : x >>> (y &&& 31) = v)
    (hr : Steps tb e below (T.setTop (mkF m pc' L (.int v :: S))) target) : Steps tb e below (T.setTop (mkF m pc L (.int y :: .int x :: S))) target := by
  subst hv hp; exact XS.ishr h hx rfl hd rfl hr
theorem own_s_iushr (h : At T m c below) (hx : tb.exec = Jvm.exec) {x y v : Int32} (hd : decode c.code pc = .ok (.iushr, 1)) (hp : pc + 1 = pc') (hv : (x.toUInt32 >>> (y &&& 31).toUInt32).toInt32 = v)
    (hr : Steps tb e below (T.setTop (mkF m pc' L (.int v :: S))) target) : Steps tb e below (T.setTop (mkF m pc L (.int y :: .int x :: S))) target := by
  subst hv hp; exact XS.iushr h hx rfl hd rfl hr
theorem own_s_lshl (h : At T m c below) (hx : tb.exec = Jvm.exec) {x v : Int64} {y : Int32} (hd : decode c.code pc = .ok (.lshl, 1)) (hp : pc + 1 = pc') (hv : x <<< (y &&& 63).toInt64 = v)
    (hr : Steps tb e below (T.setTop (mkF m pc' L (.long v :: S))) target) : Steps tb e below (T.setTop (mkF m pc L (.int y :: .long x :: S))) target := by
  subst hv hp; exact XS.lshl h hx rfl hd rfl hr
theorem own_s_lshr (h : At T m c below) (hx : tb.exec = Jvm.exec) {x v : Int64} {y : Int32} (hd : decode c.code pc = .ok (.lshr, 1)) (hp : pc + 1 = pc') (hv : x >>> (y &&& 63).toInt64 = v)
    (hr : Steps tb e below (T.setTop (mkF m pc' L (.long v :: S))) target) : Steps tb e below (T.setTop (mkF m pc L (.int y :: .long x :: S))) target := by
  subst hv hp; exact XS.lshr h hx rfl hd rfl hr
theorem own_s_lushr (h : At T m c below) (hx : tb.exec = Jvm.exec) {x v : Int64} {y : Int32} (hd : decode c.code pc = .ok (.lushr, 1)) (hp : pc + 1 = pc') (hv : (x.toUInt64 >>> (y &&& 63).toInt64.toUInt64).toInt64 = v)
    (hr : Steps tb e below (T.setTop (mkF m pc' L (.long v :: S))) target) : Steps tb e below (T.setTop (mkF m pc L (.int y :: .long x :: S))) target := by
  subst hv hp; exact XS.lushr h hx rfl hd rfl hr
theorem own_s_i2l (h : At T m c below) (hx : tb.exec = Jvm.exec) {x : Int32} {v : Int64} (hd : decode c.code pc = .ok (.i2l, 1)) (hp : pc + 1 = pc') (hv : x.toInt64 = v)
    (hr : Steps tb e below (T.setTop (mkF m pc' L (.long v :: S))) target) : Steps tb e below (T.setTop (mkF m pc L (.int x :: S))) target := by
  subst hv hp; exact XS.i2l h hx rfl hd rfl hr
theorem own_s_l2i (h : At T m c below) (hx : tb.exec = Jvm.exec) {x : Int64} {v : Int32} (hd : decode c.code pc = .ok (.l2i, 1)) (hp : pc + 1 = pc') (hv : x.toInt32 = v)
    (hr : Steps tb e below (T.setTop (mkF m pc' L (.int v :: S))) target) : Steps tb e below (T.setTop (mkF m pc L (.long x :: S))) target := by
  subst hv hp; exact XS.l2i h hx rfl hd rfl hr
theorem own_s_i2b (h : At T m c below) (hx : tb.exec = Jvm.exec) {x : Int32} {v : Int32} (hd : decode c.code pc = .ok (.i2b, 1)) (hp : pc + 1 = pc') (hv : x.toInt8.toInt32 = v)
    (hr : Steps tb e below (T.setTop (mkF m pc' L (.int v :: S))) target) : Steps tb e below (T.setTop (mkF m pc L (.int x :: S))) target := by
  subst hv hp; exact XS.i2b h hx rfl hd rfl hr
theorem own_s_i2s (h : At T m c below) (hx : tb.exec = Jvm.exec) {x : Int32} {v : Int32} (hd : decode c.code pc = .ok (.i2s, 1)) (hp : pc + 1 = pc') (hv : x.toInt16.toInt32 = v)
    (hr : Steps tb e below (T.setTop (mkF m pc' L (.int v :: S))) target) : Steps tb e below (T.setTop (mkF m pc L (.int x :: S))) target := by
  subst hv hp; exact XS.i2s h hx rfl hd rfl hr
theorem own_s_ineg (h : At T m c below) (hx : tb.exec = Jvm.exec) {x : Int32} {v : Int32} (hd : decode c.code pc = .ok (.ineg, 1)) (hp : pc + 1 = pc') (hv : -x = v)
    (hr : Steps tb e below (T.setTop (mkF m pc' L (.int v :: S))) target) : Steps tb e below (T.setTop (mkF m pc L (.int x :: S))) target := by
  subst hv hp; exact XS.ineg h hx rfl hd rfl hr
theorem own_s_lneg (h : At T m c below) (hx : tb.exec = Jvm.exec) {x : Int64} {v : Int64} (hd : decode c.code pc = .ok (.lneg, 1)) (hp : pc + 1 = pc') (hv : -x = v)
    (hr : Steps tb e below (T.setTop (mkF m pc' L (.long v :: S))) target) : Steps tb e below (T.setTop (mkF m pc L (.long x :: S))) target := by
  subst hv hp; exact XS.lneg h hx rfl hd rfl hr
theorem own_s_i2d (h : At T m c below) (hx : tb.exec = Jvm.exec) {x : Int32} {v : UInt64} (hd : decode c.code pc = .ok (.i2d, 1)) (hp : pc + 1 = pc') (hv : FP.i2d x = v)
    (hr : Steps tb e below (T.setTop (mkF m pc' L (.double v :: S))) target) : Steps tb e below (T.setTop (mkF m pc L (.int x :: S))) target := by
  subst hv hp; exact XS.i2dS h hx rfl hd rfl rfl hr
theorem own_s_l2d (h : At T m c below) (hx : tb.exec = Jvm.exec) {x : Int64} {v : UInt64} (hd : decode c.code pc = .ok (.l2d, 1)) (hp : pc + 1 = pc') (hv : FP.l2d x = v)
    (hr : Steps tb e below (T.setTop (mkF m pc' L (.double v :: S))) target) : Steps tb e below (T.setTop (mkF m pc L (.long x :: S))) target := by
  subst hv hp; exact XS.l2dS h hx rfl hd rfl rfl hr
theorem own_s_dneg (h : At T m c below) (hx : tb.exec = Jvm.exec) {x : UInt64} {v : UInt64} (hd : decode c.code pc = .ok (.dneg, 1)) (hp : pc + 1 = pc') (hv : FP.dneg x = v)
    (hr : Steps tb e below (T.setTop (mkF m pc' L (.double v :: S))) target) : Steps tb e below (T.setTop (mkF m pc L (.double x :: S))) target := by
  subst hv hp; exact XS.dnegS h hx rfl hd rfl rfl hr
theorem own_s_dadd (h : At T m c below) (hx : tb.exec = Jvm.exec) {x y v : UInt64} (hd : decode c.code pc = .ok (.dadd, 1)) (hp : pc + 1 = pc') (hn : Jvm.Free.Fl.NoNaN64 (FP.dadd x y)) (hv : FP.dadd x y = v)
    (hr : Steps tb e below (T.setTop (mkF m pc' L (.double v :: S))) target) : Steps tb e below (T.setTop (mkF m pc L (.double y :: .double x :: S))) target := by
  subst hv hp; exact XS.daddS h hx rfl hd rfl hn rfl hr
theorem own_s_dsub (h : At T m c below) (hx : tb.exec = Jvm.exec) {x y v : UInt64} (hd : decode c.code pc = .ok (.dsub, 1)) (hp : pc + 1 = pc') (hn : Jvm.Free.Fl.NoNaN64 (FP.dsub x y)) (hv : FP.dsub x y = v)
    (hr : Steps tb e below (T.setTop (mkF m pc' L (.double v :: S))) target) : Steps tb e below (T.setTop (mkF m pc L (.double y :: .double x :: S))) target := by
  subst hv hp; exact XS.dsubS h hx rfl hd rfl hn rfl hr
theorem own_s_dmul (h : At T m c below) (hx : tb.exec = Jvm.exec) {x y v : UInt64} (hd : decode c.code pc = .ok (.dmul, 1)) (hp : pc + 1 = pc') (hn : Jvm.Free.Fl.NoNaN64 (FP.dmul x y)) (hv : FP.dmul x y = v)
    (hr : Steps tb e below (T.setTop (mkF m pc' L (.double v :: S))) target) : Steps tb e below (T.setTop (mkF m pc L (.double y :: .double x :: S))) target := by
  subst hv hp; exact XS.dmulS h hx rfl hd rfl hn rfl hr
theorem own_s_ddiv (h : At T m c below) (hx : tb.exec = Jvm.exec) {x y v : UInt64} (hd : decode c.code pc = .ok (.ddiv, 1)) (hp : pc + 1 = pc') (hn : Jvm.Free.Fl.NoNaN64 (FP.ddiv x y)) (hv : FP.ddiv x y = v)
    (hr : Steps tb e below (T.setTop (mkF m pc' L (.double v :: S))) target) : Steps tb e below (T.setTop (mkF m pc L (.double y :: .double x :: S))) target := by
  subst hv hp; exact XS.ddivS h hx rfl hd rfl hn rfl hr
theorem own_s_dcmp (h : At T m c below) (hx : tb.exec = Jvm.exec) {o : CmpOp} {x y : UInt64} {v : Int32} (hd : decode c.code pc = .ok (.dcmp o, 1)) (hp : pc + 1 = pc') (hv : Op.cmpValue (FP.dcmp x y) o = v)
    (hr : Steps tb e below (T.setTop (mkF m pc' L (.int v :: S))) target) : Steps tb e below (T.setTop (mkF m pc L (.double y :: .double x :: S))) target := by
  subst hv hp; exact XS.dcmpS h hx rfl hd rfl rfl hr
theorem own_s_lcmp (h : At T m c below) (hx : tb.exec = Jvm.exec) {x y : Int64} {v : Int32} (hd : decode c.code pc = .ok (.lcmp, 1)) (hp : pc + 1 = pc') (hv : lcmpW x y = v)
    (hr : Steps tb e below (T.setTop (mkF m pc' L (.int v :: S))) target) : Steps tb e below (T.setTop (mkF m pc L (.long y :: .long x :: S))) target := by
  subst hv hp; exact XS.lcmp h hx rfl hd rfl hr
theorem own_s_iconst (h : At T m c below) (hx : tb.exec = Jvm.exec) {i : Int} {v : Int32} (hd : decode c.code pc = .ok (.iconst i, 1)) (hp : pc + 1 = pc') (hv : Int32.ofInt i = v)
    (hr : Steps tb e below (T.setTop (mkF m pc' L (.int v :: S))) target) : Steps tb e below (T.setTop (mkF m pc L S)) target := by
  subst hv hp; exact XS.iconst h hx rfl hd hr
theorem own_s_bipush (h : At T m c below) (hx : tb.exec = Jvm.exec) {i : Int} {v : Int32} (hd : decode c.code pc = .ok (.bipush i, 2)) (hp : pc + 2 = pc') (hv : (Int8.ofInt i).toInt32 = v)
    (hr : Steps tb e below (T.setTop (mkF m pc' L (.int v :: S))) target) : Steps tb e below (T.setTop (mkF m pc L S)) target := by
  subst hv hp; exact XS.bipush h hx rfl hd hr
theorem own_s_sipush (h : At T m c below) (hx : tb.exec = Jvm.exec) {i : Int} {v : Int32} (hd : decode c.code pc = .ok (.sipush i, 3)) (hp : pc + 3 = pc') (hv : (Int16.ofInt i).toInt32 = v)
    (hr : Steps tb e below (T.setTop (mkF m pc' L (.int v :: S))) target) : Steps tb e below (T.setTop (mkF m pc L S)) target := by
  subst hv hp; exact XS.sipush h hx rfl hd hr
theorem own_s_lconst (h : At T m c below) (hx : tb.exec = Jvm.exec) {k : Fin 2} {v : Int64} (hd : decode c.code pc = .ok (.lconst k, 1)) (hp : pc + 1 = pc') (hv : Int64.ofNat k = v)
    (hr : Steps tb e below (T.setTop (mkF m pc' L (.long v :: S))) target) : Steps tb e below (T.setTop (mkF m pc L S)) target := by
  subst hv hp; exact XS.lconst h hx rfl hd hr
theorem own_s_dconst0 (h : At T m c below) (hx : tb.exec = Jvm.exec)  (hd : decode c.code pc = .ok (.dconst 0, 1)) (hp : pc + 1 = pc') 
    (hr : Steps tb e below (T.setTop (mkF m pc' L (.double 0 :: S))) target) : Steps tb e below (T.setTop (mkF m pc L S)) target := by
  subst hp; exact XS.dconst0 h hx rfl hd rfl hr
theorem own_s_dconst1 (h : At T m c below) (hx : tb.exec = Jvm.exec)  (hd : decode c.code pc = .ok (.dconst 1, 1)) (hp : pc + 1 = pc') 
    (hr : Steps tb e below (T.setTop (mkF m pc' L (.double 4607182418800017408 :: S))) target) : Steps tb e below (T.setTop (mkF m pc L S)) target := by
  subst hp; exact XS.dconst1 h hx rfl hd rfl hr
theorem own_s_aconst_null (h : At T m c below) (hx : tb.exec = Jvm.exec)  (hd : decode c.code pc = .ok (.aconst_null, 1)) (hp : pc + 1 = pc') 
    (hr : Steps tb e below (T.setTop (mkF m pc' L (.null :: S))) target) : Steps tb e below (T.setTop (mkF m pc L S)) target := by
  subst hp; exact XS.aconstNull h hx rfl hd hr
theorem own_s_dup (h : At T m c below) (hx : tb.exec = Jvm.exec) {x : Value} (hd : decode c.code pc = .ok (.dup, 1)) (hp : pc + 1 = pc') (hc : x.category = 1)
    (hr : Steps tb e below (T.setTop (mkF m pc' L (x :: x :: S))) target) : Steps tb e below (T.setTop (mkF m pc L (x :: S))) target := by
  subst hp; exact XS.dup h hx rfl hd rfl hc hr
theorem own_s_dupX1 (h : At T m c below) (hx : tb.exec = Jvm.exec) {x y : Value} (hd : decode c.code pc = .ok (.dup_x1, 1)) (hp : pc + 1 = pc') (hc : x.category = 1) (hc' : y.category = 1)
    (hr : Steps tb e below (T.setTop (mkF m pc' L (x :: y :: x :: S))) target) : Steps tb e below (T.setTop (mkF m pc L (x :: y :: S))) target := by
  subst hp; exact XS.dupX1 h hx rfl hd rfl hc hc' hr
theorem own_s_pop (h : At T m c below) (hx : tb.exec = Jvm.exec) {x : Value} (hd : decode c.code pc = .ok (.pop, 1)) (hp : pc + 1 = pc') (hc : x.category = 1)
    (hr : Steps tb e below (T.setTop (mkF m pc' L S)) target) : Steps tb e below (T.setTop (mkF m pc L (x :: S))) target := by
  subst hp; exact XS.pop h hx rfl hd rfl hc hr
theorem own_s_iloadN (h : At T m c below) (hx : tb.exec = Jvm.exec) {k : Fin 4} {v : Int32} (hd : decode c.code pc = .ok (.iload_n k, 1)) (hp : pc + 1 = pc') (hl : L[k.val]? = some (.val (.int v)))
    (hr : Steps tb e below (T.setTop (mkF m pc' L (.int v :: S))) target) : Steps tb e below (T.setTop (mkF m pc L S)) target := by
  subst hp; exact XS.iloadN h hx rfl hd hl hr
theorem own_s_iload (h : At T m c below) (hx : tb.exec = Jvm.exec) {k : Nat} {v : Int32} (hd : decode c.code pc = .ok (.iload k, 2)) (hp : pc + 2 = pc') (hl : L[k]? = some (.val (.int v)))
    (hr : Steps tb e below (T.setTop (mkF m pc' L (.int v :: S))) target) : Steps tb e below (T.setTop (mkF m pc L S)) target := by
  subst hp; exact XS.iload h hx rfl hd hl hr
theorem own_s_istoreN (h : At T m c below) (hx : tb.exec = Jvm.exec) {k : Fin 4} {v : Int32} {L' : Array Slot} (hd : decode c.code pc = .ok (.istore_n k, 1)) (hp : pc + 1 = pc') (hl : storeLocals L k.val (.int v) = some L')
    (hr : Steps tb e below (T.setTop (mkF m pc' L' S)) target) : Steps tb e below (T.setTop (mkF m pc L (.int v :: S))) target := by
  subst hp; exact XS.istoreN h hx rfl hd rfl hl hr
theorem own_s_istore (h : At T m c below) (hx : tb.exec = Jvm.exec) {k : Nat} {v : Int32} {L' : Array Slot} (hd : decode c.code pc = .ok (.istore k, 2)) (hp : pc + 2 = pc') (hl : storeLocals L k (.int v) = some L')
    (hr : Steps tb e below (T.setTop (mkF m pc' L' S)) target) : Steps tb e below (T.setTop (mkF m pc L (.int v :: S))) target := by
  subst hp; exact XS.istore h hx rfl hd rfl hl hr
theorem own_s_lloadN (h : At T m c below) (hx : tb.exec = Jvm.exec) {k : Fin 4} {v : Int64} (hd : decode c.code pc = .ok (.lload_n k, 1)) (hp : pc + 1 = pc') (hl : L[k.val]? = some (.val (.long v)))
    (hr : Steps tb e below (T.setTop (mkF m pc' L (.long v :: S))) target) : Steps tb e below (T.setTop (mkF m pc L S)) target := by
  subst hp; exact XS.lloadN h hx rfl hd hl hr
theorem own_s_lload (h : At T m c below) (hx : tb.exec = Jvm.exec) {k : Nat} {v : Int64} (hd : decode c.code pc = .ok (.lload k, 2)) (hp : pc + 2 = pc') (hl : L[k]? = some (.val (.long v)))
    (hr : Steps tb e below (T.setTop (mkF m pc' L (.long v :: S))) target) : Steps tb e below (T.setTop (mkF m pc L S)) target := by
  subst hp; exact XS.lload h hx rfl hd hl hr
theorem own_s_lstoreN (h : At T m c below) (hx : tb.exec = Jvm.exec) {k : Fin 4} {v : Int64} {L' : Array Slot} (hd : decode c.code pc = .ok (.lstore_n k, 1)) (hp : pc + 1 = pc') (hl : storeLocals L k.val (.long v) = some L')
    (hr : Steps tb e below (T.setTop (mkF m pc' L' S)) target) : Steps tb e below (T.setTop (mkF m pc L (.long v :: S))) target := by
  subst hp; exact XS.lstoreN h hx rfl hd rfl hl hr
theorem own_s_lstore (h : At T m c below) (hx : tb.exec = Jvm.exec) {k : Nat} {v : Int64} {L' : Array Slot} (hd : decode c.code pc = .ok (.lstore k, 2)) (hp : pc + 2 = pc') (hl : storeLocals L k (.long v) = some L')
    (hr : Steps tb e below (T.setTop (mkF m pc' L' S)) target) : Steps tb e below (T.setTop (mkF m pc L (.long v :: S))) target := by
  subst hp; exact XS.lstore h hx rfl hd rfl hl hr
theorem own_s_dloadN (h : At T m c below) (hx : tb.exec = Jvm.exec) {k : Fin 4} {v : UInt64} (hd : decode c.code pc = .ok (.dload_n k, 1)) (hp : pc + 1 = pc') (hl : L[k.val]? = some (.val (.double v)))
    (hr : Steps tb e below (T.setTop (mkF m pc' L (.double v :: S))) target) : Steps tb e below (T.setTop (mkF m pc L S)) target := by
  subst hp; exact XS.dloadN h hx rfl hd hl hr
theorem own_s_dload (h : At T m c below) (hx : tb.exec = Jvm.exec) {k : Nat} {v : UInt64} (hd : decode c.code pc = .ok (.dload k, 2)) (hp : pc + 2 = pc') (hl : L[k]? = some (.val (.double v)))
    (hr : Steps tb e below (T.setTop (mkF m pc' L (.double v :: S))) target) : Steps tb e below (T.setTop (mkF m pc L S)) target := by
  subst hp; exact XS.dload h hx rfl hd hl hr
theorem own_s_dstoreN (h : At T m c below) (hx : tb.exec = Jvm.exec) {k : Fin 4} {v : UInt64} {L' : Array Slot} (hd : decode c.code pc = .ok (.dstore_n k, 1)) (hp : pc + 1 = pc') (hl : storeLocals L k.val (.double v) = some L')
    (hr : Steps tb e below (T.setTop (mkF m pc' L' S)) target) : Steps tb e below (T.setTop (mkF m pc L (.double v :: S))) target := by
  subst hp; exact XS.dstoreN h hx rfl hd rfl hl hr
theorem own_s_dstore (h : At T m c below) (hx : tb.exec = Jvm.exec) {k : Nat} {v : UInt64} {L' : Array Slot} (hd : decode c.code pc = .ok (.dstore k, 2)) (hp : pc + 2 = pc') (hl : storeLocals L k (.double v) = some L')
    (hr : Steps tb e below (T.setTop (mkF m pc' L' S)) target) : Steps tb e below (T.setTop (mkF m pc L (.double v :: S))) target := by
  subst hp; exact XS.dstore h hx rfl hd rfl hl hr
theorem own_s_aloadN (h : At T m c below) (hx : tb.exec = Jvm.exec) {k : Fin 4} {v : Value} (hd : decode c.code pc = .ok (.aload_n k, 1)) (hp : pc + 1 = pc') (hl : L[k.val]? = some (.val v)) (hr0 : v.isRef = true)
    (hr : Steps tb e below (T.setTop (mkF m pc' L (v :: S))) target) : Steps tb e below (T.setTop (mkF m pc L S)) target := by
  subst hp; exact XS.aloadN h hx rfl hd hl hr0 hr
theorem own_s_aload (h : At T m c below) (hx : tb.exec = Jvm.exec) {k : Nat} {v : Value} (hd : decode c.code pc = .ok (.aload k, 2)) (hp : pc + 2 = pc') (hl : L[k]? = some (.val v)) (hr0 : v.isRef = true)
    (hr : Steps tb e below (T.setTop (mkF m pc' L (v :: S))) target) : Steps tb e below (T.setTop (mkF m pc L S)) target := by
  subst hp; exact XS.aload h hx rfl hd hl hr0 hr
theorem own_s_astoreN (h : At T m c below) (hx : tb.exec = Jvm.exec) {k : Fin 4} {v : Value} {L' : Array Slot} (hd : decode c.code pc = .ok (.astore_n k, 1)) (hp : pc + 1 = pc') (hr0 : v.isRef = true) (hl : storeLocals L k.val v = some L')
    (hr : Steps tb e below (T.setTop (mkF m pc' L' S)) target) : Steps tb e below (T.setTop (mkF m pc L (v :: S))) target := by
  subst hp; exact XS.astoreN h hx rfl hd rfl hr0 hl hr
theorem own_s_astore (h : At T m c below) (hx : tb.exec = Jvm.exec) {k : Nat} {v : Value} {L' : Array Slot} (hd : decode c.code pc = .ok (.astore k, 2)) (hp : pc + 2 = pc') (hr0 : v.isRef = true) (hl : storeLocals L k v = some L')
    (hr : Steps tb e below (T.setTop (mkF m pc' L' S)) target) : Steps tb e below (T.setTop (mkF m pc L (v :: S))) target := by
  subst hp; exact XS.astore h hx rfl hd rfl hr0 hl hr
theorem own_s_iinc (h : At T m c below) (hx : tb.exec = Jvm.exec) {k : Nat} {cst : Int} {x v : Int32} {L' : Array Slot} (hd : decode c.code pc = .ok (.iinc k cst, 3)) (hp : pc + 3 = pc') (hl : L[k]? = some (.val (.int x))) (hv : x + Int32.ofInt cst = v) (hl' : storeLocals L k (.int v) = some L')
    (hr : Steps tb e below (T.setTop (mkF m pc' L' S)) target) : Steps tb e below (T.setTop (mkF m pc L S)) target := by
  subst hv hp; exact XS.iinc h hx rfl hd hl hl' hr
theorem own_s_goto (h : At T m c below) (hx : tb.exec = Jvm.exec)  {o : Int} (hd : decode c.code pc = .ok (.goto o, 3)) (ho : 0 ≤ (pc : Int) + o) (hp : ((pc : Int) + o).toNat = pc') 
    (hr : Steps tb e below (T.setTop (mkF m pc' L S)) target) : Steps tb e below (T.setTop (mkF m pc L S)) target := by
  exact XS.goto h hx rfl rfl hd ho hp hr
theorem own_s_ifYes (h : At T m c below) (hx : tb.exec = Jvm.exec) {cd : ClassFile.Cond} {x : Int32} {o : Int} (hd : decode c.code pc = .ok (.ifCond cd o, 3)) (ho : 0 ≤ (pc : Int) + o) (hp : ((pc : Int) + o).toNat = pc') (hc : ifCond.holds cd x = true)
    (hr : Steps tb e below (T.setTop (mkF m pc' L S)) target) : Steps tb e below (T.setTop (mkF m pc L (.int x :: S))) target := by
  exact XS.ifYes h hx rfl rfl hd rfl hc ho hp hr
theorem own_s_icmpYes (h : At T m c below) (hx : tb.exec = Jvm.exec) {cd : ClassFile.Cond} {x y : Int32} {o : Int} (hd : decode c.code pc = .ok (.if_icmp cd o, 3)) (ho : 0 ≤ (pc : Int) + o) (hp : ((pc : Int) + o).toNat = pc') (hc : if_icmp.holds cd x y = true)
    (hr : Steps tb e below (T.setTop (mkF m pc' L S)) target) : Steps tb e below (T.setTop (mkF m pc L (.int y :: .int x :: S))) target := by
  exact XS.icmpYes h hx rfl rfl hd rfl hc ho hp hr
theorem own_s_ifNo (h : At T m c below) (hx : tb.exec = Jvm.exec) {cd : ClassFile.Cond} {o : Int} {x : Int32} (hd : decode c.code pc = .ok (.ifCond cd o, 3)) (hp : pc + 3 = pc') (hc : ifCond.holds cd x = false)
    (hr : Steps tb e below (T.setTop (mkF m pc' L S)) target) : Steps tb e below (T.setTop (mkF m pc L (.int x :: S))) target := by
  subst hp; exact XS.ifNo h hx rfl hd rfl hc hr
theorem own_s_icmpNo (h : At T m c below) (hx : tb.exec = Jvm.exec) {cd : ClassFile.Cond} {o : Int} {x y : Int32} (hd : decode c.code pc = .ok (.if_icmp cd o, 3)) (hp : pc + 3 = pc') (hc : if_icmp.holds cd x y = false)
    (hr : Steps tb e below (T.setTop (mkF m pc' L S)) target) : Steps tb e below (T.setTop (mkF m pc L (.int y :: .int x :: S))) target := by
  subst hp; exact XS.icmpNo h hx rfl hd rfl hc hr
theorem own_s_ifnullYes (h : At T m c below) (hx : tb.exec = Jvm.exec)  {o : Int} (hd : decode c.code pc = .ok (.ifnull o, 3)) (ho : 0 ≤ (pc : Int) + o) (hp : ((pc : Int) + o).toNat = pc') 
    (hr : Steps tb e below (T.setTop (mkF m pc' L S)) target) : Steps tb e below (T.setTop (mkF m pc L (.null :: S))) target := by
  exact XS.ifnullYes h hx rfl rfl hd rfl ho hp hr
theorem own_s_ifnullNo (h : At T m c below) (hx : tb.exec = Jvm.exec) {o : Int} {b : Addr} (hd : decode c.code pc = .ok (.ifnull o, 3)) (hp : pc + 3 = pc') 
    (hr : Steps tb e below (T.setTop (mkF m pc' L S)) target) : Steps tb e below (T.setTop (mkF m pc L (.ref b :: S))) target := by
  subst hp; exact XS.ifnullNo h hx rfl hd rfl hr
theorem own_s_ifnonnullYes (h : At T m c below) (hx : tb.exec = Jvm.exec) {b : Addr} {o : Int} (hd : decode c.code pc = .ok (.ifnonnull o, 3)) (ho : 0 ≤ (pc : Int) + o) (hp : ((pc : Int) + o).toNat = pc') 
    (hr : Steps tb e below (T.setTop (mkF m pc' L S)) target) : Steps tb e below (T.setTop (mkF m pc L (.ref b :: S))) target := by
  exact XS.ifnonnullYes h hx rfl rfl hd rfl ho hp hr
theorem own_s_ifnonnullNo (h : At T m c below) (hx : tb.exec = Jvm.exec) {o : Int} (hd : decode c.code pc = .ok (.ifnonnull o, 3)) (hp : pc + 3 = pc') 
    (hr : Steps tb e below (T.setTop (mkF m pc' L S)) target) : Steps tb e below (T.setTop (mkF m pc L (.null :: S))) target := by
  subst hp; exact XS.ifnonnullNo h hx rfl hd rfl hr
end OwnStep
section OwnHeap
open Jvm Jvm.ClassFile Sem Op Lib Jvm.Free Jvm.Stand Jvm.LawKit Jvm.RoadKit
variable {p : Program} {l : Launch} {e : Env} {R : Room} {s : State} {m : MethodId} {args : Array Value} {below : List Frame} {meth : Method} {c : Code} {T : State} {locs : List Loc} {cells slots : Nat} {Z : State} {a0 : Array Value} {h : Heap} {pc pc' : Nat} {L : Array Slot} {S : List Value} {a : Addr} {k : ClassId} {z : Int32} {vs : List Value} {dv : Value}
theorem own_newD (X : Stand p l e R s m args below meth c T locs cells slots) (hx : p.tables.exec = Jvm.exec) (hZ : Z.Warmed39 s.vm) (w : (Jvm.Cond.arrayClass .double).before a0 Z = true) (eT : T.heap = h) (n : Nat) (hz : z.toNatClampNeg = n) (hz0 : ¬ z < 0) (hb : n * 8 ≤ 536870912) (hc : cells + 1 ≤ R.cells) (hl : slots + n ≤ R.slots) (hd : decode c.code pc = .ok (.newarray .double, 2)) (hp : pc + 2 = pc') :
    ∃ T' h' k b, Stand p l e R s m args below meth c T' locs (cells + 1) (slots + n) ∧ T'.heap = h' ∧ Ext h h' ∧ b = h.size ∧ Arv Z h' b k .double z (List.replicate n (.double 0)) (.double 0) ∧ ∀ target, Steps p.tables e below (T'.setTop (mkF m pc' L (.ref b :: S))) target → Steps p.tables e below (T.setTop (mkF m pc L (.int z :: S))) target := by
  subst hp
  obtain ⟨T', h', k, X', e', E, A, st⟩ := newP X hx hZ (aty := .double) w eT (g := mkF m pc L (.int z :: S)) rfl hd rfl hz0 (cap := n) (Nat.le_of_eq hz) hb hc hl
  exact ⟨T', h', k, h.size, X', e', E, rfl, (Arv.new A hz0).pad (pad_rep [] (.double 0) n), st⟩
theorem own_newJ (X : Stand p l e R s m args below meth c T locs cells slots) (hx : p.tables.exec = Jvm.exec) (hZ : Z.Warmed39 s.vm) (w : (Jvm.Cond.arrayClass .long).before a0 Z = true) (eT : T.heap = h) (n : Nat) (hz : z.toNatClampNeg = n) (hz0 : ¬ z < 0) (hb : n * 8 ≤ 536870912) (hc : cells + 1 ≤ R.cells) (hl : slots + n ≤ R.slots) (hd : decode c.code pc = .ok (.newarray .long, 2)) (hp : pc + 2 = pc') :
    ∃ T' h' k b, Stand p l e R s m args below meth c T' locs (cells + 1) (slots + n) ∧ T'.heap = h' ∧ Ext h h' ∧ b = h.size ∧ Arv Z h' b k .long z (List.replicate n (.long 0)) (.long 0) ∧ ∀ target, Steps p.tables e below (T'.setTop (mkF m pc' L (.ref b :: S))) target → Steps p.tables e below (T.setTop (mkF m pc L (.int z :: S))) target := by
  subst hp
  obtain ⟨T', h', k, X', e', E, A, st⟩ := newP X hx hZ (aty := .long) w eT (g := mkF m pc L (.int z :: S)) rfl hd rfl hz0 (cap := n) (Nat.le_of_eq hz) hb hc hl
  exact ⟨T', h', k, h.size, X', e', E, rfl, (Arv.new A hz0).pad (pad_rep [] (.long 0) n), st⟩
theorem own_stD (X : Stand p l e R s m args below meth c T locs cells slots) (hx : p.tables.exec = Jvm.exec) (hZ : Z.Warmed39 s.vm) (eT : T.heap = h) (V : Arv Z h a k .double z vs dv) {j : Int32} {x : UInt64} (hj : ¬ j < 0 ∧ j < z) (i : Nat) (hi : j.toNatClampNeg = i) (hl : i < vs.length) (hd : decode c.code pc = .ok (.dastore, 1)) (hp : pc + 1 = pc') :
    ∃ T' h', Stand p l e R s m args below meth c T' (locs ++ [⟨a, j.toNatClampNeg⟩]) cells slots ∧ T'.heap = h' ∧ Wr h h' a j.toNatClampNeg (.double x) ∧ Arv Z h' a k .double z (vs.set i (.double x)) dv ∧ ∀ target, Steps p.tables e below (T'.setTop (mkF m pc' L S)) target → Steps p.tables e below (T.setTop (mkF m pc L (.double x :: .int j :: .ref a :: S))) target := by
  subst hp
  obtain ⟨cl, A, q1, S1, q3, H, G⟩ := V
  obtain ⟨T', h', X', e', W, st⟩ := stD X hx hZ eT A (j := j) (x := x) (inb_of S1 hj) (g := mkF m pc L (.double x :: .int j :: .ref a :: S)) rfl rfl hd
  exact ⟨T', h', X', e', W, Arv.set A q1 S1 q3 H G rfl W i hi hl, st⟩
theorem own_ldD (X : Stand p l e R s m args below meth c T locs cells slots) (hx : p.tables.exec = Jvm.exec) (hZ : Z.Warmed39 s.vm) (eT : T.heap = h) (V : Arv Z h a k .double z vs dv) {j : Int32} {x : UInt64} (hj : ¬ j < 0 ∧ j < z) (hv : vs.getD j.toNatClampNeg dv = .double x) (hd : decode c.code pc = .ok (.daload, 1)) (hp : pc + 1 = pc') {target : State}
    (hr : Steps p.tables e below (T.setTop (mkF m pc' L (.double x :: S))) target) : Steps p.tables e below (T.setTop (mkF m pc L (.int j :: .ref a :: S))) target := by
  subst hp
  obtain ⟨cl, A, q1, S1, q3, H, G⟩ := V
  exact X.daload hx (j := j) (v := .double x) (by rw [eT]; exact A.1) (State.isArrayOf_alike hZ.alike A.2.1) A.2.2 (inb_of S1 hj) (H.at (inb_of S1 hj) hv) (g := mkF m pc L (.int j :: .ref a :: S)) rfl rfl hd target hr
theorem own_len {ty : FieldType} (X : Stand p l e R s m args below meth c T locs cells slots) (hx : p.tables.exec = Jvm.exec) (hZ : Z.Warmed39 s.vm) (eT : T.heap = h) (V : Arv Z h a k ty z vs dv) (hd : decode c.code pc = .ok (.arraylength, 1)) (hp : pc + 1 = pc') {target : State}
    (hr : Steps p.tables e below (T.setTop (mkF m pc' L (.int z :: S))) target) : Steps p.tables e below (T.setTop (mkF m pc L (.ref a :: S))) target := by
  subst hp
  obtain ⟨cl, A, q1, S1, q3, H, G⟩ := V
  refine X.arraylength hx (by rw [eT]; exact A.1) (State.isArrayOf_alike hZ.alike A.2.1) (g := mkF m pc L (.ref a :: S)) rfl rfl hd target ?_
  rw [len_of S1 q3]
  exact hr
theorem own_retI (X : Stand p l e R s m args below meth c T locs cells slots) (hx : p.tables.exec = Jvm.exec) {x : Int32} (hret : meth.sig.returnType = some .int) (hd : decode c.code pc = .ok (.ireturn, 1)) {fs : List Frame}
    (hl : ∀ (f : JFrame) (acts : List Action), f.method = m → f.locked = none → f.entered = [] → (doReturn e (T.setTop f) acts (some (.int x))).1 = T.setFrames fs) : Steps p.tables e below (T.setTop (mkF m pc L (.int x :: S))) (T.setFrames fs) := by
  have hm' : T.vm.method? m = some meth := X.method'
  have hn : narrow .int (.int x) = .int x := rfl
  show Steps p.tables e below (T.setTop { method := m, pc := pc, locals := L, stack := _ :: S, locked := none }) _
  jvm_step X.here [X.here.top, hx, hd, hm', hret, hn]
  first | (intro acts; rw [hl _ acts rfl rfl rfl]) | rw [hl _ _ rfl rfl rfl]
  exact Steps.refl _
theorem own_retD (X : Stand p l e R s m args below meth c T locs cells slots) (hx : p.tables.exec = Jvm.exec) {x : UInt64} (hret : meth.sig.returnType = some .double) (hd : decode c.code pc = .ok (.dreturn, 1)) {fs : List Frame}
    (hl : ∀ (f : JFrame) (acts : List Action), f.method = m → f.locked = none → f.entered = [] → (doReturn e (T.setTop f) acts (some (.double x))).1 = T.setFrames fs) : Steps p.tables e below (T.setTop (mkF m pc L (.double x :: S))) (T.setFrames fs) := by
  have hm' : T.vm.method? m = some meth := X.method'
  show Steps p.tables e below (T.setTop { method := m, pc := pc, locals := L, stack := _ :: S, locked := none }) _
  jvm_step X.here [X.here.top, hx, hd, hm', hret, narrow]
  first | (intro acts; rw [hl _ acts rfl rfl rfl]) | rw [hl _ _ rfl rfl rfl]
  exact Steps.refl _
theorem own_retJ (X : Stand p l e R s m args below meth c T locs cells slots) (hx : p.tables.exec = Jvm.exec) {x : Int64} (hret : meth.sig.returnType = some .long) (hd : decode c.code pc = .ok (.lreturn, 1)) {fs : List Frame}
    (hl : ∀ (f : JFrame) (acts : List Action), f.method = m → f.locked = none → f.entered = [] → (doReturn e (T.setTop f) acts (some (.long x))).1 = T.setFrames fs) : Steps p.tables e below (T.setTop (mkF m pc L (.long x :: S))) (T.setFrames fs) := by
  have hm' : T.vm.method? m = some meth := X.method'
  show Steps p.tables e below (T.setTop { method := m, pc := pc, locals := L, stack := _ :: S, locked := none }) _
  jvm_step X.here [X.here.top, hx, hd, hm', hret, narrow]
  first | (intro acts; rw [hl _ acts rfl rfl rfl]) | rw [hl _ _ rfl rfl rfl]
  exact Steps.refl _
theorem own_retR (X : Stand p l e R s m args below meth c T locs cells slots) (hx : p.tables.exec = Jvm.exec) {b : Addr} {t : FieldType} (hret : meth.sig.returnType = some t) (ht : t.isReference = true) (hd : decode c.code pc = .ok (.areturn, 1)) {fs : List Frame}
    (hl : ∀ (f : JFrame) (acts : List Action), f.method = m → f.locked = none → f.entered = [] → (doReturn e (T.setTop f) acts (some (.ref b))).1 = T.setFrames fs) : Steps p.tables e below (T.setTop (mkF m pc L (.ref b :: S))) (T.setFrames fs) := by
  have hm' : T.vm.method? m = some meth := X.method'
  show Steps p.tables e below (T.setTop { method := m, pc := pc, locals := L, stack := _ :: S, locked := none }) _
  jvm_step X.here [X.here.top, hx, hd, hm', hret, Value.isRef, ht]
  first | (intro acts; rw [hl _ acts rfl rfl rfl]) | rw [hl _ _ rfl rfl rfl]
  exact Steps.refl _
end OwnHeap
open Jvm Jvm.ClassFile Sem Op Lib Jvm.Free Jvm.Stand Jvm.LawKit Jvm.RoadKit Bundle Jvm.Pilot.@@N@@.Jvm.D
def own_Q0 (n0 : Nat) (v : Option Value) (h : Heap) (L : List Loc) : Prop := v = some (.int 1) ∧ Fr n0 L
def own_QP (r : Option Value) (h0 : Heap) (n0 : Nat) (v : Option Value) (h : Heap) (L : List Loc) : Prop := v = r ∧ Fr n0 L ∧ h = h0
theorem own_mask3 (x : Int32) : x &&& 3 = 0 ∨ x &&& 3 = 1 ∨ x &&& 3 = 2 ∨ x &&& 3 = 3 := by
  have h1 := c_mask x 3 2 (by decide) (by decide)
  have e : ∀ k : Int32, x &&& 3 = k ↔ (x &&& 3).toInt = k.toInt := fun k => Int32.toInt_inj.symm
  simp only [e, show (0 : Int32).toInt = 0 from rfl, show (1 : Int32).toInt = 1 from rfl, show (2 : Int32).toInt = 2 from rfl, show (3 : Int32).toInt = 3 from rfl]
  omega
theorem own_d1_0 : decode prog_2_method_9_code 0 = .ok (.dconst 0, 1) := by decide +kernel
theorem own_d1_1 : decode prog_2_method_9_code 1 = .ok (.dstore_n 2, 1) := by decide +kernel
theorem own_d1_2 : decode prog_2_method_9_code 2 = .ok (.iconst 0, 1) := by decide +kernel
theorem own_d1_3 : decode prog_2_method_9_code 3 = .ok (.istore 4, 2) := by decide +kernel
theorem own_d1_5 : decode prog_2_method_9_code 5 = .ok (.iload 4, 2) := by decide +kernel
theorem own_d1_7 : decode prog_2_method_9_code 7 = .ok (.aload_n 0, 1) := by decide +kernel
theorem own_d1_8 : decode prog_2_method_9_code 8 = .ok (.arraylength, 1) := by decide +kernel
theorem own_d1_9 : decode prog_2_method_9_code 9 = .ok (.if_icmp .ge 21, 3) := by decide +kernel
theorem own_d1_30 : decode prog_2_method_9_code 30 = .ok (.dload_n 2, 1) := by decide +kernel
theorem own_d1_31 : decode prog_2_method_9_code 31 = .ok (.dreturn, 1) := by decide +kernel
theorem own_pn_com_example_thicket_thicket_core_Box : plainName "com/example/thicket/thicket/core/Box" = true := by first | (simp [plainName, overriddenIn]; done) | decide +kernel
theorem own_ef_c0 (m : MethodId) (qa : Addr) (qb : Addr) : entryFrame m #[(.ref qa), (.ref qb)] 5 = mkF m 0 #[.val (.ref qa), .val (.ref qb), .unset, .unset, .unset] [] := by first | (simp [entryFrame, mkF, argsToLocals, Value.category]; done) | rfl
set_option maxRecDepth 65536 in
set_option maxHeartbeats 40000000 in
theorem own_rm_c0 (l : Launch) (Z : State) (a0 : Array Value) (hw : ∀ d ∈ tables_1, d.before a0 Z = true) (ws : List Jvm.Cond) (qa : Addr) (qb : Addr) {qak : ClassId} {qbk : ClassId} (h0 : Heap) (n0 : Nat) (Z0 : n0 ≤ h0.size) (V_qa : Arv Z h0 qa qak .double (0 : Int32) [] (.double 0)) (V_qb : Arv Z h0 qb qbk .double (0 : Int32) [] (.double 0))  :
    MetFree l (⟨"com/example/thicket/thicket/core/Box", "margin", "([D[D)D"⟩ : MethodName) (head1 (Jvm.Cond.code (⟨"com/example/thicket/thicket/core/Box", "margin", "([D[D)D"⟩ : MethodName) prog_2_method_9_code 5 (some .double) :: ws) ({ frames := 0, cells := 0, slots := 0, locals := 0 } : Room)) (fun a U => a = #[(.ref qa), (.ref qb)] ∧ Z.Warmed39 U.vm ∧ U.heap = h0) (fun _ _ _ _ _ => True) (fun _ U o U' => ∃ v L, o = .returned v ∧ own_QP (some (.double 0)) h0 n0 v U'.heap L ∧ FrameEnd U o U' L ({ frames := 0, cells := 0, slots := 0, locals := 0 } : Room).cells ({ frames := 0, cells := 0, slots := 0, locals := 0 } : Room).slots) := by
  refine MetFree.of_bodySF (plainFor_of_name own_pn_com_example_thicket_thicket_core_Box) hisR ?_
  intro p e s m args below meth c s₁ Bd hml0 hP hK
  obtain ⟨rfl, hZ, hh⟩ := hP
  have hx := Bd.exec
  have hby := Bd.bytes
  have hml : c.maxLocals = 5 := hml0
  have hown : s.vm.findClass "com/example/thicket/thicket/core/Box" = some m.cls := findClass_of_methodNamed Bd.named
  have hnm := (name_of_methodNamed Bd.named Bd.method).1
  have X0 : Stand p l e ({ frames := 0, cells := 0, slots := 0, locals := 0 } : Room) s m #[(.ref qa), (.ref qb)] below meth c s₁ [] 0 0 := Stand.of_body Bd
  have e0 : s₁.heap = h0 := by rw [← hh, Bd.state]; rfl
  have N0 := Fr.nil n0
  have pre0 : ∀ t, Steps p.tables e below (s₁.setTop (mkF m 0 #[.val (.ref qa), .val (.ref qb), .unset, .unset, .unset] [])) t → Steps p.tables e below (s₁.setTop (entryFrame m #[(.ref qa), (.ref qb)] 5)) t := fun t k => castTop (own_ef_c0 m qa qb) k
  obtain ⟨fs, hr, hrun, hended, hW, hsame⟩ := X0.leave (v := some (.double 0)) (fun h => by rw [Bd.returns] at h; cases h)
  refine ⟨_, _, pre0 _ ?_, hrun, hended, _, _, rfl, ?_, ⟨_, rfl⟩, hW, hsame.mono (by decide) (by decide)⟩
  · refine own_s_dconst0 X0.here hx (hb hby own_d1_0) (pc' := 1) rfl  ?_
    refine own_s_dstoreN X0.here hx (hb hby own_d1_1) (pc' := 2) rfl (L' := #[.val (.ref qa), .val (.ref qb), .val (.double 0), .second, .unset]) rfl ?_
    refine own_s_iconst X0.here hx (hb hby own_d1_2) (pc' := 3) rfl (v := (0 : Int32)) (by decide) ?_
    refine own_s_istore X0.here hx (hb hby own_d1_3) (pc' := 5) rfl (L' := #[.val (.ref qa), .val (.ref qb), .val (.double 0), .second, .val (.int (0 : Int32))]) rfl ?_
    refine own_s_iload X0.here hx (hb hby own_d1_5) (pc' := 7) rfl rfl ?_
    refine own_s_aloadN X0.here hx (hb hby own_d1_7) (pc' := 8) rfl rfl rfl ?_
    refine own_len X0 hx hZ e0 V_qa (hb hby own_d1_8) (pc' := 9) rfl ?_
    refine own_s_icmpYes X0.here hx (hb hby own_d1_9) (by decide) (pc' := 30) (by decide) (by decide) ?_
    refine own_s_dloadN X0.here hx (hb hby own_d1_30) (pc' := 31) rfl rfl ?_
    exact own_retD X0 hx Bd.returns (hb hby own_d1_31) hr
  · show own_QP (some (.double 0)) h0 n0 _ s₁.heap _
    rw [e0]
    exact ⟨rfl, N0, rfl⟩
theorem own_pd_285bD5bD29D : parseMethodDescriptor "([D[D)D" = some ⟨[(.array .double), (.array .double)], some .double⟩ := by decide +kernel
theorem own_pn_com_example_thicket_thicket_core_BoxMarginPinLaw : plainName "com/example/thicket/thicket/core/BoxMarginPinLaw" = true := by first | (simp [plainName, overriddenIn]; done) | decide +kernel
theorem own_ef_w0 (m : MethodId) (p0 : Int32) (p1 : Int64) (p2 : Int64) (p3 : Int64) : entryFrame m #[(.int p0), (.long p1), (.long p2), (.long p3)] maxLocals = mkF m 0 #[.val (.int p0), .val (.long p1), .second, .val (.long p2), .second, .val (.long p3), .second, .unset, .unset, .unset, .unset, .unset, .unset, .unset, .unset, .unset, .unset, .unset, .unset, .unset] [] := by first | (simp [entryFrame, mkF, argsToLocals, Value.category, maxLocals]; done) | rfl
set_option maxRecDepth 65536 in
set_option maxHeartbeats 40000000 in
theorem own_rm_w0 (l : Launch) (Z : State) (a0 : Array Value) (hw : ∀ d ∈ tables_1, d.before a0 Z = true) (ws : List Jvm.Cond) (p0 : Int32) (p1 : Int64) (p2 : Int64) (p3 : Int64) {w0_v6 : Int32} {w0_v12 : Int64} {w0_v13 : Int32} {w0_v17 : Int32} {w0_v23 : Int64} {w0_v24 : Int32} {w0_v29 : Int32} {w0_v36 : Int64} {w0_v37 : Int32} (h0 : Heap) (n0 : Nat) (Z0 : n0 ≤ h0.size)  (w0_hv2 : p0 &&& (3 : Int32) = (0 : Int32)) (w0_hv6 : Int64.toInt32 p1 = w0_v6) (w0_hv12 : (Int64.toUInt64 p1 >>> ((32 : Int32) &&& 63).toInt64.toUInt64).toInt64 = w0_v12) (w0_hv13 : Int64.toInt32 w0_v12 = w0_v13) (w0_hv17 : Int64.toInt32 p2 = w0_v17) (w0_hv23 : (Int64.toUInt64 p2 >>> ((32 : Int32) &&& 63).toInt64.toUInt64).toInt64 = w0_v23) (w0_hv24 : Int64.toInt32 w0_v23 = w0_v24) (w0_hv29 : Int64.toInt32 p3 = w0_v29) (w0_hv36 : (Int64.toUInt64 p3 >>> ((32 : Int32) &&& 63).toInt64.toUInt64).toInt64 = w0_v36) (w0_hv37 : Int64.toInt32 w0_v36 = w0_v37) (w0_hc165 : Op.cmpValue (FP.dcmp 0 (FP.l2d (0 : Int64))) .l = (0 : Int32)) :
    MetFree l x (head1 (Jvm.Cond.code x code maxLocals ret :: ws) room_1) (fun a U => a = #[(.int p0), (.long p1), (.long p2), (.long p3)] ∧ Z.Warmed39 U.vm ∧ U.heap = h0) (fun _ _ _ _ _ => True) (fun _ U o U' => ∃ v L, o = .returned v ∧ own_Q0 n0 v U'.heap L ∧ FrameEnd U o U' L room_1.cells room_1.slots) := by
  refine MetFree.of_bodySF (plainFor_of_name own_pn_com_example_thicket_thicket_core_BoxMarginPinLaw) hisR ?_
  intro p e s m args below meth c s₁ Bd hml0 hP hK
  obtain ⟨rfl, hZ, hh⟩ := hP
  have hx := Bd.exec
  have hby := Bd.bytes
  have hml : c.maxLocals = 20 := hml0
  have hown : s.vm.findClass "com/example/thicket/thicket/core/BoxMarginPinLaw" = some m.cls := findClass_of_methodNamed Bd.named
  have hnm := (name_of_methodNamed Bd.named Bd.method).1
  have X0 : Stand p l e room_1 s m #[(.int p0), (.long p1), (.long p2), (.long p3)] below meth c s₁ [] 0 0 := Stand.of_body Bd
  have e0 : s₁.heap = h0 := by rw [← hh, Bd.state]; rfl
  have N0 := Fr.nil n0
  have pre0 : ∀ t, Steps p.tables e below (s₁.setTop (mkF m 0 #[.val (.int p0), .val (.long p1), .second, .val (.long p2), .second, .val (.long p3), .second, .unset, .unset, .unset, .unset, .unset, .unset, .unset, .unset, .unset, .unset, .unset, .unset, .unset] [])) t → Steps p.tables e below (s₁.setTop (entryFrame m #[(.int p0), (.long p1), (.long p2), (.long p3)] maxLocals)) t := fun t k => castTop (own_ef_w0 m p0 p1 p2 p3) k
  obtain ⟨Tw01, hw01, kw01, bw01, Xw01, ew01, Ew01, Gw01, Vw01, stw01⟩ := own_newD (L := #[.val (.int p0), .val (.long p1), .second, .val (.long p2), .second, .val (.long p3), .second, .val (.int (0 : Int32)), .val (.int w0_v6), .val (.int w0_v13), .val (.int w0_v17), .val (.int w0_v24), .val (.int w0_v29), .val (.int w0_v37), .unset, .unset, .unset, .unset, .unset, .unset]) (S := []) X0 hx hZ (hw _ (List.mem_of_getElem? (i := 0) rfl)) e0 (z := (0 : Int32)) 0 (by decide) (by decide) (by decide) (by decide) (by decide) (hb hby at_42) (pc' := 44) rfl
  have g_bw01 : n0 ≤ bw01 := Nat.le_trans Z0 (Nat.le_of_eq Gw01.symm)
  have sz_bw01 : h0.size ≤ bw01 := Nat.le_trans (Keep.refl h0 []).1 (Nat.le_of_eq Gw01.symm)
  have Zw01 : n0 ≤ hw01.size := Nat.le_trans Z0 Ew01.1
  have KKw01 := (Keep.refl h0 []).ext Ew01
  have V_bw01 : Arv Z hw01 bw01 kw01 .double (0 : Int32) [] (.double 0) := Vw01
  obtain ⟨Tw02, hw02, kw02, bw02, Xw02, ew02, Ew02, Gw02, Vw02, stw02⟩ := own_newD (L := #[.val (.int p0), .val (.long p1), .second, .val (.long p2), .second, .val (.long p3), .second, .val (.int (0 : Int32)), .val (.int w0_v6), .val (.int w0_v13), .val (.int w0_v17), .val (.int w0_v24), .val (.int w0_v29), .val (.int w0_v37), .val (.ref bw01), .unset, .unset, .unset, .unset, .unset]) (S := []) Xw01 hx hZ (hw _ (List.mem_of_getElem? (i := 0) rfl)) ew01 (z := (0 : Int32)) 0 (by decide) (by decide) (by decide) (by decide) (by decide) (hb hby at_48) (pc' := 50) rfl
  have ne_bw01_bw02 : bw01 ≠ bw02 := Nat.ne_of_lt (Nat.lt_of_lt_of_le V_bw01.lt (Nat.le_of_eq Gw02.symm))
  have ne_bw02_bw01 : bw02 ≠ bw01 := Ne.symm ne_bw01_bw02
  have g_bw02 : n0 ≤ bw02 := Nat.le_trans Zw01 (Nat.le_of_eq Gw02.symm)
  have sz_bw02 : h0.size ≤ bw02 := Nat.le_trans KKw01.1 (Nat.le_of_eq Gw02.symm)
  have V_bw01_w02 := V_bw01.ext Ew02
  have Zw02 : n0 ≤ hw02.size := Nat.le_trans Zw01 Ew02.1
  have KKw02 := KKw01.ext Ew02
  have V_bw02 : Arv Z hw02 bw02 kw02 .double (0 : Int32) [] (.double 0) := Vw02
  obtain ⟨_, _, ⟨Tw03, Lw03, kw03, nw03⟩, -, Xw03, ⟨Lcw03, hQw03, lw03, yw03, zw03⟩, stw03⟩ := Jvm.LawKit.callS Xw02 hx (y := (⟨"com/example/thicket/thicket/core/Box", "margin", "([D[D)D"⟩ : MethodName)) hown (mvT hZ (hw _ (List.mem_of_getElem? (i := 1) rfl))) (mvT hZ (hw _ (List.mem_of_getElem? (i := 2) rfl))) (mvT hZ (hw _ (List.mem_of_getElem? (i := 3) rfl))) (mvT hZ (hw _ (List.mem_of_getElem? (i := 4) rfl))) (by decide) (backOf (W := 0) (own_rm_c0 l Z a0 hw [] bw01 bw02 hw02 n0 Zw02 V_bw01_w02 V_bw02) hZ (hw _ (List.mem_of_getElem? (i := 4) rfl)) (hw _ (List.mem_of_getElem? (i := 3) rfl)) (by decide) (by decide)) (g := (mkF m 155 #[.val (.int p0), .val (.long p1), .second, .val (.long p2), .second, .val (.long p3), .second, .val (.int (0 : Int32)), .val (.int w0_v6), .val (.int w0_v13), .val (.int w0_v17), .val (.int w0_v24), .val (.int w0_v29), .val (.int w0_v37), .val (.ref bw01), .val (.ref bw02), .val (.long (0 : Int64)), .second, .unset, .unset] [(.ref bw02), (.ref bw01)])) rfl (by rw [hml]; rfl) (argsL := [(.ref bw01), (.ref bw02)]) (rest := []) (lenOf own_pd_285bD5bD29D rfl) rfl (by show 2 * 0 + _ ≤ _; exact Nat.le_of_eq rfl) (hb hby at_155) (fun _ _ => ⟨rfl, ew02, (by decide : 2 + 0 ≤ _), (by decide : 0 + 0 ≤ _)⟩)
  dsimp only [Pt.U, Pt.locs, Pt.cells, Pt.slots] at Xw03 lw03 yw03 zw03 stw03 hQw03
  subst lw03 yw03 zw03
  obtain ⟨rfl, Nw03q, ew03⟩ := hQw03
  have Nw03 := Fr.app N0 Nw03q
  obtain ⟨fs, hr, hrun, hended, hW, hsame⟩ := Xw03.leave (v := some (.int (1 : Int32))) (fun h => by rw [Bd.returns] at h; cases h)
  refine ⟨_, _, pre0 _ ?_, hrun, hended, _, _, rfl, ?_, ⟨_, rfl⟩, hW, hsame.mono (by decide) (by decide)⟩
  · refine own_s_iloadN X0.here hx (hb hby at_0) (pc' := 1) rfl rfl ?_
    refine own_s_iconst X0.here hx (hb hby at_1) (pc' := 2) rfl (v := (3 : Int32)) (by decide) ?_
    refine own_s_iand X0.here hx (hb hby at_2) (pc' := 3) rfl (v := (0 : Int32)) w0_hv2 ?_
    refine own_s_istore X0.here hx (hb hby at_3) (pc' := 5) rfl (L' := #[.val (.int p0), .val (.long p1), .second, .val (.long p2), .second, .val (.long p3), .second, .val (.int (0 : Int32)), .unset, .unset, .unset, .unset, .unset, .unset, .unset, .unset, .unset, .unset, .unset, .unset]) rfl ?_
    refine own_s_lloadN X0.here hx (hb hby at_5) (pc' := 6) rfl rfl ?_
    refine own_s_l2i X0.here hx (hb hby at_6) (pc' := 7) rfl (v := w0_v6) w0_hv6 ?_
    refine own_s_istore X0.here hx (hb hby at_7) (pc' := 9) rfl (L' := #[.val (.int p0), .val (.long p1), .second, .val (.long p2), .second, .val (.long p3), .second, .val (.int (0 : Int32)), .val (.int w0_v6), .unset, .unset, .unset, .unset, .unset, .unset, .unset, .unset, .unset, .unset, .unset]) rfl ?_
    refine own_s_lloadN X0.here hx (hb hby at_9) (pc' := 10) rfl rfl ?_
    refine own_s_bipush X0.here hx (hb hby at_10) (pc' := 12) rfl (v := (32 : Int32)) (by decide) ?_
    refine own_s_lushr X0.here hx (hb hby at_12) (pc' := 13) rfl (v := w0_v12) w0_hv12 ?_
    refine own_s_l2i X0.here hx (hb hby at_13) (pc' := 14) rfl (v := w0_v13) w0_hv13 ?_
    refine own_s_istore X0.here hx (hb hby at_14) (pc' := 16) rfl (L' := #[.val (.int p0), .val (.long p1), .second, .val (.long p2), .second, .val (.long p3), .second, .val (.int (0 : Int32)), .val (.int w0_v6), .val (.int w0_v13), .unset, .unset, .unset, .unset, .unset, .unset, .unset, .unset, .unset, .unset]) rfl ?_
    refine own_s_lloadN X0.here hx (hb hby at_16) (pc' := 17) rfl rfl ?_
    refine own_s_l2i X0.here hx (hb hby at_17) (pc' := 18) rfl (v := w0_v17) w0_hv17 ?_
    refine own_s_istore X0.here hx (hb hby at_18) (pc' := 20) rfl (L' := #[.val (.int p0), .val (.long p1), .second, .val (.long p2), .second, .val (.long p3), .second, .val (.int (0 : Int32)), .val (.int w0_v6), .val (.int w0_v13), .val (.int w0_v17), .unset, .unset, .unset, .unset, .unset, .unset, .unset, .unset, .unset]) rfl ?_
    refine own_s_lloadN X0.here hx (hb hby at_20) (pc' := 21) rfl rfl ?_
    refine own_s_bipush X0.here hx (hb hby at_21) (pc' := 23) rfl (v := (32 : Int32)) (by decide) ?_
    refine own_s_lushr X0.here hx (hb hby at_23) (pc' := 24) rfl (v := w0_v23) w0_hv23 ?_
    refine own_s_l2i X0.here hx (hb hby at_24) (pc' := 25) rfl (v := w0_v24) w0_hv24 ?_
    refine own_s_istore X0.here hx (hb hby at_25) (pc' := 27) rfl (L' := #[.val (.int p0), .val (.long p1), .second, .val (.long p2), .second, .val (.long p3), .second, .val (.int (0 : Int32)), .val (.int w0_v6), .val (.int w0_v13), .val (.int w0_v17), .val (.int w0_v24), .unset, .unset, .unset, .unset, .unset, .unset, .unset, .unset]) rfl ?_
    refine own_s_lload X0.here hx (hb hby at_27) (pc' := 29) rfl rfl ?_
    refine own_s_l2i X0.here hx (hb hby at_29) (pc' := 30) rfl (v := w0_v29) w0_hv29 ?_
    refine own_s_istore X0.here hx (hb hby at_30) (pc' := 32) rfl (L' := #[.val (.int p0), .val (.long p1), .second, .val (.long p2), .second, .val (.long p3), .second, .val (.int (0 : Int32)), .val (.int w0_v6), .val (.int w0_v13), .val (.int w0_v17), .val (.int w0_v24), .val (.int w0_v29), .unset, .unset, .unset, .unset, .unset, .unset, .unset]) rfl ?_
    refine own_s_lload X0.here hx (hb hby at_32) (pc' := 34) rfl rfl ?_
    refine own_s_bipush X0.here hx (hb hby at_34) (pc' := 36) rfl (v := (32 : Int32)) (by decide) ?_
    refine own_s_lushr X0.here hx (hb hby at_36) (pc' := 37) rfl (v := w0_v36) w0_hv36 ?_
    refine own_s_l2i X0.here hx (hb hby at_37) (pc' := 38) rfl (v := w0_v37) w0_hv37 ?_
    refine own_s_istore X0.here hx (hb hby at_38) (pc' := 40) rfl (L' := #[.val (.int p0), .val (.long p1), .second, .val (.long p2), .second, .val (.long p3), .second, .val (.int (0 : Int32)), .val (.int w0_v6), .val (.int w0_v13), .val (.int w0_v17), .val (.int w0_v24), .val (.int w0_v29), .val (.int w0_v37), .unset, .unset, .unset, .unset, .unset, .unset]) rfl ?_
    refine own_s_iload X0.here hx (hb hby at_40) (pc' := 42) rfl rfl ?_
    refine stw01 _ ?_
    refine own_s_astore Xw01.here hx (hb hby at_44) (pc' := 46) rfl rfl (L' := #[.val (.int p0), .val (.long p1), .second, .val (.long p2), .second, .val (.long p3), .second, .val (.int (0 : Int32)), .val (.int w0_v6), .val (.int w0_v13), .val (.int w0_v17), .val (.int w0_v24), .val (.int w0_v29), .val (.int w0_v37), .val (.ref bw01), .unset, .unset, .unset, .unset, .unset]) rfl ?_
    refine own_s_iload Xw01.here hx (hb hby at_46) (pc' := 48) rfl rfl ?_
    refine stw02 _ ?_
    refine own_s_astore Xw02.here hx (hb hby at_50) (pc' := 52) rfl rfl (L' := #[.val (.int p0), .val (.long p1), .second, .val (.long p2), .second, .val (.long p3), .second, .val (.int (0 : Int32)), .val (.int w0_v6), .val (.int w0_v13), .val (.int w0_v17), .val (.int w0_v24), .val (.int w0_v29), .val (.int w0_v37), .val (.ref bw01), .val (.ref bw02), .unset, .unset, .unset, .unset]) rfl ?_
    refine own_s_lconst Xw02.here hx (hb hby at_52) (pc' := 53) rfl (v := (0 : Int64)) (by decide) ?_
    refine own_s_lstore Xw02.here hx (hb hby at_53) (pc' := 55) rfl (L' := #[.val (.int p0), .val (.long p1), .second, .val (.long p2), .second, .val (.long p3), .second, .val (.int (0 : Int32)), .val (.int w0_v6), .val (.int w0_v13), .val (.int w0_v17), .val (.int w0_v24), .val (.int w0_v29), .val (.int w0_v37), .val (.ref bw01), .val (.ref bw02), .val (.long (0 : Int64)), .second, .unset, .unset]) rfl ?_
    refine own_s_iload Xw02.here hx (hb hby at_55) (pc' := 57) rfl rfl ?_
    refine own_s_iconst Xw02.here hx (hb hby at_57) (pc' := 58) rfl (v := (1 : Int32)) (by decide) ?_
    refine own_s_icmpYes Xw02.here hx (hb hby at_58) (by decide) (pc' := 87) (by decide) (by decide) ?_
    refine own_s_iload Xw02.here hx (hb hby at_87) (pc' := 89) rfl rfl ?_
    refine own_s_iconst Xw02.here hx (hb hby at_89) (pc' := 90) rfl (v := (2 : Int32)) (by decide) ?_
    refine own_s_icmpYes Xw02.here hx (hb hby at_90) (by decide) (pc' := 119) (by decide) (by decide) ?_
    refine own_s_iload Xw02.here hx (hb hby at_119) (pc' := 121) rfl rfl ?_
    refine own_s_iconst Xw02.here hx (hb hby at_121) (pc' := 122) rfl (v := (3 : Int32)) (by decide) ?_
    refine own_s_icmpYes Xw02.here hx (hb hby at_122) (by decide) (pc' := 151) (by decide) (by decide) ?_
    refine own_s_aload Xw02.here hx (hb hby at_151) (pc' := 153) rfl rfl rfl ?_
    refine own_s_aload Xw02.here hx (hb hby at_153) (pc' := 155) rfl rfl rfl ?_
    refine stw03 _ ?_
    show Steps p.tables e below (Tw03.setTop (mkF m 158 #[.val (.int p0), .val (.long p1), .second, .val (.long p2), .second, .val (.long p3), .second, .val (.int (0 : Int32)), .val (.int w0_v6), .val (.int w0_v13), .val (.int w0_v17), .val (.int w0_v24), .val (.int w0_v29), .val (.int w0_v37), .val (.ref bw01), .val (.ref bw02), .val (.long (0 : Int64)), .second, .unset, .unset] [(.double 0)])) _
    refine own_s_dstore Xw03.here hx (hb hby at_158) (pc' := 160) rfl (L' := #[.val (.int p0), .val (.long p1), .second, .val (.long p2), .second, .val (.long p3), .second, .val (.int (0 : Int32)), .val (.int w0_v6), .val (.int w0_v13), .val (.int w0_v17), .val (.int w0_v24), .val (.int w0_v29), .val (.int w0_v37), .val (.ref bw01), .val (.ref bw02), .val (.long (0 : Int64)), .second, .val (.double 0), .second]) rfl ?_
    refine own_s_dload Xw03.here hx (hb hby at_160) (pc' := 162) rfl rfl ?_
    refine own_s_lload Xw03.here hx (hb hby at_162) (pc' := 164) rfl rfl ?_
    refine own_s_l2d Xw03.here hx (hb hby at_164) (pc' := 165) rfl (v := (FP.l2d (0 : Int64))) rfl ?_
    refine own_s_dcmp Xw03.here hx (hb hby at_165) (pc' := 166) rfl (v := (0 : Int32)) w0_hc165 ?_
    refine own_s_ifNo Xw03.here hx (hb hby at_166) (pc' := 169) rfl (by decide) ?_
    refine own_s_iconst Xw03.here hx (hb hby at_169) (pc' := 170) rfl (v := (1 : Int32)) (by decide) ?_
    refine own_s_goto Xw03.here hx (hb hby at_170) (by decide) (pc' := 174) (by decide) ?_
    exact retN Xw03 hx (t := .boolean) Bd.returns (by simp) (hb hby at_174) hr
  · show own_Q0 n0 _ Tw03.heap _
    rw [ew03]
    exact ⟨rfl, Nw03⟩
theorem own_d1_12 : decode prog_2_method_9_code 12 = .ok (.dload_n 2, 1) := by decide +kernel
theorem own_d1_13 : decode prog_2_method_9_code 13 = .ok (.aload_n 1, 1) := by decide +kernel
theorem own_d1_14 : decode prog_2_method_9_code 14 = .ok (.iload 4, 2) := by decide +kernel
theorem own_d1_16 : decode prog_2_method_9_code 16 = .ok (.daload, 1) := by decide +kernel
theorem own_d1_17 : decode prog_2_method_9_code 17 = .ok (.aload_n 0, 1) := by decide +kernel
theorem own_d1_18 : decode prog_2_method_9_code 18 = .ok (.iload 4, 2) := by decide +kernel
theorem own_d1_20 : decode prog_2_method_9_code 20 = .ok (.daload, 1) := by decide +kernel
theorem own_d1_21 : decode prog_2_method_9_code 21 = .ok (.dsub, 1) := by decide +kernel
theorem own_d1_22 : decode prog_2_method_9_code 22 = .ok (.dadd, 1) := by decide +kernel
theorem own_d1_23 : decode prog_2_method_9_code 23 = .ok (.dstore_n 2, 1) := by decide +kernel
theorem own_d1_24 : decode prog_2_method_9_code 24 = .ok (.iinc 4 1, 3) := by decide +kernel
theorem own_d1_27 : decode prog_2_method_9_code 27 = .ok (.goto (-22), 3) := by decide +kernel
theorem own_ef_c1 (m : MethodId) (qa : Addr) (qb : Addr) : entryFrame m #[(.ref qa), (.ref qb)] 5 = mkF m 0 #[.val (.ref qa), .val (.ref qb), .unset, .unset, .unset] [] := by first | (simp [entryFrame, mkF, argsToLocals, Value.category]; done) | rfl
set_option maxRecDepth 65536 in
set_option maxHeartbeats 40000000 in
theorem own_rm_c1 (l : Launch) (Z : State) (a0 : Array Value) (hw : ∀ d ∈ tables_1, d.before a0 Z = true) (ws : List Jvm.Cond) (qa : Addr) (d0 : UInt64) (qb : Addr) (ee0 : UInt64) {qak : ClassId} {qbk : ClassId} {c1_v21 : UInt64} {c1_v22 : UInt64} (h0 : Heap) (n0 : Nat) (Z0 : n0 ≤ h0.size) (V_qa : Arv Z h0 qa qak .double (1 : Int32) [(.double d0)] (.double 0)) (V_qb : Arv Z h0 qb qbk .double (1 : Int32) [(.double ee0)] (.double 0)) (c1_hn21 : Jvm.Free.Fl.NoNaN64 (FP.dsub ee0 d0)) (c1_hv21 : FP.dsub ee0 d0 = c1_v21) (c1_hn22 : Jvm.Free.Fl.NoNaN64 (FP.dadd 0 c1_v21)) (c1_hv22 : FP.dadd 0 c1_v21 = c1_v22) :
    MetFree l (⟨"com/example/thicket/thicket/core/Box", "margin", "([D[D)D"⟩ : MethodName) (head1 (Jvm.Cond.code (⟨"com/example/thicket/thicket/core/Box", "margin", "([D[D)D"⟩ : MethodName) prog_2_method_9_code 5 (some .double) :: ws) ({ frames := 0, cells := 0, slots := 0, locals := 0 } : Room)) (fun a U => a = #[(.ref qa), (.ref qb)] ∧ Z.Warmed39 U.vm ∧ U.heap = h0) (fun _ _ _ _ _ => True) (fun _ U o U' => ∃ v L, o = .returned v ∧ own_QP (some (.double c1_v22)) h0 n0 v U'.heap L ∧ FrameEnd U o U' L ({ frames := 0, cells := 0, slots := 0, locals := 0 } : Room).cells ({ frames := 0, cells := 0, slots := 0, locals := 0 } : Room).slots) := by
  refine MetFree.of_bodySF (plainFor_of_name own_pn_com_example_thicket_thicket_core_Box) hisR ?_
  intro p e s m args below meth c s₁ Bd hml0 hP hK
  obtain ⟨rfl, hZ, hh⟩ := hP
  have hx := Bd.exec
  have hby := Bd.bytes
  have hml : c.maxLocals = 5 := hml0
  have hown : s.vm.findClass "com/example/thicket/thicket/core/Box" = some m.cls := findClass_of_methodNamed Bd.named
  have hnm := (name_of_methodNamed Bd.named Bd.method).1
  have X0 : Stand p l e ({ frames := 0, cells := 0, slots := 0, locals := 0 } : Room) s m #[(.ref qa), (.ref qb)] below meth c s₁ [] 0 0 := Stand.of_body Bd
  have e0 : s₁.heap = h0 := by rw [← hh, Bd.state]; rfl
  have N0 := Fr.nil n0
  have pre0 : ∀ t, Steps p.tables e below (s₁.setTop (mkF m 0 #[.val (.ref qa), .val (.ref qb), .unset, .unset, .unset] [])) t → Steps p.tables e below (s₁.setTop (entryFrame m #[(.ref qa), (.ref qb)] 5)) t := fun t k => castTop (own_ef_c1 m qa qb) k
  obtain ⟨fs, hr, hrun, hended, hW, hsame⟩ := X0.leave (v := some (.double c1_v22)) (fun h => by rw [Bd.returns] at h; cases h)
  refine ⟨_, _, pre0 _ ?_, hrun, hended, _, _, rfl, ?_, ⟨_, rfl⟩, hW, hsame.mono (by decide) (by decide)⟩
  · refine own_s_dconst0 X0.here hx (hb hby own_d1_0) (pc' := 1) rfl  ?_
    refine own_s_dstoreN X0.here hx (hb hby own_d1_1) (pc' := 2) rfl (L' := #[.val (.ref qa), .val (.ref qb), .val (.double 0), .second, .unset]) rfl ?_
    refine own_s_iconst X0.here hx (hb hby own_d1_2) (pc' := 3) rfl (v := (0 : Int32)) (by decide) ?_
    refine own_s_istore X0.here hx (hb hby own_d1_3) (pc' := 5) rfl (L' := #[.val (.ref qa), .val (.ref qb), .val (.double 0), .second, .val (.int (0 : Int32))]) rfl ?_
    refine own_s_iload X0.here hx (hb hby own_d1_5) (pc' := 7) rfl rfl ?_
    refine own_s_aloadN X0.here hx (hb hby own_d1_7) (pc' := 8) rfl rfl rfl ?_
    refine own_len X0 hx hZ e0 V_qa (hb hby own_d1_8) (pc' := 9) rfl ?_
    refine own_s_icmpNo X0.here hx (hb hby own_d1_9) (pc' := 12) rfl (by decide) ?_
    refine own_s_dloadN X0.here hx (hb hby own_d1_12) (pc' := 13) rfl rfl ?_
    refine own_s_aloadN X0.here hx (hb hby own_d1_13) (pc' := 14) rfl rfl rfl ?_
    refine own_s_iload X0.here hx (hb hby own_d1_14) (pc' := 16) rfl rfl ?_
    refine own_ldD X0 hx hZ e0 V_qb (j := (0 : Int32)) (x := ee0) (by decide) rfl (hb hby own_d1_16) (pc' := 17) rfl ?_
    refine own_s_aloadN X0.here hx (hb hby own_d1_17) (pc' := 18) rfl rfl rfl ?_
    refine own_s_iload X0.here hx (hb hby own_d1_18) (pc' := 20) rfl rfl ?_
    refine own_ldD X0 hx hZ e0 V_qa (j := (0 : Int32)) (x := d0) (by decide) rfl (hb hby own_d1_20) (pc' := 21) rfl ?_
    refine own_s_dsub X0.here hx (hb hby own_d1_21) (pc' := 22) rfl c1_hn21 (v := c1_v21) c1_hv21 ?_
    refine own_s_dadd X0.here hx (hb hby own_d1_22) (pc' := 23) rfl c1_hn22 (v := c1_v22) c1_hv22 ?_
    refine own_s_dstoreN X0.here hx (hb hby own_d1_23) (pc' := 24) rfl (L' := #[.val (.ref qa), .val (.ref qb), .val (.double c1_v22), .second, .val (.int (0 : Int32))]) rfl ?_
    refine own_s_iinc X0.here hx (hb hby own_d1_24) (pc' := 27) rfl rfl (v := (1 : Int32)) (by decide) (L' := #[.val (.ref qa), .val (.ref qb), .val (.double c1_v22), .second, .val (.int (1 : Int32))]) rfl ?_
    refine own_s_goto X0.here hx (hb hby own_d1_27) (by decide) (pc' := 5) (by decide) ?_
    refine own_s_iload X0.here hx (hb hby own_d1_5) (pc' := 7) rfl rfl ?_
    refine own_s_aloadN X0.here hx (hb hby own_d1_7) (pc' := 8) rfl rfl rfl ?_
    refine own_len X0 hx hZ e0 V_qa (hb hby own_d1_8) (pc' := 9) rfl ?_
    refine own_s_icmpYes X0.here hx (hb hby own_d1_9) (by decide) (pc' := 30) (by decide) (by decide) ?_
    refine own_s_dloadN X0.here hx (hb hby own_d1_30) (pc' := 31) rfl rfl ?_
    exact own_retD X0 hx Bd.returns (hb hby own_d1_31) hr
  · show own_QP (some (.double c1_v22)) h0 n0 _ s₁.heap _
    rw [e0]
    exact ⟨rfl, N0, rfl⟩
theorem own_ef_w1 (m : MethodId) (p0 : Int32) (p1 : Int64) (p2 : Int64) (p3 : Int64) : entryFrame m #[(.int p0), (.long p1), (.long p2), (.long p3)] maxLocals = mkF m 0 #[.val (.int p0), .val (.long p1), .second, .val (.long p2), .second, .val (.long p3), .second, .unset, .unset, .unset, .unset, .unset, .unset, .unset, .unset, .unset, .unset, .unset, .unset, .unset] [] := by first | (simp [entryFrame, mkF, argsToLocals, Value.category, maxLocals]; done) | rfl
set_option maxRecDepth 65536 in
set_option maxHeartbeats 40000000 in
theorem own_rm_w1 (l : Launch) (Z : State) (a0 : Array Value) (hw : ∀ d ∈ tables_1, d.before a0 Z = true) (ws : List Jvm.Cond) (p0 : Int32) (p1 : Int64) (p2 : Int64) (p3 : Int64) {w1_v6 : Int32} {w1_v12 : Int64} {w1_v13 : Int32} {w1_v17 : Int32} {w1_v23 : Int64} {w1_v24 : Int32} {w1_v29 : Int32} {w1_v36 : Int64} {w1_v37 : Int32} {w1_v79 : Int64} {w1_v82 : Int64} {w1_v83 : Int64} {w1_v84 : Int64} {w1_c155_c1_v21 : UInt64} {w1_c155_c1_v22 : UInt64} (h0 : Heap) (n0 : Nat) (Z0 : n0 ≤ h0.size)  (w1_hv2 : p0 &&& (3 : Int32) = (1 : Int32)) (w1_hv6 : Int64.toInt32 p1 = w1_v6) (w1_hv12 : (Int64.toUInt64 p1 >>> ((32 : Int32) &&& 63).toInt64.toUInt64).toInt64 = w1_v12) (w1_hv13 : Int64.toInt32 w1_v12 = w1_v13) (w1_hv17 : Int64.toInt32 p2 = w1_v17) (w1_hv23 : (Int64.toUInt64 p2 >>> ((32 : Int32) &&& 63).toInt64.toUInt64).toInt64 = w1_v23) (w1_hv24 : Int64.toInt32 w1_v23 = w1_v24) (w1_hv29 : Int64.toInt32 p3 = w1_v29) (w1_hv36 : (Int64.toUInt64 p3 >>> ((32 : Int32) &&& 63).toInt64.toUInt64).toInt64 = w1_v36) (w1_hv37 : Int64.toInt32 w1_v36 = w1_v37) (w1_hv79 : Int32.toInt64 w1_v13 = w1_v79) (w1_hv82 : Int32.toInt64 w1_v6 = w1_v82) (w1_hv83 : w1_v79 - w1_v82 = w1_v83) (w1_hv84 : (0 : Int64) + w1_v83 = w1_v84) (w1_c155_c1_hn21 : Jvm.Free.Fl.NoNaN64 (FP.dsub (FP.i2d w1_v13) (FP.i2d w1_v6))) (w1_c155_c1_hv21 : FP.dsub (FP.i2d w1_v13) (FP.i2d w1_v6) = w1_c155_c1_v21) (w1_c155_c1_hn22 : Jvm.Free.Fl.NoNaN64 (FP.dadd 0 w1_c155_c1_v21)) (w1_c155_c1_hv22 : FP.dadd 0 w1_c155_c1_v21 = w1_c155_c1_v22) (w1_hc165 : Op.cmpValue (FP.dcmp w1_c155_c1_v22 (FP.l2d w1_v84)) .l = (0 : Int32)) :
    MetFree l x (head1 (Jvm.Cond.code x code maxLocals ret :: ws) room_1) (fun a U => a = #[(.int p0), (.long p1), (.long p2), (.long p3)] ∧ Z.Warmed39 U.vm ∧ U.heap = h0) (fun _ _ _ _ _ => True) (fun _ U o U' => ∃ v L, o = .returned v ∧ own_Q0 n0 v U'.heap L ∧ FrameEnd U o U' L room_1.cells room_1.slots) := by
  refine MetFree.of_bodySF (plainFor_of_name own_pn_com_example_thicket_thicket_core_BoxMarginPinLaw) hisR ?_
  intro p e s m args below meth c s₁ Bd hml0 hP hK
  obtain ⟨rfl, hZ, hh⟩ := hP
  have hx := Bd.exec
  have hby := Bd.bytes
  have hml : c.maxLocals = 20 := hml0
  have hown : s.vm.findClass "com/example/thicket/thicket/core/BoxMarginPinLaw" = some m.cls := findClass_of_methodNamed Bd.named
  have hnm := (name_of_methodNamed Bd.named Bd.method).1
  have X0 : Stand p l e room_1 s m #[(.int p0), (.long p1), (.long p2), (.long p3)] below meth c s₁ [] 0 0 := Stand.of_body Bd
  have e0 : s₁.heap = h0 := by rw [← hh, Bd.state]; rfl
  have N0 := Fr.nil n0
  have pre0 : ∀ t, Steps p.tables e below (s₁.setTop (mkF m 0 #[.val (.int p0), .val (.long p1), .second, .val (.long p2), .second, .val (.long p3), .second, .unset, .unset, .unset, .unset, .unset, .unset, .unset, .unset, .unset, .unset, .unset, .unset, .unset] [])) t → Steps p.tables e below (s₁.setTop (entryFrame m #[(.int p0), (.long p1), (.long p2), (.long p3)] maxLocals)) t := fun t k => castTop (own_ef_w1 m p0 p1 p2 p3) k
  obtain ⟨Tw11, hw11, kw11, bw11, Xw11, ew11, Ew11, Gw11, Vw11, stw11⟩ := own_newD (L := #[.val (.int p0), .val (.long p1), .second, .val (.long p2), .second, .val (.long p3), .second, .val (.int (1 : Int32)), .val (.int w1_v6), .val (.int w1_v13), .val (.int w1_v17), .val (.int w1_v24), .val (.int w1_v29), .val (.int w1_v37), .unset, .unset, .unset, .unset, .unset, .unset]) (S := []) X0 hx hZ (hw _ (List.mem_of_getElem? (i := 0) rfl)) e0 (z := (1 : Int32)) 1 (by decide) (by decide) (by decide) (by decide) (by decide) (hb hby at_42) (pc' := 44) rfl
  have g_bw11 : n0 ≤ bw11 := Nat.le_trans Z0 (Nat.le_of_eq Gw11.symm)
  have sz_bw11 : h0.size ≤ bw11 := Nat.le_trans (Keep.refl h0 []).1 (Nat.le_of_eq Gw11.symm)
  have Zw11 : n0 ≤ hw11.size := Nat.le_trans Z0 Ew11.1
  have KKw11 := (Keep.refl h0 []).ext Ew11
  have V_bw11 : Arv Z hw11 bw11 kw11 .double (1 : Int32) [(.double 0)] (.double 0) := Vw11
  obtain ⟨Tw12, hw12, kw12, bw12, Xw12, ew12, Ew12, Gw12, Vw12, stw12⟩ := own_newD (L := #[.val (.int p0), .val (.long p1), .second, .val (.long p2), .second, .val (.long p3), .second, .val (.int (1 : Int32)), .val (.int w1_v6), .val (.int w1_v13), .val (.int w1_v17), .val (.int w1_v24), .val (.int w1_v29), .val (.int w1_v37), .val (.ref bw11), .unset, .unset, .unset, .unset, .unset]) (S := []) Xw11 hx hZ (hw _ (List.mem_of_getElem? (i := 0) rfl)) ew11 (z := (1 : Int32)) 1 (by decide) (by decide) (by decide) (by decide) (by decide) (hb hby at_48) (pc' := 50) rfl
  have ne_bw11_bw12 : bw11 ≠ bw12 := Nat.ne_of_lt (Nat.lt_of_lt_of_le V_bw11.lt (Nat.le_of_eq Gw12.symm))
  have ne_bw12_bw11 : bw12 ≠ bw11 := Ne.symm ne_bw11_bw12
  have g_bw12 : n0 ≤ bw12 := Nat.le_trans Zw11 (Nat.le_of_eq Gw12.symm)
  have sz_bw12 : h0.size ≤ bw12 := Nat.le_trans KKw11.1 (Nat.le_of_eq Gw12.symm)
  have V_bw11_w12 := V_bw11.ext Ew12
  have Zw12 : n0 ≤ hw12.size := Nat.le_trans Zw11 Ew12.1
  have KKw12 := KKw11.ext Ew12
  have V_bw12 : Arv Z hw12 bw12 kw12 .double (1 : Int32) [(.double 0)] (.double 0) := Vw12
  obtain ⟨Tw13, hw13, Xw13, ew13, Ww13, Vw13, stw13⟩ := own_stD (L := #[.val (.int p0), .val (.long p1), .second, .val (.long p2), .second, .val (.long p3), .second, .val (.int (1 : Int32)), .val (.int w1_v6), .val (.int w1_v13), .val (.int w1_v17), .val (.int w1_v24), .val (.int w1_v29), .val (.int w1_v37), .val (.ref bw11), .val (.ref bw12), .val (.long (0 : Int64)), .second, .unset, .unset]) (S := []) Xw12 hx hZ ew12 V_bw11_w12 (j := (0 : Int32)) (x := (FP.i2d w1_v6)) (by decide) 0 (by decide) (Nat.le_of_ble_eq_true rfl) (hb hby at_67) (pc' := 68) rfl
  have V_bw12_w13 := V_bw12.other Ww13 ne_bw12_bw11
  have Zw13 : n0 ≤ hw13.size := Nat.le_trans Zw12 (Nat.le_of_eq Ww13.size.symm)
  have KKw13 := KKw12.wr Ww13 (Or.inr sz_bw11)
  have V_bw11_w13 : Arv Z hw13 bw11 kw11 .double (1 : Int32) [(.double (FP.i2d w1_v6))] (.double 0) := Vw13
  have Nw13 := Fr.snoc Xw13 N0 g_bw11
  obtain ⟨Tw14, hw14, Xw14, ew14, Ww14, Vw14, stw14⟩ := own_stD (L := #[.val (.int p0), .val (.long p1), .second, .val (.long p2), .second, .val (.long p3), .second, .val (.int (1 : Int32)), .val (.int w1_v6), .val (.int w1_v13), .val (.int w1_v17), .val (.int w1_v24), .val (.int w1_v29), .val (.int w1_v37), .val (.ref bw11), .val (.ref bw12), .val (.long (0 : Int64)), .second, .unset, .unset]) (S := []) Xw13 hx hZ ew13 V_bw12_w13 (j := (0 : Int32)) (x := (FP.i2d w1_v13)) (by decide) 0 (by decide) (Nat.le_of_ble_eq_true rfl) (hb hby at_74) (pc' := 75) rfl
  have V_bw11_w14 := V_bw11_w13.other Ww14 ne_bw11_bw12
  have Zw14 : n0 ≤ hw14.size := Nat.le_trans Zw13 (Nat.le_of_eq Ww14.size.symm)
  have KKw14 := KKw13.wr Ww14 (Or.inr sz_bw12)
  have V_bw12_w14 : Arv Z hw14 bw12 kw12 .double (1 : Int32) [(.double (FP.i2d w1_v13))] (.double 0) := Vw14
  have Nw14 := Fr.snoc Xw14 Nw13 g_bw12
  obtain ⟨_, _, ⟨Tw15, Lw15, kw15, nw15⟩, -, Xw15, ⟨Lcw15, hQw15, lw15, yw15, zw15⟩, stw15⟩ := Jvm.LawKit.callS Xw14 hx (y := (⟨"com/example/thicket/thicket/core/Box", "margin", "([D[D)D"⟩ : MethodName)) hown (mvT hZ (hw _ (List.mem_of_getElem? (i := 1) rfl))) (mvT hZ (hw _ (List.mem_of_getElem? (i := 2) rfl))) (mvT hZ (hw _ (List.mem_of_getElem? (i := 3) rfl))) (mvT hZ (hw _ (List.mem_of_getElem? (i := 4) rfl))) (by decide) (backOf (W := 0) (own_rm_c1 l Z a0 hw [] bw11 (FP.i2d w1_v6) bw12 (FP.i2d w1_v13) hw14 n0 Zw14 V_bw11_w14 V_bw12_w14 w1_c155_c1_hn21 w1_c155_c1_hv21 w1_c155_c1_hn22 w1_c155_c1_hv22) hZ (hw _ (List.mem_of_getElem? (i := 4) rfl)) (hw _ (List.mem_of_getElem? (i := 3) rfl)) (by decide) (by decide)) (g := (mkF m 155 #[.val (.int p0), .val (.long p1), .second, .val (.long p2), .second, .val (.long p3), .second, .val (.int (1 : Int32)), .val (.int w1_v6), .val (.int w1_v13), .val (.int w1_v17), .val (.int w1_v24), .val (.int w1_v29), .val (.int w1_v37), .val (.ref bw11), .val (.ref bw12), .val (.long w1_v84), .second, .unset, .unset] [(.ref bw12), (.ref bw11)])) rfl (by rw [hml]; rfl) (argsL := [(.ref bw11), (.ref bw12)]) (rest := []) (lenOf own_pd_285bD5bD29D rfl) rfl (by show 2 * 0 + _ ≤ _; exact Nat.le_of_eq rfl) (hb hby at_155) (fun _ _ => ⟨rfl, ew14, (by decide : 2 + 0 ≤ _), (by decide : 2 + 0 ≤ _)⟩)
  dsimp only [Pt.U, Pt.locs, Pt.cells, Pt.slots] at Xw15 lw15 yw15 zw15 stw15 hQw15
  subst lw15 yw15 zw15
  obtain ⟨rfl, Nw15q, ew15⟩ := hQw15
  have Nw15 := Fr.app Nw14 Nw15q
  obtain ⟨fs, hr, hrun, hended, hW, hsame⟩ := Xw15.leave (v := some (.int (1 : Int32))) (fun h => by rw [Bd.returns] at h; cases h)
  refine ⟨_, _, pre0 _ ?_, hrun, hended, _, _, rfl, ?_, ⟨_, rfl⟩, hW, hsame.mono (by decide) (by decide)⟩
  · refine own_s_iloadN X0.here hx (hb hby at_0) (pc' := 1) rfl rfl ?_
    refine own_s_iconst X0.here hx (hb hby at_1) (pc' := 2) rfl (v := (3 : Int32)) (by decide) ?_
    refine own_s_iand X0.here hx (hb hby at_2) (pc' := 3) rfl (v := (1 : Int32)) w1_hv2 ?_
    refine own_s_istore X0.here hx (hb hby at_3) (pc' := 5) rfl (L' := #[.val (.int p0), .val (.long p1), .second, .val (.long p2), .second, .val (.long p3), .second, .val (.int (1 : Int32)), .unset, .unset, .unset, .unset, .unset, .unset, .unset, .unset, .unset, .unset, .unset, .unset]) rfl ?_
    refine own_s_lloadN X0.here hx (hb hby at_5) (pc' := 6) rfl rfl ?_
    refine own_s_l2i X0.here hx (hb hby at_6) (pc' := 7) rfl (v := w1_v6) w1_hv6 ?_
    refine own_s_istore X0.here hx (hb hby at_7) (pc' := 9) rfl (L' := #[.val (.int p0), .val (.long p1), .second, .val (.long p2), .second, .val (.long p3), .second, .val (.int (1 : Int32)), .val (.int w1_v6), .unset, .unset, .unset, .unset, .unset, .unset, .unset, .unset, .unset, .unset, .unset]) rfl ?_
    refine own_s_lloadN X0.here hx (hb hby at_9) (pc' := 10) rfl rfl ?_
    refine own_s_bipush X0.here hx (hb hby at_10) (pc' := 12) rfl (v := (32 : Int32)) (by decide) ?_
    refine own_s_lushr X0.here hx (hb hby at_12) (pc' := 13) rfl (v := w1_v12) w1_hv12 ?_
    refine own_s_l2i X0.here hx (hb hby at_13) (pc' := 14) rfl (v := w1_v13) w1_hv13 ?_
    refine own_s_istore X0.here hx (hb hby at_14) (pc' := 16) rfl (L' := #[.val (.int p0), .val (.long p1), .second, .val (.long p2), .second, .val (.long p3), .second, .val (.int (1 : Int32)), .val (.int w1_v6), .val (.int w1_v13), .unset, .unset, .unset, .unset, .unset, .unset, .unset, .unset, .unset, .unset]) rfl ?_
    refine own_s_lloadN X0.here hx (hb hby at_16) (pc' := 17) rfl rfl ?_
    refine own_s_l2i X0.here hx (hb hby at_17) (pc' := 18) rfl (v := w1_v17) w1_hv17 ?_
    refine own_s_istore X0.here hx (hb hby at_18) (pc' := 20) rfl (L' := #[.val (.int p0), .val (.long p1), .second, .val (.long p2), .second, .val (.long p3), .second, .val (.int (1 : Int32)), .val (.int w1_v6), .val (.int w1_v13), .val (.int w1_v17), .unset, .unset, .unset, .unset, .unset, .unset, .unset, .unset, .unset]) rfl ?_
    refine own_s_lloadN X0.here hx (hb hby at_20) (pc' := 21) rfl rfl ?_
    refine own_s_bipush X0.here hx (hb hby at_21) (pc' := 23) rfl (v := (32 : Int32)) (by decide) ?_
    refine own_s_lushr X0.here hx (hb hby at_23) (pc' := 24) rfl (v := w1_v23) w1_hv23 ?_
    refine own_s_l2i X0.here hx (hb hby at_24) (pc' := 25) rfl (v := w1_v24) w1_hv24 ?_
    refine own_s_istore X0.here hx (hb hby at_25) (pc' := 27) rfl (L' := #[.val (.int p0), .val (.long p1), .second, .val (.long p2), .second, .val (.long p3), .second, .val (.int (1 : Int32)), .val (.int w1_v6), .val (.int w1_v13), .val (.int w1_v17), .val (.int w1_v24), .unset, .unset, .unset, .unset, .unset, .unset, .unset, .unset]) rfl ?_
    refine own_s_lload X0.here hx (hb hby at_27) (pc' := 29) rfl rfl ?_
    refine own_s_l2i X0.here hx (hb hby at_29) (pc' := 30) rfl (v := w1_v29) w1_hv29 ?_
    refine own_s_istore X0.here hx (hb hby at_30) (pc' := 32) rfl (L' := #[.val (.int p0), .val (.long p1), .second, .val (.long p2), .second, .val (.long p3), .second, .val (.int (1 : Int32)), .val (.int w1_v6), .val (.int w1_v13), .val (.int w1_v17), .val (.int w1_v24), .val (.int w1_v29), .unset, .unset, .unset, .unset, .unset, .unset, .unset]) rfl ?_
    refine own_s_lload X0.here hx (hb hby at_32) (pc' := 34) rfl rfl ?_
    refine own_s_bipush X0.here hx (hb hby at_34) (pc' := 36) rfl (v := (32 : Int32)) (by decide) ?_
    refine own_s_lushr X0.here hx (hb hby at_36) (pc' := 37) rfl (v := w1_v36) w1_hv36 ?_
    refine own_s_l2i X0.here hx (hb hby at_37) (pc' := 38) rfl (v := w1_v37) w1_hv37 ?_
    refine own_s_istore X0.here hx (hb hby at_38) (pc' := 40) rfl (L' := #[.val (.int p0), .val (.long p1), .second, .val (.long p2), .second, .val (.long p3), .second, .val (.int (1 : Int32)), .val (.int w1_v6), .val (.int w1_v13), .val (.int w1_v17), .val (.int w1_v24), .val (.int w1_v29), .val (.int w1_v37), .unset, .unset, .unset, .unset, .unset, .unset]) rfl ?_
    refine own_s_iload X0.here hx (hb hby at_40) (pc' := 42) rfl rfl ?_
    refine stw11 _ ?_
    refine own_s_astore Xw11.here hx (hb hby at_44) (pc' := 46) rfl rfl (L' := #[.val (.int p0), .val (.long p1), .second, .val (.long p2), .second, .val (.long p3), .second, .val (.int (1 : Int32)), .val (.int w1_v6), .val (.int w1_v13), .val (.int w1_v17), .val (.int w1_v24), .val (.int w1_v29), .val (.int w1_v37), .val (.ref bw11), .unset, .unset, .unset, .unset, .unset]) rfl ?_
    refine own_s_iload Xw11.here hx (hb hby at_46) (pc' := 48) rfl rfl ?_
    refine stw12 _ ?_
    refine own_s_astore Xw12.here hx (hb hby at_50) (pc' := 52) rfl rfl (L' := #[.val (.int p0), .val (.long p1), .second, .val (.long p2), .second, .val (.long p3), .second, .val (.int (1 : Int32)), .val (.int w1_v6), .val (.int w1_v13), .val (.int w1_v17), .val (.int w1_v24), .val (.int w1_v29), .val (.int w1_v37), .val (.ref bw11), .val (.ref bw12), .unset, .unset, .unset, .unset]) rfl ?_
    refine own_s_lconst Xw12.here hx (hb hby at_52) (pc' := 53) rfl (v := (0 : Int64)) (by decide) ?_
    refine own_s_lstore Xw12.here hx (hb hby at_53) (pc' := 55) rfl (L' := #[.val (.int p0), .val (.long p1), .second, .val (.long p2), .second, .val (.long p3), .second, .val (.int (1 : Int32)), .val (.int w1_v6), .val (.int w1_v13), .val (.int w1_v17), .val (.int w1_v24), .val (.int w1_v29), .val (.int w1_v37), .val (.ref bw11), .val (.ref bw12), .val (.long (0 : Int64)), .second, .unset, .unset]) rfl ?_
    refine own_s_iload Xw12.here hx (hb hby at_55) (pc' := 57) rfl rfl ?_
    refine own_s_iconst Xw12.here hx (hb hby at_57) (pc' := 58) rfl (v := (1 : Int32)) (by decide) ?_
    refine own_s_icmpNo Xw12.here hx (hb hby at_58) (pc' := 61) rfl (by decide) ?_
    refine own_s_aload Xw12.here hx (hb hby at_61) (pc' := 63) rfl rfl rfl ?_
    refine own_s_iconst Xw12.here hx (hb hby at_63) (pc' := 64) rfl (v := (0 : Int32)) (by decide) ?_
    refine own_s_iload Xw12.here hx (hb hby at_64) (pc' := 66) rfl rfl ?_
    refine own_s_i2d Xw12.here hx (hb hby at_66) (pc' := 67) rfl (v := (FP.i2d w1_v6)) rfl ?_
    refine stw13 _ ?_
    refine own_s_aload Xw13.here hx (hb hby at_68) (pc' := 70) rfl rfl rfl ?_
    refine own_s_iconst Xw13.here hx (hb hby at_70) (pc' := 71) rfl (v := (0 : Int32)) (by decide) ?_
    refine own_s_iload Xw13.here hx (hb hby at_71) (pc' := 73) rfl rfl ?_
    refine own_s_i2d Xw13.here hx (hb hby at_73) (pc' := 74) rfl (v := (FP.i2d w1_v13)) rfl ?_
    refine stw14 _ ?_
    refine own_s_lload Xw14.here hx (hb hby at_75) (pc' := 77) rfl rfl ?_
    refine own_s_iload Xw14.here hx (hb hby at_77) (pc' := 79) rfl rfl ?_
    refine own_s_i2l Xw14.here hx (hb hby at_79) (pc' := 80) rfl (v := w1_v79) w1_hv79 ?_
    refine own_s_iload Xw14.here hx (hb hby at_80) (pc' := 82) rfl rfl ?_
    refine own_s_i2l Xw14.here hx (hb hby at_82) (pc' := 83) rfl (v := w1_v82) w1_hv82 ?_
    refine own_s_lsub Xw14.here hx (hb hby at_83) (pc' := 84) rfl (v := w1_v83) w1_hv83 ?_
    refine own_s_ladd Xw14.here hx (hb hby at_84) (pc' := 85) rfl (v := w1_v84) w1_hv84 ?_
    refine own_s_lstore Xw14.here hx (hb hby at_85) (pc' := 87) rfl (L' := #[.val (.int p0), .val (.long p1), .second, .val (.long p2), .second, .val (.long p3), .second, .val (.int (1 : Int32)), .val (.int w1_v6), .val (.int w1_v13), .val (.int w1_v17), .val (.int w1_v24), .val (.int w1_v29), .val (.int w1_v37), .val (.ref bw11), .val (.ref bw12), .val (.long w1_v84), .second, .unset, .unset]) rfl ?_
    refine own_s_iload Xw14.here hx (hb hby at_87) (pc' := 89) rfl rfl ?_
    refine own_s_iconst Xw14.here hx (hb hby at_89) (pc' := 90) rfl (v := (2 : Int32)) (by decide) ?_
    refine own_s_icmpYes Xw14.here hx (hb hby at_90) (by decide) (pc' := 119) (by decide) (by decide) ?_
    refine own_s_iload Xw14.here hx (hb hby at_119) (pc' := 121) rfl rfl ?_
    refine own_s_iconst Xw14.here hx (hb hby at_121) (pc' := 122) rfl (v := (3 : Int32)) (by decide) ?_
    refine own_s_icmpYes Xw14.here hx (hb hby at_122) (by decide) (pc' := 151) (by decide) (by decide) ?_
    refine own_s_aload Xw14.here hx (hb hby at_151) (pc' := 153) rfl rfl rfl ?_
    refine own_s_aload Xw14.here hx (hb hby at_153) (pc' := 155) rfl rfl rfl ?_
    refine stw15 _ ?_
    show Steps p.tables e below (Tw15.setTop (mkF m 158 #[.val (.int p0), .val (.long p1), .second, .val (.long p2), .second, .val (.long p3), .second, .val (.int (1 : Int32)), .val (.int w1_v6), .val (.int w1_v13), .val (.int w1_v17), .val (.int w1_v24), .val (.int w1_v29), .val (.int w1_v37), .val (.ref bw11), .val (.ref bw12), .val (.long w1_v84), .second, .unset, .unset] [(.double w1_c155_c1_v22)])) _
    refine own_s_dstore Xw15.here hx (hb hby at_158) (pc' := 160) rfl (L' := #[.val (.int p0), .val (.long p1), .second, .val (.long p2), .second, .val (.long p3), .second, .val (.int (1 : Int32)), .val (.int w1_v6), .val (.int w1_v13), .val (.int w1_v17), .val (.int w1_v24), .val (.int w1_v29), .val (.int w1_v37), .val (.ref bw11), .val (.ref bw12), .val (.long w1_v84), .second, .val (.double w1_c155_c1_v22), .second]) rfl ?_
    refine own_s_dload Xw15.here hx (hb hby at_160) (pc' := 162) rfl rfl ?_
    refine own_s_lload Xw15.here hx (hb hby at_162) (pc' := 164) rfl rfl ?_
    refine own_s_l2d Xw15.here hx (hb hby at_164) (pc' := 165) rfl (v := (FP.l2d w1_v84)) rfl ?_
    refine own_s_dcmp Xw15.here hx (hb hby at_165) (pc' := 166) rfl (v := (0 : Int32)) w1_hc165 ?_
    refine own_s_ifNo Xw15.here hx (hb hby at_166) (pc' := 169) rfl (by decide) ?_
    refine own_s_iconst Xw15.here hx (hb hby at_169) (pc' := 170) rfl (v := (1 : Int32)) (by decide) ?_
    refine own_s_goto Xw15.here hx (hb hby at_170) (by decide) (pc' := 174) (by decide) ?_
    exact retN Xw15 hx (t := .boolean) Bd.returns (by simp) (hb hby at_174) hr
  · show own_Q0 n0 _ Tw15.heap _
    rw [ew15]
    exact ⟨rfl, Nw15⟩
theorem own_ef_c2 (m : MethodId) (qa : Addr) (qb : Addr) : entryFrame m #[(.ref qa), (.ref qb)] 5 = mkF m 0 #[.val (.ref qa), .val (.ref qb), .unset, .unset, .unset] [] := by first | (simp [entryFrame, mkF, argsToLocals, Value.category]; done) | rfl
set_option maxRecDepth 65536 in
set_option maxHeartbeats 40000000 in
theorem own_rm_c2 (l : Launch) (Z : State) (a0 : Array Value) (hw : ∀ d ∈ tables_1, d.before a0 Z = true) (ws : List Jvm.Cond) (qa : Addr) (d0 : UInt64) (d1 : UInt64) (qb : Addr) (ee0 : UInt64) (ee1 : UInt64) {qak : ClassId} {qbk : ClassId} {c2_v21 : UInt64} {c2_v22 : UInt64} {c2_v21_2 : UInt64} {c2_v22_2 : UInt64} (h0 : Heap) (n0 : Nat) (Z0 : n0 ≤ h0.size) (V_qa : Arv Z h0 qa qak .double (2 : Int32) [(.double d0), (.double d1)] (.double 0)) (V_qb : Arv Z h0 qb qbk .double (2 : Int32) [(.double ee0), (.double ee1)] (.double 0)) (c2_hn21 : Jvm.Free.Fl.NoNaN64 (FP.dsub ee0 d0)) (c2_hv21 : FP.dsub ee0 d0 = c2_v21) (c2_hn22 : Jvm.Free.Fl.NoNaN64 (FP.dadd 0 c2_v21)) (c2_hv22 : FP.dadd 0 c2_v21 = c2_v22) (c2_hn21_2 : Jvm.Free.Fl.NoNaN64 (FP.dsub ee1 d1)) (c2_hv21_2 : FP.dsub ee1 d1 = c2_v21_2) (c2_hn22_2 : Jvm.Free.Fl.NoNaN64 (FP.dadd c2_v22 c2_v21_2)) (c2_hv22_2 : FP.dadd c2_v22 c2_v21_2 = c2_v22_2) :
    MetFree l (⟨"com/example/thicket/thicket/core/Box", "margin", "([D[D)D"⟩ : MethodName) (head1 (Jvm.Cond.code (⟨"com/example/thicket/thicket/core/Box", "margin", "([D[D)D"⟩ : MethodName) prog_2_method_9_code 5 (some .double) :: ws) ({ frames := 0, cells := 0, slots := 0, locals := 0 } : Room)) (fun a U => a = #[(.ref qa), (.ref qb)] ∧ Z.Warmed39 U.vm ∧ U.heap = h0) (fun _ _ _ _ _ => True) (fun _ U o U' => ∃ v L, o = .returned v ∧ own_QP (some (.double c2_v22_2)) h0 n0 v U'.heap L ∧ FrameEnd U o U' L ({ frames := 0, cells := 0, slots := 0, locals := 0 } : Room).cells ({ frames := 0, cells := 0, slots := 0, locals := 0 } : Room).slots) := by
  refine MetFree.of_bodySF (plainFor_of_name own_pn_com_example_thicket_thicket_core_Box) hisR ?_
  intro p e s m args below meth c s₁ Bd hml0 hP hK
  obtain ⟨rfl, hZ, hh⟩ := hP
  have hx := Bd.exec
  have hby := Bd.bytes
  have hml : c.maxLocals = 5 := hml0
  have hown : s.vm.findClass "com/example/thicket/thicket/core/Box" = some m.cls := findClass_of_methodNamed Bd.named
  have hnm := (name_of_methodNamed Bd.named Bd.method).1
  have X0 : Stand p l e ({ frames := 0, cells := 0, slots := 0, locals := 0 } : Room) s m #[(.ref qa), (.ref qb)] below meth c s₁ [] 0 0 := Stand.of_body Bd
  have e0 : s₁.heap = h0 := by rw [← hh, Bd.state]; rfl
  have N0 := Fr.nil n0
  have pre0 : ∀ t, Steps p.tables e below (s₁.setTop (mkF m 0 #[.val (.ref qa), .val (.ref qb), .unset, .unset, .unset] [])) t → Steps p.tables e below (s₁.setTop (entryFrame m #[(.ref qa), (.ref qb)] 5)) t := fun t k => castTop (own_ef_c2 m qa qb) k
  obtain ⟨fs, hr, hrun, hended, hW, hsame⟩ := X0.leave (v := some (.double c2_v22_2)) (fun h => by rw [Bd.returns] at h; cases h)
  refine ⟨_, _, pre0 _ ?_, hrun, hended, _, _, rfl, ?_, ⟨_, rfl⟩, hW, hsame.mono (by decide) (by decide)⟩
  · refine own_s_dconst0 X0.here hx (hb hby own_d1_0) (pc' := 1) rfl  ?_
    refine own_s_dstoreN X0.here hx (hb hby own_d1_1) (pc' := 2) rfl (L' := #[.val (.ref qa), .val (.ref qb), .val (.double 0), .second, .unset]) rfl ?_
    refine own_s_iconst X0.here hx (hb hby own_d1_2) (pc' := 3) rfl (v := (0 : Int32)) (by decide) ?_
    refine own_s_istore X0.here hx (hb hby own_d1_3) (pc' := 5) rfl (L' := #[.val (.ref qa), .val (.ref qb), .val (.double 0), .second, .val (.int (0 : Int32))]) rfl ?_
    refine own_s_iload X0.here hx (hb hby own_d1_5) (pc' := 7) rfl rfl ?_
    refine own_s_aloadN X0.here hx (hb hby own_d1_7) (pc' := 8) rfl rfl rfl ?_
    refine own_len X0 hx hZ e0 V_qa (hb hby own_d1_8) (pc' := 9) rfl ?_
    refine own_s_icmpNo X0.here hx (hb hby own_d1_9) (pc' := 12) rfl (by decide) ?_
    refine own_s_dloadN X0.here hx (hb hby own_d1_12) (pc' := 13) rfl rfl ?_
    refine own_s_aloadN X0.here hx (hb hby own_d1_13) (pc' := 14) rfl rfl rfl ?_
    refine own_s_iload X0.here hx (hb hby own_d1_14) (pc' := 16) rfl rfl ?_
    refine own_ldD X0 hx hZ e0 V_qb (j := (0 : Int32)) (x := ee0) (by decide) rfl (hb hby own_d1_16) (pc' := 17) rfl ?_
    refine own_s_aloadN X0.here hx (hb hby own_d1_17) (pc' := 18) rfl rfl rfl ?_
    refine own_s_iload X0.here hx (hb hby own_d1_18) (pc' := 20) rfl rfl ?_
    refine own_ldD X0 hx hZ e0 V_qa (j := (0 : Int32)) (x := d0) (by decide) rfl (hb hby own_d1_20) (pc' := 21) rfl ?_
    refine own_s_dsub X0.here hx (hb hby own_d1_21) (pc' := 22) rfl c2_hn21 (v := c2_v21) c2_hv21 ?_
    refine own_s_dadd X0.here hx (hb hby own_d1_22) (pc' := 23) rfl c2_hn22 (v := c2_v22) c2_hv22 ?_
    refine own_s_dstoreN X0.here hx (hb hby own_d1_23) (pc' := 24) rfl (L' := #[.val (.ref qa), .val (.ref qb), .val (.double c2_v22), .second, .val (.int (0 : Int32))]) rfl ?_
    refine own_s_iinc X0.here hx (hb hby own_d1_24) (pc' := 27) rfl rfl (v := (1 : Int32)) (by decide) (L' := #[.val (.ref qa), .val (.ref qb), .val (.double c2_v22), .second, .val (.int (1 : Int32))]) rfl ?_
    refine own_s_goto X0.here hx (hb hby own_d1_27) (by decide) (pc' := 5) (by decide) ?_
    refine own_s_iload X0.here hx (hb hby own_d1_5) (pc' := 7) rfl rfl ?_
    refine own_s_aloadN X0.here hx (hb hby own_d1_7) (pc' := 8) rfl rfl rfl ?_
    refine own_len X0 hx hZ e0 V_qa (hb hby own_d1_8) (pc' := 9) rfl ?_
    refine own_s_icmpNo X0.here hx (hb hby own_d1_9) (pc' := 12) rfl (by decide) ?_
    refine own_s_dloadN X0.here hx (hb hby own_d1_12) (pc' := 13) rfl rfl ?_
    refine own_s_aloadN X0.here hx (hb hby own_d1_13) (pc' := 14) rfl rfl rfl ?_
    refine own_s_iload X0.here hx (hb hby own_d1_14) (pc' := 16) rfl rfl ?_
    refine own_ldD X0 hx hZ e0 V_qb (j := (1 : Int32)) (x := ee1) (by decide) rfl (hb hby own_d1_16) (pc' := 17) rfl ?_
    refine own_s_aloadN X0.here hx (hb hby own_d1_17) (pc' := 18) rfl rfl rfl ?_
    refine own_s_iload X0.here hx (hb hby own_d1_18) (pc' := 20) rfl rfl ?_
    refine own_ldD X0 hx hZ e0 V_qa (j := (1 : Int32)) (x := d1) (by decide) rfl (hb hby own_d1_20) (pc' := 21) rfl ?_
    refine own_s_dsub X0.here hx (hb hby own_d1_21) (pc' := 22) rfl c2_hn21_2 (v := c2_v21_2) c2_hv21_2 ?_
    refine own_s_dadd X0.here hx (hb hby own_d1_22) (pc' := 23) rfl c2_hn22_2 (v := c2_v22_2) c2_hv22_2 ?_
    refine own_s_dstoreN X0.here hx (hb hby own_d1_23) (pc' := 24) rfl (L' := #[.val (.ref qa), .val (.ref qb), .val (.double c2_v22_2), .second, .val (.int (1 : Int32))]) rfl ?_
    refine own_s_iinc X0.here hx (hb hby own_d1_24) (pc' := 27) rfl rfl (v := (2 : Int32)) (by decide) (L' := #[.val (.ref qa), .val (.ref qb), .val (.double c2_v22_2), .second, .val (.int (2 : Int32))]) rfl ?_
    refine own_s_goto X0.here hx (hb hby own_d1_27) (by decide) (pc' := 5) (by decide) ?_
    refine own_s_iload X0.here hx (hb hby own_d1_5) (pc' := 7) rfl rfl ?_
    refine own_s_aloadN X0.here hx (hb hby own_d1_7) (pc' := 8) rfl rfl rfl ?_
    refine own_len X0 hx hZ e0 V_qa (hb hby own_d1_8) (pc' := 9) rfl ?_
    refine own_s_icmpYes X0.here hx (hb hby own_d1_9) (by decide) (pc' := 30) (by decide) (by decide) ?_
    refine own_s_dloadN X0.here hx (hb hby own_d1_30) (pc' := 31) rfl rfl ?_
    exact own_retD X0 hx Bd.returns (hb hby own_d1_31) hr
  · show own_QP (some (.double c2_v22_2)) h0 n0 _ s₁.heap _
    rw [e0]
    exact ⟨rfl, N0, rfl⟩
theorem own_ef_w2 (m : MethodId) (p0 : Int32) (p1 : Int64) (p2 : Int64) (p3 : Int64) : entryFrame m #[(.int p0), (.long p1), (.long p2), (.long p3)] maxLocals = mkF m 0 #[.val (.int p0), .val (.long p1), .second, .val (.long p2), .second, .val (.long p3), .second, .unset, .unset, .unset, .unset, .unset, .unset, .unset, .unset, .unset, .unset, .unset, .unset, .unset] [] := by first | (simp [entryFrame, mkF, argsToLocals, Value.category, maxLocals]; done) | rfl
set_option maxRecDepth 65536 in
set_option maxHeartbeats 40000000 in
theorem own_rm_w2 (l : Launch) (Z : State) (a0 : Array Value) (hw : ∀ d ∈ tables_1, d.before a0 Z = true) (ws : List Jvm.Cond) (p0 : Int32) (p1 : Int64) (p2 : Int64) (p3 : Int64) {w2_v6 : Int32} {w2_v12 : Int64} {w2_v13 : Int32} {w2_v17 : Int32} {w2_v23 : Int64} {w2_v24 : Int32} {w2_v29 : Int32} {w2_v36 : Int64} {w2_v37 : Int32} {w2_v79 : Int64} {w2_v82 : Int64} {w2_v83 : Int64} {w2_v84 : Int64} {w2_v111 : Int64} {w2_v114 : Int64} {w2_v115 : Int64} {w2_v116 : Int64} {w2_c155_c2_v21 : UInt64} {w2_c155_c2_v22 : UInt64} {w2_c155_c2_v21_2 : UInt64} {w2_c155_c2_v22_2 : UInt64} (h0 : Heap) (n0 : Nat) (Z0 : n0 ≤ h0.size)  (w2_hv2 : p0 &&& (3 : Int32) = (2 : Int32)) (w2_hv6 : Int64.toInt32 p1 = w2_v6) (w2_hv12 : (Int64.toUInt64 p1 >>> ((32 : Int32) &&& 63).toInt64.toUInt64).toInt64 = w2_v12) (w2_hv13 : Int64.toInt32 w2_v12 = w2_v13) (w2_hv17 : Int64.toInt32 p2 = w2_v17) (w2_hv23 : (Int64.toUInt64 p2 >>> ((32 : Int32) &&& 63).toInt64.toUInt64).toInt64 = w2_v23) (w2_hv24 : Int64.toInt32 w2_v23 = w2_v24) (w2_hv29 : Int64.toInt32 p3 = w2_v29) (w2_hv36 : (Int64.toUInt64 p3 >>> ((32 : Int32) &&& 63).toInt64.toUInt64).toInt64 = w2_v36) (w2_hv37 : Int64.toInt32 w2_v36 = w2_v37) (w2_hv79 : Int32.toInt64 w2_v13 = w2_v79) (w2_hv82 : Int32.toInt64 w2_v6 = w2_v82) (w2_hv83 : w2_v79 - w2_v82 = w2_v83) (w2_hv84 : (0 : Int64) + w2_v83 = w2_v84) (w2_hv111 : Int32.toInt64 w2_v24 = w2_v111) (w2_hv114 : Int32.toInt64 w2_v17 = w2_v114) (w2_hv115 : w2_v111 - w2_v114 = w2_v115) (w2_hv116 : w2_v84 + w2_v115 = w2_v116) (w2_c155_c2_hn21 : Jvm.Free.Fl.NoNaN64 (FP.dsub (FP.i2d w2_v13) (FP.i2d w2_v6))) (w2_c155_c2_hv21 : FP.dsub (FP.i2d w2_v13) (FP.i2d w2_v6) = w2_c155_c2_v21) (w2_c155_c2_hn22 : Jvm.Free.Fl.NoNaN64 (FP.dadd 0 w2_c155_c2_v21)) (w2_c155_c2_hv22 : FP.dadd 0 w2_c155_c2_v21 = w2_c155_c2_v22) (w2_c155_c2_hn21_2 : Jvm.Free.Fl.NoNaN64 (FP.dsub (FP.i2d w2_v24) (FP.i2d w2_v17))) (w2_c155_c2_hv21_2 : FP.dsub (FP.i2d w2_v24) (FP.i2d w2_v17) = w2_c155_c2_v21_2) (w2_c155_c2_hn22_2 : Jvm.Free.Fl.NoNaN64 (FP.dadd w2_c155_c2_v22 w2_c155_c2_v21_2)) (w2_c155_c2_hv22_2 : FP.dadd w2_c155_c2_v22 w2_c155_c2_v21_2 = w2_c155_c2_v22_2) (w2_hc165 : Op.cmpValue (FP.dcmp w2_c155_c2_v22_2 (FP.l2d w2_v116)) .l = (0 : Int32)) :
    MetFree l x (head1 (Jvm.Cond.code x code maxLocals ret :: ws) room_1) (fun a U => a = #[(.int p0), (.long p1), (.long p2), (.long p3)] ∧ Z.Warmed39 U.vm ∧ U.heap = h0) (fun _ _ _ _ _ => True) (fun _ U o U' => ∃ v L, o = .returned v ∧ own_Q0 n0 v U'.heap L ∧ FrameEnd U o U' L room_1.cells room_1.slots) := by
  refine MetFree.of_bodySF (plainFor_of_name own_pn_com_example_thicket_thicket_core_BoxMarginPinLaw) hisR ?_
  intro p e s m args below meth c s₁ Bd hml0 hP hK
  obtain ⟨rfl, hZ, hh⟩ := hP
  have hx := Bd.exec
  have hby := Bd.bytes
  have hml : c.maxLocals = 20 := hml0
  have hown : s.vm.findClass "com/example/thicket/thicket/core/BoxMarginPinLaw" = some m.cls := findClass_of_methodNamed Bd.named
  have hnm := (name_of_methodNamed Bd.named Bd.method).1
  have X0 : Stand p l e room_1 s m #[(.int p0), (.long p1), (.long p2), (.long p3)] below meth c s₁ [] 0 0 := Stand.of_body Bd
  have e0 : s₁.heap = h0 := by rw [← hh, Bd.state]; rfl
  have N0 := Fr.nil n0
  have pre0 : ∀ t, Steps p.tables e below (s₁.setTop (mkF m 0 #[.val (.int p0), .val (.long p1), .second, .val (.long p2), .second, .val (.long p3), .second, .unset, .unset, .unset, .unset, .unset, .unset, .unset, .unset, .unset, .unset, .unset, .unset, .unset] [])) t → Steps p.tables e below (s₁.setTop (entryFrame m #[(.int p0), (.long p1), (.long p2), (.long p3)] maxLocals)) t := fun t k => castTop (own_ef_w2 m p0 p1 p2 p3) k
  obtain ⟨Tw21, hw21, kw21, bw21, Xw21, ew21, Ew21, Gw21, Vw21, stw21⟩ := own_newD (L := #[.val (.int p0), .val (.long p1), .second, .val (.long p2), .second, .val (.long p3), .second, .val (.int (2 : Int32)), .val (.int w2_v6), .val (.int w2_v13), .val (.int w2_v17), .val (.int w2_v24), .val (.int w2_v29), .val (.int w2_v37), .unset, .unset, .unset, .unset, .unset, .unset]) (S := []) X0 hx hZ (hw _ (List.mem_of_getElem? (i := 0) rfl)) e0 (z := (2 : Int32)) 2 (by decide) (by decide) (by decide) (by decide) (by decide) (hb hby at_42) (pc' := 44) rfl
  have g_bw21 : n0 ≤ bw21 := Nat.le_trans Z0 (Nat.le_of_eq Gw21.symm)
  have sz_bw21 : h0.size ≤ bw21 := Nat.le_trans (Keep.refl h0 []).1 (Nat.le_of_eq Gw21.symm)
  have Zw21 : n0 ≤ hw21.size := Nat.le_trans Z0 Ew21.1
  have KKw21 := (Keep.refl h0 []).ext Ew21
  have V_bw21 : Arv Z hw21 bw21 kw21 .double (2 : Int32) [(.double 0), (.double 0)] (.double 0) := Vw21
  obtain ⟨Tw22, hw22, kw22, bw22, Xw22, ew22, Ew22, Gw22, Vw22, stw22⟩ := own_newD (L := #[.val (.int p0), .val (.long p1), .second, .val (.long p2), .second, .val (.long p3), .second, .val (.int (2 : Int32)), .val (.int w2_v6), .val (.int w2_v13), .val (.int w2_v17), .val (.int w2_v24), .val (.int w2_v29), .val (.int w2_v37), .val (.ref bw21), .unset, .unset, .unset, .unset, .unset]) (S := []) Xw21 hx hZ (hw _ (List.mem_of_getElem? (i := 0) rfl)) ew21 (z := (2 : Int32)) 2 (by decide) (by decide) (by decide) (by decide) (by decide) (hb hby at_48) (pc' := 50) rfl
  have ne_bw21_bw22 : bw21 ≠ bw22 := Nat.ne_of_lt (Nat.lt_of_lt_of_le V_bw21.lt (Nat.le_of_eq Gw22.symm))
  have ne_bw22_bw21 : bw22 ≠ bw21 := Ne.symm ne_bw21_bw22
  have g_bw22 : n0 ≤ bw22 := Nat.le_trans Zw21 (Nat.le_of_eq Gw22.symm)
  have sz_bw22 : h0.size ≤ bw22 := Nat.le_trans KKw21.1 (Nat.le_of_eq Gw22.symm)
  have V_bw21_w22 := V_bw21.ext Ew22
  have Zw22 : n0 ≤ hw22.size := Nat.le_trans Zw21 Ew22.1
  have KKw22 := KKw21.ext Ew22
  have V_bw22 : Arv Z hw22 bw22 kw22 .double (2 : Int32) [(.double 0), (.double 0)] (.double 0) := Vw22
  obtain ⟨Tw23, hw23, Xw23, ew23, Ww23, Vw23, stw23⟩ := own_stD (L := #[.val (.int p0), .val (.long p1), .second, .val (.long p2), .second, .val (.long p3), .second, .val (.int (2 : Int32)), .val (.int w2_v6), .val (.int w2_v13), .val (.int w2_v17), .val (.int w2_v24), .val (.int w2_v29), .val (.int w2_v37), .val (.ref bw21), .val (.ref bw22), .val (.long (0 : Int64)), .second, .unset, .unset]) (S := []) Xw22 hx hZ ew22 V_bw21_w22 (j := (0 : Int32)) (x := (FP.i2d w2_v6)) (by decide) 0 (by decide) (Nat.le_of_ble_eq_true rfl) (hb hby at_67) (pc' := 68) rfl
  have V_bw22_w23 := V_bw22.other Ww23 ne_bw22_bw21
  have Zw23 : n0 ≤ hw23.size := Nat.le_trans Zw22 (Nat.le_of_eq Ww23.size.symm)
  have KKw23 := KKw22.wr Ww23 (Or.inr sz_bw21)
  have V_bw21_w23 : Arv Z hw23 bw21 kw21 .double (2 : Int32) [(.double (FP.i2d w2_v6)), (.double 0)] (.double 0) := Vw23
  have Nw23 := Fr.snoc Xw23 N0 g_bw21
  obtain ⟨Tw24, hw24, Xw24, ew24, Ww24, Vw24, stw24⟩ := own_stD (L := #[.val (.int p0), .val (.long p1), .second, .val (.long p2), .second, .val (.long p3), .second, .val (.int (2 : Int32)), .val (.int w2_v6), .val (.int w2_v13), .val (.int w2_v17), .val (.int w2_v24), .val (.int w2_v29), .val (.int w2_v37), .val (.ref bw21), .val (.ref bw22), .val (.long (0 : Int64)), .second, .unset, .unset]) (S := []) Xw23 hx hZ ew23 V_bw22_w23 (j := (0 : Int32)) (x := (FP.i2d w2_v13)) (by decide) 0 (by decide) (Nat.le_of_ble_eq_true rfl) (hb hby at_74) (pc' := 75) rfl
  have V_bw21_w24 := V_bw21_w23.other Ww24 ne_bw21_bw22
  have Zw24 : n0 ≤ hw24.size := Nat.le_trans Zw23 (Nat.le_of_eq Ww24.size.symm)
  have KKw24 := KKw23.wr Ww24 (Or.inr sz_bw22)
  have V_bw22_w24 : Arv Z hw24 bw22 kw22 .double (2 : Int32) [(.double (FP.i2d w2_v13)), (.double 0)] (.double 0) := Vw24
  have Nw24 := Fr.snoc Xw24 Nw23 g_bw22
  obtain ⟨Tw25, hw25, Xw25, ew25, Ww25, Vw25, stw25⟩ := own_stD (L := #[.val (.int p0), .val (.long p1), .second, .val (.long p2), .second, .val (.long p3), .second, .val (.int (2 : Int32)), .val (.int w2_v6), .val (.int w2_v13), .val (.int w2_v17), .val (.int w2_v24), .val (.int w2_v29), .val (.int w2_v37), .val (.ref bw21), .val (.ref bw22), .val (.long w2_v84), .second, .unset, .unset]) (S := []) Xw24 hx hZ ew24 V_bw21_w24 (j := (1 : Int32)) (x := (FP.i2d w2_v17)) (by decide) 1 (by decide) (Nat.le_of_ble_eq_true rfl) (hb hby at_99) (pc' := 100) rfl
  have V_bw22_w25 := V_bw22_w24.other Ww25 ne_bw22_bw21
  have Zw25 : n0 ≤ hw25.size := Nat.le_trans Zw24 (Nat.le_of_eq Ww25.size.symm)
  have KKw25 := KKw24.wr Ww25 (Or.inr sz_bw21)
  have V_bw21_w25 : Arv Z hw25 bw21 kw21 .double (2 : Int32) [(.double (FP.i2d w2_v6)), (.double (FP.i2d w2_v17))] (.double 0) := Vw25
  have Nw25 := Fr.snoc Xw25 Nw24 g_bw21
  obtain ⟨Tw26, hw26, Xw26, ew26, Ww26, Vw26, stw26⟩ := own_stD (L := #[.val (.int p0), .val (.long p1), .second, .val (.long p2), .second, .val (.long p3), .second, .val (.int (2 : Int32)), .val (.int w2_v6), .val (.int w2_v13), .val (.int w2_v17), .val (.int w2_v24), .val (.int w2_v29), .val (.int w2_v37), .val (.ref bw21), .val (.ref bw22), .val (.long w2_v84), .second, .unset, .unset]) (S := []) Xw25 hx hZ ew25 V_bw22_w25 (j := (1 : Int32)) (x := (FP.i2d w2_v24)) (by decide) 1 (by decide) (Nat.le_of_ble_eq_true rfl) (hb hby at_106) (pc' := 107) rfl
  have V_bw21_w26 := V_bw21_w25.other Ww26 ne_bw21_bw22
  have Zw26 : n0 ≤ hw26.size := Nat.le_trans Zw25 (Nat.le_of_eq Ww26.size.symm)
  have KKw26 := KKw25.wr Ww26 (Or.inr sz_bw22)
  have V_bw22_w26 : Arv Z hw26 bw22 kw22 .double (2 : Int32) [(.double (FP.i2d w2_v13)), (.double (FP.i2d w2_v24))] (.double 0) := Vw26
  have Nw26 := Fr.snoc Xw26 Nw25 g_bw22
  obtain ⟨_, _, ⟨Tw27, Lw27, kw27, nw27⟩, -, Xw27, ⟨Lcw27, hQw27, lw27, yw27, zw27⟩, stw27⟩ := Jvm.LawKit.callS Xw26 hx (y := (⟨"com/example/thicket/thicket/core/Box", "margin", "([D[D)D"⟩ : MethodName)) hown (mvT hZ (hw _ (List.mem_of_getElem? (i := 1) rfl))) (mvT hZ (hw _ (List.mem_of_getElem? (i := 2) rfl))) (mvT hZ (hw _ (List.mem_of_getElem? (i := 3) rfl))) (mvT hZ (hw _ (List.mem_of_getElem? (i := 4) rfl))) (by decide) (backOf (W := 0) (own_rm_c2 l Z a0 hw [] bw21 (FP.i2d w2_v6) (FP.i2d w2_v17) bw22 (FP.i2d w2_v13) (FP.i2d w2_v24) hw26 n0 Zw26 V_bw21_w26 V_bw22_w26 w2_c155_c2_hn21 w2_c155_c2_hv21 w2_c155_c2_hn22 w2_c155_c2_hv22 w2_c155_c2_hn21_2 w2_c155_c2_hv21_2 w2_c155_c2_hn22_2 w2_c155_c2_hv22_2) hZ (hw _ (List.mem_of_getElem? (i := 4) rfl)) (hw _ (List.mem_of_getElem? (i := 3) rfl)) (by decide) (by decide)) (g := (mkF m 155 #[.val (.int p0), .val (.long p1), .second, .val (.long p2), .second, .val (.long p3), .second, .val (.int (2 : Int32)), .val (.int w2_v6), .val (.int w2_v13), .val (.int w2_v17), .val (.int w2_v24), .val (.int w2_v29), .val (.int w2_v37), .val (.ref bw21), .val (.ref bw22), .val (.long w2_v116), .second, .unset, .unset] [(.ref bw22), (.ref bw21)])) rfl (by rw [hml]; rfl) (argsL := [(.ref bw21), (.ref bw22)]) (rest := []) (lenOf own_pd_285bD5bD29D rfl) rfl (by show 2 * 0 + _ ≤ _; exact Nat.le_of_eq rfl) (hb hby at_155) (fun _ _ => ⟨rfl, ew26, (by decide : 2 + 0 ≤ _), (by decide : 4 + 0 ≤ _)⟩)
  dsimp only [Pt.U, Pt.locs, Pt.cells, Pt.slots] at Xw27 lw27 yw27 zw27 stw27 hQw27
  subst lw27 yw27 zw27
  obtain ⟨rfl, Nw27q, ew27⟩ := hQw27
  have Nw27 := Fr.app Nw26 Nw27q
  obtain ⟨fs, hr, hrun, hended, hW, hsame⟩ := Xw27.leave (v := some (.int (1 : Int32))) (fun h => by rw [Bd.returns] at h; cases h)
  refine ⟨_, _, pre0 _ ?_, hrun, hended, _, _, rfl, ?_, ⟨_, rfl⟩, hW, hsame.mono (by decide) (by decide)⟩
  · refine own_s_iloadN X0.here hx (hb hby at_0) (pc' := 1) rfl rfl ?_
    refine own_s_iconst X0.here hx (hb hby at_1) (pc' := 2) rfl (v := (3 : Int32)) (by decide) ?_
    refine own_s_iand X0.here hx (hb hby at_2) (pc' := 3) rfl (v := (2 : Int32)) w2_hv2 ?_
    refine own_s_istore X0.here hx (hb hby at_3) (pc' := 5) rfl (L' := #[.val (.int p0), .val (.long p1), .second, .val (.long p2), .second, .val (.long p3), .second, .val (.int (2 : Int32)), .unset, .unset, .unset, .unset, .unset, .unset, .unset, .unset, .unset, .unset, .unset, .unset]) rfl ?_
    refine own_s_lloadN X0.here hx (hb hby at_5) (pc' := 6) rfl rfl ?_
    refine own_s_l2i X0.here hx (hb hby at_6) (pc' := 7) rfl (v := w2_v6) w2_hv6 ?_
    refine own_s_istore X0.here hx (hb hby at_7) (pc' := 9) rfl (L' := #[.val (.int p0), .val (.long p1), .second, .val (.long p2), .second, .val (.long p3), .second, .val (.int (2 : Int32)), .val (.int w2_v6), .unset, .unset, .unset, .unset, .unset, .unset, .unset, .unset, .unset, .unset, .unset]) rfl ?_
    refine own_s_lloadN X0.here hx (hb hby at_9) (pc' := 10) rfl rfl ?_
    refine own_s_bipush X0.here hx (hb hby at_10) (pc' := 12) rfl (v := (32 : Int32)) (by decide) ?_
    refine own_s_lushr X0.here hx (hb hby at_12) (pc' := 13) rfl (v := w2_v12) w2_hv12 ?_
    refine own_s_l2i X0.here hx (hb hby at_13) (pc' := 14) rfl (v := w2_v13) w2_hv13 ?_
    refine own_s_istore X0.here hx (hb hby at_14) (pc' := 16) rfl (L' := #[.val (.int p0), .val (.long p1), .second, .val (.long p2), .second, .val (.long p3), .second, .val (.int (2 : Int32)), .val (.int w2_v6), .val (.int w2_v13), .unset, .unset, .unset, .unset, .unset, .unset, .unset, .unset, .unset, .unset]) rfl ?_
    refine own_s_lloadN X0.here hx (hb hby at_16) (pc' := 17) rfl rfl ?_
    refine own_s_l2i X0.here hx (hb hby at_17) (pc' := 18) rfl (v := w2_v17) w2_hv17 ?_
    refine own_s_istore X0.here hx (hb hby at_18) (pc' := 20) rfl (L' := #[.val (.int p0), .val (.long p1), .second, .val (.long p2), .second, .val (.long p3), .second, .val (.int (2 : Int32)), .val (.int w2_v6), .val (.int w2_v13), .val (.int w2_v17), .unset, .unset, .unset, .unset, .unset, .unset, .unset, .unset, .unset]) rfl ?_
    refine own_s_lloadN X0.here hx (hb hby at_20) (pc' := 21) rfl rfl ?_
    refine own_s_bipush X0.here hx (hb hby at_21) (pc' := 23) rfl (v := (32 : Int32)) (by decide) ?_
    refine own_s_lushr X0.here hx (hb hby at_23) (pc' := 24) rfl (v := w2_v23) w2_hv23 ?_
    refine own_s_l2i X0.here hx (hb hby at_24) (pc' := 25) rfl (v := w2_v24) w2_hv24 ?_
    refine own_s_istore X0.here hx (hb hby at_25) (pc' := 27) rfl (L' := #[.val (.int p0), .val (.long p1), .second, .val (.long p2), .second, .val (.long p3), .second, .val (.int (2 : Int32)), .val (.int w2_v6), .val (.int w2_v13), .val (.int w2_v17), .val (.int w2_v24), .unset, .unset, .unset, .unset, .unset, .unset, .unset, .unset]) rfl ?_
    refine own_s_lload X0.here hx (hb hby at_27) (pc' := 29) rfl rfl ?_
    refine own_s_l2i X0.here hx (hb hby at_29) (pc' := 30) rfl (v := w2_v29) w2_hv29 ?_
    refine own_s_istore X0.here hx (hb hby at_30) (pc' := 32) rfl (L' := #[.val (.int p0), .val (.long p1), .second, .val (.long p2), .second, .val (.long p3), .second, .val (.int (2 : Int32)), .val (.int w2_v6), .val (.int w2_v13), .val (.int w2_v17), .val (.int w2_v24), .val (.int w2_v29), .unset, .unset, .unset, .unset, .unset, .unset, .unset]) rfl ?_
    refine own_s_lload X0.here hx (hb hby at_32) (pc' := 34) rfl rfl ?_
    refine own_s_bipush X0.here hx (hb hby at_34) (pc' := 36) rfl (v := (32 : Int32)) (by decide) ?_
    refine own_s_lushr X0.here hx (hb hby at_36) (pc' := 37) rfl (v := w2_v36) w2_hv36 ?_
    refine own_s_l2i X0.here hx (hb hby at_37) (pc' := 38) rfl (v := w2_v37) w2_hv37 ?_
    refine own_s_istore X0.here hx (hb hby at_38) (pc' := 40) rfl (L' := #[.val (.int p0), .val (.long p1), .second, .val (.long p2), .second, .val (.long p3), .second, .val (.int (2 : Int32)), .val (.int w2_v6), .val (.int w2_v13), .val (.int w2_v17), .val (.int w2_v24), .val (.int w2_v29), .val (.int w2_v37), .unset, .unset, .unset, .unset, .unset, .unset]) rfl ?_
    refine own_s_iload X0.here hx (hb hby at_40) (pc' := 42) rfl rfl ?_
    refine stw21 _ ?_
    refine own_s_astore Xw21.here hx (hb hby at_44) (pc' := 46) rfl rfl (L' := #[.val (.int p0), .val (.long p1), .second, .val (.long p2), .second, .val (.long p3), .second, .val (.int (2 : Int32)), .val (.int w2_v6), .val (.int w2_v13), .val (.int w2_v17), .val (.int w2_v24), .val (.int w2_v29), .val (.int w2_v37), .val (.ref bw21), .unset, .unset, .unset, .unset, .unset]) rfl ?_
    refine own_s_iload Xw21.here hx (hb hby at_46) (pc' := 48) rfl rfl ?_
    refine stw22 _ ?_
    refine own_s_astore Xw22.here hx (hb hby at_50) (pc' := 52) rfl rfl (L' := #[.val (.int p0), .val (.long p1), .second, .val (.long p2), .second, .val (.long p3), .second, .val (.int (2 : Int32)), .val (.int w2_v6), .val (.int w2_v13), .val (.int w2_v17), .val (.int w2_v24), .val (.int w2_v29), .val (.int w2_v37), .val (.ref bw21), .val (.ref bw22), .unset, .unset, .unset, .unset]) rfl ?_
    refine own_s_lconst Xw22.here hx (hb hby at_52) (pc' := 53) rfl (v := (0 : Int64)) (by decide) ?_
    refine own_s_lstore Xw22.here hx (hb hby at_53) (pc' := 55) rfl (L' := #[.val (.int p0), .val (.long p1), .second, .val (.long p2), .second, .val (.long p3), .second, .val (.int (2 : Int32)), .val (.int w2_v6), .val (.int w2_v13), .val (.int w2_v17), .val (.int w2_v24), .val (.int w2_v29), .val (.int w2_v37), .val (.ref bw21), .val (.ref bw22), .val (.long (0 : Int64)), .second, .unset, .unset]) rfl ?_
    refine own_s_iload Xw22.here hx (hb hby at_55) (pc' := 57) rfl rfl ?_
    refine own_s_iconst Xw22.here hx (hb hby at_57) (pc' := 58) rfl (v := (1 : Int32)) (by decide) ?_
    refine own_s_icmpNo Xw22.here hx (hb hby at_58) (pc' := 61) rfl (by decide) ?_
    refine own_s_aload Xw22.here hx (hb hby at_61) (pc' := 63) rfl rfl rfl ?_
    refine own_s_iconst Xw22.here hx (hb hby at_63) (pc' := 64) rfl (v := (0 : Int32)) (by decide) ?_
    refine own_s_iload Xw22.here hx (hb hby at_64) (pc' := 66) rfl rfl ?_
    refine own_s_i2d Xw22.here hx (hb hby at_66) (pc' := 67) rfl (v := (FP.i2d w2_v6)) rfl ?_
    refine stw23 _ ?_
    refine own_s_aload Xw23.here hx (hb hby at_68) (pc' := 70) rfl rfl rfl ?_
    refine own_s_iconst Xw23.here hx (hb hby at_70) (pc' := 71) rfl (v := (0 : Int32)) (by decide) ?_
    refine own_s_iload Xw23.here hx (hb hby at_71) (pc' := 73) rfl rfl ?_
    refine own_s_i2d Xw23.here hx (hb hby at_73) (pc' := 74) rfl (v := (FP.i2d w2_v13)) rfl ?_
    refine stw24 _ ?_
    refine own_s_lload Xw24.here hx (hb hby at_75) (pc' := 77) rfl rfl ?_
    refine own_s_iload Xw24.here hx (hb hby at_77) (pc' := 79) rfl rfl ?_
    refine own_s_i2l Xw24.here hx (hb hby at_79) (pc' := 80) rfl (v := w2_v79) w2_hv79 ?_
    refine own_s_iload Xw24.here hx (hb hby at_80) (pc' := 82) rfl rfl ?_
    refine own_s_i2l Xw24.here hx (hb hby at_82) (pc' := 83) rfl (v := w2_v82) w2_hv82 ?_
    refine own_s_lsub Xw24.here hx (hb hby at_83) (pc' := 84) rfl (v := w2_v83) w2_hv83 ?_
    refine own_s_ladd Xw24.here hx (hb hby at_84) (pc' := 85) rfl (v := w2_v84) w2_hv84 ?_
    refine own_s_lstore Xw24.here hx (hb hby at_85) (pc' := 87) rfl (L' := #[.val (.int p0), .val (.long p1), .second, .val (.long p2), .second, .val (.long p3), .second, .val (.int (2 : Int32)), .val (.int w2_v6), .val (.int w2_v13), .val (.int w2_v17), .val (.int w2_v24), .val (.int w2_v29), .val (.int w2_v37), .val (.ref bw21), .val (.ref bw22), .val (.long w2_v84), .second, .unset, .unset]) rfl ?_
    refine own_s_iload Xw24.here hx (hb hby at_87) (pc' := 89) rfl rfl ?_
    refine own_s_iconst Xw24.here hx (hb hby at_89) (pc' := 90) rfl (v := (2 : Int32)) (by decide) ?_
    refine own_s_icmpNo Xw24.here hx (hb hby at_90) (pc' := 93) rfl (by decide) ?_
    refine own_s_aload Xw24.here hx (hb hby at_93) (pc' := 95) rfl rfl rfl ?_
    refine own_s_iconst Xw24.here hx (hb hby at_95) (pc' := 96) rfl (v := (1 : Int32)) (by decide) ?_
    refine own_s_iload Xw24.here hx (hb hby at_96) (pc' := 98) rfl rfl ?_
    refine own_s_i2d Xw24.here hx (hb hby at_98) (pc' := 99) rfl (v := (FP.i2d w2_v17)) rfl ?_
    refine stw25 _ ?_
    refine own_s_aload Xw25.here hx (hb hby at_100) (pc' := 102) rfl rfl rfl ?_
    refine own_s_iconst Xw25.here hx (hb hby at_102) (pc' := 103) rfl (v := (1 : Int32)) (by decide) ?_
    refine own_s_iload Xw25.here hx (hb hby at_103) (pc' := 105) rfl rfl ?_
    refine own_s_i2d Xw25.here hx (hb hby at_105) (pc' := 106) rfl (v := (FP.i2d w2_v24)) rfl ?_
    refine stw26 _ ?_
    refine own_s_lload Xw26.here hx (hb hby at_107) (pc' := 109) rfl rfl ?_
    refine own_s_iload Xw26.here hx (hb hby at_109) (pc' := 111) rfl rfl ?_
    refine own_s_i2l Xw26.here hx (hb hby at_111) (pc' := 112) rfl (v := w2_v111) w2_hv111 ?_
    refine own_s_iload Xw26.here hx (hb hby at_112) (pc' := 114) rfl rfl ?_
    refine own_s_i2l Xw26.here hx (hb hby at_114) (pc' := 115) rfl (v := w2_v114) w2_hv114 ?_
    refine own_s_lsub Xw26.here hx (hb hby at_115) (pc' := 116) rfl (v := w2_v115) w2_hv115 ?_
    refine own_s_ladd Xw26.here hx (hb hby at_116) (pc' := 117) rfl (v := w2_v116) w2_hv116 ?_
    refine own_s_lstore Xw26.here hx (hb hby at_117) (pc' := 119) rfl (L' := #[.val (.int p0), .val (.long p1), .second, .val (.long p2), .second, .val (.long p3), .second, .val (.int (2 : Int32)), .val (.int w2_v6), .val (.int w2_v13), .val (.int w2_v17), .val (.int w2_v24), .val (.int w2_v29), .val (.int w2_v37), .val (.ref bw21), .val (.ref bw22), .val (.long w2_v116), .second, .unset, .unset]) rfl ?_
    refine own_s_iload Xw26.here hx (hb hby at_119) (pc' := 121) rfl rfl ?_
    refine own_s_iconst Xw26.here hx (hb hby at_121) (pc' := 122) rfl (v := (3 : Int32)) (by decide) ?_
    refine own_s_icmpYes Xw26.here hx (hb hby at_122) (by decide) (pc' := 151) (by decide) (by decide) ?_
    refine own_s_aload Xw26.here hx (hb hby at_151) (pc' := 153) rfl rfl rfl ?_
    refine own_s_aload Xw26.here hx (hb hby at_153) (pc' := 155) rfl rfl rfl ?_
    refine stw27 _ ?_
    show Steps p.tables e below (Tw27.setTop (mkF m 158 #[.val (.int p0), .val (.long p1), .second, .val (.long p2), .second, .val (.long p3), .second, .val (.int (2 : Int32)), .val (.int w2_v6), .val (.int w2_v13), .val (.int w2_v17), .val (.int w2_v24), .val (.int w2_v29), .val (.int w2_v37), .val (.ref bw21), .val (.ref bw22), .val (.long w2_v116), .second, .unset, .unset] [(.double w2_c155_c2_v22_2)])) _
    refine own_s_dstore Xw27.here hx (hb hby at_158) (pc' := 160) rfl (L' := #[.val (.int p0), .val (.long p1), .second, .val (.long p2), .second, .val (.long p3), .second, .val (.int (2 : Int32)), .val (.int w2_v6), .val (.int w2_v13), .val (.int w2_v17), .val (.int w2_v24), .val (.int w2_v29), .val (.int w2_v37), .val (.ref bw21), .val (.ref bw22), .val (.long w2_v116), .second, .val (.double w2_c155_c2_v22_2), .second]) rfl ?_
    refine own_s_dload Xw27.here hx (hb hby at_160) (pc' := 162) rfl rfl ?_
    refine own_s_lload Xw27.here hx (hb hby at_162) (pc' := 164) rfl rfl ?_
    refine own_s_l2d Xw27.here hx (hb hby at_164) (pc' := 165) rfl (v := (FP.l2d w2_v116)) rfl ?_
    refine own_s_dcmp Xw27.here hx (hb hby at_165) (pc' := 166) rfl (v := (0 : Int32)) w2_hc165 ?_
    refine own_s_ifNo Xw27.here hx (hb hby at_166) (pc' := 169) rfl (by decide) ?_
    refine own_s_iconst Xw27.here hx (hb hby at_169) (pc' := 170) rfl (v := (1 : Int32)) (by decide) ?_
    refine own_s_goto Xw27.here hx (hb hby at_170) (by decide) (pc' := 174) (by decide) ?_
    exact retN Xw27 hx (t := .boolean) Bd.returns (by simp) (hb hby at_174) hr
  · show own_Q0 n0 _ Tw27.heap _
    rw [ew27]
    exact ⟨rfl, Nw27⟩
theorem own_ef_c3 (m : MethodId) (qa : Addr) (qb : Addr) : entryFrame m #[(.ref qa), (.ref qb)] 5 = mkF m 0 #[.val (.ref qa), .val (.ref qb), .unset, .unset, .unset] [] := by first | (simp [entryFrame, mkF, argsToLocals, Value.category]; done) | rfl
set_option maxRecDepth 65536 in
set_option maxHeartbeats 40000000 in
theorem own_rm_c3 (l : Launch) (Z : State) (a0 : Array Value) (hw : ∀ d ∈ tables_1, d.before a0 Z = true) (ws : List Jvm.Cond) (qa : Addr) (d0 : UInt64) (d1 : UInt64) (d2 : UInt64) (qb : Addr) (ee0 : UInt64) (ee1 : UInt64) (ee2 : UInt64) {qak : ClassId} {qbk : ClassId} {c3_v21 : UInt64} {c3_v22 : UInt64} {c3_v21_2 : UInt64} {c3_v22_2 : UInt64} {c3_v21_3 : UInt64} {c3_v22_3 : UInt64} (h0 : Heap) (n0 : Nat) (Z0 : n0 ≤ h0.size) (V_qa : Arv Z h0 qa qak .double (3 : Int32) [(.double d0), (.double d1), (.double d2)] (.double 0)) (V_qb : Arv Z h0 qb qbk .double (3 : Int32) [(.double ee0), (.double ee1), (.double ee2)] (.double 0)) (c3_hn21 : Jvm.Free.Fl.NoNaN64 (FP.dsub ee0 d0)) (c3_hv21 : FP.dsub ee0 d0 = c3_v21) (c3_hn22 : Jvm.Free.Fl.NoNaN64 (FP.dadd 0 c3_v21)) (c3_hv22 : FP.dadd 0 c3_v21 = c3_v22) (c3_hn21_2 : Jvm.Free.Fl.NoNaN64 (FP.dsub ee1 d1)) (c3_hv21_2 : FP.dsub ee1 d1 = c3_v21_2) (c3_hn22_2 : Jvm.Free.Fl.NoNaN64 (FP.dadd c3_v22 c3_v21_2)) (c3_hv22_2 : FP.dadd c3_v22 c3_v21_2 = c3_v22_2) (c3_hn21_3 : Jvm.Free.Fl.NoNaN64 (FP.dsub ee2 d2)) (c3_hv21_3 : FP.dsub ee2 d2 = c3_v21_3) (c3_hn22_3 : Jvm.Free.Fl.NoNaN64 (FP.dadd c3_v22_2 c3_v21_3)) (c3_hv22_3 : FP.dadd c3_v22_2 c3_v21_3 = c3_v22_3) :
    MetFree l (⟨"com/example/thicket/thicket/core/Box", "margin", "([D[D)D"⟩ : MethodName) (head1 (Jvm.Cond.code (⟨"com/example/thicket/thicket/core/Box", "margin", "([D[D)D"⟩ : MethodName) prog_2_method_9_code 5 (some .double) :: ws) ({ frames := 0, cells := 0, slots := 0, locals := 0 } : Room)) (fun a U => a = #[(.ref qa), (.ref qb)] ∧ Z.Warmed39 U.vm ∧ U.heap = h0) (fun _ _ _ _ _ => True) (fun _ U o U' => ∃ v L, o = .returned v ∧ own_QP (some (.double c3_v22_3)) h0 n0 v U'.heap L ∧ FrameEnd U o U' L ({ frames := 0, cells := 0, slots := 0, locals := 0 } : Room).cells ({ frames := 0, cells := 0, slots := 0, locals := 0 } : Room).slots) := by
  refine MetFree.of_bodySF (plainFor_of_name own_pn_com_example_thicket_thicket_core_Box) hisR ?_
  intro p e s m args below meth c s₁ Bd hml0 hP hK
  obtain ⟨rfl, hZ, hh⟩ := hP
  have hx := Bd.exec
  have hby := Bd.bytes
  have hml : c.maxLocals = 5 := hml0
  have hown : s.vm.findClass "com/example/thicket/thicket/core/Box" = some m.cls := findClass_of_methodNamed Bd.named
  have hnm := (name_of_methodNamed Bd.named Bd.method).1
  have X0 : Stand p l e ({ frames := 0, cells := 0, slots := 0, locals := 0 } : Room) s m #[(.ref qa), (.ref qb)] below meth c s₁ [] 0 0 := Stand.of_body Bd
  have e0 : s₁.heap = h0 := by rw [← hh, Bd.state]; rfl
  have N0 := Fr.nil n0
  have pre0 : ∀ t, Steps p.tables e below (s₁.setTop (mkF m 0 #[.val (.ref qa), .val (.ref qb), .unset, .unset, .unset] [])) t → Steps p.tables e below (s₁.setTop (entryFrame m #[(.ref qa), (.ref qb)] 5)) t := fun t k => castTop (own_ef_c3 m qa qb) k
  obtain ⟨fs, hr, hrun, hended, hW, hsame⟩ := X0.leave (v := some (.double c3_v22_3)) (fun h => by rw [Bd.returns] at h; cases h)
  refine ⟨_, _, pre0 _ ?_, hrun, hended, _, _, rfl, ?_, ⟨_, rfl⟩, hW, hsame.mono (by decide) (by decide)⟩
  · refine own_s_dconst0 X0.here hx (hb hby own_d1_0) (pc' := 1) rfl  ?_
    refine own_s_dstoreN X0.here hx (hb hby own_d1_1) (pc' := 2) rfl (L' := #[.val (.ref qa), .val (.ref qb), .val (.double 0), .second, .unset]) rfl ?_
    refine own_s_iconst X0.here hx (hb hby own_d1_2) (pc' := 3) rfl (v := (0 : Int32)) (by decide) ?_
    refine own_s_istore X0.here hx (hb hby own_d1_3) (pc' := 5) rfl (L' := #[.val (.ref qa), .val (.ref qb), .val (.double 0), .second, .val (.int (0 : Int32))]) rfl ?_
    refine own_s_iload X0.here hx (hb hby own_d1_5) (pc' := 7) rfl rfl ?_
    refine own_s_aloadN X0.here hx (hb hby own_d1_7) (pc' := 8) rfl rfl rfl ?_
    refine own_len X0 hx hZ e0 V_qa (hb hby own_d1_8) (pc' := 9) rfl ?_
    refine own_s_icmpNo X0.here hx (hb hby own_d1_9) (pc' := 12) rfl (by decide) ?_
    refine own_s_dloadN X0.here hx (hb hby own_d1_12) (pc' := 13) rfl rfl ?_
    refine own_s_aloadN X0.here hx (hb hby own_d1_13) (pc' := 14) rfl rfl rfl ?_
    refine own_s_iload X0.here hx (hb hby own_d1_14) (pc' := 16) rfl rfl ?_
    refine own_ldD X0 hx hZ e0 V_qb (j := (0 : Int32)) (x := ee0) (by decide) rfl (hb hby own_d1_16) (pc' := 17) rfl ?_
    refine own_s_aloadN X0.here hx (hb hby own_d1_17) (pc' := 18) rfl rfl rfl ?_
    refine own_s_iload X0.here hx (hb hby own_d1_18) (pc' := 20) rfl rfl ?_
    refine own_ldD X0 hx hZ e0 V_qa (j := (0 : Int32)) (x := d0) (by decide) rfl (hb hby own_d1_20) (pc' := 21) rfl ?_
    refine own_s_dsub X0.here hx (hb hby own_d1_21) (pc' := 22) rfl c3_hn21 (v := c3_v21) c3_hv21 ?_
    refine own_s_dadd X0.here hx (hb hby own_d1_22) (pc' := 23) rfl c3_hn22 (v := c3_v22) c3_hv22 ?_
    refine own_s_dstoreN X0.here hx (hb hby own_d1_23) (pc' := 24) rfl (L' := #[.val (.ref qa), .val (.ref qb), .val (.double c3_v22), .second, .val (.int (0 : Int32))]) rfl ?_
    refine own_s_iinc X0.here hx (hb hby own_d1_24) (pc' := 27) rfl rfl (v := (1 : Int32)) (by decide) (L' := #[.val (.ref qa), .val (.ref qb), .val (.double c3_v22), .second, .val (.int (1 : Int32))]) rfl ?_
    refine own_s_goto X0.here hx (hb hby own_d1_27) (by decide) (pc' := 5) (by decide) ?_
    refine own_s_iload X0.here hx (hb hby own_d1_5) (pc' := 7) rfl rfl ?_
    refine own_s_aloadN X0.here hx (hb hby own_d1_7) (pc' := 8) rfl rfl rfl ?_
    refine own_len X0 hx hZ e0 V_qa (hb hby own_d1_8) (pc' := 9) rfl ?_
    refine own_s_icmpNo X0.here hx (hb hby own_d1_9) (pc' := 12) rfl (by decide) ?_
    refine own_s_dloadN X0.here hx (hb hby own_d1_12) (pc' := 13) rfl rfl ?_
    refine own_s_aloadN X0.here hx (hb hby own_d1_13) (pc' := 14) rfl rfl rfl ?_
    refine own_s_iload X0.here hx (hb hby own_d1_14) (pc' := 16) rfl rfl ?_
    refine own_ldD X0 hx hZ e0 V_qb (j := (1 : Int32)) (x := ee1) (by decide) rfl (hb hby own_d1_16) (pc' := 17) rfl ?_
    refine own_s_aloadN X0.here hx (hb hby own_d1_17) (pc' := 18) rfl rfl rfl ?_
    refine own_s_iload X0.here hx (hb hby own_d1_18) (pc' := 20) rfl rfl ?_
    refine own_ldD X0 hx hZ e0 V_qa (j := (1 : Int32)) (x := d1) (by decide) rfl (hb hby own_d1_20) (pc' := 21) rfl ?_
    refine own_s_dsub X0.here hx (hb hby own_d1_21) (pc' := 22) rfl c3_hn21_2 (v := c3_v21_2) c3_hv21_2 ?_
    refine own_s_dadd X0.here hx (hb hby own_d1_22) (pc' := 23) rfl c3_hn22_2 (v := c3_v22_2) c3_hv22_2 ?_
    refine own_s_dstoreN X0.here hx (hb hby own_d1_23) (pc' := 24) rfl (L' := #[.val (.ref qa), .val (.ref qb), .val (.double c3_v22_2), .second, .val (.int (1 : Int32))]) rfl ?_
    refine own_s_iinc X0.here hx (hb hby own_d1_24) (pc' := 27) rfl rfl (v := (2 : Int32)) (by decide) (L' := #[.val (.ref qa), .val (.ref qb), .val (.double c3_v22_2), .second, .val (.int (2 : Int32))]) rfl ?_
    refine own_s_goto X0.here hx (hb hby own_d1_27) (by decide) (pc' := 5) (by decide) ?_
    refine own_s_iload X0.here hx (hb hby own_d1_5) (pc' := 7) rfl rfl ?_
    refine own_s_aloadN X0.here hx (hb hby own_d1_7) (pc' := 8) rfl rfl rfl ?_
    refine own_len X0 hx hZ e0 V_qa (hb hby own_d1_8) (pc' := 9) rfl ?_
    refine own_s_icmpNo X0.here hx (hb hby own_d1_9) (pc' := 12) rfl (by decide) ?_
    refine own_s_dloadN X0.here hx (hb hby own_d1_12) (pc' := 13) rfl rfl ?_
    refine own_s_aloadN X0.here hx (hb hby own_d1_13) (pc' := 14) rfl rfl rfl ?_
    refine own_s_iload X0.here hx (hb hby own_d1_14) (pc' := 16) rfl rfl ?_
    refine own_ldD X0 hx hZ e0 V_qb (j := (2 : Int32)) (x := ee2) (by decide) rfl (hb hby own_d1_16) (pc' := 17) rfl ?_
    refine own_s_aloadN X0.here hx (hb hby own_d1_17) (pc' := 18) rfl rfl rfl ?_
    refine own_s_iload X0.here hx (hb hby own_d1_18) (pc' := 20) rfl rfl ?_
    refine own_ldD X0 hx hZ e0 V_qa (j := (2 : Int32)) (x := d2) (by decide) rfl (hb hby own_d1_20) (pc' := 21) rfl ?_
    refine own_s_dsub X0.here hx (hb hby own_d1_21) (pc' := 22) rfl c3_hn21_3 (v := c3_v21_3) c3_hv21_3 ?_
    refine own_s_dadd X0.here hx (hb hby own_d1_22) (pc' := 23) rfl c3_hn22_3 (v := c3_v22_3) c3_hv22_3 ?_
    refine own_s_dstoreN X0.here hx (hb hby own_d1_23) (pc' := 24) rfl (L' := #[.val (.ref qa), .val (.ref qb), .val (.double c3_v22_3), .second, .val (.int (2 : Int32))]) rfl ?_
    refine own_s_iinc X0.here hx (hb hby own_d1_24) (pc' := 27) rfl rfl (v := (3 : Int32)) (by decide) (L' := #[.val (.ref qa), .val (.ref qb), .val (.double c3_v22_3), .second, .val (.int (3 : Int32))]) rfl ?_
    refine own_s_goto X0.here hx (hb hby own_d1_27) (by decide) (pc' := 5) (by decide) ?_
    refine own_s_iload X0.here hx (hb hby own_d1_5) (pc' := 7) rfl rfl ?_
    refine own_s_aloadN X0.here hx (hb hby own_d1_7) (pc' := 8) rfl rfl rfl ?_
    refine own_len X0 hx hZ e0 V_qa (hb hby own_d1_8) (pc' := 9) rfl ?_
    refine own_s_icmpYes X0.here hx (hb hby own_d1_9) (by decide) (pc' := 30) (by decide) (by decide) ?_
    refine own_s_dloadN X0.here hx (hb hby own_d1_30) (pc' := 31) rfl rfl ?_
    exact own_retD X0 hx Bd.returns (hb hby own_d1_31) hr
  · show own_QP (some (.double c3_v22_3)) h0 n0 _ s₁.heap _
    rw [e0]
    exact ⟨rfl, N0, rfl⟩
theorem own_ef_w3 (m : MethodId) (p0 : Int32) (p1 : Int64) (p2 : Int64) (p3 : Int64) : entryFrame m #[(.int p0), (.long p1), (.long p2), (.long p3)] maxLocals = mkF m 0 #[.val (.int p0), .val (.long p1), .second, .val (.long p2), .second, .val (.long p3), .second, .unset, .unset, .unset, .unset, .unset, .unset, .unset, .unset, .unset, .unset, .unset, .unset, .unset] [] := by first | (simp [entryFrame, mkF, argsToLocals, Value.category, maxLocals]; done) | rfl
set_option maxRecDepth 65536 in
set_option maxHeartbeats 40000000 in
theorem own_rm_w3 (l : Launch) (Z : State) (a0 : Array Value) (hw : ∀ d ∈ tables_1, d.before a0 Z = true) (ws : List Jvm.Cond) (p0 : Int32) (p1 : Int64) (p2 : Int64) (p3 : Int64) {w3_v6 : Int32} {w3_v12 : Int64} {w3_v13 : Int32} {w3_v17 : Int32} {w3_v23 : Int64} {w3_v24 : Int32} {w3_v29 : Int32} {w3_v36 : Int64} {w3_v37 : Int32} {w3_v79 : Int64} {w3_v82 : Int64} {w3_v83 : Int64} {w3_v84 : Int64} {w3_v111 : Int64} {w3_v114 : Int64} {w3_v115 : Int64} {w3_v116 : Int64} {w3_v143 : Int64} {w3_v146 : Int64} {w3_v147 : Int64} {w3_v148 : Int64} {w3_c155_c3_v21 : UInt64} {w3_c155_c3_v22 : UInt64} {w3_c155_c3_v21_2 : UInt64} {w3_c155_c3_v22_2 : UInt64} {w3_c155_c3_v21_3 : UInt64} {w3_c155_c3_v22_3 : UInt64} (h0 : Heap) (n0 : Nat) (Z0 : n0 ≤ h0.size)  (w3_hv2 : p0 &&& (3 : Int32) = (3 : Int32)) (w3_hv6 : Int64.toInt32 p1 = w3_v6) (w3_hv12 : (Int64.toUInt64 p1 >>> ((32 : Int32) &&& 63).toInt64.toUInt64).toInt64 = w3_v12) (w3_hv13 : Int64.toInt32 w3_v12 = w3_v13) (w3_hv17 : Int64.toInt32 p2 = w3_v17) (w3_hv23 : (Int64.toUInt64 p2 >>> ((32 : Int32) &&& 63).toInt64.toUInt64).toInt64 = w3_v23) (w3_hv24 : Int64.toInt32 w3_v23 = w3_v24) (w3_hv29 : Int64.toInt32 p3 = w3_v29) (w3_hv36 : (Int64.toUInt64 p3 >>> ((32 : Int32) &&& 63).toInt64.toUInt64).toInt64 = w3_v36) (w3_hv37 : Int64.toInt32 w3_v36 = w3_v37) (w3_hv79 : Int32.toInt64 w3_v13 = w3_v79) (w3_hv82 : Int32.toInt64 w3_v6 = w3_v82) (w3_hv83 : w3_v79 - w3_v82 = w3_v83) (w3_hv84 : (0 : Int64) + w3_v83 = w3_v84) (w3_hv111 : Int32.toInt64 w3_v24 = w3_v111) (w3_hv114 : Int32.toInt64 w3_v17 = w3_v114) (w3_hv115 : w3_v111 - w3_v114 = w3_v115) (w3_hv116 : w3_v84 + w3_v115 = w3_v116) (w3_hv143 : Int32.toInt64 w3_v37 = w3_v143) (w3_hv146 : Int32.toInt64 w3_v29 = w3_v146) (w3_hv147 : w3_v143 - w3_v146 = w3_v147) (w3_hv148 : w3_v116 + w3_v147 = w3_v148) (w3_c155_c3_hn21 : Jvm.Free.Fl.NoNaN64 (FP.dsub (FP.i2d w3_v13) (FP.i2d w3_v6))) (w3_c155_c3_hv21 : FP.dsub (FP.i2d w3_v13) (FP.i2d w3_v6) = w3_c155_c3_v21) (w3_c155_c3_hn22 : Jvm.Free.Fl.NoNaN64 (FP.dadd 0 w3_c155_c3_v21)) (w3_c155_c3_hv22 : FP.dadd 0 w3_c155_c3_v21 = w3_c155_c3_v22) (w3_c155_c3_hn21_2 : Jvm.Free.Fl.NoNaN64 (FP.dsub (FP.i2d w3_v24) (FP.i2d w3_v17))) (w3_c155_c3_hv21_2 : FP.dsub (FP.i2d w3_v24) (FP.i2d w3_v17) = w3_c155_c3_v21_2) (w3_c155_c3_hn22_2 : Jvm.Free.Fl.NoNaN64 (FP.dadd w3_c155_c3_v22 w3_c155_c3_v21_2)) (w3_c155_c3_hv22_2 : FP.dadd w3_c155_c3_v22 w3_c155_c3_v21_2 = w3_c155_c3_v22_2) (w3_c155_c3_hn21_3 : Jvm.Free.Fl.NoNaN64 (FP.dsub (FP.i2d w3_v37) (FP.i2d w3_v29))) (w3_c155_c3_hv21_3 : FP.dsub (FP.i2d w3_v37) (FP.i2d w3_v29) = w3_c155_c3_v21_3) (w3_c155_c3_hn22_3 : Jvm.Free.Fl.NoNaN64 (FP.dadd w3_c155_c3_v22_2 w3_c155_c3_v21_3)) (w3_c155_c3_hv22_3 : FP.dadd w3_c155_c3_v22_2 w3_c155_c3_v21_3 = w3_c155_c3_v22_3) (w3_hc165 : Op.cmpValue (FP.dcmp w3_c155_c3_v22_3 (FP.l2d w3_v148)) .l = (0 : Int32)) :
    MetFree l x (head1 (Jvm.Cond.code x code maxLocals ret :: ws) room_1) (fun a U => a = #[(.int p0), (.long p1), (.long p2), (.long p3)] ∧ Z.Warmed39 U.vm ∧ U.heap = h0) (fun _ _ _ _ _ => True) (fun _ U o U' => ∃ v L, o = .returned v ∧ own_Q0 n0 v U'.heap L ∧ FrameEnd U o U' L room_1.cells room_1.slots) := by
  refine MetFree.of_bodySF (plainFor_of_name own_pn_com_example_thicket_thicket_core_BoxMarginPinLaw) hisR ?_
  intro p e s m args below meth c s₁ Bd hml0 hP hK
  obtain ⟨rfl, hZ, hh⟩ := hP
  have hx := Bd.exec
  have hby := Bd.bytes
  have hml : c.maxLocals = 20 := hml0
  have hown : s.vm.findClass "com/example/thicket/thicket/core/BoxMarginPinLaw" = some m.cls := findClass_of_methodNamed Bd.named
  have hnm := (name_of_methodNamed Bd.named Bd.method).1
  have X0 : Stand p l e room_1 s m #[(.int p0), (.long p1), (.long p2), (.long p3)] below meth c s₁ [] 0 0 := Stand.of_body Bd
  have e0 : s₁.heap = h0 := by rw [← hh, Bd.state]; rfl
  have N0 := Fr.nil n0
  have pre0 : ∀ t, Steps p.tables e below (s₁.setTop (mkF m 0 #[.val (.int p0), .val (.long p1), .second, .val (.long p2), .second, .val (.long p3), .second, .unset, .unset, .unset, .unset, .unset, .unset, .unset, .unset, .unset, .unset, .unset, .unset, .unset] [])) t → Steps p.tables e below (s₁.setTop (entryFrame m #[(.int p0), (.long p1), (.long p2), (.long p3)] maxLocals)) t := fun t k => castTop (own_ef_w3 m p0 p1 p2 p3) k
  obtain ⟨Tw31, hw31, kw31, bw31, Xw31, ew31, Ew31, Gw31, Vw31, stw31⟩ := own_newD (L := #[.val (.int p0), .val (.long p1), .second, .val (.long p2), .second, .val (.long p3), .second, .val (.int (3 : Int32)), .val (.int w3_v6), .val (.int w3_v13), .val (.int w3_v17), .val (.int w3_v24), .val (.int w3_v29), .val (.int w3_v37), .unset, .unset, .unset, .unset, .unset, .unset]) (S := []) X0 hx hZ (hw _ (List.mem_of_getElem? (i := 0) rfl)) e0 (z := (3 : Int32)) 3 (by decide) (by decide) (by decide) (by decide) (by decide) (hb hby at_42) (pc' := 44) rfl
  have g_bw31 : n0 ≤ bw31 := Nat.le_trans Z0 (Nat.le_of_eq Gw31.symm)
  have sz_bw31 : h0.size ≤ bw31 := Nat.le_trans (Keep.refl h0 []).1 (Nat.le_of_eq Gw31.symm)
  have Zw31 : n0 ≤ hw31.size := Nat.le_trans Z0 Ew31.1
  have KKw31 := (Keep.refl h0 []).ext Ew31
  have V_bw31 : Arv Z hw31 bw31 kw31 .double (3 : Int32) [(.double 0), (.double 0), (.double 0)] (.double 0) := Vw31
  obtain ⟨Tw32, hw32, kw32, bw32, Xw32, ew32, Ew32, Gw32, Vw32, stw32⟩ := own_newD (L := #[.val (.int p0), .val (.long p1), .second, .val (.long p2), .second, .val (.long p3), .second, .val (.int (3 : Int32)), .val (.int w3_v6), .val (.int w3_v13), .val (.int w3_v17), .val (.int w3_v24), .val (.int w3_v29), .val (.int w3_v37), .val (.ref bw31), .unset, .unset, .unset, .unset, .unset]) (S := []) Xw31 hx hZ (hw _ (List.mem_of_getElem? (i := 0) rfl)) ew31 (z := (3 : Int32)) 3 (by decide) (by decide) (by decide) (by decide) (by decide) (hb hby at_48) (pc' := 50) rfl
  have ne_bw31_bw32 : bw31 ≠ bw32 := Nat.ne_of_lt (Nat.lt_of_lt_of_le V_bw31.lt (Nat.le_of_eq Gw32.symm))
  have ne_bw32_bw31 : bw32 ≠ bw31 := Ne.symm ne_bw31_bw32
  have g_bw32 : n0 ≤ bw32 := Nat.le_trans Zw31 (Nat.le_of_eq Gw32.symm)
  have sz_bw32 : h0.size ≤ bw32 := Nat.le_trans KKw31.1 (Nat.le_of_eq Gw32.symm)
  have V_bw31_w32 := V_bw31.ext Ew32
  have Zw32 : n0 ≤ hw32.size := Nat.le_trans Zw31 Ew32.1
  have KKw32 := KKw31.ext Ew32
  have V_bw32 : Arv Z hw32 bw32 kw32 .double (3 : Int32) [(.double 0), (.double 0), (.double 0)] (.double 0) := Vw32
  obtain ⟨Tw33, hw33, Xw33, ew33, Ww33, Vw33, stw33⟩ := own_stD (L := #[.val (.int p0), .val (.long p1), .second, .val (.long p2), .second, .val (.long p3), .second, .val (.int (3 : Int32)), .val (.int w3_v6), .val (.int w3_v13), .val (.int w3_v17), .val (.int w3_v24), .val (.int w3_v29), .val (.int w3_v37), .val (.ref bw31), .val (.ref bw32), .val (.long (0 : Int64)), .second, .unset, .unset]) (S := []) Xw32 hx hZ ew32 V_bw31_w32 (j := (0 : Int32)) (x := (FP.i2d w3_v6)) (by decide) 0 (by decide) (Nat.le_of_ble_eq_true rfl) (hb hby at_67) (pc' := 68) rfl
  have V_bw32_w33 := V_bw32.other Ww33 ne_bw32_bw31
  have Zw33 : n0 ≤ hw33.size := Nat.le_trans Zw32 (Nat.le_of_eq Ww33.size.symm)
  have KKw33 := KKw32.wr Ww33 (Or.inr sz_bw31)
  have V_bw31_w33 : Arv Z hw33 bw31 kw31 .double (3 : Int32) [(.double (FP.i2d w3_v6)), (.double 0), (.double 0)] (.double 0) := Vw33
  have Nw33 := Fr.snoc Xw33 N0 g_bw31
  obtain ⟨Tw34, hw34, Xw34, ew34, Ww34, Vw34, stw34⟩ := own_stD (L := #[.val (.int p0), .val (.long p1), .second, .val (.long p2), .second, .val (.long p3), .second, .val (.int (3 : Int32)), .val (.int w3_v6), .val (.int w3_v13), .val (.int w3_v17), .val (.int w3_v24), .val (.int w3_v29), .val (.int w3_v37), .val (.ref bw31), .val (.ref bw32), .val (.long (0 : Int64)), .second, .unset, .unset]) (S := []) Xw33 hx hZ ew33 V_bw32_w33 (j := (0 : Int32)) (x := (FP.i2d w3_v13)) (by decide) 0 (by decide) (Nat.le_of_ble_eq_true rfl) (hb hby at_74) (pc' := 75) rfl
  have V_bw31_w34 := V_bw31_w33.other Ww34 ne_bw31_bw32
  have Zw34 : n0 ≤ hw34.size := Nat.le_trans Zw33 (Nat.le_of_eq Ww34.size.symm)
  have KKw34 := KKw33.wr Ww34 (Or.inr sz_bw32)
  have V_bw32_w34 : Arv Z hw34 bw32 kw32 .double (3 : Int32) [(.double (FP.i2d w3_v13)), (.double 0), (.double 0)] (.double 0) := Vw34
  have Nw34 := Fr.snoc Xw34 Nw33 g_bw32
  obtain ⟨Tw35, hw35, Xw35, ew35, Ww35, Vw35, stw35⟩ := own_stD (L := #[.val (.int p0), .val (.long p1), .second, .val (.long p2), .second, .val (.long p3), .second, .val (.int (3 : Int32)), .val (.int w3_v6), .val (.int w3_v13), .val (.int w3_v17), .val (.int w3_v24), .val (.int w3_v29), .val (.int w3_v37), .val (.ref bw31), .val (.ref bw32), .val (.long w3_v84), .second, .unset, .unset]) (S := []) Xw34 hx hZ ew34 V_bw31_w34 (j := (1 : Int32)) (x := (FP.i2d w3_v17)) (by decide) 1 (by decide) (Nat.le_of_ble_eq_true rfl) (hb hby at_99) (pc' := 100) rfl
  have V_bw32_w35 := V_bw32_w34.other Ww35 ne_bw32_bw31
  have Zw35 : n0 ≤ hw35.size := Nat.le_trans Zw34 (Nat.le_of_eq Ww35.size.symm)
  have KKw35 := KKw34.wr Ww35 (Or.inr sz_bw31)
  have V_bw31_w35 : Arv Z hw35 bw31 kw31 .double (3 : Int32) [(.double (FP.i2d w3_v6)), (.double (FP.i2d w3_v17)), (.double 0)] (.double 0) := Vw35
  have Nw35 := Fr.snoc Xw35 Nw34 g_bw31
  obtain ⟨Tw36, hw36, Xw36, ew36, Ww36, Vw36, stw36⟩ := own_stD (L := #[.val (.int p0), .val (.long p1), .second, .val (.long p2), .second, .val (.long p3), .second, .val (.int (3 : Int32)), .val (.int w3_v6), .val (.int w3_v13), .val (.int w3_v17), .val (.int w3_v24), .val (.int w3_v29), .val (.int w3_v37), .val (.ref bw31), .val (.ref bw32), .val (.long w3_v84), .second, .unset, .unset]) (S := []) Xw35 hx hZ ew35 V_bw32_w35 (j := (1 : Int32)) (x := (FP.i2d w3_v24)) (by decide) 1 (by decide) (Nat.le_of_ble_eq_true rfl) (hb hby at_106) (pc' := 107) rfl
  have V_bw31_w36 := V_bw31_w35.other Ww36 ne_bw31_bw32
  have Zw36 : n0 ≤ hw36.size := Nat.le_trans Zw35 (Nat.le_of_eq Ww36.size.symm)
  have KKw36 := KKw35.wr Ww36 (Or.inr sz_bw32)
  have V_bw32_w36 : Arv Z hw36 bw32 kw32 .double (3 : Int32) [(.double (FP.i2d w3_v13)), (.double (FP.i2d w3_v24)), (.double 0)] (.double 0) := Vw36
  have Nw36 := Fr.snoc Xw36 Nw35 g_bw32
  obtain ⟨Tw37, hw37, Xw37, ew37, Ww37, Vw37, stw37⟩ := own_stD (L := #[.val (.int p0), .val (.long p1), .second, .val (.long p2), .second, .val (.long p3), .second, .val (.int (3 : Int32)), .val (.int w3_v6), .val (.int w3_v13), .val (.int w3_v17), .val (.int w3_v24), .val (.int w3_v29), .val (.int w3_v37), .val (.ref bw31), .val (.ref bw32), .val (.long w3_v116), .second, .unset, .unset]) (S := []) Xw36 hx hZ ew36 V_bw31_w36 (j := (2 : Int32)) (x := (FP.i2d w3_v29)) (by decide) 2 (by decide) (Nat.le_of_ble_eq_true rfl) (hb hby at_131) (pc' := 132) rfl
  have V_bw32_w37 := V_bw32_w36.other Ww37 ne_bw32_bw31
  have Zw37 : n0 ≤ hw37.size := Nat.le_trans Zw36 (Nat.le_of_eq Ww37.size.symm)
  have KKw37 := KKw36.wr Ww37 (Or.inr sz_bw31)
  have V_bw31_w37 : Arv Z hw37 bw31 kw31 .double (3 : Int32) [(.double (FP.i2d w3_v6)), (.double (FP.i2d w3_v17)), (.double (FP.i2d w3_v29))] (.double 0) := Vw37
  have Nw37 := Fr.snoc Xw37 Nw36 g_bw31
  obtain ⟨Tw38, hw38, Xw38, ew38, Ww38, Vw38, stw38⟩ := own_stD (L := #[.val (.int p0), .val (.long p1), .second, .val (.long p2), .second, .val (.long p3), .second, .val (.int (3 : Int32)), .val (.int w3_v6), .val (.int w3_v13), .val (.int w3_v17), .val (.int w3_v24), .val (.int w3_v29), .val (.int w3_v37), .val (.ref bw31), .val (.ref bw32), .val (.long w3_v116), .second, .unset, .unset]) (S := []) Xw37 hx hZ ew37 V_bw32_w37 (j := (2 : Int32)) (x := (FP.i2d w3_v37)) (by decide) 2 (by decide) (Nat.le_of_ble_eq_true rfl) (hb hby at_138) (pc' := 139) rfl
  have V_bw31_w38 := V_bw31_w37.other Ww38 ne_bw31_bw32
  have Zw38 : n0 ≤ hw38.size := Nat.le_trans Zw37 (Nat.le_of_eq Ww38.size.symm)
  have KKw38 := KKw37.wr Ww38 (Or.inr sz_bw32)
  have V_bw32_w38 : Arv Z hw38 bw32 kw32 .double (3 : Int32) [(.double (FP.i2d w3_v13)), (.double (FP.i2d w3_v24)), (.double (FP.i2d w3_v37))] (.double 0) := Vw38
  have Nw38 := Fr.snoc Xw38 Nw37 g_bw32
  obtain ⟨_, _, ⟨Tw39, Lw39, kw39, nw39⟩, -, Xw39, ⟨Lcw39, hQw39, lw39, yw39, zw39⟩, stw39⟩ := Jvm.LawKit.callS Xw38 hx (y := (⟨"com/example/thicket/thicket/core/Box", "margin", "([D[D)D"⟩ : MethodName)) hown (mvT hZ (hw _ (List.mem_of_getElem? (i := 1) rfl))) (mvT hZ (hw _ (List.mem_of_getElem? (i := 2) rfl))) (mvT hZ (hw _ (List.mem_of_getElem? (i := 3) rfl))) (mvT hZ (hw _ (List.mem_of_getElem? (i := 4) rfl))) (by decide) (backOf (W := 0) (own_rm_c3 l Z a0 hw [] bw31 (FP.i2d w3_v6) (FP.i2d w3_v17) (FP.i2d w3_v29) bw32 (FP.i2d w3_v13) (FP.i2d w3_v24) (FP.i2d w3_v37) hw38 n0 Zw38 V_bw31_w38 V_bw32_w38 w3_c155_c3_hn21 w3_c155_c3_hv21 w3_c155_c3_hn22 w3_c155_c3_hv22 w3_c155_c3_hn21_2 w3_c155_c3_hv21_2 w3_c155_c3_hn22_2 w3_c155_c3_hv22_2 w3_c155_c3_hn21_3 w3_c155_c3_hv21_3 w3_c155_c3_hn22_3 w3_c155_c3_hv22_3) hZ (hw _ (List.mem_of_getElem? (i := 4) rfl)) (hw _ (List.mem_of_getElem? (i := 3) rfl)) (by decide) (by decide)) (g := (mkF m 155 #[.val (.int p0), .val (.long p1), .second, .val (.long p2), .second, .val (.long p3), .second, .val (.int (3 : Int32)), .val (.int w3_v6), .val (.int w3_v13), .val (.int w3_v17), .val (.int w3_v24), .val (.int w3_v29), .val (.int w3_v37), .val (.ref bw31), .val (.ref bw32), .val (.long w3_v148), .second, .unset, .unset] [(.ref bw32), (.ref bw31)])) rfl (by rw [hml]; rfl) (argsL := [(.ref bw31), (.ref bw32)]) (rest := []) (lenOf own_pd_285bD5bD29D rfl) rfl (by show 2 * 0 + _ ≤ _; exact Nat.le_of_eq rfl) (hb hby at_155) (fun _ _ => ⟨rfl, ew38, (by decide : 2 + 0 ≤ _), (by decide : 6 + 0 ≤ _)⟩)
  dsimp only [Pt.U, Pt.locs, Pt.cells, Pt.slots] at Xw39 lw39 yw39 zw39 stw39 hQw39
  subst lw39 yw39 zw39
  obtain ⟨rfl, Nw39q, ew39⟩ := hQw39
  have Nw39 := Fr.app Nw38 Nw39q
  obtain ⟨fs, hr, hrun, hended, hW, hsame⟩ := Xw39.leave (v := some (.int (1 : Int32))) (fun h => by rw [Bd.returns] at h; cases h)
  refine ⟨_, _, pre0 _ ?_, hrun, hended, _, _, rfl, ?_, ⟨_, rfl⟩, hW, hsame.mono (by decide) (by decide)⟩
  · refine own_s_iloadN X0.here hx (hb hby at_0) (pc' := 1) rfl rfl ?_
    refine own_s_iconst X0.here hx (hb hby at_1) (pc' := 2) rfl (v := (3 : Int32)) (by decide) ?_
    refine own_s_iand X0.here hx (hb hby at_2) (pc' := 3) rfl (v := (3 : Int32)) w3_hv2 ?_
    refine own_s_istore X0.here hx (hb hby at_3) (pc' := 5) rfl (L' := #[.val (.int p0), .val (.long p1), .second, .val (.long p2), .second, .val (.long p3), .second, .val (.int (3 : Int32)), .unset, .unset, .unset, .unset, .unset, .unset, .unset, .unset, .unset, .unset, .unset, .unset]) rfl ?_
    refine own_s_lloadN X0.here hx (hb hby at_5) (pc' := 6) rfl rfl ?_
    refine own_s_l2i X0.here hx (hb hby at_6) (pc' := 7) rfl (v := w3_v6) w3_hv6 ?_
    refine own_s_istore X0.here hx (hb hby at_7) (pc' := 9) rfl (L' := #[.val (.int p0), .val (.long p1), .second, .val (.long p2), .second, .val (.long p3), .second, .val (.int (3 : Int32)), .val (.int w3_v6), .unset, .unset, .unset, .unset, .unset, .unset, .unset, .unset, .unset, .unset, .unset]) rfl ?_
    refine own_s_lloadN X0.here hx (hb hby at_9) (pc' := 10) rfl rfl ?_
    refine own_s_bipush X0.here hx (hb hby at_10) (pc' := 12) rfl (v := (32 : Int32)) (by decide) ?_
    refine own_s_lushr X0.here hx (hb hby at_12) (pc' := 13) rfl (v := w3_v12) w3_hv12 ?_
    refine own_s_l2i X0.here hx (hb hby at_13) (pc' := 14) rfl (v := w3_v13) w3_hv13 ?_
    refine own_s_istore X0.here hx (hb hby at_14) (pc' := 16) rfl (L' := #[.val (.int p0), .val (.long p1), .second, .val (.long p2), .second, .val (.long p3), .second, .val (.int (3 : Int32)), .val (.int w3_v6), .val (.int w3_v13), .unset, .unset, .unset, .unset, .unset, .unset, .unset, .unset, .unset, .unset]) rfl ?_
    refine own_s_lloadN X0.here hx (hb hby at_16) (pc' := 17) rfl rfl ?_
    refine own_s_l2i X0.here hx (hb hby at_17) (pc' := 18) rfl (v := w3_v17) w3_hv17 ?_
    refine own_s_istore X0.here hx (hb hby at_18) (pc' := 20) rfl (L' := #[.val (.int p0), .val (.long p1), .second, .val (.long p2), .second, .val (.long p3), .second, .val (.int (3 : Int32)), .val (.int w3_v6), .val (.int w3_v13), .val (.int w3_v17), .unset, .unset, .unset, .unset, .unset, .unset, .unset, .unset, .unset]) rfl ?_
    refine own_s_lloadN X0.here hx (hb hby at_20) (pc' := 21) rfl rfl ?_
    refine own_s_bipush X0.here hx (hb hby at_21) (pc' := 23) rfl (v := (32 : Int32)) (by decide) ?_
    refine own_s_lushr X0.here hx (hb hby at_23) (pc' := 24) rfl (v := w3_v23) w3_hv23 ?_
    refine own_s_l2i X0.here hx (hb hby at_24) (pc' := 25) rfl (v := w3_v24) w3_hv24 ?_
    refine own_s_istore X0.here hx (hb hby at_25) (pc' := 27) rfl (L' := #[.val (.int p0), .val (.long p1), .second, .val (.long p2), .second, .val (.long p3), .second, .val (.int (3 : Int32)), .val (.int w3_v6), .val (.int w3_v13), .val (.int w3_v17), .val (.int w3_v24), .unset, .unset, .unset, .unset, .unset, .unset, .unset, .unset]) rfl ?_
    refine own_s_lload X0.here hx (hb hby at_27) (pc' := 29) rfl rfl ?_
    refine own_s_l2i X0.here hx (hb hby at_29) (pc' := 30) rfl (v := w3_v29) w3_hv29 ?_
    refine own_s_istore X0.here hx (hb hby at_30) (pc' := 32) rfl (L' := #[.val (.int p0), .val (.long p1), .second, .val (.long p2), .second, .val (.long p3), .second, .val (.int (3 : Int32)), .val (.int w3_v6), .val (.int w3_v13), .val (.int w3_v17), .val (.int w3_v24), .val (.int w3_v29), .unset, .unset, .unset, .unset, .unset, .unset, .unset]) rfl ?_
    refine own_s_lload X0.here hx (hb hby at_32) (pc' := 34) rfl rfl ?_
    refine own_s_bipush X0.here hx (hb hby at_34) (pc' := 36) rfl (v := (32 : Int32)) (by decide) ?_
    refine own_s_lushr X0.here hx (hb hby at_36) (pc' := 37) rfl (v := w3_v36) w3_hv36 ?_
    refine own_s_l2i X0.here hx (hb hby at_37) (pc' := 38) rfl (v := w3_v37) w3_hv37 ?_
    refine own_s_istore X0.here hx (hb hby at_38) (pc' := 40) rfl (L' := #[.val (.int p0), .val (.long p1), .second, .val (.long p2), .second, .val (.long p3), .second, .val (.int (3 : Int32)), .val (.int w3_v6), .val (.int w3_v13), .val (.int w3_v17), .val (.int w3_v24), .val (.int w3_v29), .val (.int w3_v37), .unset, .unset, .unset, .unset, .unset, .unset]) rfl ?_
    refine own_s_iload X0.here hx (hb hby at_40) (pc' := 42) rfl rfl ?_
    refine stw31 _ ?_
    refine own_s_astore Xw31.here hx (hb hby at_44) (pc' := 46) rfl rfl (L' := #[.val (.int p0), .val (.long p1), .second, .val (.long p2), .second, .val (.long p3), .second, .val (.int (3 : Int32)), .val (.int w3_v6), .val (.int w3_v13), .val (.int w3_v17), .val (.int w3_v24), .val (.int w3_v29), .val (.int w3_v37), .val (.ref bw31), .unset, .unset, .unset, .unset, .unset]) rfl ?_
    refine own_s_iload Xw31.here hx (hb hby at_46) (pc' := 48) rfl rfl ?_
    refine stw32 _ ?_
    refine own_s_astore Xw32.here hx (hb hby at_50) (pc' := 52) rfl rfl (L' := #[.val (.int p0), .val (.long p1), .second, .val (.long p2), .second, .val (.long p3), .second, .val (.int (3 : Int32)), .val (.int w3_v6), .val (.int w3_v13), .val (.int w3_v17), .val (.int w3_v24), .val (.int w3_v29), .val (.int w3_v37), .val (.ref bw31), .val (.ref bw32), .unset, .unset, .unset, .unset]) rfl ?_
    refine own_s_lconst Xw32.here hx (hb hby at_52) (pc' := 53) rfl (v := (0 : Int64)) (by decide) ?_
    refine own_s_lstore Xw32.here hx (hb hby at_53) (pc' := 55) rfl (L' := #[.val (.int p0), .val (.long p1), .second, .val (.long p2), .second, .val (.long p3), .second, .val (.int (3 : Int32)), .val (.int w3_v6), .val (.int w3_v13), .val (.int w3_v17), .val (.int w3_v24), .val (.int w3_v29), .val (.int w3_v37), .val (.ref bw31), .val (.ref bw32), .val (.long (0 : Int64)), .second, .unset, .unset]) rfl ?_
    refine own_s_iload Xw32.here hx (hb hby at_55) (pc' := 57) rfl rfl ?_
    refine own_s_iconst Xw32.here hx (hb hby at_57) (pc' := 58) rfl (v := (1 : Int32)) (by decide) ?_
    refine own_s_icmpNo Xw32.here hx (hb hby at_58) (pc' := 61) rfl (by decide) ?_
    refine own_s_aload Xw32.here hx (hb hby at_61) (pc' := 63) rfl rfl rfl ?_
    refine own_s_iconst Xw32.here hx (hb hby at_63) (pc' := 64) rfl (v := (0 : Int32)) (by decide) ?_
    refine own_s_iload Xw32.here hx (hb hby at_64) (pc' := 66) rfl rfl ?_
    refine own_s_i2d Xw32.here hx (hb hby at_66) (pc' := 67) rfl (v := (FP.i2d w3_v6)) rfl ?_
    refine stw33 _ ?_
    refine own_s_aload Xw33.here hx (hb hby at_68) (pc' := 70) rfl rfl rfl ?_
    refine own_s_iconst Xw33.here hx (hb hby at_70) (pc' := 71) rfl (v := (0 : Int32)) (by decide) ?_
    refine own_s_iload Xw33.here hx (hb hby at_71) (pc' := 73) rfl rfl ?_
    refine own_s_i2d Xw33.here hx (hb hby at_73) (pc' := 74) rfl (v := (FP.i2d w3_v13)) rfl ?_
    refine stw34 _ ?_
    refine own_s_lload Xw34.here hx (hb hby at_75) (pc' := 77) rfl rfl ?_
    refine own_s_iload Xw34.here hx (hb hby at_77) (pc' := 79) rfl rfl ?_
    refine own_s_i2l Xw34.here hx (hb hby at_79) (pc' := 80) rfl (v := w3_v79) w3_hv79 ?_
    refine own_s_iload Xw34.here hx (hb hby at_80) (pc' := 82) rfl rfl ?_
    refine own_s_i2l Xw34.here hx (hb hby at_82) (pc' := 83) rfl (v := w3_v82) w3_hv82 ?_
    refine own_s_lsub Xw34.here hx (hb hby at_83) (pc' := 84) rfl (v := w3_v83) w3_hv83 ?_
    refine own_s_ladd Xw34.here hx (hb hby at_84) (pc' := 85) rfl (v := w3_v84) w3_hv84 ?_
    refine own_s_lstore Xw34.here hx (hb hby at_85) (pc' := 87) rfl (L' := #[.val (.int p0), .val (.long p1), .second, .val (.long p2), .second, .val (.long p3), .second, .val (.int (3 : Int32)), .val (.int w3_v6), .val (.int w3_v13), .val (.int w3_v17), .val (.int w3_v24), .val (.int w3_v29), .val (.int w3_v37), .val (.ref bw31), .val (.ref bw32), .val (.long w3_v84), .second, .unset, .unset]) rfl ?_
    refine own_s_iload Xw34.here hx (hb hby at_87) (pc' := 89) rfl rfl ?_
    refine own_s_iconst Xw34.here hx (hb hby at_89) (pc' := 90) rfl (v := (2 : Int32)) (by decide) ?_
    refine own_s_icmpNo Xw34.here hx (hb hby at_90) (pc' := 93) rfl (by decide) ?_
    refine own_s_aload Xw34.here hx (hb hby at_93) (pc' := 95) rfl rfl rfl ?_
    refine own_s_iconst Xw34.here hx (hb hby at_95) (pc' := 96) rfl (v := (1 : Int32)) (by decide) ?_
    refine own_s_iload Xw34.here hx (hb hby at_96) (pc' := 98) rfl rfl ?_
    refine own_s_i2d Xw34.here hx (hb hby at_98) (pc' := 99) rfl (v := (FP.i2d w3_v17)) rfl ?_
    refine stw35 _ ?_
    refine own_s_aload Xw35.here hx (hb hby at_100) (pc' := 102) rfl rfl rfl ?_
    refine own_s_iconst Xw35.here hx (hb hby at_102) (pc' := 103) rfl (v := (1 : Int32)) (by decide) ?_
    refine own_s_iload Xw35.here hx (hb hby at_103) (pc' := 105) rfl rfl ?_
    refine own_s_i2d Xw35.here hx (hb hby at_105) (pc' := 106) rfl (v := (FP.i2d w3_v24)) rfl ?_
    refine stw36 _ ?_
    refine own_s_lload Xw36.here hx (hb hby at_107) (pc' := 109) rfl rfl ?_
    refine own_s_iload Xw36.here hx (hb hby at_109) (pc' := 111) rfl rfl ?_
    refine own_s_i2l Xw36.here hx (hb hby at_111) (pc' := 112) rfl (v := w3_v111) w3_hv111 ?_
    refine own_s_iload Xw36.here hx (hb hby at_112) (pc' := 114) rfl rfl ?_
    refine own_s_i2l Xw36.here hx (hb hby at_114) (pc' := 115) rfl (v := w3_v114) w3_hv114 ?_
    refine own_s_lsub Xw36.here hx (hb hby at_115) (pc' := 116) rfl (v := w3_v115) w3_hv115 ?_
    refine own_s_ladd Xw36.here hx (hb hby at_116) (pc' := 117) rfl (v := w3_v116) w3_hv116 ?_
    refine own_s_lstore Xw36.here hx (hb hby at_117) (pc' := 119) rfl (L' := #[.val (.int p0), .val (.long p1), .second, .val (.long p2), .second, .val (.long p3), .second, .val (.int (3 : Int32)), .val (.int w3_v6), .val (.int w3_v13), .val (.int w3_v17), .val (.int w3_v24), .val (.int w3_v29), .val (.int w3_v37), .val (.ref bw31), .val (.ref bw32), .val (.long w3_v116), .second, .unset, .unset]) rfl ?_
    refine own_s_iload Xw36.here hx (hb hby at_119) (pc' := 121) rfl rfl ?_
    refine own_s_iconst Xw36.here hx (hb hby at_121) (pc' := 122) rfl (v := (3 : Int32)) (by decide) ?_
    refine own_s_icmpNo Xw36.here hx (hb hby at_122) (pc' := 125) rfl (by decide) ?_
    refine own_s_aload Xw36.here hx (hb hby at_125) (pc' := 127) rfl rfl rfl ?_
    refine own_s_iconst Xw36.here hx (hb hby at_127) (pc' := 128) rfl (v := (2 : Int32)) (by decide) ?_
    refine own_s_iload Xw36.here hx (hb hby at_128) (pc' := 130) rfl rfl ?_
    refine own_s_i2d Xw36.here hx (hb hby at_130) (pc' := 131) rfl (v := (FP.i2d w3_v29)) rfl ?_
    refine stw37 _ ?_
    refine own_s_aload Xw37.here hx (hb hby at_132) (pc' := 134) rfl rfl rfl ?_
    refine own_s_iconst Xw37.here hx (hb hby at_134) (pc' := 135) rfl (v := (2 : Int32)) (by decide) ?_
    refine own_s_iload Xw37.here hx (hb hby at_135) (pc' := 137) rfl rfl ?_
    refine own_s_i2d Xw37.here hx (hb hby at_137) (pc' := 138) rfl (v := (FP.i2d w3_v37)) rfl ?_
    refine stw38 _ ?_
    refine own_s_lload Xw38.here hx (hb hby at_139) (pc' := 141) rfl rfl ?_
    refine own_s_iload Xw38.here hx (hb hby at_141) (pc' := 143) rfl rfl ?_
    refine own_s_i2l Xw38.here hx (hb hby at_143) (pc' := 144) rfl (v := w3_v143) w3_hv143 ?_
    refine own_s_iload Xw38.here hx (hb hby at_144) (pc' := 146) rfl rfl ?_
    refine own_s_i2l Xw38.here hx (hb hby at_146) (pc' := 147) rfl (v := w3_v146) w3_hv146 ?_
    refine own_s_lsub Xw38.here hx (hb hby at_147) (pc' := 148) rfl (v := w3_v147) w3_hv147 ?_
    refine own_s_ladd Xw38.here hx (hb hby at_148) (pc' := 149) rfl (v := w3_v148) w3_hv148 ?_
    refine own_s_lstore Xw38.here hx (hb hby at_149) (pc' := 151) rfl (L' := #[.val (.int p0), .val (.long p1), .second, .val (.long p2), .second, .val (.long p3), .second, .val (.int (3 : Int32)), .val (.int w3_v6), .val (.int w3_v13), .val (.int w3_v17), .val (.int w3_v24), .val (.int w3_v29), .val (.int w3_v37), .val (.ref bw31), .val (.ref bw32), .val (.long w3_v148), .second, .unset, .unset]) rfl ?_
    refine own_s_aload Xw38.here hx (hb hby at_151) (pc' := 153) rfl rfl rfl ?_
    refine own_s_aload Xw38.here hx (hb hby at_153) (pc' := 155) rfl rfl rfl ?_
    refine stw39 _ ?_
    show Steps p.tables e below (Tw39.setTop (mkF m 158 #[.val (.int p0), .val (.long p1), .second, .val (.long p2), .second, .val (.long p3), .second, .val (.int (3 : Int32)), .val (.int w3_v6), .val (.int w3_v13), .val (.int w3_v17), .val (.int w3_v24), .val (.int w3_v29), .val (.int w3_v37), .val (.ref bw31), .val (.ref bw32), .val (.long w3_v148), .second, .unset, .unset] [(.double w3_c155_c3_v22_3)])) _
    refine own_s_dstore Xw39.here hx (hb hby at_158) (pc' := 160) rfl (L' := #[.val (.int p0), .val (.long p1), .second, .val (.long p2), .second, .val (.long p3), .second, .val (.int (3 : Int32)), .val (.int w3_v6), .val (.int w3_v13), .val (.int w3_v17), .val (.int w3_v24), .val (.int w3_v29), .val (.int w3_v37), .val (.ref bw31), .val (.ref bw32), .val (.long w3_v148), .second, .val (.double w3_c155_c3_v22_3), .second]) rfl ?_
    refine own_s_dload Xw39.here hx (hb hby at_160) (pc' := 162) rfl rfl ?_
    refine own_s_lload Xw39.here hx (hb hby at_162) (pc' := 164) rfl rfl ?_
    refine own_s_l2d Xw39.here hx (hb hby at_164) (pc' := 165) rfl (v := (FP.l2d w3_v148)) rfl ?_
    refine own_s_dcmp Xw39.here hx (hb hby at_165) (pc' := 166) rfl (v := (0 : Int32)) w3_hc165 ?_
    refine own_s_ifNo Xw39.here hx (hb hby at_166) (pc' := 169) rfl (by decide) ?_
    refine own_s_iconst Xw39.here hx (hb hby at_169) (pc' := 170) rfl (v := (1 : Int32)) (by decide) ?_
    refine own_s_goto Xw39.here hx (hb hby at_170) (by decide) (pc' := 174) (by decide) ?_
    exact retN Xw39 hx (t := .boolean) Bd.returns (by simp) (hb hby at_174) hr
  · show own_Q0 n0 _ Tw39.heap _
    rw [ew39]
    exact ⟨rfl, Nw39⟩
set_option maxRecDepth 65536 in
set_option maxHeartbeats 40000000 in
theorem own_rm0 (l : Launch) (Z : State) (a0 : Array Value) (hw : ∀ d ∈ tables_1, d.before a0 Z = true) (ws : List Jvm.Cond) (p0 : Int32) (p1 : Int64) (p2 : Int64) (p3 : Int64) (h0 : Heap) (n0 : Nat) (Z0 : n0 ≤ h0.size)  :
    MetFree l x (head1 (Jvm.Cond.code x code maxLocals ret :: ws) room_1) (fun a U => a = #[(.int p0), (.long p1), (.long p2), (.long p3)] ∧ Z.Warmed39 U.vm ∧ U.heap = h0) (fun _ _ _ _ _ => True) (fun _ U o U' => ∃ v L, o = .returned v ∧ own_Q0 n0 v U'.heap L ∧ FrameEnd U o U' L room_1.cells room_1.slots) := by
  rcases own_mask3 p0 with hn | hn | hn | hn
  · obtain ⟨v6, hv6⟩ : ∃ v, Int64.toInt32 p1 = v := ⟨_, rfl⟩
    obtain ⟨v12, hv12⟩ : ∃ v, (Int64.toUInt64 p1 >>> ((32 : Int32) &&& 63).toInt64.toUInt64).toInt64 = v := ⟨_, rfl⟩
    obtain ⟨v13, hv13⟩ : ∃ v, Int64.toInt32 v12 = v := ⟨_, rfl⟩
    obtain ⟨v17, hv17⟩ : ∃ v, Int64.toInt32 p2 = v := ⟨_, rfl⟩
    obtain ⟨v23, hv23⟩ : ∃ v, (Int64.toUInt64 p2 >>> ((32 : Int32) &&& 63).toInt64.toUInt64).toInt64 = v := ⟨_, rfl⟩
    obtain ⟨v24, hv24⟩ : ∃ v, Int64.toInt32 v23 = v := ⟨_, rfl⟩
    obtain ⟨v29, hv29⟩ : ∃ v, Int64.toInt32 p3 = v := ⟨_, rfl⟩
    obtain ⟨v36, hv36⟩ : ∃ v, (Int64.toUInt64 p3 >>> ((32 : Int32) &&& 63).toInt64.toUInt64).toInt64 = v := ⟨_, rfl⟩
    obtain ⟨v37, hv37⟩ : ∃ v, Int64.toInt32 v36 = v := ⟨_, rfl⟩
    have Ic1 : own_B 0 (0) 0 0 := ⟨⟨(Jvm.FP.Core.fin_bits _).mpr (by decide), by decide, by decide +kernel⟩, by decide, by decide⟩
    have Il2 : own_L (0 : Int64) (0) 0 := ⟨by decide, by decide, by decide⟩
    have Id3 : own_B (FP.l2d (0 : Int64)) ((0)) 0 0 := own_Bl2d Il2 (by decide)
    exact own_rm_w0 l Z a0 hw ws p0 p1 p2 p3 h0 n0 Z0 (w0_hv2 := hn) (w0_hv6 := hv6) (w0_hv12 := hv12) (w0_hv13 := hv13) (w0_hv17 := hv17) (w0_hv23 := hv23) (w0_hv24 := hv24) (w0_hv29 := hv29) (w0_hv36 := hv36) (w0_hv37 := hv37) (w0_hc165 := (own_eq0 Ic1.is Id3.is (by first | rfl | omega | grind) _))
  · obtain ⟨v6, hv6⟩ : ∃ v, Int64.toInt32 p1 = v := ⟨_, rfl⟩
    obtain ⟨v12, hv12⟩ : ∃ v, (Int64.toUInt64 p1 >>> ((32 : Int32) &&& 63).toInt64.toUInt64).toInt64 = v := ⟨_, rfl⟩
    obtain ⟨v13, hv13⟩ : ∃ v, Int64.toInt32 v12 = v := ⟨_, rfl⟩
    obtain ⟨v17, hv17⟩ : ∃ v, Int64.toInt32 p2 = v := ⟨_, rfl⟩
    obtain ⟨v23, hv23⟩ : ∃ v, (Int64.toUInt64 p2 >>> ((32 : Int32) &&& 63).toInt64.toUInt64).toInt64 = v := ⟨_, rfl⟩
    obtain ⟨v24, hv24⟩ : ∃ v, Int64.toInt32 v23 = v := ⟨_, rfl⟩
    obtain ⟨v29, hv29⟩ : ∃ v, Int64.toInt32 p3 = v := ⟨_, rfl⟩
    obtain ⟨v36, hv36⟩ : ∃ v, (Int64.toUInt64 p3 >>> ((32 : Int32) &&& 63).toInt64.toUInt64).toInt64 = v := ⟨_, rfl⟩
    obtain ⟨v37, hv37⟩ : ∃ v, Int64.toInt32 v36 = v := ⟨_, rfl⟩
    obtain ⟨v79, hv79⟩ : ∃ v, Int32.toInt64 v13 = v := ⟨_, rfl⟩
    have Ir1 := own_Irng v13
    have L_v79 := own_Ii2l hv79 Ir1
    obtain ⟨v82, hv82⟩ : ∃ v, Int32.toInt64 v6 = v := ⟨_, rfl⟩
    have Ir2 := own_Irng v6
    have L_v82 := own_Ii2l hv82 Ir2
    obtain ⟨v83, hv83⟩ : ∃ v, v79 - v82 = v := ⟨_, rfl⟩
    have L_v83 : own_L v83 ((v13.toInt) - (v6.toInt)) 4294967296 := own_Lcast (own_Lsub hv83 L_v79 L_v82 (by decide)) rfl (by decide)
    obtain ⟨v84, hv84⟩ : ∃ v, (0 : Int64) + v83 = v := ⟨_, rfl⟩
    have Il3 : own_L (0 : Int64) (0) 0 := ⟨by decide, by decide, by decide⟩
    have L_v84 : own_L v84 (((0)) + (((v13.toInt) - (v6.toInt)))) 4294967296 := own_Lcast (own_Ladd hv84 Il3 L_v83 (by decide)) rfl (by decide)
    obtain ⟨c155_c1_v21, c155_c1_hv21⟩ : ∃ v, FP.dsub (FP.i2d v13) (FP.i2d v6) = v := ⟨_, rfl⟩
    have Id4 : own_B (FP.i2d v13) (v13.toInt) 0 2147483648 := own_Bi2d Ir1
    have Id5 : own_B (FP.i2d v6) (v6.toInt) 0 2147483648 := own_Bi2d Ir2
    have J6 : own_B (FP.dsub (FP.i2d v13) (FP.i2d v6)) (v13.toInt - (v6.toInt)) (0) 4294967296 := own_Bcast (own_Bsub Id4 Id5 (by decide)) rfl (by decide) (by decide)
    have J6n := J6.nn
    rw [c155_c1_hv21] at J6
    obtain ⟨c155_c1_v22, c155_c1_hv22⟩ : ∃ v, FP.dadd 0 c155_c1_v21 = v := ⟨_, rfl⟩
    have Ic7 : own_B 0 (0) 0 0 := ⟨⟨(Jvm.FP.Core.fin_bits _).mpr (by decide), by decide, by decide +kernel⟩, by decide, by decide⟩
    have J8 : own_B (FP.dadd 0 c155_c1_v21) ((0) + (v13.toInt - (v6.toInt))) (0) 4294967296 := own_Bcast (own_Badd Ic7 J6 (by decide)) rfl (by decide) (by decide)
    have J8n := J8.nn
    rw [c155_c1_hv22] at J8
    have Id9 : own_B (FP.l2d v84) ((((0)) + (((v13.toInt) - (v6.toInt))))) 0 4294967296 := own_Bl2d L_v84 (by decide)
    exact own_rm_w1 l Z a0 hw ws p0 p1 p2 p3 h0 n0 Z0 (w1_hv2 := hn) (w1_hv6 := hv6) (w1_hv12 := hv12) (w1_hv13 := hv13) (w1_hv17 := hv17) (w1_hv23 := hv23) (w1_hv24 := hv24) (w1_hv29 := hv29) (w1_hv36 := hv36) (w1_hv37 := hv37) (w1_hv79 := hv79) (w1_hv82 := hv82) (w1_hv83 := hv83) (w1_hv84 := hv84) (w1_c155_c1_hn21 := J6n) (w1_c155_c1_hv21 := c155_c1_hv21) (w1_c155_c1_hn22 := J8n) (w1_c155_c1_hv22 := c155_c1_hv22) (w1_hc165 := (own_eq0 J8.is Id9.is (by first | rfl | omega | grind) _))
  · obtain ⟨v6, hv6⟩ : ∃ v, Int64.toInt32 p1 = v := ⟨_, rfl⟩
    obtain ⟨v12, hv12⟩ : ∃ v, (Int64.toUInt64 p1 >>> ((32 : Int32) &&& 63).toInt64.toUInt64).toInt64 = v := ⟨_, rfl⟩
    obtain ⟨v13, hv13⟩ : ∃ v, Int64.toInt32 v12 = v := ⟨_, rfl⟩
    obtain ⟨v17, hv17⟩ : ∃ v, Int64.toInt32 p2 = v := ⟨_, rfl⟩
    obtain ⟨v23, hv23⟩ : ∃ v, (Int64.toUInt64 p2 >>> ((32 : Int32) &&& 63).toInt64.toUInt64).toInt64 = v := ⟨_, rfl⟩
    obtain ⟨v24, hv24⟩ : ∃ v, Int64.toInt32 v23 = v := ⟨_, rfl⟩
    obtain ⟨v29, hv29⟩ : ∃ v, Int64.toInt32 p3 = v := ⟨_, rfl⟩
    obtain ⟨v36, hv36⟩ : ∃ v, (Int64.toUInt64 p3 >>> ((32 : Int32) &&& 63).toInt64.toUInt64).toInt64 = v := ⟨_, rfl⟩
    obtain ⟨v37, hv37⟩ : ∃ v, Int64.toInt32 v36 = v := ⟨_, rfl⟩
    obtain ⟨v79, hv79⟩ : ∃ v, Int32.toInt64 v13 = v := ⟨_, rfl⟩
    have Ir1 := own_Irng v13
    have L_v79 := own_Ii2l hv79 Ir1
    obtain ⟨v82, hv82⟩ : ∃ v, Int32.toInt64 v6 = v := ⟨_, rfl⟩
    have Ir2 := own_Irng v6
    have L_v82 := own_Ii2l hv82 Ir2
    obtain ⟨v83, hv83⟩ : ∃ v, v79 - v82 = v := ⟨_, rfl⟩
    have L_v83 : own_L v83 ((v13.toInt) - (v6.toInt)) 4294967296 := own_Lcast (own_Lsub hv83 L_v79 L_v82 (by decide)) rfl (by decide)
    obtain ⟨v84, hv84⟩ : ∃ v, (0 : Int64) + v83 = v := ⟨_, rfl⟩
    have Il3 : own_L (0 : Int64) (0) 0 := ⟨by decide, by decide, by decide⟩
    have L_v84 : own_L v84 (((0)) + (((v13.toInt) - (v6.toInt)))) 4294967296 := own_Lcast (own_Ladd hv84 Il3 L_v83 (by decide)) rfl (by decide)
    obtain ⟨v111, hv111⟩ : ∃ v, Int32.toInt64 v24 = v := ⟨_, rfl⟩
    have Ir4 := own_Irng v24
    have L_v111 := own_Ii2l hv111 Ir4
    obtain ⟨v114, hv114⟩ : ∃ v, Int32.toInt64 v17 = v := ⟨_, rfl⟩
    have Ir5 := own_Irng v17
    have L_v114 := own_Ii2l hv114 Ir5
    obtain ⟨v115, hv115⟩ : ∃ v, v111 - v114 = v := ⟨_, rfl⟩
    have L_v115 : own_L v115 ((v24.toInt) - (v17.toInt)) 4294967296 := own_Lcast (own_Lsub hv115 L_v111 L_v114 (by decide)) rfl (by decide)
    obtain ⟨v116, hv116⟩ : ∃ v, v84 + v115 = v := ⟨_, rfl⟩
    have L_v116 : own_L v116 (((((0)) + (((v13.toInt) - (v6.toInt))))) + (((v24.toInt) - (v17.toInt)))) 8589934592 := own_Lcast (own_Ladd hv116 L_v84 L_v115 (by decide)) rfl (by decide)
    obtain ⟨c155_c2_v21, c155_c2_hv21⟩ : ∃ v, FP.dsub (FP.i2d v13) (FP.i2d v6) = v := ⟨_, rfl⟩
    have Id6 : own_B (FP.i2d v13) (v13.toInt) 0 2147483648 := own_Bi2d Ir1
    have Id7 : own_B (FP.i2d v6) (v6.toInt) 0 2147483648 := own_Bi2d Ir2
    have J8 : own_B (FP.dsub (FP.i2d v13) (FP.i2d v6)) (v13.toInt - (v6.toInt)) (0) 4294967296 := own_Bcast (own_Bsub Id6 Id7 (by decide)) rfl (by decide) (by decide)
    have J8n := J8.nn
    rw [c155_c2_hv21] at J8
    obtain ⟨c155_c2_v22, c155_c2_hv22⟩ : ∃ v, FP.dadd 0 c155_c2_v21 = v := ⟨_, rfl⟩
    have Ic9 : own_B 0 (0) 0 0 := ⟨⟨(Jvm.FP.Core.fin_bits _).mpr (by decide), by decide, by decide +kernel⟩, by decide, by decide⟩
    have J10 : own_B (FP.dadd 0 c155_c2_v21) ((0) + (v13.toInt - (v6.toInt))) (0) 4294967296 := own_Bcast (own_Badd Ic9 J8 (by decide)) rfl (by decide) (by decide)
    have J10n := J10.nn
    rw [c155_c2_hv22] at J10
    obtain ⟨c155_c2_v21_2, c155_c2_hv21_2⟩ : ∃ v, FP.dsub (FP.i2d v24) (FP.i2d v17) = v := ⟨_, rfl⟩
    have Id11 : own_B (FP.i2d v24) (v24.toInt) 0 2147483648 := own_Bi2d Ir4
    have Id12 : own_B (FP.i2d v17) (v17.toInt) 0 2147483648 := own_Bi2d Ir5
    have J13 : own_B (FP.dsub (FP.i2d v24) (FP.i2d v17)) (v24.toInt - (v17.toInt)) (0) 4294967296 := own_Bcast (own_Bsub Id11 Id12 (by decide)) rfl (by decide) (by decide)
    have J13n := J13.nn
    rw [c155_c2_hv21_2] at J13
    obtain ⟨c155_c2_v22_2, c155_c2_hv22_2⟩ : ∃ v, FP.dadd c155_c2_v22 c155_c2_v21_2 = v := ⟨_, rfl⟩
    have J14 : own_B (FP.dadd c155_c2_v22 c155_c2_v21_2) (((0) + (v13.toInt - (v6.toInt))) + (v24.toInt - (v17.toInt))) (0) 8589934592 := own_Bcast (own_Badd J10 J13 (by decide)) rfl (by decide) (by decide)
    have J14n := J14.nn
    rw [c155_c2_hv22_2] at J14
    have Id15 : own_B (FP.l2d v116) ((((((0)) + (((v13.toInt) - (v6.toInt))))) + (((v24.toInt) - (v17.toInt))))) 0 8589934592 := own_Bl2d L_v116 (by decide)
    exact own_rm_w2 l Z a0 hw ws p0 p1 p2 p3 h0 n0 Z0 (w2_hv2 := hn) (w2_hv6 := hv6) (w2_hv12 := hv12) (w2_hv13 := hv13) (w2_hv17 := hv17) (w2_hv23 := hv23) (w2_hv24 := hv24) (w2_hv29 := hv29) (w2_hv36 := hv36) (w2_hv37 := hv37) (w2_hv79 := hv79) (w2_hv82 := hv82) (w2_hv83 := hv83) (w2_hv84 := hv84) (w2_hv111 := hv111) (w2_hv114 := hv114) (w2_hv115 := hv115) (w2_hv116 := hv116) (w2_c155_c2_hn21 := J8n) (w2_c155_c2_hv21 := c155_c2_hv21) (w2_c155_c2_hn22 := J10n) (w2_c155_c2_hv22 := c155_c2_hv22) (w2_c155_c2_hn21_2 := J13n) (w2_c155_c2_hv21_2 := c155_c2_hv21_2) (w2_c155_c2_hn22_2 := J14n) (w2_c155_c2_hv22_2 := c155_c2_hv22_2) (w2_hc165 := (own_eq0 J14.is Id15.is (by first | rfl | omega | grind) _))
  · obtain ⟨v6, hv6⟩ : ∃ v, Int64.toInt32 p1 = v := ⟨_, rfl⟩
    obtain ⟨v12, hv12⟩ : ∃ v, (Int64.toUInt64 p1 >>> ((32 : Int32) &&& 63).toInt64.toUInt64).toInt64 = v := ⟨_, rfl⟩
    obtain ⟨v13, hv13⟩ : ∃ v, Int64.toInt32 v12 = v := ⟨_, rfl⟩
    obtain ⟨v17, hv17⟩ : ∃ v, Int64.toInt32 p2 = v := ⟨_, rfl⟩
    obtain ⟨v23, hv23⟩ : ∃ v, (Int64.toUInt64 p2 >>> ((32 : Int32) &&& 63).toInt64.toUInt64).toInt64 = v := ⟨_, rfl⟩
    obtain ⟨v24, hv24⟩ : ∃ v, Int64.toInt32 v23 = v := ⟨_, rfl⟩
    obtain ⟨v29, hv29⟩ : ∃ v, Int64.toInt32 p3 = v := ⟨_, rfl⟩
    obtain ⟨v36, hv36⟩ : ∃ v, (Int64.toUInt64 p3 >>> ((32 : Int32) &&& 63).toInt64.toUInt64).toInt64 = v := ⟨_, rfl⟩
    obtain ⟨v37, hv37⟩ : ∃ v, Int64.toInt32 v36 = v := ⟨_, rfl⟩
    obtain ⟨v79, hv79⟩ : ∃ v, Int32.toInt64 v13 = v := ⟨_, rfl⟩
    have Ir1 := own_Irng v13
    have L_v79 := own_Ii2l hv79 Ir1
    obtain ⟨v82, hv82⟩ : ∃ v, Int32.toInt64 v6 = v := ⟨_, rfl⟩
    have Ir2 := own_Irng v6
    have L_v82 := own_Ii2l hv82 Ir2
    obtain ⟨v83, hv83⟩ : ∃ v, v79 - v82 = v := ⟨_, rfl⟩
    have L_v83 : own_L v83 ((v13.toInt) - (v6.toInt)) 4294967296 := own_Lcast (own_Lsub hv83 L_v79 L_v82 (by decide)) rfl (by decide)
    obtain ⟨v84, hv84⟩ : ∃ v, (0 : Int64) + v83 = v := ⟨_, rfl⟩
    have Il3 : own_L (0 : Int64) (0) 0 := ⟨by decide, by decide, by decide⟩
    have L_v84 : own_L v84 (((0)) + (((v13.toInt) - (v6.toInt)))) 4294967296 := own_Lcast (own_Ladd hv84 Il3 L_v83 (by decide)) rfl (by decide)
    obtain ⟨v111, hv111⟩ : ∃ v, Int32.toInt64 v24 = v := ⟨_, rfl⟩
    have Ir4 := own_Irng v24
    have L_v111 := own_Ii2l hv111 Ir4
    obtain ⟨v114, hv114⟩ : ∃ v, Int32.toInt64 v17 = v := ⟨_, rfl⟩
    have Ir5 := own_Irng v17
    have L_v114 := own_Ii2l hv114 Ir5
    obtain ⟨v115, hv115⟩ : ∃ v, v111 - v114 = v := ⟨_, rfl⟩
    have L_v115 : own_L v115 ((v24.toInt) - (v17.toInt)) 4294967296 := own_Lcast (own_Lsub hv115 L_v111 L_v114 (by decide)) rfl (by decide)
    obtain ⟨v116, hv116⟩ : ∃ v, v84 + v115 = v := ⟨_, rfl⟩
    have L_v116 : own_L v116 (((((0)) + (((v13.toInt) - (v6.toInt))))) + (((v24.toInt) - (v17.toInt)))) 8589934592 := own_Lcast (own_Ladd hv116 L_v84 L_v115 (by decide)) rfl (by decide)
    obtain ⟨v143, hv143⟩ : ∃ v, Int32.toInt64 v37 = v := ⟨_, rfl⟩
    have Ir6 := own_Irng v37
    have L_v143 := own_Ii2l hv143 Ir6
    obtain ⟨v146, hv146⟩ : ∃ v, Int32.toInt64 v29 = v := ⟨_, rfl⟩
    have Ir7 := own_Irng v29
    have L_v146 := own_Ii2l hv146 Ir7
    obtain ⟨v147, hv147⟩ : ∃ v, v143 - v146 = v := ⟨_, rfl⟩
    have L_v147 : own_L v147 ((v37.toInt) - (v29.toInt)) 4294967296 := own_Lcast (own_Lsub hv147 L_v143 L_v146 (by decide)) rfl (by decide)
    obtain ⟨v148, hv148⟩ : ∃ v, v116 + v147 = v := ⟨_, rfl⟩
    have L_v148 : own_L v148 (((((((0)) + (((v13.toInt) - (v6.toInt))))) + (((v24.toInt) - (v17.toInt))))) + (((v37.toInt) - (v29.toInt)))) 12884901888 := own_Lcast (own_Ladd hv148 L_v116 L_v147 (by decide)) rfl (by decide)
    obtain ⟨c155_c3_v21, c155_c3_hv21⟩ : ∃ v, FP.dsub (FP.i2d v13) (FP.i2d v6) = v := ⟨_, rfl⟩
    have Id8 : own_B (FP.i2d v13) (v13.toInt) 0 2147483648 := own_Bi2d Ir1
    have Id9 : own_B (FP.i2d v6) (v6.toInt) 0 2147483648 := own_Bi2d Ir2
    have J10 : own_B (FP.dsub (FP.i2d v13) (FP.i2d v6)) (v13.toInt - (v6.toInt)) (0) 4294967296 := own_Bcast (own_Bsub Id8 Id9 (by decide)) rfl (by decide) (by decide)
    have J10n := J10.nn
    rw [c155_c3_hv21] at J10
    obtain ⟨c155_c3_v22, c155_c3_hv22⟩ : ∃ v, FP.dadd 0 c155_c3_v21 = v := ⟨_, rfl⟩
    have Ic11 : own_B 0 (0) 0 0 := ⟨⟨(Jvm.FP.Core.fin_bits _).mpr (by decide), by decide, by decide +kernel⟩, by decide, by decide⟩
    have J12 : own_B (FP.dadd 0 c155_c3_v21) ((0) + (v13.toInt - (v6.toInt))) (0) 4294967296 := own_Bcast (own_Badd Ic11 J10 (by decide)) rfl (by decide) (by decide)
    have J12n := J12.nn
    rw [c155_c3_hv22] at J12
    obtain ⟨c155_c3_v21_2, c155_c3_hv21_2⟩ : ∃ v, FP.dsub (FP.i2d v24) (FP.i2d v17) = v := ⟨_, rfl⟩
    have Id13 : own_B (FP.i2d v24) (v24.toInt) 0 2147483648 := own_Bi2d Ir4
    have Id14 : own_B (FP.i2d v17) (v17.toInt) 0 2147483648 := own_Bi2d Ir5
    have J15 : own_B (FP.dsub (FP.i2d v24) (FP.i2d v17)) (v24.toInt - (v17.toInt)) (0) 4294967296 := own_Bcast (own_Bsub Id13 Id14 (by decide)) rfl (by decide) (by decide)
    have J15n := J15.nn
    rw [c155_c3_hv21_2] at J15
    obtain ⟨c155_c3_v22_2, c155_c3_hv22_2⟩ : ∃ v, FP.dadd c155_c3_v22 c155_c3_v21_2 = v := ⟨_, rfl⟩
    have J16 : own_B (FP.dadd c155_c3_v22 c155_c3_v21_2) (((0) + (v13.toInt - (v6.toInt))) + (v24.toInt - (v17.toInt))) (0) 8589934592 := own_Bcast (own_Badd J12 J15 (by decide)) rfl (by decide) (by decide)
    have J16n := J16.nn
    rw [c155_c3_hv22_2] at J16
    obtain ⟨c155_c3_v21_3, c155_c3_hv21_3⟩ : ∃ v, FP.dsub (FP.i2d v37) (FP.i2d v29) = v := ⟨_, rfl⟩
    have Id17 : own_B (FP.i2d v37) (v37.toInt) 0 2147483648 := own_Bi2d Ir6
    have Id18 : own_B (FP.i2d v29) (v29.toInt) 0 2147483648 := own_Bi2d Ir7
    have J19 : own_B (FP.dsub (FP.i2d v37) (FP.i2d v29)) (v37.toInt - (v29.toInt)) (0) 4294967296 := own_Bcast (own_Bsub Id17 Id18 (by decide)) rfl (by decide) (by decide)
    have J19n := J19.nn
    rw [c155_c3_hv21_3] at J19
    obtain ⟨c155_c3_v22_3, c155_c3_hv22_3⟩ : ∃ v, FP.dadd c155_c3_v22_2 c155_c3_v21_3 = v := ⟨_, rfl⟩
    have J20 : own_B (FP.dadd c155_c3_v22_2 c155_c3_v21_3) ((((0) + (v13.toInt - (v6.toInt))) + (v24.toInt - (v17.toInt))) + (v37.toInt - (v29.toInt))) (0) 12884901888 := own_Bcast (own_Badd J16 J19 (by decide)) rfl (by decide) (by decide)
    have J20n := J20.nn
    rw [c155_c3_hv22_3] at J20
    have Id21 : own_B (FP.l2d v148) ((((((((0)) + (((v13.toInt) - (v6.toInt))))) + (((v24.toInt) - (v17.toInt))))) + (((v37.toInt) - (v29.toInt))))) 0 12884901888 := own_Bl2d L_v148 (by decide)
    exact own_rm_w3 l Z a0 hw ws p0 p1 p2 p3 h0 n0 Z0 (w3_hv2 := hn) (w3_hv6 := hv6) (w3_hv12 := hv12) (w3_hv13 := hv13) (w3_hv17 := hv17) (w3_hv23 := hv23) (w3_hv24 := hv24) (w3_hv29 := hv29) (w3_hv36 := hv36) (w3_hv37 := hv37) (w3_hv79 := hv79) (w3_hv82 := hv82) (w3_hv83 := hv83) (w3_hv84 := hv84) (w3_hv111 := hv111) (w3_hv114 := hv114) (w3_hv115 := hv115) (w3_hv116 := hv116) (w3_hv143 := hv143) (w3_hv146 := hv146) (w3_hv147 := hv147) (w3_hv148 := hv148) (w3_c155_c3_hn21 := J10n) (w3_c155_c3_hv21 := c155_c3_hv21) (w3_c155_c3_hn22 := J12n) (w3_c155_c3_hv22 := c155_c3_hv22) (w3_c155_c3_hn21_2 := J15n) (w3_c155_c3_hv21_2 := c155_c3_hv21_2) (w3_c155_c3_hn22_2 := J16n) (w3_c155_c3_hv22_2 := c155_c3_hv22_2) (w3_c155_c3_hn21_3 := J19n) (w3_c155_c3_hv21_3 := c155_c3_hv21_3) (w3_c155_c3_hn22_3 := J20n) (w3_c155_c3_hv22_3 := c155_c3_hv22_3) (w3_hc165 := (own_eq0 J20.is Id21.is (by first | rfl | omega | grind) _))
set_option maxRecDepth 65536 in
set_option maxHeartbeats 40000000 in
theorem comes_1 {Post : Tables → Env → Array Value → State → Outcome → State → Prop} (hpost : ∀ tb e args s v u, (limb_1_1.after args s (.returned v) u = true ∧ limb_1_2.after args s (.returned v) u = true ∧ True) → FrameEnd s (.returned v) u (Jvm.fieldLocs frame_1_writes args s ++ Jvm.arrayLocs frame_1_arrays args s ++ Jvm.staticLocs frame_1_statics s) 16 128 → Post tb e args s (.returned v) u) :
    ArmFor flags0 classFile x code maxLocals ret World_1 tables_1 room_1 Calls_1 rest_1 Pre_1 Post := by
  intro l hfl _ _ p e ha hc hk s m args below hf hA hF happ hP
  obtain ⟨hcalls, hrest, hpre⟩ := hP
  obtain ⟨-, -, -, hnamed, -, -, -, hat⟩ := (Spec.applies_iff hf).mp happ
  obtain ⟨hg, hn⟩ := and_e (Cond.before_iff.mp (show (Jvm.Cond.and given_1 narrow_1).before args s = true from hpre))
  obtain ⟨hcount, g0⟩ := and_e hg
  obtain ⟨a0, g1⟩ := and_e g0
  obtain ⟨a1, g2⟩ := and_e g1
  obtain ⟨a2, g3⟩ := and_e g2
  have a3 := g3
  obtain ⟨w0, w1, w2, w3, rfl⟩ : ∃ w0 w1 w2 w3 : Value, args = #[w0, w1, w2, w3] := by
    have hs : args.size = 4 := by simpa [Cond.value, given_1] using hcount
    obtain ⟨L⟩ := args
    match L, hs with
    | [w0, w1, w2, w3], _ => exact ⟨w0, w1, w2, w3, rfl⟩
  have hw := fun d (hd : d ∈ tables_1) => atoms_spec (ws := Jvm.Cond.code x code maxLocals ret :: tables_1) hat d (List.mem_cons_of_mem _ hd)
  obtain ⟨i0, ei0⟩ := is_v a0
  obtain rfl : w0 = (.int i0) := Option.some.inj ei0
  obtain ⟨i1, ei1⟩ := isL_v a1
  obtain rfl : w1 = (.long i1) := Option.some.inj ei1
  obtain ⟨i2, ei2⟩ := isL_v a2
  obtain rfl : w2 = (.long i2) := Option.some.inj ei2
  obtain ⟨i3, ei3⟩ := isL_v a3
  obtain rfl : w3 = (.long i3) := Option.some.inj ei3
  obtain ⟨n, o, h1, h2, h3, _, L, rfl, ⟨rfl, N⟩, hq⟩ := own_rm0 l s _ hw tables_1 i0 i1 i2 i3 s.heap s.heap.size (Nat.le_refl _)  p e ha hc hk s m _ below hf ((Spec.applies_iff_loose hf).mp happ).1 ⟨rfl, State.Warmed39.refl s, rfl⟩ trivial
  refine ⟨n, _, h1, h2, h3, hpost _ _ _ _ _ _ ⟨Cond.after_iff.mpr rfl, Cond.after_iff.mpr (eq_i res_at (Term.int_eval (1)) rfl), trivial⟩ ⟨hq.1, hq.2.1, (hq.2.2.sift fun y hy => Or.inr (N y hy)).mono (by decide) (by decide)⟩⟩
theorem main_1_1 : Claimed_1_1 := comes_1 fun _ _ _ _ _ _ h hF => ⟨h.1, hF⟩
theorem main_1_2 : Claimed_1_2 := comes_1 fun _ _ _ _ _ _ h hF => ⟨h.2.1, hF⟩
end Jvm.Pilot.@@N@@
namespace Jvm.Pilot.@@N@@
open Jvm Jvm.ClassFile Sem Op Lib Jvm.Free Jvm.Stand Jvm.Pilot.@@N@@.Jvm.D
/-! MADE BY PROGRAM (witnessworld.py) out of the Statement's table words and the real class files: 9 classes; the members and pool entries that the words name. The judged class is class 1, her method 1. -/
namespace start1
open Jvm.ClassFile
def u (s : String) : CpInfo := .utf8 (stringToUtf16 s)
/-- a pool by its gaps: so many unusable entries, then the entry; so many at the end -/
def gap : Nat → List CpInfo → List CpInfo
  | 0, r => r
  | n + 1, r => .unusable :: gap n r
def poolList (es : List (Nat × CpInfo)) (last : Nat) : List CpInfo := es.foldr (fun e r => gap e.1 (e.2 :: r)) (gap last [])
def pool (es : List (Nat × CpInfo)) (last : Nat) : Array CpInfo := ⟨poolList es last⟩
def fileOf (pool : Array CpInfo) (this : Nat) (attrs : Array Attribute := #[]) (ms : Array MethodInfo := #[]) (fl : Nat := 33) (sup : Nat := 0) (ifs : Array Nat := #[]) (fds : Array FieldInfo := #[]) : ClassFile where
  minorVersion := 0
  majorVersion := 65
  constantPool := pool
  accessFlags := fl
  thisClass := this
  superClass := sup
  interfaces := ifs
  fields := fds
  methods := ms
  attributes := attrs
def plain (name : String) (sup : Option ClassId) : Class where
  name := name
  kind := .ordinary
  loader := none
  accessFlags := 33
  super := sup
  interfaces := #[]
  cf := none
  fields := #[]
  methods := #[]
  instanceTypes := #[]
  staticTypes := #[]
  resolved := #[]
  callSites := []
  init := .initialized
  statics := none
  mirror := none

def pool0 : Array CpInfo := pool [(5, u "<init>"), (0, u "()V"), (1, .class_ 10), (1, u "java/lang/Object")] 113

def k0m0 : Method := { name := "<init>", desc := "()V", sig := { parameters := [], returnType := none }, accessFlags := 1, code := none }
/-- java/lang/Object -/
def k0 : Class := { plain "java/lang/Object" none with
  accessFlags := 33
  interfaces := #[]
  cf := some (fileOf pool0 8 #[] #[{ accessFlags := 1, nameIndex := 5, descriptorIndex := 6, attributes := #[] }] 33 0 #[] #[])
  fields := #[]
  methods := #[k0m0]
  instanceTypes := #[]
  staticTypes := #[]
  resolved := Array.replicate 124 none
  statics := none }

def pool1 : Array CpInfo := pool [(2, .class_ 4), (1, u "java/lang/Object"), (0, u "<init>"), (0, u "()V"), (0, .methodref 8 9), (0, .class_ 10), (0, .nameAndType 11 12), (0, u "com/example/thicket/thicket/core/Box"), (0, u "margin"), (0, u "([D[D)D"), (0, .class_ 14), (0, u "com/example/thicket/thicket/core/BoxMarginPinLaw"), (2, u "law"), (0, u "(IJJJ)Z")] 5

def k1m0 : Method := { name := "<init>", desc := "()V", sig := { parameters := [], returnType := none }, accessFlags := 1, code := none }
def k1c1 : Code := { maxStack := 6, maxLocals := 20, code := code, exceptionTable := #[], attributes := #[] }
def k1m1 : Method := { name := "law", desc := "(IJJJ)Z", sig := { parameters := [.int, .long, .long, .long], returnType := some .boolean }, accessFlags := 9, code := some k1c1 }
/-- com/example/thicket/thicket/core/BoxMarginPinLaw -/
def k1 : Class := { plain "com/example/thicket/thicket/core/BoxMarginPinLaw" (some 0) with
  accessFlags := 49
  interfaces := #[]
  cf := some (fileOf pool1 13 #[] #[{ accessFlags := 1, nameIndex := 5, descriptorIndex := 6, attributes := #[] }, { accessFlags := 9, nameIndex := 17, descriptorIndex := 18, attributes := #[] }] 49 2 #[] #[])
  fields := #[]
  methods := #[k1m0, k1m1]
  instanceTypes := #[]
  staticTypes := #[]
  resolved := Array.replicate 24 none
  statics := none }

def pool2 : Array CpInfo := pool [(2, .class_ 4), (1, u "java/lang/Object"), (5, u "[D"), (3, .class_ 16), (1, u "com/example/thicket/thicket/core/Box"), (0, u "min"), (2, u "max"), (22, u "([D[D)D"), (2, u "margin")] 99

def k2c0 : Code := { maxStack := 6, maxLocals := 5, code := prog_2_method_9_code, exceptionTable := #[], attributes := #[] }
def k2m0 : Method := { name := "margin", desc := "([D[D)D", sig := { parameters := [(.array .double), (.array .double)], returnType := some .double }, accessFlags := 8, code := some k2c0 }
/-- com/example/thicket/thicket/core/Box -/
def k2 : Class := { plain "com/example/thicket/thicket/core/Box" (some 0) with
  accessFlags := 49
  interfaces := #[]
  cf := some (fileOf pool2 14 #[] #[{ accessFlags := 8, nameIndex := 46, descriptorIndex := 43, attributes := #[] }] 49 2 #[] #[{ accessFlags := 18, nameIndex := 17, descriptorIndex := 10, attributes := #[] }, { accessFlags := 18, nameIndex := 20, descriptorIndex := 10, attributes := #[] }])
  fields := #[{ name := "min", type := (.array .double), accessFlags := 18, slot := 0, constantValue := 0 }, { name := "max", type := (.array .double), accessFlags := 18, slot := 1, constantValue := 0 }]
  methods := #[k2m0]
  instanceTypes := #[(.array .double), (.array .double)]
  staticTypes := #[]
  resolved := Array.replicate 146 none
  statics := none }

def pool3 : Array CpInfo := pool [(1, u "java/lang/Cloneable"), (0, .class_ 1), (0, u "java/lang/Object"), (0, .class_ 3)] 3

/-- java/lang/Cloneable -/
def k3 : Class := { plain "java/lang/Cloneable" (some 0) with
  accessFlags := 1537
  interfaces := #[]
  cf := some (fileOf pool3 2 #[] #[] 1537 4 #[] #[])
  fields := #[]
  methods := #[]
  instanceTypes := #[]
  staticTypes := #[]
  resolved := Array.replicate 8 none
  statics := none }

def pool4 : Array CpInfo := pool [(1, u "java/io/Serializable"), (0, .class_ 1), (0, u "java/lang/Object"), (0, .class_ 3)] 3

/-- java/io/Serializable -/
def k4 : Class := { plain "java/io/Serializable" (some 0) with
  accessFlags := 1537
  interfaces := #[]
  cf := some (fileOf pool4 2 #[] #[] 1537 4 #[] #[])
  fields := #[]
  methods := #[]
  instanceTypes := #[]
  staticTypes := #[]
  resolved := Array.replicate 8 none
  statics := none }

/-- the primitive byte -/
def k5 : Class := { plain "byte" none with kind := .primitive 'B', accessFlags := 0x411 }
/-- [B -/
def k6 : Class := { plain "[B" (some 0) with kind := .array 5 .byte, interfaces := #[3, 4], accessFlags := 1041 }

/-- the primitive int -/
def k7 : Class := { plain "int" none with kind := .primitive 'I', accessFlags := 0x411 }
/-- [I -/
def k8 : Class := { plain "[I" (some 0) with kind := .array 7 .int, interfaces := #[3, 4], accessFlags := 1041 }

/-- the primitive double -/
def k9 : Class := { plain "double" none with kind := .primitive 'D', accessFlags := 0x411 }
/-- [D -/
def k10 : Class := { plain "[D" (some 0) with kind := .array 9 .double, interfaces := #[3, 4], accessFlags := 1041 }

def heap : Heap := #[]
def classes : Array Class := #[k0, k1, k2, k3, k4, k5, k6, k7, k8, k9, k10]
def interned : List (Array UInt16 × Addr) := []
def slotsUsed : Nat := 0
def theMethod : MethodId := ⟨1, 1⟩
def args0 : Array Value := #[.int 3, .long 4, .long 5, .long 6]
def aboutOver (below : List Frame) : State where
  vm := { classes := classes, interned := interned.toArray }
  heap := heap
  slotsUsed := slotsUsed
  threads := #[{ frames := .invoking theMethod args0 :: below }]
def below0 : List Frame := [.native { method := ⟨0, 0⟩, args := #[] }]
def about1 : State := aboutOver below0
def p0 : Program := .bare "" "" ""
def e0 : Env := launch0.env 0 0 0
theorem w_frames : about1.frames = Frame.invoking theMethod args0 :: below0 := rfl
set_option maxRecDepth 65536 in
theorem w_args : argsFit about1.vm theMethod args0 = true := by decide +kernel
set_option maxRecDepth 65536 in
theorem w_heap : heapFits about1 = true := by decide +kernel
set_option maxRecDepth 65536 in
theorem w_runnable : about1.curStatus? = some .runnable := by decide +kernel
set_option maxRecDepth 65536 in
theorem w_alone : about1.alone = true := by decide +kernel
set_option maxRecDepth 65536 in
theorem w_named : about1.methodNamed? x = some theMethod := by decide +kernel
set_option maxRecDepth 65536 in
theorem w_hears : about1.hears theMethod below0 = true := by decide +kernel
set_option maxRecDepth 65536 in
theorem w_ripe : about1.ripe theMethod args0 below0 = true := by decide +kernel
theorem w_running : about1.status = .running := rfl
set_option maxRecDepth 65536 in
theorem w_room : about1.hasRoom e0.platform room_1 = true :=
  launch0.hasRoom_least _ room_1 (by decide +kernel) (by decide +kernel) (by decide +kernel) (by decide +kernel) (by decide +kernel) (by decide +kernel)
theorem allAtoms_all (ts : List Jvm.Cond) (a : Array Jvm.Value) (st : Jvm.State) : (allAtoms ts).before a st = ts.all (fun c => c.before a st) := by
  induction ts with
  | nil => rfl
  | cons c t ih =>
    show (Jvm.Cond.and c (allAtoms t)).before a st = _
    rw [Jvm.Cond.before_and, ih, List.all_cons]
def words1 : List Jvm.Cond := Jvm.Cond.code x code maxLocals ret :: tables_1
/-- a 'code' word, met by the world's own term for the bytes: nothing is compared byte by byte -/
theorem code_word {y : MethodName} {bytes : ByteArray} {mx : Nat} {rt : Option FieldType} {a : Array Value} {s : State} {m : MethodId} {meth : Method} {c : Code} (h1 : s.methodNamed? y = some m) (h2 : s.vm.method? m = some meth) (h3 : meth.code = some c) (h4 : c.code = bytes)
    (h5 : (c.maxLocals == mx && c.exceptionTable.isEmpty && decide (c.maxStack ≤ mostOperands) && decide (meth.sig.returnType = rt) && !meth.locks && decide (parseMethodDescriptor y.desc = some meth.sig)) = true) : (Jvm.Cond.code y bytes mx rt).before a s = true := by
  simp only [Bool.and_eq_true, beq_iff_eq, Bool.not_eq_true', decide_eq_true_eq] at h5
  obtain ⟨⟨⟨⟨⟨g1, g2⟩, g3⟩, g4⟩, g5⟩, g6⟩ := h5
  simp [Cond.before, Cond.holds, Cond.value, h1, h2, h3, h4, g1, g2, g3, g4, g5, g6]
def isCode : Jvm.Cond → Bool
  | .code _ _ _ _ => true
  | _ => false
theorem all_split {L : List Jvm.Cond} {P : Jvm.Cond → Bool} (h1 : L.all (fun c => isCode c || P c) = true) (h2 : ∀ c ∈ L.filter isCode, P c = true) : L.all P = true := by
  refine List.all_eq_true.mpr fun c hc => ?_
  have h := List.all_eq_true.mp h1 c hc
  rcases Bool.eq_false_or_eq_true (isCode c) with hi | hi
  · exact h2 c (List.mem_filter.mpr ⟨hc, hi⟩)
  · simpa [hi] using h
set_option maxRecDepth 65536 in
theorem w_c0 : (Jvm.Cond.code x code maxLocals ret).before args0 about1 = true := code_word (m := ⟨1, 1⟩) (meth := k1m1) (c := k1c1) (by decide +kernel) rfl rfl rfl (by decide +kernel)
set_option maxRecDepth 65536 in
theorem w_c1 : (Jvm.Cond.code ({ cls := "com/example/thicket/thicket/core/Box", name := "margin", desc := "([D[D)D" } : Jvm.MethodName) prog_2_method_9_code (5 : Nat) (Option.some Jvm.ClassFile.FieldType.double)).before args0 about1 = true := code_word (m := ⟨2, 0⟩) (meth := k2m0) (c := k2c0) (by decide +kernel) rfl rfl rfl (by decide +kernel)
def codes1 : List Jvm.Cond := [Jvm.Cond.code x code maxLocals ret, Jvm.Cond.code ({ cls := "com/example/thicket/thicket/core/Box", name := "margin", desc := "([D[D)D" } : Jvm.MethodName) prog_2_method_9_code (5 : Nat) (Option.some Jvm.ClassFile.FieldType.double)]
set_option maxRecDepth 65536 in
theorem codes_eq : words1.filter isCode = codes1 := rfl
theorem w_codes : ∀ c ∈ words1.filter isCode, c.before args0 about1 = true := by
  rw [codes_eq]
  intro c hc
  simp only [codes1, List.mem_cons, List.not_mem_nil, or_false] at hc
  rcases hc with rfl | rfl
  · exact w_c0
  · exact w_c1
set_option maxRecDepth 65536 in
theorem w_t1 : words1.all (fun c => isCode c || c.before args0 about1) = true := by decide +kernel
theorem w_tables : (allAtoms (Jvm.Cond.code x code maxLocals ret :: tables_1)).before args0 about1 = true := by
  rw [allAtoms_all]
  show words1.all (fun c => c.before args0 about1) = true
  refine all_split ?_ w_codes
  rw [w_t1]
set_option maxRecDepth 65536 in
theorem w_case : (Jvm.Cond.and given_1 narrow_1).before args0 about1 = true := by decide +kernel
theorem w_applies : (headSpec (Jvm.Cond.code x code maxLocals ret :: tables_1) room_1).applies x e0.platform about1 = true :=
  (Spec.applies_iff w_frames).mpr ⟨w_running, w_runnable, w_alone, w_named, w_hears, w_ripe, w_room, w_tables⟩
theorem atStart : AtStart classFile x code maxLocals ret World_1 tables_1 room_1 Calls_1 rest_1 Pre_1 launch0 p0 e0 about1 theMethod args0 below0 :=
  ⟨lists_1, trivial, launch0.admits_env _ _ _, launch0.least_env, fairChoices_fair.cas, fairChoices_fair.clock, w_frames, w_args, w_heap, w_applies, trivial, trivial, w_case⟩
end start1
theorem witness_1 : WitnessClaimed_1 := ⟨start1.p0, start1.e0, start1.about1, start1.theMethod, start1.args0, start1.below0, start1.atStart⟩
end Jvm.Pilot.@@N@@
