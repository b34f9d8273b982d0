import JvmDerived
import JvmDerived.Pilot.@@N@@Statement
import JvmDerived.Pilot.@@N@@Code
set_option linter.unusedVariables false
set_option linter.unusedSimpArgs false
namespace Jvm.Pilot.@@N@@
section OwnFP
open Jvm.FP.Core
/-! Exact doubles: own_Is x n e says that the double x is finite and worth n * 2^e. -/
def own_Is (x : UInt64) (n : Int) (e : Int) : Prop := DFin x ∧ -1074 ≤ e ∧ zval b64 (val64 x) = n * ((2 ^ (e + 1074).toNat : Nat) : Int)
theorem own_qmax : b64.qmax = 971 := by decide
theorem own_pp : b64.p = 53 := rfl
theorem own_powc {a b u v : Nat} (h : a * 2 ^ u = b * 2 ^ v) {w : Int} (hw : w = (u : Int) - v) : a * 2 ^ w.toNat = b * 2 ^ (-w).toNat := by
  subst hw
  have hu : u = ((u : Int) - v).toNat + min u v := by omega
  have hv : v = (-((u : Int) - v)).toNat + min u v := by omega
  have h2 : a * 2 ^ (((u : Int) - v).toNat + min u v) = b * 2 ^ ((-((u : Int) - v)).toNat + min u v) := by rw [← hu, ← hv]; exact h
  rw [Nat.pow_add, Nat.pow_add, ← Nat.mul_assoc, ← Nat.mul_assoc] at h2
  exact Nat.eq_of_mul_eq_mul_right (Nat.two_pow_pos _) h2
theorem own_signed_abs (s : Bool) (c : Nat) : (signed s c).natAbs = c := by cases s <;> simp [signed]
theorem own_signed_mul (s t : Bool) (c d : Nat) : signed (s != t) (c * d) = signed s c * signed t d := by
  cases s <;> cases t <;> simp [signed, Int.natCast_mul, Int.neg_mul, Int.mul_neg]
theorem own_signed_scale (s : Bool) (c d : Nat) : signed s (c * d) = signed s c * (d : Int) := by cases s <;> simp [signed, Int.natCast_mul, Int.neg_mul]
theorem own_round {s : Bool} {c : Nat} {q : Int} {M : Nat} {e : Int} (h2 : -2148 ≤ q) (hM : M < 9007199254740992) (he1 : -1074 ≤ e) (he2 : e ≤ 971) (h : inUnits c q (-2148) = M * 2 ^ (e + 2148).toNat) :
    ∃ c' q', round b64 (.fin s c q) = .fin s c' q' ∧ inUnits c' q' b64.qmin = M * 2 ^ (e + 1074).toNat := by
  have hq : b64.qmin = -1074 := qmin_b64
  obtain ⟨c', q', h1, h3⟩ := round_exact good_b64 s (c := M) (q := e) (show M < 2 ^ 53 from hM) (by rw [hq]; omega) (by rw [own_qmax]; omega)
  refine ⟨c', q', ?_, ?_⟩
  · rw [← h1]
    show roundRatio b64 s c 1 q = roundRatio b64 s M 1 e
    refine roundRatio_congr (by decide) (by decide) ?_
    unfold inUnits at h
    have h4 := own_powc (u := (q - -2148).toNat) (v := (e + 2148).toNat) h (w := q - e) (by omega)
    rw [Nat.mul_one, Nat.mul_one, h4, show -(q - e) = e - q by omega]
  · rw [h3]; unfold inUnits; rw [hq, show e - -1074 = e + 1074 by omega]
theorem own_fin_split {x : UInt64} {n e : Int} (h : own_Is x n e) : ∃ s c q, val64 x = .fin s c q ∧ Jvm.FP.Core.fits b64 (.fin s c q) ∧ signed s (inUnits c q b64.qmin) = n * ((2 ^ (e + 1074).toNat : Nat) : Int) ∧ -1074 ≤ q := by
  obtain ⟨⟨s, c, q, hv⟩, he, hz⟩ := h
  have hf := val64_fits x
  rw [hv] at hf hz
  have := hf.2.1
  rw [qmin_b64] at this
  exact ⟨s, c, q, hv, hf, hz, this⟩
theorem own_Is_of {x : UInt64} {s : Bool} {c : Nat} {q n e : Int} (hv : val64 x = .fin s c q) (he : -1074 ≤ e) (h : signed s (inUnits c q b64.qmin) = n * ((2 ^ (e + 1074).toNat : Nat) : Int)) : own_Is x n e :=
  ⟨⟨s, c, q, hv⟩, he, by rw [hv]; exact h⟩
theorem own_sum {s : Bool} {c : Nat} {q n e : Int} (hq : -1074 ≤ q) (hn : n.natAbs < 9007199254740992) (he1 : -1074 ≤ e) (he2 : e ≤ 971) (h : signed s (inUnits c q b64.qmin) = n * ((2 ^ (e + 1074).toNat : Nat) : Int)) :
    ∃ c' q', round b64 (.fin s c q) = .fin s c' q' ∧ signed s (inUnits c' q' b64.qmin) = n * ((2 ^ (e + 1074).toNat : Nat) : Int) := by
  have h1 : inUnits c q b64.qmin = n.natAbs * 2 ^ (e + 1074).toNat := by
    rw [← own_signed_abs s (inUnits c q b64.qmin), h, Int.natAbs_mul, Int.natAbs_natCast]
  have h2 : inUnits c q (-2148) = n.natAbs * 2 ^ (e + 2148).toNat := by
    rw [inUnits_move c (r := b64.qmin) (by rw [qmin_b64]; omega) (by rw [qmin_b64]; omega), h1, qmin_b64, Nat.mul_assoc, ← Nat.pow_add]
    congr 2; omega
  obtain ⟨c', q', h3, h4⟩ := own_round (s := s) (by omega) hn he1 he2 h2
  exact ⟨c', q', h3, by rw [h4, ← h1, h]⟩
theorem own_add {x y : UInt64} {m n e : Int} (hx : own_Is x m e) (hy : own_Is y n e) (he : e ≤ 971) (hb : (m + n).natAbs < 9007199254740992) : own_Is (dadd x y) (m + n) e := by
  have he1 := hx.2.1
  obtain ⟨s, c, q, vx, fx, zx, -⟩ := own_fin_split hx
  obtain ⟨t, d, r, vy, fy, zy, -⟩ := own_fin_split hy
  obtain ⟨sg, N, E, h1, h2, h3⟩ := sum_units fx fy
  have h4 : signed sg (inUnits N E b64.qmin) = (m + n) * ((2 ^ (e + 1074).toNat : Nat) : Int) := by
    rw [h3, Int.add_mul, ← zx, ← zy]; rfl
  obtain ⟨c', q', h5, h6⟩ := own_sum (by rw [qmin_b64] at h2; exact h2) hb he1 he h4
  exact own_Is_of (by rw [val64_dadd, vx, vy, h1, h5]) he1 h6
theorem own_sub {x y : UInt64} {m n e : Int} (hx : own_Is x m e) (hy : own_Is y n e) (he : e ≤ 971) (hb : (m - n).natAbs < 9007199254740992) : own_Is (dsub x y) (m - n) e := by
  have he1 := hx.2.1
  obtain ⟨s, c, q, vx, fx, zx, -⟩ := own_fin_split hx
  obtain ⟨t, d, r, vy, fy, zy, -⟩ := own_fin_split hy
  have fy' : Jvm.FP.Core.fits b64 (.fin (!t) d r) := fy
  obtain ⟨sg, N, E, h1, h2, h3⟩ := sum_units (t := !t) fx fy'
  have h4 : signed sg (inUnits N E b64.qmin) = (m - n) * ((2 ^ (e + 1074).toNat : Nat) : Int) := by
    rw [h3, Int.sub_mul, ← zx, ← zy]
    show signed s (inUnits c q b64.qmin) + signed (!t) (inUnits d r b64.qmin) = _
    rw [signed_not]; omega
  obtain ⟨c', q', h5, h6⟩ := own_sum (by rw [qmin_b64] at h2; exact h2) hb he1 he h4
  refine own_Is_of (s := sg) (c := c') (q := q') ?_ he1 h6
  rw [val64_dsub, vx, vy]
  show round b64 (exactSum (.fin s c q) (.fin (!t) d r)) = _
  rw [h1, h5]
theorem own_mul {x y : UInt64} {m n e1 e2 e : Int} (hx : own_Is x m e1) (hy : own_Is y n e2) (hee : e1 + e2 = e) (he1 : -1074 ≤ e) (he2 : e ≤ 971) (hb : (m * n).natAbs < 9007199254740992) : own_Is (dmul x y) (m * n) e := by
  subst hee
  have hx1 := hx.2.1
  have hy1 := hy.2.1
  obtain ⟨s, c, q, vx, fx, zx, qx⟩ := own_fin_split hx
  obtain ⟨t, d, r, vy, fy, zy, qy⟩ := own_fin_split hy
  obtain ⟨h1, h2, h3⟩ := product_units fx fy
  have hs : signed (s != t) (inUnits (c * d) (q + r) (-2148)) = (m * n) * ((2 ^ (e1 + e2 + 2148).toNat : Nat) : Int) := by
    have h4 : inUnits (c * d) (q + r) (-2148) = inUnits c q b64.qmin * inUnits d r b64.qmin := by
      have := h3
      rw [qmin_b64] at this ⊢
      exact this
    rw [h4, own_signed_mul, zx, zy, show (e1 + e2 + 2148).toNat = (e1 + 1074).toNat + (e2 + 1074).toNat by omega, Nat.pow_add, Int.natCast_mul]
    simp only [Int.mul_assoc, Int.mul_left_comm, Int.mul_comm]
  have h5 : inUnits (c * d) (q + r) (-2148) = (m * n).natAbs * 2 ^ (e1 + e2 + 2148).toNat := by
    rw [← own_signed_abs (s != t) (inUnits (c * d) (q + r) (-2148)), hs, Int.natAbs_mul, Int.natAbs_natCast]
  obtain ⟨c', q', h6, h7⟩ := own_round (s := (s != t)) (by omega) hb he1 he2 h5
  refine own_Is_of (s := (s != t)) (c := c') (q := q') (by rw [val64_dmul, vx, vy, h1, h6]) he1 ?_
  rw [h5, own_signed_scale] at hs
  have h8 : signed (s != t) (m * n).natAbs = m * n := Int.eq_of_mul_eq_mul_right (by have := Nat.two_pow_pos (e1 + e2 + 2148).toNat; omega) hs
  rw [h7, own_signed_scale, h8]
/-- the quotient of two exact doubles is the rounded ratio of their numbers -/
theorem own_divR {x y : UInt64} {m n e1 e2 : Int} (hx : own_Is x m e1) (hy : own_Is y n e2) (hn : n ≠ 0) :
    val64 (ddiv x y) = roundRatio b64 (sgn (val64 x) != sgn (val64 y)) m.natAbs n.natAbs (e1 - e2) ∧ signed (sgn (val64 x)) m.natAbs = m ∧ signed (sgn (val64 y)) n.natAbs = n := by
  have hx1 := hx.2.1
  have hy1 := hy.2.1
  obtain ⟨s, c, q, vx, fx, zx, qx⟩ := own_fin_split hx
  obtain ⟨t, d, r, vy, fy, zy, qy⟩ := own_fin_split hy
  have ax : inUnits c q b64.qmin = m.natAbs * 2 ^ (e1 + 1074).toNat := by
    rw [← own_signed_abs s (inUnits c q b64.qmin), zx, Int.natAbs_mul, Int.natAbs_natCast]
  have ay : inUnits d r b64.qmin = n.natAbs * 2 ^ (e2 + 1074).toNat := by
    rw [← own_signed_abs t (inUnits d r b64.qmin), zy, Int.natAbs_mul, Int.natAbs_natCast]
  have sx : signed s m.natAbs = m := by
    rw [ax, own_signed_scale] at zx
    exact Int.eq_of_mul_eq_mul_right (by have := Nat.two_pow_pos (e1 + 1074).toNat; omega) zx
  have sy : signed t n.natAbs = n := by
    rw [ay, own_signed_scale] at zy
    exact Int.eq_of_mul_eq_mul_right (by have := Nat.two_pow_pos (e2 + 1074).toNat; omega) zy
  have nn : n.natAbs ≠ 0 := by omega
  have hd : d ≠ 0 := by
    rintro rfl
    have : n.natAbs * 2 ^ (e2 + 1074).toNat = 0 := by rw [← ay]; unfold inUnits; simp
    rcases Nat.mul_eq_zero.mp this with h | h
    · exact nn h
    · have := Nat.two_pow_pos (e2 + 1074).toNat; omega
  refine ⟨?_, by rw [vx]; exact sx, by rw [vy]; exact sy⟩
  rw [val64_ddiv, vx, vy]
  show (if d = 0 then _ else roundRatio b64 (s != t) c d (q - r)) = roundRatio b64 (s != t) _ _ _
  rw [if_neg hd]
  refine roundRatio_congr (by omega) (by omega) ?_
  unfold inUnits at ax ay
  rw [qmin_b64] at ax ay
  have key : c * n.natAbs * 2 ^ ((q - -1074).toNat + (e2 + 1074).toNat) = m.natAbs * d * 2 ^ ((e1 + 1074).toNat + (r - -1074).toNat) := by
    have e3 : c * n.natAbs * 2 ^ ((q - -1074).toNat + (e2 + 1074).toNat) = (c * 2 ^ (q - -1074).toNat) * (n.natAbs * 2 ^ (e2 + 1074).toNat) := by
      rw [Nat.pow_add]; simp only [Nat.mul_assoc, Nat.mul_left_comm, Nat.mul_comm]
    rw [e3, ax, ← ay, Nat.pow_add]
    simp only [Nat.mul_assoc, Nat.mul_left_comm, Nat.mul_comm]
  have h4 := own_powc key (w := (q - r) - (e1 - e2)) (by omega)
  rw [h4, show -((q - r) - (e1 - e2)) = (e1 - e2) - (q - r) by omega]
theorem own_div {x y : UInt64} {m n N e1 e2 e : Int} (hx : own_Is x m e1) (hy : own_Is y n e2) (hn : n ≠ 0) (hm : m = N * n) (hee : e1 - e2 = e) (he1 : -1074 ≤ e) (he2 : e ≤ 971) (hb : N.natAbs < 9007199254740992) : own_Is (ddiv x y) N e := by
  subst hee
  obtain ⟨h1, h2, h3⟩ := own_divR hx hy hn
  have hq : b64.qmin = -1074 := qmin_b64
  obtain ⟨c', q', h5, h6⟩ := round_exact good_b64 (sgn (val64 x) != sgn (val64 y)) (c := N.natAbs) (q := e1 - e2) (show _ < 2 ^ 53 from hb) (by rw [hq]; omega) (by rw [own_qmax]; omega)
  refine own_Is_of (s := (sgn (val64 x) != sgn (val64 y))) (c := c') (q := q') ?_ he1 ?_
  · rw [h1, ← h5]
    show roundRatio _ _ _ _ _ = roundRatio b64 (sgn (val64 x) != sgn (val64 y)) N.natAbs 1 (e1 - e2)
    refine roundRatio_congr (by omega) (by decide) ?_
    rw [hm, Int.natAbs_mul]; simp
  · rw [h6]; unfold inUnits
    rw [hq, show e1 - e2 - -1074 = e1 - e2 + 1074 by omega, own_signed_scale]
    congr 1
    have h7 := own_signed_mul (sgn (val64 x)) (sgn (val64 y)) N.natAbs (n.natAbs * n.natAbs)
    have h8 : signed (sgn (val64 x) != sgn (val64 y)) (m.natAbs * n.natAbs) = m * n := by rw [own_signed_mul, h2, h3]
    rw [hm, Int.natAbs_mul, Nat.mul_assoc, own_signed_scale] at h8
    have h9 : ((n.natAbs * n.natAbs : Nat) : Int) = n * n := Int.natAbs_mul_self
    rw [h9, Int.mul_assoc] at h8
    refine Int.eq_of_mul_eq_mul_right ?_ h8
    intro h0
    rcases Int.mul_eq_zero.mp h0 with h | h <;> exact hn h
theorem own_shift {x : UInt64} {n e e' : Int} (j : Nat) (hx : own_Is x n e) (hj : e' = e - j) (he : -1074 ≤ e') : own_Is x (n * (2 ^ j : Nat)) e' := by
  subst hj
  refine ⟨hx.1, he, ?_⟩
  rw [hx.2.2, show (e + 1074).toNat = j + (e - j + 1074).toNat by omega, Nat.pow_add, Int.natCast_mul, ← Int.mul_assoc]
theorem own_nn {x : UInt64} {n e : Int} (h : own_Is x n e) : Jvm.Free.Fl.NoNaN64 x := Jvm.Free.Fl.noNaN64_no.mpr h.1.notNaN
theorem own_cmp {x y : UInt64} {m n e : Int} (hx : own_Is x m e) (hy : own_Is y n e) : dcmp x y = some (compare m n) := by
  rw [dcmp_zval hx.1.ne_nan hy.1.ne_nan, hx.2.2, hy.2.2]
  have hp : (0 : Int) < ((2 ^ (e + 1074).toNat : Nat) : Int) := by have := Nat.two_pow_pos (e + 1074).toNat; omega
  congr 1
  refine compare_congr ⟨fun h => Int.lt_of_mul_lt_mul_right h (Int.le_of_lt hp), fun h => Int.mul_lt_mul_of_pos_right h hp⟩ ⟨fun h => Int.eq_of_mul_eq_mul_right (Int.ne_of_gt hp) h, fun h => by rw [h]⟩
theorem own_i2d (a : Int32) : own_Is (i2d a) a.toInt 0 := by
  have h := i2d_int a
  refine ⟨?_, by decide, ?_⟩
  · rw [i2d_l2d]; exact l2d_fin _
  · rw [DInt_zval h]; rfl
theorem own_l2d {a : Int64} (h : a.toInt.natAbs ≤ 9007199254740992) : own_Is (l2d a) a.toInt 0 := by
  have h := l2d_int (a := a) h
  exact ⟨l2d_fin _, by decide, by rw [DInt_zval h]; rfl⟩
/-- with a bound on the number -/
def own_B (x : UInt64) (n e B : Int) : Prop := own_Is x n e ∧ -B ≤ n ∧ n ≤ B
theorem own_B.is {x : UInt64} {n e B : Int} (h : own_B x n e B) : own_Is x n e := h.1
theorem own_B.nn {x : UInt64} {n e B : Int} (h : own_B x n e B) : Jvm.Free.Fl.NoNaN64 x := own_nn h.1
theorem own_Badd {x y : UInt64} {m n e A B : Int} (hx : own_B x m e A) (hy : own_B y n e B) (h : (decide (e ≤ 971) && decide (A + B < 9007199254740992)) = true) : own_B (dadd x y) (m + n) e (A + B) := by
  simp only [Bool.and_eq_true, decide_eq_true_eq] at h
  have := hx.2; have := hy.2
  exact ⟨own_add hx.1 hy.1 h.1 (by omega), by omega, by omega⟩
theorem own_Bsub {x y : UInt64} {m n e A B : Int} (hx : own_B x m e A) (hy : own_B y n e B) (h : (decide (e ≤ 971) && decide (A + B < 9007199254740992)) = true) : own_B (dsub x y) (m - n) e (A + B) := by
  simp only [Bool.and_eq_true, decide_eq_true_eq] at h
  have := hx.2; have := hy.2
  exact ⟨own_sub hx.1 hy.1 h.1 (by omega), by omega, by omega⟩
theorem own_bmul {m n A B : Int} (hm : -A ≤ m ∧ m ≤ A) (hn : -B ≤ n ∧ n ≤ B) : -(A * B) ≤ m * n ∧ m * n ≤ A * B := by
  have h : (m * n).natAbs ≤ A.toNat * B.toNat := by rw [Int.natAbs_mul]; exact Nat.mul_le_mul (by omega) (by omega)
  have h2 : ((A.toNat * B.toNat : Nat) : Int) = A * B := by rw [Int.natCast_mul, Int.toNat_of_nonneg (by omega), Int.toNat_of_nonneg (by omega)]
  omega
theorem own_Bmul {x y : UInt64} {m n e1 e2 A B : Int} (hx : own_B x m e1 A) (hy : own_B y n e2 B) (h : (decide (-1074 ≤ e1 + e2) && decide (e1 + e2 ≤ 971) && decide (A * B < 9007199254740992)) = true) : own_B (dmul x y) (m * n) (e1 + e2) (A * B) := by
  simp only [Bool.and_eq_true, decide_eq_true_eq] at h
  have hb := own_bmul hx.2 hy.2
  exact ⟨own_mul hx.1 hy.1 rfl h.1.1 h.1.2 (by omega), hb⟩
/-- an exact quotient by a power of two (n = 1 in y = 1 * 2^e2) -/
theorem own_Bdiv {x y : UInt64} {m e1 e2 A : Int} (hx : own_B x m e1 A) (hy : own_Is y 1 e2) (h : (decide (-1074 ≤ e1 - e2) && decide (e1 - e2 ≤ 971) && decide (A < 9007199254740992)) = true) : own_B (ddiv x y) m (e1 - e2) A := by
  simp only [Bool.and_eq_true, decide_eq_true_eq] at h
  have := hx.2
  exact ⟨own_div hx.1 hy (by decide) (Int.mul_one _).symm rfl h.1.1 h.1.2 (by omega), hx.2⟩
theorem own_Bshift {x : UInt64} {n e A : Int} (j : Nat) (P : Int) (hx : own_B x n e A) (h : (decide (-1074 ≤ e - j) && decide (((2 ^ j : Nat) : Int) = P)) = true) : own_B x (n * P) (e - j) (A * P) := by
  simp only [Bool.and_eq_true, decide_eq_true_eq] at h
  obtain ⟨h, rfl⟩ := h
  refine ⟨own_shift j hx.1 rfl h, ?_⟩
  have hp : (0 : Int) ≤ (2 ^ j : Nat) := Int.natCast_nonneg _
  have := hx.2
  constructor
  · rw [← Int.neg_mul]; exact Int.mul_le_mul_of_nonneg_right this.1 hp
  · exact Int.mul_le_mul_of_nonneg_right this.2 hp
theorem own_Bcast {x : UInt64} {n n' e e' A A' : Int} (h : own_B x n e A) (hn : n = n') (he : e = e') (hA : A ≤ A') : own_B x n' e' A' := by
  subst hn he; exact ⟨h.1, by have := h.2; omega, by have := h.2; omega⟩
theorem own_eq0 {x y : UInt64} {m n e : Int} (hx : own_Is x m e) (hy : own_Is y n e) (h : m = n) (o : ClassFile.CmpOp) : Op.cmpValue (Jvm.FP.dcmp x y) o = 0 := by
  show Op.cmpValue (dcmp x y) o = 0
  subst h
  rw [own_cmp hx hy, show compare m m = .eq from (compare_eq_iff m m).mpr rfl]; cases o <;> rfl
theorem own_cmpv {x y : UInt64} {m n e : Int} (hx : own_Is x m e) (hy : own_Is y n e) (o : ClassFile.CmpOp) : (m < n → Op.cmpValue (Jvm.FP.dcmp x y) o = -1) ∧ (m = n → Op.cmpValue (Jvm.FP.dcmp x y) o = 0) ∧ (n < m → Op.cmpValue (Jvm.FP.dcmp x y) o = 1) := by
  refine ⟨fun h => ?_, fun h => own_eq0 hx hy h o, fun h => ?_⟩
  · show Op.cmpValue (dcmp x y) o = -1
    rw [own_cmp hx hy, (compare_lt_iff m n).mpr h]; cases o <;> rfl
  · show Op.cmpValue (dcmp x y) o = 1
    rw [own_cmp hx hy, (compare_gt_iff m n).mpr h]; cases o <;> rfl
theorem own_one : own_Is 4607182418800017408 1 0 := ⟨(fin_bits _).mpr (by decide), by decide, by decide +kernel⟩
theorem own_zero : own_Is 0 0 0 := ⟨(fin_bits _).mpr (by decide), by decide, by decide +kernel⟩
/-! ints and longs with their numbers and bounds -/
def own_I (v : Int32) (n B : Int) : Prop := v.toInt = n ∧ -B ≤ n ∧ n ≤ B
def own_L (v : Int64) (n B : Int) : Prop := v.toInt = n ∧ -B ≤ n ∧ n ≤ B
theorem own_Iadd {a b v : Int32} {m n A B : Int} (hv : a + b = v) (ha : own_I a m A) (hb : own_I b n B) (h : decide (A + B < 2147483648) = true) : own_I v (m + n) (A + B) := by
  subst hv; simp only [decide_eq_true_eq] at h; obtain ⟨rfl, h1, h2⟩ := ha; obtain ⟨rfl, h3, h4⟩ := hb
  exact ⟨by rw [Int32.toInt_add]; exact Int.bmod_eq_of_le (by omega) (by omega), by omega, by omega⟩
theorem own_Isub {a b v : Int32} {m n A B : Int} (hv : a - b = v) (ha : own_I a m A) (hb : own_I b n B) (h : decide (A + B < 2147483648) = true) : own_I v (m - n) (A + B) := by
  subst hv; simp only [decide_eq_true_eq] at h; obtain ⟨rfl, h1, h2⟩ := ha; obtain ⟨rfl, h3, h4⟩ := hb
  exact ⟨by rw [Int32.toInt_sub]; exact Int.bmod_eq_of_le (by omega) (by omega), by omega, by omega⟩
theorem own_Imul {a b v : Int32} {m n A B : Int} (hv : a * b = v) (ha : own_I a m A) (hb : own_I b n B) (h : decide (A * B < 2147483648) = true) : own_I v (m * n) (A * B) := by
  subst hv; simp only [decide_eq_true_eq] at h; obtain ⟨rfl, h1⟩ := ha; obtain ⟨rfl, h3⟩ := hb
  have hb := own_bmul h1 h3
  exact ⟨by rw [Int32.toInt_mul]; exact Int.bmod_eq_of_le (by omega) (by omega), hb⟩
theorem own_Ladd {a b v : Int64} {m n A B : Int} (hv : a + b = v) (ha : own_L a m A) (hb : own_L b n B) (h : decide (A + B < 9223372036854775808) = true) : own_L v (m + n) (A + B) := by
  subst hv; simp only [decide_eq_true_eq] at h; obtain ⟨rfl, h1, h2⟩ := ha; obtain ⟨rfl, h3, h4⟩ := hb
  exact ⟨by rw [Int64.toInt_add]; exact Int.bmod_eq_of_le (by omega) (by omega), by omega, by omega⟩
theorem own_Lsub {a b v : Int64} {m n A B : Int} (hv : a - b = v) (ha : own_L a m A) (hb : own_L b n B) (h : decide (A + B < 9223372036854775808) = true) : own_L v (m - n) (A + B) := by
  subst hv; simp only [decide_eq_true_eq] at h; obtain ⟨rfl, h1, h2⟩ := ha; obtain ⟨rfl, h3, h4⟩ := hb
  exact ⟨by rw [Int64.toInt_sub]; exact Int.bmod_eq_of_le (by omega) (by omega), by omega, by omega⟩
theorem own_Lmul {a b v : Int64} {m n A B : Int} (hv : a * b = v) (ha : own_L a m A) (hb : own_L b n B) (h : decide (A * B < 9223372036854775808) = true) : own_L v (m * n) (A * B) := by
  subst hv; simp only [decide_eq_true_eq] at h; obtain ⟨rfl, h1⟩ := ha; obtain ⟨rfl, h3⟩ := hb
  have hb := own_bmul h1 h3
  exact ⟨by rw [Int64.toInt_mul]; exact Int.bmod_eq_of_le (by omega) (by omega), hb⟩
theorem own_Ii2l {a : Int32} {v : Int64} {m A : Int} (hv : Int32.toInt64 a = v) (ha : own_I a m A) : own_L v m A := by
  subst hv; exact ⟨by rw [Int32.toInt_toInt64]; exact ha.1, ha.2⟩
theorem own_Icast {v : Int32} {n n' A A' : Int} (h : own_I v n A) (hn : n = n') (hA : A ≤ A') : own_I v n' A' := by
  subst hn; exact ⟨h.1, by have := h.2; omega, by have := h.2; omega⟩
theorem own_Lcast {v : Int64} {n n' A A' : Int} (h : own_L v n A) (hn : n = n') (hA : A ≤ A') : own_L v n' A' := by
  subst hn; exact ⟨h.1, by have := h.2; omega, by have := h.2; omega⟩
theorem own_Bi2d {v : Int32} {n A : Int} (h : own_I v n A) : own_B (i2d v) n 0 A := by
  obtain ⟨rfl, h1⟩ := h; exact ⟨own_i2d v, h1⟩
theorem own_Bl2d {v : Int64} {n A : Int} (h : own_L v n A) (hA : decide (A ≤ 9007199254740992) = true) : own_B (l2d v) n 0 A := by
  simp only [decide_eq_true_eq] at hA; obtain ⟨rfl, h1⟩ := h; exact ⟨own_l2d (by omega), h1⟩
theorem own_Irng (v : Int32) : own_I v v.toInt 2147483648 := ⟨rfl, by have := Jvm.RoadKit.rng32 v; omega, by have := Jvm.RoadKit.rng32 v; omega⟩
theorem own_Iand {x m v : Int32} {B : Int} (hv : x &&& m = v) (hB : m.toInt = B) (h0 : 0 ≤ B) : own_I v v.toInt B := by
  have := Jvm.RoadKit.c_and x m (by omega); rw [hv] at this; exact ⟨rfl, by omega, by omega⟩
end OwnFP
section OwnStep
open Jvm Jvm.ClassFile Sem Op Lib Jvm.Free Jvm.Stand Jvm.LawKit Jvm.RoadKit
variable {tb : Tables} [Ours tb] {e : Env} {below : List Frame} {T target : State} {m : MethodId} {c : Code} {pc pc' : Nat} {L : Array Slot} {S : List Value}
theorem own_s_iadd (h : At T m c below) (hx : tb.exec = Jvm.exec) {x y v : Int32} (hd : decode c.code pc = .ok (.iadd, 1)) (hp : pc + 1 = pc') (hv : x + y = v)
    (hr : Steps tb e below (T.setTop (mkF m pc' L (.int v :: S))) target) : Steps tb e below (T.setTop (mkF m pc L (.int y :: .int x :: S))) target := by
  subst hv hp; exact XS.iadd h hx rfl hd rfl hr
theorem own_s_ladd (h : At T m c below) (hx : tb.exec = Jvm.exec) {x y v : Int64} (hd : decode c.code pc = .ok (.ladd, 1)) (hp : pc + 1 = pc') (hv : x + y = v)
    (hr : Steps tb e below (T.setTop (mkF m pc' L (.long v :: S))) target) : Steps tb e below (T.setTop (mkF m pc L (.long y :: .long x :: S))) target := by
  subst hv hp; exact XS.ladd h hx rfl hd rfl hr
theorem own_s_isub (h : At T m c below) (hx : tb.exec = Jvm.exec) {x y v : Int32} (hd : decode c.code pc = .ok (.isub, 1)) (hp : pc + 1 = pc') (hv : x - y = v)
    (hr : Steps tb e below (T.setTop (mkF m pc' L (.int v :: S))) target) : Steps tb e below (T.setTop (mkF m pc L (.int y :: .int x :: S))) target := by
  subst hv hp; exact XS.isub h hx rfl hd rfl hr
theorem own_s_lsub (h : At T m c below) (hx : tb.exec = Jvm.exec) {x y v : Int64} (hd : decode c.code pc = .ok (.lsub, 1)) (hp : pc + 1 = pc') (hv : x - y = v)
    (hr : Steps tb e below (T.setTop (mkF m pc' L (.long v :: S))) target) : Steps tb e below (T.setTop (mkF m pc L (.long y :: .long x :: S))) target := by
  subst hv hp; exact XS.lsub h hx rfl hd rfl hr
theorem own_s_imul (h : At T m c below) (hx : tb.exec = Jvm.exec) {x y v : Int32} (hd : decode c.code pc = .ok (.imul, 1)) (hp : pc + 1 = pc') (hv : x * y = v)
    (hr : Steps tb e below (T.setTop (mkF m pc' L (.int v :: S))) target) : Steps tb e below (T.setTop (mkF m pc L (.int y :: .int x :: S))) target := by
  subst hv hp; exact XS.imul h hx rfl hd rfl hr
theorem own_s_lmul (h : At T m c below) (hx : tb.exec = Jvm.exec) {x y v : Int64} (hd : decode c.code pc = .ok (.lmul, 1)) (hp : pc + 1 = pc') (hv : x * y = v)
    (hr : Steps tb e below (T.setTop (mkF m pc' L (.long v :: S))) target) : Steps tb e below (T.setTop (mkF m pc L (.long y :: .long x :: S))) target := by
  subst hv hp; exact XS.lmul h hx rfl hd rfl hr
theorem own_s_iand (h : At T m c below) (hx : tb.exec = Jvm.exec) {x y v : Int32} (hd : decode c.code pc = .ok (.iand, 1)) (hp : pc + 1 = pc') (hv : x &&& y = v)
    (hr : Steps tb e below (T.setTop (mkF m pc' L (.int v :: S))) target) : Steps tb e below (T.setTop (mkF m pc L (.int y :: .int x :: S))) target := by
  subst hv hp; exact XS.iand h hx rfl hd rfl hr
theorem own_s_land (h : At T m c below) (hx : tb.exec = Jvm.exec) {x y v : Int64} (hd : decode c.code pc = .ok (.land, 1)) (hp : pc + 1 = pc') (hv : x &&& y = v)
    (hr : Steps tb e below (T.setTop (mkF m pc' L (.long v :: S))) target) : Steps tb e below (T.setTop (mkF m pc L (.long y :: .long x :: S))) target := by
  subst hv hp; exact XS.land h hx rfl hd rfl hr
theorem own_s_ior (h : At T m c below) (hx : tb.exec = Jvm.exec) {x y v : Int32} (hd : decode c.code pc = .ok (.ior, 1)) (hp : pc + 1 = pc') (hv : x ||| y = v)
    (hr : Steps tb e below (T.setTop (mkF m pc' L (.int v :: S))) target) : Steps tb e below (T.setTop (mkF m pc L (.int y :: .int x :: S))) target := by
  subst hv hp; exact XS.ior h hx rfl hd rfl hr
theorem own_s_lor (h : At T m c below) (hx : tb.exec = Jvm.exec) {x y v : Int64} (hd : decode c.code pc = .ok (.lor, 1)) (hp : pc + 1 = pc') (hv : x ||| y = v)
    (hr : Steps tb e below (T.setTop (mkF m pc' L (.long v :: S))) target) : Steps tb e below (T.setTop (mkF m pc L (.long y :: .long x :: S))) target := by
  subst hv hp; exact XS.lor h hx rfl hd rfl hr
theorem own_s_ixor (h : At T m c below) (hx : tb.exec = Jvm.exec) {x y v : Int32} (hd : decode c.code pc = .ok (.ixor, 1)) (hp : pc + 1 = pc') (hv : x ^^^ y = v)
    (hr : Steps tb e below (T.setTop (mkF m pc' L (.int v :: S))) target) : Steps tb e below (T.setTop (mkF m pc L (.int y :: .int x :: S))) target := by
  subst hv hp; exact XS.ixor h hx rfl hd rfl hr
theorem own_s_lxor (h : At T m c below) (hx : tb.exec = Jvm.exec) {x y v : Int64} (hd : decode c.code pc = .ok (.lxor, 1)) (hp : pc + 1 = pc') (hv : x ^^^ y = v)
    (hr : Steps tb e below (T.setTop (mkF m pc' L (.long v :: S))) target) : Steps tb e below (T.setTop (mkF m pc L (.long y :: .long x :: S))) target := by
  subst hv hp; exact XS.lxor h hx rfl hd rfl hr
theorem own_s_idiv (h : At T m c below) (hx : tb.exec = Jvm.exec) {x y v : Int32} (hd : decode c.code pc = .ok (.idiv, 1)) (hp : pc + 1 = pc') (hy : y ≠ 0) (hv : x / y = v)
    (hr : Steps tb e below (T.setTop (mkF m pc' L (.int v :: S))) target) : Steps tb e below (T.setTop (mkF m pc L (.int y :: .int x :: S))) target := by
  subst hv hp; exact XS.idiv h hx rfl hd rfl hy hr
theorem own_s_irem (h : At T m c below) (hx : tb.exec = Jvm.exec) {x y v : Int32} (hd : decode c.code pc = .ok (.irem, 1)) (hp : pc + 1 = pc') (hy : y ≠ 0) (hv : x % y = v)
    (hr : Steps tb e below (T.setTop (mkF m pc' L (.int v :: S))) target) : Steps tb e below (T.setTop (mkF m pc L (.int y :: .int x :: S))) target := by
  subst hv hp; rw [← irem_eq_mod] at hr; exact XS.irem h hx rfl hd rfl hy hr
theorem own_s_ldiv (h : At T m c below) (hx : tb.exec = Jvm.exec) {x y v : Int64} (hd : decode c.code pc = .ok (.ldiv, 1)) (hp : pc + 1 = pc') (hy : y ≠ 0) (hv : x / y = v)
    (hr : Steps tb e below (T.setTop (mkF m pc' L (.long v :: S))) target) : Steps tb e below (T.setTop (mkF m pc L (.long y :: .long x :: S))) target := by
  subst hv hp; exact XS.ldiv h hx rfl hd rfl hy hr
theorem own_s_lrem (h : At T m c below) (hx : tb.exec = Jvm.exec) {x y v : Int64} (hd : decode c.code pc = .ok (.lrem, 1)) (hp : pc + 1 = pc') (hy : y ≠ 0) (hv : x % y = v)
    (hr : Steps tb e below (T.setTop (mkF m pc' L (.long v :: S))) target) : Steps tb e below (T.setTop (mkF m pc L (.long y :: .long x :: S))) target := by
  subst hv hp; rw [← lrem_mod] at hr; exact XS.lrem h hx rfl hd rfl hy hr
theorem own_s_ishl (h : At T m c below) (hx : tb.exec = Jvm.exec) {x y v : Int32} (hd : decode c.code pc = .ok (.ishl, 1)) (hp : pc + 1 = pc') (hv : x <<< (y &&& 31) = v)
    (hr : Steps tb e below (T.setTop (mkF m pc' L (.int v :: S))) target) : Steps tb e below (T.setTop (mkF m pc L (.int y :: .int x :: S))) target := by
  subst hv hp; exact XS.ishl h hx rfl hd rfl hr
theorem own_s_ishr (h : At T m c below) (hx : tb.exec = Jvm.exec) {x y v : Int32} (hd : decode c.code pc = .ok (.ishr, 1)) (hp : pc + 1 = pc') (hv : x >>> (y &&& 31) = v)
    (hr : Steps tb e below (T.setTop (mkF m pc' L (.int v :: S))) target) : Steps tb e below (T.setTop (mkF m pc L (.int y :: .int x :: S))) target := by
  subst hv hp; exact XS.ishr h hx rfl hd rfl hr
theorem own_s_iushr (h : At T m c below) (hx : tb.exec = Jvm.exec) {x y v : Int32} (hd : decode c.code pc = .ok (.iushr, 1)) (hp : pc + 1 = pc') (hv : (x.toUInt32 >>> (y &&& 31).toUInt32).toInt32 = v)
    (hr : Steps tb e below (T.setTop (mkF m pc' L (.int v :: S))) target) : Steps tb e below (T.setTop (mkF m pc L (.int y :: .int x :: S))) target := by
  subst hv hp; exact XS.iushr h hx rfl hd rfl hr
theorem own_s_lshl (h : At T m c below) (hx : tb.exec = Jvm.exec) {x v : Int64} {y : Int32} (hd : decode c.code pc = .ok (.lshl, 1)) (hp : pc + 1 = pc') (hv : x <<< (y &&& 63).toInt64 = v)
    (hr : Steps tb e below (T.setTop (mkF m pc' L (.long v :: S))) target) : Steps tb e below (T.setTop (mkF m pc L (.int y :: .long x :: S))) target := by
  subst hv hp; exact XS.lshl h hx rfl hd rfl hr
theorem own_s_lshr (h : At T m c below) (hx : tb.exec = Jvm.exec) {x v : Int64} {y : Int32} (hd : decode c.code pc = .ok (.lshr, 1)) (hp : pc + 1 = pc') (hv : x >>> (y &&& 63).toInt64 = v)
    (hr : Steps tb e below (T.setTop (mkF m pc' L (.long v :: S))) target) : Steps tb e below (T.setTop (mkF m pc L (.int y :: .long x :: S))) target := by
  subst hv hp; exact XS.lshr h hx rfl hd rfl hr
theorem own_s_lushr (h : At T m c below) (hx : tb.exec = Jvm.exec) {x v : Int64} {y : Int32} (hd : decode c.code pc = .ok (.lushr, 1)) (hp : pc + 1 = pc') (hv : (x.toUInt64 >>> (y &&& 63).toInt64.toUInt64).toInt64 = v)
    (hr : Steps tb e below (T.setTop (mkF m pc' L (.long v :: S))) target) : Steps tb e below (T.setTop (mkF m pc L (.int y :: .long x :: S))) target := by
  subst hv hp; exact XS.lushr h hx rfl hd rfl hr
theorem own_s_i2l (h : At T m c below) (hx : tb.exec = Jvm.exec) {x : Int32} {v : Int64} (hd : decode c.code pc = .ok (.i2l, 1)) (hp : pc + 1 = pc') (hv : x.toInt64 = v)
    (hr : Steps tb e below (T.setTop (mkF m pc' L (.long v :: S))) target) : Steps tb e below (T.setTop (mkF m pc L (.int x :: S))) target := by
  subst hv hp; exact XS.i2l h hx rfl hd rfl hr
theorem own_s_l2i (h : At T m c below) (hx : tb.exec = Jvm.exec) {x : Int64} {v : Int32} (hd : decode c.code pc = .ok (.l2i, 1)) (hp : pc + 1 = pc') (hv : x.toInt32 = v)
    (hr : Steps tb e below (T.setTop (mkF m pc' L (.int v :: S))) target) : Steps tb e below (T.setTop (mkF m pc L (.long x :: S))) target := by
  subst hv hp; exact XS.l2i h hx rfl hd rfl hr
theorem own_s_i2b (h : At T m c below) (hx : tb.exec = Jvm.exec) {x : Int32} {v : Int32} (hd : decode c.code pc = .ok (.i2b, 1)) (hp : pc + 1 = pc') (hv : x.toInt8.toInt32 = v)
    (hr : Steps tb e below (T.setTop (mkF m pc' L (.int v :: S))) target) : Steps tb e below (T.setTop (mkF m pc L (.int x :: S))) target := by
  subst hv hp; exact XS.i2b h hx rfl hd rfl hr
theorem own_s_i2s (h : At T m c below) (hx : tb.exec = Jvm.exec) {x : Int32} {v : Int32} (hd : decode c.code pc = .ok (.i2s, 1)) (hp : pc + 1 = pc') (hv : x.toInt16.toInt32 = v)
    (hr : Steps tb e below (T.setTop (mkF m pc' L (.int v :: S))) target) : Steps tb e below (T.setTop (mkF m pc L (.int x :: S))) target := by
  subst hv hp; exact XS.i2s h hx rfl hd rfl hr
theorem own_s_ineg (h : At T m c below) (hx : tb.exec = Jvm.exec) {x : Int32} {v : Int32} (hd : decode c.code pc = .ok (.ineg, 1)) (hp : pc + 1 = pc') (hv : -x = v)
    (hr : Steps tb e below (T.setTop (mkF m pc' L (.int v :: S))) target) : Steps tb e below (T.setTop (mkF m pc L (.int x :: S))) target := by
  subst hv hp; exact XS.ineg h hx rfl hd rfl hr
theorem own_s_lneg (h : At T m c below) (hx : tb.exec = Jvm.exec) {x : Int64} {v : Int64} (hd : decode c.code pc = .ok (.lneg, 1)) (hp : pc + 1 = pc') (hv : -x = v)
    (hr : Steps tb e below (T.setTop (mkF m pc' L (.long v :: S))) target) : Steps tb e below (T.setTop (mkF m pc L (.long x :: S))) target := by
  subst hv hp; exact XS.lneg h hx rfl hd rfl hr
theorem own_s_i2d (h : At T m c below) (hx : tb.exec = Jvm.exec) {x : Int32} {v : UInt64} (hd : decode c.code pc = .ok (.i2d, 1)) (hp : pc + 1 = pc') (hv : FP.i2d x = v)
    (hr : Steps tb e below (T.setTop (mkF m pc' L (.double v :: S))) target) : Steps tb e below (T.setTop (mkF m pc L (.int x :: S))) target := by
  subst hv hp; exact XS.i2dS h hx rfl hd rfl rfl hr
theorem own_s_l2d (h : At T m c below) (hx : tb.exec = Jvm.exec) {x : Int64} {v : UInt64} (hd : decode c.code pc = .ok (.l2d, 1)) (hp : pc + 1 = pc') (hv : FP.l2d x = v)
    (hr : Steps tb e below (T.setTop (mkF m pc' L (.double v :: S))) target) : Steps tb e below (T.setTop (mkF m pc L (.long x :: S))) target := by
  subst hv hp; exact XS.l2dS h hx rfl hd rfl rfl hr
theorem own_s_dneg (h : At T m c below) (hx : tb.exec = Jvm.exec) {x : UInt64} {v : UInt64} (hd : decode c.code pc = .ok (.dneg, 1)) (hp : pc + 1 = pc') (hv : FP.dneg x = v)
    (hr : Steps tb e below (T.setTop (mkF m pc' L (.double v :: S))) target) : Steps tb e below (T.setTop (mkF m pc L (.double x :: S))) target := by
  subst hv hp; exact XS.dnegS h hx rfl hd rfl rfl hr
theorem own_s_dadd (h : At T m c below) (hx : tb.exec = Jvm.exec) {x y v : UInt64} (hd : decode c.code pc = .ok (.dadd, 1)) (hp : pc + 1 = pc') (hn : Jvm.Free.Fl.NoNaN64 (FP.dadd x y)) (hv : FP.dadd x y = v)
    (hr : Steps tb e below (T.setTop (mkF m pc' L (.double v :: S))) target) : Steps tb e below (T.setTop (mkF m pc L (.double y :: .double x :: S))) target := by
  subst hv hp; exact XS.daddS h hx rfl hd rfl hn rfl hr
theorem own_s_dsub (h : At T m c below) (hx : tb.exec = Jvm.exec) {x y v : UInt64} (hd : decode c.code pc = .ok (.dsub, 1)) (hp : pc + 1 = pc') (hn : Jvm.Free.Fl.NoNaN64 (FP.dsub x y)) (hv : FP.dsub x y = v)
    (hr : Steps tb e below (T.setTop (mkF m pc' L (.double v :: S))) target) : Steps tb e below (T.setTop (mkF m pc L (.double y :: .double x :: S))) target := by
  subst hv hp; exact XS.dsubS h hx rfl hd rfl hn rfl hr
theorem own_s_dmul (h : At T m c below) (hx : tb.exec = Jvm.exec) {x y v : UInt64} (hd : decode c.code pc = .ok (.dmul, 1)) (hp : pc + 1 = pc') (hn : Jvm.Free.Fl.NoNaN64 (FP.dmul x y)) (hv : FP.dmul x y = v)
    (hr : Steps tb e below (T.setTop (mkF m pc' L (.double v :: S))) target) : Steps tb e below (T.setTop (mkF m pc L (.double y :: .double x :: S))) target := by
  subst hv hp; exact XS.dmulS h hx rfl hd rfl hn rfl hr
theorem own_s_ddiv (h : At T m c below) (hx : tb.exec = Jvm.exec) {x y v : UInt64} (hd : decode c.code pc = .ok (.ddiv, 1)) (hp : pc + 1 = pc') (hn : Jvm.Free.Fl.NoNaN64 (FP.ddiv x y)) (hv : FP.ddiv x y = v)
    (hr : Steps tb e below (T.setTop (mkF m pc' L (.double v :: S))) target) : Steps tb e below (T.setTop (mkF m pc L (.double y :: .double x :: S))) target := by
  subst hv hp; exact XS.ddivS h hx rfl hd rfl hn rfl hr
theorem own_s_dcmp (h : At T m c below) (hx : tb.exec = Jvm.exec) {o : CmpOp} {x y : UInt64} {v : Int32} (hd : decode c.code pc = .ok (.dcmp o, 1)) (hp : pc + 1 = pc') (hv : Op.cmpValue (FP.dcmp x y) o = v)
    (hr : Steps tb e below (T.setTop (mkF m pc' L (.int v :: S))) target) : Steps tb e below (T.setTop (mkF m pc L (.double y :: .double x :: S))) target := by
  subst hv hp; exact XS.dcmpS h hx rfl hd rfl rfl hr
theorem own_s_lcmp (h : At T m c below) (hx : tb.exec = Jvm.exec) {x y : Int64} {v : Int32} (hd : decode c.code pc = .ok (.lcmp, 1)) (hp : pc + 1 = pc') (hv : lcmpW x y = v)
    (hr : Steps tb e below (T.setTop (mkF m pc' L (.int v :: S))) target) : Steps tb e below (T.setTop (mkF m pc L (.long y :: .long x :: S))) target := by
  subst hv hp; exact XS.lcmp h hx rfl hd rfl hr
theorem own_s_iconst (h : At T m c below) (hx : tb.exec = Jvm.exec) {i : Int} {v : Int32} (hd : decode c.code pc = .ok (.iconst i, 1)) (hp : pc + 1 = pc') (hv : Int32.ofInt i = v)
    (hr : Steps tb e below (T.setTop (mkF m pc' L (.int v :: S))) target) : Steps tb e below (T.setTop (mkF m pc L S)) target := by
  subst hv hp; exact XS.iconst h hx rfl hd hr
theorem own_s_bipush (h : At T m c below) (hx : tb.exec = Jvm.exec) {i : Int} {v : Int32} (hd : decode c.code pc = .ok (.bipush i, 2)) (hp : pc + 2 = pc') (hv : (Int8.ofInt i).toInt32 = v)
    (hr : Steps tb e below (T.setTop (mkF m pc' L (.int v :: S))) target) : Steps tb e below (T.setTop (mkF m pc L S)) target := by
  subst hv hp; exact XS.bipush h hx rfl hd hr
theorem own_s_sipush (h : At T m c below) (hx : tb.exec = Jvm.exec) {i : Int} {v : Int32} (hd : decode c.code pc = .ok (.sipush i, 3)) (hp : pc + 3 = pc') (hv : (Int16.ofInt i).toInt32 = v)
    (hr : Steps tb e below (T.setTop (mkF m pc' L (.int v :: S))) target) : Steps tb e below (T.setTop (mkF m pc L S)) target := by
  subst hv hp; exact XS.sipush h hx rfl hd hr
theorem own_s_lconst (h : At T m c below) (hx : tb.exec = Jvm.exec) {k : Fin 2} {v : Int64} (hd : decode c.code pc = .ok (.lconst k, 1)) (hp : pc + 1 = pc') (hv : Int64.ofNat k = v)
    (hr : Steps tb e below (T.setTop (mkF m pc' L (.long v :: S))) target) : Steps tb e below (T.setTop (mkF m pc L S)) target := by
  subst hv hp; exact XS.lconst h hx rfl hd hr
theorem own_s_dconst0 (h : At T m c below) (hx : tb.exec = Jvm.exec)  (hd : decode c.code pc = .ok (.dconst 0, 1)) (hp : pc + 1 = pc') 
    (hr : Steps tb e below (T.setTop (mkF m pc' L (.double 0 :: S))) target) : Steps tb e below (T.setTop (mkF m pc L S)) target := by
  subst hp; exact XS.dconst0 h hx rfl hd rfl hr
theorem own_s_dconst1 (h : At T m c below) (hx : tb.exec = Jvm.exec)  (hd : decode c.code pc = .ok (.dconst 1, 1)) (hp : pc + 1 = pc') 
    (hr : Steps tb e below (T.setTop (mkF m pc' L (.double 4607182418800017408 :: S))) target) : Steps tb e below (T.setTop (mkF m pc L S)) target := by
  subst hp; exact XS.dconst1 h hx rfl hd rfl hr
theorem own_s_aconst_null (h : At T m c below) (hx : tb.exec = Jvm.exec)  (hd : decode c.code pc = .ok (.aconst_null, 1)) (hp : pc + 1 = pc') 
    (hr : Steps tb e below (T.setTop (mkF m pc' L (.null :: S))) target) : Steps tb e below (T.setTop (mkF m pc L S)) target := by
  subst hp; exact XS.aconstNull h hx rfl hd hr
theorem own_s_dup (h : At T m c below) (hx : tb.exec = Jvm.exec) {x : Value} (hd : decode c.code pc = .ok (.dup, 1)) (hp : pc + 1 = pc') (hc : x.category = 1)
    (hr : Steps tb e below (T.setTop (mkF m pc' L (x :: x :: S))) target) : Steps tb e below (T.setTop (mkF m pc L (x :: S))) target := by
  subst hp; exact XS.dup h hx rfl hd rfl hc hr
theorem own_s_dupX1 (h : At T m c below) (hx : tb.exec = Jvm.exec) {x y : Value} (hd : decode c.code pc = .ok (.dup_x1, 1)) (hp : pc + 1 = pc') (hc : x.category = 1) (hc' : y.category = 1)
    (hr : Steps tb e below (T.setTop (mkF m pc' L (x :: y :: x :: S))) target) : Steps tb e below (T.setTop (mkF m pc L (x :: y :: S))) target := by
  subst hp; exact XS.dupX1 h hx rfl hd rfl hc hc' hr
theorem own_s_pop (h : At T m c below) (hx : tb.exec = Jvm.exec) {x : Value} (hd : decode c.code pc = .ok (.pop, 1)) (hp : pc + 1 = pc') (hc : x.category = 1)
    (hr : Steps tb e below (T.setTop (mkF m pc' L S)) target) : Steps tb e below (T.setTop (mkF m pc L (x :: S))) target := by
  subst hp; exact XS.pop h hx rfl hd rfl hc hr
theorem own_s_iloadN (h : At T m c below) (hx : tb.exec = Jvm.exec) {k : Fin 4} {v : Int32} (hd : decode c.code pc = .ok (.iload_n k, 1)) (hp : pc + 1 = pc') (hl : L[k.val]? = some (.val (.int v)))
    (hr : Steps tb e below (T.setTop (mkF m pc' L (.int v :: S))) target) : Steps tb e below (T.setTop (mkF m pc L S)) target := by
  subst hp; exact XS.iloadN h hx rfl hd hl hr
theorem own_s_iload (h : At T m c below) (hx : tb.exec = Jvm.exec) {k : Nat} {v : Int32} (hd : decode c.code pc = .ok (.iload k, 2)) (hp : pc + 2 = pc') (hl : L[k]? = some (.val (.int v)))
    (hr : Steps tb e below (T.setTop (mkF m pc' L (.int v :: S))) target) : Steps tb e below (T.setTop (mkF m pc L S)) target := by
  subst hp; exact XS.iload h hx rfl hd hl hr
theorem own_s_istoreN (h : At T m c below) (hx : tb.exec = Jvm.exec) {k : Fin 4} {v : Int32} {L' : Array Slot} (hd : decode c.code pc = .ok (.istore_n k, 1)) (hp : pc + 1 = pc') (hl : storeLocals L k.val (.int v) = some L')
    (hr : Steps tb e below (T.setTop (mkF m pc' L' S)) target) : Steps tb e below (T.setTop (mkF m pc L (.int v :: S))) target := by
  subst hp; exact XS.istoreN h hx rfl hd rfl hl hr
theorem own_s_istore (h : At T m c below) (hx : tb.exec = Jvm.exec) {k : Nat} {v : Int32} {L' : Array Slot} (hd : decode c.code pc = .ok (.istore k, 2)) (hp : pc + 2 = pc') (hl : storeLocals L k (.int v) = some L')
    (hr : Steps tb e below (T.setTop (mkF m pc' L' S)) target) : Steps tb e below (T.setTop (mkF m pc L (.int v :: S))) target := by
  subst hp; exact XS.istore h hx rfl hd rfl hl hr
theorem own_s_lloadN (h : At T m c below) (hx : tb.exec = Jvm.exec) {k : Fin 4} {v : Int64} (hd : decode c.code pc = .ok (.lload_n k, 1)) (hp : pc + 1 = pc') (hl : L[k.val]? = some (.val (.long v)))
    (hr : Steps tb e below (T.setTop (mkF m pc' L (.long v :: S))) target) : Steps tb e below (T.setTop (mkF m pc L S)) target := by
  subst hp; exact XS.lloadN h hx rfl hd hl hr
theorem own_s_lload (h : At T m c below) (hx : tb.exec = Jvm.exec) {k : Nat} {v : Int64} (hd : decode c.code pc = .ok (.lload k, 2)) (hp : pc + 2 = pc') (hl : L[k]? = some (.val (.long v)))
    (hr : Steps tb e below (T.setTop (mkF m pc' L (.long v :: S))) target) : Steps tb e below (T.setTop (mkF m pc L S)) target := by
  subst hp; exact XS.lload h hx rfl hd hl hr
theorem own_s_lstoreN (h : At T m c below) (hx : tb.exec = Jvm.exec) {k : Fin 4} {v : Int64} {L' : Array Slot} (hd : decode c.code pc = .ok (.lstore_n k, 1)) (hp : pc + 1 = pc') (hl : storeLocals L k.val (.long v) = some L')
    (hr : Steps tb e below (T.setTop (mkF m pc' L' S)) target) : Steps tb e below (T.setTop (mkF m pc L (.long v :: S))) target := by
  subst hp; exact XS.lstoreN h hx rfl hd rfl hl hr
theorem own_s_lstore (h : At T m c below) (hx : tb.exec = Jvm.exec) {k : Nat} {v : Int64} {L' : Array Slot} (hd : decode c.code pc = .ok (.lstore k, 2)) (hp : pc + 2 = pc') (hl : storeLocals L k (.long v) = some L')
    (hr : Steps tb e below (T.setTop (mkF m pc' L' S)) target) : Steps tb e below (T.setTop (mkF m pc L (.long v :: S))) target := by
  subst hp; exact XS.lstore h hx rfl hd rfl hl hr
theorem own_s_dloadN (h : At T m c below) (hx : tb.exec = Jvm.exec) {k : Fin 4} {v : UInt64} (hd : decode c.code pc = .ok (.dload_n k, 1)) (hp : pc + 1 = pc') (hl : L[k.val]? = some (.val (.double v)))
    (hr : Steps tb e below (T.setTop (mkF m pc' L (.double v :: S))) target) : Steps tb e below (T.setTop (mkF m pc L S)) target := by
  subst hp; exact XS.dloadN h hx rfl hd hl hr
theorem own_s_dload (h : At T m c below) (hx : tb.exec = Jvm.exec) {k : Nat} {v : UInt64} (hd : decode c.code pc = .ok (.dload k, 2)) (hp : pc + 2 = pc') (hl : L[k]? = some (.val (.double v)))
    (hr : Steps tb e below (T.setTop (mkF m pc' L (.double v :: S))) target) : Steps tb e below (T.setTop (mkF m pc L S)) target := by
  subst hp; exact XS.dload h hx rfl hd hl hr
theorem own_s_dstoreN (h : At T m c below) (hx : tb.exec = Jvm.exec) {k : Fin 4} {v : UInt64} {L' : Array Slot} (hd : decode c.code pc = .ok (.dstore_n k, 1)) (hp : pc + 1 = pc') (hl : storeLocals L k.val (.double v) = some L')
    (hr : Steps tb e below (T.setTop (mkF m pc' L' S)) target) : Steps tb e below (T.setTop (mkF m pc L (.double v :: S))) target := by
  subst hp; exact XS.dstoreN h hx rfl hd rfl hl hr
theorem own_s_dstore (h : At T m c below) (hx : tb.exec = Jvm.exec) {k : Nat} {v : UInt64} {L' : Array Slot} (hd : decode c.code pc = .ok (.dstore k, 2)) (hp : pc + 2 = pc') (hl : storeLocals L k (.double v) = some L')
    (hr : Steps tb e below (T.setTop (mkF m pc' L' S)) target) : Steps tb e below (T.setTop (mkF m pc L (.double v :: S))) target := by
  subst hp; exact XS.dstore h hx rfl hd rfl hl hr
theorem own_s_aloadN (h : At T m c below) (hx : tb.exec = Jvm.exec) {k : Fin 4} {v : Value} (hd : decode c.code pc = .ok (.aload_n k, 1)) (hp : pc + 1 = pc') (hl : L[k.val]? = some (.val v)) (hr0 : v.isRef = true)
    (hr : Steps tb e below (T.setTop (mkF m pc' L (v :: S))) target) : Steps tb e below (T.setTop (mkF m pc L S)) target := by
  subst hp; exact XS.aloadN h hx rfl hd hl hr0 hr
theorem own_s_aload (h : At T m c below) (hx : tb.exec = Jvm.exec) {k : Nat} {v : Value} (hd : decode c.code pc = .ok (.aload k, 2)) (hp : pc + 2 = pc') (hl : L[k]? = some (.val v)) (hr0 : v.isRef = true)
    (hr : Steps tb e below (T.setTop (mkF m pc' L (v :: S))) target) : Steps tb e below (T.setTop (mkF m pc L S)) target := by
  subst hp; exact XS.aload h hx rfl hd hl hr0 hr
theorem own_s_astoreN (h : At T m c below) (hx : tb.exec = Jvm.exec) {k : Fin 4} {v : Value} {L' : Array Slot} (hd : decode c.code pc = .ok (.astore_n k, 1)) (hp : pc + 1 = pc') (hr0 : v.isRef = true) (hl : storeLocals L k.val v = some L')
    (hr : Steps tb e below (T.setTop (mkF m pc' L' S)) target) : Steps tb e below (T.setTop (mkF m pc L (v :: S))) target := by
  subst hp; exact XS.astoreN h hx rfl hd rfl hr0 hl hr
theorem own_s_astore (h : At T m c below) (hx : tb.exec = Jvm.exec) {k : Nat} {v : Value} {L' : Array Slot} (hd : decode c.code pc = .ok (.astore k, 2)) (hp : pc + 2 = pc') (hr0 : v.isRef = true) (hl : storeLocals L k v = some L')
    (hr : Steps tb e below (T.setTop (mkF m pc' L' S)) target) : Steps tb e below (T.setTop (mkF m pc L (v :: S))) target := by
  subst hp; exact XS.astore h hx rfl hd rfl hr0 hl hr
theorem own_s_iinc (h : At T m c below) (hx : tb.exec = Jvm.exec) {k : Nat} {cst : Int} {x v : Int32} {L' : Array Slot} (hd : decode c.code pc = .ok (.iinc k cst, 3)) (hp : pc + 3 = pc') (hl : L[k]? = some (.val (.int x))) (hv : x + Int32.ofInt cst = v) (hl' : storeLocals L k (.int v) = some L')
    (hr : Steps tb e below (T.setTop (mkF m pc' L' S)) target) : Steps tb e below (T.setTop (mkF m pc L S)) target := by
  subst hv hp; exact XS.iinc h hx rfl hd hl hl' hr
theorem own_s_goto (h : At T m c below) (hx : tb.exec = Jvm.exec)  {o : Int} (hd : decode c.code pc = .ok (.goto o, 3)) (ho : 0 ≤ (pc : Int) + o) (hp : ((pc : Int) + o).toNat = pc') 
    (hr : Steps tb e below (T.setTop (mkF m pc' L S)) target) : Steps tb e below (T.setTop (mkF m pc L S)) target := by
  exact XS.goto h hx rfl rfl hd ho hp hr
theorem own_s_ifYes (h : At T m c below) (hx : tb.exec = Jvm.exec) {cd : ClassFile.Cond} {x : Int32} {o : Int} (hd : decode c.code pc = .ok (.ifCond cd o, 3)) (ho : 0 ≤ (pc : Int) + o) (hp : ((pc : Int) + o).toNat = pc') (hc : ifCond.holds cd x = true)
    (hr : Steps tb e below (T.setTop (mkF m pc' L S)) target) : Steps tb e below (T.setTop (mkF m pc L (.int x :: S))) target := by
  exact XS.ifYes h hx rfl rfl hd rfl hc ho hp hr
theorem own_s_icmpYes (h : At T m c below) (hx : tb.exec = Jvm.exec) {cd : ClassFile.Cond} {x y : Int32} {o : Int} (hd : decode c.code pc = .ok (.if_icmp cd o, 3)) (ho : 0 ≤ (pc : Int) + o) (hp : ((pc : Int) + o).toNat = pc') (hc : if_icmp.holds cd x y = true)
    (hr : Steps tb e below (T.setTop (mkF m pc' L S)) target) : Steps tb e below (T.setTop (mkF m pc L (.int y :: .int x :: S))) target := by
  exact XS.icmpYes h hx rfl rfl hd rfl hc ho hp hr
theorem own_s_ifNo (h : At T m c below) (hx : tb.exec = Jvm.exec) {cd : ClassFile.Cond} {o : Int} {x : Int32} (hd : decode c.code pc = .ok (.ifCond cd o, 3)) (hp : pc + 3 = pc') (hc : ifCond.holds cd x = false)
    (hr : Steps tb e below (T.setTop (mkF m pc' L S)) target) : Steps tb e below (T.setTop (mkF m pc L (.int x :: S))) target := by
  subst hp; exact XS.ifNo h hx rfl hd rfl hc hr
theorem own_s_icmpNo (h : At T m c below) (hx : tb.exec = Jvm.exec) {cd : ClassFile.Cond} {o : Int} {x y : Int32} (hd : decode c.code pc = .ok (.if_icmp cd o, 3)) (hp : pc + 3 = pc') (hc : if_icmp.holds cd x y = false)
    (hr : Steps tb e below (T.setTop (mkF m pc' L S)) target) : Steps tb e below (T.setTop (mkF m pc L (.int y :: .int x :: S))) target := by
  subst hp; exact XS.icmpNo h hx rfl hd rfl hc hr
theorem own_s_ifnullYes (h : At T m c below) (hx : tb.exec = Jvm.exec)  {o : Int} (hd : decode c.code pc = .ok (.ifnull o, 3)) (ho : 0 ≤ (pc : Int) + o) (hp : ((pc : Int) + o).toNat = pc') 
    (hr : Steps tb e below (T.setTop (mkF m pc' L S)) target) : Steps tb e below (T.setTop (mkF m pc L (.null :: S))) target := by
  exact XS.ifnullYes h hx rfl rfl hd rfl ho hp hr
theorem own_s_ifnullNo (h : At T m c below) (hx : tb.exec = Jvm.exec) {o : Int} {b : Addr} (hd : decode c.code pc = .ok (.ifnull o, 3)) (hp : pc + 3 = pc') 
    (hr : Steps tb e below (T.setTop (mkF m pc' L S)) target) : Steps tb e below (T.setTop (mkF m pc L (.ref b :: S))) target := by
  subst hp; exact XS.ifnullNo h hx rfl hd rfl hr
theorem own_s_ifnonnullYes (h : At T m c below) (hx : tb.exec = Jvm.exec) {b : Addr} {o : Int} (hd : decode c.code pc = .ok (.ifnonnull o, 3)) (ho : 0 ≤ (pc : Int) + o) (hp : ((pc : Int) + o).toNat = pc') 
    (hr : Steps tb e below (T.setTop (mkF m pc' L S)) target) : Steps tb e below (T.setTop (mkF m pc L (.ref b :: S))) target := by
  exact XS.ifnonnullYes h hx rfl rfl hd rfl ho hp hr
theorem own_s_ifnonnullNo (h : At T m c below) (hx : tb.exec = Jvm.exec) {o : Int} (hd : decode c.code pc = .ok (.ifnonnull o, 3)) (hp : pc + 3 = pc') 
    (hr : Steps tb e below (T.setTop (mkF m pc' L S)) target) : Steps tb e below (T.setTop (mkF m pc L (.null :: S))) target := by
  subst hp; exact XS.ifnonnullNo h hx rfl hd rfl hr
end OwnStep
section OwnHeap
open Jvm Jvm.ClassFile Sem Op Lib Jvm.Free Jvm.Stand Jvm.LawKit Jvm.RoadKit
variable {p : Program} {l : Launch} {e : Env} {R : Room} {s : State} {m : MethodId} {args : Array Value} {below : List Frame} {meth : Method} {c : Code} {T : State} {locs : List Loc} {cells slots : Nat} {Z : State} {a0 : Array Value} {h : Heap} {pc pc' : Nat} {L : Array Slot} {S : List Value} {a : Addr} {k : ClassId} {z : Int32} {vs : List Value} {dv : Value}
theorem own_newD (X : Stand p l e R s m args below meth c T locs cells slots) (hx : p.tables.exec = Jvm.exec) (hZ : Z.Warmed39 s.vm) (w : (Jvm.Cond.arrayClass .double).before a0 Z = true) (eT : T.heap = h) (n : Nat) (hz : z.toNatClampNeg = n) (hz0 : ¬ z < 0) (hb : n * 8 ≤ 536870912) (hc : cells + 1 ≤ R.cells) (hl : slots + n ≤ R.slots) (hd : decode c.code pc = .ok (.newarray .double, 2)) (hp : pc + 2 = pc') :
    ∃ T' h' k b, Stand p l e R s m args below meth c T' locs (cells + 1) (slots + n) ∧ T'.heap = h' ∧ Ext h h' ∧ b = h.size ∧ Arv Z h' b k .double z (List.replicate n (.double 0)) (.double 0) ∧ ∀ target, Steps p.tables e below (T'.setTop (mkF m pc' L (.ref b :: S))) target → Steps p.tables e below (T.setTop (mkF m pc L (.int z :: S))) target := by
  subst hp
  obtain ⟨T', h', k, X', e', E, A, st⟩ := newP X hx hZ (aty := .double) w eT (g := mkF m pc L (.int z :: S)) rfl hd rfl hz0 (cap := n) (Nat.le_of_eq hz) hb hc hl
  exact ⟨T', h', k, h.size, X', e', E, rfl, (Arv.new A hz0).pad (pad_rep [] (.double 0) n), st⟩
theorem own_newJ (X : Stand p l e R s m args below meth c T locs cells slots) (hx : p.tables.exec = Jvm.exec) (hZ : Z.Warmed39 s.vm) (w : (Jvm.Cond.arrayClass .long).before a0 Z = true) (eT : T.heap = h) (n : Nat) (hz : z.toNatClampNeg = n) (hz0 : ¬ z < 0) (hb : n * 8 ≤ 536870912) (hc : cells + 1 ≤ R.cells) (hl : slots + n ≤ R.slots) (hd : decode c.code pc = .ok (.newarray .long, 2)) (hp : pc + 2 = pc') :
    ∃ T' h' k b, Stand p l e R s m args below meth c T' locs (cells + 1) (slots + n) ∧ T'.heap = h' ∧ Ext h h' ∧ b = h.size ∧ Arv Z h' b k .long z (List.replicate n (.long 0)) (.long 0) ∧ ∀ target, Steps p.tables e below (T'.setTop (mkF m pc' L (.ref b :: S))) target → Steps p.tables e below (T.setTop (mkF m pc L (.int z :: S))) target := by
  subst hp
  obtain ⟨T', h', k, X', e', E, A, st⟩ := newP X hx hZ (aty := .long) w eT (g := mkF m pc L (.int z :: S)) rfl hd rfl hz0 (cap := n) (Nat.le_of_eq hz) hb hc hl
  exact ⟨T', h', k, h.size, X', e', E, rfl, (Arv.new A hz0).pad (pad_rep [] (.long 0) n), st⟩
theorem own_stD (X : Stand p l e R s m args below meth c T locs cells slots) (hx : p.tables.exec = Jvm.exec) (hZ : Z.Warmed39 s.vm) (eT : T.heap = h) (V : Arv Z h a k .double z vs dv) {j : Int32} {x : UInt64} (hj : ¬ j < 0 ∧ j < z) (i : Nat) (hi : j.toNatClampNeg = i) (hl : i < vs.length) (hd : decode c.code pc = .ok (.dastore, 1)) (hp : pc + 1 = pc') :
    ∃ T' h', Stand p l e R s m args below meth c T' (locs ++ [⟨a, j.toNatClampNeg⟩]) cells slots ∧ T'.heap = h' ∧ Wr h h' a j.toNatClampNeg (.double x) ∧ Arv Z h' a k .double z (vs.set i (.double x)) dv ∧ ∀ target, Steps p.tables e below (T'.setTop (mkF m pc' L S)) target → Steps p.tables e below (T.setTop (mkF m pc L (.double x :: .int j :: .ref a :: S))) target := by
  subst hp
  obtain ⟨cl, A, q1, S1, q3, H, G⟩ := V
  obtain ⟨T', h', X', e', W, st⟩ := stD X hx hZ eT A (j := j) (x := x) (inb_of S1 hj) (g := mkF m pc L (.double x :: .int j :: .ref a :: S)) rfl rfl hd
  exact ⟨T', h', X', e', W, Arv.set A q1 S1 q3 H G rfl W i hi hl, st⟩
theorem own_ldD (X : Stand p l e R s m args below meth c T locs cells slots) (hx : p.tables.exec = Jvm.exec) (hZ : Z.Warmed39 s.vm) (eT : T.heap = h) (V : Arv Z h a k .double z vs dv) {j : Int32} {x : UInt64} (hj : ¬ j < 0 ∧ j < z) (hv : vs.getD j.toNatClampNeg dv = .double x) (hd : decode c.code pc = .ok (.daload, 1)) (hp : pc + 1 = pc') {target : State}
    (hr : Steps p.tables e below (T.setTop (mkF m pc' L (.double x :: S))) target) : Steps p.tables e below (T.setTop (mkF m pc L (.int j :: .ref a :: S))) target := by
  subst hp
  obtain ⟨cl, A, q1, S1, q3, H, G⟩ := V
  exact X.daload hx (j := j) (v := .double x) (by rw [eT]; exact A.1) (State.isArrayOf_alike hZ.alike A.2.1) A.2.2 (inb_of S1 hj) (H.at (inb_of S1 hj) hv) (g := mkF m pc L (.int j :: .ref a :: S)) rfl rfl hd target hr
theorem own_len {ty : FieldType} (X : Stand p l e R s m args below meth c T locs cells slots) (hx : p.tables.exec = Jvm.exec) (hZ : Z.Warmed39 s.vm) (eT : T.heap = h) (V : Arv Z h a k ty z vs dv) (hd : decode c.code pc = .ok (.arraylength, 1)) (hp : pc + 1 = pc') {target : State}
    (hr : Steps p.tables e below (T.setTop (mkF m pc' L (.int z :: S))) target) : Steps p.tables e below (T.setTop (mkF m pc L (.ref a :: S))) target := by
  subst hp
  obtain ⟨cl, A, q1, S1, q3, H, G⟩ := V
  refine X.arraylength hx (by rw [eT]; exact A.1) (State.isArrayOf_alike hZ.alike A.2.1) (g := mkF m pc L (.ref a :: S)) rfl rfl hd target ?_
  rw [len_of S1 q3]
  exact hr
theorem own_retI (X : Stand p l e R s m args below meth c T locs cells slots) (hx : p.tables.exec = Jvm.exec) {x : Int32} (hret : meth.sig.returnType = some .int) (hd : decode c.code pc = .ok (.ireturn, 1)) {fs : List Frame}
    (hl : ∀ (f : JFrame) (acts : List Action), f.method = m → f.locked = none → f.entered = [] → (doReturn e (T.setTop f) acts (some (.int x))).1 = T.setFrames fs) : Steps p.tables e below (T.setTop (mkF m pc L (.int x :: S))) (T.setFrames fs) := by
  have hm' : T.vm.method? m = some meth := X.method'
  have hn : narrow .int (.int x) = .int x := rfl
  show Steps p.tables e below (T.setTop { method := m, pc := pc, locals := L, stack := _ :: S, locked := none }) _
  jvm_step X.here [X.here.top, hx, hd, hm', hret, hn]
  first | (intro acts; rw [hl _ acts rfl rfl rfl]) | rw [hl _ _ rfl rfl rfl]
  exact Steps.refl _
theorem own_retD (X : Stand p l e R s m args below meth c T locs cells slots) (hx : p.tables.exec = Jvm.exec) {x : UInt64} (hret : meth.sig.returnType = some .double) (hd : decode c.code pc = .ok (.dreturn, 1)) {fs : List Frame}
    (hl : ∀ (f : JFrame) (acts : List Action), f.method = m → f.locked = none → f.entered = [] → (doReturn e (T.setTop f) acts (some (.double x))).1 = T.setFrames fs) : Steps p.tables e below (T.setTop (mkF m pc L (.double x :: S))) (T.setFrames fs) := by
  have hm' : T.vm.method? m = some meth := X.method'
  show Steps p.tables e below (T.setTop { method := m, pc := pc, locals := L, stack := _ :: S, locked := none }) _
  jvm_step X.here [X.here.top, hx, hd, hm', hret, narrow]
  first | (intro acts; rw [hl _ acts rfl rfl rfl]) | rw [hl _ _ rfl rfl rfl]
  exact Steps.refl _
theorem own_retJ (X : Stand p l e R s m args below meth c T locs cells slots) (hx : p.tables.exec = Jvm.exec) {x : Int64} (hret : meth.sig.returnType = some .long) (hd : decode c.code pc = .ok (.lreturn, 1)) {fs : List Frame}
    (hl : ∀ (f : JFrame) (acts : List Action), f.method = m → f.locked = none → f.entered = [] → (doReturn e (T.setTop f) acts (some (.long x))).1 = T.setFrames fs) : Steps p.tables e below (T.setTop (mkF m pc L (.long x :: S))) (T.setFrames fs) := by
  have hm' : T.vm.method? m = some meth := X.method'
  show Steps p.tables e below (T.setTop { method := m, pc := pc, locals := L, stack := _ :: S, locked := none }) _
  jvm_step X.here [X.here.top, hx, hd, hm', hret, narrow]
  first | (intro acts; rw [hl _ acts rfl rfl rfl]) | rw [hl _ _ rfl rfl rfl]
  exact Steps.refl _
theorem own_retR (X : Stand p l e R s m args below meth c T locs cells slots) (hx : p.tables.exec = Jvm.exec) {b : Addr} {t : FieldType} (hret : meth.sig.returnType = some t) (ht : t.isReference = true) (hd : decode c.code pc = .ok (.areturn, 1)) {fs : List Frame}
    (hl : ∀ (f : JFrame) (acts : List Action), f.method = m → f.locked = none → f.entered = [] → (doReturn e (T.setTop f) acts (some (.ref b))).1 = T.setFrames fs) : Steps p.tables e below (T.setTop (mkF m pc L (.ref b :: S))) (T.setFrames fs) := by
  have hm' : T.vm.method? m = some meth := X.method'
  show Steps p.tables e below (T.setTop { method := m, pc := pc, locals := L, stack := _ :: S, locked := none }) _
  jvm_step X.here [X.here.top, hx, hd, hm', hret, Value.isRef, ht]
  first | (intro acts; rw [hl _ acts rfl rfl rfl]) | rw [hl _ _ rfl rfl rfl]
  exact Steps.refl _
end OwnHeap
open Jvm Jvm.ClassFile Sem Op Lib Jvm.Free Jvm.Stand Jvm.LawKit Jvm.RoadKit Bundle Jvm.Pilot.@@N@@.Jvm.D
def own_Q0 (n0 : Nat) (v : Option Value) (h : Heap) (L : List Loc) : Prop := v = some (.int 1) ∧ Fr n0 L
def own_QP (r : Option Value) (h0 : Heap) (n0 : Nat) (v : Option Value) (h : Heap) (L : List Loc) : Prop := v = r ∧ Fr n0 L ∧ h = h0
theorem own_mask3 (x : Int32) : x &&& 3 = 0 ∨ x &&& 3 = 1 ∨ x &&& 3 = 2 ∨ x &&& 3 = 3 := by
  have h1 := c_mask x 3 2 (by decide) (by decide)
  have e : ∀ k : Int32, x &&& 3 = k ↔ (x &&& 3).toInt = k.toInt := fun k => Int32.toInt_inj.symm
  simp only [e, show (0 : Int32).toInt = 0 from rfl, show (1 : Int32).toInt = 1 from rfl, show (2 : Int32).toInt = 2 from rfl, show (3 : Int32).toInt = 3 from rfl]
  omega
section OwnVol
open Jvm.FP.Core
def own_mag (K : Nat) (x : UInt64) : Prop := x.toNat % 2 ^ 63 < K * 2 ^ 52 ∧ K ≤ 2047
theorem own_mag_nn {K : Nat} {x : UInt64} (h : own_mag K x) : Jvm.Free.Fl.NoNaN64 x := Jvm.Free.Fl.noNaN64_no.mpr (fin_of_lt h.1 h.2).notNaN
theorem own_mag_one : own_mag 1024 4607182418800017408 := ⟨by decide, by decide⟩
theorem own_mag_mul {A B : Nat} {x y : UInt64} (hx : own_mag A x) (hy : own_mag B y) (h : decide (A + B - 1025 + 3 ≤ 2047) = true) : own_mag (A + B - 1025 + 3) (Jvm.FP.dmul x y) :=
  ⟨dmul_mag hx.1 hy.1 hx.2 hy.2, by simpa using h⟩
theorem own_mag_sub (x y : Int32) : own_mag 1088 (Jvm.FP.dsub (Jvm.FP.i2d x) (Jvm.FP.i2d y)) := by
  refine ⟨?_, by decide⟩
  show (dsub (i2d x) (i2d y)).toNat % 2 ^ 63 < _
  have h1 := x.toInt_lt; have h2 := x.le_toInt; have h3 := y.toInt_lt; have h4 := y.le_toInt
  rw [i2d_l2d, i2d_l2d, dsub_l2d]
  · exact l2d_mag _
  · unfold Small53; rw [Int32.toInt_toInt64]; omega
  · unfold Small53; rw [Int32.toInt_toInt64]; omega
theorem own_one_mul {x : UInt64} (h : Jvm.Free.Fl.NoNaN64 x) : Jvm.FP.dmul 4607182418800017408 x = x := one_dmul (Jvm.Free.Fl.noNaN64_no.mp h)
end OwnVol
def own_imin (x y : Int32) : Int32 := if y < x then y else x
theorem own_d2_0 : decode jdk_29_method_69_code 0 = .ok (.iload_n 0, 1) := by decide +kernel
theorem own_d2_1 : decode jdk_29_method_69_code 1 = .ok (.iload_n 1, 1) := by decide +kernel
theorem own_d2_2 : decode jdk_29_method_69_code 2 = .ok (.if_icmp .gt 7, 3) := by decide +kernel
theorem own_d2_9 : decode jdk_29_method_69_code 9 = .ok (.iload_n 1, 1) := by decide +kernel
theorem own_d2_10 : decode jdk_29_method_69_code 10 = .ok (.ireturn, 1) := by decide +kernel
theorem own_d2_5 : decode jdk_29_method_69_code 5 = .ok (.iload_n 0, 1) := by decide +kernel
theorem own_d2_6 : decode jdk_29_method_69_code 6 = .ok (.goto 4, 3) := by decide +kernel
theorem own_ef_mit (m : MethodId) (x : Int32) (y : Int32) : entryFrame m #[(.int x), (.int y)] 2 = mkF m 0 #[.val (.int x), .val (.int y)] [] := by first | (simp [entryFrame, mkF, argsToLocals, Value.category]; done) | rfl
set_option maxRecDepth 65536 in
set_option maxHeartbeats 40000000 in
theorem own_rm_mit (l : Launch) (Z : State) (a0 : Array Value) (hw : ∀ d ∈ tables_1, d.before a0 Z = true) (ws : List Jvm.Cond) (x : Int32) (y : Int32)  (h0 : Heap) (n0 : Nat) (Z0 : n0 ≤ h0.size)  (mit_hb2 : if_icmp.holds .gt x y = true) :
    MetFree l (⟨"java/lang/Math", "min", "(II)I"⟩ : MethodName) (head1 (Jvm.Cond.code (⟨"java/lang/Math", "min", "(II)I"⟩ : MethodName) jdk_29_method_69_code 2 (some .int) :: ws) ({ frames := 0, cells := 0, slots := 0, locals := 0 } : Room)) (fun a U => a = #[(.int x), (.int y)] ∧ Z.Warmed39 U.vm ∧ U.heap = h0) (fun _ _ _ _ _ => True) (fun _ U o U' => ∃ v L, o = .returned v ∧ own_QP (some (.int y)) h0 n0 v U'.heap L ∧ FrameEnd U o U' L ({ frames := 0, cells := 0, slots := 0, locals := 0 } : Room).cells ({ frames := 0, cells := 0, slots := 0, locals := 0 } : Room).slots) := by
  refine MetFree.of_bodySF (Jvm.Free.JP.mathPlain rfl (by decide +kernel)) hisR ?_
  intro p e s m args below meth c s₁ Bd hml0 hP hK
  obtain ⟨rfl, hZ, hh⟩ := hP
  have hx := Bd.exec
  have hby := Bd.bytes
  have hml : c.maxLocals = 2 := hml0
  have hown : s.vm.findClass "java/lang/Math" = some m.cls := findClass_of_methodNamed Bd.named
  have hnm := (name_of_methodNamed Bd.named Bd.method).1
  have X0 : Stand p l e ({ frames := 0, cells := 0, slots := 0, locals := 0 } : Room) s m #[(.int x), (.int y)] below meth c s₁ [] 0 0 := Stand.of_body Bd
  have e0 : s₁.heap = h0 := by rw [← hh, Bd.state]; rfl
  have N0 := Fr.nil n0
  have pre0 : ∀ t, Steps p.tables e below (s₁.setTop (mkF m 0 #[.val (.int x), .val (.int y)] [])) t → Steps p.tables e below (s₁.setTop (entryFrame m #[(.int x), (.int y)] 2)) t := fun t k => castTop (own_ef_mit m x y) k
  obtain ⟨fs, hr, hrun, hended, hW, hsame⟩ := X0.leave (v := some (.int y)) (fun h => by rw [Bd.returns] at h; cases h)
  refine ⟨_, _, pre0 _ ?_, hrun, hended, _, _, rfl, ?_, ⟨_, rfl⟩, hW, hsame.mono (by decide) (by decide)⟩
  · refine own_s_iloadN X0.here hx (hb hby own_d2_0) (pc' := 1) rfl rfl ?_
    refine own_s_iloadN X0.here hx (hb hby own_d2_1) (pc' := 2) rfl rfl ?_
    refine own_s_icmpYes X0.here hx (hb hby own_d2_2) (by decide) (pc' := 9) (by decide) mit_hb2 ?_
    refine own_s_iloadN X0.here hx (hb hby own_d2_9) (pc' := 10) rfl rfl ?_
    exact own_retI X0 hx Bd.returns (hb hby own_d2_10) hr
  · show own_QP (some (.int y)) h0 n0 _ s₁.heap _
    rw [e0]
    exact ⟨rfl, N0, rfl⟩
theorem own_ef_mif (m : MethodId) (x : Int32) (y : Int32) : entryFrame m #[(.int x), (.int y)] 2 = mkF m 0 #[.val (.int x), .val (.int y)] [] := by first | (simp [entryFrame, mkF, argsToLocals, Value.category]; done) | rfl
set_option maxRecDepth 65536 in
set_option maxHeartbeats 40000000 in
theorem own_rm_mif (l : Launch) (Z : State) (a0 : Array Value) (hw : ∀ d ∈ tables_1, d.before a0 Z = true) (ws : List Jvm.Cond) (x : Int32) (y : Int32)  (h0 : Heap) (n0 : Nat) (Z0 : n0 ≤ h0.size)  (mif_hb2 : if_icmp.holds .gt x y = false) :
    MetFree l (⟨"java/lang/Math", "min", "(II)I"⟩ : MethodName) (head1 (Jvm.Cond.code (⟨"java/lang/Math", "min", "(II)I"⟩ : MethodName) jdk_29_method_69_code 2 (some .int) :: ws) ({ frames := 0, cells := 0, slots := 0, locals := 0 } : Room)) (fun a U => a = #[(.int x), (.int y)] ∧ Z.Warmed39 U.vm ∧ U.heap = h0) (fun _ _ _ _ _ => True) (fun _ U o U' => ∃ v L, o = .returned v ∧ own_QP (some (.int x)) h0 n0 v U'.heap L ∧ FrameEnd U o U' L ({ frames := 0, cells := 0, slots := 0, locals := 0 } : Room).cells ({ frames := 0, cells := 0, slots := 0, locals := 0 } : Room).slots) := by
  refine MetFree.of_bodySF (Jvm.Free.JP.mathPlain rfl (by decide +kernel)) hisR ?_
  intro p e s m args below meth c s₁ Bd hml0 hP hK
  obtain ⟨rfl, hZ, hh⟩ := hP
  have hx := Bd.exec
  have hby := Bd.bytes
  have hml : c.maxLocals = 2 := hml0
  have hown : s.vm.findClass "java/lang/Math" = some m.cls := findClass_of_methodNamed Bd.named
  have hnm := (name_of_methodNamed Bd.named Bd.method).1
  have X0 : Stand p l e ({ frames := 0, cells := 0, slots := 0, locals := 0 } : Room) s m #[(.int x), (.int y)] below meth c s₁ [] 0 0 := Stand.of_body Bd
  have e0 : s₁.heap = h0 := by rw [← hh, Bd.state]; rfl
  have N0 := Fr.nil n0
  have pre0 : ∀ t, Steps p.tables e below (s₁.setTop (mkF m 0 #[.val (.int x), .val (.int y)] [])) t → Steps p.tables e below (s₁.setTop (entryFrame m #[(.int x), (.int y)] 2)) t := fun t k => castTop (own_ef_mif m x y) k
  obtain ⟨fs, hr, hrun, hended, hW, hsame⟩ := X0.leave (v := some (.int x)) (fun h => by rw [Bd.returns] at h; cases h)
  refine ⟨_, _, pre0 _ ?_, hrun, hended, _, _, rfl, ?_, ⟨_, rfl⟩, hW, hsame.mono (by decide) (by decide)⟩
  · refine own_s_iloadN X0.here hx (hb hby own_d2_0) (pc' := 1) rfl rfl ?_
    refine own_s_iloadN X0.here hx (hb hby own_d2_1) (pc' := 2) rfl rfl ?_
    refine own_s_icmpNo X0.here hx (hb hby own_d2_2) (pc' := 5) rfl mif_hb2 ?_
    refine own_s_iloadN X0.here hx (hb hby own_d2_5) (pc' := 6) rfl rfl ?_
    refine own_s_goto X0.here hx (hb hby own_d2_6) (by decide) (pc' := 10) (by decide) ?_
    exact own_retI X0 hx Bd.returns (hb hby own_d2_10) hr
  · show own_QP (some (.int x)) h0 n0 _ s₁.heap _
    rw [e0]
    exact ⟨rfl, N0, rfl⟩
set_option maxRecDepth 65536 in
set_option maxHeartbeats 40000000 in
theorem own_rm_mi (l : Launch) (Z : State) (a0 : Array Value) (hw : ∀ d ∈ tables_1, d.before a0 Z = true) (ws : List Jvm.Cond) (x : Int32) (y : Int32)  (h0 : Heap) (n0 : Nat) (Z0 : n0 ≤ h0.size)   :
    MetFree l (⟨"java/lang/Math", "min", "(II)I"⟩ : MethodName) (head1 (Jvm.Cond.code (⟨"java/lang/Math", "min", "(II)I"⟩ : MethodName) jdk_29_method_69_code 2 (some .int) :: ws) ({ frames := 0, cells := 0, slots := 0, locals := 0 } : Room)) (fun a U => a = #[(.int x), (.int y)] ∧ Z.Warmed39 U.vm ∧ U.heap = h0) (fun _ _ _ _ _ => True) (fun _ U o U' => ∃ v L, o = .returned v ∧ own_QP (some (.int (own_imin x y))) h0 n0 v U'.heap L ∧ FrameEnd U o U' L ({ frames := 0, cells := 0, slots := 0, locals := 0 } : Room).cells ({ frames := 0, cells := 0, slots := 0, locals := 0 } : Room).slots) := by
  unfold own_imin
  by_cases h : y < x
  · rw [if_pos h]; exact own_rm_mit l Z a0 hw ws x y h0 n0 Z0 (XT.ii_gt_t h)
  · rw [if_neg h]; exact own_rm_mif l Z a0 hw ws x y h0 n0 Z0 (XT.ii_gt_f h)
def own_imax (x y : Int32) : Int32 := if x < y then y else x
theorem own_d4_0 : decode jdk_29_method_65_code 0 = .ok (.iload_n 0, 1) := by decide +kernel
theorem own_d4_1 : decode jdk_29_method_65_code 1 = .ok (.iload_n 1, 1) := by decide +kernel
theorem own_d4_2 : decode jdk_29_method_65_code 2 = .ok (.if_icmp .lt 7, 3) := by decide +kernel
theorem own_d4_9 : decode jdk_29_method_65_code 9 = .ok (.iload_n 1, 1) := by decide +kernel
theorem own_d4_10 : decode jdk_29_method_65_code 10 = .ok (.ireturn, 1) := by decide +kernel
theorem own_d4_5 : decode jdk_29_method_65_code 5 = .ok (.iload_n 0, 1) := by decide +kernel
theorem own_d4_6 : decode jdk_29_method_65_code 6 = .ok (.goto 4, 3) := by decide +kernel
theorem own_ef_mat (m : MethodId) (x : Int32) (y : Int32) : entryFrame m #[(.int x), (.int y)] 2 = mkF m 0 #[.val (.int x), .val (.int y)] [] := by first | (simp [entryFrame, mkF, argsToLocals, Value.category]; done) | rfl
set_option maxRecDepth 65536 in
set_option maxHeartbeats 40000000 in
theorem own_rm_mat (l : Launch) (Z : State) (a0 : Array Value) (hw : ∀ d ∈ tables_1, d.before a0 Z = true) (ws : List Jvm.Cond) (x : Int32) (y : Int32)  (h0 : Heap) (n0 : Nat) (Z0 : n0 ≤ h0.size)  (mat_hb2 : if_icmp.holds .lt x y = true) :
    MetFree l (⟨"java/lang/Math", "max", "(II)I"⟩ : MethodName) (head1 (Jvm.Cond.code (⟨"java/lang/Math", "max", "(II)I"⟩ : MethodName) jdk_29_method_65_code 2 (some .int) :: ws) ({ frames := 0, cells := 0, slots := 0, locals := 0 } : Room)) (fun a U => a = #[(.int x), (.int y)] ∧ Z.Warmed39 U.vm ∧ U.heap = h0) (fun _ _ _ _ _ => True) (fun _ U o U' => ∃ v L, o = .returned v ∧ own_QP (some (.int y)) h0 n0 v U'.heap L ∧ FrameEnd U o U' L ({ frames := 0, cells := 0, slots := 0, locals := 0 } : Room).cells ({ frames := 0, cells := 0, slots := 0, locals := 0 } : Room).slots) := by
  refine MetFree.of_bodySF (Jvm.Free.JP.mathPlain rfl (by decide +kernel)) hisR ?_
  intro p e s m args below meth c s₁ Bd hml0 hP hK
  obtain ⟨rfl, hZ, hh⟩ := hP
  have hx := Bd.exec
  have hby := Bd.bytes
  have hml : c.maxLocals = 2 := hml0
  have hown : s.vm.findClass "java/lang/Math" = some m.cls := findClass_of_methodNamed Bd.named
  have hnm := (name_of_methodNamed Bd.named Bd.method).1
  have X0 : Stand p l e ({ frames := 0, cells := 0, slots := 0, locals := 0 } : Room) s m #[(.int x), (.int y)] below meth c s₁ [] 0 0 := Stand.of_body Bd
  have e0 : s₁.heap = h0 := by rw [← hh, Bd.state]; rfl
  have N0 := Fr.nil n0
  have pre0 : ∀ t, Steps p.tables e below (s₁.setTop (mkF m 0 #[.val (.int x), .val (.int y)] [])) t → Steps p.tables e below (s₁.setTop (entryFrame m #[(.int x), (.int y)] 2)) t := fun t k => castTop (own_ef_mat m x y) k
  obtain ⟨fs, hr, hrun, hended, hW, hsame⟩ := X0.leave (v := some (.int y)) (fun h => by rw [Bd.returns] at h; cases h)
  refine ⟨_, _, pre0 _ ?_, hrun, hended, _, _, rfl, ?_, ⟨_, rfl⟩, hW, hsame.mono (by decide) (by decide)⟩
  · refine own_s_iloadN X0.here hx (hb hby own_d4_0) (pc' := 1) rfl rfl ?_
    refine own_s_iloadN X0.here hx (hb hby own_d4_1) (pc' := 2) rfl rfl ?_
    refine own_s_icmpYes X0.here hx (hb hby own_d4_2) (by decide) (pc' := 9) (by decide) mat_hb2 ?_
    refine own_s_iloadN X0.here hx (hb hby own_d4_9) (pc' := 10) rfl rfl ?_
    exact own_retI X0 hx Bd.returns (hb hby own_d4_10) hr
  · show own_QP (some (.int y)) h0 n0 _ s₁.heap _
    rw [e0]
    exact ⟨rfl, N0, rfl⟩
theorem own_ef_maf (m : MethodId) (x : Int32) (y : Int32) : entryFrame m #[(.int x), (.int y)] 2 = mkF m 0 #[.val (.int x), .val (.int y)] [] := by first | (simp [entryFrame, mkF, argsToLocals, Value.category]; done) | rfl
set_option maxRecDepth 65536 in
set_option maxHeartbeats 40000000 in
theorem own_rm_maf (l : Launch) (Z : State) (a0 : Array Value) (hw : ∀ d ∈ tables_1, d.before a0 Z = true) (ws : List Jvm.Cond) (x : Int32) (y : Int32)  (h0 : Heap) (n0 : Nat) (Z0 : n0 ≤ h0.size)  (maf_hb2 : if_icmp.holds .lt x y = false) :
    MetFree l (⟨"java/lang/Math", "max", "(II)I"⟩ : MethodName) (head1 (Jvm.Cond.code (⟨"java/lang/Math", "max", "(II)I"⟩ : MethodName) jdk_29_method_65_code 2 (some .int) :: ws) ({ frames := 0, cells := 0, slots := 0, locals := 0 } : Room)) (fun a U => a = #[(.int x), (.int y)] ∧ Z.Warmed39 U.vm ∧ U.heap = h0) (fun _ _ _ _ _ => True) (fun _ U o U' => ∃ v L, o = .returned v ∧ own_QP (some (.int x)) h0 n0 v U'.heap L ∧ FrameEnd U o U' L ({ frames := 0, cells := 0, slots := 0, locals := 0 } : Room).cells ({ frames := 0, cells := 0, slots := 0, locals := 0 } : Room).slots) := by
  refine MetFree.of_bodySF (Jvm.Free.JP.mathPlain rfl (by decide +kernel)) hisR ?_
  intro p e s m args below meth c s₁ Bd hml0 hP hK
  obtain ⟨rfl, hZ, hh⟩ := hP
  have hx := Bd.exec
  have hby := Bd.bytes
  have hml : c.maxLocals = 2 := hml0
  have hown : s.vm.findClass "java/lang/Math" = some m.cls := findClass_of_methodNamed Bd.named
  have hnm := (name_of_methodNamed Bd.named Bd.method).1
  have X0 : Stand p l e ({ frames := 0, cells := 0, slots := 0, locals := 0 } : Room) s m #[(.int x), (.int y)] below meth c s₁ [] 0 0 := Stand.of_body Bd
  have e0 : s₁.heap = h0 := by rw [← hh, Bd.state]; rfl
  have N0 := Fr.nil n0
  have pre0 : ∀ t, Steps p.tables e below (s₁.setTop (mkF m 0 #[.val (.int x), .val (.int y)] [])) t → Steps p.tables e below (s₁.setTop (entryFrame m #[(.int x), (.int y)] 2)) t := fun t k => castTop (own_ef_maf m x y) k
  obtain ⟨fs, hr, hrun, hended, hW, hsame⟩ := X0.leave (v := some (.int x)) (fun h => by rw [Bd.returns] at h; cases h)
  refine ⟨_, _, pre0 _ ?_, hrun, hended, _, _, rfl, ?_, ⟨_, rfl⟩, hW, hsame.mono (by decide) (by decide)⟩
  · refine own_s_iloadN X0.here hx (hb hby own_d4_0) (pc' := 1) rfl rfl ?_
    refine own_s_iloadN X0.here hx (hb hby own_d4_1) (pc' := 2) rfl rfl ?_
    refine own_s_icmpNo X0.here hx (hb hby own_d4_2) (pc' := 5) rfl maf_hb2 ?_
    refine own_s_iloadN X0.here hx (hb hby own_d4_5) (pc' := 6) rfl rfl ?_
    refine own_s_goto X0.here hx (hb hby own_d4_6) (by decide) (pc' := 10) (by decide) ?_
    exact own_retI X0 hx Bd.returns (hb hby own_d4_10) hr
  · show own_QP (some (.int x)) h0 n0 _ s₁.heap _
    rw [e0]
    exact ⟨rfl, N0, rfl⟩
set_option maxRecDepth 65536 in
set_option maxHeartbeats 40000000 in
theorem own_rm_ma (l : Launch) (Z : State) (a0 : Array Value) (hw : ∀ d ∈ tables_1, d.before a0 Z = true) (ws : List Jvm.Cond) (x : Int32) (y : Int32)  (h0 : Heap) (n0 : Nat) (Z0 : n0 ≤ h0.size)   :
    MetFree l (⟨"java/lang/Math", "max", "(II)I"⟩ : MethodName) (head1 (Jvm.Cond.code (⟨"java/lang/Math", "max", "(II)I"⟩ : MethodName) jdk_29_method_65_code 2 (some .int) :: ws) ({ frames := 0, cells := 0, slots := 0, locals := 0 } : Room)) (fun a U => a = #[(.int x), (.int y)] ∧ Z.Warmed39 U.vm ∧ U.heap = h0) (fun _ _ _ _ _ => True) (fun _ U o U' => ∃ v L, o = .returned v ∧ own_QP (some (.int (own_imax x y))) h0 n0 v U'.heap L ∧ FrameEnd U o U' L ({ frames := 0, cells := 0, slots := 0, locals := 0 } : Room).cells ({ frames := 0, cells := 0, slots := 0, locals := 0 } : Room).slots) := by
  unfold own_imax
  by_cases h : x < y
  · rw [if_pos h]; exact own_rm_mat l Z a0 hw ws x y h0 n0 Z0 (XT.ii_lt_t h)
  · rw [if_neg h]; exact own_rm_maf l Z a0 hw ws x y h0 n0 Z0 (XT.ii_lt_f h)
theorem own_d1_0 : decode method_2_code 0 = .ok (.lload_n 0, 1) := by decide +kernel
theorem own_d1_1 : decode method_2_code 1 = .ok (.l2i, 1) := by decide +kernel
theorem own_d1_2 : decode method_2_code 2 = .ok (.lload_n 0, 1) := by decide +kernel
theorem own_d1_3 : decode method_2_code 3 = .ok (.bipush 32, 2) := by decide +kernel
theorem own_d1_5 : decode method_2_code 5 = .ok (.lushr, 1) := by decide +kernel
theorem own_d1_6 : decode method_2_code 6 = .ok (.l2i, 1) := by decide +kernel
theorem own_pd_28II29I : parseMethodDescriptor "(II)I" = some ⟨[.int, .int], some .int⟩ := by decide +kernel
theorem own_d1_7 : decode method_2_code 7 = .ok (.invokestatic 7, 3) := by decide +kernel
theorem own_d1_10 : decode method_2_code 10 = .ok (.ireturn, 1) := by decide +kernel
theorem own_pn_com_example_thicket_thicket_core_BoxVolumePinLaw : plainName "com/example/thicket/thicket/core/BoxVolumePinLaw" = true := by first | (simp [plainName, overriddenIn]; done) | decide +kernel
theorem own_ef_lo (m : MethodId) (w : Int64) : entryFrame m #[(.long w)] 2 = mkF m 0 #[.val (.long w), .second] [] := by first | (simp [entryFrame, mkF, argsToLocals, Value.category]; done) | rfl
set_option maxRecDepth 65536 in
set_option maxHeartbeats 40000000 in
theorem own_rm_lo (l : Launch) (Z : State) (a0 : Array Value) (hw : ∀ d ∈ tables_1, d.before a0 Z = true) (ws : List Jvm.Cond) (w : Int64) {lo_v1 : Int32} {lo_v5 : Int64} {lo_v6 : Int32} (h0 : Heap) (n0 : Nat) (Z0 : n0 ≤ h0.size)  (lo_hv1 : Int64.toInt32 w = lo_v1) (lo_hv5 : (Int64.toUInt64 w >>> ((32 : Int32) &&& 63).toInt64.toUInt64).toInt64 = lo_v5) (lo_hv6 : Int64.toInt32 lo_v5 = lo_v6) :
    MetFree l (⟨"com/example/thicket/thicket/core/BoxVolumePinLaw", "lo", "(J)I"⟩ : MethodName) (head1 (Jvm.Cond.code (⟨"com/example/thicket/thicket/core/BoxVolumePinLaw", "lo", "(J)I"⟩ : MethodName) method_2_code 2 (some .int) :: ws) ({ frames := 1, cells := 0, slots := 0, locals := 13 } : Room)) (fun a U => a = #[(.long w)] ∧ Z.Warmed39 U.vm ∧ U.heap = h0) (fun _ _ _ _ _ => True) (fun _ U o U' => ∃ v L, o = .returned v ∧ own_QP (some (.int (own_imin lo_v1 lo_v6))) h0 n0 v U'.heap L ∧ FrameEnd U o U' L ({ frames := 1, cells := 0, slots := 0, locals := 13 } : Room).cells ({ frames := 1, cells := 0, slots := 0, locals := 13 } : Room).slots) := by
  refine MetFree.of_bodySF (plainFor_of_name own_pn_com_example_thicket_thicket_core_BoxVolumePinLaw) hisR ?_
  intro p e s m args below meth c s₁ Bd hml0 hP hK
  obtain ⟨rfl, hZ, hh⟩ := hP
  have hx := Bd.exec
  have hby := Bd.bytes
  have hml : c.maxLocals = 2 := hml0
  have hown : s.vm.findClass "com/example/thicket/thicket/core/BoxVolumePinLaw" = some m.cls := findClass_of_methodNamed Bd.named
  have hnm := (name_of_methodNamed Bd.named Bd.method).1
  have X0 : Stand p l e ({ frames := 1, cells := 0, slots := 0, locals := 13 } : Room) s m #[(.long w)] below meth c s₁ [] 0 0 := Stand.of_body Bd
  have e0 : s₁.heap = h0 := by rw [← hh, Bd.state]; rfl
  have N0 := Fr.nil n0
  have pre0 : ∀ t, Steps p.tables e below (s₁.setTop (mkF m 0 #[.val (.long w), .second] [])) t → Steps p.tables e below (s₁.setTop (entryFrame m #[(.long w)] 2)) t := fun t k => castTop (own_ef_lo m w) k
  obtain ⟨_, _, ⟨Tlo1, Llo1, klo1, nlo1⟩, -, Xlo1, ⟨Lclo1, hQlo1, llo1, ylo1, zlo1⟩, stlo1⟩ := Jvm.LawKit.callS X0 hx (y := (⟨"java/lang/Math", "min", "(II)I"⟩ : MethodName)) hown (mvT hZ (hw _ (List.mem_of_getElem? (i := 5) rfl))) (mvT hZ (hw _ (List.mem_of_getElem? (i := 6) rfl))) (mvT hZ (hw _ (List.mem_of_getElem? (i := 7) rfl))) (mvT hZ (hw _ (List.mem_of_getElem? (i := 8) rfl))) (by decide) (backOf (W := 0) (own_rm_mi l Z a0 hw [] lo_v1 lo_v6 h0 n0 Z0 ) hZ (hw _ (List.mem_of_getElem? (i := 8) rfl)) (hw _ (List.mem_of_getElem? (i := 7) rfl)) (by decide) (by decide)) (g := (mkF m 7 #[.val (.long w), .second] [(.int lo_v6), (.int lo_v1)])) rfl (by rw [hml]; rfl) (argsL := [(.int lo_v1), (.int lo_v6)]) (rest := []) (lenOf own_pd_28II29I rfl) rfl (by show 2 * 0 + _ ≤ _; exact Nat.le_of_eq rfl) (hb hby own_d1_7) (fun _ _ => ⟨rfl, e0, (by decide : 0 + 0 ≤ _), (by decide : 0 + 0 ≤ _)⟩)
  dsimp only [Pt.U, Pt.locs, Pt.cells, Pt.slots] at Xlo1 llo1 ylo1 zlo1 stlo1 hQlo1
  subst llo1 ylo1 zlo1
  obtain ⟨rfl, Nlo1q, elo1⟩ := hQlo1
  have Nlo1 := Fr.app N0 Nlo1q
  obtain ⟨fs, hr, hrun, hended, hW, hsame⟩ := Xlo1.leave (v := some (.int (own_imin lo_v1 lo_v6))) (fun h => by rw [Bd.returns] at h; cases h)
  refine ⟨_, _, pre0 _ ?_, hrun, hended, _, _, rfl, ?_, ⟨_, rfl⟩, hW, hsame.mono (by decide) (by decide)⟩
  · refine own_s_lloadN X0.here hx (hb hby own_d1_0) (pc' := 1) rfl rfl ?_
    refine own_s_l2i X0.here hx (hb hby own_d1_1) (pc' := 2) rfl (v := lo_v1) lo_hv1 ?_
    refine own_s_lloadN X0.here hx (hb hby own_d1_2) (pc' := 3) rfl rfl ?_
    refine own_s_bipush X0.here hx (hb hby own_d1_3) (pc' := 5) rfl (v := (32 : Int32)) (by decide) ?_
    refine own_s_lushr X0.here hx (hb hby own_d1_5) (pc' := 6) rfl (v := lo_v5) lo_hv5 ?_
    refine own_s_l2i X0.here hx (hb hby own_d1_6) (pc' := 7) rfl (v := lo_v6) lo_hv6 ?_
    refine stlo1 _ ?_
    show Steps p.tables e below (Tlo1.setTop (mkF m 10 #[.val (.long w), .second] [(.int (own_imin lo_v1 lo_v6))])) _
    exact own_retI Xlo1 hx Bd.returns (hb hby own_d1_10) hr
  · show own_QP (some (.int (own_imin lo_v1 lo_v6))) h0 n0 _ Tlo1.heap _
    rw [elo1]
    exact ⟨rfl, Nlo1, rfl⟩
theorem own_d3_0 : decode method_3_code 0 = .ok (.lload_n 0, 1) := by decide +kernel
theorem own_d3_1 : decode method_3_code 1 = .ok (.l2i, 1) := by decide +kernel
theorem own_d3_2 : decode method_3_code 2 = .ok (.lload_n 0, 1) := by decide +kernel
theorem own_d3_3 : decode method_3_code 3 = .ok (.bipush 32, 2) := by decide +kernel
theorem own_d3_5 : decode method_3_code 5 = .ok (.lushr, 1) := by decide +kernel
theorem own_d3_6 : decode method_3_code 6 = .ok (.l2i, 1) := by decide +kernel
theorem own_d3_7 : decode method_3_code 7 = .ok (.invokestatic 13, 3) := by decide +kernel
theorem own_d3_10 : decode method_3_code 10 = .ok (.ireturn, 1) := by decide +kernel
theorem own_ef_hi (m : MethodId) (w : Int64) : entryFrame m #[(.long w)] 2 = mkF m 0 #[.val (.long w), .second] [] := by first | (simp [entryFrame, mkF, argsToLocals, Value.category]; done) | rfl
set_option maxRecDepth 65536 in
set_option maxHeartbeats 40000000 in
theorem own_rm_hi (l : Launch) (Z : State) (a0 : Array Value) (hw : ∀ d ∈ tables_1, d.before a0 Z = true) (ws : List Jvm.Cond) (w : Int64) {hi_v1 : Int32} {hi_v5 : Int64} {hi_v6 : Int32} (h0 : Heap) (n0 : Nat) (Z0 : n0 ≤ h0.size)  (hi_hv1 : Int64.toInt32 w = hi_v1) (hi_hv5 : (Int64.toUInt64 w >>> ((32 : Int32) &&& 63).toInt64.toUInt64).toInt64 = hi_v5) (hi_hv6 : Int64.toInt32 hi_v5 = hi_v6) :
    MetFree l (⟨"com/example/thicket/thicket/core/BoxVolumePinLaw", "hi", "(J)I"⟩ : MethodName) (head1 (Jvm.Cond.code (⟨"com/example/thicket/thicket/core/BoxVolumePinLaw", "hi", "(J)I"⟩ : MethodName) method_3_code 2 (some .int) :: ws) ({ frames := 1, cells := 0, slots := 0, locals := 13 } : Room)) (fun a U => a = #[(.long w)] ∧ Z.Warmed39 U.vm ∧ U.heap = h0) (fun _ _ _ _ _ => True) (fun _ U o U' => ∃ v L, o = .returned v ∧ own_QP (some (.int (own_imax hi_v1 hi_v6))) h0 n0 v U'.heap L ∧ FrameEnd U o U' L ({ frames := 1, cells := 0, slots := 0, locals := 13 } : Room).cells ({ frames := 1, cells := 0, slots := 0, locals := 13 } : Room).slots) := by
  refine MetFree.of_bodySF (plainFor_of_name own_pn_com_example_thicket_thicket_core_BoxVolumePinLaw) hisR ?_
  intro p e s m args below meth c s₁ Bd hml0 hP hK
  obtain ⟨rfl, hZ, hh⟩ := hP
  have hx := Bd.exec
  have hby := Bd.bytes
  have hml : c.maxLocals = 2 := hml0
  have hown : s.vm.findClass "com/example/thicket/thicket/core/BoxVolumePinLaw" = some m.cls := findClass_of_methodNamed Bd.named
  have hnm := (name_of_methodNamed Bd.named Bd.method).1
  have X0 : Stand p l e ({ frames := 1, cells := 0, slots := 0, locals := 13 } : Room) s m #[(.long w)] below meth c s₁ [] 0 0 := Stand.of_body Bd
  have e0 : s₁.heap = h0 := by rw [← hh, Bd.state]; rfl
  have N0 := Fr.nil n0
  have pre0 : ∀ t, Steps p.tables e below (s₁.setTop (mkF m 0 #[.val (.long w), .second] [])) t → Steps p.tables e below (s₁.setTop (entryFrame m #[(.long w)] 2)) t := fun t k => castTop (own_ef_hi m w) k
  obtain ⟨_, _, ⟨Thi1, Lhi1, khi1, nhi1⟩, -, Xhi1, ⟨Lchi1, hQhi1, lhi1, yhi1, zhi1⟩, sthi1⟩ := Jvm.LawKit.callS X0 hx (y := (⟨"java/lang/Math", "max", "(II)I"⟩ : MethodName)) hown (mvT hZ (hw _ (List.mem_of_getElem? (i := 12) rfl))) (mvT hZ (hw _ (List.mem_of_getElem? (i := 13) rfl))) (mvT hZ (hw _ (List.mem_of_getElem? (i := 7) rfl))) (mvT hZ (hw _ (List.mem_of_getElem? (i := 14) rfl))) (by decide) (backOf (W := 0) (own_rm_ma l Z a0 hw [] hi_v1 hi_v6 h0 n0 Z0 ) hZ (hw _ (List.mem_of_getElem? (i := 14) rfl)) (hw _ (List.mem_of_getElem? (i := 7) rfl)) (by decide) (by decide)) (g := (mkF m 7 #[.val (.long w), .second] [(.int hi_v6), (.int hi_v1)])) rfl (by rw [hml]; rfl) (argsL := [(.int hi_v1), (.int hi_v6)]) (rest := []) (lenOf own_pd_28II29I rfl) rfl (by show 2 * 0 + _ ≤ _; exact Nat.le_of_eq rfl) (hb hby own_d3_7) (fun _ _ => ⟨rfl, e0, (by decide : 0 + 0 ≤ _), (by decide : 0 + 0 ≤ _)⟩)
  dsimp only [Pt.U, Pt.locs, Pt.cells, Pt.slots] at Xhi1 lhi1 yhi1 zhi1 sthi1 hQhi1
  subst lhi1 yhi1 zhi1
  obtain ⟨rfl, Nhi1q, ehi1⟩ := hQhi1
  have Nhi1 := Fr.app N0 Nhi1q
  obtain ⟨fs, hr, hrun, hended, hW, hsame⟩ := Xhi1.leave (v := some (.int (own_imax hi_v1 hi_v6))) (fun h => by rw [Bd.returns] at h; cases h)
  refine ⟨_, _, pre0 _ ?_, hrun, hended, _, _, rfl, ?_, ⟨_, rfl⟩, hW, hsame.mono (by decide) (by decide)⟩
  · refine own_s_lloadN X0.here hx (hb hby own_d3_0) (pc' := 1) rfl rfl ?_
    refine own_s_l2i X0.here hx (hb hby own_d3_1) (pc' := 2) rfl (v := hi_v1) hi_hv1 ?_
    refine own_s_lloadN X0.here hx (hb hby own_d3_2) (pc' := 3) rfl rfl ?_
    refine own_s_bipush X0.here hx (hb hby own_d3_3) (pc' := 5) rfl (v := (32 : Int32)) (by decide) ?_
    refine own_s_lushr X0.here hx (hb hby own_d3_5) (pc' := 6) rfl (v := hi_v5) hi_hv5 ?_
    refine own_s_l2i X0.here hx (hb hby own_d3_6) (pc' := 7) rfl (v := hi_v6) hi_hv6 ?_
    refine sthi1 _ ?_
    show Steps p.tables e below (Thi1.setTop (mkF m 10 #[.val (.long w), .second] [(.int (own_imax hi_v1 hi_v6))])) _
    exact own_retI Xhi1 hx Bd.returns (hb hby own_d3_10) hr
  · show own_QP (some (.int (own_imax hi_v1 hi_v6))) h0 n0 _ Thi1.heap _
    rw [ehi1]
    exact ⟨rfl, Nhi1, rfl⟩
theorem own_d5_0 : decode method_4_code 0 = .ok (.lload_n 0, 1) := by decide +kernel
theorem own_pd_28J29I : parseMethodDescriptor "(J)I" = some ⟨[.long], some .int⟩ := by decide +kernel
theorem own_d5_1 : decode method_4_code 1 = .ok (.invokestatic 16, 3) := by decide +kernel
theorem own_d5_4 : decode method_4_code 4 = .ok (.i2d, 1) := by decide +kernel
theorem own_d5_5 : decode method_4_code 5 = .ok (.lload_n 0, 1) := by decide +kernel
theorem own_d5_6 : decode method_4_code 6 = .ok (.invokestatic 22, 3) := by decide +kernel
theorem own_d5_9 : decode method_4_code 9 = .ok (.i2d, 1) := by decide +kernel
theorem own_d5_10 : decode method_4_code 10 = .ok (.dsub, 1) := by decide +kernel
theorem own_d5_11 : decode method_4_code 11 = .ok (.dreturn, 1) := by decide +kernel
theorem own_ef_sd (m : MethodId) (w : Int64) : entryFrame m #[(.long w)] 2 = mkF m 0 #[.val (.long w), .second] [] := by first | (simp [entryFrame, mkF, argsToLocals, Value.category]; done) | rfl
set_option maxRecDepth 65536 in
set_option maxHeartbeats 40000000 in
theorem own_rm_sd (l : Launch) (Z : State) (a0 : Array Value) (hw : ∀ d ∈ tables_1, d.before a0 Z = true) (ws : List Jvm.Cond) (w : Int64) {sd_c1_hi_v1 : Int32} {sd_c1_hi_v5 : Int64} {sd_c1_hi_v6 : Int32} {sd_c6_lo_v1 : Int32} {sd_c6_lo_v5 : Int64} {sd_c6_lo_v6 : Int32} {sd_v10 : UInt64} (h0 : Heap) (n0 : Nat) (Z0 : n0 ≤ h0.size)  (sd_c1_hi_hv1 : Int64.toInt32 w = sd_c1_hi_v1) (sd_c1_hi_hv5 : (Int64.toUInt64 w >>> ((32 : Int32) &&& 63).toInt64.toUInt64).toInt64 = sd_c1_hi_v5) (sd_c1_hi_hv6 : Int64.toInt32 sd_c1_hi_v5 = sd_c1_hi_v6) (sd_c6_lo_hv1 : Int64.toInt32 w = sd_c6_lo_v1) (sd_c6_lo_hv5 : (Int64.toUInt64 w >>> ((32 : Int32) &&& 63).toInt64.toUInt64).toInt64 = sd_c6_lo_v5) (sd_c6_lo_hv6 : Int64.toInt32 sd_c6_lo_v5 = sd_c6_lo_v6) (sd_hn10 : Jvm.Free.Fl.NoNaN64 (FP.dsub (FP.i2d (own_imax sd_c1_hi_v1 sd_c1_hi_v6)) (FP.i2d (own_imin sd_c6_lo_v1 sd_c6_lo_v6)))) (sd_hv10 : FP.dsub (FP.i2d (own_imax sd_c1_hi_v1 sd_c1_hi_v6)) (FP.i2d (own_imin sd_c6_lo_v1 sd_c6_lo_v6)) = sd_v10) :
    MetFree l (⟨"com/example/thicket/thicket/core/BoxVolumePinLaw", "side", "(J)D"⟩ : MethodName) (head1 (Jvm.Cond.code (⟨"com/example/thicket/thicket/core/BoxVolumePinLaw", "side", "(J)D"⟩ : MethodName) method_4_code 2 (some .double) :: ws) ({ frames := 2, cells := 0, slots := 0, locals := 28 } : Room)) (fun a U => a = #[(.long w)] ∧ Z.Warmed39 U.vm ∧ U.heap = h0) (fun _ _ _ _ _ => True) (fun _ U o U' => ∃ v L, o = .returned v ∧ own_QP (some (.double sd_v10)) h0 n0 v U'.heap L ∧ FrameEnd U o U' L ({ frames := 2, cells := 0, slots := 0, locals := 28 } : Room).cells ({ frames := 2, cells := 0, slots := 0, locals := 28 } : Room).slots) := by
  refine MetFree.of_bodySF (plainFor_of_name own_pn_com_example_thicket_thicket_core_BoxVolumePinLaw) hisR ?_
  intro p e s m args below meth c s₁ Bd hml0 hP hK
  obtain ⟨rfl, hZ, hh⟩ := hP
  have hx := Bd.exec
  have hby := Bd.bytes
  have hml : c.maxLocals = 2 := hml0
  have hown : s.vm.findClass "com/example/thicket/thicket/core/BoxVolumePinLaw" = some m.cls := findClass_of_methodNamed Bd.named
  have hnm := (name_of_methodNamed Bd.named Bd.method).1
  have X0 : Stand p l e ({ frames := 2, cells := 0, slots := 0, locals := 28 } : Room) s m #[(.long w)] below meth c s₁ [] 0 0 := Stand.of_body Bd
  have e0 : s₁.heap = h0 := by rw [← hh, Bd.state]; rfl
  have N0 := Fr.nil n0
  have pre0 : ∀ t, Steps p.tables e below (s₁.setTop (mkF m 0 #[.val (.long w), .second] [])) t → Steps p.tables e below (s₁.setTop (entryFrame m #[(.long w)] 2)) t := fun t k => castTop (own_ef_sd m w) k
  obtain ⟨_, _, ⟨Tsd1, Lsd1, ksd1, nsd1⟩, -, Xsd1, ⟨Lcsd1, hQsd1, lsd1, ysd1, zsd1⟩, stsd1⟩ := Jvm.LawKit.callS X0 hx (y := (⟨"com/example/thicket/thicket/core/BoxVolumePinLaw", "hi", "(J)I"⟩ : MethodName)) hown (mvT hZ (hw _ (List.mem_of_getElem? (i := 9) rfl))) (mvT hZ (hw _ (List.mem_of_getElem? (i := 10) rfl))) (mvT hZ (hw _ (List.mem_of_getElem? (i := 3) rfl))) (mvT hZ (hw _ (List.mem_of_getElem? (i := 11) rfl))) (by decide) (backOf (W := 0) (own_rm_hi l Z a0 hw [] w h0 n0 Z0 sd_c1_hi_hv1 sd_c1_hi_hv5 sd_c1_hi_hv6) hZ (hw _ (List.mem_of_getElem? (i := 11) rfl)) (hw _ (List.mem_of_getElem? (i := 3) rfl)) (by decide) (by decide)) (g := (mkF m 1 #[.val (.long w), .second] [(.long w)])) rfl (by rw [hml]; rfl) (argsL := [(.long w)]) (rest := []) (lenOf own_pd_28J29I rfl) rfl (by show 2 * 0 + _ ≤ _; exact Nat.le_of_eq rfl) (hb hby own_d5_1) (fun _ _ => ⟨rfl, e0, (by decide : 0 + 0 ≤ _), (by decide : 0 + 0 ≤ _)⟩)
  dsimp only [Pt.U, Pt.locs, Pt.cells, Pt.slots] at Xsd1 lsd1 ysd1 zsd1 stsd1 hQsd1
  subst lsd1 ysd1 zsd1
  obtain ⟨rfl, Nsd1q, esd1⟩ := hQsd1
  have Nsd1 := Fr.app N0 Nsd1q
  obtain ⟨_, _, ⟨Tsd2, Lsd2, ksd2, nsd2⟩, -, Xsd2, ⟨Lcsd2, hQsd2, lsd2, ysd2, zsd2⟩, stsd2⟩ := Jvm.LawKit.callS Xsd1 hx (y := (⟨"com/example/thicket/thicket/core/BoxVolumePinLaw", "lo", "(J)I"⟩ : MethodName)) hown (mvT hZ (hw _ (List.mem_of_getElem? (i := 1) rfl))) (mvT hZ (hw _ (List.mem_of_getElem? (i := 2) rfl))) (mvT hZ (hw _ (List.mem_of_getElem? (i := 3) rfl))) (mvT hZ (hw _ (List.mem_of_getElem? (i := 4) rfl))) (by decide) (backOf (W := 2) (own_rm_lo l Z a0 hw [] w h0 n0 Z0 sd_c6_lo_hv1 sd_c6_lo_hv5 sd_c6_lo_hv6) hZ (hw _ (List.mem_of_getElem? (i := 4) rfl)) (hw _ (List.mem_of_getElem? (i := 3) rfl)) (by decide) (by decide)) (g := (mkF m 6 #[.val (.long w), .second] [(.long w), (.double (FP.i2d (own_imax sd_c1_hi_v1 sd_c1_hi_v6)))])) rfl (by rw [hml]; rfl) (argsL := [(.long w)]) (rest := [(.double (FP.i2d (own_imax sd_c1_hi_v1 sd_c1_hi_v6)))]) (lenOf own_pd_28J29I rfl) rfl (by show 2 * 0 + _ ≤ _; exact Nat.le_of_eq rfl) (hb hby own_d5_6) (fun _ _ => ⟨rfl, esd1, (by decide : 0 + 0 ≤ _), (by decide : 0 + 0 ≤ _)⟩)
  dsimp only [Pt.U, Pt.locs, Pt.cells, Pt.slots] at Xsd2 lsd2 ysd2 zsd2 stsd2 hQsd2
  subst lsd2 ysd2 zsd2
  obtain ⟨rfl, Nsd2q, esd2⟩ := hQsd2
  have Nsd2 := Fr.app Nsd1 Nsd2q
  obtain ⟨fs, hr, hrun, hended, hW, hsame⟩ := Xsd2.leave (v := some (.double sd_v10)) (fun h => by rw [Bd.returns] at h; cases h)
  refine ⟨_, _, pre0 _ ?_, hrun, hended, _, _, rfl, ?_, ⟨_, rfl⟩, hW, hsame.mono (by decide) (by decide)⟩
  · refine own_s_lloadN X0.here hx (hb hby own_d5_0) (pc' := 1) rfl rfl ?_
    refine stsd1 _ ?_
    show Steps p.tables e below (Tsd1.setTop (mkF m 4 #[.val (.long w), .second] [(.int (own_imax sd_c1_hi_v1 sd_c1_hi_v6))])) _
    refine own_s_i2d Xsd1.here hx (hb hby own_d5_4) (pc' := 5) rfl (v := (FP.i2d (own_imax sd_c1_hi_v1 sd_c1_hi_v6))) rfl ?_
    refine own_s_lloadN Xsd1.here hx (hb hby own_d5_5) (pc' := 6) rfl rfl ?_
    refine stsd2 _ ?_
    show Steps p.tables e below (Tsd2.setTop (mkF m 9 #[.val (.long w), .second] [(.int (own_imin sd_c6_lo_v1 sd_c6_lo_v6)), (.double (FP.i2d (own_imax sd_c1_hi_v1 sd_c1_hi_v6)))])) _
    refine own_s_i2d Xsd2.here hx (hb hby own_d5_9) (pc' := 10) rfl (v := (FP.i2d (own_imin sd_c6_lo_v1 sd_c6_lo_v6))) rfl ?_
    refine own_s_dsub Xsd2.here hx (hb hby own_d5_10) (pc' := 11) rfl sd_hn10 (v := sd_v10) sd_hv10 ?_
    exact own_retD Xsd2 hx Bd.returns (hb hby own_d5_11) hr
  · show own_QP (some (.double sd_v10)) h0 n0 _ Tsd2.heap _
    rw [esd2]
    exact ⟨rfl, Nsd2, rfl⟩
theorem own_d6_0 : decode prog_2_method_8_code 0 = .ok (.dconst 1, 1) := by decide +kernel
theorem own_d6_1 : decode prog_2_method_8_code 1 = .ok (.dstore_n 2, 1) := by decide +kernel
theorem own_d6_2 : decode prog_2_method_8_code 2 = .ok (.iconst 0, 1) := by decide +kernel
theorem own_d6_3 : decode prog_2_method_8_code 3 = .ok (.istore 4, 2) := by decide +kernel
theorem own_d6_5 : decode prog_2_method_8_code 5 = .ok (.iload 4, 2) := by decide +kernel
theorem own_d6_7 : decode prog_2_method_8_code 7 = .ok (.aload_n 0, 1) := by decide +kernel
theorem own_d6_8 : decode prog_2_method_8_code 8 = .ok (.arraylength, 1) := by decide +kernel
theorem own_d6_9 : decode prog_2_method_8_code 9 = .ok (.if_icmp .ge 21, 3) := by decide +kernel
theorem own_d6_12 : decode prog_2_method_8_code 12 = .ok (.dload_n 2, 1) := by decide +kernel
theorem own_d6_13 : decode prog_2_method_8_code 13 = .ok (.aload_n 1, 1) := by decide +kernel
theorem own_d6_14 : decode prog_2_method_8_code 14 = .ok (.iload 4, 2) := by decide +kernel
theorem own_d6_16 : decode prog_2_method_8_code 16 = .ok (.daload, 1) := by decide +kernel
theorem own_d6_17 : decode prog_2_method_8_code 17 = .ok (.aload_n 0, 1) := by decide +kernel
theorem own_d6_18 : decode prog_2_method_8_code 18 = .ok (.iload 4, 2) := by decide +kernel
theorem own_d6_20 : decode prog_2_method_8_code 20 = .ok (.daload, 1) := by decide +kernel
theorem own_d6_21 : decode prog_2_method_8_code 21 = .ok (.dsub, 1) := by decide +kernel
theorem own_d6_22 : decode prog_2_method_8_code 22 = .ok (.dmul, 1) := by decide +kernel
theorem own_d6_23 : decode prog_2_method_8_code 23 = .ok (.dstore_n 2, 1) := by decide +kernel
theorem own_d6_24 : decode prog_2_method_8_code 24 = .ok (.iinc 4 1, 3) := by decide +kernel
theorem own_d6_27 : decode prog_2_method_8_code 27 = .ok (.goto (-22), 3) := by decide +kernel
theorem own_d6_30 : decode prog_2_method_8_code 30 = .ok (.dload_n 2, 1) := by decide +kernel
theorem own_d6_31 : decode prog_2_method_8_code 31 = .ok (.dreturn, 1) := by decide +kernel
theorem own_pn_com_example_thicket_thicket_core_Box : plainName "com/example/thicket/thicket/core/Box" = true := by first | (simp [plainName, overriddenIn]; done) | decide +kernel
theorem own_ef_c0 (m : MethodId) (qa : Addr) (qb : Addr) : entryFrame m #[(.ref qa), (.ref qb)] 5 = mkF m 0 #[.val (.ref qa), .val (.ref qb), .unset, .unset, .unset] [] := by first | (simp [entryFrame, mkF, argsToLocals, Value.category]; done) | rfl
set_option maxRecDepth 65536 in
set_option maxHeartbeats 40000000 in
theorem own_rm_c0 (l : Launch) (Z : State) (a0 : Array Value) (hw : ∀ d ∈ tables_1, d.before a0 Z = true) (ws : List Jvm.Cond) (qa : Addr) (d0 : UInt64) (qb : Addr) (ee0 : UInt64) {qak : ClassId} {qbk : ClassId} {c0_v21 : UInt64} {c0_v22 : UInt64} (h0 : Heap) (n0 : Nat) (Z0 : n0 ≤ h0.size) (V_qa : Arv Z h0 qa qak .double (1 : Int32) [(.double d0)] (.double 0)) (V_qb : Arv Z h0 qb qbk .double (1 : Int32) [(.double ee0)] (.double 0)) (c0_hn21 : Jvm.Free.Fl.NoNaN64 (FP.dsub ee0 d0)) (c0_hv21 : FP.dsub ee0 d0 = c0_v21) (c0_hn22 : Jvm.Free.Fl.NoNaN64 (FP.dmul 4607182418800017408 c0_v21)) (c0_hv22 : FP.dmul 4607182418800017408 c0_v21 = c0_v22) :
    MetFree l (⟨"com/example/thicket/thicket/core/Box", "volume", "([D[D)D"⟩ : MethodName) (head1 (Jvm.Cond.code (⟨"com/example/thicket/thicket/core/Box", "volume", "([D[D)D"⟩ : MethodName) prog_2_method_8_code 5 (some .double) :: ws) ({ frames := 0, cells := 0, slots := 0, locals := 0 } : Room)) (fun a U => a = #[(.ref qa), (.ref qb)] ∧ Z.Warmed39 U.vm ∧ U.heap = h0) (fun _ _ _ _ _ => True) (fun _ U o U' => ∃ v L, o = .returned v ∧ own_QP (some (.double c0_v22)) h0 n0 v U'.heap L ∧ FrameEnd U o U' L ({ frames := 0, cells := 0, slots := 0, locals := 0 } : Room).cells ({ frames := 0, cells := 0, slots := 0, locals := 0 } : Room).slots) := by
  refine MetFree.of_bodySF (plainFor_of_name own_pn_com_example_thicket_thicket_core_Box) hisR ?_
  intro p e s m args below meth c s₁ Bd hml0 hP hK
  obtain ⟨rfl, hZ, hh⟩ := hP
  have hx := Bd.exec
  have hby := Bd.bytes
  have hml : c.maxLocals = 5 := hml0
  have hown : s.vm.findClass "com/example/thicket/thicket/core/Box" = some m.cls := findClass_of_methodNamed Bd.named
  have hnm := (name_of_methodNamed Bd.named Bd.method).1
  have X0 : Stand p l e ({ frames := 0, cells := 0, slots := 0, locals := 0 } : Room) s m #[(.ref qa), (.ref qb)] below meth c s₁ [] 0 0 := Stand.of_body Bd
  have e0 : s₁.heap = h0 := by rw [← hh, Bd.state]; rfl
  have N0 := Fr.nil n0
  have pre0 : ∀ t, Steps p.tables e below (s₁.setTop (mkF m 0 #[.val (.ref qa), .val (.ref qb), .unset, .unset, .unset] [])) t → Steps p.tables e below (s₁.setTop (entryFrame m #[(.ref qa), (.ref qb)] 5)) t := fun t k => castTop (own_ef_c0 m qa qb) k
  obtain ⟨fs, hr, hrun, hended, hW, hsame⟩ := X0.leave (v := some (.double c0_v22)) (fun h => by rw [Bd.returns] at h; cases h)
  refine ⟨_, _, pre0 _ ?_, hrun, hended, _, _, rfl, ?_, ⟨_, rfl⟩, hW, hsame.mono (by decide) (by decide)⟩
  · refine own_s_dconst1 X0.here hx (hb hby own_d6_0) (pc' := 1) rfl  ?_
    refine own_s_dstoreN X0.here hx (hb hby own_d6_1) (pc' := 2) rfl (L' := #[.val (.ref qa), .val (.ref qb), .val (.double 4607182418800017408), .second, .unset]) rfl ?_
    refine own_s_iconst X0.here hx (hb hby own_d6_2) (pc' := 3) rfl (v := (0 : Int32)) (by decide) ?_
    refine own_s_istore X0.here hx (hb hby own_d6_3) (pc' := 5) rfl (L' := #[.val (.ref qa), .val (.ref qb), .val (.double 4607182418800017408), .second, .val (.int (0 : Int32))]) rfl ?_
    refine own_s_iload X0.here hx (hb hby own_d6_5) (pc' := 7) rfl rfl ?_
    refine own_s_aloadN X0.here hx (hb hby own_d6_7) (pc' := 8) rfl rfl rfl ?_
    refine own_len X0 hx hZ e0 V_qa (hb hby own_d6_8) (pc' := 9) rfl ?_
    refine own_s_icmpNo X0.here hx (hb hby own_d6_9) (pc' := 12) rfl (by decide) ?_
    refine own_s_dloadN X0.here hx (hb hby own_d6_12) (pc' := 13) rfl rfl ?_
    refine own_s_aloadN X0.here hx (hb hby own_d6_13) (pc' := 14) rfl rfl rfl ?_
    refine own_s_iload X0.here hx (hb hby own_d6_14) (pc' := 16) rfl rfl ?_
    refine own_ldD X0 hx hZ e0 V_qb (j := (0 : Int32)) (x := ee0) (by decide) rfl (hb hby own_d6_16) (pc' := 17) rfl ?_
    refine own_s_aloadN X0.here hx (hb hby own_d6_17) (pc' := 18) rfl rfl rfl ?_
    refine own_s_iload X0.here hx (hb hby own_d6_18) (pc' := 20) rfl rfl ?_
    refine own_ldD X0 hx hZ e0 V_qa (j := (0 : Int32)) (x := d0) (by decide) rfl (hb hby own_d6_20) (pc' := 21) rfl ?_
    refine own_s_dsub X0.here hx (hb hby own_d6_21) (pc' := 22) rfl c0_hn21 (v := c0_v21) c0_hv21 ?_
    refine own_s_dmul X0.here hx (hb hby own_d6_22) (pc' := 23) rfl c0_hn22 (v := c0_v22) c0_hv22 ?_
    refine own_s_dstoreN X0.here hx (hb hby own_d6_23) (pc' := 24) rfl (L' := #[.val (.ref qa), .val (.ref qb), .val (.double c0_v22), .second, .val (.int (0 : Int32))]) rfl ?_
    refine own_s_iinc X0.here hx (hb hby own_d6_24) (pc' := 27) rfl rfl (v := (1 : Int32)) (by decide) (L' := #[.val (.ref qa), .val (.ref qb), .val (.double c0_v22), .second, .val (.int (1 : Int32))]) rfl ?_
    refine own_s_goto X0.here hx (hb hby own_d6_27) (by decide) (pc' := 5) (by decide) ?_
    refine own_s_iload X0.here hx (hb hby own_d6_5) (pc' := 7) rfl rfl ?_
    refine own_s_aloadN X0.here hx (hb hby own_d6_7) (pc' := 8) rfl rfl rfl ?_
    refine own_len X0 hx hZ e0 V_qa (hb hby own_d6_8) (pc' := 9) rfl ?_
    refine own_s_icmpYes X0.here hx (hb hby own_d6_9) (by decide) (pc' := 30) (by decide) (by decide) ?_
    refine own_s_dloadN X0.here hx (hb hby own_d6_30) (pc' := 31) rfl rfl ?_
    exact own_retD X0 hx Bd.returns (hb hby own_d6_31) hr
  · show own_QP (some (.double c0_v22)) h0 n0 _ s₁.heap _
    rw [e0]
    exact ⟨rfl, N0, rfl⟩
theorem own_pd_28J29D : parseMethodDescriptor "(J)D" = some ⟨[.long], some .double⟩ := by decide +kernel
theorem own_pd_285bD5bD29D : parseMethodDescriptor "([D[D)D" = some ⟨[(.array .double), (.array .double)], some .double⟩ := by decide +kernel
theorem own_ef_w0 (m : MethodId) (p0 : Int32) (p1 : Int64) (p2 : Int64) (p3 : Int64) (p4 : Int64) : entryFrame m #[(.int p0), (.long p1), (.long p2), (.long p3), (.long p4)] maxLocals = mkF m 0 #[.val (.int p0), .val (.long p1), .second, .val (.long p2), .second, .val (.long p3), .second, .val (.long p4), .second, .unset, .unset, .unset, .unset, .unset, .unset, .unset] [] := by first | (simp [entryFrame, mkF, argsToLocals, Value.category, maxLocals]; done) | rfl
set_option maxRecDepth 65536 in
set_option maxHeartbeats 40000000 in
theorem own_rm_w0 (l : Launch) (Z : State) (a0 : Array Value) (hw : ∀ d ∈ tables_1, d.before a0 Z = true) (ws : List Jvm.Cond) (p0 : Int32) (p1 : Int64) (p2 : Int64) (p3 : Int64) (p4 : Int64) {w0_c23_lo_v1 : Int32} {w0_c23_lo_v5 : Int64} {w0_c23_lo_v6 : Int32} {w0_c32_hi_v1 : Int32} {w0_c32_hi_v5 : Int64} {w0_c32_hi_v6 : Int32} {w0_c38_sd_c1_hi_v1 : Int32} {w0_c38_sd_c1_hi_v5 : Int64} {w0_c38_sd_c1_hi_v6 : Int32} {w0_c38_sd_c6_lo_v1 : Int32} {w0_c38_sd_c6_lo_v5 : Int64} {w0_c38_sd_c6_lo_v6 : Int32} {w0_c38_sd_v10 : UInt64} {w0_c152_c0_v21 : UInt64} {w0_c152_c0_v22 : UInt64} (h0 : Heap) (n0 : Nat) (Z0 : n0 ≤ h0.size)  (w0_hv3 : p0 &&& (3 : Int32) = (0 : Int32)) (w0_c23_lo_hv1 : Int64.toInt32 p1 = w0_c23_lo_v1) (w0_c23_lo_hv5 : (Int64.toUInt64 p1 >>> ((32 : Int32) &&& 63).toInt64.toUInt64).toInt64 = w0_c23_lo_v5) (w0_c23_lo_hv6 : Int64.toInt32 w0_c23_lo_v5 = w0_c23_lo_v6) (w0_c32_hi_hv1 : Int64.toInt32 p1 = w0_c32_hi_v1) (w0_c32_hi_hv5 : (Int64.toUInt64 p1 >>> ((32 : Int32) &&& 63).toInt64.toUInt64).toInt64 = w0_c32_hi_v5) (w0_c32_hi_hv6 : Int64.toInt32 w0_c32_hi_v5 = w0_c32_hi_v6) (w0_c38_sd_c1_hi_hv1 : Int64.toInt32 p1 = w0_c38_sd_c1_hi_v1) (w0_c38_sd_c1_hi_hv5 : (Int64.toUInt64 p1 >>> ((32 : Int32) &&& 63).toInt64.toUInt64).toInt64 = w0_c38_sd_c1_hi_v5) (w0_c38_sd_c1_hi_hv6 : Int64.toInt32 w0_c38_sd_c1_hi_v5 = w0_c38_sd_c1_hi_v6) (w0_c38_sd_c6_lo_hv1 : Int64.toInt32 p1 = w0_c38_sd_c6_lo_v1) (w0_c38_sd_c6_lo_hv5 : (Int64.toUInt64 p1 >>> ((32 : Int32) &&& 63).toInt64.toUInt64).toInt64 = w0_c38_sd_c6_lo_v5) (w0_c38_sd_c6_lo_hv6 : Int64.toInt32 w0_c38_sd_c6_lo_v5 = w0_c38_sd_c6_lo_v6) (w0_c38_sd_hn10 : Jvm.Free.Fl.NoNaN64 (FP.dsub (FP.i2d (own_imax w0_c38_sd_c1_hi_v1 w0_c38_sd_c1_hi_v6)) (FP.i2d (own_imin w0_c38_sd_c6_lo_v1 w0_c38_sd_c6_lo_v6)))) (w0_c38_sd_hv10 : FP.dsub (FP.i2d (own_imax w0_c38_sd_c1_hi_v1 w0_c38_sd_c1_hi_v6)) (FP.i2d (own_imin w0_c38_sd_c6_lo_v1 w0_c38_sd_c6_lo_v6)) = w0_c38_sd_v10) (w0_c152_c0_hn21 : Jvm.Free.Fl.NoNaN64 (FP.dsub (FP.i2d (own_imax w0_c32_hi_v1 w0_c32_hi_v6)) (FP.i2d (own_imin w0_c23_lo_v1 w0_c23_lo_v6)))) (w0_c152_c0_hv21 : FP.dsub (FP.i2d (own_imax w0_c32_hi_v1 w0_c32_hi_v6)) (FP.i2d (own_imin w0_c23_lo_v1 w0_c23_lo_v6)) = w0_c152_c0_v21) (w0_c152_c0_hn22 : Jvm.Free.Fl.NoNaN64 (FP.dmul 4607182418800017408 w0_c152_c0_v21)) (w0_c152_c0_hv22 : FP.dmul 4607182418800017408 w0_c152_c0_v21 = w0_c152_c0_v22) (w0_hc161 : Op.cmpValue (FP.dcmp w0_c152_c0_v22 w0_c38_sd_v10) .l = (0 : Int32)) :
    MetFree l x (head1 (Jvm.Cond.code x code maxLocals ret :: ws) room_1) (fun a U => a = #[(.int p0), (.long p1), (.long p2), (.long p3), (.long p4)] ∧ Z.Warmed39 U.vm ∧ U.heap = h0) (fun _ _ _ _ _ => True) (fun _ U o U' => ∃ v L, o = .returned v ∧ own_Q0 n0 v U'.heap L ∧ FrameEnd U o U' L room_1.cells room_1.slots) := by
  refine MetFree.of_bodySF (plainFor_of_name own_pn_com_example_thicket_thicket_core_BoxVolumePinLaw) hisR ?_
  intro p e s m args below meth c s₁ Bd hml0 hP hK
  obtain ⟨rfl, hZ, hh⟩ := hP
  have hx := Bd.exec
  have hby := Bd.bytes
  have hml : c.maxLocals = 16 := hml0
  have hown : s.vm.findClass "com/example/thicket/thicket/core/BoxVolumePinLaw" = some m.cls := findClass_of_methodNamed Bd.named
  have hnm := (name_of_methodNamed Bd.named Bd.method).1
  have X0 : Stand p l e room_1 s m #[(.int p0), (.long p1), (.long p2), (.long p3), (.long p4)] below meth c s₁ [] 0 0 := Stand.of_body Bd
  have e0 : s₁.heap = h0 := by rw [← hh, Bd.state]; rfl
  have N0 := Fr.nil n0
  have pre0 : ∀ t, Steps p.tables e below (s₁.setTop (mkF m 0 #[.val (.int p0), .val (.long p1), .second, .val (.long p2), .second, .val (.long p3), .second, .val (.long p4), .second, .unset, .unset, .unset, .unset, .unset, .unset, .unset] [])) t → Steps p.tables e below (s₁.setTop (entryFrame m #[(.int p0), (.long p1), (.long p2), (.long p3), (.long p4)] maxLocals)) t := fun t k => castTop (own_ef_w0 m p0 p1 p2 p3 p4) k
  obtain ⟨Tw01, hw01, kw01, bw01, Xw01, ew01, Ew01, Gw01, Vw01, stw01⟩ := own_newD (L := #[.val (.int p0), .val (.long p1), .second, .val (.long p2), .second, .val (.long p3), .second, .val (.long p4), .second, .val (.int (1 : Int32)), .unset, .unset, .unset, .unset, .unset, .unset]) (S := []) X0 hx hZ (hw _ (List.mem_of_getElem? (i := 0) rfl)) e0 (z := (1 : Int32)) 1 (by decide) (by decide) (by decide) (by decide) (by decide) (hb hby at_9) (pc' := 11) rfl
  have g_bw01 : n0 ≤ bw01 := Nat.le_trans Z0 (Nat.le_of_eq Gw01.symm)
  have sz_bw01 : h0.size ≤ bw01 := Nat.le_trans (Keep.refl h0 []).1 (Nat.le_of_eq Gw01.symm)
  have Zw01 : n0 ≤ hw01.size := Nat.le_trans Z0 Ew01.1
  have KKw01 := (Keep.refl h0 []).ext Ew01
  have V_bw01 : Arv Z hw01 bw01 kw01 .double (1 : Int32) [(.double 0)] (.double 0) := Vw01
  obtain ⟨Tw02, hw02, kw02, bw02, Xw02, ew02, Ew02, Gw02, Vw02, stw02⟩ := own_newD (L := #[.val (.int p0), .val (.long p1), .second, .val (.long p2), .second, .val (.long p3), .second, .val (.long p4), .second, .val (.int (1 : Int32)), .val (.ref bw01), .unset, .unset, .unset, .unset, .unset]) (S := []) Xw01 hx hZ (hw _ (List.mem_of_getElem? (i := 0) rfl)) ew01 (z := (1 : Int32)) 1 (by decide) (by decide) (by decide) (by decide) (by decide) (hb hby at_15) (pc' := 17) rfl
  have ne_bw01_bw02 : bw01 ≠ bw02 := Nat.ne_of_lt (Nat.lt_of_lt_of_le V_bw01.lt (Nat.le_of_eq Gw02.symm))
  have ne_bw02_bw01 : bw02 ≠ bw01 := Ne.symm ne_bw01_bw02
  have g_bw02 : n0 ≤ bw02 := Nat.le_trans Zw01 (Nat.le_of_eq Gw02.symm)
  have sz_bw02 : h0.size ≤ bw02 := Nat.le_trans KKw01.1 (Nat.le_of_eq Gw02.symm)
  have V_bw01_w02 := V_bw01.ext Ew02
  have Zw02 : n0 ≤ hw02.size := Nat.le_trans Zw01 Ew02.1
  have KKw02 := KKw01.ext Ew02
  have V_bw02 : Arv Z hw02 bw02 kw02 .double (1 : Int32) [(.double 0)] (.double 0) := Vw02
  obtain ⟨_, _, ⟨Tw03, Lw03, kw03, nw03⟩, -, Xw03, ⟨Lcw03, hQw03, lw03, yw03, zw03⟩, stw03⟩ := Jvm.LawKit.callS Xw02 hx (y := (⟨"com/example/thicket/thicket/core/BoxVolumePinLaw", "lo", "(J)I"⟩ : MethodName)) hown (mvT hZ (hw _ (List.mem_of_getElem? (i := 1) rfl))) (mvT hZ (hw _ (List.mem_of_getElem? (i := 2) rfl))) (mvT hZ (hw _ (List.mem_of_getElem? (i := 3) rfl))) (mvT hZ (hw _ (List.mem_of_getElem? (i := 4) rfl))) (by decide) (backOf (W := 2) (own_rm_lo l Z a0 hw [] p1 hw02 n0 Zw02 w0_c23_lo_hv1 w0_c23_lo_hv5 w0_c23_lo_hv6) hZ (hw _ (List.mem_of_getElem? (i := 4) rfl)) (hw _ (List.mem_of_getElem? (i := 3) rfl)) (by decide) (by decide)) (g := (mkF m 23 #[.val (.int p0), .val (.long p1), .second, .val (.long p2), .second, .val (.long p3), .second, .val (.long p4), .second, .val (.int (1 : Int32)), .val (.ref bw01), .val (.ref bw02), .unset, .unset, .unset, .unset] [(.long p1), (.int (0 : Int32)), (.ref bw01)])) rfl (by rw [hml]; rfl) (argsL := [(.long p1)]) (rest := [(.int (0 : Int32)), (.ref bw01)]) (lenOf own_pd_28J29I rfl) rfl (by show 2 * 0 + _ ≤ _; exact Nat.le_of_eq rfl) (hb hby at_23) (fun _ _ => ⟨rfl, ew02, (by decide : 2 + 0 ≤ _), (by decide : 2 + 0 ≤ _)⟩)
  dsimp only [Pt.U, Pt.locs, Pt.cells, Pt.slots] at Xw03 lw03 yw03 zw03 stw03 hQw03
  subst lw03 yw03 zw03
  obtain ⟨rfl, Nw03q, ew03⟩ := hQw03
  have Nw03 := Fr.app N0 Nw03q
  obtain ⟨Tw04, hw04, Xw04, ew04, Ww04, Vw04, stw04⟩ := own_stD (L := #[.val (.int p0), .val (.long p1), .second, .val (.long p2), .second, .val (.long p3), .second, .val (.long p4), .second, .val (.int (1 : Int32)), .val (.ref bw01), .val (.ref bw02), .unset, .unset, .unset, .unset]) (S := []) Xw03 hx hZ ew03 V_bw01_w02 (j := (0 : Int32)) (x := (FP.i2d (own_imin w0_c23_lo_v1 w0_c23_lo_v6))) (by decide) 0 (by decide) (Nat.le_of_ble_eq_true rfl) (hb hby at_27) (pc' := 28) rfl
  have V_bw02_w04 := V_bw02.other Ww04 ne_bw02_bw01
  have Zw04 : n0 ≤ hw04.size := Nat.le_trans Zw02 (Nat.le_of_eq Ww04.size.symm)
  have KKw04 := KKw02.wr Ww04 (Or.inr sz_bw01)
  have V_bw01_w04 : Arv Z hw04 bw01 kw01 .double (1 : Int32) [(.double (FP.i2d (own_imin w0_c23_lo_v1 w0_c23_lo_v6)))] (.double 0) := Vw04
  have Nw04 := Fr.snoc Xw04 Nw03 g_bw01
  obtain ⟨_, _, ⟨Tw05, Lw05, kw05, nw05⟩, -, Xw05, ⟨Lcw05, hQw05, lw05, yw05, zw05⟩, stw05⟩ := Jvm.LawKit.callS Xw04 hx (y := (⟨"com/example/thicket/thicket/core/BoxVolumePinLaw", "hi", "(J)I"⟩ : MethodName)) hown (mvT hZ (hw _ (List.mem_of_getElem? (i := 9) rfl))) (mvT hZ (hw _ (List.mem_of_getElem? (i := 10) rfl))) (mvT hZ (hw _ (List.mem_of_getElem? (i := 3) rfl))) (mvT hZ (hw _ (List.mem_of_getElem? (i := 11) rfl))) (by decide) (backOf (W := 2) (own_rm_hi l Z a0 hw [] p1 hw04 n0 Zw04 w0_c32_hi_hv1 w0_c32_hi_hv5 w0_c32_hi_hv6) hZ (hw _ (List.mem_of_getElem? (i := 11) rfl)) (hw _ (List.mem_of_getElem? (i := 3) rfl)) (by decide) (by decide)) (g := (mkF m 32 #[.val (.int p0), .val (.long p1), .second, .val (.long p2), .second, .val (.long p3), .second, .val (.long p4), .second, .val (.int (1 : Int32)), .val (.ref bw01), .val (.ref bw02), .unset, .unset, .unset, .unset] [(.long p1), (.int (0 : Int32)), (.ref bw02)])) rfl (by rw [hml]; rfl) (argsL := [(.long p1)]) (rest := [(.int (0 : Int32)), (.ref bw02)]) (lenOf own_pd_28J29I rfl) rfl (by show 2 * 0 + _ ≤ _; exact Nat.le_of_eq rfl) (hb hby at_32) (fun _ _ => ⟨rfl, ew04, (by decide : 2 + 0 ≤ _), (by decide : 2 + 0 ≤ _)⟩)
  dsimp only [Pt.U, Pt.locs, Pt.cells, Pt.slots] at Xw05 lw05 yw05 zw05 stw05 hQw05
  subst lw05 yw05 zw05
  obtain ⟨rfl, Nw05q, ew05⟩ := hQw05
  have Nw05 := Fr.app Nw04 Nw05q
  obtain ⟨Tw06, hw06, Xw06, ew06, Ww06, Vw06, stw06⟩ := own_stD (L := #[.val (.int p0), .val (.long p1), .second, .val (.long p2), .second, .val (.long p3), .second, .val (.long p4), .second, .val (.int (1 : Int32)), .val (.ref bw01), .val (.ref bw02), .unset, .unset, .unset, .unset]) (S := []) Xw05 hx hZ ew05 V_bw02_w04 (j := (0 : Int32)) (x := (FP.i2d (own_imax w0_c32_hi_v1 w0_c32_hi_v6))) (by decide) 0 (by decide) (Nat.le_of_ble_eq_true rfl) (hb hby at_36) (pc' := 37) rfl
  have V_bw01_w06 := V_bw01_w04.other Ww06 ne_bw01_bw02
  have Zw06 : n0 ≤ hw06.size := Nat.le_trans Zw04 (Nat.le_of_eq Ww06.size.symm)
  have KKw06 := KKw04.wr Ww06 (Or.inr sz_bw02)
  have V_bw02_w06 : Arv Z hw06 bw02 kw02 .double (1 : Int32) [(.double (FP.i2d (own_imax w0_c32_hi_v1 w0_c32_hi_v6)))] (.double 0) := Vw06
  have Nw06 := Fr.snoc Xw06 Nw05 g_bw02
  obtain ⟨_, _, ⟨Tw07, Lw07, kw07, nw07⟩, -, Xw07, ⟨Lcw07, hQw07, lw07, yw07, zw07⟩, stw07⟩ := Jvm.LawKit.callS Xw06 hx (y := (⟨"com/example/thicket/thicket/core/BoxVolumePinLaw", "side", "(J)D"⟩ : MethodName)) hown (mvT hZ (hw _ (List.mem_of_getElem? (i := 15) rfl))) (mvT hZ (hw _ (List.mem_of_getElem? (i := 16) rfl))) (mvT hZ (hw _ (List.mem_of_getElem? (i := 3) rfl))) (mvT hZ (hw _ (List.mem_of_getElem? (i := 17) rfl))) (by decide) (backOf (W := 0) (own_rm_sd l Z a0 hw [] p1 hw06 n0 Zw06 w0_c38_sd_c1_hi_hv1 w0_c38_sd_c1_hi_hv5 w0_c38_sd_c1_hi_hv6 w0_c38_sd_c6_lo_hv1 w0_c38_sd_c6_lo_hv5 w0_c38_sd_c6_lo_hv6 w0_c38_sd_hn10 w0_c38_sd_hv10) hZ (hw _ (List.mem_of_getElem? (i := 17) rfl)) (hw _ (List.mem_of_getElem? (i := 3) rfl)) (by decide) (by decide)) (g := (mkF m 38 #[.val (.int p0), .val (.long p1), .second, .val (.long p2), .second, .val (.long p3), .second, .val (.long p4), .second, .val (.int (1 : Int32)), .val (.ref bw01), .val (.ref bw02), .unset, .unset, .unset, .unset] [(.long p1)])) rfl (by rw [hml]; rfl) (argsL := [(.long p1)]) (rest := []) (lenOf own_pd_28J29D rfl) rfl (by show 2 * 0 + _ ≤ _; exact Nat.le_of_eq rfl) (hb hby at_38) (fun _ _ => ⟨rfl, ew06, (by decide : 2 + 0 ≤ _), (by decide : 2 + 0 ≤ _)⟩)
  dsimp only [Pt.U, Pt.locs, Pt.cells, Pt.slots] at Xw07 lw07 yw07 zw07 stw07 hQw07
  subst lw07 yw07 zw07
  obtain ⟨rfl, Nw07q, ew07⟩ := hQw07
  have Nw07 := Fr.app Nw06 Nw07q
  obtain ⟨_, _, ⟨Tw08, Lw08, kw08, nw08⟩, -, Xw08, ⟨Lcw08, hQw08, lw08, yw08, zw08⟩, stw08⟩ := Jvm.LawKit.callS Xw07 hx (y := (⟨"com/example/thicket/thicket/core/Box", "volume", "([D[D)D"⟩ : MethodName)) hown (mvT hZ (hw _ (List.mem_of_getElem? (i := 18) rfl))) (mvT hZ (hw _ (List.mem_of_getElem? (i := 19) rfl))) (mvT hZ (hw _ (List.mem_of_getElem? (i := 20) rfl))) (mvT hZ (hw _ (List.mem_of_getElem? (i := 21) rfl))) (by decide) (backOf (W := 0) (own_rm_c0 l Z a0 hw [] bw01 (FP.i2d (own_imin w0_c23_lo_v1 w0_c23_lo_v6)) bw02 (FP.i2d (own_imax w0_c32_hi_v1 w0_c32_hi_v6)) hw06 n0 Zw06 V_bw01_w06 V_bw02_w06 w0_c152_c0_hn21 w0_c152_c0_hv21 w0_c152_c0_hn22 w0_c152_c0_hv22) hZ (hw _ (List.mem_of_getElem? (i := 21) rfl)) (hw _ (List.mem_of_getElem? (i := 20) rfl)) (by decide) (by decide)) (g := (mkF m 152 #[.val (.int p0), .val (.long p1), .second, .val (.long p2), .second, .val (.long p3), .second, .val (.long p4), .second, .val (.int (1 : Int32)), .val (.ref bw01), .val (.ref bw02), .val (.double w0_c38_sd_v10), .second, .unset, .unset] [(.ref bw02), (.ref bw01)])) rfl (by rw [hml]; rfl) (argsL := [(.ref bw01), (.ref bw02)]) (rest := []) (lenOf own_pd_285bD5bD29D rfl) rfl (by show 2 * 0 + _ ≤ _; exact Nat.le_of_eq rfl) (hb hby at_152) (fun _ _ => ⟨rfl, ew07, (by decide : 2 + 0 ≤ _), (by decide : 2 + 0 ≤ _)⟩)
  dsimp only [Pt.U, Pt.locs, Pt.cells, Pt.slots] at Xw08 lw08 yw08 zw08 stw08 hQw08
  subst lw08 yw08 zw08
  obtain ⟨rfl, Nw08q, ew08⟩ := hQw08
  have Nw08 := Fr.app Nw07 Nw08q
  obtain ⟨fs, hr, hrun, hended, hW, hsame⟩ := Xw08.leave (v := some (.int (1 : Int32))) (fun h => by rw [Bd.returns] at h; cases h)
  refine ⟨_, _, pre0 _ ?_, hrun, hended, _, _, rfl, ?_, ⟨_, rfl⟩, hW, hsame.mono (by decide) (by decide)⟩
  · refine own_s_iconst X0.here hx (hb hby at_0) (pc' := 1) rfl (v := (1 : Int32)) (by decide) ?_
    refine own_s_iloadN X0.here hx (hb hby at_1) (pc' := 2) rfl rfl ?_
    refine own_s_iconst X0.here hx (hb hby at_2) (pc' := 3) rfl (v := (3 : Int32)) (by decide) ?_
    refine own_s_iand X0.here hx (hb hby at_3) (pc' := 4) rfl (v := (0 : Int32)) w0_hv3 ?_
    refine own_s_iadd X0.here hx (hb hby at_4) (pc' := 5) rfl (v := (1 : Int32)) (by decide) ?_
    refine own_s_istore X0.here hx (hb hby at_5) (pc' := 7) rfl (L' := #[.val (.int p0), .val (.long p1), .second, .val (.long p2), .second, .val (.long p3), .second, .val (.long p4), .second, .val (.int (1 : Int32)), .unset, .unset, .unset, .unset, .unset, .unset]) rfl ?_
    refine own_s_iload X0.here hx (hb hby at_7) (pc' := 9) rfl rfl ?_
    refine stw01 _ ?_
    refine own_s_astore Xw01.here hx (hb hby at_11) (pc' := 13) rfl rfl (L' := #[.val (.int p0), .val (.long p1), .second, .val (.long p2), .second, .val (.long p3), .second, .val (.long p4), .second, .val (.int (1 : Int32)), .val (.ref bw01), .unset, .unset, .unset, .unset, .unset]) rfl ?_
    refine own_s_iload Xw01.here hx (hb hby at_13) (pc' := 15) rfl rfl ?_
    refine stw02 _ ?_
    refine own_s_astore Xw02.here hx (hb hby at_17) (pc' := 19) rfl rfl (L' := #[.val (.int p0), .val (.long p1), .second, .val (.long p2), .second, .val (.long p3), .second, .val (.long p4), .second, .val (.int (1 : Int32)), .val (.ref bw01), .val (.ref bw02), .unset, .unset, .unset, .unset]) rfl ?_
    refine own_s_aload Xw02.here hx (hb hby at_19) (pc' := 21) rfl rfl rfl ?_
    refine own_s_iconst Xw02.here hx (hb hby at_21) (pc' := 22) rfl (v := (0 : Int32)) (by decide) ?_
    refine own_s_lloadN Xw02.here hx (hb hby at_22) (pc' := 23) rfl rfl ?_
    refine stw03 _ ?_
    show Steps p.tables e below (Tw03.setTop (mkF m 26 #[.val (.int p0), .val (.long p1), .second, .val (.long p2), .second, .val (.long p3), .second, .val (.long p4), .second, .val (.int (1 : Int32)), .val (.ref bw01), .val (.ref bw02), .unset, .unset, .unset, .unset] [(.int (own_imin w0_c23_lo_v1 w0_c23_lo_v6)), (.int (0 : Int32)), (.ref bw01)])) _
    refine own_s_i2d Xw03.here hx (hb hby at_26) (pc' := 27) rfl (v := (FP.i2d (own_imin w0_c23_lo_v1 w0_c23_lo_v6))) rfl ?_
    refine stw04 _ ?_
    refine own_s_aload Xw04.here hx (hb hby at_28) (pc' := 30) rfl rfl rfl ?_
    refine own_s_iconst Xw04.here hx (hb hby at_30) (pc' := 31) rfl (v := (0 : Int32)) (by decide) ?_
    refine own_s_lloadN Xw04.here hx (hb hby at_31) (pc' := 32) rfl rfl ?_
    refine stw05 _ ?_
    show Steps p.tables e below (Tw05.setTop (mkF m 35 #[.val (.int p0), .val (.long p1), .second, .val (.long p2), .second, .val (.long p3), .second, .val (.long p4), .second, .val (.int (1 : Int32)), .val (.ref bw01), .val (.ref bw02), .unset, .unset, .unset, .unset] [(.int (own_imax w0_c32_hi_v1 w0_c32_hi_v6)), (.int (0 : Int32)), (.ref bw02)])) _
    refine own_s_i2d Xw05.here hx (hb hby at_35) (pc' := 36) rfl (v := (FP.i2d (own_imax w0_c32_hi_v1 w0_c32_hi_v6))) rfl ?_
    refine stw06 _ ?_
    refine own_s_lloadN Xw06.here hx (hb hby at_37) (pc' := 38) rfl rfl ?_
    refine stw07 _ ?_
    show Steps p.tables e below (Tw07.setTop (mkF m 41 #[.val (.int p0), .val (.long p1), .second, .val (.long p2), .second, .val (.long p3), .second, .val (.long p4), .second, .val (.int (1 : Int32)), .val (.ref bw01), .val (.ref bw02), .unset, .unset, .unset, .unset] [(.double w0_c38_sd_v10)])) _
    refine own_s_dstore Xw07.here hx (hb hby at_41) (pc' := 43) rfl (L' := #[.val (.int p0), .val (.long p1), .second, .val (.long p2), .second, .val (.long p3), .second, .val (.long p4), .second, .val (.int (1 : Int32)), .val (.ref bw01), .val (.ref bw02), .val (.double w0_c38_sd_v10), .second, .unset, .unset]) rfl ?_
    refine own_s_iload Xw07.here hx (hb hby at_43) (pc' := 45) rfl rfl ?_
    refine own_s_iconst Xw07.here hx (hb hby at_45) (pc' := 46) rfl (v := (1 : Int32)) (by decide) ?_
    refine own_s_icmpYes Xw07.here hx (hb hby at_46) (by decide) (pc' := 76) (by decide) (by decide) ?_
    refine own_s_iload Xw07.here hx (hb hby at_76) (pc' := 78) rfl rfl ?_
    refine own_s_iconst Xw07.here hx (hb hby at_78) (pc' := 79) rfl (v := (2 : Int32)) (by decide) ?_
    refine own_s_icmpYes Xw07.here hx (hb hby at_79) (by decide) (pc' := 112) (by decide) (by decide) ?_
    refine own_s_iload Xw07.here hx (hb hby at_112) (pc' := 114) rfl rfl ?_
    refine own_s_iconst Xw07.here hx (hb hby at_114) (pc' := 115) rfl (v := (3 : Int32)) (by decide) ?_
    refine own_s_icmpYes Xw07.here hx (hb hby at_115) (by decide) (pc' := 148) (by decide) (by decide) ?_
    refine own_s_aload Xw07.here hx (hb hby at_148) (pc' := 150) rfl rfl rfl ?_
    refine own_s_aload Xw07.here hx (hb hby at_150) (pc' := 152) rfl rfl rfl ?_
    refine stw08 _ ?_
    show Steps p.tables e below (Tw08.setTop (mkF m 155 #[.val (.int p0), .val (.long p1), .second, .val (.long p2), .second, .val (.long p3), .second, .val (.long p4), .second, .val (.int (1 : Int32)), .val (.ref bw01), .val (.ref bw02), .val (.double w0_c38_sd_v10), .second, .unset, .unset] [(.double w0_c152_c0_v22)])) _
    refine own_s_dstore Xw08.here hx (hb hby at_155) (pc' := 157) rfl (L' := #[.val (.int p0), .val (.long p1), .second, .val (.long p2), .second, .val (.long p3), .second, .val (.long p4), .second, .val (.int (1 : Int32)), .val (.ref bw01), .val (.ref bw02), .val (.double w0_c38_sd_v10), .second, .val (.double w0_c152_c0_v22), .second]) rfl ?_
    refine own_s_dload Xw08.here hx (hb hby at_157) (pc' := 159) rfl rfl ?_
    refine own_s_dload Xw08.here hx (hb hby at_159) (pc' := 161) rfl rfl ?_
    refine own_s_dcmp Xw08.here hx (hb hby at_161) (pc' := 162) rfl (v := (0 : Int32)) w0_hc161 ?_
    refine own_s_ifNo Xw08.here hx (hb hby at_162) (pc' := 165) rfl (by decide) ?_
    refine own_s_iconst Xw08.here hx (hb hby at_165) (pc' := 166) rfl (v := (1 : Int32)) (by decide) ?_
    refine own_s_goto Xw08.here hx (hb hby at_166) (by decide) (pc' := 170) (by decide) ?_
    exact retN Xw08 hx (t := .boolean) Bd.returns (by simp) (hb hby at_170) hr
  · show own_Q0 n0 _ Tw08.heap _
    rw [ew08]
    exact ⟨rfl, Nw08⟩
theorem own_ef_c1 (m : MethodId) (qa : Addr) (qb : Addr) : entryFrame m #[(.ref qa), (.ref qb)] 5 = mkF m 0 #[.val (.ref qa), .val (.ref qb), .unset, .unset, .unset] [] := by first | (simp [entryFrame, mkF, argsToLocals, Value.category]; done) | rfl
set_option maxRecDepth 65536 in
set_option maxHeartbeats 40000000 in
theorem own_rm_c1 (l : Launch) (Z : State) (a0 : Array Value) (hw : ∀ d ∈ tables_1, d.before a0 Z = true) (ws : List Jvm.Cond) (qa : Addr) (d0 : UInt64) (d1 : UInt64) (qb : Addr) (ee0 : UInt64) (ee1 : UInt64) {qak : ClassId} {qbk : ClassId} {c1_v21 : UInt64} {c1_v22 : UInt64} {c1_v21_2 : UInt64} {c1_v22_2 : UInt64} (h0 : Heap) (n0 : Nat) (Z0 : n0 ≤ h0.size) (V_qa : Arv Z h0 qa qak .double (2 : Int32) [(.double d0), (.double d1)] (.double 0)) (V_qb : Arv Z h0 qb qbk .double (2 : Int32) [(.double ee0), (.double ee1)] (.double 0)) (c1_hn21 : Jvm.Free.Fl.NoNaN64 (FP.dsub ee0 d0)) (c1_hv21 : FP.dsub ee0 d0 = c1_v21) (c1_hn22 : Jvm.Free.Fl.NoNaN64 (FP.dmul 4607182418800017408 c1_v21)) (c1_hv22 : FP.dmul 4607182418800017408 c1_v21 = c1_v22) (c1_hn21_2 : Jvm.Free.Fl.NoNaN64 (FP.dsub ee1 d1)) (c1_hv21_2 : FP.dsub ee1 d1 = c1_v21_2) (c1_hn22_2 : Jvm.Free.Fl.NoNaN64 (FP.dmul c1_v22 c1_v21_2)) (c1_hv22_2 : FP.dmul c1_v22 c1_v21_2 = c1_v22_2) :
    MetFree l (⟨"com/example/thicket/thicket/core/Box", "volume", "([D[D)D"⟩ : MethodName) (head1 (Jvm.Cond.code (⟨"com/example/thicket/thicket/core/Box", "volume", "([D[D)D"⟩ : MethodName) prog_2_method_8_code 5 (some .double) :: ws) ({ frames := 0, cells := 0, slots := 0, locals := 0 } : Room)) (fun a U => a = #[(.ref qa), (.ref qb)] ∧ Z.Warmed39 U.vm ∧ U.heap = h0) (fun _ _ _ _ _ => True) (fun _ U o U' => ∃ v L, o = .returned v ∧ own_QP (some (.double c1_v22_2)) h0 n0 v U'.heap L ∧ FrameEnd U o U' L ({ frames := 0, cells := 0, slots := 0, locals := 0 } : Room).cells ({ frames := 0, cells := 0, slots := 0, locals := 0 } : Room).slots) := by
  refine MetFree.of_bodySF (plainFor_of_name own_pn_com_example_thicket_thicket_core_Box) hisR ?_
  intro p e s m args below meth c s₁ Bd hml0 hP hK
  obtain ⟨rfl, hZ, hh⟩ := hP
  have hx := Bd.exec
  have hby := Bd.bytes
  have hml : c.maxLocals = 5 := hml0
  have hown : s.vm.findClass "com/example/thicket/thicket/core/Box" = some m.cls := findClass_of_methodNamed Bd.named
  have hnm := (name_of_methodNamed Bd.named Bd.method).1
  have X0 : Stand p l e ({ frames := 0, cells := 0, slots := 0, locals := 0 } : Room) s m #[(.ref qa), (.ref qb)] below meth c s₁ [] 0 0 := Stand.of_body Bd
  have e0 : s₁.heap = h0 := by rw [← hh, Bd.state]; rfl
  have N0 := Fr.nil n0
  have pre0 : ∀ t, Steps p.tables e below (s₁.setTop (mkF m 0 #[.val (.ref qa), .val (.ref qb), .unset, .unset, .unset] [])) t → Steps p.tables e below (s₁.setTop (entryFrame m #[(.ref qa), (.ref qb)] 5)) t := fun t k => castTop (own_ef_c1 m qa qb) k
  obtain ⟨fs, hr, hrun, hended, hW, hsame⟩ := X0.leave (v := some (.double c1_v22_2)) (fun h => by rw [Bd.returns] at h; cases h)
  refine ⟨_, _, pre0 _ ?_, hrun, hended, _, _, rfl, ?_, ⟨_, rfl⟩, hW, hsame.mono (by decide) (by decide)⟩
  · refine own_s_dconst1 X0.here hx (hb hby own_d6_0) (pc' := 1) rfl  ?_
    refine own_s_dstoreN X0.here hx (hb hby own_d6_1) (pc' := 2) rfl (L' := #[.val (.ref qa), .val (.ref qb), .val (.double 4607182418800017408), .second, .unset]) rfl ?_
    refine own_s_iconst X0.here hx (hb hby own_d6_2) (pc' := 3) rfl (v := (0 : Int32)) (by decide) ?_
    refine own_s_istore X0.here hx (hb hby own_d6_3) (pc' := 5) rfl (L' := #[.val (.ref qa), .val (.ref qb), .val (.double 4607182418800017408), .second, .val (.int (0 : Int32))]) rfl ?_
    refine own_s_iload X0.here hx (hb hby own_d6_5) (pc' := 7) rfl rfl ?_
    refine own_s_aloadN X0.here hx (hb hby own_d6_7) (pc' := 8) rfl rfl rfl ?_
    refine own_len X0 hx hZ e0 V_qa (hb hby own_d6_8) (pc' := 9) rfl ?_
    refine own_s_icmpNo X0.here hx (hb hby own_d6_9) (pc' := 12) rfl (by decide) ?_
    refine own_s_dloadN X0.here hx (hb hby own_d6_12) (pc' := 13) rfl rfl ?_
    refine own_s_aloadN X0.here hx (hb hby own_d6_13) (pc' := 14) rfl rfl rfl ?_
    refine own_s_iload X0.here hx (hb hby own_d6_14) (pc' := 16) rfl rfl ?_
    refine own_ldD X0 hx hZ e0 V_qb (j := (0 : Int32)) (x := ee0) (by decide) rfl (hb hby own_d6_16) (pc' := 17) rfl ?_
    refine own_s_aloadN X0.here hx (hb hby own_d6_17) (pc' := 18) rfl rfl rfl ?_
    refine own_s_iload X0.here hx (hb hby own_d6_18) (pc' := 20) rfl rfl ?_
    refine own_ldD X0 hx hZ e0 V_qa (j := (0 : Int32)) (x := d0) (by decide) rfl (hb hby own_d6_20) (pc' := 21) rfl ?_
    refine own_s_dsub X0.here hx (hb hby own_d6_21) (pc' := 22) rfl c1_hn21 (v := c1_v21) c1_hv21 ?_
    refine own_s_dmul X0.here hx (hb hby own_d6_22) (pc' := 23) rfl c1_hn22 (v := c1_v22) c1_hv22 ?_
    refine own_s_dstoreN X0.here hx (hb hby own_d6_23) (pc' := 24) rfl (L' := #[.val (.ref qa), .val (.ref qb), .val (.double c1_v22), .second, .val (.int (0 : Int32))]) rfl ?_
    refine own_s_iinc X0.here hx (hb hby own_d6_24) (pc' := 27) rfl rfl (v := (1 : Int32)) (by decide) (L' := #[.val (.ref qa), .val (.ref qb), .val (.double c1_v22), .second, .val (.int (1 : Int32))]) rfl ?_
    refine own_s_goto X0.here hx (hb hby own_d6_27) (by decide) (pc' := 5) (by decide) ?_
    refine own_s_iload X0.here hx (hb hby own_d6_5) (pc' := 7) rfl rfl ?_
    refine own_s_aloadN X0.here hx (hb hby own_d6_7) (pc' := 8) rfl rfl rfl ?_
    refine own_len X0 hx hZ e0 V_qa (hb hby own_d6_8) (pc' := 9) rfl ?_
    refine own_s_icmpNo X0.here hx (hb hby own_d6_9) (pc' := 12) rfl (by decide) ?_
    refine own_s_dloadN X0.here hx (hb hby own_d6_12) (pc' := 13) rfl rfl ?_
    refine own_s_aloadN X0.here hx (hb hby own_d6_13) (pc' := 14) rfl rfl rfl ?_
    refine own_s_iload X0.here hx (hb hby own_d6_14) (pc' := 16) rfl rfl ?_
    refine own_ldD X0 hx hZ e0 V_qb (j := (1 : Int32)) (x := ee1) (by decide) rfl (hb hby own_d6_16) (pc' := 17) rfl ?_
    refine own_s_aloadN X0.here hx (hb hby own_d6_17) (pc' := 18) rfl rfl rfl ?_
    refine own_s_iload X0.here hx (hb hby own_d6_18) (pc' := 20) rfl rfl ?_
    refine own_ldD X0 hx hZ e0 V_qa (j := (1 : Int32)) (x := d1) (by decide) rfl (hb hby own_d6_20) (pc' := 21) rfl ?_
    refine own_s_dsub X0.here hx (hb hby own_d6_21) (pc' := 22) rfl c1_hn21_2 (v := c1_v21_2) c1_hv21_2 ?_
    refine own_s_dmul X0.here hx (hb hby own_d6_22) (pc' := 23) rfl c1_hn22_2 (v := c1_v22_2) c1_hv22_2 ?_
    refine own_s_dstoreN X0.here hx (hb hby own_d6_23) (pc' := 24) rfl (L' := #[.val (.ref qa), .val (.ref qb), .val (.double c1_v22_2), .second, .val (.int (1 : Int32))]) rfl ?_
    refine own_s_iinc X0.here hx (hb hby own_d6_24) (pc' := 27) rfl rfl (v := (2 : Int32)) (by decide) (L' := #[.val (.ref qa), .val (.ref qb), .val (.double c1_v22_2), .second, .val (.int (2 : Int32))]) rfl ?_
    refine own_s_goto X0.here hx (hb hby own_d6_27) (by decide) (pc' := 5) (by decide) ?_
    refine own_s_iload X0.here hx (hb hby own_d6_5) (pc' := 7) rfl rfl ?_
    refine own_s_aloadN X0.here hx (hb hby own_d6_7) (pc' := 8) rfl rfl rfl ?_
    refine own_len X0 hx hZ e0 V_qa (hb hby own_d6_8) (pc' := 9) rfl ?_
    refine own_s_icmpYes X0.here hx (hb hby own_d6_9) (by decide) (pc' := 30) (by decide) (by decide) ?_
    refine own_s_dloadN X0.here hx (hb hby own_d6_30) (pc' := 31) rfl rfl ?_
    exact own_retD X0 hx Bd.returns (hb hby own_d6_31) hr
  · show own_QP (some (.double c1_v22_2)) h0 n0 _ s₁.heap _
    rw [e0]
    exact ⟨rfl, N0, rfl⟩
theorem own_ef_w1 (m : MethodId) (p0 : Int32) (p1 : Int64) (p2 : Int64) (p3 : Int64) (p4 : Int64) : entryFrame m #[(.int p0), (.long p1), (.long p2), (.long p3), (.long p4)] maxLocals = mkF m 0 #[.val (.int p0), .val (.long p1), .second, .val (.long p2), .second, .val (.long p3), .second, .val (.long p4), .second, .unset, .unset, .unset, .unset, .unset, .unset, .unset] [] := by first | (simp [entryFrame, mkF, argsToLocals, Value.category, maxLocals]; done) | rfl
set_option maxRecDepth 65536 in
set_option maxHeartbeats 40000000 in
theorem own_rm_w1 (l : Launch) (Z : State) (a0 : Array Value) (hw : ∀ d ∈ tables_1, d.before a0 Z = true) (ws : List Jvm.Cond) (p0 : Int32) (p1 : Int64) (p2 : Int64) (p3 : Int64) (p4 : Int64) {w1_c23_lo_v1 : Int32} {w1_c23_lo_v5 : Int64} {w1_c23_lo_v6 : Int32} {w1_c32_hi_v1 : Int32} {w1_c32_hi_v5 : Int64} {w1_c32_hi_v6 : Int32} {w1_c38_sd_c1_hi_v1 : Int32} {w1_c38_sd_c1_hi_v5 : Int64} {w1_c38_sd_c1_hi_v6 : Int32} {w1_c38_sd_c6_lo_v1 : Int32} {w1_c38_sd_c6_lo_v5 : Int64} {w1_c38_sd_c6_lo_v6 : Int32} {w1_c38_sd_v10 : UInt64} {w1_c53_lo_v1 : Int32} {w1_c53_lo_v5 : Int64} {w1_c53_lo_v6 : Int32} {w1_c62_hi_v1 : Int32} {w1_c62_hi_v5 : Int64} {w1_c62_hi_v6 : Int32} {w1_c70_sd_c1_hi_v1 : Int32} {w1_c70_sd_c1_hi_v5 : Int64} {w1_c70_sd_c1_hi_v6 : Int32} {w1_c70_sd_c6_lo_v1 : Int32} {w1_c70_sd_c6_lo_v5 : Int64} {w1_c70_sd_c6_lo_v6 : Int32} {w1_c70_sd_v10 : UInt64} {w1_v73 : UInt64} {w1_c152_c1_v21 : UInt64} {w1_c152_c1_v22 : UInt64} {w1_c152_c1_v21_2 : UInt64} {w1_c152_c1_v22_2 : UInt64} (h0 : Heap) (n0 : Nat) (Z0 : n0 ≤ h0.size)  (w1_hv3 : p0 &&& (3 : Int32) = (1 : Int32)) (w1_c23_lo_hv1 : Int64.toInt32 p1 = w1_c23_lo_v1) (w1_c23_lo_hv5 : (Int64.toUInt64 p1 >>> ((32 : Int32) &&& 63).toInt64.toUInt64).toInt64 = w1_c23_lo_v5) (w1_c23_lo_hv6 : Int64.toInt32 w1_c23_lo_v5 = w1_c23_lo_v6) (w1_c32_hi_hv1 : Int64.toInt32 p1 = w1_c32_hi_v1) (w1_c32_hi_hv5 : (Int64.toUInt64 p1 >>> ((32 : Int32) &&& 63).toInt64.toUInt64).toInt64 = w1_c32_hi_v5) (w1_c32_hi_hv6 : Int64.toInt32 w1_c32_hi_v5 = w1_c32_hi_v6) (w1_c38_sd_c1_hi_hv1 : Int64.toInt32 p1 = w1_c38_sd_c1_hi_v1) (w1_c38_sd_c1_hi_hv5 : (Int64.toUInt64 p1 >>> ((32 : Int32) &&& 63).toInt64.toUInt64).toInt64 = w1_c38_sd_c1_hi_v5) (w1_c38_sd_c1_hi_hv6 : Int64.toInt32 w1_c38_sd_c1_hi_v5 = w1_c38_sd_c1_hi_v6) (w1_c38_sd_c6_lo_hv1 : Int64.toInt32 p1 = w1_c38_sd_c6_lo_v1) (w1_c38_sd_c6_lo_hv5 : (Int64.toUInt64 p1 >>> ((32 : Int32) &&& 63).toInt64.toUInt64).toInt64 = w1_c38_sd_c6_lo_v5) (w1_c38_sd_c6_lo_hv6 : Int64.toInt32 w1_c38_sd_c6_lo_v5 = w1_c38_sd_c6_lo_v6) (w1_c38_sd_hn10 : Jvm.Free.Fl.NoNaN64 (FP.dsub (FP.i2d (own_imax w1_c38_sd_c1_hi_v1 w1_c38_sd_c1_hi_v6)) (FP.i2d (own_imin w1_c38_sd_c6_lo_v1 w1_c38_sd_c6_lo_v6)))) (w1_c38_sd_hv10 : FP.dsub (FP.i2d (own_imax w1_c38_sd_c1_hi_v1 w1_c38_sd_c1_hi_v6)) (FP.i2d (own_imin w1_c38_sd_c6_lo_v1 w1_c38_sd_c6_lo_v6)) = w1_c38_sd_v10) (w1_c53_lo_hv1 : Int64.toInt32 p2 = w1_c53_lo_v1) (w1_c53_lo_hv5 : (Int64.toUInt64 p2 >>> ((32 : Int32) &&& 63).toInt64.toUInt64).toInt64 = w1_c53_lo_v5) (w1_c53_lo_hv6 : Int64.toInt32 w1_c53_lo_v5 = w1_c53_lo_v6) (w1_c62_hi_hv1 : Int64.toInt32 p2 = w1_c62_hi_v1) (w1_c62_hi_hv5 : (Int64.toUInt64 p2 >>> ((32 : Int32) &&& 63).toInt64.toUInt64).toInt64 = w1_c62_hi_v5) (w1_c62_hi_hv6 : Int64.toInt32 w1_c62_hi_v5 = w1_c62_hi_v6) (w1_c70_sd_c1_hi_hv1 : Int64.toInt32 p2 = w1_c70_sd_c1_hi_v1) (w1_c70_sd_c1_hi_hv5 : (Int64.toUInt64 p2 >>> ((32 : Int32) &&& 63).toInt64.toUInt64).toInt64 = w1_c70_sd_c1_hi_v5) (w1_c70_sd_c1_hi_hv6 : Int64.toInt32 w1_c70_sd_c1_hi_v5 = w1_c70_sd_c1_hi_v6) (w1_c70_sd_c6_lo_hv1 : Int64.toInt32 p2 = w1_c70_sd_c6_lo_v1) (w1_c70_sd_c6_lo_hv5 : (Int64.toUInt64 p2 >>> ((32 : Int32) &&& 63).toInt64.toUInt64).toInt64 = w1_c70_sd_c6_lo_v5) (w1_c70_sd_c6_lo_hv6 : Int64.toInt32 w1_c70_sd_c6_lo_v5 = w1_c70_sd_c6_lo_v6) (w1_c70_sd_hn10 : Jvm.Free.Fl.NoNaN64 (FP.dsub (FP.i2d (own_imax w1_c70_sd_c1_hi_v1 w1_c70_sd_c1_hi_v6)) (FP.i2d (own_imin w1_c70_sd_c6_lo_v1 w1_c70_sd_c6_lo_v6)))) (w1_c70_sd_hv10 : FP.dsub (FP.i2d (own_imax w1_c70_sd_c1_hi_v1 w1_c70_sd_c1_hi_v6)) (FP.i2d (own_imin w1_c70_sd_c6_lo_v1 w1_c70_sd_c6_lo_v6)) = w1_c70_sd_v10) (w1_hn73 : Jvm.Free.Fl.NoNaN64 (FP.dmul w1_c38_sd_v10 w1_c70_sd_v10)) (w1_hv73 : FP.dmul w1_c38_sd_v10 w1_c70_sd_v10 = w1_v73) (w1_c152_c1_hn21 : Jvm.Free.Fl.NoNaN64 (FP.dsub (FP.i2d (own_imax w1_c32_hi_v1 w1_c32_hi_v6)) (FP.i2d (own_imin w1_c23_lo_v1 w1_c23_lo_v6)))) (w1_c152_c1_hv21 : FP.dsub (FP.i2d (own_imax w1_c32_hi_v1 w1_c32_hi_v6)) (FP.i2d (own_imin w1_c23_lo_v1 w1_c23_lo_v6)) = w1_c152_c1_v21) (w1_c152_c1_hn22 : Jvm.Free.Fl.NoNaN64 (FP.dmul 4607182418800017408 w1_c152_c1_v21)) (w1_c152_c1_hv22 : FP.dmul 4607182418800017408 w1_c152_c1_v21 = w1_c152_c1_v22) (w1_c152_c1_hn21_2 : Jvm.Free.Fl.NoNaN64 (FP.dsub (FP.i2d (own_imax w1_c62_hi_v1 w1_c62_hi_v6)) (FP.i2d (own_imin w1_c53_lo_v1 w1_c53_lo_v6)))) (w1_c152_c1_hv21_2 : FP.dsub (FP.i2d (own_imax w1_c62_hi_v1 w1_c62_hi_v6)) (FP.i2d (own_imin w1_c53_lo_v1 w1_c53_lo_v6)) = w1_c152_c1_v21_2) (w1_c152_c1_hn22_2 : Jvm.Free.Fl.NoNaN64 (FP.dmul w1_c152_c1_v22 w1_c152_c1_v21_2)) (w1_c152_c1_hv22_2 : FP.dmul w1_c152_c1_v22 w1_c152_c1_v21_2 = w1_c152_c1_v22_2) (w1_hc161 : Op.cmpValue (FP.dcmp w1_c152_c1_v22_2 w1_v73) .l = (0 : Int32)) :
    MetFree l x (head1 (Jvm.Cond.code x code maxLocals ret :: ws) room_1) (fun a U => a = #[(.int p0), (.long p1), (.long p2), (.long p3), (.long p4)] ∧ Z.Warmed39 U.vm ∧ U.heap = h0) (fun _ _ _ _ _ => True) (fun _ U o U' => ∃ v L, o = .returned v ∧ own_Q0 n0 v U'.heap L ∧ FrameEnd U o U' L room_1.cells room_1.slots) := by
  refine MetFree.of_bodySF (plainFor_of_name own_pn_com_example_thicket_thicket_core_BoxVolumePinLaw) hisR ?_
  intro p e s m args below meth c s₁ Bd hml0 hP hK
  obtain ⟨rfl, hZ, hh⟩ := hP
  have hx := Bd.exec
  have hby := Bd.bytes
  have hml : c.maxLocals = 16 := hml0
  have hown : s.vm.findClass "com/example/thicket/thicket/core/BoxVolumePinLaw" = some m.cls := findClass_of_methodNamed Bd.named
  have hnm := (name_of_methodNamed Bd.named Bd.method).1
  have X0 : Stand p l e room_1 s m #[(.int p0), (.long p1), (.long p2), (.long p3), (.long p4)] below meth c s₁ [] 0 0 := Stand.of_body Bd
  have e0 : s₁.heap = h0 := by rw [← hh, Bd.state]; rfl
  have N0 := Fr.nil n0
  have pre0 : ∀ t, Steps p.tables e below (s₁.setTop (mkF m 0 #[.val (.int p0), .val (.long p1), .second, .val (.long p2), .second, .val (.long p3), .second, .val (.long p4), .second, .unset, .unset, .unset, .unset, .unset, .unset, .unset] [])) t → Steps p.tables e below (s₁.setTop (entryFrame m #[(.int p0), (.long p1), (.long p2), (.long p3), (.long p4)] maxLocals)) t := fun t k => castTop (own_ef_w1 m p0 p1 p2 p3 p4) k
  obtain ⟨Tw11, hw11, kw11, bw11, Xw11, ew11, Ew11, Gw11, Vw11, stw11⟩ := own_newD (L := #[.val (.int p0), .val (.long p1), .second, .val (.long p2), .second, .val (.long p3), .second, .val (.long p4), .second, .val (.int (2 : Int32)), .unset, .unset, .unset, .unset, .unset, .unset]) (S := []) X0 hx hZ (hw _ (List.mem_of_getElem? (i := 0) rfl)) e0 (z := (2 : Int32)) 2 (by decide) (by decide) (by decide) (by decide) (by decide) (hb hby at_9) (pc' := 11) rfl
  have g_bw11 : n0 ≤ bw11 := Nat.le_trans Z0 (Nat.le_of_eq Gw11.symm)
  have sz_bw11 : h0.size ≤ bw11 := Nat.le_trans (Keep.refl h0 []).1 (Nat.le_of_eq Gw11.symm)
  have Zw11 : n0 ≤ hw11.size := Nat.le_trans Z0 Ew11.1
  have KKw11 := (Keep.refl h0 []).ext Ew11
  have V_bw11 : Arv Z hw11 bw11 kw11 .double (2 : Int32) [(.double 0), (.double 0)] (.double 0) := Vw11
  obtain ⟨Tw12, hw12, kw12, bw12, Xw12, ew12, Ew12, Gw12, Vw12, stw12⟩ := own_newD (L := #[.val (.int p0), .val (.long p1), .second, .val (.long p2), .second, .val (.long p3), .second, .val (.long p4), .second, .val (.int (2 : Int32)), .val (.ref bw11), .unset, .unset, .unset, .unset, .unset]) (S := []) Xw11 hx hZ (hw _ (List.mem_of_getElem? (i := 0) rfl)) ew11 (z := (2 : Int32)) 2 (by decide) (by decide) (by decide) (by decide) (by decide) (hb hby at_15) (pc' := 17) rfl
  have ne_bw11_bw12 : bw11 ≠ bw12 := Nat.ne_of_lt (Nat.lt_of_lt_of_le V_bw11.lt (Nat.le_of_eq Gw12.symm))
  have ne_bw12_bw11 : bw12 ≠ bw11 := Ne.symm ne_bw11_bw12
  have g_bw12 : n0 ≤ bw12 := Nat.le_trans Zw11 (Nat.le_of_eq Gw12.symm)
  have sz_bw12 : h0.size ≤ bw12 := Nat.le_trans KKw11.1 (Nat.le_of_eq Gw12.symm)
  have V_bw11_w12 := V_bw11.ext Ew12
  have Zw12 : n0 ≤ hw12.size := Nat.le_trans Zw11 Ew12.1
  have KKw12 := KKw11.ext Ew12
  have V_bw12 : Arv Z hw12 bw12 kw12 .double (2 : Int32) [(.double 0), (.double 0)] (.double 0) := Vw12
  obtain ⟨_, _, ⟨Tw13, Lw13, kw13, nw13⟩, -, Xw13, ⟨Lcw13, hQw13, lw13, yw13, zw13⟩, stw13⟩ := Jvm.LawKit.callS Xw12 hx (y := (⟨"com/example/thicket/thicket/core/BoxVolumePinLaw", "lo", "(J)I"⟩ : MethodName)) hown (mvT hZ (hw _ (List.mem_of_getElem? (i := 1) rfl))) (mvT hZ (hw _ (List.mem_of_getElem? (i := 2) rfl))) (mvT hZ (hw _ (List.mem_of_getElem? (i := 3) rfl))) (mvT hZ (hw _ (List.mem_of_getElem? (i := 4) rfl))) (by decide) (backOf (W := 2) (own_rm_lo l Z a0 hw [] p1 hw12 n0 Zw12 w1_c23_lo_hv1 w1_c23_lo_hv5 w1_c23_lo_hv6) hZ (hw _ (List.mem_of_getElem? (i := 4) rfl)) (hw _ (List.mem_of_getElem? (i := 3) rfl)) (by decide) (by decide)) (g := (mkF m 23 #[.val (.int p0), .val (.long p1), .second, .val (.long p2), .second, .val (.long p3), .second, .val (.long p4), .second, .val (.int (2 : Int32)), .val (.ref bw11), .val (.ref bw12), .unset, .unset, .unset, .unset] [(.long p1), (.int (0 : Int32)), (.ref bw11)])) rfl (by rw [hml]; rfl) (argsL := [(.long p1)]) (rest := [(.int (0 : Int32)), (.ref bw11)]) (lenOf own_pd_28J29I rfl) rfl (by show 2 * 0 + _ ≤ _; exact Nat.le_of_eq rfl) (hb hby at_23) (fun _ _ => ⟨rfl, ew12, (by decide : 2 + 0 ≤ _), (by decide : 4 + 0 ≤ _)⟩)
  dsimp only [Pt.U, Pt.locs, Pt.cells, Pt.slots] at Xw13 lw13 yw13 zw13 stw13 hQw13
  subst lw13 yw13 zw13
  obtain ⟨rfl, Nw13q, ew13⟩ := hQw13
  have Nw13 := Fr.app N0 Nw13q
  obtain ⟨Tw14, hw14, Xw14, ew14, Ww14, Vw14, stw14⟩ := own_stD (L := #[.val (.int p0), .val (.long p1), .second, .val (.long p2), .second, .val (.long p3), .second, .val (.long p4), .second, .val (.int (2 : Int32)), .val (.ref bw11), .val (.ref bw12), .unset, .unset, .unset, .unset]) (S := []) Xw13 hx hZ ew13 V_bw11_w12 (j := (0 : Int32)) (x := (FP.i2d (own_imin w1_c23_lo_v1 w1_c23_lo_v6))) (by decide) 0 (by decide) (Nat.le_of_ble_eq_true rfl) (hb hby at_27) (pc' := 28) rfl
  have V_bw12_w14 := V_bw12.other Ww14 ne_bw12_bw11
  have Zw14 : n0 ≤ hw14.size := Nat.le_trans Zw12 (Nat.le_of_eq Ww14.size.symm)
  have KKw14 := KKw12.wr Ww14 (Or.inr sz_bw11)
  have V_bw11_w14 : Arv Z hw14 bw11 kw11 .double (2 : Int32) [(.double (FP.i2d (own_imin w1_c23_lo_v1 w1_c23_lo_v6))), (.double 0)] (.double 0) := Vw14
  have Nw14 := Fr.snoc Xw14 Nw13 g_bw11
  obtain ⟨_, _, ⟨Tw15, Lw15, kw15, nw15⟩, -, Xw15, ⟨Lcw15, hQw15, lw15, yw15, zw15⟩, stw15⟩ := Jvm.LawKit.callS Xw14 hx (y := (⟨"com/example/thicket/thicket/core/BoxVolumePinLaw", "hi", "(J)I"⟩ : MethodName)) hown (mvT hZ (hw _ (List.mem_of_getElem? (i := 9) rfl))) (mvT hZ (hw _ (List.mem_of_getElem? (i := 10) rfl))) (mvT hZ (hw _ (List.mem_of_getElem? (i := 3) rfl))) (mvT hZ (hw _ (List.mem_of_getElem? (i := 11) rfl))) (by decide) (backOf (W := 2) (own_rm_hi l Z a0 hw [] p1 hw14 n0 Zw14 w1_c32_hi_hv1 w1_c32_hi_hv5 w1_c32_hi_hv6) hZ (hw _ (List.mem_of_getElem? (i := 11) rfl)) (hw _ (List.mem_of_getElem? (i := 3) rfl)) (by decide) (by decide)) (g := (mkF m 32 #[.val (.int p0), .val (.long p1), .second, .val (.long p2), .second, .val (.long p3), .second, .val (.long p4), .second, .val (.int (2 : Int32)), .val (.ref bw11), .val (.ref bw12), .unset, .unset, .unset, .unset] [(.long p1), (.int (0 : Int32)), (.ref bw12)])) rfl (by rw [hml]; rfl) (argsL := [(.long p1)]) (rest := [(.int (0 : Int32)), (.ref bw12)]) (lenOf own_pd_28J29I rfl) rfl (by show 2 * 0 + _ ≤ _; exact Nat.le_of_eq rfl) (hb hby at_32) (fun _ _ => ⟨rfl, ew14, (by decide : 2 + 0 ≤ _), (by decide : 4 + 0 ≤ _)⟩)
  dsimp only [Pt.U, Pt.locs, Pt.cells, Pt.slots] at Xw15 lw15 yw15 zw15 stw15 hQw15
  subst lw15 yw15 zw15
  obtain ⟨rfl, Nw15q, ew15⟩ := hQw15
  have Nw15 := Fr.app Nw14 Nw15q
  obtain ⟨Tw16, hw16, Xw16, ew16, Ww16, Vw16, stw16⟩ := own_stD (L := #[.val (.int p0), .val (.long p1), .second, .val (.long p2), .second, .val (.long p3), .second, .val (.long p4), .second, .val (.int (2 : Int32)), .val (.ref bw11), .val (.ref bw12), .unset, .unset, .unset, .unset]) (S := []) Xw15 hx hZ ew15 V_bw12_w14 (j := (0 : Int32)) (x := (FP.i2d (own_imax w1_c32_hi_v1 w1_c32_hi_v6))) (by decide) 0 (by decide) (Nat.le_of_ble_eq_true rfl) (hb hby at_36) (pc' := 37) rfl
  have V_bw11_w16 := V_bw11_w14.other Ww16 ne_bw11_bw12
  have Zw16 : n0 ≤ hw16.size := Nat.le_trans Zw14 (Nat.le_of_eq Ww16.size.symm)
  have KKw16 := KKw14.wr Ww16 (Or.inr sz_bw12)
  have V_bw12_w16 : Arv Z hw16 bw12 kw12 .double (2 : Int32) [(.double (FP.i2d (own_imax w1_c32_hi_v1 w1_c32_hi_v6))), (.double 0)] (.double 0) := Vw16
  have Nw16 := Fr.snoc Xw16 Nw15 g_bw12
  obtain ⟨_, _, ⟨Tw17, Lw17, kw17, nw17⟩, -, Xw17, ⟨Lcw17, hQw17, lw17, yw17, zw17⟩, stw17⟩ := Jvm.LawKit.callS Xw16 hx (y := (⟨"com/example/thicket/thicket/core/BoxVolumePinLaw", "side", "(J)D"⟩ : MethodName)) hown (mvT hZ (hw _ (List.mem_of_getElem? (i := 15) rfl))) (mvT hZ (hw _ (List.mem_of_getElem? (i := 16) rfl))) (mvT hZ (hw _ (List.mem_of_getElem? (i := 3) rfl))) (mvT hZ (hw _ (List.mem_of_getElem? (i := 17) rfl))) (by decide) (backOf (W := 0) (own_rm_sd l Z a0 hw [] p1 hw16 n0 Zw16 w1_c38_sd_c1_hi_hv1 w1_c38_sd_c1_hi_hv5 w1_c38_sd_c1_hi_hv6 w1_c38_sd_c6_lo_hv1 w1_c38_sd_c6_lo_hv5 w1_c38_sd_c6_lo_hv6 w1_c38_sd_hn10 w1_c38_sd_hv10) hZ (hw _ (List.mem_of_getElem? (i := 17) rfl)) (hw _ (List.mem_of_getElem? (i := 3) rfl)) (by decide) (by decide)) (g := (mkF m 38 #[.val (.int p0), .val (.long p1), .second, .val (.long p2), .second, .val (.long p3), .second, .val (.long p4), .second, .val (.int (2 : Int32)), .val (.ref bw11), .val (.ref bw12), .unset, .unset, .unset, .unset] [(.long p1)])) rfl (by rw [hml]; rfl) (argsL := [(.long p1)]) (rest := []) (lenOf own_pd_28J29D rfl) rfl (by show 2 * 0 + _ ≤ _; exact Nat.le_of_eq rfl) (hb hby at_38) (fun _ _ => ⟨rfl, ew16, (by decide : 2 + 0 ≤ _), (by decide : 4 + 0 ≤ _)⟩)
  dsimp only [Pt.U, Pt.locs, Pt.cells, Pt.slots] at Xw17 lw17 yw17 zw17 stw17 hQw17
  subst lw17 yw17 zw17
  obtain ⟨rfl, Nw17q, ew17⟩ := hQw17
  have Nw17 := Fr.app Nw16 Nw17q
  obtain ⟨_, _, ⟨Tw18, Lw18, kw18, nw18⟩, -, Xw18, ⟨Lcw18, hQw18, lw18, yw18, zw18⟩, stw18⟩ := Jvm.LawKit.callS Xw17 hx (y := (⟨"com/example/thicket/thicket/core/BoxVolumePinLaw", "lo", "(J)I"⟩ : MethodName)) hown (mvT hZ (hw _ (List.mem_of_getElem? (i := 1) rfl))) (mvT hZ (hw _ (List.mem_of_getElem? (i := 2) rfl))) (mvT hZ (hw _ (List.mem_of_getElem? (i := 3) rfl))) (mvT hZ (hw _ (List.mem_of_getElem? (i := 4) rfl))) (by decide) (backOf (W := 2) (own_rm_lo l Z a0 hw [] p2 hw16 n0 Zw16 w1_c53_lo_hv1 w1_c53_lo_hv5 w1_c53_lo_hv6) hZ (hw _ (List.mem_of_getElem? (i := 4) rfl)) (hw _ (List.mem_of_getElem? (i := 3) rfl)) (by decide) (by decide)) (g := (mkF m 53 #[.val (.int p0), .val (.long p1), .second, .val (.long p2), .second, .val (.long p3), .second, .val (.long p4), .second, .val (.int (2 : Int32)), .val (.ref bw11), .val (.ref bw12), .val (.double w1_c38_sd_v10), .second, .unset, .unset] [(.long p2), (.int (1 : Int32)), (.ref bw11)])) rfl (by rw [hml]; rfl) (argsL := [(.long p2)]) (rest := [(.int (1 : Int32)), (.ref bw11)]) (lenOf own_pd_28J29I rfl) rfl (by show 2 * 0 + _ ≤ _; exact Nat.le_of_eq rfl) (hb hby at_53) (fun _ _ => ⟨rfl, ew17, (by decide : 2 + 0 ≤ _), (by decide : 4 + 0 ≤ _)⟩)
  dsimp only [Pt.U, Pt.locs, Pt.cells, Pt.slots] at Xw18 lw18 yw18 zw18 stw18 hQw18
  subst lw18 yw18 zw18
  obtain ⟨rfl, Nw18q, ew18⟩ := hQw18
  have Nw18 := Fr.app Nw17 Nw18q
  obtain ⟨Tw19, hw19, Xw19, ew19, Ww19, Vw19, stw19⟩ := own_stD (L := #[.val (.int p0), .val (.long p1), .second, .val (.long p2), .second, .val (.long p3), .second, .val (.long p4), .second, .val (.int (2 : Int32)), .val (.ref bw11), .val (.ref bw12), .val (.double w1_c38_sd_v10), .second, .unset, .unset]) (S := []) Xw18 hx hZ ew18 V_bw11_w16 (j := (1 : Int32)) (x := (FP.i2d (own_imin w1_c53_lo_v1 w1_c53_lo_v6))) (by decide) 1 (by decide) (Nat.le_of_ble_eq_true rfl) (hb hby at_57) (pc' := 58) rfl
  have V_bw12_w19 := V_bw12_w16.other Ww19 ne_bw12_bw11
  have Zw19 : n0 ≤ hw19.size := Nat.le_trans Zw16 (Nat.le_of_eq Ww19.size.symm)
  have KKw19 := KKw16.wr Ww19 (Or.inr sz_bw11)
  have V_bw11_w19 : Arv Z hw19 bw11 kw11 .double (2 : Int32) [(.double (FP.i2d (own_imin w1_c23_lo_v1 w1_c23_lo_v6))), (.double (FP.i2d (own_imin w1_c53_lo_v1 w1_c53_lo_v6)))] (.double 0) := Vw19
  have Nw19 := Fr.snoc Xw19 Nw18 g_bw11
  obtain ⟨_, _, ⟨Tw110, Lw110, kw110, nw110⟩, -, Xw110, ⟨Lcw110, hQw110, lw110, yw110, zw110⟩, stw110⟩ := Jvm.LawKit.callS Xw19 hx (y := (⟨"com/example/thicket/thicket/core/BoxVolumePinLaw", "hi", "(J)I"⟩ : MethodName)) hown (mvT hZ (hw _ (List.mem_of_getElem? (i := 9) rfl))) (mvT hZ (hw _ (List.mem_of_getElem? (i := 10) rfl))) (mvT hZ (hw _ (List.mem_of_getElem? (i := 3) rfl))) (mvT hZ (hw _ (List.mem_of_getElem? (i := 11) rfl))) (by decide) (backOf (W := 2) (own_rm_hi l Z a0 hw [] p2 hw19 n0 Zw19 w1_c62_hi_hv1 w1_c62_hi_hv5 w1_c62_hi_hv6) hZ (hw _ (List.mem_of_getElem? (i := 11) rfl)) (hw _ (List.mem_of_getElem? (i := 3) rfl)) (by decide) (by decide)) (g := (mkF m 62 #[.val (.int p0), .val (.long p1), .second, .val (.long p2), .second, .val (.long p3), .second, .val (.long p4), .second, .val (.int (2 : Int32)), .val (.ref bw11), .val (.ref bw12), .val (.double w1_c38_sd_v10), .second, .unset, .unset] [(.long p2), (.int (1 : Int32)), (.ref bw12)])) rfl (by rw [hml]; rfl) (argsL := [(.long p2)]) (rest := [(.int (1 : Int32)), (.ref bw12)]) (lenOf own_pd_28J29I rfl) rfl (by show 2 * 0 + _ ≤ _; exact Nat.le_of_eq rfl) (hb hby at_62) (fun _ _ => ⟨rfl, ew19, (by decide : 2 + 0 ≤ _), (by decide : 4 + 0 ≤ _)⟩)
  dsimp only [Pt.U, Pt.locs, Pt.cells, Pt.slots] at Xw110 lw110 yw110 zw110 stw110 hQw110
  subst lw110 yw110 zw110
  obtain ⟨rfl, Nw110q, ew110⟩ := hQw110
  have Nw110 := Fr.app Nw19 Nw110q
  obtain ⟨Tw111, hw111, Xw111, ew111, Ww111, Vw111, stw111⟩ := own_stD (L := #[.val (.int p0), .val (.long p1), .second, .val (.long p2), .second, .val (.long p3), .second, .val (.long p4), .second, .val (.int (2 : Int32)), .val (.ref bw11), .val (.ref bw12), .val (.double w1_c38_sd_v10), .second, .unset, .unset]) (S := []) Xw110 hx hZ ew110 V_bw12_w19 (j := (1 : Int32)) (x := (FP.i2d (own_imax w1_c62_hi_v1 w1_c62_hi_v6))) (by decide) 1 (by decide) (Nat.le_of_ble_eq_true rfl) (hb hby at_66) (pc' := 67) rfl
  have V_bw11_w111 := V_bw11_w19.other Ww111 ne_bw11_bw12
  have Zw111 : n0 ≤ hw111.size := Nat.le_trans Zw19 (Nat.le_of_eq Ww111.size.symm)
  have KKw111 := KKw19.wr Ww111 (Or.inr sz_bw12)
  have V_bw12_w111 : Arv Z hw111 bw12 kw12 .double (2 : Int32) [(.double (FP.i2d (own_imax w1_c32_hi_v1 w1_c32_hi_v6))), (.double (FP.i2d (own_imax w1_c62_hi_v1 w1_c62_hi_v6)))] (.double 0) := Vw111
  have Nw111 := Fr.snoc Xw111 Nw110 g_bw12
  obtain ⟨_, _, ⟨Tw112, Lw112, kw112, nw112⟩, -, Xw112, ⟨Lcw112, hQw112, lw112, yw112, zw112⟩, stw112⟩ := Jvm.LawKit.callS Xw111 hx (y := (⟨"com/example/thicket/thicket/core/BoxVolumePinLaw", "side", "(J)D"⟩ : MethodName)) hown (mvT hZ (hw _ (List.mem_of_getElem? (i := 15) rfl))) (mvT hZ (hw _ (List.mem_of_getElem? (i := 16) rfl))) (mvT hZ (hw _ (List.mem_of_getElem? (i := 3) rfl))) (mvT hZ (hw _ (List.mem_of_getElem? (i := 17) rfl))) (by decide) (backOf (W := 2) (own_rm_sd l Z a0 hw [] p2 hw111 n0 Zw111 w1_c70_sd_c1_hi_hv1 w1_c70_sd_c1_hi_hv5 w1_c70_sd_c1_hi_hv6 w1_c70_sd_c6_lo_hv1 w1_c70_sd_c6_lo_hv5 w1_c70_sd_c6_lo_hv6 w1_c70_sd_hn10 w1_c70_sd_hv10) hZ (hw _ (List.mem_of_getElem? (i := 17) rfl)) (hw _ (List.mem_of_getElem? (i := 3) rfl)) (by decide) (by decide)) (g := (mkF m 70 #[.val (.int p0), .val (.long p1), .second, .val (.long p2), .second, .val (.long p3), .second, .val (.long p4), .second, .val (.int (2 : Int32)), .val (.ref bw11), .val (.ref bw12), .val (.double w1_c38_sd_v10), .second, .unset, .unset] [(.long p2), (.double w1_c38_sd_v10)])) rfl (by rw [hml]; rfl) (argsL := [(.long p2)]) (rest := [(.double w1_c38_sd_v10)]) (lenOf own_pd_28J29D rfl) rfl (by show 2 * 0 + _ ≤ _; exact Nat.le_of_eq rfl) (hb hby at_70) (fun _ _ => ⟨rfl, ew111, (by decide : 2 + 0 ≤ _), (by decide : 4 + 0 ≤ _)⟩)
  dsimp only [Pt.U, Pt.locs, Pt.cells, Pt.slots] at Xw112 lw112 yw112 zw112 stw112 hQw112
  subst lw112 yw112 zw112
  obtain ⟨rfl, Nw112q, ew112⟩ := hQw112
  have Nw112 := Fr.app Nw111 Nw112q
  obtain ⟨_, _, ⟨Tw113, Lw113, kw113, nw113⟩, -, Xw113, ⟨Lcw113, hQw113, lw113, yw113, zw113⟩, stw113⟩ := Jvm.LawKit.callS Xw112 hx (y := (⟨"com/example/thicket/thicket/core/Box", "volume", "([D[D)D"⟩ : MethodName)) hown (mvT hZ (hw _ (List.mem_of_getElem? (i := 18) rfl))) (mvT hZ (hw _ (List.mem_of_getElem? (i := 19) rfl))) (mvT hZ (hw _ (List.mem_of_getElem? (i := 20) rfl))) (mvT hZ (hw _ (List.mem_of_getElem? (i := 21) rfl))) (by decide) (backOf (W := 0) (own_rm_c1 l Z a0 hw [] bw11 (FP.i2d (own_imin w1_c23_lo_v1 w1_c23_lo_v6)) (FP.i2d (own_imin w1_c53_lo_v1 w1_c53_lo_v6)) bw12 (FP.i2d (own_imax w1_c32_hi_v1 w1_c32_hi_v6)) (FP.i2d (own_imax w1_c62_hi_v1 w1_c62_hi_v6)) hw111 n0 Zw111 V_bw11_w111 V_bw12_w111 w1_c152_c1_hn21 w1_c152_c1_hv21 w1_c152_c1_hn22 w1_c152_c1_hv22 w1_c152_c1_hn21_2 w1_c152_c1_hv21_2 w1_c152_c1_hn22_2 w1_c152_c1_hv22_2) hZ (hw _ (List.mem_of_getElem? (i := 21) rfl)) (hw _ (List.mem_of_getElem? (i := 20) rfl)) (by decide) (by decide)) (g := (mkF m 152 #[.val (.int p0), .val (.long p1), .second, .val (.long p2), .second, .val (.long p3), .second, .val (.long p4), .second, .val (.int (2 : Int32)), .val (.ref bw11), .val (.ref bw12), .val (.double w1_v73), .second, .unset, .unset] [(.ref bw12), (.ref bw11)])) rfl (by rw [hml]; rfl) (argsL := [(.ref bw11), (.ref bw12)]) (rest := []) (lenOf own_pd_285bD5bD29D rfl) rfl (by show 2 * 0 + _ ≤ _; exact Nat.le_of_eq rfl) (hb hby at_152) (fun _ _ => ⟨rfl, ew112, (by decide : 2 + 0 ≤ _), (by decide : 4 + 0 ≤ _)⟩)
  dsimp only [Pt.U, Pt.locs, Pt.cells, Pt.slots] at Xw113 lw113 yw113 zw113 stw113 hQw113
  subst lw113 yw113 zw113
  obtain ⟨rfl, Nw113q, ew113⟩ := hQw113
  have Nw113 := Fr.app Nw112 Nw113q
  obtain ⟨fs, hr, hrun, hended, hW, hsame⟩ := Xw113.leave (v := some (.int (1 : Int32))) (fun h => by rw [Bd.returns] at h; cases h)
  refine ⟨_, _, pre0 _ ?_, hrun, hended, _, _, rfl, ?_, ⟨_, rfl⟩, hW, hsame.mono (by decide) (by decide)⟩
  · refine own_s_iconst X0.here hx (hb hby at_0) (pc' := 1) rfl (v := (1 : Int32)) (by decide) ?_
    refine own_s_iloadN X0.here hx (hb hby at_1) (pc' := 2) rfl rfl ?_
    refine own_s_iconst X0.here hx (hb hby at_2) (pc' := 3) rfl (v := (3 : Int32)) (by decide) ?_
    refine own_s_iand X0.here hx (hb hby at_3) (pc' := 4) rfl (v := (1 : Int32)) w1_hv3 ?_
    refine own_s_iadd X0.here hx (hb hby at_4) (pc' := 5) rfl (v := (2 : Int32)) (by decide) ?_
    refine own_s_istore X0.here hx (hb hby at_5) (pc' := 7) rfl (L' := #[.val (.int p0), .val (.long p1), .second, .val (.long p2), .second, .val (.long p3), .second, .val (.long p4), .second, .val (.int (2 : Int32)), .unset, .unset, .unset, .unset, .unset, .unset]) rfl ?_
    refine own_s_iload X0.here hx (hb hby at_7) (pc' := 9) rfl rfl ?_
    refine stw11 _ ?_
    refine own_s_astore Xw11.here hx (hb hby at_11) (pc' := 13) rfl rfl (L' := #[.val (.int p0), .val (.long p1), .second, .val (.long p2), .second, .val (.long p3), .second, .val (.long p4), .second, .val (.int (2 : Int32)), .val (.ref bw11), .unset, .unset, .unset, .unset, .unset]) rfl ?_
    refine own_s_iload Xw11.here hx (hb hby at_13) (pc' := 15) rfl rfl ?_
    refine stw12 _ ?_
    refine own_s_astore Xw12.here hx (hb hby at_17) (pc' := 19) rfl rfl (L' := #[.val (.int p0), .val (.long p1), .second, .val (.long p2), .second, .val (.long p3), .second, .val (.long p4), .second, .val (.int (2 : Int32)), .val (.ref bw11), .val (.ref bw12), .unset, .unset, .unset, .unset]) rfl ?_
    refine own_s_aload Xw12.here hx (hb hby at_19) (pc' := 21) rfl rfl rfl ?_
    refine own_s_iconst Xw12.here hx (hb hby at_21) (pc' := 22) rfl (v := (0 : Int32)) (by decide) ?_
    refine own_s_lloadN Xw12.here hx (hb hby at_22) (pc' := 23) rfl rfl ?_
    refine stw13 _ ?_
    show Steps p.tables e below (Tw13.setTop (mkF m 26 #[.val (.int p0), .val (.long p1), .second, .val (.long p2), .second, .val (.long p3), .second, .val (.long p4), .second, .val (.int (2 : Int32)), .val (.ref bw11), .val (.ref bw12), .unset, .unset, .unset, .unset] [(.int (own_imin w1_c23_lo_v1 w1_c23_lo_v6)), (.int (0 : Int32)), (.ref bw11)])) _
    refine own_s_i2d Xw13.here hx (hb hby at_26) (pc' := 27) rfl (v := (FP.i2d (own_imin w1_c23_lo_v1 w1_c23_lo_v6))) rfl ?_
    refine stw14 _ ?_
    refine own_s_aload Xw14.here hx (hb hby at_28) (pc' := 30) rfl rfl rfl ?_
    refine own_s_iconst Xw14.here hx (hb hby at_30) (pc' := 31) rfl (v := (0 : Int32)) (by decide) ?_
    refine own_s_lloadN Xw14.here hx (hb hby at_31) (pc' := 32) rfl rfl ?_
    refine stw15 _ ?_
    show Steps p.tables e below (Tw15.setTop (mkF m 35 #[.val (.int p0), .val (.long p1), .second, .val (.long p2), .second, .val (.long p3), .second, .val (.long p4), .second, .val (.int (2 : Int32)), .val (.ref bw11), .val (.ref bw12), .unset, .unset, .unset, .unset] [(.int (own_imax w1_c32_hi_v1 w1_c32_hi_v6)), (.int (0 : Int32)), (.ref bw12)])) _
    refine own_s_i2d Xw15.here hx (hb hby at_35) (pc' := 36) rfl (v := (FP.i2d (own_imax w1_c32_hi_v1 w1_c32_hi_v6))) rfl ?_
    refine stw16 _ ?_
    refine own_s_lloadN Xw16.here hx (hb hby at_37) (pc' := 38) rfl rfl ?_
    refine stw17 _ ?_
    show Steps p.tables e below (Tw17.setTop (mkF m 41 #[.val (.int p0), .val (.long p1), .second, .val (.long p2), .second, .val (.long p3), .second, .val (.long p4), .second, .val (.int (2 : Int32)), .val (.ref bw11), .val (.ref bw12), .unset, .unset, .unset, .unset] [(.double w1_c38_sd_v10)])) _
    refine own_s_dstore Xw17.here hx (hb hby at_41) (pc' := 43) rfl (L' := #[.val (.int p0), .val (.long p1), .second, .val (.long p2), .second, .val (.long p3), .second, .val (.long p4), .second, .val (.int (2 : Int32)), .val (.ref bw11), .val (.ref bw12), .val (.double w1_c38_sd_v10), .second, .unset, .unset]) rfl ?_
    refine own_s_iload Xw17.here hx (hb hby at_43) (pc' := 45) rfl rfl ?_
    refine own_s_iconst Xw17.here hx (hb hby at_45) (pc' := 46) rfl (v := (1 : Int32)) (by decide) ?_
    refine own_s_icmpNo Xw17.here hx (hb hby at_46) (pc' := 49) rfl (by decide) ?_
    refine own_s_aload Xw17.here hx (hb hby at_49) (pc' := 51) rfl rfl rfl ?_
    refine own_s_iconst Xw17.here hx (hb hby at_51) (pc' := 52) rfl (v := (1 : Int32)) (by decide) ?_
    refine own_s_lloadN Xw17.here hx (hb hby at_52) (pc' := 53) rfl rfl ?_
    refine stw18 _ ?_
    show Steps p.tables e below (Tw18.setTop (mkF m 56 #[.val (.int p0), .val (.long p1), .second, .val (.long p2), .second, .val (.long p3), .second, .val (.long p4), .second, .val (.int (2 : Int32)), .val (.ref bw11), .val (.ref bw12), .val (.double w1_c38_sd_v10), .second, .unset, .unset] [(.int (own_imin w1_c53_lo_v1 w1_c53_lo_v6)), (.int (1 : Int32)), (.ref bw11)])) _
    refine own_s_i2d Xw18.here hx (hb hby at_56) (pc' := 57) rfl (v := (FP.i2d (own_imin w1_c53_lo_v1 w1_c53_lo_v6))) rfl ?_
    refine stw19 _ ?_
    refine own_s_aload Xw19.here hx (hb hby at_58) (pc' := 60) rfl rfl rfl ?_
    refine own_s_iconst Xw19.here hx (hb hby at_60) (pc' := 61) rfl (v := (1 : Int32)) (by decide) ?_
    refine own_s_lloadN Xw19.here hx (hb hby at_61) (pc' := 62) rfl rfl ?_
    refine stw110 _ ?_
    show Steps p.tables e below (Tw110.setTop (mkF m 65 #[.val (.int p0), .val (.long p1), .second, .val (.long p2), .second, .val (.long p3), .second, .val (.long p4), .second, .val (.int (2 : Int32)), .val (.ref bw11), .val (.ref bw12), .val (.double w1_c38_sd_v10), .second, .unset, .unset] [(.int (own_imax w1_c62_hi_v1 w1_c62_hi_v6)), (.int (1 : Int32)), (.ref bw12)])) _
    refine own_s_i2d Xw110.here hx (hb hby at_65) (pc' := 66) rfl (v := (FP.i2d (own_imax w1_c62_hi_v1 w1_c62_hi_v6))) rfl ?_
    refine stw111 _ ?_
    refine own_s_dload Xw111.here hx (hb hby at_67) (pc' := 69) rfl rfl ?_
    refine own_s_lloadN Xw111.here hx (hb hby at_69) (pc' := 70) rfl rfl ?_
    refine stw112 _ ?_
    show Steps p.tables e below (Tw112.setTop (mkF m 73 #[.val (.int p0), .val (.long p1), .second, .val (.long p2), .second, .val (.long p3), .second, .val (.long p4), .second, .val (.int (2 : Int32)), .val (.ref bw11), .val (.ref bw12), .val (.double w1_c38_sd_v10), .second, .unset, .unset] [(.double w1_c70_sd_v10), (.double w1_c38_sd_v10)])) _
    refine own_s_dmul Xw112.here hx (hb hby at_73) (pc' := 74) rfl w1_hn73 (v := w1_v73) w1_hv73 ?_
    refine own_s_dstore Xw112.here hx (hb hby at_74) (pc' := 76) rfl (L' := #[.val (.int p0), .val (.long p1), .second, .val (.long p2), .second, .val (.long p3), .second, .val (.long p4), .second, .val (.int (2 : Int32)), .val (.ref bw11), .val (.ref bw12), .val (.double w1_v73), .second, .unset, .unset]) rfl ?_
    refine own_s_iload Xw112.here hx (hb hby at_76) (pc' := 78) rfl rfl ?_
    refine own_s_iconst Xw112.here hx (hb hby at_78) (pc' := 79) rfl (v := (2 : Int32)) (by decide) ?_
    refine own_s_icmpYes Xw112.here hx (hb hby at_79) (by decide) (pc' := 112) (by decide) (by decide) ?_
    refine own_s_iload Xw112.here hx (hb hby at_112) (pc' := 114) rfl rfl ?_
    refine own_s_iconst Xw112.here hx (hb hby at_114) (pc' := 115) rfl (v := (3 : Int32)) (by decide) ?_
    refine own_s_icmpYes Xw112.here hx (hb hby at_115) (by decide) (pc' := 148) (by decide) (by decide) ?_
    refine own_s_aload Xw112.here hx (hb hby at_148) (pc' := 150) rfl rfl rfl ?_
    refine own_s_aload Xw112.here hx (hb hby at_150) (pc' := 152) rfl rfl rfl ?_
    refine stw113 _ ?_
    show Steps p.tables e below (Tw113.setTop (mkF m 155 #[.val (.int p0), .val (.long p1), .second, .val (.long p2), .second, .val (.long p3), .second, .val (.long p4), .second, .val (.int (2 : Int32)), .val (.ref bw11), .val (.ref bw12), .val (.double w1_v73), .second, .unset, .unset] [(.double w1_c152_c1_v22_2)])) _
    refine own_s_dstore Xw113.here hx (hb hby at_155) (pc' := 157) rfl (L' := #[.val (.int p0), .val (.long p1), .second, .val (.long p2), .second, .val (.long p3), .second, .val (.long p4), .second, .val (.int (2 : Int32)), .val (.ref bw11), .val (.ref bw12), .val (.double w1_v73), .second, .val (.double w1_c152_c1_v22_2), .second]) rfl ?_
    refine own_s_dload Xw113.here hx (hb hby at_157) (pc' := 159) rfl rfl ?_
    refine own_s_dload Xw113.here hx (hb hby at_159) (pc' := 161) rfl rfl ?_
    refine own_s_dcmp Xw113.here hx (hb hby at_161) (pc' := 162) rfl (v := (0 : Int32)) w1_hc161 ?_
    refine own_s_ifNo Xw113.here hx (hb hby at_162) (pc' := 165) rfl (by decide) ?_
    refine own_s_iconst Xw113.here hx (hb hby at_165) (pc' := 166) rfl (v := (1 : Int32)) (by decide) ?_
    refine own_s_goto Xw113.here hx (hb hby at_166) (by decide) (pc' := 170) (by decide) ?_
    exact retN Xw113 hx (t := .boolean) Bd.returns (by simp) (hb hby at_170) hr
  · show own_Q0 n0 _ Tw113.heap _
    rw [ew113]
    exact ⟨rfl, Nw113⟩
theorem own_ef_c2 (m : MethodId) (qa : Addr) (qb : Addr) : entryFrame m #[(.ref qa), (.ref qb)] 5 = mkF m 0 #[.val (.ref qa), .val (.ref qb), .unset, .unset, .unset] [] := by first | (simp [entryFrame, mkF, argsToLocals, Value.category]; done) | rfl
set_option maxRecDepth 65536 in
set_option maxHeartbeats 40000000 in
theorem own_rm_c2 (l : Launch) (Z : State) (a0 : Array Value) (hw : ∀ d ∈ tables_1, d.before a0 Z = true) (ws : List Jvm.Cond) (qa : Addr) (d0 : UInt64) (d1 : UInt64) (d2 : UInt64) (qb : Addr) (ee0 : UInt64) (ee1 : UInt64) (ee2 : UInt64) {qak : ClassId} {qbk : ClassId} {c2_v21 : UInt64} {c2_v22 : UInt64} {c2_v21_2 : UInt64} {c2_v22_2 : UInt64} {c2_v21_3 : UInt64} {c2_v22_3 : UInt64} (h0 : Heap) (n0 : Nat) (Z0 : n0 ≤ h0.size) (V_qa : Arv Z h0 qa qak .double (3 : Int32) [(.double d0), (.double d1), (.double d2)] (.double 0)) (V_qb : Arv Z h0 qb qbk .double (3 : Int32) [(.double ee0), (.double ee1), (.double ee2)] (.double 0)) (c2_hn21 : Jvm.Free.Fl.NoNaN64 (FP.dsub ee0 d0)) (c2_hv21 : FP.dsub ee0 d0 = c2_v21) (c2_hn22 : Jvm.Free.Fl.NoNaN64 (FP.dmul 4607182418800017408 c2_v21)) (c2_hv22 : FP.dmul 4607182418800017408 c2_v21 = c2_v22) (c2_hn21_2 : Jvm.Free.Fl.NoNaN64 (FP.dsub ee1 d1)) (c2_hv21_2 : FP.dsub ee1 d1 = c2_v21_2) (c2_hn22_2 : Jvm.Free.Fl.NoNaN64 (FP.dmul c2_v22 c2_v21_2)) (c2_hv22_2 : FP.dmul c2_v22 c2_v21_2 = c2_v22_2) (c2_hn21_3 : Jvm.Free.Fl.NoNaN64 (FP.dsub ee2 d2)) (c2_hv21_3 : FP.dsub ee2 d2 = c2_v21_3) (c2_hn22_3 : Jvm.Free.Fl.NoNaN64 (FP.dmul c2_v22_2 c2_v21_3)) (c2_hv22_3 : FP.dmul c2_v22_2 c2_v21_3 = c2_v22_3) :
    MetFree l (⟨"com/example/thicket/thicket/core/Box", "volume", "([D[D)D"⟩ : MethodName) (head1 (Jvm.Cond.code (⟨"com/example/thicket/thicket/core/Box", "volume", "([D[D)D"⟩ : MethodName) prog_2_method_8_code 5 (some .double) :: ws) ({ frames := 0, cells := 0, slots := 0, locals := 0 } : Room)) (fun a U => a = #[(.ref qa), (.ref qb)] ∧ Z.Warmed39 U.vm ∧ U.heap = h0) (fun _ _ _ _ _ => True) (fun _ U o U' => ∃ v L, o = .returned v ∧ own_QP (some (.double c2_v22_3)) h0 n0 v U'.heap L ∧ FrameEnd U o U' L ({ frames := 0, cells := 0, slots := 0, locals := 0 } : Room).cells ({ frames := 0, cells := 0, slots := 0, locals := 0 } : Room).slots) := by
  refine MetFree.of_bodySF (plainFor_of_name own_pn_com_example_thicket_thicket_core_Box) hisR ?_
  intro p e s m args below meth c s₁ Bd hml0 hP hK
  obtain ⟨rfl, hZ, hh⟩ := hP
  have hx := Bd.exec
  have hby := Bd.bytes
  have hml : c.maxLocals = 5 := hml0
  have hown : s.vm.findClass "com/example/thicket/thicket/core/Box" = some m.cls := findClass_of_methodNamed Bd.named
  have hnm := (name_of_methodNamed Bd.named Bd.method).1
  have X0 : Stand p l e ({ frames := 0, cells := 0, slots := 0, locals := 0 } : Room) s m #[(.ref qa), (.ref qb)] below meth c s₁ [] 0 0 := Stand.of_body Bd
  have e0 : s₁.heap = h0 := by rw [← hh, Bd.state]; rfl
  have N0 := Fr.nil n0
  have pre0 : ∀ t, Steps p.tables e below (s₁.setTop (mkF m 0 #[.val (.ref qa), .val (.ref qb), .unset, .unset, .unset] [])) t → Steps p.tables e below (s₁.setTop (entryFrame m #[(.ref qa), (.ref qb)] 5)) t := fun t k => castTop (own_ef_c2 m qa qb) k
  obtain ⟨fs, hr, hrun, hended, hW, hsame⟩ := X0.leave (v := some (.double c2_v22_3)) (fun h => by rw [Bd.returns] at h; cases h)
  refine ⟨_, _, pre0 _ ?_, hrun, hended, _, _, rfl, ?_, ⟨_, rfl⟩, hW, hsame.mono (by decide) (by decide)⟩
  · refine own_s_dconst1 X0.here hx (hb hby own_d6_0) (pc' := 1) rfl  ?_
    refine own_s_dstoreN X0.here hx (hb hby own_d6_1) (pc' := 2) rfl (L' := #[.val (.ref qa), .val (.ref qb), .val (.double 4607182418800017408), .second, .unset]) rfl ?_
    refine own_s_iconst X0.here hx (hb hby own_d6_2) (pc' := 3) rfl (v := (0 : Int32)) (by decide) ?_
    refine own_s_istore X0.here hx (hb hby own_d6_3) (pc' := 5) rfl (L' := #[.val (.ref qa), .val (.ref qb), .val (.double 4607182418800017408), .second, .val (.int (0 : Int32))]) rfl ?_
    refine own_s_iload X0.here hx (hb hby own_d6_5) (pc' := 7) rfl rfl ?_
    refine own_s_aloadN X0.here hx (hb hby own_d6_7) (pc' := 8) rfl rfl rfl ?_
    refine own_len X0 hx hZ e0 V_qa (hb hby own_d6_8) (pc' := 9) rfl ?_
    refine own_s_icmpNo X0.here hx (hb hby own_d6_9) (pc' := 12) rfl (by decide) ?_
    refine own_s_dloadN X0.here hx (hb hby own_d6_12) (pc' := 13) rfl rfl ?_
    refine own_s_aloadN X0.here hx (hb hby own_d6_13) (pc' := 14) rfl rfl rfl ?_
    refine own_s_iload X0.here hx (hb hby own_d6_14) (pc' := 16) rfl rfl ?_
    refine own_ldD X0 hx hZ e0 V_qb (j := (0 : Int32)) (x := ee0) (by decide) rfl (hb hby own_d6_16) (pc' := 17) rfl ?_
    refine own_s_aloadN X0.here hx (hb hby own_d6_17) (pc' := 18) rfl rfl rfl ?_
    refine own_s_iload X0.here hx (hb hby own_d6_18) (pc' := 20) rfl rfl ?_
    refine own_ldD X0 hx hZ e0 V_qa (j := (0 : Int32)) (x := d0) (by decide) rfl (hb hby own_d6_20) (pc' := 21) rfl ?_
    refine own_s_dsub X0.here hx (hb hby own_d6_21) (pc' := 22) rfl c2_hn21 (v := c2_v21) c2_hv21 ?_
    refine own_s_dmul X0.here hx (hb hby own_d6_22) (pc' := 23) rfl c2_hn22 (v := c2_v22) c2_hv22 ?_
    refine own_s_dstoreN X0.here hx (hb hby own_d6_23) (pc' := 24) rfl (L' := #[.val (.ref qa), .val (.ref qb), .val (.double c2_v22), .second, .val (.int (0 : Int32))]) rfl ?_
    refine own_s_iinc X0.here hx (hb hby own_d6_24) (pc' := 27) rfl rfl (v := (1 : Int32)) (by decide) (L' := #[.val (.ref qa), .val (.ref qb), .val (.double c2_v22), .second, .val (.int (1 : Int32))]) rfl ?_
    refine own_s_goto X0.here hx (hb hby own_d6_27) (by decide) (pc' := 5) (by decide) ?_
    refine own_s_iload X0.here hx (hb hby own_d6_5) (pc' := 7) rfl rfl ?_
    refine own_s_aloadN X0.here hx (hb hby own_d6_7) (pc' := 8) rfl rfl rfl ?_
    refine own_len X0 hx hZ e0 V_qa (hb hby own_d6_8) (pc' := 9) rfl ?_
    refine own_s_icmpNo X0.here hx (hb hby own_d6_9) (pc' := 12) rfl (by decide) ?_
    refine own_s_dloadN X0.here hx (hb hby own_d6_12) (pc' := 13) rfl rfl ?_
    refine own_s_aloadN X0.here hx (hb hby own_d6_13) (pc' := 14) rfl rfl rfl ?_
    refine own_s_iload X0.here hx (hb hby own_d6_14) (pc' := 16) rfl rfl ?_
    refine own_ldD X0 hx hZ e0 V_qb (j := (1 : Int32)) (x := ee1) (by decide) rfl (hb hby own_d6_16) (pc' := 17) rfl ?_
    refine own_s_aloadN X0.here hx (hb hby own_d6_17) (pc' := 18) rfl rfl rfl ?_
    refine own_s_iload X0.here hx (hb hby own_d6_18) (pc' := 20) rfl rfl ?_
    refine own_ldD X0 hx hZ e0 V_qa (j := (1 : Int32)) (x := d1) (by decide) rfl (hb hby own_d6_20) (pc' := 21) rfl ?_
    refine own_s_dsub X0.here hx (hb hby own_d6_21) (pc' := 22) rfl c2_hn21_2 (v := c2_v21_2) c2_hv21_2 ?_
    refine own_s_dmul X0.here hx (hb hby own_d6_22) (pc' := 23) rfl c2_hn22_2 (v := c2_v22_2) c2_hv22_2 ?_
    refine own_s_dstoreN X0.here hx (hb hby own_d6_23) (pc' := 24) rfl (L' := #[.val (.ref qa), .val (.ref qb), .val (.double c2_v22_2), .second, .val (.int (1 : Int32))]) rfl ?_
    refine own_s_iinc X0.here hx (hb hby own_d6_24) (pc' := 27) rfl rfl (v := (2 : Int32)) (by decide) (L' := #[.val (.ref qa), .val (.ref qb), .val (.double c2_v22_2), .second, .val (.int (2 : Int32))]) rfl ?_
    refine own_s_goto X0.here hx (hb hby own_d6_27) (by decide) (pc' := 5) (by decide) ?_
    refine own_s_iload X0.here hx (hb hby own_d6_5) (pc' := 7) rfl rfl ?_
    refine own_s_aloadN X0.here hx (hb hby own_d6_7) (pc' := 8) rfl rfl rfl ?_
    refine own_len X0 hx hZ e0 V_qa (hb hby own_d6_8) (pc' := 9) rfl ?_
    refine own_s_icmpNo X0.here hx (hb hby own_d6_9) (pc' := 12) rfl (by decide) ?_
    refine own_s_dloadN X0.here hx (hb hby own_d6_12) (pc' := 13) rfl rfl ?_
    refine own_s_aloadN X0.here hx (hb hby own_d6_13) (pc' := 14) rfl rfl rfl ?_
    refine own_s_iload X0.here hx (hb hby own_d6_14) (pc' := 16) rfl rfl ?_
    refine own_ldD X0 hx hZ e0 V_qb (j := (2 : Int32)) (x := ee2) (by decide) rfl (hb hby own_d6_16) (pc' := 17) rfl ?_
    refine own_s_aloadN X0.here hx (hb hby own_d6_17) (pc' := 18) rfl rfl rfl ?_
    refine own_s_iload X0.here hx (hb hby own_d6_18) (pc' := 20) rfl rfl ?_
    refine own_ldD X0 hx hZ e0 V_qa (j := (2 : Int32)) (x := d2) (by decide) rfl (hb hby own_d6_20) (pc' := 21) rfl ?_
    refine own_s_dsub X0.here hx (hb hby own_d6_21) (pc' := 22) rfl c2_hn21_3 (v := c2_v21_3) c2_hv21_3 ?_
    refine own_s_dmul X0.here hx (hb hby own_d6_22) (pc' := 23) rfl c2_hn22_3 (v := c2_v22_3) c2_hv22_3 ?_
    refine own_s_dstoreN X0.here hx (hb hby own_d6_23) (pc' := 24) rfl (L' := #[.val (.ref qa), .val (.ref qb), .val (.double c2_v22_3), .second, .val (.int (2 : Int32))]) rfl ?_
    refine own_s_iinc X0.here hx (hb hby own_d6_24) (pc' := 27) rfl rfl (v := (3 : Int32)) (by decide) (L' := #[.val (.ref qa), .val (.ref qb), .val (.double c2_v22_3), .second, .val (.int (3 : Int32))]) rfl ?_
    refine own_s_goto X0.here hx (hb hby own_d6_27) (by decide) (pc' := 5) (by decide) ?_
    refine own_s_iload X0.here hx (hb hby own_d6_5) (pc' := 7) rfl rfl ?_
    refine own_s_aloadN X0.here hx (hb hby own_d6_7) (pc' := 8) rfl rfl rfl ?_
    refine own_len X0 hx hZ e0 V_qa (hb hby own_d6_8) (pc' := 9) rfl ?_
    refine own_s_icmpYes X0.here hx (hb hby own_d6_9) (by decide) (pc' := 30) (by decide) (by decide) ?_
    refine own_s_dloadN X0.here hx (hb hby own_d6_30) (pc' := 31) rfl rfl ?_
    exact own_retD X0 hx Bd.returns (hb hby own_d6_31) hr
  · show own_QP (some (.double c2_v22_3)) h0 n0 _ s₁.heap _
    rw [e0]
    exact ⟨rfl, N0, rfl⟩
theorem own_ef_w2 (m : MethodId) (p0 : Int32) (p1 : Int64) (p2 : Int64) (p3 : Int64) (p4 : Int64) : entryFrame m #[(.int p0), (.long p1), (.long p2), (.long p3), (.long p4)] maxLocals = mkF m 0 #[.val (.int p0), .val (.long p1), .second, .val (.long p2), .second, .val (.long p3), .second, .val (.long p4), .second, .unset, .unset, .unset, .unset, .unset, .unset, .unset] [] := by first | (simp [entryFrame, mkF, argsToLocals, Value.category, maxLocals]; done) | rfl
set_option maxRecDepth 65536 in
set_option maxHeartbeats 40000000 in
theorem own_rm_w2 (l : Launch) (Z : State) (a0 : Array Value) (hw : ∀ d ∈ tables_1, d.before a0 Z = true) (ws : List Jvm.Cond) (p0 : Int32) (p1 : Int64) (p2 : Int64) (p3 : Int64) (p4 : Int64) {w2_c23_lo_v1 : Int32} {w2_c23_lo_v5 : Int64} {w2_c23_lo_v6 : Int32} {w2_c32_hi_v1 : Int32} {w2_c32_hi_v5 : Int64} {w2_c32_hi_v6 : Int32} {w2_c38_sd_c1_hi_v1 : Int32} {w2_c38_sd_c1_hi_v5 : Int64} {w2_c38_sd_c1_hi_v6 : Int32} {w2_c38_sd_c6_lo_v1 : Int32} {w2_c38_sd_c6_lo_v5 : Int64} {w2_c38_sd_c6_lo_v6 : Int32} {w2_c38_sd_v10 : UInt64} {w2_c53_lo_v1 : Int32} {w2_c53_lo_v5 : Int64} {w2_c53_lo_v6 : Int32} {w2_c62_hi_v1 : Int32} {w2_c62_hi_v5 : Int64} {w2_c62_hi_v6 : Int32} {w2_c70_sd_c1_hi_v1 : Int32} {w2_c70_sd_c1_hi_v5 : Int64} {w2_c70_sd_c1_hi_v6 : Int32} {w2_c70_sd_c6_lo_v1 : Int32} {w2_c70_sd_c6_lo_v5 : Int64} {w2_c70_sd_c6_lo_v6 : Int32} {w2_c70_sd_v10 : UInt64} {w2_v73 : UInt64} {w2_c87_lo_v1 : Int32} {w2_c87_lo_v5 : Int64} {w2_c87_lo_v6 : Int32} {w2_c97_hi_v1 : Int32} {w2_c97_hi_v5 : Int64} {w2_c97_hi_v6 : Int32} {w2_c106_sd_c1_hi_v1 : Int32} {w2_c106_sd_c1_hi_v5 : Int64} {w2_c106_sd_c1_hi_v6 : Int32} {w2_c106_sd_c6_lo_v1 : Int32} {w2_c106_sd_c6_lo_v5 : Int64} {w2_c106_sd_c6_lo_v6 : Int32} {w2_c106_sd_v10 : UInt64} {w2_v109 : UInt64} {w2_c152_c2_v21 : UInt64} {w2_c152_c2_v22 : UInt64} {w2_c152_c2_v21_2 : UInt64} {w2_c152_c2_v22_2 : UInt64} {w2_c152_c2_v21_3 : UInt64} {w2_c152_c2_v22_3 : UInt64} (h0 : Heap) (n0 : Nat) (Z0 : n0 ≤ h0.size)  (w2_hv3 : p0 &&& (3 : Int32) = (2 : Int32)) (w2_c23_lo_hv1 : Int64.toInt32 p1 = w2_c23_lo_v1) (w2_c23_lo_hv5 : (Int64.toUInt64 p1 >>> ((32 : Int32) &&& 63).toInt64.toUInt64).toInt64 = w2_c23_lo_v5) (w2_c23_lo_hv6 : Int64.toInt32 w2_c23_lo_v5 = w2_c23_lo_v6) (w2_c32_hi_hv1 : Int64.toInt32 p1 = w2_c32_hi_v1) (w2_c32_hi_hv5 : (Int64.toUInt64 p1 >>> ((32 : Int32) &&& 63).toInt64.toUInt64).toInt64 = w2_c32_hi_v5) (w2_c32_hi_hv6 : Int64.toInt32 w2_c32_hi_v5 = w2_c32_hi_v6) (w2_c38_sd_c1_hi_hv1 : Int64.toInt32 p1 = w2_c38_sd_c1_hi_v1) (w2_c38_sd_c1_hi_hv5 : (Int64.toUInt64 p1 >>> ((32 : Int32) &&& 63).toInt64.toUInt64).toInt64 = w2_c38_sd_c1_hi_v5) (w2_c38_sd_c1_hi_hv6 : Int64.toInt32 w2_c38_sd_c1_hi_v5 = w2_c38_sd_c1_hi_v6) (w2_c38_sd_c6_lo_hv1 : Int64.toInt32 p1 = w2_c38_sd_c6_lo_v1) (w2_c38_sd_c6_lo_hv5 : (Int64.toUInt64 p1 >>> ((32 : Int32) &&& 63).toInt64.toUInt64).toInt64 = w2_c38_sd_c6_lo_v5) (w2_c38_sd_c6_lo_hv6 : Int64.toInt32 w2_c38_sd_c6_lo_v5 = w2_c38_sd_c6_lo_v6) (w2_c38_sd_hn10 : Jvm.Free.Fl.NoNaN64 (FP.dsub (FP.i2d (own_imax w2_c38_sd_c1_hi_v1 w2_c38_sd_c1_hi_v6)) (FP.i2d (own_imin w2_c38_sd_c6_lo_v1 w2_c38_sd_c6_lo_v6)))) (w2_c38_sd_hv10 : FP.dsub (FP.i2d (own_imax w2_c38_sd_c1_hi_v1 w2_c38_sd_c1_hi_v6)) (FP.i2d (own_imin w2_c38_sd_c6_lo_v1 w2_c38_sd_c6_lo_v6)) = w2_c38_sd_v10) (w2_c53_lo_hv1 : Int64.toInt32 p2 = w2_c53_lo_v1) (w2_c53_lo_hv5 : (Int64.toUInt64 p2 >>> ((32 : Int32) &&& 63).toInt64.toUInt64).toInt64 = w2_c53_lo_v5) (w2_c53_lo_hv6 : Int64.toInt32 w2_c53_lo_v5 = w2_c53_lo_v6) (w2_c62_hi_hv1 : Int64.toInt32 p2 = w2_c62_hi_v1) (w2_c62_hi_hv5 : (Int64.toUInt64 p2 >>> ((32 : Int32) &&& 63).toInt64.toUInt64).toInt64 = w2_c62_hi_v5) (w2_c62_hi_hv6 : Int64.toInt32 w2_c62_hi_v5 = w2_c62_hi_v6) (w2_c70_sd_c1_hi_hv1 : Int64.toInt32 p2 = w2_c70_sd_c1_hi_v1) (w2_c70_sd_c1_hi_hv5 : (Int64.toUInt64 p2 >>> ((32 : Int32) &&& 63).toInt64.toUInt64).toInt64 = w2_c70_sd_c1_hi_v5) (w2_c70_sd_c1_hi_hv6 : Int64.toInt32 w2_c70_sd_c1_hi_v5 = w2_c70_sd_c1_hi_v6) (w2_c70_sd_c6_lo_hv1 : Int64.toInt32 p2 = w2_c70_sd_c6_lo_v1) (w2_c70_sd_c6_lo_hv5 : (Int64.toUInt64 p2 >>> ((32 : Int32) &&& 63).toInt64.toUInt64).toInt64 = w2_c70_sd_c6_lo_v5) (w2_c70_sd_c6_lo_hv6 : Int64.toInt32 w2_c70_sd_c6_lo_v5 = w2_c70_sd_c6_lo_v6) (w2_c70_sd_hn10 : Jvm.Free.Fl.NoNaN64 (FP.dsub (FP.i2d (own_imax w2_c70_sd_c1_hi_v1 w2_c70_sd_c1_hi_v6)) (FP.i2d (own_imin w2_c70_sd_c6_lo_v1 w2_c70_sd_c6_lo_v6)))) (w2_c70_sd_hv10 : FP.dsub (FP.i2d (own_imax w2_c70_sd_c1_hi_v1 w2_c70_sd_c1_hi_v6)) (FP.i2d (own_imin w2_c70_sd_c6_lo_v1 w2_c70_sd_c6_lo_v6)) = w2_c70_sd_v10) (w2_hn73 : Jvm.Free.Fl.NoNaN64 (FP.dmul w2_c38_sd_v10 w2_c70_sd_v10)) (w2_hv73 : FP.dmul w2_c38_sd_v10 w2_c70_sd_v10 = w2_v73) (w2_c87_lo_hv1 : Int64.toInt32 p3 = w2_c87_lo_v1) (w2_c87_lo_hv5 : (Int64.toUInt64 p3 >>> ((32 : Int32) &&& 63).toInt64.toUInt64).toInt64 = w2_c87_lo_v5) (w2_c87_lo_hv6 : Int64.toInt32 w2_c87_lo_v5 = w2_c87_lo_v6) (w2_c97_hi_hv1 : Int64.toInt32 p3 = w2_c97_hi_v1) (w2_c97_hi_hv5 : (Int64.toUInt64 p3 >>> ((32 : Int32) &&& 63).toInt64.toUInt64).toInt64 = w2_c97_hi_v5) (w2_c97_hi_hv6 : Int64.toInt32 w2_c97_hi_v5 = w2_c97_hi_v6) (w2_c106_sd_c1_hi_hv1 : Int64.toInt32 p3 = w2_c106_sd_c1_hi_v1) (w2_c106_sd_c1_hi_hv5 : (Int64.toUInt64 p3 >>> ((32 : Int32) &&& 63).toInt64.toUInt64).toInt64 = w2_c106_sd_c1_hi_v5) (w2_c106_sd_c1_hi_hv6 : Int64.toInt32 w2_c106_sd_c1_hi_v5 = w2_c106_sd_c1_hi_v6) (w2_c106_sd_c6_lo_hv1 : Int64.toInt32 p3 = w2_c106_sd_c6_lo_v1) (w2_c106_sd_c6_lo_hv5 : (Int64.toUInt64 p3 >>> ((32 : Int32) &&& 63).toInt64.toUInt64).toInt64 = w2_c106_sd_c6_lo_v5) (w2_c106_sd_c6_lo_hv6 : Int64.toInt32 w2_c106_sd_c6_lo_v5 = w2_c106_sd_c6_lo_v6) (w2_c106_sd_hn10 : Jvm.Free.Fl.NoNaN64 (FP.dsub (FP.i2d (own_imax w2_c106_sd_c1_hi_v1 w2_c106_sd_c1_hi_v6)) (FP.i2d (own_imin w2_c106_sd_c6_lo_v1 w2_c106_sd_c6_lo_v6)))) (w2_c106_sd_hv10 : FP.dsub (FP.i2d (own_imax w2_c106_sd_c1_hi_v1 w2_c106_sd_c1_hi_v6)) (FP.i2d (own_imin w2_c106_sd_c6_lo_v1 w2_c106_sd_c6_lo_v6)) = w2_c106_sd_v10) (w2_hn109 : Jvm.Free.Fl.NoNaN64 (FP.dmul w2_v73 w2_c106_sd_v10)) (w2_hv109 : FP.dmul w2_v73 w2_c106_sd_v10 = w2_v109) (w2_c152_c2_hn21 : Jvm.Free.Fl.NoNaN64 (FP.dsub (FP.i2d (own_imax w2_c32_hi_v1 w2_c32_hi_v6)) (FP.i2d (own_imin w2_c23_lo_v1 w2_c23_lo_v6)))) (w2_c152_c2_hv21 : FP.dsub (FP.i2d (own_imax w2_c32_hi_v1 w2_c32_hi_v6)) (FP.i2d (own_imin w2_c23_lo_v1 w2_c23_lo_v6)) = w2_c152_c2_v21) (w2_c152_c2_hn22 : Jvm.Free.Fl.NoNaN64 (FP.dmul 4607182418800017408 w2_c152_c2_v21)) (w2_c152_c2_hv22 : FP.dmul 4607182418800017408 w2_c152_c2_v21 = w2_c152_c2_v22) (w2_c152_c2_hn21_2 : Jvm.Free.Fl.NoNaN64 (FP.dsub (FP.i2d (own_imax w2_c62_hi_v1 w2_c62_hi_v6)) (FP.i2d (own_imin w2_c53_lo_v1 w2_c53_lo_v6)))) (w2_c152_c2_hv21_2 : FP.dsub (FP.i2d (own_imax w2_c62_hi_v1 w2_c62_hi_v6)) (FP.i2d (own_imin w2_c53_lo_v1 w2_c53_lo_v6)) = w2_c152_c2_v21_2) (w2_c152_c2_hn22_2 : Jvm.Free.Fl.NoNaN64 (FP.dmul w2_c152_c2_v22 w2_c152_c2_v21_2)) (w2_c152_c2_hv22_2 : FP.dmul w2_c152_c2_v22 w2_c152_c2_v21_2 = w2_c152_c2_v22_2) (w2_c152_c2_hn21_3 : Jvm.Free.Fl.NoNaN64 (FP.dsub (FP.i2d (own_imax w2_c97_hi_v1 w2_c97_hi_v6)) (FP.i2d (own_imin w2_c87_lo_v1 w2_c87_lo_v6)))) (w2_c152_c2_hv21_3 : FP.dsub (FP.i2d (own_imax w2_c97_hi_v1 w2_c97_hi_v6)) (FP.i2d (own_imin w2_c87_lo_v1 w2_c87_lo_v6)) = w2_c152_c2_v21_3) (w2_c152_c2_hn22_3 : Jvm.Free.Fl.NoNaN64 (FP.dmul w2_c152_c2_v22_2 w2_c152_c2_v21_3)) (w2_c152_c2_hv22_3 : FP.dmul w2_c152_c2_v22_2 w2_c152_c2_v21_3 = w2_c152_c2_v22_3) (w2_hc161 : Op.cmpValue (FP.dcmp w2_c152_c2_v22_3 w2_v109) .l = (0 : Int32)) :
    MetFree l x (head1 (Jvm.Cond.code x code maxLocals ret :: ws) room_1) (fun a U => a = #[(.int p0), (.long p1), (.long p2), (.long p3), (.long p4)] ∧ Z.Warmed39 U.vm ∧ U.heap = h0) (fun _ _ _ _ _ => True) (fun _ U o U' => ∃ v L, o = .returned v ∧ own_Q0 n0 v U'.heap L ∧ FrameEnd U o U' L room_1.cells room_1.slots) := by
  refine MetFree.of_bodySF (plainFor_of_name own_pn_com_example_thicket_thicket_core_BoxVolumePinLaw) hisR ?_
  intro p e s m args below meth c s₁ Bd hml0 hP hK
  obtain ⟨rfl, hZ, hh⟩ := hP
  have hx := Bd.exec
  have hby := Bd.bytes
  have hml : c.maxLocals = 16 := hml0
  have hown : s.vm.findClass "com/example/thicket/thicket/core/BoxVolumePinLaw" = some m.cls := findClass_of_methodNamed Bd.named
  have hnm := (name_of_methodNamed Bd.named Bd.method).1
  have X0 : Stand p l e room_1 s m #[(.int p0), (.long p1), (.long p2), (.long p3), (.long p4)] below meth c s₁ [] 0 0 := Stand.of_body Bd
  have e0 : s₁.heap = h0 := by rw [← hh, Bd.state]; rfl
  have N0 := Fr.nil n0
  have pre0 : ∀ t, Steps p.tables e below (s₁.setTop (mkF m 0 #[.val (.int p0), .val (.long p1), .second, .val (.long p2), .second, .val (.long p3), .second, .val (.long p4), .second, .unset, .unset, .unset, .unset, .unset, .unset, .unset] [])) t → Steps p.tables e below (s₁.setTop (entryFrame m #[(.int p0), (.long p1), (.long p2), (.long p3), (.long p4)] maxLocals)) t := fun t k => castTop (own_ef_w2 m p0 p1 p2 p3 p4) k
  obtain ⟨Tw21, hw21, kw21, bw21, Xw21, ew21, Ew21, Gw21, Vw21, stw21⟩ := own_newD (L := #[.val (.int p0), .val (.long p1), .second, .val (.long p2), .second, .val (.long p3), .second, .val (.long p4), .second, .val (.int (3 : Int32)), .unset, .unset, .unset, .unset, .unset, .unset]) (S := []) X0 hx hZ (hw _ (List.mem_of_getElem? (i := 0) rfl)) e0 (z := (3 : Int32)) 3 (by decide) (by decide) (by decide) (by decide) (by decide) (hb hby at_9) (pc' := 11) rfl
  have g_bw21 : n0 ≤ bw21 := Nat.le_trans Z0 (Nat.le_of_eq Gw21.symm)
  have sz_bw21 : h0.size ≤ bw21 := Nat.le_trans (Keep.refl h0 []).1 (Nat.le_of_eq Gw21.symm)
  have Zw21 : n0 ≤ hw21.size := Nat.le_trans Z0 Ew21.1
  have KKw21 := (Keep.refl h0 []).ext Ew21
  have V_bw21 : Arv Z hw21 bw21 kw21 .double (3 : Int32) [(.double 0), (.double 0), (.double 0)] (.double 0) := Vw21
  obtain ⟨Tw22, hw22, kw22, bw22, Xw22, ew22, Ew22, Gw22, Vw22, stw22⟩ := own_newD (L := #[.val (.int p0), .val (.long p1), .second, .val (.long p2), .second, .val (.long p3), .second, .val (.long p4), .second, .val (.int (3 : Int32)), .val (.ref bw21), .unset, .unset, .unset, .unset, .unset]) (S := []) Xw21 hx hZ (hw _ (List.mem_of_getElem? (i := 0) rfl)) ew21 (z := (3 : Int32)) 3 (by decide) (by decide) (by decide) (by decide) (by decide) (hb hby at_15) (pc' := 17) rfl
  have ne_bw21_bw22 : bw21 ≠ bw22 := Nat.ne_of_lt (Nat.lt_of_lt_of_le V_bw21.lt (Nat.le_of_eq Gw22.symm))
  have ne_bw22_bw21 : bw22 ≠ bw21 := Ne.symm ne_bw21_bw22
  have g_bw22 : n0 ≤ bw22 := Nat.le_trans Zw21 (Nat.le_of_eq Gw22.symm)
  have sz_bw22 : h0.size ≤ bw22 := Nat.le_trans KKw21.1 (Nat.le_of_eq Gw22.symm)
  have V_bw21_w22 := V_bw21.ext Ew22
  have Zw22 : n0 ≤ hw22.size := Nat.le_trans Zw21 Ew22.1
  have KKw22 := KKw21.ext Ew22
  have V_bw22 : Arv Z hw22 bw22 kw22 .double (3 : Int32) [(.double 0), (.double 0), (.double 0)] (.double 0) := Vw22
  obtain ⟨_, _, ⟨Tw23, Lw23, kw23, nw23⟩, -, Xw23, ⟨Lcw23, hQw23, lw23, yw23, zw23⟩, stw23⟩ := Jvm.LawKit.callS Xw22 hx (y := (⟨"com/example/thicket/thicket/core/BoxVolumePinLaw", "lo", "(J)I"⟩ : MethodName)) hown (mvT hZ (hw _ (List.mem_of_getElem? (i := 1) rfl))) (mvT hZ (hw _ (List.mem_of_getElem? (i := 2) rfl))) (mvT hZ (hw _ (List.mem_of_getElem? (i := 3) rfl))) (mvT hZ (hw _ (List.mem_of_getElem? (i := 4) rfl))) (by decide) (backOf (W := 2) (own_rm_lo l Z a0 hw [] p1 hw22 n0 Zw22 w2_c23_lo_hv1 w2_c23_lo_hv5 w2_c23_lo_hv6) hZ (hw _ (List.mem_of_getElem? (i := 4) rfl)) (hw _ (List.mem_of_getElem? (i := 3) rfl)) (by decide) (by decide)) (g := (mkF m 23 #[.val (.int p0), .val (.long p1), .second, .val (.long p2), .second, .val (.long p3), .second, .val (.long p4), .second, .val (.int (3 : Int32)), .val (.ref bw21), .val (.ref bw22), .unset, .unset, .unset, .unset] [(.long p1), (.int (0 : Int32)), (.ref bw21)])) rfl (by rw [hml]; rfl) (argsL := [(.long p1)]) (rest := [(.int (0 : Int32)), (.ref bw21)]) (lenOf own_pd_28J29I rfl) rfl (by show 2 * 0 + _ ≤ _; exact Nat.le_of_eq rfl) (hb hby at_23) (fun _ _ => ⟨rfl, ew22, (by decide : 2 + 0 ≤ _), (by decide : 6 + 0 ≤ _)⟩)
  dsimp only [Pt.U, Pt.locs, Pt.cells, Pt.slots] at Xw23 lw23 yw23 zw23 stw23 hQw23
  subst lw23 yw23 zw23
  obtain ⟨rfl, Nw23q, ew23⟩ := hQw23
  have Nw23 := Fr.app N0 Nw23q
  obtain ⟨Tw24, hw24, Xw24, ew24, Ww24, Vw24, stw24⟩ := own_stD (L := #[.val (.int p0), .val (.long p1), .second, .val (.long p2), .second, .val (.long p3), .second, .val (.long p4), .second, .val (.int (3 : Int32)), .val (.ref bw21), .val (.ref bw22), .unset, .unset, .unset, .unset]) (S := []) Xw23 hx hZ ew23 V_bw21_w22 (j := (0 : Int32)) (x := (FP.i2d (own_imin w2_c23_lo_v1 w2_c23_lo_v6))) (by decide) 0 (by decide) (Nat.le_of_ble_eq_true rfl) (hb hby at_27) (pc' := 28) rfl
  have V_bw22_w24 := V_bw22.other Ww24 ne_bw22_bw21
  have Zw24 : n0 ≤ hw24.size := Nat.le_trans Zw22 (Nat.le_of_eq Ww24.size.symm)
  have KKw24 := KKw22.wr Ww24 (Or.inr sz_bw21)
  have V_bw21_w24 : Arv Z hw24 bw21 kw21 .double (3 : Int32) [(.double (FP.i2d (own_imin w2_c23_lo_v1 w2_c23_lo_v6))), (.double 0), (.double 0)] (.double 0) := Vw24
  have Nw24 := Fr.snoc Xw24 Nw23 g_bw21
  obtain ⟨_, _, ⟨Tw25, Lw25, kw25, nw25⟩, -, Xw25, ⟨Lcw25, hQw25, lw25, yw25, zw25⟩, stw25⟩ := Jvm.LawKit.callS Xw24 hx (y := (⟨"com/example/thicket/thicket/core/BoxVolumePinLaw", "hi", "(J)I"⟩ : MethodName)) hown (mvT hZ (hw _ (List.mem_of_getElem? (i := 9) rfl))) (mvT hZ (hw _ (List.mem_of_getElem? (i := 10) rfl))) (mvT hZ (hw _ (List.mem_of_getElem? (i := 3) rfl))) (mvT hZ (hw _ (List.mem_of_getElem? (i := 11) rfl))) (by decide) (backOf (W := 2) (own_rm_hi l Z a0 hw [] p1 hw24 n0 Zw24 w2_c32_hi_hv1 w2_c32_hi_hv5 w2_c32_hi_hv6) hZ (hw _ (List.mem_of_getElem? (i := 11) rfl)) (hw _ (List.mem_of_getElem? (i := 3) rfl)) (by decide) (by decide)) (g := (mkF m 32 #[.val (.int p0), .val (.long p1), .second, .val (.long p2), .second, .val (.long p3), .second, .val (.long p4), .second, .val (.int (3 : Int32)), .val (.ref bw21), .val (.ref bw22), .unset, .unset, .unset, .unset] [(.long p1), (.int (0 : Int32)), (.ref bw22)])) rfl (by rw [hml]; rfl) (argsL := [(.long p1)]) (rest := [(.int (0 : Int32)), (.ref bw22)]) (lenOf own_pd_28J29I rfl) rfl (by show 2 * 0 + _ ≤ _; exact Nat.le_of_eq rfl) (hb hby at_32) (fun _ _ => ⟨rfl, ew24, (by decide : 2 + 0 ≤ _), (by decide : 6 + 0 ≤ _)⟩)
  dsimp only [Pt.U, Pt.locs, Pt.cells, Pt.slots] at Xw25 lw25 yw25 zw25 stw25 hQw25
  subst lw25 yw25 zw25
  obtain ⟨rfl, Nw25q, ew25⟩ := hQw25
  have Nw25 := Fr.app Nw24 Nw25q
  obtain ⟨Tw26, hw26, Xw26, ew26, Ww26, Vw26, stw26⟩ := own_stD (L := #[.val (.int p0), .val (.long p1), .second, .val (.long p2), .second, .val (.long p3), .second, .val (.long p4), .second, .val (.int (3 : Int32)), .val (.ref bw21), .val (.ref bw22), .unset, .unset, .unset, .unset]) (S := []) Xw25 hx hZ ew25 V_bw22_w24 (j := (0 : Int32)) (x := (FP.i2d (own_imax w2_c32_hi_v1 w2_c32_hi_v6))) (by decide) 0 (by decide) (Nat.le_of_ble_eq_true rfl) (hb hby at_36) (pc' := 37) rfl
  have V_bw21_w26 := V_bw21_w24.other Ww26 ne_bw21_bw22
  have Zw26 : n0 ≤ hw26.size := Nat.le_trans Zw24 (Nat.le_of_eq Ww26.size.symm)
  have KKw26 := KKw24.wr Ww26 (Or.inr sz_bw22)
  have V_bw22_w26 : Arv Z hw26 bw22 kw22 .double (3 : Int32) [(.double (FP.i2d (own_imax w2_c32_hi_v1 w2_c32_hi_v6))), (.double 0), (.double 0)] (.double 0) := Vw26
  have Nw26 := Fr.snoc Xw26 Nw25 g_bw22
  obtain ⟨_, _, ⟨Tw27, Lw27, kw27, nw27⟩, -, Xw27, ⟨Lcw27, hQw27, lw27, yw27, zw27⟩, stw27⟩ := Jvm.LawKit.callS Xw26 hx (y := (⟨"com/example/thicket/thicket/core/BoxVolumePinLaw", "side", "(J)D"⟩ : MethodName)) hown (mvT hZ (hw _ (List.mem_of_getElem? (i := 15) rfl))) (mvT hZ (hw _ (List.mem_of_getElem? (i := 16) rfl))) (mvT hZ (hw _ (List.mem_of_getElem? (i := 3) rfl))) (mvT hZ (hw _ (List.mem_of_getElem? (i := 17) rfl))) (by decide) (backOf (W := 0) (own_rm_sd l Z a0 hw [] p1 hw26 n0 Zw26 w2_c38_sd_c1_hi_hv1 w2_c38_sd_c1_hi_hv5 w2_c38_sd_c1_hi_hv6 w2_c38_sd_c6_lo_hv1 w2_c38_sd_c6_lo_hv5 w2_c38_sd_c6_lo_hv6 w2_c38_sd_hn10 w2_c38_sd_hv10) hZ (hw _ (List.mem_of_getElem? (i := 17) rfl)) (hw _ (List.mem_of_getElem? (i := 3) rfl)) (by decide) (by decide)) (g := (mkF m 38 #[.val (.int p0), .val (.long p1), .second, .val (.long p2), .second, .val (.long p3), .second, .val (.long p4), .second, .val (.int (3 : Int32)), .val (.ref bw21), .val (.ref bw22), .unset, .unset, .unset, .unset] [(.long p1)])) rfl (by rw [hml]; rfl) (argsL := [(.long p1)]) (rest := []) (lenOf own_pd_28J29D rfl) rfl (by show 2 * 0 + _ ≤ _; exact Nat.le_of_eq rfl) (hb hby at_38) (fun _ _ => ⟨rfl, ew26, (by decide : 2 + 0 ≤ _), (by decide : 6 + 0 ≤ _)⟩)
  dsimp only [Pt.U, Pt.locs, Pt.cells, Pt.slots] at Xw27 lw27 yw27 zw27 stw27 hQw27
  subst lw27 yw27 zw27
  obtain ⟨rfl, Nw27q, ew27⟩ := hQw27
  have Nw27 := Fr.app Nw26 Nw27q
  obtain ⟨_, _, ⟨Tw28, Lw28, kw28, nw28⟩, -, Xw28, ⟨Lcw28, hQw28, lw28, yw28, zw28⟩, stw28⟩ := Jvm.LawKit.callS Xw27 hx (y := (⟨"com/example/thicket/thicket/core/BoxVolumePinLaw", "lo", "(J)I"⟩ : MethodName)) hown (mvT hZ (hw _ (List.mem_of_getElem? (i := 1) rfl))) (mvT hZ (hw _ (List.mem_of_getElem? (i := 2) rfl))) (mvT hZ (hw _ (List.mem_of_getElem? (i := 3) rfl))) (mvT hZ (hw _ (List.mem_of_getElem? (i := 4) rfl))) (by decide) (backOf (W := 2) (own_rm_lo l Z a0 hw [] p2 hw26 n0 Zw26 w2_c53_lo_hv1 w2_c53_lo_hv5 w2_c53_lo_hv6) hZ (hw _ (List.mem_of_getElem? (i := 4) rfl)) (hw _ (List.mem_of_getElem? (i := 3) rfl)) (by decide) (by decide)) (g := (mkF m 53 #[.val (.int p0), .val (.long p1), .second, .val (.long p2), .second, .val (.long p3), .second, .val (.long p4), .second, .val (.int (3 : Int32)), .val (.ref bw21), .val (.ref bw22), .val (.double w2_c38_sd_v10), .second, .unset, .unset] [(.long p2), (.int (1 : Int32)), (.ref bw21)])) rfl (by rw [hml]; rfl) (argsL := [(.long p2)]) (rest := [(.int (1 : Int32)), (.ref bw21)]) (lenOf own_pd_28J29I rfl) rfl (by show 2 * 0 + _ ≤ _; exact Nat.le_of_eq rfl) (hb hby at_53) (fun _ _ => ⟨rfl, ew27, (by decide : 2 + 0 ≤ _), (by decide : 6 + 0 ≤ _)⟩)
  dsimp only [Pt.U, Pt.locs, Pt.cells, Pt.slots] at Xw28 lw28 yw28 zw28 stw28 hQw28
  subst lw28 yw28 zw28
  obtain ⟨rfl, Nw28q, ew28⟩ := hQw28
  have Nw28 := Fr.app Nw27 Nw28q
  obtain ⟨Tw29, hw29, Xw29, ew29, Ww29, Vw29, stw29⟩ := own_stD (L := #[.val (.int p0), .val (.long p1), .second, .val (.long p2), .second, .val (.long p3), .second, .val (.long p4), .second, .val (.int (3 : Int32)), .val (.ref bw21), .val (.ref bw22), .val (.double w2_c38_sd_v10), .second, .unset, .unset]) (S := []) Xw28 hx hZ ew28 V_bw21_w26 (j := (1 : Int32)) (x := (FP.i2d (own_imin w2_c53_lo_v1 w2_c53_lo_v6))) (by decide) 1 (by decide) (Nat.le_of_ble_eq_true rfl) (hb hby at_57) (pc' := 58) rfl
  have V_bw22_w29 := V_bw22_w26.other Ww29 ne_bw22_bw21
  have Zw29 : n0 ≤ hw29.size := Nat.le_trans Zw26 (Nat.le_of_eq Ww29.size.symm)
  have KKw29 := KKw26.wr Ww29 (Or.inr sz_bw21)
  have V_bw21_w29 : Arv Z hw29 bw21 kw21 .double (3 : Int32) [(.double (FP.i2d (own_imin w2_c23_lo_v1 w2_c23_lo_v6))), (.double (FP.i2d (own_imin w2_c53_lo_v1 w2_c53_lo_v6))), (.double 0)] (.double 0) := Vw29
  have Nw29 := Fr.snoc Xw29 Nw28 g_bw21
  obtain ⟨_, _, ⟨Tw210, Lw210, kw210, nw210⟩, -, Xw210, ⟨Lcw210, hQw210, lw210, yw210, zw210⟩, stw210⟩ := Jvm.LawKit.callS Xw29 hx (y := (⟨"com/example/thicket/thicket/core/BoxVolumePinLaw", "hi", "(J)I"⟩ : MethodName)) hown (mvT hZ (hw _ (List.mem_of_getElem? (i := 9) rfl))) (mvT hZ (hw _ (List.mem_of_getElem? (i := 10) rfl))) (mvT hZ (hw _ (List.mem_of_getElem? (i := 3) rfl))) (mvT hZ (hw _ (List.mem_of_getElem? (i := 11) rfl))) (by decide) (backOf (W := 2) (own_rm_hi l Z a0 hw [] p2 hw29 n0 Zw29 w2_c62_hi_hv1 w2_c62_hi_hv5 w2_c62_hi_hv6) hZ (hw _ (List.mem_of_getElem? (i := 11) rfl)) (hw _ (List.mem_of_getElem? (i := 3) rfl)) (by decide) (by decide)) (g := (mkF m 62 #[.val (.int p0), .val (.long p1), .second, .val (.long p2), .second, .val (.long p3), .second, .val (.long p4), .second, .val (.int (3 : Int32)), .val (.ref bw21), .val (.ref bw22), .val (.double w2_c38_sd_v10), .second, .unset, .unset] [(.long p2), (.int (1 : Int32)), (.ref bw22)])) rfl (by rw [hml]; rfl) (argsL := [(.long p2)]) (rest := [(.int (1 : Int32)), (.ref bw22)]) (lenOf own_pd_28J29I rfl) rfl (by show 2 * 0 + _ ≤ _; exact Nat.le_of_eq rfl) (hb hby at_62) (fun _ _ => ⟨rfl, ew29, (by decide : 2 + 0 ≤ _), (by decide : 6 + 0 ≤ _)⟩)
  dsimp only [Pt.U, Pt.locs, Pt.cells, Pt.slots] at Xw210 lw210 yw210 zw210 stw210 hQw210
  subst lw210 yw210 zw210
  obtain ⟨rfl, Nw210q, ew210⟩ := hQw210
  have Nw210 := Fr.app Nw29 Nw210q
  obtain ⟨Tw211, hw211, Xw211, ew211, Ww211, Vw211, stw211⟩ := own_stD (L := #[.val (.int p0), .val (.long p1), .second, .val (.long p2), .second, .val (.long p3), .second, .val (.long p4), .second, .val (.int (3 : Int32)), .val (.ref bw21), .val (.ref bw22), .val (.double w2_c38_sd_v10), .second, .unset, .unset]) (S := []) Xw210 hx hZ ew210 V_bw22_w29 (j := (1 : Int32)) (x := (FP.i2d (own_imax w2_c62_hi_v1 w2_c62_hi_v6))) (by decide) 1 (by decide) (Nat.le_of_ble_eq_true rfl) (hb hby at_66) (pc' := 67) rfl
  have V_bw21_w211 := V_bw21_w29.other Ww211 ne_bw21_bw22
  have Zw211 : n0 ≤ hw211.size := Nat.le_trans Zw29 (Nat.le_of_eq Ww211.size.symm)
  have KKw211 := KKw29.wr Ww211 (Or.inr sz_bw22)
  have V_bw22_w211 : Arv Z hw211 bw22 kw22 .double (3 : Int32) [(.double (FP.i2d (own_imax w2_c32_hi_v1 w2_c32_hi_v6))), (.double (FP.i2d (own_imax w2_c62_hi_v1 w2_c62_hi_v6))), (.double 0)] (.double 0) := Vw211
  have Nw211 := Fr.snoc Xw211 Nw210 g_bw22
  obtain ⟨_, _, ⟨Tw212, Lw212, kw212, nw212⟩, -, Xw212, ⟨Lcw212, hQw212, lw212, yw212, zw212⟩, stw212⟩ := Jvm.LawKit.callS Xw211 hx (y := (⟨"com/example/thicket/thicket/core/BoxVolumePinLaw", "side", "(J)D"⟩ : MethodName)) hown (mvT hZ (hw _ (List.mem_of_getElem? (i := 15) rfl))) (mvT hZ (hw _ (List.mem_of_getElem? (i := 16) rfl))) (mvT hZ (hw _ (List.mem_of_getElem? (i := 3) rfl))) (mvT hZ (hw _ (List.mem_of_getElem? (i := 17) rfl))) (by decide) (backOf (W := 2) (own_rm_sd l Z a0 hw [] p2 hw211 n0 Zw211 w2_c70_sd_c1_hi_hv1 w2_c70_sd_c1_hi_hv5 w2_c70_sd_c1_hi_hv6 w2_c70_sd_c6_lo_hv1 w2_c70_sd_c6_lo_hv5 w2_c70_sd_c6_lo_hv6 w2_c70_sd_hn10 w2_c70_sd_hv10) hZ (hw _ (List.mem_of_getElem? (i := 17) rfl)) (hw _ (List.mem_of_getElem? (i := 3) rfl)) (by decide) (by decide)) (g := (mkF m 70 #[.val (.int p0), .val (.long p1), .second, .val (.long p2), .second, .val (.long p3), .second, .val (.long p4), .second, .val (.int (3 : Int32)), .val (.ref bw21), .val (.ref bw22), .val (.double w2_c38_sd_v10), .second, .unset, .unset] [(.long p2), (.double w2_c38_sd_v10)])) rfl (by rw [hml]; rfl) (argsL := [(.long p2)]) (rest := [(.double w2_c38_sd_v10)]) (lenOf own_pd_28J29D rfl) rfl (by show 2 * 0 + _ ≤ _; exact Nat.le_of_eq rfl) (hb hby at_70) (fun _ _ => ⟨rfl, ew211, (by decide : 2 + 0 ≤ _), (by decide : 6 + 0 ≤ _)⟩)
  dsimp only [Pt.U, Pt.locs, Pt.cells, Pt.slots] at Xw212 lw212 yw212 zw212 stw212 hQw212
  subst lw212 yw212 zw212
  obtain ⟨rfl, Nw212q, ew212⟩ := hQw212
  have Nw212 := Fr.app Nw211 Nw212q
  obtain ⟨_, _, ⟨Tw213, Lw213, kw213, nw213⟩, -, Xw213, ⟨Lcw213, hQw213, lw213, yw213, zw213⟩, stw213⟩ := Jvm.LawKit.callS Xw212 hx (y := (⟨"com/example/thicket/thicket/core/BoxVolumePinLaw", "lo", "(J)I"⟩ : MethodName)) hown (mvT hZ (hw _ (List.mem_of_getElem? (i := 1) rfl))) (mvT hZ (hw _ (List.mem_of_getElem? (i := 2) rfl))) (mvT hZ (hw _ (List.mem_of_getElem? (i := 3) rfl))) (mvT hZ (hw _ (List.mem_of_getElem? (i := 4) rfl))) (by decide) (backOf (W := 2) (own_rm_lo l Z a0 hw [] p3 hw211 n0 Zw211 w2_c87_lo_hv1 w2_c87_lo_hv5 w2_c87_lo_hv6) hZ (hw _ (List.mem_of_getElem? (i := 4) rfl)) (hw _ (List.mem_of_getElem? (i := 3) rfl)) (by decide) (by decide)) (g := (mkF m 87 #[.val (.int p0), .val (.long p1), .second, .val (.long p2), .second, .val (.long p3), .second, .val (.long p4), .second, .val (.int (3 : Int32)), .val (.ref bw21), .val (.ref bw22), .val (.double w2_v73), .second, .unset, .unset] [(.long p3), (.int (2 : Int32)), (.ref bw21)])) rfl (by rw [hml]; rfl) (argsL := [(.long p3)]) (rest := [(.int (2 : Int32)), (.ref bw21)]) (lenOf own_pd_28J29I rfl) rfl (by show 2 * 0 + _ ≤ _; exact Nat.le_of_eq rfl) (hb hby at_87) (fun _ _ => ⟨rfl, ew212, (by decide : 2 + 0 ≤ _), (by decide : 6 + 0 ≤ _)⟩)
  dsimp only [Pt.U, Pt.locs, Pt.cells, Pt.slots] at Xw213 lw213 yw213 zw213 stw213 hQw213
  subst lw213 yw213 zw213
  obtain ⟨rfl, Nw213q, ew213⟩ := hQw213
  have Nw213 := Fr.app Nw212 Nw213q
  obtain ⟨Tw214, hw214, Xw214, ew214, Ww214, Vw214, stw214⟩ := own_stD (L := #[.val (.int p0), .val (.long p1), .second, .val (.long p2), .second, .val (.long p3), .second, .val (.long p4), .second, .val (.int (3 : Int32)), .val (.ref bw21), .val (.ref bw22), .val (.double w2_v73), .second, .unset, .unset]) (S := []) Xw213 hx hZ ew213 V_bw21_w211 (j := (2 : Int32)) (x := (FP.i2d (own_imin w2_c87_lo_v1 w2_c87_lo_v6))) (by decide) 2 (by decide) (Nat.le_of_ble_eq_true rfl) (hb hby at_91) (pc' := 92) rfl
  have V_bw22_w214 := V_bw22_w211.other Ww214 ne_bw22_bw21
  have Zw214 : n0 ≤ hw214.size := Nat.le_trans Zw211 (Nat.le_of_eq Ww214.size.symm)
  have KKw214 := KKw211.wr Ww214 (Or.inr sz_bw21)
  have V_bw21_w214 : Arv Z hw214 bw21 kw21 .double (3 : Int32) [(.double (FP.i2d (own_imin w2_c23_lo_v1 w2_c23_lo_v6))), (.double (FP.i2d (own_imin w2_c53_lo_v1 w2_c53_lo_v6))), (.double (FP.i2d (own_imin w2_c87_lo_v1 w2_c87_lo_v6)))] (.double 0) := Vw214
  have Nw214 := Fr.snoc Xw214 Nw213 g_bw21
  obtain ⟨_, _, ⟨Tw215, Lw215, kw215, nw215⟩, -, Xw215, ⟨Lcw215, hQw215, lw215, yw215, zw215⟩, stw215⟩ := Jvm.LawKit.callS Xw214 hx (y := (⟨"com/example/thicket/thicket/core/BoxVolumePinLaw", "hi", "(J)I"⟩ : MethodName)) hown (mvT hZ (hw _ (List.mem_of_getElem? (i := 9) rfl))) (mvT hZ (hw _ (List.mem_of_getElem? (i := 10) rfl))) (mvT hZ (hw _ (List.mem_of_getElem? (i := 3) rfl))) (mvT hZ (hw _ (List.mem_of_getElem? (i := 11) rfl))) (by decide) (backOf (W := 2) (own_rm_hi l Z a0 hw [] p3 hw214 n0 Zw214 w2_c97_hi_hv1 w2_c97_hi_hv5 w2_c97_hi_hv6) hZ (hw _ (List.mem_of_getElem? (i := 11) rfl)) (hw _ (List.mem_of_getElem? (i := 3) rfl)) (by decide) (by decide)) (g := (mkF m 97 #[.val (.int p0), .val (.long p1), .second, .val (.long p2), .second, .val (.long p3), .second, .val (.long p4), .second, .val (.int (3 : Int32)), .val (.ref bw21), .val (.ref bw22), .val (.double w2_v73), .second, .unset, .unset] [(.long p3), (.int (2 : Int32)), (.ref bw22)])) rfl (by rw [hml]; rfl) (argsL := [(.long p3)]) (rest := [(.int (2 : Int32)), (.ref bw22)]) (lenOf own_pd_28J29I rfl) rfl (by show 2 * 0 + _ ≤ _; exact Nat.le_of_eq rfl) (hb hby at_97) (fun _ _ => ⟨rfl, ew214, (by decide : 2 + 0 ≤ _), (by decide : 6 + 0 ≤ _)⟩)
  dsimp only [Pt.U, Pt.locs, Pt.cells, Pt.slots] at Xw215 lw215 yw215 zw215 stw215 hQw215
  subst lw215 yw215 zw215
  obtain ⟨rfl, Nw215q, ew215⟩ := hQw215
  have Nw215 := Fr.app Nw214 Nw215q
  obtain ⟨Tw216, hw216, Xw216, ew216, Ww216, Vw216, stw216⟩ := own_stD (L := #[.val (.int p0), .val (.long p1), .second, .val (.long p2), .second, .val (.long p3), .second, .val (.long p4), .second, .val (.int (3 : Int32)), .val (.ref bw21), .val (.ref bw22), .val (.double w2_v73), .second, .unset, .unset]) (S := []) Xw215 hx hZ ew215 V_bw22_w214 (j := (2 : Int32)) (x := (FP.i2d (own_imax w2_c97_hi_v1 w2_c97_hi_v6))) (by decide) 2 (by decide) (Nat.le_of_ble_eq_true rfl) (hb hby at_101) (pc' := 102) rfl
  have V_bw21_w216 := V_bw21_w214.other Ww216 ne_bw21_bw22
  have Zw216 : n0 ≤ hw216.size := Nat.le_trans Zw214 (Nat.le_of_eq Ww216.size.symm)
  have KKw216 := KKw214.wr Ww216 (Or.inr sz_bw22)
  have V_bw22_w216 : Arv Z hw216 bw22 kw22 .double (3 : Int32) [(.double (FP.i2d (own_imax w2_c32_hi_v1 w2_c32_hi_v6))), (.double (FP.i2d (own_imax w2_c62_hi_v1 w2_c62_hi_v6))), (.double (FP.i2d (own_imax w2_c97_hi_v1 w2_c97_hi_v6)))] (.double 0) := Vw216
  have Nw216 := Fr.snoc Xw216 Nw215 g_bw22
  obtain ⟨_, _, ⟨Tw217, Lw217, kw217, nw217⟩, -, Xw217, ⟨Lcw217, hQw217, lw217, yw217, zw217⟩, stw217⟩ := Jvm.LawKit.callS Xw216 hx (y := (⟨"com/example/thicket/thicket/core/BoxVolumePinLaw", "side", "(J)D"⟩ : MethodName)) hown (mvT hZ (hw _ (List.mem_of_getElem? (i := 15) rfl))) (mvT hZ (hw _ (List.mem_of_getElem? (i := 16) rfl))) (mvT hZ (hw _ (List.mem_of_getElem? (i := 3) rfl))) (mvT hZ (hw _ (List.mem_of_getElem? (i := 17) rfl))) (by decide) (backOf (W := 2) (own_rm_sd l Z a0 hw [] p3 hw216 n0 Zw216 w2_c106_sd_c1_hi_hv1 w2_c106_sd_c1_hi_hv5 w2_c106_sd_c1_hi_hv6 w2_c106_sd_c6_lo_hv1 w2_c106_sd_c6_lo_hv5 w2_c106_sd_c6_lo_hv6 w2_c106_sd_hn10 w2_c106_sd_hv10) hZ (hw _ (List.mem_of_getElem? (i := 17) rfl)) (hw _ (List.mem_of_getElem? (i := 3) rfl)) (by decide) (by decide)) (g := (mkF m 106 #[.val (.int p0), .val (.long p1), .second, .val (.long p2), .second, .val (.long p3), .second, .val (.long p4), .second, .val (.int (3 : Int32)), .val (.ref bw21), .val (.ref bw22), .val (.double w2_v73), .second, .unset, .unset] [(.long p3), (.double w2_v73)])) rfl (by rw [hml]; rfl) (argsL := [(.long p3)]) (rest := [(.double w2_v73)]) (lenOf own_pd_28J29D rfl) rfl (by show 2 * 0 + _ ≤ _; exact Nat.le_of_eq rfl) (hb hby at_106) (fun _ _ => ⟨rfl, ew216, (by decide : 2 + 0 ≤ _), (by decide : 6 + 0 ≤ _)⟩)
  dsimp only [Pt.U, Pt.locs, Pt.cells, Pt.slots] at Xw217 lw217 yw217 zw217 stw217 hQw217
  subst lw217 yw217 zw217
  obtain ⟨rfl, Nw217q, ew217⟩ := hQw217
  have Nw217 := Fr.app Nw216 Nw217q
  obtain ⟨_, _, ⟨Tw218, Lw218, kw218, nw218⟩, -, Xw218, ⟨Lcw218, hQw218, lw218, yw218, zw218⟩, stw218⟩ := Jvm.LawKit.callS Xw217 hx (y := (⟨"com/example/thicket/thicket/core/Box", "volume", "([D[D)D"⟩ : MethodName)) hown (mvT hZ (hw _ (List.mem_of_getElem? (i := 18) rfl))) (mvT hZ (hw _ (List.mem_of_getElem? (i := 19) rfl))) (mvT hZ (hw _ (List.mem_of_getElem? (i := 20) rfl))) (mvT hZ (hw _ (List.mem_of_getElem? (i := 21) rfl))) (by decide) (backOf (W := 0) (own_rm_c2 l Z a0 hw [] bw21 (FP.i2d (own_imin w2_c23_lo_v1 w2_c23_lo_v6)) (FP.i2d (own_imin w2_c53_lo_v1 w2_c53_lo_v6)) (FP.i2d (own_imin w2_c87_lo_v1 w2_c87_lo_v6)) bw22 (FP.i2d (own_imax w2_c32_hi_v1 w2_c32_hi_v6)) (FP.i2d (own_imax w2_c62_hi_v1 w2_c62_hi_v6)) (FP.i2d (own_imax w2_c97_hi_v1 w2_c97_hi_v6)) hw216 n0 Zw216 V_bw21_w216 V_bw22_w216 w2_c152_c2_hn21 w2_c152_c2_hv21 w2_c152_c2_hn22 w2_c152_c2_hv22 w2_c152_c2_hn21_2 w2_c152_c2_hv21_2 w2_c152_c2_hn22_2 w2_c152_c2_hv22_2 w2_c152_c2_hn21_3 w2_c152_c2_hv21_3 w2_c152_c2_hn22_3 w2_c152_c2_hv22_3) hZ (hw _ (List.mem_of_getElem? (i := 21) rfl)) (hw _ (List.mem_of_getElem? (i := 20) rfl)) (by decide) (by decide)) (g := (mkF m 152 #[.val (.int p0), .val (.long p1), .second, .val (.long p2), .second, .val (.long p3), .second, .val (.long p4), .second, .val (.int (3 : Int32)), .val (.ref bw21), .val (.ref bw22), .val (.double w2_v109), .second, .unset, .unset] [(.ref bw22), (.ref bw21)])) rfl (by rw [hml]; rfl) (argsL := [(.ref bw21), (.ref bw22)]) (rest := []) (lenOf own_pd_285bD5bD29D rfl) rfl (by show 2 * 0 + _ ≤ _; exact Nat.le_of_eq rfl) (hb hby at_152) (fun _ _ => ⟨rfl, ew217, (by decide : 2 + 0 ≤ _), (by decide : 6 + 0 ≤ _)⟩)
  dsimp only [Pt.U, Pt.locs, Pt.cells, Pt.slots] at Xw218 lw218 yw218 zw218 stw218 hQw218
  subst lw218 yw218 zw218
  obtain ⟨rfl, Nw218q, ew218⟩ := hQw218
  have Nw218 := Fr.app Nw217 Nw218q
  obtain ⟨fs, hr, hrun, hended, hW, hsame⟩ := Xw218.leave (v := some (.int (1 : Int32))) (fun h => by rw [Bd.returns] at h; cases h)
  refine ⟨_, _, pre0 _ ?_, hrun, hended, _, _, rfl, ?_, ⟨_, rfl⟩, hW, hsame.mono (by decide) (by decide)⟩
  · refine own_s_iconst X0.here hx (hb hby at_0) (pc' := 1) rfl (v := (1 : Int32)) (by decide) ?_
    refine own_s_iloadN X0.here hx (hb hby at_1) (pc' := 2) rfl rfl ?_
    refine own_s_iconst X0.here hx (hb hby at_2) (pc' := 3) rfl (v := (3 : Int32)) (by decide) ?_
    refine own_s_iand X0.here hx (hb hby at_3) (pc' := 4) rfl (v := (2 : Int32)) w2_hv3 ?_
    refine own_s_iadd X0.here hx (hb hby at_4) (pc' := 5) rfl (v := (3 : Int32)) (by decide) ?_
    refine own_s_istore X0.here hx (hb hby at_5) (pc' := 7) rfl (L' := #[.val (.int p0), .val (.long p1), .second, .val (.long p2), .second, .val (.long p3), .second, .val (.long p4), .second, .val (.int (3 : Int32)), .unset, .unset, .unset, .unset, .unset, .unset]) rfl ?_
    refine own_s_iload X0.here hx (hb hby at_7) (pc' := 9) rfl rfl ?_
    refine stw21 _ ?_
    refine own_s_astore Xw21.here hx (hb hby at_11) (pc' := 13) rfl rfl (L' := #[.val (.int p0), .val (.long p1), .second, .val (.long p2), .second, .val (.long p3), .second, .val (.long p4), .second, .val (.int (3 : Int32)), .val (.ref bw21), .unset, .unset, .unset, .unset, .unset]) rfl ?_
    refine own_s_iload Xw21.here hx (hb hby at_13) (pc' := 15) rfl rfl ?_
    refine stw22 _ ?_
    refine own_s_astore Xw22.here hx (hb hby at_17) (pc' := 19) rfl rfl (L' := #[.val (.int p0), .val (.long p1), .second, .val (.long p2), .second, .val (.long p3), .second, .val (.long p4), .second, .val (.int (3 : Int32)), .val (.ref bw21), .val (.ref bw22), .unset, .unset, .unset, .unset]) rfl ?_
    refine own_s_aload Xw22.here hx (hb hby at_19) (pc' := 21) rfl rfl rfl ?_
    refine own_s_iconst Xw22.here hx (hb hby at_21) (pc' := 22) rfl (v := (0 : Int32)) (by decide) ?_
    refine own_s_lloadN Xw22.here hx (hb hby at_22) (pc' := 23) rfl rfl ?_
    refine stw23 _ ?_
    show Steps p.tables e below (Tw23.setTop (mkF m 26 #[.val (.int p0), .val (.long p1), .second, .val (.long p2), .second, .val (.long p3), .second, .val (.long p4), .second, .val (.int (3 : Int32)), .val (.ref bw21), .val (.ref bw22), .unset, .unset, .unset, .unset] [(.int (own_imin w2_c23_lo_v1 w2_c23_lo_v6)), (.int (0 : Int32)), (.ref bw21)])) _
    refine own_s_i2d Xw23.here hx (hb hby at_26) (pc' := 27) rfl (v := (FP.i2d (own_imin w2_c23_lo_v1 w2_c23_lo_v6))) rfl ?_
    refine stw24 _ ?_
    refine own_s_aload Xw24.here hx (hb hby at_28) (pc' := 30) rfl rfl rfl ?_
    refine own_s_iconst Xw24.here hx (hb hby at_30) (pc' := 31) rfl (v := (0 : Int32)) (by decide) ?_
    refine own_s_lloadN Xw24.here hx (hb hby at_31) (pc' := 32) rfl rfl ?_
    refine stw25 _ ?_
    show Steps p.tables e below (Tw25.setTop (mkF m 35 #[.val (.int p0), .val (.long p1), .second, .val (.long p2), .second, .val (.long p3), .second, .val (.long p4), .second, .val (.int (3 : Int32)), .val (.ref bw21), .val (.ref bw22), .unset, .unset, .unset, .unset] [(.int (own_imax w2_c32_hi_v1 w2_c32_hi_v6)), (.int (0 : Int32)), (.ref bw22)])) _
    refine own_s_i2d Xw25.here hx (hb hby at_35) (pc' := 36) rfl (v := (FP.i2d (own_imax w2_c32_hi_v1 w2_c32_hi_v6))) rfl ?_
    refine stw26 _ ?_
    refine own_s_lloadN Xw26.here hx (hb hby at_37) (pc' := 38) rfl rfl ?_
    refine stw27 _ ?_
    show Steps p.tables e below (Tw27.setTop (mkF m 41 #[.val (.int p0), .val (.long p1), .second, .val (.long p2), .second, .val (.long p3), .second, .val (.long p4), .second, .val (.int (3 : Int32)), .val (.ref bw21), .val (.ref bw22), .unset, .unset, .unset, .unset] [(.double w2_c38_sd_v10)])) _
    refine own_s_dstore Xw27.here hx (hb hby at_41) (pc' := 43) rfl (L' := #[.val (.int p0), .val (.long p1), .second, .val (.long p2), .second, .val (.long p3), .second, .val (.long p4), .second, .val (.int (3 : Int32)), .val (.ref bw21), .val (.ref bw22), .val (.double w2_c38_sd_v10), .second, .unset, .unset]) rfl ?_
    refine own_s_iload Xw27.here hx (hb hby at_43) (pc' := 45) rfl rfl ?_
    refine own_s_iconst Xw27.here hx (hb hby at_45) (pc' := 46) rfl (v := (1 : Int32)) (by decide) ?_
    refine own_s_icmpNo Xw27.here hx (hb hby at_46) (pc' := 49) rfl (by decide) ?_
    refine own_s_aload Xw27.here hx (hb hby at_49) (pc' := 51) rfl rfl rfl ?_
    refine own_s_iconst Xw27.here hx (hb hby at_51) (pc' := 52) rfl (v := (1 : Int32)) (by decide) ?_
    refine own_s_lloadN Xw27.here hx (hb hby at_52) (pc' := 53) rfl rfl ?_
    refine stw28 _ ?_
    show Steps p.tables e below (Tw28.setTop (mkF m 56 #[.val (.int p0), .val (.long p1), .second, .val (.long p2), .second, .val (.long p3), .second, .val (.long p4), .second, .val (.int (3 : Int32)), .val (.ref bw21), .val (.ref bw22), .val (.double w2_c38_sd_v10), .second, .unset, .unset] [(.int (own_imin w2_c53_lo_v1 w2_c53_lo_v6)), (.int (1 : Int32)), (.ref bw21)])) _
    refine own_s_i2d Xw28.here hx (hb hby at_56) (pc' := 57) rfl (v := (FP.i2d (own_imin w2_c53_lo_v1 w2_c53_lo_v6))) rfl ?_
    refine stw29 _ ?_
    refine own_s_aload Xw29.here hx (hb hby at_58) (pc' := 60) rfl rfl rfl ?_
    refine own_s_iconst Xw29.here hx (hb hby at_60) (pc' := 61) rfl (v := (1 : Int32)) (by decide) ?_
    refine own_s_lloadN Xw29.here hx (hb hby at_61) (pc' := 62) rfl rfl ?_
    refine stw210 _ ?_
    show Steps p.tables e below (Tw210.setTop (mkF m 65 #[.val (.int p0), .val (.long p1), .second, .val (.long p2), .second, .val (.long p3), .second, .val (.long p4), .second, .val (.int (3 : Int32)), .val (.ref bw21), .val (.ref bw22), .val (.double w2_c38_sd_v10), .second, .unset, .unset] [(.int (own_imax w2_c62_hi_v1 w2_c62_hi_v6)), (.int (1 : Int32)), (.ref bw22)])) _
    refine own_s_i2d Xw210.here hx (hb hby at_65) (pc' := 66) rfl (v := (FP.i2d (own_imax w2_c62_hi_v1 w2_c62_hi_v6))) rfl ?_
    refine stw211 _ ?_
    refine own_s_dload Xw211.here hx (hb hby at_67) (pc' := 69) rfl rfl ?_
    refine own_s_lloadN Xw211.here hx (hb hby at_69) (pc' := 70) rfl rfl ?_
    refine stw212 _ ?_
    show Steps p.tables e below (Tw212.setTop (mkF m 73 #[.val (.int p0), .val (.long p1), .second, .val (.long p2), .second, .val (.long p3), .second, .val (.long p4), .second, .val (.int (3 : Int32)), .val (.ref bw21), .val (.ref bw22), .val (.double w2_c38_sd_v10), .second, .unset, .unset] [(.double w2_c70_sd_v10), (.double w2_c38_sd_v10)])) _
    refine own_s_dmul Xw212.here hx (hb hby at_73) (pc' := 74) rfl w2_hn73 (v := w2_v73) w2_hv73 ?_
    refine own_s_dstore Xw212.here hx (hb hby at_74) (pc' := 76) rfl (L' := #[.val (.int p0), .val (.long p1), .second, .val (.long p2), .second, .val (.long p3), .second, .val (.long p4), .second, .val (.int (3 : Int32)), .val (.ref bw21), .val (.ref bw22), .val (.double w2_v73), .second, .unset, .unset]) rfl ?_
    refine own_s_iload Xw212.here hx (hb hby at_76) (pc' := 78) rfl rfl ?_
    refine own_s_iconst Xw212.here hx (hb hby at_78) (pc' := 79) rfl (v := (2 : Int32)) (by decide) ?_
    refine own_s_icmpNo Xw212.here hx (hb hby at_79) (pc' := 82) rfl (by decide) ?_
    refine own_s_aload Xw212.here hx (hb hby at_82) (pc' := 84) rfl rfl rfl ?_
    refine own_s_iconst Xw212.here hx (hb hby at_84) (pc' := 85) rfl (v := (2 : Int32)) (by decide) ?_
    refine own_s_lload Xw212.here hx (hb hby at_85) (pc' := 87) rfl rfl ?_
    refine stw213 _ ?_
    show Steps p.tables e below (Tw213.setTop (mkF m 90 #[.val (.int p0), .val (.long p1), .second, .val (.long p2), .second, .val (.long p3), .second, .val (.long p4), .second, .val (.int (3 : Int32)), .val (.ref bw21), .val (.ref bw22), .val (.double w2_v73), .second, .unset, .unset] [(.int (own_imin w2_c87_lo_v1 w2_c87_lo_v6)), (.int (2 : Int32)), (.ref bw21)])) _
    refine own_s_i2d Xw213.here hx (hb hby at_90) (pc' := 91) rfl (v := (FP.i2d (own_imin w2_c87_lo_v1 w2_c87_lo_v6))) rfl ?_
    refine stw214 _ ?_
    refine own_s_aload Xw214.here hx (hb hby at_92) (pc' := 94) rfl rfl rfl ?_
    refine own_s_iconst Xw214.here hx (hb hby at_94) (pc' := 95) rfl (v := (2 : Int32)) (by decide) ?_
    refine own_s_lload Xw214.here hx (hb hby at_95) (pc' := 97) rfl rfl ?_
    refine stw215 _ ?_
    show Steps p.tables e below (Tw215.setTop (mkF m 100 #[.val (.int p0), .val (.long p1), .second, .val (.long p2), .second, .val (.long p3), .second, .val (.long p4), .second, .val (.int (3 : Int32)), .val (.ref bw21), .val (.ref bw22), .val (.double w2_v73), .second, .unset, .unset] [(.int (own_imax w2_c97_hi_v1 w2_c97_hi_v6)), (.int (2 : Int32)), (.ref bw22)])) _
    refine own_s_i2d Xw215.here hx (hb hby at_100) (pc' := 101) rfl (v := (FP.i2d (own_imax w2_c97_hi_v1 w2_c97_hi_v6))) rfl ?_
    refine stw216 _ ?_
    refine own_s_dload Xw216.here hx (hb hby at_102) (pc' := 104) rfl rfl ?_
    refine own_s_lload Xw216.here hx (hb hby at_104) (pc' := 106) rfl rfl ?_
    refine stw217 _ ?_
    show Steps p.tables e below (Tw217.setTop (mkF m 109 #[.val (.int p0), .val (.long p1), .second, .val (.long p2), .second, .val (.long p3), .second, .val (.long p4), .second, .val (.int (3 : Int32)), .val (.ref bw21), .val (.ref bw22), .val (.double w2_v73), .second, .unset, .unset] [(.double w2_c106_sd_v10), (.double w2_v73)])) _
    refine own_s_dmul Xw217.here hx (hb hby at_109) (pc' := 110) rfl w2_hn109 (v := w2_v109) w2_hv109 ?_
    refine own_s_dstore Xw217.here hx (hb hby at_110) (pc' := 112) rfl (L' := #[.val (.int p0), .val (.long p1), .second, .val (.long p2), .second, .val (.long p3), .second, .val (.long p4), .second, .val (.int (3 : Int32)), .val (.ref bw21), .val (.ref bw22), .val (.double w2_v109), .second, .unset, .unset]) rfl ?_
    refine own_s_iload Xw217.here hx (hb hby at_112) (pc' := 114) rfl rfl ?_
    refine own_s_iconst Xw217.here hx (hb hby at_114) (pc' := 115) rfl (v := (3 : Int32)) (by decide) ?_
    refine own_s_icmpYes Xw217.here hx (hb hby at_115) (by decide) (pc' := 148) (by decide) (by decide) ?_
    refine own_s_aload Xw217.here hx (hb hby at_148) (pc' := 150) rfl rfl rfl ?_
    refine own_s_aload Xw217.here hx (hb hby at_150) (pc' := 152) rfl rfl rfl ?_
    refine stw218 _ ?_
    show Steps p.tables e below (Tw218.setTop (mkF m 155 #[.val (.int p0), .val (.long p1), .second, .val (.long p2), .second, .val (.long p3), .second, .val (.long p4), .second, .val (.int (3 : Int32)), .val (.ref bw21), .val (.ref bw22), .val (.double w2_v109), .second, .unset, .unset] [(.double w2_c152_c2_v22_3)])) _
    refine own_s_dstore Xw218.here hx (hb hby at_155) (pc' := 157) rfl (L' := #[.val (.int p0), .val (.long p1), .second, .val (.long p2), .second, .val (.long p3), .second, .val (.long p4), .second, .val (.int (3 : Int32)), .val (.ref bw21), .val (.ref bw22), .val (.double w2_v109), .second, .val (.double w2_c152_c2_v22_3), .second]) rfl ?_
    refine own_s_dload Xw218.here hx (hb hby at_157) (pc' := 159) rfl rfl ?_
    refine own_s_dload Xw218.here hx (hb hby at_159) (pc' := 161) rfl rfl ?_
    refine own_s_dcmp Xw218.here hx (hb hby at_161) (pc' := 162) rfl (v := (0 : Int32)) w2_hc161 ?_
    refine own_s_ifNo Xw218.here hx (hb hby at_162) (pc' := 165) rfl (by decide) ?_
    refine own_s_iconst Xw218.here hx (hb hby at_165) (pc' := 166) rfl (v := (1 : Int32)) (by decide) ?_
    refine own_s_goto Xw218.here hx (hb hby at_166) (by decide) (pc' := 170) (by decide) ?_
    exact retN Xw218 hx (t := .boolean) Bd.returns (by simp) (hb hby at_170) hr
  · show own_Q0 n0 _ Tw218.heap _
    rw [ew218]
    exact ⟨rfl, Nw218⟩
theorem own_ef_c3 (m : MethodId) (qa : Addr) (qb : Addr) : entryFrame m #[(.ref qa), (.ref qb)] 5 = mkF m 0 #[.val (.ref qa), .val (.ref qb), .unset, .unset, .unset] [] := by first | (simp [entryFrame, mkF, argsToLocals, Value.category]; done) | rfl
set_option maxRecDepth 65536 in
set_option maxHeartbeats 40000000 in
theorem own_rm_c3 (l : Launch) (Z : State) (a0 : Array Value) (hw : ∀ d ∈ tables_1, d.before a0 Z = true) (ws : List Jvm.Cond) (qa : Addr) (d0 : UInt64) (d1 : UInt64) (d2 : UInt64) (d3 : UInt64) (qb : Addr) (ee0 : UInt64) (ee1 : UInt64) (ee2 : UInt64) (ee3 : UInt64) {qak : ClassId} {qbk : ClassId} {c3_v21 : UInt64} {c3_v22 : UInt64} {c3_v21_2 : UInt64} {c3_v22_2 : UInt64} {c3_v21_3 : UInt64} {c3_v22_3 : UInt64} {c3_v21_4 : UInt64} {c3_v22_4 : UInt64} (h0 : Heap) (n0 : Nat) (Z0 : n0 ≤ h0.size) (V_qa : Arv Z h0 qa qak .double (4 : Int32) [(.double d0), (.double d1), (.double d2), (.double d3)] (.double 0)) (V_qb : Arv Z h0 qb qbk .double (4 : Int32) [(.double ee0), (.double ee1), (.double ee2), (.double ee3)] (.double 0)) (c3_hn21 : Jvm.Free.Fl.NoNaN64 (FP.dsub ee0 d0)) (c3_hv21 : FP.dsub ee0 d0 = c3_v21) (c3_hn22 : Jvm.Free.Fl.NoNaN64 (FP.dmul 4607182418800017408 c3_v21)) (c3_hv22 : FP.dmul 4607182418800017408 c3_v21 = c3_v22) (c3_hn21_2 : Jvm.Free.Fl.NoNaN64 (FP.dsub ee1 d1)) (c3_hv21_2 : FP.dsub ee1 d1 = c3_v21_2) (c3_hn22_2 : Jvm.Free.Fl.NoNaN64 (FP.dmul c3_v22 c3_v21_2)) (c3_hv22_2 : FP.dmul c3_v22 c3_v21_2 = c3_v22_2) (c3_hn21_3 : Jvm.Free.Fl.NoNaN64 (FP.dsub ee2 d2)) (c3_hv21_3 : FP.dsub ee2 d2 = c3_v21_3) (c3_hn22_3 : Jvm.Free.Fl.NoNaN64 (FP.dmul c3_v22_2 c3_v21_3)) (c3_hv22_3 : FP.dmul c3_v22_2 c3_v21_3 = c3_v22_3) (c3_hn21_4 : Jvm.Free.Fl.NoNaN64 (FP.dsub ee3 d3)) (c3_hv21_4 : FP.dsub ee3 d3 = c3_v21_4) (c3_hn22_4 : Jvm.Free.Fl.NoNaN64 (FP.dmul c3_v22_3 c3_v21_4)) (c3_hv22_4 : FP.dmul c3_v22_3 c3_v21_4 = c3_v22_4) :
    MetFree l (⟨"com/example/thicket/thicket/core/Box", "volume", "([D[D)D"⟩ : MethodName) (head1 (Jvm.Cond.code (⟨"com/example/thicket/thicket/core/Box", "volume", "([D[D)D"⟩ : MethodName) prog_2_method_8_code 5 (some .double) :: ws) ({ frames := 0, cells := 0, slots := 0, locals := 0 } : Room)) (fun a U => a = #[(.ref qa), (.ref qb)] ∧ Z.Warmed39 U.vm ∧ U.heap = h0) (fun _ _ _ _ _ => True) (fun _ U o U' => ∃ v L, o = .returned v ∧ own_QP (some (.double c3_v22_4)) h0 n0 v U'.heap L ∧ FrameEnd U o U' L ({ frames := 0, cells := 0, slots := 0, locals := 0 } : Room).cells ({ frames := 0, cells := 0, slots := 0, locals := 0 } : Room).slots) := by
  refine MetFree.of_bodySF (plainFor_of_name own_pn_com_example_thicket_thicket_core_Box) hisR ?_
  intro p e s m args below meth c s₁ Bd hml0 hP hK
  obtain ⟨rfl, hZ, hh⟩ := hP
  have hx := Bd.exec
  have hby := Bd.bytes
  have hml : c.maxLocals = 5 := hml0
  have hown : s.vm.findClass "com/example/thicket/thicket/core/Box" = some m.cls := findClass_of_methodNamed Bd.named
  have hnm := (name_of_methodNamed Bd.named Bd.method).1
  have X0 : Stand p l e ({ frames := 0, cells := 0, slots := 0, locals := 0 } : Room) s m #[(.ref qa), (.ref qb)] below meth c s₁ [] 0 0 := Stand.of_body Bd
  have e0 : s₁.heap = h0 := by rw [← hh, Bd.state]; rfl
  have N0 := Fr.nil n0
  have pre0 : ∀ t, Steps p.tables e below (s₁.setTop (mkF m 0 #[.val (.ref qa), .val (.ref qb), .unset, .unset, .unset] [])) t → Steps p.tables e below (s₁.setTop (entryFrame m #[(.ref qa), (.ref qb)] 5)) t := fun t k => castTop (own_ef_c3 m qa qb) k
  obtain ⟨fs, hr, hrun, hended, hW, hsame⟩ := X0.leave (v := some (.double c3_v22_4)) (fun h => by rw [Bd.returns] at h; cases h)
  refine ⟨_, _, pre0 _ ?_, hrun, hended, _, _, rfl, ?_, ⟨_, rfl⟩, hW, hsame.mono (by decide) (by decide)⟩
  · refine own_s_dconst1 X0.here hx (hb hby own_d6_0) (pc' := 1) rfl  ?_
    refine own_s_dstoreN X0.here hx (hb hby own_d6_1) (pc' := 2) rfl (L' := #[.val (.ref qa), .val (.ref qb), .val (.double 4607182418800017408), .second, .unset]) rfl ?_
    refine own_s_iconst X0.here hx (hb hby own_d6_2) (pc' := 3) rfl (v := (0 : Int32)) (by decide) ?_
    refine own_s_istore X0.here hx (hb hby own_d6_3) (pc' := 5) rfl (L' := #[.val (.ref qa), .val (.ref qb), .val (.double 4607182418800017408), .second, .val (.int (0 : Int32))]) rfl ?_
    refine own_s_iload X0.here hx (hb hby own_d6_5) (pc' := 7) rfl rfl ?_
    refine own_s_aloadN X0.here hx (hb hby own_d6_7) (pc' := 8) rfl rfl rfl ?_
    refine own_len X0 hx hZ e0 V_qa (hb hby own_d6_8) (pc' := 9) rfl ?_
    refine own_s_icmpNo X0.here hx (hb hby own_d6_9) (pc' := 12) rfl (by decide) ?_
    refine own_s_dloadN X0.here hx (hb hby own_d6_12) (pc' := 13) rfl rfl ?_
    refine own_s_aloadN X0.here hx (hb hby own_d6_13) (pc' := 14) rfl rfl rfl ?_
    refine own_s_iload X0.here hx (hb hby own_d6_14) (pc' := 16) rfl rfl ?_
    refine own_ldD X0 hx hZ e0 V_qb (j := (0 : Int32)) (x := ee0) (by decide) rfl (hb hby own_d6_16) (pc' := 17) rfl ?_
    refine own_s_aloadN X0.here hx (hb hby own_d6_17) (pc' := 18) rfl rfl rfl ?_
    refine own_s_iload X0.here hx (hb hby own_d6_18) (pc' := 20) rfl rfl ?_
    refine own_ldD X0 hx hZ e0 V_qa (j := (0 : Int32)) (x := d0) (by decide) rfl (hb hby own_d6_20) (pc' := 21) rfl ?_
    refine own_s_dsub X0.here hx (hb hby own_d6_21) (pc' := 22) rfl c3_hn21 (v := c3_v21) c3_hv21 ?_
    refine own_s_dmul X0.here hx (hb hby own_d6_22) (pc' := 23) rfl c3_hn22 (v := c3_v22) c3_hv22 ?_
    refine own_s_dstoreN X0.here hx (hb hby own_d6_23) (pc' := 24) rfl (L' := #[.val (.ref qa), .val (.ref qb), .val (.double c3_v22), .second, .val (.int (0 : Int32))]) rfl ?_
    refine own_s_iinc X0.here hx (hb hby own_d6_24) (pc' := 27) rfl rfl (v := (1 : Int32)) (by decide) (L' := #[.val (.ref qa), .val (.ref qb), .val (.double c3_v22), .second, .val (.int (1 : Int32))]) rfl ?_
    refine own_s_goto X0.here hx (hb hby own_d6_27) (by decide) (pc' := 5) (by decide) ?_
    refine own_s_iload X0.here hx (hb hby own_d6_5) (pc' := 7) rfl rfl ?_
    refine own_s_aloadN X0.here hx (hb hby own_d6_7) (pc' := 8) rfl rfl rfl ?_
    refine own_len X0 hx hZ e0 V_qa (hb hby own_d6_8) (pc' := 9) rfl ?_
    refine own_s_icmpNo X0.here hx (hb hby own_d6_9) (pc' := 12) rfl (by decide) ?_
    refine own_s_dloadN X0.here hx (hb hby own_d6_12) (pc' := 13) rfl rfl ?_
    refine own_s_aloadN X0.here hx (hb hby own_d6_13) (pc' := 14) rfl rfl rfl ?_
    refine own_s_iload X0.here hx (hb hby own_d6_14) (pc' := 16) rfl rfl ?_
    refine own_ldD X0 hx hZ e0 V_qb (j := (1 : Int32)) (x := ee1) (by decide) rfl (hb hby own_d6_16) (pc' := 17) rfl ?_
    refine own_s_aloadN X0.here hx (hb hby own_d6_17) (pc' := 18) rfl rfl rfl ?_
    refine own_s_iload X0.here hx (hb hby own_d6_18) (pc' := 20) rfl rfl ?_
    refine own_ldD X0 hx hZ e0 V_qa (j := (1 : Int32)) (x := d1) (by decide) rfl (hb hby own_d6_20) (pc' := 21) rfl ?_
    refine own_s_dsub X0.here hx (hb hby own_d6_21) (pc' := 22) rfl c3_hn21_2 (v := c3_v21_2) c3_hv21_2 ?_
    refine own_s_dmul X0.here hx (hb hby own_d6_22) (pc' := 23) rfl c3_hn22_2 (v := c3_v22_2) c3_hv22_2 ?_
    refine own_s_dstoreN X0.here hx (hb hby own_d6_23) (pc' := 24) rfl (L' := #[.val (.ref qa), .val (.ref qb), .val (.double c3_v22_2), .second, .val (.int (1 : Int32))]) rfl ?_
    refine own_s_iinc X0.here hx (hb hby own_d6_24) (pc' := 27) rfl rfl (v := (2 : Int32)) (by decide) (L' := #[.val (.ref qa), .val (.ref qb), .val (.double c3_v22_2), .second, .val (.int (2 : Int32))]) rfl ?_
    refine own_s_goto X0.here hx (hb hby own_d6_27) (by decide) (pc' := 5) (by decide) ?_
    refine own_s_iload X0.here hx (hb hby own_d6_5) (pc' := 7) rfl rfl ?_
    refine own_s_aloadN X0.here hx (hb hby own_d6_7) (pc' := 8) rfl rfl rfl ?_
    refine own_len X0 hx hZ e0 V_qa (hb hby own_d6_8) (pc' := 9) rfl ?_
    refine own_s_icmpNo X0.here hx (hb hby own_d6_9) (pc' := 12) rfl (by decide) ?_
    refine own_s_dloadN X0.here hx (hb hby own_d6_12) (pc' := 13) rfl rfl ?_
    refine own_s_aloadN X0.here hx (hb hby own_d6_13) (pc' := 14) rfl rfl rfl ?_
    refine own_s_iload X0.here hx (hb hby own_d6_14) (pc' := 16) rfl rfl ?_
    refine own_ldD X0 hx hZ e0 V_qb (j := (2 : Int32)) (x := ee2) (by decide) rfl (hb hby own_d6_16) (pc' := 17) rfl ?_
    refine own_s_aloadN X0.here hx (hb hby own_d6_17) (pc' := 18) rfl rfl rfl ?_
    refine own_s_iload X0.here hx (hb hby own_d6_18) (pc' := 20) rfl rfl ?_
    refine own_ldD X0 hx hZ e0 V_qa (j := (2 : Int32)) (x := d2) (by decide) rfl (hb hby own_d6_20) (pc' := 21) rfl ?_
    refine own_s_dsub X0.here hx (hb hby own_d6_21) (pc' := 22) rfl c3_hn21_3 (v := c3_v21_3) c3_hv21_3 ?_
    refine own_s_dmul X0.here hx (hb hby own_d6_22) (pc' := 23) rfl c3_hn22_3 (v := c3_v22_3) c3_hv22_3 ?_
    refine own_s_dstoreN X0.here hx (hb hby own_d6_23) (pc' := 24) rfl (L' := #[.val (.ref qa), .val (.ref qb), .val (.double c3_v22_3), .second, .val (.int (2 : Int32))]) rfl ?_
    refine own_s_iinc X0.here hx (hb hby own_d6_24) (pc' := 27) rfl rfl (v := (3 : Int32)) (by decide) (L' := #[.val (.ref qa), .val (.ref qb), .val (.double c3_v22_3), .second, .val (.int (3 : Int32))]) rfl ?_
    refine own_s_goto X0.here hx (hb hby own_d6_27) (by decide) (pc' := 5) (by decide) ?_
    refine own_s_iload X0.here hx (hb hby own_d6_5) (pc' := 7) rfl rfl ?_
    refine own_s_aloadN X0.here hx (hb hby own_d6_7) (pc' := 8) rfl rfl rfl ?_
    refine own_len X0 hx hZ e0 V_qa (hb hby own_d6_8) (pc' := 9) rfl ?_
    refine own_s_icmpNo X0.here hx (hb hby own_d6_9) (pc' := 12) rfl (by decide) ?_
    refine own_s_dloadN X0.here hx (hb hby own_d6_12) (pc' := 13) rfl rfl ?_
    refine own_s_aloadN X0.here hx (hb hby own_d6_13) (pc' := 14) rfl rfl rfl ?_
    refine own_s_iload X0.here hx (hb hby own_d6_14) (pc' := 16) rfl rfl ?_
    refine own_ldD X0 hx hZ e0 V_qb (j := (3 : Int32)) (x := ee3) (by decide) rfl (hb hby own_d6_16) (pc' := 17) rfl ?_
    refine own_s_aloadN X0.here hx (hb hby own_d6_17) (pc' := 18) rfl rfl rfl ?_
    refine own_s_iload X0.here hx (hb hby own_d6_18) (pc' := 20) rfl rfl ?_
    refine own_ldD X0 hx hZ e0 V_qa (j := (3 : Int32)) (x := d3) (by decide) rfl (hb hby own_d6_20) (pc' := 21) rfl ?_
    refine own_s_dsub X0.here hx (hb hby own_d6_21) (pc' := 22) rfl c3_hn21_4 (v := c3_v21_4) c3_hv21_4 ?_
    refine own_s_dmul X0.here hx (hb hby own_d6_22) (pc' := 23) rfl c3_hn22_4 (v := c3_v22_4) c3_hv22_4 ?_
    refine own_s_dstoreN X0.here hx (hb hby own_d6_23) (pc' := 24) rfl (L' := #[.val (.ref qa), .val (.ref qb), .val (.double c3_v22_4), .second, .val (.int (3 : Int32))]) rfl ?_
    refine own_s_iinc X0.here hx (hb hby own_d6_24) (pc' := 27) rfl rfl (v := (4 : Int32)) (by decide) (L' := #[.val (.ref qa), .val (.ref qb), .val (.double c3_v22_4), .second, .val (.int (4 : Int32))]) rfl ?_
    refine own_s_goto X0.here hx (hb hby own_d6_27) (by decide) (pc' := 5) (by decide) ?_
    refine own_s_iload X0.here hx (hb hby own_d6_5) (pc' := 7) rfl rfl ?_
    refine own_s_aloadN X0.here hx (hb hby own_d6_7) (pc' := 8) rfl rfl rfl ?_
    refine own_len X0 hx hZ e0 V_qa (hb hby own_d6_8) (pc' := 9) rfl ?_
    refine own_s_icmpYes X0.here hx (hb hby own_d6_9) (by decide) (pc' := 30) (by decide) (by decide) ?_
    refine own_s_dloadN X0.here hx (hb hby own_d6_30) (pc' := 31) rfl rfl ?_
    exact own_retD X0 hx Bd.returns (hb hby own_d6_31) hr
  · show own_QP (some (.double c3_v22_4)) h0 n0 _ s₁.heap _
    rw [e0]
    exact ⟨rfl, N0, rfl⟩
theorem own_ef_w3 (m : MethodId) (p0 : Int32) (p1 : Int64) (p2 : Int64) (p3 : Int64) (p4 : Int64) : entryFrame m #[(.int p0), (.long p1), (.long p2), (.long p3), (.long p4)] maxLocals = mkF m 0 #[.val (.int p0), .val (.long p1), .second, .val (.long p2), .second, .val (.long p3), .second, .val (.long p4), .second, .unset, .unset, .unset, .unset, .unset, .unset, .unset] [] := by first | (simp [entryFrame, mkF, argsToLocals, Value.category, maxLocals]; done) | rfl
set_option maxRecDepth 65536 in
set_option maxHeartbeats 40000000 in
theorem own_rm_w3 (l : Launch) (Z : State) (a0 : Array Value) (hw : ∀ d ∈ tables_1, d.before a0 Z = true) (ws : List Jvm.Cond) (p0 : Int32) (p1 : Int64) (p2 : Int64) (p3 : Int64) (p4 : Int64) {w3_c23_lo_v1 : Int32} {w3_c23_lo_v5 : Int64} {w3_c23_lo_v6 : Int32} {w3_c32_hi_v1 : Int32} {w3_c32_hi_v5 : Int64} {w3_c32_hi_v6 : Int32} {w3_c38_sd_c1_hi_v1 : Int32} {w3_c38_sd_c1_hi_v5 : Int64} {w3_c38_sd_c1_hi_v6 : Int32} {w3_c38_sd_c6_lo_v1 : Int32} {w3_c38_sd_c6_lo_v5 : Int64} {w3_c38_sd_c6_lo_v6 : Int32} {w3_c38_sd_v10 : UInt64} {w3_c53_lo_v1 : Int32} {w3_c53_lo_v5 : Int64} {w3_c53_lo_v6 : Int32} {w3_c62_hi_v1 : Int32} {w3_c62_hi_v5 : Int64} {w3_c62_hi_v6 : Int32} {w3_c70_sd_c1_hi_v1 : Int32} {w3_c70_sd_c1_hi_v5 : Int64} {w3_c70_sd_c1_hi_v6 : Int32} {w3_c70_sd_c6_lo_v1 : Int32} {w3_c70_sd_c6_lo_v5 : Int64} {w3_c70_sd_c6_lo_v6 : Int32} {w3_c70_sd_v10 : UInt64} {w3_v73 : UInt64} {w3_c87_lo_v1 : Int32} {w3_c87_lo_v5 : Int64} {w3_c87_lo_v6 : Int32} {w3_c97_hi_v1 : Int32} {w3_c97_hi_v5 : Int64} {w3_c97_hi_v6 : Int32} {w3_c106_sd_c1_hi_v1 : Int32} {w3_c106_sd_c1_hi_v5 : Int64} {w3_c106_sd_c1_hi_v6 : Int32} {w3_c106_sd_c6_lo_v1 : Int32} {w3_c106_sd_c6_lo_v5 : Int64} {w3_c106_sd_c6_lo_v6 : Int32} {w3_c106_sd_v10 : UInt64} {w3_v109 : UInt64} {w3_c123_lo_v1 : Int32} {w3_c123_lo_v5 : Int64} {w3_c123_lo_v6 : Int32} {w3_c133_hi_v1 : Int32} {w3_c133_hi_v5 : Int64} {w3_c133_hi_v6 : Int32} {w3_c142_sd_c1_hi_v1 : Int32} {w3_c142_sd_c1_hi_v5 : Int64} {w3_c142_sd_c1_hi_v6 : Int32} {w3_c142_sd_c6_lo_v1 : Int32} {w3_c142_sd_c6_lo_v5 : Int64} {w3_c142_sd_c6_lo_v6 : Int32} {w3_c142_sd_v10 : UInt64} {w3_v145 : UInt64} {w3_c152_c3_v21 : UInt64} {w3_c152_c3_v22 : UInt64} {w3_c152_c3_v21_2 : UInt64} {w3_c152_c3_v22_2 : UInt64} {w3_c152_c3_v21_3 : UInt64} {w3_c152_c3_v22_3 : UInt64} {w3_c152_c3_v21_4 : UInt64} {w3_c152_c3_v22_4 : UInt64} (h0 : Heap) (n0 : Nat) (Z0 : n0 ≤ h0.size)  (w3_hv3 : p0 &&& (3 : Int32) = (3 : Int32)) (w3_c23_lo_hv1 : Int64.toInt32 p1 = w3_c23_lo_v1) (w3_c23_lo_hv5 : (Int64.toUInt64 p1 >>> ((32 : Int32) &&& 63).toInt64.toUInt64).toInt64 = w3_c23_lo_v5) (w3_c23_lo_hv6 : Int64.toInt32 w3_c23_lo_v5 = w3_c23_lo_v6) (w3_c32_hi_hv1 : Int64.toInt32 p1 = w3_c32_hi_v1) (w3_c32_hi_hv5 : (Int64.toUInt64 p1 >>> ((32 : Int32) &&& 63).toInt64.toUInt64).toInt64 = w3_c32_hi_v5) (w3_c32_hi_hv6 : Int64.toInt32 w3_c32_hi_v5 = w3_c32_hi_v6) (w3_c38_sd_c1_hi_hv1 : Int64.toInt32 p1 = w3_c38_sd_c1_hi_v1) (w3_c38_sd_c1_hi_hv5 : (Int64.toUInt64 p1 >>> ((32 : Int32) &&& 63).toInt64.toUInt64).toInt64 = w3_c38_sd_c1_hi_v5) (w3_c38_sd_c1_hi_hv6 : Int64.toInt32 w3_c38_sd_c1_hi_v5 = w3_c38_sd_c1_hi_v6) (w3_c38_sd_c6_lo_hv1 : Int64.toInt32 p1 = w3_c38_sd_c6_lo_v1) (w3_c38_sd_c6_lo_hv5 : (Int64.toUInt64 p1 >>> ((32 : Int32) &&& 63).toInt64.toUInt64).toInt64 = w3_c38_sd_c6_lo_v5) (w3_c38_sd_c6_lo_hv6 : Int64.toInt32 w3_c38_sd_c6_lo_v5 = w3_c38_sd_c6_lo_v6) (w3_c38_sd_hn10 : Jvm.Free.Fl.NoNaN64 (FP.dsub (FP.i2d (own_imax w3_c38_sd_c1_hi_v1 w3_c38_sd_c1_hi_v6)) (FP.i2d (own_imin w3_c38_sd_c6_lo_v1 w3_c38_sd_c6_lo_v6)))) (w3_c38_sd_hv10 : FP.dsub (FP.i2d (own_imax w3_c38_sd_c1_hi_v1 w3_c38_sd_c1_hi_v6)) (FP.i2d (own_imin w3_c38_sd_c6_lo_v1 w3_c38_sd_c6_lo_v6)) = w3_c38_sd_v10) (w3_c53_lo_hv1 : Int64.toInt32 p2 = w3_c53_lo_v1) (w3_c53_lo_hv5 : (Int64.toUInt64 p2 >>> ((32 : Int32) &&& 63).toInt64.toUInt64).toInt64 = w3_c53_lo_v5) (w3_c53_lo_hv6 : Int64.toInt32 w3_c53_lo_v5 = w3_c53_lo_v6) (w3_c62_hi_hv1 : Int64.toInt32 p2 = w3_c62_hi_v1) (w3_c62_hi_hv5 : (Int64.toUInt64 p2 >>> ((32 : Int32) &&& 63).toInt64.toUInt64).toInt64 = w3_c62_hi_v5) (w3_c62_hi_hv6 : Int64.toInt32 w3_c62_hi_v5 = w3_c62_hi_v6) (w3_c70_sd_c1_hi_hv1 : Int64.toInt32 p2 = w3_c70_sd_c1_hi_v1) (w3_c70_sd_c1_hi_hv5 : (Int64.toUInt64 p2 >>> ((32 : Int32) &&& 63).toInt64.toUInt64).toInt64 = w3_c70_sd_c1_hi_v5) (w3_c70_sd_c1_hi_hv6 : Int64.toInt32 w3_c70_sd_c1_hi_v5 = w3_c70_sd_c1_hi_v6) (w3_c70_sd_c6_lo_hv1 : Int64.toInt32 p2 = w3_c70_sd_c6_lo_v1) (w3_c70_sd_c6_lo_hv5 : (Int64.toUInt64 p2 >>> ((32 : Int32) &&& 63).toInt64.toUInt64).toInt64 = w3_c70_sd_c6_lo_v5) (w3_c70_sd_c6_lo_hv6 : Int64.toInt32 w3_c70_sd_c6_lo_v5 = w3_c70_sd_c6_lo_v6) (w3_c70_sd_hn10 : Jvm.Free.Fl.NoNaN64 (FP.dsub (FP.i2d (own_imax w3_c70_sd_c1_hi_v1 w3_c70_sd_c1_hi_v6)) (FP.i2d (own_imin w3_c70_sd_c6_lo_v1 w3_c70_sd_c6_lo_v6)))) (w3_c70_sd_hv10 : FP.dsub (FP.i2d (own_imax w3_c70_sd_c1_hi_v1 w3_c70_sd_c1_hi_v6)) (FP.i2d (own_imin w3_c70_sd_c6_lo_v1 w3_c70_sd_c6_lo_v6)) = w3_c70_sd_v10) (w3_hn73 : Jvm.Free.Fl.NoNaN64 (FP.dmul w3_c38_sd_v10 w3_c70_sd_v10)) (w3_hv73 : FP.dmul w3_c38_sd_v10 w3_c70_sd_v10 = w3_v73) (w3_c87_lo_hv1 : Int64.toInt32 p3 = w3_c87_lo_v1) (w3_c87_lo_hv5 : (Int64.toUInt64 p3 >>> ((32 : Int32) &&& 63).toInt64.toUInt64).toInt64 = w3_c87_lo_v5) (w3_c87_lo_hv6 : Int64.toInt32 w3_c87_lo_v5 = w3_c87_lo_v6) (w3_c97_hi_hv1 : Int64.toInt32 p3 = w3_c97_hi_v1) (w3_c97_hi_hv5 : (Int64.toUInt64 p3 >>> ((32 : Int32) &&& 63).toInt64.toUInt64).toInt64 = w3_c97_hi_v5) (w3_c97_hi_hv6 : Int64.toInt32 w3_c97_hi_v5 = w3_c97_hi_v6) (w3_c106_sd_c1_hi_hv1 : Int64.toInt32 p3 = w3_c106_sd_c1_hi_v1) (w3_c106_sd_c1_hi_hv5 : (Int64.toUInt64 p3 >>> ((32 : Int32) &&& 63).toInt64.toUInt64).toInt64 = w3_c106_sd_c1_hi_v5) (w3_c106_sd_c1_hi_hv6 : Int64.toInt32 w3_c106_sd_c1_hi_v5 = w3_c106_sd_c1_hi_v6) (w3_c106_sd_c6_lo_hv1 : Int64.toInt32 p3 = w3_c106_sd_c6_lo_v1) (w3_c106_sd_c6_lo_hv5 : (Int64.toUInt64 p3 >>> ((32 : Int32) &&& 63).toInt64.toUInt64).toInt64 = w3_c106_sd_c6_lo_v5) (w3_c106_sd_c6_lo_hv6 : Int64.toInt32 w3_c106_sd_c6_lo_v5 = w3_c106_sd_c6_lo_v6) (w3_c106_sd_hn10 : Jvm.Free.Fl.NoNaN64 (FP.dsub (FP.i2d (own_imax w3_c106_sd_c1_hi_v1 w3_c106_sd_c1_hi_v6)) (FP.i2d (own_imin w3_c106_sd_c6_lo_v1 w3_c106_sd_c6_lo_v6)))) (w3_c106_sd_hv10 : FP.dsub (FP.i2d (own_imax w3_c106_sd_c1_hi_v1 w3_c106_sd_c1_hi_v6)) (FP.i2d (own_imin w3_c106_sd_c6_lo_v1 w3_c106_sd_c6_lo_v6)) = w3_c106_sd_v10) (w3_hn109 : Jvm.Free.Fl.NoNaN64 (FP.dmul w3_v73 w3_c106_sd_v10)) (w3_hv109 : FP.dmul w3_v73 w3_c106_sd_v10 = w3_v109) (w3_c123_lo_hv1 : Int64.toInt32 p4 = w3_c123_lo_v1) (w3_c123_lo_hv5 : (Int64.toUInt64 p4 >>> ((32 : Int32) &&& 63).toInt64.toUInt64).toInt64 = w3_c123_lo_v5) (w3_c123_lo_hv6 : Int64.toInt32 w3_c123_lo_v5 = w3_c123_lo_v6) (w3_c133_hi_hv1 : Int64.toInt32 p4 = w3_c133_hi_v1) (w3_c133_hi_hv5 : (Int64.toUInt64 p4 >>> ((32 : Int32) &&& 63).toInt64.toUInt64).toInt64 = w3_c133_hi_v5) (w3_c133_hi_hv6 : Int64.toInt32 w3_c133_hi_v5 = w3_c133_hi_v6) (w3_c142_sd_c1_hi_hv1 : Int64.toInt32 p4 = w3_c142_sd_c1_hi_v1) (w3_c142_sd_c1_hi_hv5 : (Int64.toUInt64 p4 >>> ((32 : Int32) &&& 63).toInt64.toUInt64).toInt64 = w3_c142_sd_c1_hi_v5) (w3_c142_sd_c1_hi_hv6 : Int64.toInt32 w3_c142_sd_c1_hi_v5 = w3_c142_sd_c1_hi_v6) (w3_c142_sd_c6_lo_hv1 : Int64.toInt32 p4 = w3_c142_sd_c6_lo_v1) (w3_c142_sd_c6_lo_hv5 : (Int64.toUInt64 p4 >>> ((32 : Int32) &&& 63).toInt64.toUInt64).toInt64 = w3_c142_sd_c6_lo_v5) (w3_c142_sd_c6_lo_hv6 : Int64.toInt32 w3_c142_sd_c6_lo_v5 = w3_c142_sd_c6_lo_v6) (w3_c142_sd_hn10 : Jvm.Free.Fl.NoNaN64 (FP.dsub (FP.i2d (own_imax w3_c142_sd_c1_hi_v1 w3_c142_sd_c1_hi_v6)) (FP.i2d (own_imin w3_c142_sd_c6_lo_v1 w3_c142_sd_c6_lo_v6)))) (w3_c142_sd_hv10 : FP.dsub (FP.i2d (own_imax w3_c142_sd_c1_hi_v1 w3_c142_sd_c1_hi_v6)) (FP.i2d (own_imin w3_c142_sd_c6_lo_v1 w3_c142_sd_c6_lo_v6)) = w3_c142_sd_v10) (w3_hn145 : Jvm.Free.Fl.NoNaN64 (FP.dmul w3_v109 w3_c142_sd_v10)) (w3_hv145 : FP.dmul w3_v109 w3_c142_sd_v10 = w3_v145) (w3_c152_c3_hn21 : Jvm.Free.Fl.NoNaN64 (FP.dsub (FP.i2d (own_imax w3_c32_hi_v1 w3_c32_hi_v6)) (FP.i2d (own_imin w3_c23_lo_v1 w3_c23_lo_v6)))) (w3_c152_c3_hv21 : FP.dsub (FP.i2d (own_imax w3_c32_hi_v1 w3_c32_hi_v6)) (FP.i2d (own_imin w3_c23_lo_v1 w3_c23_lo_v6)) = w3_c152_c3_v21) (w3_c152_c3_hn22 : Jvm.Free.Fl.NoNaN64 (FP.dmul 4607182418800017408 w3_c152_c3_v21)) (w3_c152_c3_hv22 : FP.dmul 4607182418800017408 w3_c152_c3_v21 = w3_c152_c3_v22) (w3_c152_c3_hn21_2 : Jvm.Free.Fl.NoNaN64 (FP.dsub (FP.i2d (own_imax w3_c62_hi_v1 w3_c62_hi_v6)) (FP.i2d (own_imin w3_c53_lo_v1 w3_c53_lo_v6)))) (w3_c152_c3_hv21_2 : FP.dsub (FP.i2d (own_imax w3_c62_hi_v1 w3_c62_hi_v6)) (FP.i2d (own_imin w3_c53_lo_v1 w3_c53_lo_v6)) = w3_c152_c3_v21_2) (w3_c152_c3_hn22_2 : Jvm.Free.Fl.NoNaN64 (FP.dmul w3_c152_c3_v22 w3_c152_c3_v21_2)) (w3_c152_c3_hv22_2 : FP.dmul w3_c152_c3_v22 w3_c152_c3_v21_2 = w3_c152_c3_v22_2) (w3_c152_c3_hn21_3 : Jvm.Free.Fl.NoNaN64 (FP.dsub (FP.i2d (own_imax w3_c97_hi_v1 w3_c97_hi_v6)) (FP.i2d (own_imin w3_c87_lo_v1 w3_c87_lo_v6)))) (w3_c152_c3_hv21_3 : FP.dsub (FP.i2d (own_imax w3_c97_hi_v1 w3_c97_hi_v6)) (FP.i2d (own_imin w3_c87_lo_v1 w3_c87_lo_v6)) = w3_c152_c3_v21_3) (w3_c152_c3_hn22_3 : Jvm.Free.Fl.NoNaN64 (FP.dmul w3_c152_c3_v22_2 w3_c152_c3_v21_3)) (w3_c152_c3_hv22_3 : FP.dmul w3_c152_c3_v22_2 w3_c152_c3_v21_3 = w3_c152_c3_v22_3) (w3_c152_c3_hn21_4 : Jvm.Free.Fl.NoNaN64 (FP.dsub (FP.i2d (own_imax w3_c133_hi_v1 w3_c133_hi_v6)) (FP.i2d (own_imin w3_c123_lo_v1 w3_c123_lo_v6)))) (w3_c152_c3_hv21_4 : FP.dsub (FP.i2d (own_imax w3_c133_hi_v1 w3_c133_hi_v6)) (FP.i2d (own_imin w3_c123_lo_v1 w3_c123_lo_v6)) = w3_c152_c3_v21_4) (w3_c152_c3_hn22_4 : Jvm.Free.Fl.NoNaN64 (FP.dmul w3_c152_c3_v22_3 w3_c152_c3_v21_4)) (w3_c152_c3_hv22_4 : FP.dmul w3_c152_c3_v22_3 w3_c152_c3_v21_4 = w3_c152_c3_v22_4) (w3_hc161 : Op.cmpValue (FP.dcmp w3_c152_c3_v22_4 w3_v145) .l = (0 : Int32)) :
    MetFree l x (head1 (Jvm.Cond.code x code maxLocals ret :: ws) room_1) (fun a U => a = #[(.int p0), (.long p1), (.long p2), (.long p3), (.long p4)] ∧ Z.Warmed39 U.vm ∧ U.heap = h0) (fun _ _ _ _ _ => True) (fun _ U o U' => ∃ v L, o = .returned v ∧ own_Q0 n0 v U'.heap L ∧ FrameEnd U o U' L room_1.cells room_1.slots) := by
  refine MetFree.of_bodySF (plainFor_of_name own_pn_com_example_thicket_thicket_core_BoxVolumePinLaw) hisR ?_
  intro p e s m args below meth c s₁ Bd hml0 hP hK
  obtain ⟨rfl, hZ, hh⟩ := hP
  have hx := Bd.exec
  have hby := Bd.bytes
  have hml : c.maxLocals = 16 := hml0
  have hown : s.vm.findClass "com/example/thicket/thicket/core/BoxVolumePinLaw" = some m.cls := findClass_of_methodNamed Bd.named
  have hnm := (name_of_methodNamed Bd.named Bd.method).1
  have X0 : Stand p l e room_1 s m #[(.int p0), (.long p1), (.long p2), (.long p3), (.long p4)] below meth c s₁ [] 0 0 := Stand.of_body Bd
  have e0 : s₁.heap = h0 := by rw [← hh, Bd.state]; rfl
  have N0 := Fr.nil n0
  have pre0 : ∀ t, Steps p.tables e below (s₁.setTop (mkF m 0 #[.val (.int p0), .val (.long p1), .second, .val (.long p2), .second, .val (.long p3), .second, .val (.long p4), .second, .unset, .unset, .unset, .unset, .unset, .unset, .unset] [])) t → Steps p.tables e below (s₁.setTop (entryFrame m #[(.int p0), (.long p1), (.long p2), (.long p3), (.long p4)] maxLocals)) t := fun t k => castTop (own_ef_w3 m p0 p1 p2 p3 p4) k
  obtain ⟨Tw31, hw31, kw31, bw31, Xw31, ew31, Ew31, Gw31, Vw31, stw31⟩ := own_newD (L := #[.val (.int p0), .val (.long p1), .second, .val (.long p2), .second, .val (.long p3), .second, .val (.long p4), .second, .val (.int (4 : Int32)), .unset, .unset, .unset, .unset, .unset, .unset]) (S := []) X0 hx hZ (hw _ (List.mem_of_getElem? (i := 0) rfl)) e0 (z := (4 : Int32)) 4 (by decide) (by decide) (by decide) (by decide) (by decide) (hb hby at_9) (pc' := 11) rfl
  have g_bw31 : n0 ≤ bw31 := Nat.le_trans Z0 (Nat.le_of_eq Gw31.symm)
  have sz_bw31 : h0.size ≤ bw31 := Nat.le_trans (Keep.refl h0 []).1 (Nat.le_of_eq Gw31.symm)
  have Zw31 : n0 ≤ hw31.size := Nat.le_trans Z0 Ew31.1
  have KKw31 := (Keep.refl h0 []).ext Ew31
  have V_bw31 : Arv Z hw31 bw31 kw31 .double (4 : Int32) [(.double 0), (.double 0), (.double 0), (.double 0)] (.double 0) := Vw31
  obtain ⟨Tw32, hw32, kw32, bw32, Xw32, ew32, Ew32, Gw32, Vw32, stw32⟩ := own_newD (L := #[.val (.int p0), .val (.long p1), .second, .val (.long p2), .second, .val (.long p3), .second, .val (.long p4), .second, .val (.int (4 : Int32)), .val (.ref bw31), .unset, .unset, .unset, .unset, .unset]) (S := []) Xw31 hx hZ (hw _ (List.mem_of_getElem? (i := 0) rfl)) ew31 (z := (4 : Int32)) 4 (by decide) (by decide) (by decide) (by decide) (by decide) (hb hby at_15) (pc' := 17) rfl
  have ne_bw31_bw32 : bw31 ≠ bw32 := Nat.ne_of_lt (Nat.lt_of_lt_of_le V_bw31.lt (Nat.le_of_eq Gw32.symm))
  have ne_bw32_bw31 : bw32 ≠ bw31 := Ne.symm ne_bw31_bw32
  have g_bw32 : n0 ≤ bw32 := Nat.le_trans Zw31 (Nat.le_of_eq Gw32.symm)
  have sz_bw32 : h0.size ≤ bw32 := Nat.le_trans KKw31.1 (Nat.le_of_eq Gw32.symm)
  have V_bw31_w32 := V_bw31.ext Ew32
  have Zw32 : n0 ≤ hw32.size := Nat.le_trans Zw31 Ew32.1
  have KKw32 := KKw31.ext Ew32
  have V_bw32 : Arv Z hw32 bw32 kw32 .double (4 : Int32) [(.double 0), (.double 0), (.double 0), (.double 0)] (.double 0) := Vw32
  obtain ⟨_, _, ⟨Tw33, Lw33, kw33, nw33⟩, -, Xw33, ⟨Lcw33, hQw33, lw33, yw33, zw33⟩, stw33⟩ := Jvm.LawKit.callS Xw32 hx (y := (⟨"com/example/thicket/thicket/core/BoxVolumePinLaw", "lo", "(J)I"⟩ : MethodName)) hown (mvT hZ (hw _ (List.mem_of_getElem? (i := 1) rfl))) (mvT hZ (hw _ (List.mem_of_getElem? (i := 2) rfl))) (mvT hZ (hw _ (List.mem_of_getElem? (i := 3) rfl))) (mvT hZ (hw _ (List.mem_of_getElem? (i := 4) rfl))) (by decide) (backOf (W := 2) (own_rm_lo l Z a0 hw [] p1 hw32 n0 Zw32 w3_c23_lo_hv1 w3_c23_lo_hv5 w3_c23_lo_hv6) hZ (hw _ (List.mem_of_getElem? (i := 4) rfl)) (hw _ (List.mem_of_getElem? (i := 3) rfl)) (by decide) (by decide)) (g := (mkF m 23 #[.val (.int p0), .val (.long p1), .second, .val (.long p2), .second, .val (.long p3), .second, .val (.long p4), .second, .val (.int (4 : Int32)), .val (.ref bw31), .val (.ref bw32), .unset, .unset, .unset, .unset] [(.long p1), (.int (0 : Int32)), (.ref bw31)])) rfl (by rw [hml]; rfl) (argsL := [(.long p1)]) (rest := [(.int (0 : Int32)), (.ref bw31)]) (lenOf own_pd_28J29I rfl) rfl (by show 2 * 0 + _ ≤ _; exact Nat.le_of_eq rfl) (hb hby at_23) (fun _ _ => ⟨rfl, ew32, (by decide : 2 + 0 ≤ _), (by decide : 8 + 0 ≤ _)⟩)
  dsimp only [Pt.U, Pt.locs, Pt.cells, Pt.slots] at Xw33 lw33 yw33 zw33 stw33 hQw33
  subst lw33 yw33 zw33
  obtain ⟨rfl, Nw33q, ew33⟩ := hQw33
  have Nw33 := Fr.app N0 Nw33q
  obtain ⟨Tw34, hw34, Xw34, ew34, Ww34, Vw34, stw34⟩ := own_stD (L := #[.val (.int p0), .val (.long p1), .second, .val (.long p2), .second, .val (.long p3), .second, .val (.long p4), .second, .val (.int (4 : Int32)), .val (.ref bw31), .val (.ref bw32), .unset, .unset, .unset, .unset]) (S := []) Xw33 hx hZ ew33 V_bw31_w32 (j := (0 : Int32)) (x := (FP.i2d (own_imin w3_c23_lo_v1 w3_c23_lo_v6))) (by decide) 0 (by decide) (Nat.le_of_ble_eq_true rfl) (hb hby at_27) (pc' := 28) rfl
  have V_bw32_w34 := V_bw32.other Ww34 ne_bw32_bw31
  have Zw34 : n0 ≤ hw34.size := Nat.le_trans Zw32 (Nat.le_of_eq Ww34.size.symm)
  have KKw34 := KKw32.wr Ww34 (Or.inr sz_bw31)
  have V_bw31_w34 : Arv Z hw34 bw31 kw31 .double (4 : Int32) [(.double (FP.i2d (own_imin w3_c23_lo_v1 w3_c23_lo_v6))), (.double 0), (.double 0), (.double 0)] (.double 0) := Vw34
  have Nw34 := Fr.snoc Xw34 Nw33 g_bw31
  obtain ⟨_, _, ⟨Tw35, Lw35, kw35, nw35⟩, -, Xw35, ⟨Lcw35, hQw35, lw35, yw35, zw35⟩, stw35⟩ := Jvm.LawKit.callS Xw34 hx (y := (⟨"com/example/thicket/thicket/core/BoxVolumePinLaw", "hi", "(J)I"⟩ : MethodName)) hown (mvT hZ (hw _ (List.mem_of_getElem? (i := 9) rfl))) (mvT hZ (hw _ (List.mem_of_getElem? (i := 10) rfl))) (mvT hZ (hw _ (List.mem_of_getElem? (i := 3) rfl))) (mvT hZ (hw _ (List.mem_of_getElem? (i := 11) rfl))) (by decide) (backOf (W := 2) (own_rm_hi l Z a0 hw [] p1 hw34 n0 Zw34 w3_c32_hi_hv1 w3_c32_hi_hv5 w3_c32_hi_hv6) hZ (hw _ (List.mem_of_getElem? (i := 11) rfl)) (hw _ (List.mem_of_getElem? (i := 3) rfl)) (by decide) (by decide)) (g := (mkF m 32 #[.val (.int p0), .val (.long p1), .second, .val (.long p2), .second, .val (.long p3), .second, .val (.long p4), .second, .val (.int (4 : Int32)), .val (.ref bw31), .val (.ref bw32), .unset, .unset, .unset, .unset] [(.long p1), (.int (0 : Int32)), (.ref bw32)])) rfl (by rw [hml]; rfl) (argsL := [(.long p1)]) (rest := [(.int (0 : Int32)), (.ref bw32)]) (lenOf own_pd_28J29I rfl) rfl (by show 2 * 0 + _ ≤ _; exact Nat.le_of_eq rfl) (hb hby at_32) (fun _ _ => ⟨rfl, ew34, (by decide : 2 + 0 ≤ _), (by decide : 8 + 0 ≤ _)⟩)
  dsimp only [Pt.U, Pt.locs, Pt.cells, Pt.slots] at Xw35 lw35 yw35 zw35 stw35 hQw35
  subst lw35 yw35 zw35
  obtain ⟨rfl, Nw35q, ew35⟩ := hQw35
  have Nw35 := Fr.app Nw34 Nw35q
  obtain ⟨Tw36, hw36, Xw36, ew36, Ww36, Vw36, stw36⟩ := own_stD (L := #[.val (.int p0), .val (.long p1), .second, .val (.long p2), .second, .val (.long p3), .second, .val (.long p4), .second, .val (.int (4 : Int32)), .val (.ref bw31), .val (.ref bw32), .unset, .unset, .unset, .unset]) (S := []) Xw35 hx hZ ew35 V_bw32_w34 (j := (0 : Int32)) (x := (FP.i2d (own_imax w3_c32_hi_v1 w3_c32_hi_v6))) (by decide) 0 (by decide) (Nat.le_of_ble_eq_true rfl) (hb hby at_36) (pc' := 37) rfl
  have V_bw31_w36 := V_bw31_w34.other Ww36 ne_bw31_bw32
  have Zw36 : n0 ≤ hw36.size := Nat.le_trans Zw34 (Nat.le_of_eq Ww36.size.symm)
  have KKw36 := KKw34.wr Ww36 (Or.inr sz_bw32)
  have V_bw32_w36 : Arv Z hw36 bw32 kw32 .double (4 : Int32) [(.double (FP.i2d (own_imax w3_c32_hi_v1 w3_c32_hi_v6))), (.double 0), (.double 0), (.double 0)] (.double 0) := Vw36
  have Nw36 := Fr.snoc Xw36 Nw35 g_bw32
  obtain ⟨_, _, ⟨Tw37, Lw37, kw37, nw37⟩, -, Xw37, ⟨Lcw37, hQw37, lw37, yw37, zw37⟩, stw37⟩ := Jvm.LawKit.callS Xw36 hx (y := (⟨"com/example/thicket/thicket/core/BoxVolumePinLaw", "side", "(J)D"⟩ : MethodName)) hown (mvT hZ (hw _ (List.mem_of_getElem? (i := 15) rfl))) (mvT hZ (hw _ (List.mem_of_getElem? (i := 16) rfl))) (mvT hZ (hw _ (List.mem_of_getElem? (i := 3) rfl))) (mvT hZ (hw _ (List.mem_of_getElem? (i := 17) rfl))) (by decide) (backOf (W := 0) (own_rm_sd l Z a0 hw [] p1 hw36 n0 Zw36 w3_c38_sd_c1_hi_hv1 w3_c38_sd_c1_hi_hv5 w3_c38_sd_c1_hi_hv6 w3_c38_sd_c6_lo_hv1 w3_c38_sd_c6_lo_hv5 w3_c38_sd_c6_lo_hv6 w3_c38_sd_hn10 w3_c38_sd_hv10) hZ (hw _ (List.mem_of_getElem? (i := 17) rfl)) (hw _ (List.mem_of_getElem? (i := 3) rfl)) (by decide) (by decide)) (g := (mkF m 38 #[.val (.int p0), .val (.long p1), .second, .val (.long p2), .second, .val (.long p3), .second, .val (.long p4), .second, .val (.int (4 : Int32)), .val (.ref bw31), .val (.ref bw32), .unset, .unset, .unset, .unset] [(.long p1)])) rfl (by rw [hml]; rfl) (argsL := [(.long p1)]) (rest := []) (lenOf own_pd_28J29D rfl) rfl (by show 2 * 0 + _ ≤ _; exact Nat.le_of_eq rfl) (hb hby at_38) (fun _ _ => ⟨rfl, ew36, (by decide : 2 + 0 ≤ _), (by decide : 8 + 0 ≤ _)⟩)
  dsimp only [Pt.U, Pt.locs, Pt.cells, Pt.slots] at Xw37 lw37 yw37 zw37 stw37 hQw37
  subst lw37 yw37 zw37
  obtain ⟨rfl, Nw37q, ew37⟩ := hQw37
  have Nw37 := Fr.app Nw36 Nw37q
  obtain ⟨_, _, ⟨Tw38, Lw38, kw38, nw38⟩, -, Xw38, ⟨Lcw38, hQw38, lw38, yw38, zw38⟩, stw38⟩ := Jvm.LawKit.callS Xw37 hx (y := (⟨"com/example/thicket/thicket/core/BoxVolumePinLaw", "lo", "(J)I"⟩ : MethodName)) hown (mvT hZ (hw _ (List.mem_of_getElem? (i := 1) rfl))) (mvT hZ (hw _ (List.mem_of_getElem? (i := 2) rfl))) (mvT hZ (hw _ (List.mem_of_getElem? (i := 3) rfl))) (mvT hZ (hw _ (List.mem_of_getElem? (i := 4) rfl))) (by decide) (backOf (W := 2) (own_rm_lo l Z a0 hw [] p2 hw36 n0 Zw36 w3_c53_lo_hv1 w3_c53_lo_hv5 w3_c53_lo_hv6) hZ (hw _ (List.mem_of_getElem? (i := 4) rfl)) (hw _ (List.mem_of_getElem? (i := 3) rfl)) (by decide) (by decide)) (g := (mkF m 53 #[.val (.int p0), .val (.long p1), .second, .val (.long p2), .second, .val (.long p3), .second, .val (.long p4), .second, .val (.int (4 : Int32)), .val (.ref bw31), .val (.ref bw32), .val (.double w3_c38_sd_v10), .second, .unset, .unset] [(.long p2), (.int (1 : Int32)), (.ref bw31)])) rfl (by rw [hml]; rfl) (argsL := [(.long p2)]) (rest := [(.int (1 : Int32)), (.ref bw31)]) (lenOf own_pd_28J29I rfl) rfl (by show 2 * 0 + _ ≤ _; exact Nat.le_of_eq rfl) (hb hby at_53) (fun _ _ => ⟨rfl, ew37, (by decide : 2 + 0 ≤ _), (by decide : 8 + 0 ≤ _)⟩)
  dsimp only [Pt.U, Pt.locs, Pt.cells, Pt.slots] at Xw38 lw38 yw38 zw38 stw38 hQw38
  subst lw38 yw38 zw38
  obtain ⟨rfl, Nw38q, ew38⟩ := hQw38
  have Nw38 := Fr.app Nw37 Nw38q
  obtain ⟨Tw39, hw39, Xw39, ew39, Ww39, Vw39, stw39⟩ := own_stD (L := #[.val (.int p0), .val (.long p1), .second, .val (.long p2), .second, .val (.long p3), .second, .val (.long p4), .second, .val (.int (4 : Int32)), .val (.ref bw31), .val (.ref bw32), .val (.double w3_c38_sd_v10), .second, .unset, .unset]) (S := []) Xw38 hx hZ ew38 V_bw31_w36 (j := (1 : Int32)) (x := (FP.i2d (own_imin w3_c53_lo_v1 w3_c53_lo_v6))) (by decide) 1 (by decide) (Nat.le_of_ble_eq_true rfl) (hb hby at_57) (pc' := 58) rfl
  have V_bw32_w39 := V_bw32_w36.other Ww39 ne_bw32_bw31
  have Zw39 : n0 ≤ hw39.size := Nat.le_trans Zw36 (Nat.le_of_eq Ww39.size.symm)
  have KKw39 := KKw36.wr Ww39 (Or.inr sz_bw31)
  have V_bw31_w39 : Arv Z hw39 bw31 kw31 .double (4 : Int32) [(.double (FP.i2d (own_imin w3_c23_lo_v1 w3_c23_lo_v6))), (.double (FP.i2d (own_imin w3_c53_lo_v1 w3_c53_lo_v6))), (.double 0), (.double 0)] (.double 0) := Vw39
  have Nw39 := Fr.snoc Xw39 Nw38 g_bw31
  obtain ⟨_, _, ⟨Tw310, Lw310, kw310, nw310⟩, -, Xw310, ⟨Lcw310, hQw310, lw310, yw310, zw310⟩, stw310⟩ := Jvm.LawKit.callS Xw39 hx (y := (⟨"com/example/thicket/thicket/core/BoxVolumePinLaw", "hi", "(J)I"⟩ : MethodName)) hown (mvT hZ (hw _ (List.mem_of_getElem? (i := 9) rfl))) (mvT hZ (hw _ (List.mem_of_getElem? (i := 10) rfl))) (mvT hZ (hw _ (List.mem_of_getElem? (i := 3) rfl))) (mvT hZ (hw _ (List.mem_of_getElem? (i := 11) rfl))) (by decide) (backOf (W := 2) (own_rm_hi l Z a0 hw [] p2 hw39 n0 Zw39 w3_c62_hi_hv1 w3_c62_hi_hv5 w3_c62_hi_hv6) hZ (hw _ (List.mem_of_getElem? (i := 11) rfl)) (hw _ (List.mem_of_getElem? (i := 3) rfl)) (by decide) (by decide)) (g := (mkF m 62 #[.val (.int p0), .val (.long p1), .second, .val (.long p2), .second, .val (.long p3), .second, .val (.long p4), .second, .val (.int (4 : Int32)), .val (.ref bw31), .val (.ref bw32), .val (.double w3_c38_sd_v10), .second, .unset, .unset] [(.long p2), (.int (1 : Int32)), (.ref bw32)])) rfl (by rw [hml]; rfl) (argsL := [(.long p2)]) (rest := [(.int (1 : Int32)), (.ref bw32)]) (lenOf own_pd_28J29I rfl) rfl (by show 2 * 0 + _ ≤ _; exact Nat.le_of_eq rfl) (hb hby at_62) (fun _ _ => ⟨rfl, ew39, (by decide : 2 + 0 ≤ _), (by decide : 8 + 0 ≤ _)⟩)
  dsimp only [Pt.U, Pt.locs, Pt.cells, Pt.slots] at Xw310 lw310 yw310 zw310 stw310 hQw310
  subst lw310 yw310 zw310
  obtain ⟨rfl, Nw310q, ew310⟩ := hQw310
  have Nw310 := Fr.app Nw39 Nw310q
  obtain ⟨Tw311, hw311, Xw311, ew311, Ww311, Vw311, stw311⟩ := own_stD (L := #[.val (.int p0), .val (.long p1), .second, .val (.long p2), .second, .val (.long p3), .second, .val (.long p4), .second, .val (.int (4 : Int32)), .val (.ref bw31), .val (.ref bw32), .val (.double w3_c38_sd_v10), .second, .unset, .unset]) (S := []) Xw310 hx hZ ew310 V_bw32_w39 (j := (1 : Int32)) (x := (FP.i2d (own_imax w3_c62_hi_v1 w3_c62_hi_v6))) (by decide) 1 (by decide) (Nat.le_of_ble_eq_true rfl) (hb hby at_66) (pc' := 67) rfl
  have V_bw31_w311 := V_bw31_w39.other Ww311 ne_bw31_bw32
  have Zw311 : n0 ≤ hw311.size := Nat.le_trans Zw39 (Nat.le_of_eq Ww311.size.symm)
  have KKw311 := KKw39.wr Ww311 (Or.inr sz_bw32)
  have V_bw32_w311 : Arv Z hw311 bw32 kw32 .double (4 : Int32) [(.double (FP.i2d (own_imax w3_c32_hi_v1 w3_c32_hi_v6))), (.double (FP.i2d (own_imax w3_c62_hi_v1 w3_c62_hi_v6))), (.double 0), (.double 0)] (.double 0) := Vw311
  have Nw311 := Fr.snoc Xw311 Nw310 g_bw32
  obtain ⟨_, _, ⟨Tw312, Lw312, kw312, nw312⟩, -, Xw312, ⟨Lcw312, hQw312, lw312, yw312, zw312⟩, stw312⟩ := Jvm.LawKit.callS Xw311 hx (y := (⟨"com/example/thicket/thicket/core/BoxVolumePinLaw", "side", "(J)D"⟩ : MethodName)) hown (mvT hZ (hw _ (List.mem_of_getElem? (i := 15) rfl))) (mvT hZ (hw _ (List.mem_of_getElem? (i := 16) rfl))) (mvT hZ (hw _ (List.mem_of_getElem? (i := 3) rfl))) (mvT hZ (hw _ (List.mem_of_getElem? (i := 17) rfl))) (by decide) (backOf (W := 2) (own_rm_sd l Z a0 hw [] p2 hw311 n0 Zw311 w3_c70_sd_c1_hi_hv1 w3_c70_sd_c1_hi_hv5 w3_c70_sd_c1_hi_hv6 w3_c70_sd_c6_lo_hv1 w3_c70_sd_c6_lo_hv5 w3_c70_sd_c6_lo_hv6 w3_c70_sd_hn10 w3_c70_sd_hv10) hZ (hw _ (List.mem_of_getElem? (i := 17) rfl)) (hw _ (List.mem_of_getElem? (i := 3) rfl)) (by decide) (by decide)) (g := (mkF m 70 #[.val (.int p0), .val (.long p1), .second, .val (.long p2), .second, .val (.long p3), .second, .val (.long p4), .second, .val (.int (4 : Int32)), .val (.ref bw31), .val (.ref bw32), .val (.double w3_c38_sd_v10), .second, .unset, .unset] [(.long p2), (.double w3_c38_sd_v10)])) rfl (by rw [hml]; rfl) (argsL := [(.long p2)]) (rest := [(.double w3_c38_sd_v10)]) (lenOf own_pd_28J29D rfl) rfl (by show 2 * 0 + _ ≤ _; exact Nat.le_of_eq rfl) (hb hby at_70) (fun _ _ => ⟨rfl, ew311, (by decide : 2 + 0 ≤ _), (by decide : 8 + 0 ≤ _)⟩)
  dsimp only [Pt.U, Pt.locs, Pt.cells, Pt.slots] at Xw312 lw312 yw312 zw312 stw312 hQw312
  subst lw312 yw312 zw312
  obtain ⟨rfl, Nw312q, ew312⟩ := hQw312
  have Nw312 := Fr.app Nw311 Nw312q
  obtain ⟨_, _, ⟨Tw313, Lw313, kw313, nw313⟩, -, Xw313, ⟨Lcw313, hQw313, lw313, yw313, zw313⟩, stw313⟩ := Jvm.LawKit.callS Xw312 hx (y := (⟨"com/example/thicket/thicket/core/BoxVolumePinLaw", "lo", "(J)I"⟩ : MethodName)) hown (mvT hZ (hw _ (List.mem_of_getElem? (i := 1) rfl))) (mvT hZ (hw _ (List.mem_of_getElem? (i := 2) rfl))) (mvT hZ (hw _ (List.mem_of_getElem? (i := 3) rfl))) (mvT hZ (hw _ (List.mem_of_getElem? (i := 4) rfl))) (by decide) (backOf (W := 2) (own_rm_lo l Z a0 hw [] p3 hw311 n0 Zw311 w3_c87_lo_hv1 w3_c87_lo_hv5 w3_c87_lo_hv6) hZ (hw _ (List.mem_of_getElem? (i := 4) rfl)) (hw _ (List.mem_of_getElem? (i := 3) rfl)) (by decide) (by decide)) (g := (mkF m 87 #[.val (.int p0), .val (.long p1), .second, .val (.long p2), .second, .val (.long p3), .second, .val (.long p4), .second, .val (.int (4 : Int32)), .val (.ref bw31), .val (.ref bw32), .val (.double w3_v73), .second, .unset, .unset] [(.long p3), (.int (2 : Int32)), (.ref bw31)])) rfl (by rw [hml]; rfl) (argsL := [(.long p3)]) (rest := [(.int (2 : Int32)), (.ref bw31)]) (lenOf own_pd_28J29I rfl) rfl (by show 2 * 0 + _ ≤ _; exact Nat.le_of_eq rfl) (hb hby at_87) (fun _ _ => ⟨rfl, ew312, (by decide : 2 + 0 ≤ _), (by decide : 8 + 0 ≤ _)⟩)
  dsimp only [Pt.U, Pt.locs, Pt.cells, Pt.slots] at Xw313 lw313 yw313 zw313 stw313 hQw313
  subst lw313 yw313 zw313
  obtain ⟨rfl, Nw313q, ew313⟩ := hQw313
  have Nw313 := Fr.app Nw312 Nw313q
  obtain ⟨Tw314, hw314, Xw314, ew314, Ww314, Vw314, stw314⟩ := own_stD (L := #[.val (.int p0), .val (.long p1), .second, .val (.long p2), .second, .val (.long p3), .second, .val (.long p4), .second, .val (.int (4 : Int32)), .val (.ref bw31), .val (.ref bw32), .val (.double w3_v73), .second, .unset, .unset]) (S := []) Xw313 hx hZ ew313 V_bw31_w311 (j := (2 : Int32)) (x := (FP.i2d (own_imin w3_c87_lo_v1 w3_c87_lo_v6))) (by decide) 2 (by decide) (Nat.le_of_ble_eq_true rfl) (hb hby at_91) (pc' := 92) rfl
  have V_bw32_w314 := V_bw32_w311.other Ww314 ne_bw32_bw31
  have Zw314 : n0 ≤ hw314.size := Nat.le_trans Zw311 (Nat.le_of_eq Ww314.size.symm)
  have KKw314 := KKw311.wr Ww314 (Or.inr sz_bw31)
  have V_bw31_w314 : Arv Z hw314 bw31 kw31 .double (4 : Int32) [(.double (FP.i2d (own_imin w3_c23_lo_v1 w3_c23_lo_v6))), (.double (FP.i2d (own_imin w3_c53_lo_v1 w3_c53_lo_v6))), (.double (FP.i2d (own_imin w3_c87_lo_v1 w3_c87_lo_v6))), (.double 0)] (.double 0) := Vw314
  have Nw314 := Fr.snoc Xw314 Nw313 g_bw31
  obtain ⟨_, _, ⟨Tw315, Lw315, kw315, nw315⟩, -, Xw315, ⟨Lcw315, hQw315, lw315, yw315, zw315⟩, stw315⟩ := Jvm.LawKit.callS Xw314 hx (y := (⟨"com/example/thicket/thicket/core/BoxVolumePinLaw", "hi", "(J)I"⟩ : MethodName)) hown (mvT hZ (hw _ (List.mem_of_getElem? (i := 9) rfl))) (mvT hZ (hw _ (List.mem_of_getElem? (i := 10) rfl))) (mvT hZ (hw _ (List.mem_of_getElem? (i := 3) rfl))) (mvT hZ (hw _ (List.mem_of_getElem? (i := 11) rfl))) (by decide) (backOf (W := 2) (own_rm_hi l Z a0 hw [] p3 hw314 n0 Zw314 w3_c97_hi_hv1 w3_c97_hi_hv5 w3_c97_hi_hv6) hZ (hw _ (List.mem_of_getElem? (i := 11) rfl)) (hw _ (List.mem_of_getElem? (i := 3) rfl)) (by decide) (by decide)) (g := (mkF m 97 #[.val (.int p0), .val (.long p1), .second, .val (.long p2), .second, .val (.long p3), .second, .val (.long p4), .second, .val (.int (4 : Int32)), .val (.ref bw31), .val (.ref bw32), .val (.double w3_v73), .second, .unset, .unset] [(.long p3), (.int (2 : Int32)), (.ref bw32)])) rfl (by rw [hml]; rfl) (argsL := [(.long p3)]) (rest := [(.int (2 : Int32)), (.ref bw32)]) (lenOf own_pd_28J29I rfl) rfl (by show 2 * 0 + _ ≤ _; exact Nat.le_of_eq rfl) (hb hby at_97) (fun _ _ => ⟨rfl, ew314, (by decide : 2 + 0 ≤ _), (by decide : 8 + 0 ≤ _)⟩)
  dsimp only [Pt.U, Pt.locs, Pt.cells, Pt.slots] at Xw315 lw315 yw315 zw315 stw315 hQw315
  subst lw315 yw315 zw315
  obtain ⟨rfl, Nw315q, ew315⟩ := hQw315
  have Nw315 := Fr.app Nw314 Nw315q
  obtain ⟨Tw316, hw316, Xw316, ew316, Ww316, Vw316, stw316⟩ := own_stD (L := #[.val (.int p0), .val (.long p1), .second, .val (.long p2), .second, .val (.long p3), .second, .val (.long p4), .second, .val (.int (4 : Int32)), .val (.ref bw31), .val (.ref bw32), .val (.double w3_v73), .second, .unset, .unset]) (S := []) Xw315 hx hZ ew315 V_bw32_w314 (j := (2 : Int32)) (x := (FP.i2d (own_imax w3_c97_hi_v1 w3_c97_hi_v6))) (by decide) 2 (by decide) (Nat.le_of_ble_eq_true rfl) (hb hby at_101) (pc' := 102) rfl
  have V_bw31_w316 := V_bw31_w314.other Ww316 ne_bw31_bw32
  have Zw316 : n0 ≤ hw316.size := Nat.le_trans Zw314 (Nat.le_of_eq Ww316.size.symm)
  have KKw316 := KKw314.wr Ww316 (Or.inr sz_bw32)
  have V_bw32_w316 : Arv Z hw316 bw32 kw32 .double (4 : Int32) [(.double (FP.i2d (own_imax w3_c32_hi_v1 w3_c32_hi_v6))), (.double (FP.i2d (own_imax w3_c62_hi_v1 w3_c62_hi_v6))), (.double (FP.i2d (own_imax w3_c97_hi_v1 w3_c97_hi_v6))), (.double 0)] (.double 0) := Vw316
  have Nw316 := Fr.snoc Xw316 Nw315 g_bw32
  obtain ⟨_, _, ⟨Tw317, Lw317, kw317, nw317⟩, -, Xw317, ⟨Lcw317, hQw317, lw317, yw317, zw317⟩, stw317⟩ := Jvm.LawKit.callS Xw316 hx (y := (⟨"com/example/thicket/thicket/core/BoxVolumePinLaw", "side", "(J)D"⟩ : MethodName)) hown (mvT hZ (hw _ (List.mem_of_getElem? (i := 15) rfl))) (mvT hZ (hw _ (List.mem_of_getElem? (i := 16) rfl))) (mvT hZ (hw _ (List.mem_of_getElem? (i := 3) rfl))) (mvT hZ (hw _ (List.mem_of_getElem? (i := 17) rfl))) (by decide) (backOf (W := 2) (own_rm_sd l Z a0 hw [] p3 hw316 n0 Zw316 w3_c106_sd_c1_hi_hv1 w3_c106_sd_c1_hi_hv5 w3_c106_sd_c1_hi_hv6 w3_c106_sd_c6_lo_hv1 w3_c106_sd_c6_lo_hv5 w3_c106_sd_c6_lo_hv6 w3_c106_sd_hn10 w3_c106_sd_hv10) hZ (hw _ (List.mem_of_getElem? (i := 17) rfl)) (hw _ (List.mem_of_getElem? (i := 3) rfl)) (by decide) (by decide)) (g := (mkF m 106 #[.val (.int p0), .val (.long p1), .second, .val (.long p2), .second, .val (.long p3), .second, .val (.long p4), .second, .val (.int (4 : Int32)), .val (.ref bw31), .val (.ref bw32), .val (.double w3_v73), .second, .unset, .unset] [(.long p3), (.double w3_v73)])) rfl (by rw [hml]; rfl) (argsL := [(.long p3)]) (rest := [(.double w3_v73)]) (lenOf own_pd_28J29D rfl) rfl (by show 2 * 0 + _ ≤ _; exact Nat.le_of_eq rfl) (hb hby at_106) (fun _ _ => ⟨rfl, ew316, (by decide : 2 + 0 ≤ _), (by decide : 8 + 0 ≤ _)⟩)
  dsimp only [Pt.U, Pt.locs, Pt.cells, Pt.slots] at Xw317 lw317 yw317 zw317 stw317 hQw317
  subst lw317 yw317 zw317
  obtain ⟨rfl, Nw317q, ew317⟩ := hQw317
  have Nw317 := Fr.app Nw316 Nw317q
  obtain ⟨_, _, ⟨Tw318, Lw318, kw318, nw318⟩, -, Xw318, ⟨Lcw318, hQw318, lw318, yw318, zw318⟩, stw318⟩ := Jvm.LawKit.callS Xw317 hx (y := (⟨"com/example/thicket/thicket/core/BoxVolumePinLaw", "lo", "(J)I"⟩ : MethodName)) hown (mvT hZ (hw _ (List.mem_of_getElem? (i := 1) rfl))) (mvT hZ (hw _ (List.mem_of_getElem? (i := 2) rfl))) (mvT hZ (hw _ (List.mem_of_getElem? (i := 3) rfl))) (mvT hZ (hw _ (List.mem_of_getElem? (i := 4) rfl))) (by decide) (backOf (W := 2) (own_rm_lo l Z a0 hw [] p4 hw316 n0 Zw316 w3_c123_lo_hv1 w3_c123_lo_hv5 w3_c123_lo_hv6) hZ (hw _ (List.mem_of_getElem? (i := 4) rfl)) (hw _ (List.mem_of_getElem? (i := 3) rfl)) (by decide) (by decide)) (g := (mkF m 123 #[.val (.int p0), .val (.long p1), .second, .val (.long p2), .second, .val (.long p3), .second, .val (.long p4), .second, .val (.int (4 : Int32)), .val (.ref bw31), .val (.ref bw32), .val (.double w3_v109), .second, .unset, .unset] [(.long p4), (.int (3 : Int32)), (.ref bw31)])) rfl (by rw [hml]; rfl) (argsL := [(.long p4)]) (rest := [(.int (3 : Int32)), (.ref bw31)]) (lenOf own_pd_28J29I rfl) rfl (by show 2 * 0 + _ ≤ _; exact Nat.le_of_eq rfl) (hb hby at_123) (fun _ _ => ⟨rfl, ew317, (by decide : 2 + 0 ≤ _), (by decide : 8 + 0 ≤ _)⟩)
  dsimp only [Pt.U, Pt.locs, Pt.cells, Pt.slots] at Xw318 lw318 yw318 zw318 stw318 hQw318
  subst lw318 yw318 zw318
  obtain ⟨rfl, Nw318q, ew318⟩ := hQw318
  have Nw318 := Fr.app Nw317 Nw318q
  obtain ⟨Tw319, hw319, Xw319, ew319, Ww319, Vw319, stw319⟩ := own_stD (L := #[.val (.int p0), .val (.long p1), .second, .val (.long p2), .second, .val (.long p3), .second, .val (.long p4), .second, .val (.int (4 : Int32)), .val (.ref bw31), .val (.ref bw32), .val (.double w3_v109), .second, .unset, .unset]) (S := []) Xw318 hx hZ ew318 V_bw31_w316 (j := (3 : Int32)) (x := (FP.i2d (own_imin w3_c123_lo_v1 w3_c123_lo_v6))) (by decide) 3 (by decide) (Nat.le_of_ble_eq_true rfl) (hb hby at_127) (pc' := 128) rfl
  have V_bw32_w319 := V_bw32_w316.other Ww319 ne_bw32_bw31
  have Zw319 : n0 ≤ hw319.size := Nat.le_trans Zw316 (Nat.le_of_eq Ww319.size.symm)
  have KKw319 := KKw316.wr Ww319 (Or.inr sz_bw31)
  have V_bw31_w319 : Arv Z hw319 bw31 kw31 .double (4 : Int32) [(.double (FP.i2d (own_imin w3_c23_lo_v1 w3_c23_lo_v6))), (.double (FP.i2d (own_imin w3_c53_lo_v1 w3_c53_lo_v6))), (.double (FP.i2d (own_imin w3_c87_lo_v1 w3_c87_lo_v6))), (.double (FP.i2d (own_imin w3_c123_lo_v1 w3_c123_lo_v6)))] (.double 0) := Vw319
  have Nw319 := Fr.snoc Xw319 Nw318 g_bw31
  obtain ⟨_, _, ⟨Tw320, Lw320, kw320, nw320⟩, -, Xw320, ⟨Lcw320, hQw320, lw320, yw320, zw320⟩, stw320⟩ := Jvm.LawKit.callS Xw319 hx (y := (⟨"com/example/thicket/thicket/core/BoxVolumePinLaw", "hi", "(J)I"⟩ : MethodName)) hown (mvT hZ (hw _ (List.mem_of_getElem? (i := 9) rfl))) (mvT hZ (hw _ (List.mem_of_getElem? (i := 10) rfl))) (mvT hZ (hw _ (List.mem_of_getElem? (i := 3) rfl))) (mvT hZ (hw _ (List.mem_of_getElem? (i := 11) rfl))) (by decide) (backOf (W := 2) (own_rm_hi l Z a0 hw [] p4 hw319 n0 Zw319 w3_c133_hi_hv1 w3_c133_hi_hv5 w3_c133_hi_hv6) hZ (hw _ (List.mem_of_getElem? (i := 11) rfl)) (hw _ (List.mem_of_getElem? (i := 3) rfl)) (by decide) (by decide)) (g := (mkF m 133 #[.val (.int p0), .val (.long p1), .second, .val (.long p2), .second, .val (.long p3), .second, .val (.long p4), .second, .val (.int (4 : Int32)), .val (.ref bw31), .val (.ref bw32), .val (.double w3_v109), .second, .unset, .unset] [(.long p4), (.int (3 : Int32)), (.ref bw32)])) rfl (by rw [hml]; rfl) (argsL := [(.long p4)]) (rest := [(.int (3 : Int32)), (.ref bw32)]) (lenOf own_pd_28J29I rfl) rfl (by show 2 * 0 + _ ≤ _; exact Nat.le_of_eq rfl) (hb hby at_133) (fun _ _ => ⟨rfl, ew319, (by decide : 2 + 0 ≤ _), (by decide : 8 + 0 ≤ _)⟩)
  dsimp only [Pt.U, Pt.locs, Pt.cells, Pt.slots] at Xw320 lw320 yw320 zw320 stw320 hQw320
  subst lw320 yw320 zw320
  obtain ⟨rfl, Nw320q, ew320⟩ := hQw320
  have Nw320 := Fr.app Nw319 Nw320q
  obtain ⟨Tw321, hw321, Xw321, ew321, Ww321, Vw321, stw321⟩ := own_stD (L := #[.val (.int p0), .val (.long p1), .second, .val (.long p2), .second, .val (.long p3), .second, .val (.long p4), .second, .val (.int (4 : Int32)), .val (.ref bw31), .val (.ref bw32), .val (.double w3_v109), .second, .unset, .unset]) (S := []) Xw320 hx hZ ew320 V_bw32_w319 (j := (3 : Int32)) (x := (FP.i2d (own_imax w3_c133_hi_v1 w3_c133_hi_v6))) (by decide) 3 (by decide) (Nat.le_of_ble_eq_true rfl) (hb hby at_137) (pc' := 138) rfl
  have V_bw31_w321 := V_bw31_w319.other Ww321 ne_bw31_bw32
  have Zw321 : n0 ≤ hw321.size := Nat.le_trans Zw319 (Nat.le_of_eq Ww321.size.symm)
  have KKw321 := KKw319.wr Ww321 (Or.inr sz_bw32)
  have V_bw32_w321 : Arv Z hw321 bw32 kw32 .double (4 : Int32) [(.double (FP.i2d (own_imax w3_c32_hi_v1 w3_c32_hi_v6))), (.double (FP.i2d (own_imax w3_c62_hi_v1 w3_c62_hi_v6))), (.double (FP.i2d (own_imax w3_c97_hi_v1 w3_c97_hi_v6))), (.double (FP.i2d (own_imax w3_c133_hi_v1 w3_c133_hi_v6)))] (.double 0) := Vw321
  have Nw321 := Fr.snoc Xw321 Nw320 g_bw32
  obtain ⟨_, _, ⟨Tw322, Lw322, kw322, nw322⟩, -, Xw322, ⟨Lcw322, hQw322, lw322, yw322, zw322⟩, stw322⟩ := Jvm.LawKit.callS Xw321 hx (y := (⟨"com/example/thicket/thicket/core/BoxVolumePinLaw", "side", "(J)D"⟩ : MethodName)) hown (mvT hZ (hw _ (List.mem_of_getElem? (i := 15) rfl))) (mvT hZ (hw _ (List.mem_of_getElem? (i := 16) rfl))) (mvT hZ (hw _ (List.mem_of_getElem? (i := 3) rfl))) (mvT hZ (hw _ (List.mem_of_getElem? (i := 17) rfl))) (by decide) (backOf (W := 2) (own_rm_sd l Z a0 hw [] p4 hw321 n0 Zw321 w3_c142_sd_c1_hi_hv1 w3_c142_sd_c1_hi_hv5 w3_c142_sd_c1_hi_hv6 w3_c142_sd_c6_lo_hv1 w3_c142_sd_c6_lo_hv5 w3_c142_sd_c6_lo_hv6 w3_c142_sd_hn10 w3_c142_sd_hv10) hZ (hw _ (List.mem_of_getElem? (i := 17) rfl)) (hw _ (List.mem_of_getElem? (i := 3) rfl)) (by decide) (by decide)) (g := (mkF m 142 #[.val (.int p0), .val (.long p1), .second, .val (.long p2), .second, .val (.long p3), .second, .val (.long p4), .second, .val (.int (4 : Int32)), .val (.ref bw31), .val (.ref bw32), .val (.double w3_v109), .second, .unset, .unset] [(.long p4), (.double w3_v109)])) rfl (by rw [hml]; rfl) (argsL := [(.long p4)]) (rest := [(.double w3_v109)]) (lenOf own_pd_28J29D rfl) rfl (by show 2 * 0 + _ ≤ _; exact Nat.le_of_eq rfl) (hb hby at_142) (fun _ _ => ⟨rfl, ew321, (by decide : 2 + 0 ≤ _), (by decide : 8 + 0 ≤ _)⟩)
  dsimp only [Pt.U, Pt.locs, Pt.cells, Pt.slots] at Xw322 lw322 yw322 zw322 stw322 hQw322
  subst lw322 yw322 zw322
  obtain ⟨rfl, Nw322q, ew322⟩ := hQw322
  have Nw322 := Fr.app Nw321 Nw322q
  obtain ⟨_, _, ⟨Tw323, Lw323, kw323, nw323⟩, -, Xw323, ⟨Lcw323, hQw323, lw323, yw323, zw323⟩, stw323⟩ := Jvm.LawKit.callS Xw322 hx (y := (⟨"com/example/thicket/thicket/core/Box", "volume", "([D[D)D"⟩ : MethodName)) hown (mvT hZ (hw _ (List.mem_of_getElem? (i := 18) rfl))) (mvT hZ (hw _ (List.mem_of_getElem? (i := 19) rfl))) (mvT hZ (hw _ (List.mem_of_getElem? (i := 20) rfl))) (mvT hZ (hw _ (List.mem_of_getElem? (i := 21) rfl))) (by decide) (backOf (W := 0) (own_rm_c3 l Z a0 hw [] bw31 (FP.i2d (own_imin w3_c23_lo_v1 w3_c23_lo_v6)) (FP.i2d (own_imin w3_c53_lo_v1 w3_c53_lo_v6)) (FP.i2d (own_imin w3_c87_lo_v1 w3_c87_lo_v6)) (FP.i2d (own_imin w3_c123_lo_v1 w3_c123_lo_v6)) bw32 (FP.i2d (own_imax w3_c32_hi_v1 w3_c32_hi_v6)) (FP.i2d (own_imax w3_c62_hi_v1 w3_c62_hi_v6)) (FP.i2d (own_imax w3_c97_hi_v1 w3_c97_hi_v6)) (FP.i2d (own_imax w3_c133_hi_v1 w3_c133_hi_v6)) hw321 n0 Zw321 V_bw31_w321 V_bw32_w321 w3_c152_c3_hn21 w3_c152_c3_hv21 w3_c152_c3_hn22 w3_c152_c3_hv22 w3_c152_c3_hn21_2 w3_c152_c3_hv21_2 w3_c152_c3_hn22_2 w3_c152_c3_hv22_2 w3_c152_c3_hn21_3 w3_c152_c3_hv21_3 w3_c152_c3_hn22_3 w3_c152_c3_hv22_3 w3_c152_c3_hn21_4 w3_c152_c3_hv21_4 w3_c152_c3_hn22_4 w3_c152_c3_hv22_4) hZ (hw _ (List.mem_of_getElem? (i := 21) rfl)) (hw _ (List.mem_of_getElem? (i := 20) rfl)) (by decide) (by decide)) (g := (mkF m 152 #[.val (.int p0), .val (.long p1), .second, .val (.long p2), .second, .val (.long p3), .second, .val (.long p4), .second, .val (.int (4 : Int32)), .val (.ref bw31), .val (.ref bw32), .val (.double w3_v145), .second, .unset, .unset] [(.ref bw32), (.ref bw31)])) rfl (by rw [hml]; rfl) (argsL := [(.ref bw31), (.ref bw32)]) (rest := []) (lenOf own_pd_285bD5bD29D rfl) rfl (by show 2 * 0 + _ ≤ _; exact Nat.le_of_eq rfl) (hb hby at_152) (fun _ _ => ⟨rfl, ew322, (by decide : 2 + 0 ≤ _), (by decide : 8 + 0 ≤ _)⟩)
  dsimp only [Pt.U, Pt.locs, Pt.cells, Pt.slots] at Xw323 lw323 yw323 zw323 stw323 hQw323
  subst lw323 yw323 zw323
  obtain ⟨rfl, Nw323q, ew323⟩ := hQw323
  have Nw323 := Fr.app Nw322 Nw323q
  obtain ⟨fs, hr, hrun, hended, hW, hsame⟩ := Xw323.leave (v := some (.int (1 : Int32))) (fun h => by rw [Bd.returns] at h; cases h)
  refine ⟨_, _, pre0 _ ?_, hrun, hended, _, _, rfl, ?_, ⟨_, rfl⟩, hW, hsame.mono (by decide) (by decide)⟩
  · refine own_s_iconst X0.here hx (hb hby at_0) (pc' := 1) rfl (v := (1 : Int32)) (by decide) ?_
    refine own_s_iloadN X0.here hx (hb hby at_1) (pc' := 2) rfl rfl ?_
    refine own_s_iconst X0.here hx (hb hby at_2) (pc' := 3) rfl (v := (3 : Int32)) (by decide) ?_
    refine own_s_iand X0.here hx (hb hby at_3) (pc' := 4) rfl (v := (3 : Int32)) w3_hv3 ?_
    refine own_s_iadd X0.here hx (hb hby at_4) (pc' := 5) rfl (v := (4 : Int32)) (by decide) ?_
    refine own_s_istore X0.here hx (hb hby at_5) (pc' := 7) rfl (L' := #[.val (.int p0), .val (.long p1), .second, .val (.long p2), .second, .val (.long p3), .second, .val (.long p4), .second, .val (.int (4 : Int32)), .unset, .unset, .unset, .unset, .unset, .unset]) rfl ?_
    refine own_s_iload X0.here hx (hb hby at_7) (pc' := 9) rfl rfl ?_
    refine stw31 _ ?_
    refine own_s_astore Xw31.here hx (hb hby at_11) (pc' := 13) rfl rfl (L' := #[.val (.int p0), .val (.long p1), .second, .val (.long p2), .second, .val (.long p3), .second, .val (.long p4), .second, .val (.int (4 : Int32)), .val (.ref bw31), .unset, .unset, .unset, .unset, .unset]) rfl ?_
    refine own_s_iload Xw31.here hx (hb hby at_13) (pc' := 15) rfl rfl ?_
    refine stw32 _ ?_
    refine own_s_astore Xw32.here hx (hb hby at_17) (pc' := 19) rfl rfl (L' := #[.val (.int p0), .val (.long p1), .second, .val (.long p2), .second, .val (.long p3), .second, .val (.long p4), .second, .val (.int (4 : Int32)), .val (.ref bw31), .val (.ref bw32), .unset, .unset, .unset, .unset]) rfl ?_
    refine own_s_aload Xw32.here hx (hb hby at_19) (pc' := 21) rfl rfl rfl ?_
    refine own_s_iconst Xw32.here hx (hb hby at_21) (pc' := 22) rfl (v := (0 : Int32)) (by decide) ?_
    refine own_s_lloadN Xw32.here hx (hb hby at_22) (pc' := 23) rfl rfl ?_
    refine stw33 _ ?_
    show Steps p.tables e below (Tw33.setTop (mkF m 26 #[.val (.int p0), .val (.long p1), .second, .val (.long p2), .second, .val (.long p3), .second, .val (.long p4), .second, .val (.int (4 : Int32)), .val (.ref bw31), .val (.ref bw32), .unset, .unset, .unset, .unset] [(.int (own_imin w3_c23_lo_v1 w3_c23_lo_v6)), (.int (0 : Int32)), (.ref bw31)])) _
    refine own_s_i2d Xw33.here hx (hb hby at_26) (pc' := 27) rfl (v := (FP.i2d (own_imin w3_c23_lo_v1 w3_c23_lo_v6))) rfl ?_
    refine stw34 _ ?_
    refine own_s_aload Xw34.here hx (hb hby at_28) (pc' := 30) rfl rfl rfl ?_
    refine own_s_iconst Xw34.here hx (hb hby at_30) (pc' := 31) rfl (v := (0 : Int32)) (by decide) ?_
    refine own_s_lloadN Xw34.here hx (hb hby at_31) (pc' := 32) rfl rfl ?_
    refine stw35 _ ?_
    show Steps p.tables e below (Tw35.setTop (mkF m 35 #[.val (.int p0), .val (.long p1), .second, .val (.long p2), .second, .val (.long p3), .second, .val (.long p4), .second, .val (.int (4 : Int32)), .val (.ref bw31), .val (.ref bw32), .unset, .unset, .unset, .unset] [(.int (own_imax w3_c32_hi_v1 w3_c32_hi_v6)), (.int (0 : Int32)), (.ref bw32)])) _
    refine own_s_i2d Xw35.here hx (hb hby at_35) (pc' := 36) rfl (v := (FP.i2d (own_imax w3_c32_hi_v1 w3_c32_hi_v6))) rfl ?_
    refine stw36 _ ?_
    refine own_s_lloadN Xw36.here hx (hb hby at_37) (pc' := 38) rfl rfl ?_
    refine stw37 _ ?_
    show Steps p.tables e below (Tw37.setTop (mkF m 41 #[.val (.int p0), .val (.long p1), .second, .val (.long p2), .second, .val (.long p3), .second, .val (.long p4), .second, .val (.int (4 : Int32)), .val (.ref bw31), .val (.ref bw32), .unset, .unset, .unset, .unset] [(.double w3_c38_sd_v10)])) _
    refine own_s_dstore Xw37.here hx (hb hby at_41) (pc' := 43) rfl (L' := #[.val (.int p0), .val (.long p1), .second, .val (.long p2), .second, .val (.long p3), .second, .val (.long p4), .second, .val (.int (4 : Int32)), .val (.ref bw31), .val (.ref bw32), .val (.double w3_c38_sd_v10), .second, .unset, .unset]) rfl ?_
    refine own_s_iload Xw37.here hx (hb hby at_43) (pc' := 45) rfl rfl ?_
    refine own_s_iconst Xw37.here hx (hb hby at_45) (pc' := 46) rfl (v := (1 : Int32)) (by decide) ?_
    refine own_s_icmpNo Xw37.here hx (hb hby at_46) (pc' := 49) rfl (by decide) ?_
    refine own_s_aload Xw37.here hx (hb hby at_49) (pc' := 51) rfl rfl rfl ?_
    refine own_s_iconst Xw37.here hx (hb hby at_51) (pc' := 52) rfl (v := (1 : Int32)) (by decide) ?_
    refine own_s_lloadN Xw37.here hx (hb hby at_52) (pc' := 53) rfl rfl ?_
    refine stw38 _ ?_
    show Steps p.tables e below (Tw38.setTop (mkF m 56 #[.val (.int p0), .val (.long p1), .second, .val (.long p2), .second, .val (.long p3), .second, .val (.long p4), .second, .val (.int (4 : Int32)), .val (.ref bw31), .val (.ref bw32), .val (.double w3_c38_sd_v10), .second, .unset, .unset] [(.int (own_imin w3_c53_lo_v1 w3_c53_lo_v6)), (.int (1 : Int32)), (.ref bw31)])) _
    refine own_s_i2d Xw38.here hx (hb hby at_56) (pc' := 57) rfl (v := (FP.i2d (own_imin w3_c53_lo_v1 w3_c53_lo_v6))) rfl ?_
    refine stw39 _ ?_
    refine own_s_aload Xw39.here hx (hb hby at_58) (pc' := 60) rfl rfl rfl ?_
    refine own_s_iconst Xw39.here hx (hb hby at_60) (pc' := 61) rfl (v := (1 : Int32)) (by decide) ?_
    refine own_s_lloadN Xw39.here hx (hb hby at_61) (pc' := 62) rfl rfl ?_
    refine stw310 _ ?_
    show Steps p.tables e below (Tw310.setTop (mkF m 65 #[.val (.int p0), .val (.long p1), .second, .val (.long p2), .second, .val (.long p3), .second, .val (.long p4), .second, .val (.int (4 : Int32)), .val (.ref bw31), .val (.ref bw32), .val (.double w3_c38_sd_v10), .second, .unset, .unset] [(.int (own_imax w3_c62_hi_v1 w3_c62_hi_v6)), (.int (1 : Int32)), (.ref bw32)])) _
    refine own_s_i2d Xw310.here hx (hb hby at_65) (pc' := 66) rfl (v := (FP.i2d (own_imax w3_c62_hi_v1 w3_c62_hi_v6))) rfl ?_
    refine stw311 _ ?_
    refine own_s_dload Xw311.here hx (hb hby at_67) (pc' := 69) rfl rfl ?_
    refine own_s_lloadN Xw311.here hx (hb hby at_69) (pc' := 70) rfl rfl ?_
    refine stw312 _ ?_
    show Steps p.tables e below (Tw312.setTop (mkF m 73 #[.val (.int p0), .val (.long p1), .second, .val (.long p2), .second, .val (.long p3), .second, .val (.long p4), .second, .val (.int (4 : Int32)), .val (.ref bw31), .val (.ref bw32), .val (.double w3_c38_sd_v10), .second, .unset, .unset] [(.double w3_c70_sd_v10), (.double w3_c38_sd_v10)])) _
    refine own_s_dmul Xw312.here hx (hb hby at_73) (pc' := 74) rfl w3_hn73 (v := w3_v73) w3_hv73 ?_
    refine own_s_dstore Xw312.here hx (hb hby at_74) (pc' := 76) rfl (L' := #[.val (.int p0), .val (.long p1), .second, .val (.long p2), .second, .val (.long p3), .second, .val (.long p4), .second, .val (.int (4 : Int32)), .val (.ref bw31), .val (.ref bw32), .val (.double w3_v73), .second, .unset, .unset]) rfl ?_
    refine own_s_iload Xw312.here hx (hb hby at_76) (pc' := 78) rfl rfl ?_
    refine own_s_iconst Xw312.here hx (hb hby at_78) (pc' := 79) rfl (v := (2 : Int32)) (by decide) ?_
    refine own_s_icmpNo Xw312.here hx (hb hby at_79) (pc' := 82) rfl (by decide) ?_
    refine own_s_aload Xw312.here hx (hb hby at_82) (pc' := 84) rfl rfl rfl ?_
    refine own_s_iconst Xw312.here hx (hb hby at_84) (pc' := 85) rfl (v := (2 : Int32)) (by decide) ?_
    refine own_s_lload Xw312.here hx (hb hby at_85) (pc' := 87) rfl rfl ?_
    refine stw313 _ ?_
    show Steps p.tables e below (Tw313.setTop (mkF m 90 #[.val (.int p0), .val (.long p1), .second, .val (.long p2), .second, .val (.long p3), .second, .val (.long p4), .second, .val (.int (4 : Int32)), .val (.ref bw31), .val (.ref bw32), .val (.double w3_v73), .second, .unset, .unset] [(.int (own_imin w3_c87_lo_v1 w3_c87_lo_v6)), (.int (2 : Int32)), (.ref bw31)])) _
    refine own_s_i2d Xw313.here hx (hb hby at_90) (pc' := 91) rfl (v := (FP.i2d (own_imin w3_c87_lo_v1 w3_c87_lo_v6))) rfl ?_
    refine stw314 _ ?_
    refine own_s_aload Xw314.here hx (hb hby at_92) (pc' := 94) rfl rfl rfl ?_
    refine own_s_iconst Xw314.here hx (hb hby at_94) (pc' := 95) rfl (v := (2 : Int32)) (by decide) ?_
    refine own_s_lload Xw314.here hx (hb hby at_95) (pc' := 97) rfl rfl ?_
    refine stw315 _ ?_
    show Steps p.tables e below (Tw315.setTop (mkF m 100 #[.val (.int p0), .val (.long p1), .second, .val (.long p2), .second, .val (.long p3), .second, .val (.long p4), .second, .val (.int (4 : Int32)), .val (.ref bw31), .val (.ref bw32), .val (.double w3_v73), .second, .unset, .unset] [(.int (own_imax w3_c97_hi_v1 w3_c97_hi_v6)), (.int (2 : Int32)), (.ref bw32)])) _
    refine own_s_i2d Xw315.here hx (hb hby at_100) (pc' := 101) rfl (v := (FP.i2d (own_imax w3_c97_hi_v1 w3_c97_hi_v6))) rfl ?_
    refine stw316 _ ?_
    refine own_s_dload Xw316.here hx (hb hby at_102) (pc' := 104) rfl rfl ?_
    refine own_s_lload Xw316.here hx (hb hby at_104) (pc' := 106) rfl rfl ?_
    refine stw317 _ ?_
    show Steps p.tables e below (Tw317.setTop (mkF m 109 #[.val (.int p0), .val (.long p1), .second, .val (.long p2), .second, .val (.long p3), .second, .val (.long p4), .second, .val (.int (4 : Int32)), .val (.ref bw31), .val (.ref bw32), .val (.double w3_v73), .second, .unset, .unset] [(.double w3_c106_sd_v10), (.double w3_v73)])) _
    refine own_s_dmul Xw317.here hx (hb hby at_109) (pc' := 110) rfl w3_hn109 (v := w3_v109) w3_hv109 ?_
    refine own_s_dstore Xw317.here hx (hb hby at_110) (pc' := 112) rfl (L' := #[.val (.int p0), .val (.long p1), .second, .val (.long p2), .second, .val (.long p3), .second, .val (.long p4), .second, .val (.int (4 : Int32)), .val (.ref bw31), .val (.ref bw32), .val (.double w3_v109), .second, .unset, .unset]) rfl ?_
    refine own_s_iload Xw317.here hx (hb hby at_112) (pc' := 114) rfl rfl ?_
    refine own_s_iconst Xw317.here hx (hb hby at_114) (pc' := 115) rfl (v := (3 : Int32)) (by decide) ?_
    refine own_s_icmpNo Xw317.here hx (hb hby at_115) (pc' := 118) rfl (by decide) ?_
    refine own_s_aload Xw317.here hx (hb hby at_118) (pc' := 120) rfl rfl rfl ?_
    refine own_s_iconst Xw317.here hx (hb hby at_120) (pc' := 121) rfl (v := (3 : Int32)) (by decide) ?_
    refine own_s_lload Xw317.here hx (hb hby at_121) (pc' := 123) rfl rfl ?_
    refine stw318 _ ?_
    show Steps p.tables e below (Tw318.setTop (mkF m 126 #[.val (.int p0), .val (.long p1), .second, .val (.long p2), .second, .val (.long p3), .second, .val (.long p4), .second, .val (.int (4 : Int32)), .val (.ref bw31), .val (.ref bw32), .val (.double w3_v109), .second, .unset, .unset] [(.int (own_imin w3_c123_lo_v1 w3_c123_lo_v6)), (.int (3 : Int32)), (.ref bw31)])) _
    refine own_s_i2d Xw318.here hx (hb hby at_126) (pc' := 127) rfl (v := (FP.i2d (own_imin w3_c123_lo_v1 w3_c123_lo_v6))) rfl ?_
    refine stw319 _ ?_
    refine own_s_aload Xw319.here hx (hb hby at_128) (pc' := 130) rfl rfl rfl ?_
    refine own_s_iconst Xw319.here hx (hb hby at_130) (pc' := 131) rfl (v := (3 : Int32)) (by decide) ?_
    refine own_s_lload Xw319.here hx (hb hby at_131) (pc' := 133) rfl rfl ?_
    refine stw320 _ ?_
    show Steps p.tables e below (Tw320.setTop (mkF m 136 #[.val (.int p0), .val (.long p1), .second, .val (.long p2), .second, .val (.long p3), .second, .val (.long p4), .second, .val (.int (4 : Int32)), .val (.ref bw31), .val (.ref bw32), .val (.double w3_v109), .second, .unset, .unset] [(.int (own_imax w3_c133_hi_v1 w3_c133_hi_v6)), (.int (3 : Int32)), (.ref bw32)])) _
    refine own_s_i2d Xw320.here hx (hb hby at_136) (pc' := 137) rfl (v := (FP.i2d (own_imax w3_c133_hi_v1 w3_c133_hi_v6))) rfl ?_
    refine stw321 _ ?_
    refine own_s_dload Xw321.here hx (hb hby at_138) (pc' := 140) rfl rfl ?_
    refine own_s_lload Xw321.here hx (hb hby at_140) (pc' := 142) rfl rfl ?_
    refine stw322 _ ?_
    show Steps p.tables e below (Tw322.setTop (mkF m 145 #[.val (.int p0), .val (.long p1), .second, .val (.long p2), .second, .val (.long p3), .second, .val (.long p4), .second, .val (.int (4 : Int32)), .val (.ref bw31), .val (.ref bw32), .val (.double w3_v109), .second, .unset, .unset] [(.double w3_c142_sd_v10), (.double w3_v109)])) _
    refine own_s_dmul Xw322.here hx (hb hby at_145) (pc' := 146) rfl w3_hn145 (v := w3_v145) w3_hv145 ?_
    refine own_s_dstore Xw322.here hx (hb hby at_146) (pc' := 148) rfl (L' := #[.val (.int p0), .val (.long p1), .second, .val (.long p2), .second, .val (.long p3), .second, .val (.long p4), .second, .val (.int (4 : Int32)), .val (.ref bw31), .val (.ref bw32), .val (.double w3_v145), .second, .unset, .unset]) rfl ?_
    refine own_s_aload Xw322.here hx (hb hby at_148) (pc' := 150) rfl rfl rfl ?_
    refine own_s_aload Xw322.here hx (hb hby at_150) (pc' := 152) rfl rfl rfl ?_
    refine stw323 _ ?_
    show Steps p.tables e below (Tw323.setTop (mkF m 155 #[.val (.int p0), .val (.long p1), .second, .val (.long p2), .second, .val (.long p3), .second, .val (.long p4), .second, .val (.int (4 : Int32)), .val (.ref bw31), .val (.ref bw32), .val (.double w3_v145), .second, .unset, .unset] [(.double w3_c152_c3_v22_4)])) _
    refine own_s_dstore Xw323.here hx (hb hby at_155) (pc' := 157) rfl (L' := #[.val (.int p0), .val (.long p1), .second, .val (.long p2), .second, .val (.long p3), .second, .val (.long p4), .second, .val (.int (4 : Int32)), .val (.ref bw31), .val (.ref bw32), .val (.double w3_v145), .second, .val (.double w3_c152_c3_v22_4), .second]) rfl ?_
    refine own_s_dload Xw323.here hx (hb hby at_157) (pc' := 159) rfl rfl ?_
    refine own_s_dload Xw323.here hx (hb hby at_159) (pc' := 161) rfl rfl ?_
    refine own_s_dcmp Xw323.here hx (hb hby at_161) (pc' := 162) rfl (v := (0 : Int32)) w3_hc161 ?_
    refine own_s_ifNo Xw323.here hx (hb hby at_162) (pc' := 165) rfl (by decide) ?_
    refine own_s_iconst Xw323.here hx (hb hby at_165) (pc' := 166) rfl (v := (1 : Int32)) (by decide) ?_
    refine own_s_goto Xw323.here hx (hb hby at_166) (by decide) (pc' := 170) (by decide) ?_
    exact retN Xw323 hx (t := .boolean) Bd.returns (by simp) (hb hby at_170) hr
  · show own_Q0 n0 _ Tw323.heap _
    rw [ew323]
    exact ⟨rfl, Nw323⟩
set_option maxRecDepth 65536 in
set_option maxHeartbeats 40000000 in
theorem own_rm0 (l : Launch) (Z : State) (a0 : Array Value) (hw : ∀ d ∈ tables_1, d.before a0 Z = true) (ws : List Jvm.Cond) (p0 : Int32) (p1 : Int64) (p2 : Int64) (p3 : Int64) (p4 : Int64) (h0 : Heap) (n0 : Nat) (Z0 : n0 ≤ h0.size)  :
    MetFree l x (head1 (Jvm.Cond.code x code maxLocals ret :: ws) room_1) (fun a U => a = #[(.int p0), (.long p1), (.long p2), (.long p3), (.long p4)] ∧ Z.Warmed39 U.vm ∧ U.heap = h0) (fun _ _ _ _ _ => True) (fun _ U o U' => ∃ v L, o = .returned v ∧ own_Q0 n0 v U'.heap L ∧ FrameEnd U o U' L room_1.cells room_1.slots) := by
  rcases own_mask3 p0 with hn | hn | hn | hn
  · exact own_rm_w0 l Z a0 hw ws p0 p1 p2 p3 p4 h0 n0 Z0 (w0_hv3 := hn) (w0_c23_lo_hv1 := rfl) (w0_c23_lo_hv5 := rfl) (w0_c23_lo_hv6 := rfl) (w0_c32_hi_hv1 := rfl) (w0_c32_hi_hv5 := rfl) (w0_c32_hi_hv6 := rfl) (w0_c38_sd_c1_hi_hv1 := rfl) (w0_c38_sd_c1_hi_hv5 := rfl) (w0_c38_sd_c1_hi_hv6 := rfl) (w0_c38_sd_c6_lo_hv1 := rfl) (w0_c38_sd_c6_lo_hv5 := rfl) (w0_c38_sd_c6_lo_hv6 := rfl) (w0_c38_sd_hn10 := (own_mag_nn (own_mag_sub _ _))) (w0_c38_sd_hv10 := rfl) (w0_c152_c0_hn21 := (own_mag_nn (own_mag_sub _ _))) (w0_c152_c0_hv21 := rfl) (w0_c152_c0_hn22 := (own_mag_nn (own_mag_mul own_mag_one (own_mag_sub _ _) (by decide)))) (w0_c152_c0_hv22 := rfl) (w0_hc161 := (dcmpV_eq (by rw [own_one_mul (own_mag_nn (own_mag_sub _ _))]) (own_mag_nn (own_mag_mul own_mag_one (own_mag_sub _ _) (by decide))) _))
  · exact own_rm_w1 l Z a0 hw ws p0 p1 p2 p3 p4 h0 n0 Z0 (w1_hv3 := hn) (w1_c23_lo_hv1 := rfl) (w1_c23_lo_hv5 := rfl) (w1_c23_lo_hv6 := rfl) (w1_c32_hi_hv1 := rfl) (w1_c32_hi_hv5 := rfl) (w1_c32_hi_hv6 := rfl) (w1_c38_sd_c1_hi_hv1 := rfl) (w1_c38_sd_c1_hi_hv5 := rfl) (w1_c38_sd_c1_hi_hv6 := rfl) (w1_c38_sd_c6_lo_hv1 := rfl) (w1_c38_sd_c6_lo_hv5 := rfl) (w1_c38_sd_c6_lo_hv6 := rfl) (w1_c38_sd_hn10 := (own_mag_nn (own_mag_sub _ _))) (w1_c38_sd_hv10 := rfl) (w1_c53_lo_hv1 := rfl) (w1_c53_lo_hv5 := rfl) (w1_c53_lo_hv6 := rfl) (w1_c62_hi_hv1 := rfl) (w1_c62_hi_hv5 := rfl) (w1_c62_hi_hv6 := rfl) (w1_c70_sd_c1_hi_hv1 := rfl) (w1_c70_sd_c1_hi_hv5 := rfl) (w1_c70_sd_c1_hi_hv6 := rfl) (w1_c70_sd_c6_lo_hv1 := rfl) (w1_c70_sd_c6_lo_hv5 := rfl) (w1_c70_sd_c6_lo_hv6 := rfl) (w1_c70_sd_hn10 := (own_mag_nn (own_mag_sub _ _))) (w1_c70_sd_hv10 := rfl) (w1_hn73 := (own_mag_nn (own_mag_mul (own_mag_sub _ _) (own_mag_sub _ _) (by decide)))) (w1_hv73 := rfl) (w1_c152_c1_hn21 := (own_mag_nn (own_mag_sub _ _))) (w1_c152_c1_hv21 := rfl) (w1_c152_c1_hn22 := (own_mag_nn (own_mag_mul own_mag_one (own_mag_sub _ _) (by decide)))) (w1_c152_c1_hv22 := rfl) (w1_c152_c1_hn21_2 := (own_mag_nn (own_mag_sub _ _))) (w1_c152_c1_hv21_2 := rfl) (w1_c152_c1_hn22_2 := (own_mag_nn (own_mag_mul (own_mag_mul own_mag_one (own_mag_sub _ _) (by decide)) (own_mag_sub _ _) (by decide)))) (w1_c152_c1_hv22_2 := rfl) (w1_hc161 := (dcmpV_eq (by rw [own_one_mul (own_mag_nn (own_mag_sub _ _))]) (own_mag_nn (own_mag_mul (own_mag_mul own_mag_one (own_mag_sub _ _) (by decide)) (own_mag_sub _ _) (by decide))) _))
  · exact own_rm_w2 l Z a0 hw ws p0 p1 p2 p3 p4 h0 n0 Z0 (w2_hv3 := hn) (w2_c23_lo_hv1 := rfl) (w2_c23_lo_hv5 := rfl) (w2_c23_lo_hv6 := rfl) (w2_c32_hi_hv1 := rfl) (w2_c32_hi_hv5 := rfl) (w2_c32_hi_hv6 := rfl) (w2_c38_sd_c1_hi_hv1 := rfl) (w2_c38_sd_c1_hi_hv5 := rfl) (w2_c38_sd_c1_hi_hv6 := rfl) (w2_c38_sd_c6_lo_hv1 := rfl) (w2_c38_sd_c6_lo_hv5 := rfl) (w2_c38_sd_c6_lo_hv6 := rfl) (w2_c38_sd_hn10 := (own_mag_nn (own_mag_sub _ _))) (w2_c38_sd_hv10 := rfl) (w2_c53_lo_hv1 := rfl) (w2_c53_lo_hv5 := rfl) (w2_c53_lo_hv6 := rfl) (w2_c62_hi_hv1 := rfl) (w2_c62_hi_hv5 := rfl) (w2_c62_hi_hv6 := rfl) (w2_c70_sd_c1_hi_hv1 := rfl) (w2_c70_sd_c1_hi_hv5 := rfl) (w2_c70_sd_c1_hi_hv6 := rfl) (w2_c70_sd_c6_lo_hv1 := rfl) (w2_c70_sd_c6_lo_hv5 := rfl) (w2_c70_sd_c6_lo_hv6 := rfl) (w2_c70_sd_hn10 := (own_mag_nn (own_mag_sub _ _))) (w2_c70_sd_hv10 := rfl) (w2_hn73 := (own_mag_nn (own_mag_mul (own_mag_sub _ _) (own_mag_sub _ _) (by decide)))) (w2_hv73 := rfl) (w2_c87_lo_hv1 := rfl) (w2_c87_lo_hv5 := rfl) (w2_c87_lo_hv6 := rfl) (w2_c97_hi_hv1 := rfl) (w2_c97_hi_hv5 := rfl) (w2_c97_hi_hv6 := rfl) (w2_c106_sd_c1_hi_hv1 := rfl) (w2_c106_sd_c1_hi_hv5 := rfl) (w2_c106_sd_c1_hi_hv6 := rfl) (w2_c106_sd_c6_lo_hv1 := rfl) (w2_c106_sd_c6_lo_hv5 := rfl) (w2_c106_sd_c6_lo_hv6 := rfl) (w2_c106_sd_hn10 := (own_mag_nn (own_mag_sub _ _))) (w2_c106_sd_hv10 := rfl) (w2_hn109 := (own_mag_nn (own_mag_mul (own_mag_mul (own_mag_sub _ _) (own_mag_sub _ _) (by decide)) (own_mag_sub _ _) (by decide)))) (w2_hv109 := rfl) (w2_c152_c2_hn21 := (own_mag_nn (own_mag_sub _ _))) (w2_c152_c2_hv21 := rfl) (w2_c152_c2_hn22 := (own_mag_nn (own_mag_mul own_mag_one (own_mag_sub _ _) (by decide)))) (w2_c152_c2_hv22 := rfl) (w2_c152_c2_hn21_2 := (own_mag_nn (own_mag_sub _ _))) (w2_c152_c2_hv21_2 := rfl) (w2_c152_c2_hn22_2 := (own_mag_nn (own_mag_mul (own_mag_mul own_mag_one (own_mag_sub _ _) (by decide)) (own_mag_sub _ _) (by decide)))) (w2_c152_c2_hv22_2 := rfl) (w2_c152_c2_hn21_3 := (own_mag_nn (own_mag_sub _ _))) (w2_c152_c2_hv21_3 := rfl) (w2_c152_c2_hn22_3 := (own_mag_nn (own_mag_mul (own_mag_mul (own_mag_mul own_mag_one (own_mag_sub _ _) (by decide)) (own_mag_sub _ _) (by decide)) (own_mag_sub _ _) (by decide)))) (w2_c152_c2_hv22_3 := rfl) (w2_hc161 := (dcmpV_eq (by rw [own_one_mul (own_mag_nn (own_mag_sub _ _))]) (own_mag_nn (own_mag_mul (own_mag_mul (own_mag_mul own_mag_one (own_mag_sub _ _) (by decide)) (own_mag_sub _ _) (by decide)) (own_mag_sub _ _) (by decide))) _))
  · exact own_rm_w3 l Z a0 hw ws p0 p1 p2 p3 p4 h0 n0 Z0 (w3_hv3 := hn) (w3_c23_lo_hv1 := rfl) (w3_c23_lo_hv5 := rfl) (w3_c23_lo_hv6 := rfl) (w3_c32_hi_hv1 := rfl) (w3_c32_hi_hv5 := rfl) (w3_c32_hi_hv6 := rfl) (w3_c38_sd_c1_hi_hv1 := rfl) (w3_c38_sd_c1_hi_hv5 := rfl) (w3_c38_sd_c1_hi_hv6 := rfl) (w3_c38_sd_c6_lo_hv1 := rfl) (w3_c38_sd_c6_lo_hv5 := rfl) (w3_c38_sd_c6_lo_hv6 := rfl) (w3_c38_sd_hn10 := (own_mag_nn (own_mag_sub _ _))) (w3_c38_sd_hv10 := rfl) (w3_c53_lo_hv1 := rfl) (w3_c53_lo_hv5 := rfl) (w3_c53_lo_hv6 := rfl) (w3_c62_hi_hv1 := rfl) (w3_c62_hi_hv5 := rfl) (w3_c62_hi_hv6 := rfl) (w3_c70_sd_c1_hi_hv1 := rfl) (w3_c70_sd_c1_hi_hv5 := rfl) (w3_c70_sd_c1_hi_hv6 := rfl) (w3_c70_sd_c6_lo_hv1 := rfl) (w3_c70_sd_c6_lo_hv5 := rfl) (w3_c70_sd_c6_lo_hv6 := rfl) (w3_c70_sd_hn10 := (own_mag_nn (own_mag_sub _ _))) (w3_c70_sd_hv10 := rfl) (w3_hn73 := (own_mag_nn (own_mag_mul (own_mag_sub _ _) (own_mag_sub _ _) (by decide)))) (w3_hv73 := rfl) (w3_c87_lo_hv1 := rfl) (w3_c87_lo_hv5 := rfl) (w3_c87_lo_hv6 := rfl) (w3_c97_hi_hv1 := rfl) (w3_c97_hi_hv5 := rfl) (w3_c97_hi_hv6 := rfl) (w3_c106_sd_c1_hi_hv1 := rfl) (w3_c106_sd_c1_hi_hv5 := rfl) (w3_c106_sd_c1_hi_hv6 := rfl) (w3_c106_sd_c6_lo_hv1 := rfl) (w3_c106_sd_c6_lo_hv5 := rfl) (w3_c106_sd_c6_lo_hv6 := rfl) (w3_c106_sd_hn10 := (own_mag_nn (own_mag_sub _ _))) (w3_c106_sd_hv10 := rfl) (w3_hn109 := (own_mag_nn (own_mag_mul (own_mag_mul (own_mag_sub _ _) (own_mag_sub _ _) (by decide)) (own_mag_sub _ _) (by decide)))) (w3_hv109 := rfl) (w3_c123_lo_hv1 := rfl) (w3_c123_lo_hv5 := rfl) (w3_c123_lo_hv6 := rfl) (w3_c133_hi_hv1 := rfl) (w3_c133_hi_hv5 := rfl) (w3_c133_hi_hv6 := rfl) (w3_c142_sd_c1_hi_hv1 := rfl) (w3_c142_sd_c1_hi_hv5 := rfl) (w3_c142_sd_c1_hi_hv6 := rfl) (w3_c142_sd_c6_lo_hv1 := rfl) (w3_c142_sd_c6_lo_hv5 := rfl) (w3_c142_sd_c6_lo_hv6 := rfl) (w3_c142_sd_hn10 := (own_mag_nn (own_mag_sub _ _))) (w3_c142_sd_hv10 := rfl) (w3_hn145 := (own_mag_nn (own_mag_mul (own_mag_mul (own_mag_mul (own_mag_sub _ _) (own_mag_sub _ _) (by decide)) (own_mag_sub _ _) (by decide)) (own_mag_sub _ _) (by decide)))) (w3_hv145 := rfl) (w3_c152_c3_hn21 := (own_mag_nn (own_mag_sub _ _))) (w3_c152_c3_hv21 := rfl) (w3_c152_c3_hn22 := (own_mag_nn (own_mag_mul own_mag_one (own_mag_sub _ _) (by decide)))) (w3_c152_c3_hv22 := rfl) (w3_c152_c3_hn21_2 := (own_mag_nn (own_mag_sub _ _))) (w3_c152_c3_hv21_2 := rfl) (w3_c152_c3_hn22_2 := (own_mag_nn (own_mag_mul (own_mag_mul own_mag_one (own_mag_sub _ _) (by decide)) (own_mag_sub _ _) (by decide)))) (w3_c152_c3_hv22_2 := rfl) (w3_c152_c3_hn21_3 := (own_mag_nn (own_mag_sub _ _))) (w3_c152_c3_hv21_3 := rfl) (w3_c152_c3_hn22_3 := (own_mag_nn (own_mag_mul (own_mag_mul (own_mag_mul own_mag_one (own_mag_sub _ _) (by decide)) (own_mag_sub _ _) (by decide)) (own_mag_sub _ _) (by decide)))) (w3_c152_c3_hv22_3 := rfl) (w3_c152_c3_hn21_4 := (own_mag_nn (own_mag_sub _ _))) (w3_c152_c3_hv21_4 := rfl) (w3_c152_c3_hn22_4 := (own_mag_nn (own_mag_mul (own_mag_mul (own_mag_mul (own_mag_mul own_mag_one (own_mag_sub _ _) (by decide)) (own_mag_sub _ _) (by decide)) (own_mag_sub _ _) (by decide)) (own_mag_sub _ _) (by decide)))) (w3_c152_c3_hv22_4 := rfl) (w3_hc161 := (dcmpV_eq (by rw [own_one_mul (own_mag_nn (own_mag_sub _ _))]) (own_mag_nn (own_mag_mul (own_mag_mul (own_mag_mul (own_mag_mul own_mag_one (own_mag_sub _ _) (by decide)) (own_mag_sub _ _) (by decide)) (own_mag_sub _ _) (by decide)) (own_mag_sub _ _) (by decide))) _))
set_option maxRecDepth 65536 in
set_option maxHeartbeats 40000000 in
theorem comes_1 {Post : Tables → Env → Array Value → State → Outcome → State → Prop} (hpost : ∀ tb e args s v u, (limb_1_1.after args s (.returned v) u = true ∧ limb_1_2.after args s (.returned v) u = true ∧ True) → FrameEnd s (.returned v) u (Jvm.fieldLocs frame_1_writes args s ++ Jvm.arrayLocs frame_1_arrays args s ++ Jvm.staticLocs frame_1_statics s) 16 128 → Post tb e args s (.returned v) u) :
    ArmFor flags0 classFile x code maxLocals ret World_1 tables_1 room_1 Calls_1 rest_1 Pre_1 Post := by
  intro l hfl _ _ p e ha hc hk s m args below hf hA hF happ hP
  obtain ⟨hcalls, hrest, hpre⟩ := hP
  obtain ⟨-, -, -, hnamed, -, -, -, hat⟩ := (Spec.applies_iff hf).mp happ
  obtain ⟨hg, hn⟩ := and_e (Cond.before_iff.mp (show (Jvm.Cond.and given_1 narrow_1).before args s = true from hpre))
  obtain ⟨hcount, g0⟩ := and_e hg
  obtain ⟨a0, g1⟩ := and_e g0
  obtain ⟨a1, g2⟩ := and_e g1
  obtain ⟨a2, g3⟩ := and_e g2
  obtain ⟨a3, g4⟩ := and_e g3
  have a4 := g4
  obtain ⟨w0, w1, w2, w3, w4, rfl⟩ : ∃ w0 w1 w2 w3 w4 : Value, args = #[w0, w1, w2, w3, w4] := by
    have hs : args.size = 5 := by simpa [Cond.value, given_1] using hcount
    obtain ⟨L⟩ := args
    match L, hs with
    | [w0, w1, w2, w3, w4], _ => exact ⟨w0, w1, w2, w3, w4, rfl⟩
  have hw := fun d (hd : d ∈ tables_1) => atoms_spec (ws := Jvm.Cond.code x code maxLocals ret :: tables_1) hat d (List.mem_cons_of_mem _ hd)
  obtain ⟨i0, ei0⟩ := is_v a0
  obtain rfl : w0 = (.int i0) := Option.some.inj ei0
  obtain ⟨i1, ei1⟩ := isL_v a1
  obtain rfl : w1 = (.long i1) := Option.some.inj ei1
  obtain ⟨i2, ei2⟩ := isL_v a2
  obtain rfl : w2 = (.long i2) := Option.some.inj ei2
  obtain ⟨i3, ei3⟩ := isL_v a3
  obtain rfl : w3 = (.long i3) := Option.some.inj ei3
  obtain ⟨i4, ei4⟩ := isL_v a4
  obtain rfl : w4 = (.long i4) := Option.some.inj ei4
  obtain ⟨n, o, h1, h2, h3, _, L, rfl, ⟨rfl, N⟩, hq⟩ := own_rm0 l s _ hw tables_1 i0 i1 i2 i3 i4 s.heap s.heap.size (Nat.le_refl _)  p e ha hc hk s m _ below hf ((Spec.applies_iff_loose hf).mp happ).1 ⟨rfl, State.Warmed39.refl s, rfl⟩ trivial
  refine ⟨n, _, h1, h2, h3, hpost _ _ _ _ _ _ ⟨Cond.after_iff.mpr rfl, Cond.after_iff.mpr (eq_i res_at (Term.int_eval (1)) rfl), trivial⟩ ⟨hq.1, hq.2.1, (hq.2.2.sift fun y hy => Or.inr (N y hy)).mono (by decide) (by decide)⟩⟩
theorem main_1_1 : Claimed_1_1 := comes_1 fun _ _ _ _ _ _ h hF => ⟨h.1, hF⟩
theorem main_1_2 : Claimed_1_2 := comes_1 fun _ _ _ _ _ _ h hF => ⟨h.2.1, hF⟩
end Jvm.Pilot.@@N@@
namespace Jvm.Pilot.@@N@@
open Jvm Jvm.ClassFile Sem Op Lib Jvm.Free Jvm.Stand Jvm.Pilot.@@N@@.Jvm.D
/-! MADE BY PROGRAM (witnessworld.py) out of the Statement's table words and the real class files: 12 classes; the members and pool entries that the words name. The judged class is class 1, her method 4. -/
namespace start1
open Jvm.ClassFile
def u (s : String) : CpInfo := .utf8 (stringToUtf16 s)
/-- a pool by its gaps: so many unusable entries, then the entry; so many at the end -/
def gap : Nat → List CpInfo → List CpInfo
  | 0, r => r
  | n + 1, r => .unusable :: gap n r
def poolList (es : List (Nat × CpInfo)) (last : Nat) : List CpInfo := es.foldr (fun e r => gap e.1 (e.2 :: r)) (gap last [])
def pool (es : List (Nat × CpInfo)) (last : Nat) : Array CpInfo := ⟨poolList es last⟩
def fileOf (pool : Array CpInfo) (this : Nat) (attrs : Array Attribute := #[]) (ms : Array MethodInfo := #[]) (fl : Nat := 33) (sup : Nat := 0) (ifs : Array Nat := #[]) (fds : Array FieldInfo := #[]) : ClassFile where
  minorVersion := 0
  majorVersion := 65
  constantPool := pool
  accessFlags := fl
  thisClass := this
  superClass := sup
  interfaces := ifs
  fields := fds
  methods := ms
  attributes := attrs
def plain (name : String) (sup : Option ClassId) : Class where
  name := name
  kind := .ordinary
  loader := none
  accessFlags := 33
  super := sup
  interfaces := #[]
  cf := none
  fields := #[]
  methods := #[]
  instanceTypes := #[]
  staticTypes := #[]
  resolved := #[]
  callSites := []
  init := .initialized
  statics := none
  mirror := none

def pool0 : Array CpInfo := pool [(5, u "<init>"), (0, u "()V"), (1, .class_ 10), (1, u "java/lang/Object")] 113

def k0m0 : Method := { name := "<init>", desc := "()V", sig := { parameters := [], returnType := none }, accessFlags := 1, code := none }
/-- java/lang/Object -/
def k0 : Class := { plain "java/lang/Object" none with
  accessFlags := 33
  interfaces := #[]
  cf := some (fileOf pool0 8 #[] #[{ accessFlags := 1, nameIndex := 5, descriptorIndex := 6, attributes := #[] }] 33 0 #[] #[])
  fields := #[]
  methods := #[k0m0]
  instanceTypes := #[]
  staticTypes := #[]
  resolved := Array.replicate 124 none
  statics := none }

def pool1 : Array CpInfo := pool [(2, .class_ 4), (1, u "java/lang/Object"), (0, u "<init>"), (0, u "()V"), (0, .methodref 8 9), (0, .class_ 10), (0, .nameAndType 11 12), (0, u "java/lang/Math"), (0, u "min"), (0, u "(II)I"), (0, .methodref 8 14), (0, .nameAndType 15 12), (0, u "max"), (0, .methodref 17 18), (0, .class_ 19), (0, .nameAndType 20 21), (0, u "com/example/thicket/thicket/core/BoxVolumePinLaw"), (0, u "hi"), (0, u "(J)I"), (0, .methodref 17 23), (0, .nameAndType 24 21), (0, u "lo"), (0, .methodref 17 26), (0, .nameAndType 27 28), (0, u "side"), (0, u "(J)D"), (0, .methodref 30 31), (0, .class_ 32), (0, .nameAndType 33 34), (0, u "com/example/thicket/thicket/core/Box"), (0, u "volume"), (0, u "([D[D)D"), (2, u "law"), (0, u "(IJJJJ)Z")] 5

def k1m0 : Method := { name := "<init>", desc := "()V", sig := { parameters := [], returnType := none }, accessFlags := 1, code := none }
def k1c1 : Code := { maxStack := 4, maxLocals := 2, code := method_2_code, exceptionTable := #[], attributes := #[] }
def k1m1 : Method := { name := "lo", desc := "(J)I", sig := { parameters := [.long], returnType := some .int }, accessFlags := 10, code := some k1c1 }
def k1c2 : Code := { maxStack := 4, maxLocals := 2, code := method_3_code, exceptionTable := #[], attributes := #[] }
def k1m2 : Method := { name := "hi", desc := "(J)I", sig := { parameters := [.long], returnType := some .int }, accessFlags := 10, code := some k1c2 }
def k1c3 : Code := { maxStack := 4, maxLocals := 2, code := method_4_code, exceptionTable := #[], attributes := #[] }
def k1m3 : Method := { name := "side", desc := "(J)D", sig := { parameters := [.long], returnType := some .double }, accessFlags := 10, code := some k1c3 }
def k1c4 : Code := { maxStack := 4, maxLocals := 16, code := code, exceptionTable := #[], attributes := #[] }
def k1m4 : Method := { name := "law", desc := "(IJJJJ)Z", sig := { parameters := [.int, .long, .long, .long, .long], returnType := some .boolean }, accessFlags := 9, code := some k1c4 }
/-- com/example/thicket/thicket/core/BoxVolumePinLaw -/
def k1 : Class := { plain "com/example/thicket/thicket/core/BoxVolumePinLaw" (some 0) with
  accessFlags := 49
  interfaces := #[]
  cf := some (fileOf pool1 17 #[] #[{ accessFlags := 1, nameIndex := 5, descriptorIndex := 6, attributes := #[] }, { accessFlags := 10, nameIndex := 24, descriptorIndex := 21, attributes := #[] }, { accessFlags := 10, nameIndex := 20, descriptorIndex := 21, attributes := #[] }, { accessFlags := 10, nameIndex := 27, descriptorIndex := 28, attributes := #[] }, { accessFlags := 9, nameIndex := 37, descriptorIndex := 38, attributes := #[] }] 49 2 #[] #[])
  fields := #[]
  methods := #[k1m0, k1m1, k1m2, k1m3, k1m4]
  instanceTypes := #[]
  staticTypes := #[]
  resolved := Array.replicate 44 none
  statics := none }

def pool2 : Array CpInfo := pool [(1, .class_ 2), (0, u "java/lang/Math"), (1, .class_ 6), (1, u "java/lang/Object"), (0, u "<init>"), (0, u "()V"), (89, .class_ 100), (1, u "java/lang/Math$RandomNumberGeneratorHolder"), (71, u "negativeZeroFloatBits"), (0, u "J"), (2, u "negativeZeroDoubleBits"), (21, u "max"), (2, u "min"), (43, u "$assertionsDisabled"), (0, u "Z"), (88, u "(II)I"), (2, u "twoToTheDoubleScaleDown"), (0, u "D"), (4, u "twoToTheDoubleScaleUp"), (9, u "E"), (3, u "PI"), (2, u "TAU"), (2, u "DEGREES_TO_RADIANS"), (0, u "RADIANS_TO_DEGREES")] 94

def k2m0 : Method := { name := "<init>", desc := "()V", sig := { parameters := [], returnType := none }, accessFlags := 2, code := none }
def k2c1 : Code := { maxStack := 2, maxLocals := 2, code := jdk_29_method_65_code, exceptionTable := #[], attributes := #[] }
def k2m1 : Method := { name := "max", desc := "(II)I", sig := { parameters := [.int, .int], returnType := some .int }, accessFlags := 9, code := some k2c1 }
def k2c2 : Code := { maxStack := 2, maxLocals := 2, code := jdk_29_method_69_code, exceptionTable := #[], attributes := #[] }
def k2m2 : Method := { name := "min", desc := "(II)I", sig := { parameters := [.int, .int], returnType := some .int }, accessFlags := 9, code := some k2c2 }
/-- java/lang/Math -/
def k2 : Class := { plain "java/lang/Math" (some 0) with
  accessFlags := 49
  interfaces := #[]
  cf := some (fileOf pool2 1 #[.nestMembers #[98]] #[{ accessFlags := 2, nameIndex := 7, descriptorIndex := 8, attributes := #[] }, { accessFlags := 9, nameIndex := 198, descriptorIndex := 335, attributes := #[] }, { accessFlags := 9, nameIndex := 201, descriptorIndex := 335, attributes := #[] }] 49 4 #[] #[{ accessFlags := 25, nameIndex := 354, descriptorIndex := 339, attributes := #[] }, { accessFlags := 25, nameIndex := 358, descriptorIndex := 339, attributes := #[] }, { accessFlags := 25, nameIndex := 361, descriptorIndex := 339, attributes := #[] }, { accessFlags := 26, nameIndex := 364, descriptorIndex := 339, attributes := #[] }, { accessFlags := 26, nameIndex := 365, descriptorIndex := 339, attributes := #[] }, { accessFlags := 26, nameIndex := 172, descriptorIndex := 173, attributes := #[] }, { accessFlags := 26, nameIndex := 176, descriptorIndex := 173, attributes := #[] }, { accessFlags := 8, nameIndex := 344, descriptorIndex := 339, attributes := #[] }, { accessFlags := 8, nameIndex := 338, descriptorIndex := 339, attributes := #[] }, { accessFlags := 4120, nameIndex := 245, descriptorIndex := 246, attributes := #[] }])
  fields := #[{ name := "E", type := .double, accessFlags := 25, slot := 0, constantValue := 0 }, { name := "PI", type := .double, accessFlags := 25, slot := 1, constantValue := 0 }, { name := "TAU", type := .double, accessFlags := 25, slot := 2, constantValue := 0 }, { name := "DEGREES_TO_RADIANS", type := .double, accessFlags := 26, slot := 3, constantValue := 0 }, { name := "RADIANS_TO_DEGREES", type := .double, accessFlags := 26, slot := 4, constantValue := 0 }, { name := "negativeZeroFloatBits", type := .long, accessFlags := 26, slot := 5, constantValue := 0 }, { name := "negativeZeroDoubleBits", type := .long, accessFlags := 26, slot := 6, constantValue := 0 }, { name := "twoToTheDoubleScaleUp", type := .double, accessFlags := 8, slot := 7, constantValue := 0 }, { name := "twoToTheDoubleScaleDown", type := .double, accessFlags := 8, slot := 8, constantValue := 0 }, { name := "$assertionsDisabled", type := .boolean, accessFlags := 4120, slot := 9, constantValue := 0 }]
  methods := #[k2m0, k2m1, k2m2]
  instanceTypes := #[]
  staticTypes := #[.double, .double, .double, .double, .double, .long, .long, .double, .double, .boolean]
  resolved := Array.replicate 460 none
  statics := none }

def pool3 : Array CpInfo := pool [(2, .class_ 4), (1, u "java/lang/Object"), (5, u "[D"), (3, .class_ 16), (1, u "com/example/thicket/thicket/core/Box"), (0, u "min"), (2, u "max"), (21, u "volume"), (0, u "([D[D)D")] 102

def k3c0 : Code := { maxStack := 6, maxLocals := 5, code := prog_2_method_8_code, exceptionTable := #[], attributes := #[] }
def k3m0 : Method := { name := "volume", desc := "([D[D)D", sig := { parameters := [(.array .double), (.array .double)], returnType := some .double }, accessFlags := 8, code := some k3c0 }
/-- com/example/thicket/thicket/core/Box -/
def k3 : Class := { plain "com/example/thicket/thicket/core/Box" (some 0) with
  accessFlags := 49
  interfaces := #[]
  cf := some (fileOf pool3 14 #[] #[{ accessFlags := 8, nameIndex := 42, descriptorIndex := 43, attributes := #[] }] 49 2 #[] #[{ accessFlags := 18, nameIndex := 17, descriptorIndex := 10, attributes := #[] }, { accessFlags := 18, nameIndex := 20, descriptorIndex := 10, attributes := #[] }])
  fields := #[{ name := "min", type := (.array .double), accessFlags := 18, slot := 0, constantValue := 0 }, { name := "max", type := (.array .double), accessFlags := 18, slot := 1, constantValue := 0 }]
  methods := #[k3m0]
  instanceTypes := #[(.array .double), (.array .double)]
  staticTypes := #[]
  resolved := Array.replicate 146 none
  statics := none }

def pool4 : Array CpInfo := pool [(1, u "java/lang/Cloneable"), (0, .class_ 1), (0, u "java/lang/Object"), (0, .class_ 3)] 3

/-- java/lang/Cloneable -/
def k4 : Class := { plain "java/lang/Cloneable" (some 0) with
  accessFlags := 1537
  interfaces := #[]
  cf := some (fileOf pool4 2 #[] #[] 1537 4 #[] #[])
  fields := #[]
  methods := #[]
  instanceTypes := #[]
  staticTypes := #[]
  resolved := Array.replicate 8 none
  statics := none }

def pool5 : Array CpInfo := pool [(1, u "java/io/Serializable"), (0, .class_ 1), (0, u "java/lang/Object"), (0, .class_ 3)] 3

/-- java/io/Serializable -/
def k5 : Class := { plain "java/io/Serializable" (some 0) with
  accessFlags := 1537
  interfaces := #[]
  cf := some (fileOf pool5 2 #[] #[] 1537 4 #[] #[])
  fields := #[]
  methods := #[]
  instanceTypes := #[]
  staticTypes := #[]
  resolved := Array.replicate 8 none
  statics := none }

/-- the primitive byte -/
def k6 : Class := { plain "byte" none with kind := .primitive 'B', accessFlags := 0x411 }
/-- [B -/
def k7 : Class := { plain "[B" (some 0) with kind := .array 6 .byte, interfaces := #[4, 5], accessFlags := 1041 }

/-- the primitive double -/
def k8 : Class := { plain "double" none with kind := .primitive 'D', accessFlags := 0x411 }
/-- [D -/
def k9 : Class := { plain "[D" (some 0) with kind := .array 8 .double, interfaces := #[4, 5], accessFlags := 1041 }

/-- the primitive int -/
def k10 : Class := { plain "int" none with kind := .primitive 'I', accessFlags := 0x411 }
/-- [I -/
def k11 : Class := { plain "[I" (some 0) with kind := .array 10 .int, interfaces := #[4, 5], accessFlags := 1041 }

def heap : Heap := #[]
def classes : Array Class := #[k0, k1, k2, k3, k4, k5, k6, k7, k8, k9, k10, k11]
def interned : List (Array UInt16 × Addr) := []
def slotsUsed : Nat := 0
def theMethod : MethodId := ⟨1, 4⟩
def args0 : Array Value := #[.int 3, .long 4, .long 5, .long 6, .long 7]
def aboutOver (below : List Frame) : State where
  vm := { classes := classes, interned := interned.toArray }
  heap := heap
  slotsUsed := slotsUsed
  threads := #[{ frames := .invoking theMethod args0 :: below }]
def below0 : List Frame := [.native { method := ⟨0, 0⟩, args := #[] }]
def about1 : State := aboutOver below0
def p0 : Program := .bare "" "" ""
def e0 : Env := launch0.env 0 0 0
theorem w_frames : about1.frames = Frame.invoking theMethod args0 :: below0 := rfl
set_option maxRecDepth 65536 in
theorem w_args : argsFit about1.vm theMethod args0 = true := by decide +kernel
set_option maxRecDepth 65536 in
theorem w_heap : heapFits about1 = true := by decide +kernel
set_option maxRecDepth 65536 in
theorem w_runnable : about1.curStatus? = some .runnable := by decide +kernel
set_option maxRecDepth 65536 in
theorem w_alone : about1.alone = true := by decide +kernel
set_option maxRecDepth 65536 in
theorem w_named : about1.methodNamed? x = some theMethod := by decide +kernel
set_option maxRecDepth 65536 in
theorem w_hears : about1.hears theMethod below0 = true := by decide +kernel
set_option maxRecDepth 65536 in
theorem w_ripe : about1.ripe theMethod args0 below0 = true := by decide +kernel
theorem w_running : about1.status = .running := rfl
set_option maxRecDepth 65536 in
theorem w_room : about1.hasRoom e0.platform room_1 = true :=
  launch0.hasRoom_least _ room_1 (by decide +kernel) (by decide +kernel) (by decide +kernel) (by decide +kernel) (by decide +kernel) (by decide +kernel)
theorem allAtoms_all (ts : List Jvm.Cond) (a : Array Jvm.Value) (st : Jvm.State) : (allAtoms ts).before a st = ts.all (fun c => c.before a st) := by
  induction ts with
  | nil => rfl
  | cons c t ih =>
    show (Jvm.Cond.and c (allAtoms t)).before a st = _
    rw [Jvm.Cond.before_and, ih, List.all_cons]
def words1 : List Jvm.Cond := Jvm.Cond.code x code maxLocals ret :: tables_1
/-- a 'code' word, met by the world's own term for the bytes: nothing is compared byte by byte -/
theorem code_word {y : MethodName} {bytes : ByteArray} {mx : Nat} {rt : Option FieldType} {a : Array Value} {s : State} {m : MethodId} {meth : Method} {c : Code} (h1 : s.methodNamed? y = some m) (h2 : s.vm.method? m = some meth) (h3 : meth.code = some c) (h4 : c.code = bytes)
    (h5 : (c.maxLocals == mx && c.exceptionTable.isEmpty && decide (c.maxStack ≤ mostOperands) && decide (meth.sig.returnType = rt) && !meth.locks && decide (parseMethodDescriptor y.desc = some meth.sig)) = true) : (Jvm.Cond.code y bytes mx rt).before a s = true := by
  simp only [Bool.and_eq_true, beq_iff_eq, Bool.not_eq_true', decide_eq_true_eq] at h5
  obtain ⟨⟨⟨⟨⟨g1, g2⟩, g3⟩, g4⟩, g5⟩, g6⟩ := h5
  simp [Cond.before, Cond.holds, Cond.value, h1, h2, h3, h4, g1, g2, g3, g4, g5, g6]
def isCode : Jvm.Cond → Bool
  | .code _ _ _ _ => true
  | _ => false
theorem all_split {L : List Jvm.Cond} {P : Jvm.Cond → Bool} (h1 : L.all (fun c => isCode c || P c) = true) (h2 : ∀ c ∈ L.filter isCode, P c = true) : L.all P = true := by
  refine List.all_eq_true.mpr fun c hc => ?_
  have h := List.all_eq_true.mp h1 c hc
  rcases Bool.eq_false_or_eq_true (isCode c) with hi | hi
  · exact h2 c (List.mem_filter.mpr ⟨hc, hi⟩)
  · simpa [hi] using h
set_option maxRecDepth 65536 in
theorem w_c0 : (Jvm.Cond.code x code maxLocals ret).before args0 about1 = true := code_word (m := ⟨1, 4⟩) (meth := k1m4) (c := k1c4) (by decide +kernel) rfl rfl rfl (by decide +kernel)
set_option maxRecDepth 65536 in
theorem w_c1 : (Jvm.Cond.code ({ cls := "com/example/thicket/thicket/core/BoxVolumePinLaw", name := "lo", desc := "(J)I" } : Jvm.MethodName) method_2_code (2 : Nat) (Option.some Jvm.ClassFile.FieldType.int)).before args0 about1 = true := code_word (m := ⟨1, 1⟩) (meth := k1m1) (c := k1c1) (by decide +kernel) rfl rfl rfl (by decide +kernel)
set_option maxRecDepth 65536 in
theorem w_c2 : (Jvm.Cond.code ({ cls := "java/lang/Math", name := "min", desc := "(II)I" } : Jvm.MethodName) jdk_29_method_69_code (2 : Nat) (Option.some Jvm.ClassFile.FieldType.int)).before args0 about1 = true := code_word (m := ⟨2, 2⟩) (meth := k2m2) (c := k2c2) (by decide +kernel) rfl rfl rfl (by decide +kernel)
set_option maxRecDepth 65536 in
theorem w_c3 : (Jvm.Cond.code ({ cls := "com/example/thicket/thicket/core/BoxVolumePinLaw", name := "hi", desc := "(J)I" } : Jvm.MethodName) method_3_code (2 : Nat) (Option.some Jvm.ClassFile.FieldType.int)).before args0 about1 = true := code_word (m := ⟨1, 2⟩) (meth := k1m2) (c := k1c2) (by decide +kernel) rfl rfl rfl (by decide +kernel)
set_option maxRecDepth 65536 in
theorem w_c4 : (Jvm.Cond.code ({ cls := "java/lang/Math", name := "max", desc := "(II)I" } : Jvm.MethodName) jdk_29_method_65_code (2 : Nat) (Option.some Jvm.ClassFile.FieldType.int)).before args0 about1 = true := code_word (m := ⟨2, 1⟩) (meth := k2m1) (c := k2c1) (by decide +kernel) rfl rfl rfl (by decide +kernel)
set_option maxRecDepth 65536 in
theorem w_c5 : (Jvm.Cond.code ({ cls := "com/example/thicket/thicket/core/BoxVolumePinLaw", name := "side", desc := "(J)D" } : Jvm.MethodName) method_4_code (2 : Nat) (Option.some Jvm.ClassFile.FieldType.double)).before args0 about1 = true := code_word (m := ⟨1, 3⟩) (meth := k1m3) (c := k1c3) (by decide +kernel) rfl rfl rfl (by decide +kernel)
set_option maxRecDepth 65536 in
theorem w_c6 : (Jvm.Cond.code ({ cls := "com/example/thicket/thicket/core/Box", name := "volume", desc := "([D[D)D" } : Jvm.MethodName) prog_2_method_8_code (5 : Nat) (Option.some Jvm.ClassFile.FieldType.double)).before args0 about1 = true := code_word (m := ⟨3, 0⟩) (meth := k3m0) (c := k3c0) (by decide +kernel) rfl rfl rfl (by decide +kernel)
def codes1 : List Jvm.Cond := [Jvm.Cond.code x code maxLocals ret, Jvm.Cond.code ({ cls := "com/example/thicket/thicket/core/BoxVolumePinLaw", name := "lo", desc := "(J)I" } : Jvm.MethodName) method_2_code (2 : Nat) (Option.some Jvm.ClassFile.FieldType.int), Jvm.Cond.code ({ cls := "java/lang/Math", name := "min", desc := "(II)I" } : Jvm.MethodName) jdk_29_method_69_code (2 : Nat) (Option.some Jvm.ClassFile.FieldType.int), Jvm.Cond.code ({ cls := "com/example/thicket/thicket/core/BoxVolumePinLaw", name := "hi", desc := "(J)I" } : Jvm.MethodName) method_3_code (2 : Nat) (Option.some Jvm.ClassFile.FieldType.int), Jvm.Cond.code ({ cls := "java/lang/Math", name := "max", desc := "(II)I" } : Jvm.MethodName) jdk_29_method_65_code (2 : Nat) (Option.some Jvm.ClassFile.FieldType.int), Jvm.Cond.code ({ cls := "com/example/thicket/thicket/core/BoxVolumePinLaw", name := "side", desc := "(J)D" } : Jvm.MethodName) method_4_code (2 : Nat) (Option.some Jvm.ClassFile.FieldType.double), Jvm.Cond.code ({ cls := "com/example/thicket/thicket/core/Box", name := "volume", desc := "([D[D)D" } : Jvm.MethodName) prog_2_method_8_code (5 : Nat) (Option.some Jvm.ClassFile.FieldType.double)]
set_option maxRecDepth 65536 in
theorem codes_eq : words1.filter isCode = codes1 := rfl
theorem w_codes : ∀ c ∈ words1.filter isCode, c.before args0 about1 = true := by
  rw [codes_eq]
  intro c hc
  simp only [codes1, List.mem_cons, List.not_mem_nil, or_false] at hc
  rcases hc with rfl | rfl | rfl | rfl | rfl | rfl | rfl
  · exact w_c0
  · exact w_c1
  · exact w_c2
  · exact w_c3
  · exact w_c4
  · exact w_c5
  · exact w_c6
set_option maxRecDepth 65536 in
theorem w_t1 : words1.all (fun c => isCode c || c.before args0 about1) = true := by decide +kernel
theorem w_tables : (allAtoms (Jvm.Cond.code x code maxLocals ret :: tables_1)).before args0 about1 = true := by
  rw [allAtoms_all]
  show words1.all (fun c => c.before args0 about1) = true
  refine all_split ?_ w_codes
  rw [w_t1]
set_option maxRecDepth 65536 in
theorem w_case : (Jvm.Cond.and given_1 narrow_1).before args0 about1 = true := by decide +kernel
theorem w_applies : (headSpec (Jvm.Cond.code x code maxLocals ret :: tables_1) room_1).applies x e0.platform about1 = true :=
  (Spec.applies_iff w_frames).mpr ⟨w_running, w_runnable, w_alone, w_named, w_hears, w_ripe, w_room, w_tables⟩
theorem atStart : AtStart classFile x code maxLocals ret World_1 tables_1 room_1 Calls_1 rest_1 Pre_1 launch0 p0 e0 about1 theMethod args0 below0 :=
  ⟨lists_1, trivial, launch0.admits_env _ _ _, launch0.least_env, fairChoices_fair.cas, fairChoices_fair.clock, w_frames, w_args, w_heap, w_applies, trivial, trivial, w_case⟩
end start1
theorem witness_1 : WitnessClaimed_1 := ⟨start1.p0, start1.e0, start1.about1, start1.theMethod, start1.args0, start1.below0, start1.atStart⟩
end Jvm.Pilot.@@N@@
