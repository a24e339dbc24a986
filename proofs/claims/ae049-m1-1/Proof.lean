import JvmDerived
import JvmDerived.Pilot.@@N@@Statement
import JvmDerived.Pilot.@@N@@Code
set_option linter.unusedVariables false
set_option linter.unusedSimpArgs false
namespace Jvm.Pilot.@@N@@
namespace Fl
open Jvm.FP.Core
/-! rounding of N / D, all in units of the least double -/
def rz (N : Int) (D : Nat) : Int := zval b64 (roundRatio b64 (decide (N < 0)) N.natAbs D b64.qmin)
def Rep (k : Int) : Prop := ∃ V, Jvm.FP.Core.fits b64 V ∧ V ≠ .nan ∧ zval b64 V = k
theorem iu (c : Nat) (q : Int) : inUnits c q q = c := by unfold inUnits; simp
theorem rz_le {N : Int} {D : Nat} (hD : 0 < D) {V : Datum} (hV : Jvm.FP.Core.fits b64 V) (hn : V ≠ .nan) (h : N ≤ zval b64 V * (D : Int)) : rz N D ≤ zval b64 V := by
  have hle := zmag_roundRatio_le good_b64 (s := decide (N < 0)) (A := N.natAbs) (e := b64.qmin) (e0 := b64.qmin) hD hV hn (Int.le_refl _) (Int.le_refl _)
  have hge := zmag_roundRatio_ge good_b64 (s := decide (N < 0)) (A := N.natAbs) (e := b64.qmin) (e0 := b64.qmin) hD hV (Int.le_refl _) (Int.le_refl _)
  rw [iu, Int.sub_self, Int.toNat_zero, Nat.pow_zero, Nat.mul_one] at hle hge
  unfold rz
  unfold zval at h ⊢
  rw [sgn_roundRatio]
  rw [← signed_mul] at h
  have hz : zmag b64 V * D = 0 → zmag b64 V = 0 := fun q => (Nat.mul_eq_zero.mp q).resolve_right (by omega)
  generalize zmag b64 (roundRatio b64 (decide (N < 0)) N.natAbs D b64.qmin) = r at *
  generalize zmag b64 V * D = w at *
  generalize zmag b64 V = v at *
  generalize sgn V = t at *
  by_cases hN : N < 0
  · rw [decide_eq_true hN]
    cases t <;> simp only [signed, if_true, Bool.false_eq_true, if_false] at h ⊢
    · omega
    · have := hge (by omega); omega
  · rw [decide_eq_false hN]
    cases t <;> simp only [signed, if_true, Bool.false_eq_true, if_false] at h ⊢
    · have := hle (by omega); omega
    · have := hle (by omega); have := hz (by omega); omega
theorem rz_zero (D : Nat) : rz 0 D = 0 := by
  show zval b64 (roundRatio b64 _ 0 D _) = 0
  unfold roundRatio
  rw [if_pos rfl]
  show signed _ (inUnits 0 _ _) = 0
  rw [iu, signed_zero]
theorem rz_neg (N : Int) (D : Nat) : rz (-N) D = -rz N D := by
  by_cases h : N = 0
  · subst h; rw [show (-(0 : Int)) = 0 from rfl, rz_zero]; rfl
  · have e : decide (-N < 0) = !decide (N < 0) := by
      by_cases q : N < 0
      · rw [decide_eq_true q, decide_eq_false (p := -N < 0) (by omega)]; rfl
      · rw [decide_eq_false q, decide_eq_true (p := -N < 0) (by omega)]; rfl
    unfold rz
    rw [Int.natAbs_neg, e, ← negate_roundRatio, zval_negate]
theorem rz_ge {N : Int} {D : Nat} (hD : 0 < D) {V : Datum} (hV : Jvm.FP.Core.fits b64 V) (hn : V ≠ .nan) (h : zval b64 V * (D : Int) ≤ N) : zval b64 V ≤ rz N D := by
  have q := rz_le (N := -N) hD (negate_fits hV) (negate_ne_nan hn) (by rw [zval_negate, Int.neg_mul]; omega)
  rw [zval_negate, rz_neg] at q
  omega
theorem rz_rep (N : Int) {D : Nat} (hD : 0 < D) : Rep (rz N D) := ⟨_, roundRatio_fits good_b64 _ _ hD _, roundRatio_ne_nan _ _ _ _ _, rfl⟩
theorem rz_up {N k : Int} (h : Rep k) {D : Nat} (hD : 0 < D) (q : N ≤ k * (D : Int)) : rz N D ≤ k := by
  obtain ⟨V, h1, h2, rfl⟩ := h
  exact rz_le hD h1 h2 q
theorem rz_lo {N k : Int} (h : Rep k) {D : Nat} (hD : 0 < D) (q : k * (D : Int) ≤ N) : k ≤ rz N D := by
  obtain ⟨V, h1, h2, rfl⟩ := h
  exact rz_ge hD h1 h2 q
theorem rz_exact {k : Int} (h : Rep k) {D : Nat} (hD : 0 < D) : rz (k * (D : Int)) D = k := Int.le_antisymm (rz_up h hD (Int.le_refl _)) (rz_lo h hD (Int.le_refl _))
theorem Rep.neg {k : Int} (h : Rep k) : Rep (-k) := by
  obtain ⟨V, h1, h2, rfl⟩ := h
  exact ⟨_, negate_fits h1, negate_ne_nan h2, zval_negate _ _⟩
theorem sg_abs (k : Int) : signed (decide (k < 0)) k.natAbs = k := by
  unfold signed
  by_cases h : k < 0
  · rw [if_pos (decide_eq_true h)]; omega
  · rw [if_neg (by simp [h])]; omega
theorem rep_pow {k : Int} {j : Nat} (hk : k.natAbs < 2 ^ 53) (h1 : 52 ≤ j) (h2 : j ≤ 1900) : Rep (k * ((2 ^ j : Nat) : Int)) := by
  by_cases h0 : k = 0
  · subst h0
    refine ⟨.fin false 0 b64.qmin, zero_fits good_b64 false, Datum.noConfusion, ?_⟩
    rw [Int.zero_mul]
    show signed false (inUnits 0 _ _) = 0
    rw [iu]; rfl
  · have l1 : 2 ^ k.natAbs.log2 ≤ k.natAbs := Nat.log2_self_le (by omega)
    have l2 : k.natAbs < 2 ^ (k.natAbs.log2 + 1) := Nat.lt_log2_self
    have l3 : k.natAbs.log2 < 53 := (Nat.pow_lt_pow_iff_right (by decide : 1 < 2)).mp (Nat.lt_of_le_of_lt l1 hk)
    generalize k.natAbs.log2 = L at l1 l2 l3
    obtain ⟨d, hd⟩ : ∃ d, d = 52 - L := ⟨_, rfl⟩
    have c1 : k.natAbs * 2 ^ d < 2 ^ 53 := by
      calc k.natAbs * 2 ^ d < 2 ^ (L + 1) * 2 ^ d := Nat.mul_lt_mul_of_pos_right l2 (Nat.two_pow_pos _)
        _ = 2 ^ (L + 1 + d) := (Nat.pow_add _ _ _).symm
        _ = 2 ^ 53 := by rw [show L + 1 + d = 53 by omega]
    have c2 : 2 ^ 52 ≤ k.natAbs * 2 ^ d := by
      calc 2 ^ 52 = 2 ^ (L + d) := by rw [show L + d = 52 by omega]
        _ = 2 ^ L * 2 ^ d := Nat.pow_add _ _ _
        _ ≤ k.natAbs * 2 ^ d := Nat.mul_le_mul_right _ l1
    refine ⟨.fin (decide (k < 0)) (k.natAbs * 2 ^ d) ((j : Int) - d - 1074), ⟨c1, ?_, ?_, Or.inr ?_⟩, Datum.noConfusion, ?_⟩
    · rw [qmin_b64]; omega
    · rw [show b64.qmax = 971 by decide]; omega
    · rw [tails_b64]; exact c2
    · show signed _ (inUnits _ _ b64.qmin) = _
      unfold inUnits
      rw [qmin_b64, show ((j : Int) - d - 1074 - -1074).toNat = j - d by omega, Nat.mul_assoc, ← Nat.pow_add, show d + (j - d) = j by omega, signed_mul]
      show signed (decide (k < 0)) k.natAbs * _ = _
      rw [sg_abs]
theorem rep_U {k : Int} (hk : k.natAbs < 2 ^ 53) : Rep (k * (one64 : Int)) := rep_pow (j := 1074) hk (by decide) (by decide)
theorem rep_0 : Rep 0 := by have := rep_U (k := 0) (by decide); rw [Int.zero_mul] at this; exact this
theorem rz_abs {N : Int} {D K : Nat} (hD : 0 < D) (hK : Rep (K : Int)) (h : N.natAbs ≤ K * D) : (rz N D).natAbs ≤ K := by
  have a := rz_up (N := N) hK hD (by rw [← Int.natCast_mul]; omega)
  have b := rz_lo (N := N) hK.neg hD (by rw [Int.neg_mul, ← Int.natCast_mul]; omega)
  omega
theorem rz_congr {N N' : Int} {D D' : Nat} (hD : 0 < D) (hD' : 0 < D') (h : N * (D' : Int) = N' * (D : Int)) : rz N D = rz N' D' := by
  have p1 : (0 : Int) < (D : Int) := by omega
  have p2 : (0 : Int) < (D' : Int) := by omega
  have hs : N < 0 ↔ N' < 0 := by
    constructor
    · intro q
      refine Int.lt_of_not_ge fun z => ?_
      have a := Int.mul_neg_of_neg_of_pos q p2
      have b := Int.mul_nonneg z (Int.le_of_lt p1)
      omega
    · intro q
      refine Int.lt_of_not_ge fun z => ?_
      have a := Int.mul_neg_of_neg_of_pos q p1
      have b := Int.mul_nonneg z (Int.le_of_lt p2)
      omega
  have ha : N.natAbs * D' = N'.natAbs * D := by
    have q := congrArg Int.natAbs h
    rw [Int.natAbs_mul, Int.natAbs_mul, Int.natAbs_natCast, Int.natAbs_natCast] at q
    exact q
  unfold rz
  rw [show decide (N < 0) = decide (N' < 0) from decide_eq_decide.mpr hs, roundRatio_congr hD hD' (by rw [Int.sub_self]; simpa using ha)]
theorem zval_rr (u : Bool) (M D : Nat) : zval b64 (roundRatio b64 u M D b64.qmin) = rz (signed u M) D := by
  by_cases h : M = 0
  · subst h
    rw [signed_zero, rz_zero]
    unfold roundRatio
    rw [if_pos rfl]
    show signed _ (inUnits 0 _ _) = 0
    rw [iu, signed_zero]
  · unfold rz
    rw [natAbs_signed, signed_lt_zero u (Nat.pos_of_ne_zero h)]
theorem top_eq : 2 ^ 100 * one64 = 2 ^ 1174 := by unfold one64; rw [← Nat.pow_add]
theorem fin_rr (s : Bool) {A D : Nat} (hD : 0 < D) (h : A ≤ 2 ^ 100 * one64 * D) : ∃ c q, roundRatio b64 s A D b64.qmin = .fin s c q := by
  rcases roundRatio_cases b64 s A D b64.qmin with q | q
  · exact q
  · exfalso
    obtain ⟨V, v1, v2, v3⟩ := rep_pow (k := 1) (j := 1174) (by decide) (by decide) (by decide)
    have hv : zmag b64 V = 2 ^ 1174 := by
      have := congrArg Int.natAbs v3
      unfold zval at this
      rw [natAbs_signed, Int.one_mul, Int.natAbs_natCast] at this
      exact this
    have hle := zmag_roundRatio_le good_b64 (s := s) (A := A) (e := b64.qmin) (e0 := b64.qmin) hD v1 v2 (Int.le_refl _) (Int.le_refl _) (by rw [iu, Int.sub_self, Int.toNat_zero, Nat.pow_zero, Nat.mul_one, hv, ← top_eq]; exact h)
    rw [q, hv] at hle
    have hle' : b64.tails * 2 ^ (b64.exps - 2) ≤ 2 ^ 1174 := hle
    have : (2 : Nat) ^ 1174 < b64.tails * 2 ^ (b64.exps - 2) := by decide +kernel
    exact absurd hle' (Nat.not_le.mpr this)
theorem rz_mono_nat {A A' D D' : Nat} (hD : 0 < D) (hD' : 0 < D') (h : A * D' ≤ A' * D) (b : A ≤ 2 ^ 100 * one64 * D) (b' : A' ≤ 2 ^ 100 * one64 * D') :
    zmag b64 (roundRatio b64 false A D b64.qmin) ≤ zmag b64 (roundRatio b64 false A' D' b64.qmin) := by
  obtain ⟨c, q, hR⟩ := fin_rr false hD b
  obtain ⟨c', q', hR'⟩ := fin_rr false hD' b'
  have f1 := roundRatio_fits good_b64 false A hD b64.qmin
  have f2 := roundRatio_fits good_b64 false A' hD' b64.qmin
  rw [hR] at f1
  rw [hR'] at f2
  have d1 := roundRatio_nearest good_b64 (e0 := b64.qmin) hD hR f2.1 f2.2.1 (Int.le_refl _) (Int.le_refl _)
  have d2 := roundRatio_nearest good_b64 (e0 := b64.qmin) hD' hR' f1.1 f1.2.1 (Int.le_refl _) (Int.le_refl _)
  unfold distance at d1 d2
  rw [iu] at d1 d2
  refine Nat.le_of_not_lt fun hlt => ?_
  rw [hR, hR'] at hlt
  change inUnits c' q' b64.qmin < inUnits c q b64.qmin at hlt
  generalize hx : inUnits c q b64.qmin = x at *
  generalize hx' : inUnits c' q' b64.qmin = x' at *
  have m1 : x' * D < x * D := Nat.mul_lt_mul_of_pos_right hlt hD
  have m2 : x' * D' < x * D' := Nat.mul_lt_mul_of_pos_right hlt hD'
  rw [← Int.natCast_mul, ← Int.natCast_mul] at d1 d2
  have g1 : x * D + x' * D ≤ 2 * A := by
    clear m2 d2 h b b'
    generalize x * D = P at *
    generalize x' * D = P' at *
    omega
  have g2 : 2 * A' ≤ x * D' + x' * D' := by
    clear m1 d1 h b b' g1
    generalize x * D' = P at *
    generalize x' * D' = P' at *
    omega
  have g3 := Nat.mul_le_mul_right D' g1
  have g4 := Nat.mul_le_mul_right D g2
  have g5 : (x * D + x' * D) * D' = (x * D' + x' * D') * D := by rw [Nat.add_mul, Nat.add_mul, Nat.mul_right_comm x, Nat.mul_right_comm x']
  have g6 : A * D' = A' * D := by
    rw [Nat.mul_assoc, g5] at g3
    rw [Nat.mul_assoc] at g4
    omega
  have z := roundRatio_congr (f := b64) (s := false) (e := b64.qmin) (e' := b64.qmin) hD hD' (by rw [Int.sub_self]; simpa using g6)
  rw [hR, hR'] at z
  cases z
  have := hx.symm.trans hx'
  omega
theorem rz_pos (A D : Nat) : rz (A : Int) D = ((zmag b64 (roundRatio b64 false A D b64.qmin) : Nat) : Int) := by
  have h := zval_rr false A D
  show rz (signed false A) D = _
  rw [← h]
  unfold zval
  rw [sgn_roundRatio]
  rfl
theorem rz_mono_pos {N N' : Int} {D D' : Nat} (hD : 0 < D) (hD' : 0 < D') (h0 : 0 ≤ N) (h : N * (D' : Int) ≤ N' * (D : Int)) (b : N.natAbs ≤ 2 ^ 100 * one64 * D) (b' : N'.natAbs ≤ 2 ^ 100 * one64 * D') : rz N D ≤ rz N' D' := by
  have p1 : (0 : Int) < (D : Int) := by omega
  have h1 : 0 ≤ N' := by
    refine Int.le_of_not_gt fun q => ?_
    have a := Int.mul_neg_of_neg_of_pos q p1
    have b := Int.mul_nonneg h0 (Int.natCast_nonneg D')
    omega
  obtain ⟨A, rfl⟩ := Int.eq_ofNat_of_zero_le h0
  obtain ⟨A', rfl⟩ := Int.eq_ofNat_of_zero_le h1
  rw [rz_pos, rz_pos]
  have := rz_mono_nat (A := A) (A' := A') (D := D) (D' := D') hD hD' (by have := h; rw [← Int.natCast_mul, ← Int.natCast_mul] at this; omega) (by simpa using b) (by simpa using b')
  omega
theorem rz_mono {N N' : Int} {D D' : Nat} (hD : 0 < D) (hD' : 0 < D') (h : N * (D' : Int) ≤ N' * (D : Int)) (b : N.natAbs ≤ 2 ^ 100 * one64 * D) (b' : N'.natAbs ≤ 2 ^ 100 * one64 * D') : rz N D ≤ rz N' D' := by
  by_cases h1 : 0 ≤ N
  · exact rz_mono_pos hD hD' h1 h b b'
  · by_cases h2 : 0 ≤ N'
    · exact Int.le_trans (rz_up rep_0 hD (by omega)) (rz_lo rep_0 hD' (by omega))
    · have := rz_mono_pos (N := -N') (N' := -N) hD' hD (by omega) (by rw [Int.neg_mul, Int.neg_mul]; omega) (by rw [Int.natAbs_neg]; exact b') (by rw [Int.natAbs_neg]; exact b)
      rw [rz_neg, rz_neg] at this
      omega
theorem rz_two {N : Int} {D : Nat} (hD : 0 < D) (h : N = 0 ∨ 2 ^ 52 * D ≤ N.natAbs) (b : N.natAbs ≤ 2 ^ 99 * one64 * D) : rz (2 * N) D = 2 * rz N D := by
  rcases h with rfl | h
  · rw [Int.mul_zero, rz_zero]; rfl
  have hA : 0 < N.natAbs := Nat.lt_of_lt_of_le (Nat.mul_pos (Nat.two_pow_pos _) hD) h
  have e99 : (2 : Nat) ^ 100 * one64 * D = 2 * (2 ^ 99 * one64 * D) := by
    rw [show (2 : Nat) ^ 100 = 2 * 2 ^ 99 by decide, Nat.mul_assoc, Nat.mul_assoc, Nat.mul_assoc]
  have b1 : N.natAbs ≤ 2 ^ 100 * one64 * D := by omega
  have b2 : 2 * N.natAbs ≤ 2 ^ 100 * one64 * D := by omega
  have s2 : decide (2 * N < 0) = decide (N < 0) := decide_eq_decide.mpr (by omega)
  have a2 : (2 * N).natAbs = 2 * N.natAbs := by omega
  unfold rz
  rw [s2, a2]
  clear s2 a2 e99 b
  generalize decide (N < 0) = s
  generalize N.natAbs = A at *
  have hc : roundRatio b64 s (2 * A) D b64.qmin = roundRatio b64 s A D (b64.qmin + 1) := roundRatio_congr hD hD (by
    rw [show (b64.qmin - (b64.qmin + 1)).toNat = 0 by omega, show (b64.qmin + 1 - b64.qmin).toNat = 1 by omega, Nat.pow_zero, Nat.pow_one, Nat.mul_one, Nat.mul_assoc, Nat.mul_comm])
  obtain ⟨c1, q1, h1⟩ := fin_rr s hD b1
  obtain ⟨c2, q2, h2⟩ := fin_rr s hD b2
  rw [h1, h2]
  rw [hc] at h2
  have ld : (52 : Int) < leading A D + 1 := lt_of_below (A := A) (B := D) (fun q => by
    have q' : A * 1 < D * 2 ^ 52 := q
    omega) (leading_spec hA hD).2
  have hm := nearest_units_le (f := b64) hA hD b64.qmin
  have hq : quantum b64 A D b64.qmin = leading A D + b64.qmin - 52 := by
    unfold quantum
    rw [show ((b64.p : Int) - 1) = 52 by decide]; omega
  have hq' : quantum b64 A D (b64.qmin + 1) = leading A D + b64.qmin - 52 + 1 := by
    unfold quantum
    rw [show ((b64.p : Int) - 1) = 52 by decide]; omega
  unfold roundRatio at h1 h2
  rw [if_neg (by omega)] at h1 h2
  unfold roundAt at h1 h2
  rw [hq] at h1 hm
  rw [hq'] at h2
  generalize hr : leading A D + b64.qmin - 52 = r at *
  have u1 : unitsNum A (b64.qmin + 1) (r + 1) = unitsNum A b64.qmin r := by
    unfold unitsNum; rw [show b64.qmin + 1 - (r + 1) = b64.qmin - r by omega]
  have u2 : unitsDen D (b64.qmin + 1) (r + 1) = unitsDen D b64.qmin r := by
    unfold unitsDen; rw [show r + 1 - (b64.qmin + 1) = r - b64.qmin by omega]
  rw [u1, u2] at h2
  generalize nearest (unitsNum A b64.qmin r) (unitsDen D b64.qmin r) = k at *
  have v1 := (settle_value good_b64 (e0 := b64.qmin) hm h1 (by omega)).2
  have v2 := (settle_value good_b64 (e0 := b64.qmin) hm h2 (by omega)).2
  show signed s (inUnits c2 q2 b64.qmin) = 2 * signed s (inUnits c1 q1 b64.qmin)
  have v3 : inUnits k (r + 1) b64.qmin = inUnits k r b64.qmin * 2 := by
    unfold inUnits
    rw [show (r + 1 - b64.qmin).toNat = (r - b64.qmin).toNat + 1 by omega, Nat.pow_succ, Nat.mul_assoc]
  rw [v1, v2, v3, signed_mul]
  omega
/-! the four operations -/
def Dv (a : UInt64) (k : Int) : Prop := DFin a ∧ zval b64 (val64 a) = k
theorem Dv.nn {a : UInt64} {k : Int} (h : Dv a k) : Jvm.Free.Fl.NoNaN64 a := Jvm.Free.Fl.noNaN64_no.mpr h.1.notNaN
theorem Dv.rep {a : UInt64} {k : Int} (h : Dv a k) : Rep k := ⟨_, val64_fits a, h.1.ne_nan, h.2⟩
theorem pw (c d X Y u v : Nat) (h : 1074 + u = X + Y + v) : c * d * one64 * 2 ^ u = c * 2 ^ X * (d * 2 ^ Y) * 1 * 2 ^ v := by
  have e : one64 * 2 ^ u = 2 ^ X * 2 ^ Y * 2 ^ v := by unfold one64; rw [← Nat.pow_add, h, Nat.pow_add, Nat.pow_add]
  rw [Nat.mul_assoc (c * d), e, Nat.mul_one]; ac_rfl
theorem pw2 (c d X Y u v : Nat) (h : Y + u = X + 1074 + v) : c * (d * 2 ^ Y) * 2 ^ u = c * 2 ^ X * one64 * d * 2 ^ v := by
  have e : 2 ^ Y * 2 ^ u = 2 ^ X * one64 * 2 ^ v := by unfold one64; rw [← Nat.pow_add, h, Nat.pow_add, Nat.pow_add]
  calc c * (d * 2 ^ Y) * 2 ^ u = c * d * (2 ^ Y * 2 ^ u) := by ac_rfl
    _ = c * d * (2 ^ X * one64 * 2 ^ v) := by rw [e]
    _ = c * 2 ^ X * one64 * d * 2 ^ v := by generalize one64 = w; ac_rfl
theorem dv_mul {a b : UInt64} {j k : Int} (ha : Dv a j) (hb : Dv b k) (h : (j * k).natAbs ≤ 2 ^ 100 * one64 * one64) : Dv (dmul a b) (rz (j * k) one64) := by
  obtain ⟨⟨s, c, q, ha⟩, rfl⟩ := ha
  obtain ⟨⟨t, d, r, hb⟩, rfl⟩ := hb
  have fa := val64_fits a
  have fb := val64_fits b
  rw [ha] at fa h ⊢
  rw [hb] at fb h ⊢
  obtain ⟨-, pq, -⟩ := fa
  obtain ⟨-, pr, -⟩ := fb
  have e : val64 (dmul a b) = roundRatio b64 (s != t) (inUnits c q b64.qmin * inUnits d r b64.qmin) one64 b64.qmin := by
    rw [val64_dmul, ha, hb]
    show roundRatio b64 (s != t) (c * d) 1 (q + r) = _
    exact roundRatio_congr (by decide) one64_pos (pw c d _ _ _ _ (by have := qmin_b64; omega))
  have n : zval b64 (.fin s c q) * zval b64 (.fin t d r) = signed (s != t) (inUnits c q b64.qmin * inUnits d r b64.qmin) := (signed_xor s t _ _).symm
  rw [n] at h ⊢
  rw [natAbs_signed] at h
  refine ⟨?_, by rw [e, zval_rr]⟩
  obtain ⟨c', q', z⟩ := fin_rr (s != t) one64_pos h
  exact ⟨_, c', q', e.trans z⟩
theorem dv_div {a b : UInt64} {j k : Int} (ha : Dv a j) (hb : Dv b k) (hk : 0 < k) (h : (j * (one64 : Int)).natAbs ≤ 2 ^ 100 * one64 * k.natAbs) : Dv (ddiv a b) (rz (j * (one64 : Int)) k.natAbs) := by
  obtain ⟨⟨s, c, q, ha⟩, rfl⟩ := ha
  obtain ⟨⟨t, d, r, hb⟩, rfl⟩ := hb
  have fa := val64_fits a
  have fb := val64_fits b
  rw [ha] at fa h ⊢
  rw [hb] at fb hk h ⊢
  obtain ⟨-, pq, -⟩ := fa
  obtain ⟨-, pr, -⟩ := fb
  have y : (zval b64 (.fin t d r)).natAbs = inUnits d r b64.qmin := natAbs_signed _ _
  have ht : t = false := by
    cases t with
    | false => rfl
    | true =>
      exfalso
      have : zval b64 (.fin true d r) = -((inUnits d r b64.qmin : Nat) : Int) := rfl
      omega
  subst ht
  have hy : 0 < inUnits d r b64.qmin := by rw [← y]; omega
  have hd : d ≠ 0 := fun z => by subst z; unfold inUnits at hy; rw [Nat.zero_mul] at hy; exact absurd hy (Nat.lt_irrefl 0)
  have e : val64 (ddiv a b) = roundRatio b64 s (inUnits c q b64.qmin * one64) (inUnits d r b64.qmin) b64.qmin := by
    rw [val64_ddiv, ha, hb]
    show (if d = 0 then _ else roundRatio b64 (s != false) c d (q - r)) = _
    rw [if_neg hd, show (s != false) = s by cases s <;> rfl]
    exact roundRatio_congr (Nat.pos_of_ne_zero hd) hy (pw2 c d _ _ _ _ (by have := qmin_b64; omega))
  have n : zval b64 (.fin s c q) * (one64 : Int) = signed s (inUnits c q b64.qmin * one64) := (signed_mul s _ _).symm
  rw [n, y] at h ⊢
  rw [natAbs_signed] at h
  refine ⟨?_, by rw [e, zval_rr]⟩
  obtain ⟨c', q', z⟩ := fin_rr s hy h
  exact ⟨_, c', q', e.trans z⟩
theorem dv_add {a b : UInt64} {j k : Int} (ha : Dv a j) (hb : Dv b k) (h : (j + k).natAbs ≤ 2 ^ 100 * one64) : Dv (dadd a b) (rz (j + k) 1) := by
  obtain ⟨⟨s, c, q, ha⟩, rfl⟩ := ha
  obtain ⟨⟨t, d, r, hb⟩, rfl⟩ := hb
  have fa := val64_fits a
  have fb := val64_fits b
  rw [ha] at fa h ⊢
  rw [hb] at fb h ⊢
  obtain ⟨sg, n, e, h1, h2, h3⟩ := sum_units fa fb
  have v : val64 (dadd a b) = roundRatio b64 sg (inUnits n e b64.qmin) 1 b64.qmin := by
    rw [val64_dadd, ha, hb, h1]
    exact (round_inUnits sg n h2).symm
  rw [← h3] at h ⊢
  rw [natAbs_signed] at h
  refine ⟨?_, by rw [v, zval_rr]⟩
  obtain ⟨c', q', z⟩ := fin_rr sg (D := 1) (by decide) (by rw [Nat.mul_one]; exact h)
  exact ⟨_, c', q', v.trans z⟩
theorem dv_i2d (x : Int32) : Dv (i2d x) (x.toInt * (one64 : Int)) := ⟨i2d_fin x, DInt_zval (i2d_int x)⟩
theorem dv_l2d {x : Int64} (h : x.toInt.natAbs ≤ 2 ^ 53) : Dv (l2d x) (x.toInt * (one64 : Int)) := ⟨l2d_fin x, DInt_zval (l2d_int h)⟩
theorem dv_neg {a : UInt64} {k : Int} (ha : Dv a k) : Dv (Jvm.FP.dneg a) (-k) := by
  obtain ⟨⟨s, c, q, ha⟩, rfl⟩ := ha
  have e := Jvm.FP.val64_dneg a
  exact ⟨⟨!s, c, q, by rw [e, ha]; rfl⟩, by rw [e, zval_negate]⟩
theorem one_pos' : (0 : Int) < (one64 : Int) := by have := one64_pos; omega
theorem dv_mulU {a b : UInt64} {J k : Int} (ha : Dv a (J * (one64 : Int))) (hb : Dv b k) (h : (J * k).natAbs ≤ 2 ^ 100 * one64) : Dv (dmul a b) (rz (J * k) 1) := by
  have e : J * (one64 : Int) * k = J * k * (one64 : Int) := Int.mul_right_comm _ _ _
  have q := dv_mul ha hb (by rw [e, Int.natAbs_mul, Int.natAbs_natCast]; exact Nat.mul_le_mul_right _ h)
  rw [e, rz_congr (N' := J * k) (D' := 1) one64_pos (by decide) (Int.mul_one _)] at q
  exact q
theorem dv_mulX {a b : UInt64} {J k : Int} (ha : Dv a (J * (one64 : Int))) (hb : Dv b k) (h : (J * k).natAbs ≤ 2 ^ 100 * one64) (r : Rep (J * k)) : Dv (dmul a b) (J * k) := by
  have q := dv_mulU ha hb h
  have e := rz_exact r (D := 1) (by decide)
  rw [show J * k * ((1 : Nat) : Int) = J * k from Int.mul_one _] at e
  rw [e] at q
  exact q
theorem dv_divU {a b : UInt64} {j K : Int} (ha : Dv a j) (hb : Dv b (K * (one64 : Int))) (hK : 0 < K) (h : j.natAbs ≤ 2 ^ 100 * one64 * K.natAbs) : Dv (ddiv a b) (rz j K.natAbs) := by
  have e : (K * (one64 : Int)).natAbs = K.natAbs * one64 := by rw [Int.natAbs_mul, Int.natAbs_natCast]
  have hp : 0 < K.natAbs := by omega
  have q := dv_div ha hb (Int.mul_pos hK one_pos') (by rw [e, Int.natAbs_mul, Int.natAbs_natCast, ← Nat.mul_assoc]; exact Nat.mul_le_mul_right _ h)
  rw [e, rz_congr (N' := j) (D' := K.natAbs) (Nat.mul_pos hp one64_pos) hp (by rw [Int.natCast_mul, Int.mul_right_comm, Int.mul_assoc])] at q
  exact q
theorem dv_addU {a b : UInt64} {J K : Int} (ha : Dv a (J * (one64 : Int))) (hb : Dv b (K * (one64 : Int))) (h : (J + K).natAbs < 2 ^ 53) : Dv (dadd a b) ((J + K) * (one64 : Int)) := by
  have e : J * (one64 : Int) + K * (one64 : Int) = (J + K) * (one64 : Int) := (Int.add_mul _ _ _).symm
  have q := dv_add ha hb (by
    rw [e, Int.natAbs_mul, Int.natAbs_natCast]
    exact Nat.mul_le_mul_right _ (by have : (2 : Nat) ^ 53 ≤ 2 ^ 100 := by decide
                                     omega))
  have z := rz_exact (rep_U h) (D := 1) (by decide)
  rw [show (J + K) * (one64 : Int) * ((1 : Nat) : Int) = (J + K) * (one64 : Int) from Int.mul_one _] at z
  rw [e, z] at q
  exact q
theorem dv_cmp {a b : UInt64} {j k : Int} (ha : Dv a j) (hb : Dv b k) : Jvm.FP.dcmp a b = some (compare j k) := by
  have q := dcmp_zval ha.1.ne_nan hb.1.ne_nan
  rw [ha.2, hb.2] at q
  exact q
theorem dv_eq {a b : UInt64} {j k : Int} (ha : Dv a j) (hb : Dv b k) (h : j = k) : Jvm.FP.dcmp a b = some .eq := by rw [dv_cmp ha hb, (compare_eq_iff j k).mpr h]
theorem dv_lt {a b : UInt64} {j k : Int} (ha : Dv a j) (hb : Dv b k) (h : j < k) : Jvm.FP.dcmp a b = some .lt := by rw [dv_cmp ha hb, (compare_lt_iff j k).mpr h]
theorem dv_gt {a b : UInt64} {j k : Int} (ha : Dv a j) (hb : Dv b k) (h : k < j) : Jvm.FP.dcmp a b = some .gt := by rw [dv_cmp ha hb, (compare_gt_iff j k).mpr h]
theorem dv_le {a b : UInt64} {j k : Int} (ha : Dv a j) (hb : Dv b k) (h : j ≤ k) : Jvm.FP.dcmp a b = some .lt ∨ Jvm.FP.dcmp a b = some .eq := by
  by_cases q : j = k
  · exact Or.inr (dv_eq ha hb q)
  · exact Or.inl (dv_lt ha hb (by omega))
theorem dv0 : Dv Jvm.FP.dconst0 (0 * (one64 : Int)) := ⟨⟨false, 0, -1074, by decide +kernel⟩, by decide +kernel⟩
theorem dv1 : Dv Jvm.FP.dconst1 (1 * (one64 : Int)) := ⟨⟨false, 4503599627370496, -52, by decide +kernel⟩, by decide +kernel⟩
theorem dv2 : Dv 4611686018427387904 (2 * (one64 : Int)) := ⟨⟨false, 4503599627370496, -51, by decide +kernel⟩, by decide +kernel⟩
theorem dv3 : Dv 4613937818241073152 (3 * (one64 : Int)) := ⟨⟨false, 6755399441055744, -51, by decide +kernel⟩, by decide +kernel⟩
theorem dv4 : Dv 4616189618054758400 (4 * (one64 : Int)) := ⟨⟨false, 4503599627370496, -50, by decide +kernel⟩, by decide +kernel⟩
/-! the length's norm -/
def lnf (v : UInt64) (x : Int32) : UInt64 := Jvm.FP.dmul (4608083138725491507 : UInt64) (Jvm.FP.dadd (4598175219545276416 : UInt64) (Jvm.FP.ddiv (Jvm.FP.dmul (4604930618986332160 : UInt64) (Jvm.FP.i2d x)) v))
def Wn : Nat := 2 ^ 1072
abbrev W : Int := (Wn : Int)
theorem one_W : one64 = 4 * Wn := by decide +kernel
theorem Wn_pos : 0 < Wn := Nat.two_pow_pos _
def zk : Int := 5404319552844595 * ((2 ^ 1022 : Nat) : Int)
theorem dv_k : Dv 4608083138725491507 zk := ⟨⟨false, 5404319552844595, -52, by decide +kernel⟩, by decide +kernel⟩
theorem dv_25 : Dv 4598175219545276416 W := ⟨⟨false, 4503599627370496, -54, by decide +kernel⟩, by decide +kernel⟩
theorem dv_75 : Dv 4604930618986332160 (3 * W) := ⟨⟨false, 6755399441055744, -53, by decide +kernel⟩, by decide +kernel⟩
theorem dv_175 : Dv 4610560118520545280 (7 * W) := ⟨⟨false, 7881299347898368, -52, by decide +kernel⟩, by decide +kernel⟩
theorem dv_250 : Dv 4612811918334230528 (10 * W) := ⟨⟨false, 5629499534213120, -51, by decide +kernel⟩, by decide +kernel⟩
theorem zk_lo : 0 ≤ zk := by decide +kernel
theorem zk_hi : zk ≤ 2 * (one64 : Int) := by decide +kernel
theorem rep_W {k : Int} (h : k.natAbs < 2 ^ 53) : Rep (k * W) := rep_pow (j := 1072) h (by decide) (by decide)
theorem rep_Wn {K : Nat} (h : K < 2 ^ 53) : Rep ((K * Wn : Nat) : Int) := by
  have q := rep_W (k := (K : Int)) (by omega)
  rw [← Int.natCast_mul] at q
  exact q
theorem one_ex (k : Int) (h : Rep k) : rz k 1 = k := by
  have q := rz_exact h (D := 1) (by decide)
  rw [show k * ((1 : Nat) : Int) = k from Int.mul_one _] at q
  exact q
theorem b_t (x : Int32) : (x.toInt * (3 * W)).natAbs ≤ 2 ^ 33 * Wn := by
  have h := int32_abs x
  rw [← Int.mul_assoc, Int.natAbs_mul, Int.natAbs_natCast]
  exact Nat.mul_le_mul_right _ (by omega)
theorem b_r (x : Int32) {n : Nat} (hn : 0 < n) : (rz (x.toInt * (3 * W)) n).natAbs ≤ 2 ^ 33 * Wn := rz_abs hn (rep_Wn (K := 2 ^ 33) (by decide)) (Nat.le_trans (b_t x) (Nat.le_mul_of_pos_right _ hn))
theorem b_s (x : Int32) {n : Nat} (hn : 0 < n) : (W + rz (x.toInt * (3 * W)) n).natAbs ≤ 2 ^ 34 * Wn := by
  have := b_r x hn
  have hW : W = (Wn : Int) := rfl
  omega
theorem b_w (x : Int32) {n : Nat} (hn : 0 < n) : (rz (W + rz (x.toInt * (3 * W)) n) 1).natAbs ≤ 2 ^ 34 * Wn := rz_abs (by decide) (rep_Wn (K := 2 ^ 34) (by decide)) (by rw [Nat.mul_one]; exact b_s x hn)
theorem b_k {w : Int} (h : w.natAbs ≤ 2 ^ 34 * Wn) : (zk * w).natAbs ≤ 2 ^ 100 * one64 * one64 := by
  have h1 : zk.natAbs ≤ 2 * one64 := by have := zk_lo; have := zk_hi; omega
  have h2 : w.natAbs ≤ 2 ^ 34 * one64 := by have := one_W; omega
  rw [Int.natAbs_mul]
  refine Nat.le_trans (Nat.mul_le_mul h1 h2) ?_
  rw [show 2 * one64 * (2 ^ 34 * one64) = 2 * 2 ^ 34 * one64 * one64 by generalize one64 = w; ac_rfl]
  exact Nat.mul_le_mul_right _ (Nat.mul_le_mul_right _ (by decide))
theorem ln_val {v : UInt64} {A : Int} (x : Int32) (hv : Dv v (A * (one64 : Int))) (hA : 0 < A) :
    Jvm.Free.Fl.NoNaN64 (Jvm.FP.dmul (4604930618986332160 : UInt64) (Jvm.FP.i2d x)) ∧ Jvm.Free.Fl.NoNaN64 (Jvm.FP.ddiv (Jvm.FP.dmul (4604930618986332160 : UInt64) (Jvm.FP.i2d x)) v) ∧ Jvm.Free.Fl.NoNaN64 (Jvm.FP.dadd (4598175219545276416 : UInt64) (Jvm.FP.ddiv (Jvm.FP.dmul (4604930618986332160 : UInt64) (Jvm.FP.i2d x)) v)) ∧ Jvm.Free.Fl.NoNaN64 (lnf v x) ∧
      Dv (lnf v x) (rz (zk * rz (W + rz (x.toInt * (3 * W)) A.natAbs) 1) one64) := by
  have ow := one_W
  have wp := Wn_pos
  have hn : 0 < A.natAbs := by omega
  have d1 : Dv (dmul 4604930618986332160 (i2d x)) (x.toInt * (3 * W)) := by
    rw [dmul_comm]
    refine dv_mulX (dv_i2d x) dv_75 (Nat.le_trans (b_t x) ?_) ?_
    · rw [ow, ← Nat.mul_assoc]; exact Nat.mul_le_mul_right _ (by decide)
    · rw [← Int.mul_assoc]; exact rep_W (by have := int32_abs x; omega)
  have d2 := dv_divU d1 hv hA (by
    refine Nat.le_trans (b_t x) (Nat.le_trans ?_ (Nat.le_mul_of_pos_right _ hn))
    rw [ow, ← Nat.mul_assoc]; exact Nat.mul_le_mul_right _ (by decide))
  have d3 := dv_add dv_25 d2 (by
    refine Nat.le_trans (b_s x hn) ?_
    rw [ow, ← Nat.mul_assoc]; exact Nat.mul_le_mul_right _ (by decide))
  have d4 := dv_mul dv_k d3 (b_k (b_w x hn))
  exact ⟨d1.nn, d2.nn, d3.nn, d4.nn, d4⟩
theorem dv_kc {c : UInt64} {m : Int} (hc : Dv c (m * W)) (hm : m.natAbs ≤ 16) : Dv (Jvm.FP.dmul (4608083138725491507 : UInt64) c) (rz (zk * (m * W)) one64) := dv_mul dv_k hc (b_k (by rw [Int.natAbs_mul, Int.natAbs_natCast]; exact Nat.mul_le_mul_right _ (Nat.le_trans hm (by decide))))
theorem dv_kc1 : Dv (Jvm.FP.dmul (4608083138725491507 : UInt64) (4598175219545276416 : UInt64)) (rz (zk * (1 * W)) one64) := dv_kc (by rw [Int.one_mul]; exact dv_25) (by decide)
theorem dv_kc7 : Dv (Jvm.FP.dmul (4608083138725491507 : UInt64) (4610560118520545280 : UInt64)) (rz (zk * (7 * W)) one64) := dv_kc dv_175 (by decide)
theorem dv_kc10 : Dv (Jvm.FP.dmul (4608083138725491507 : UInt64) (4612811918334230528 : UInt64)) (rz (zk * (10 * W)) one64) := dv_kc dv_250 (by decide)
theorem in_w {x : Int32} {A m : Int} (hA : 0 < A) (hx : x.toInt = m * A) (hm : 0 ≤ m ∧ m ≤ 3) : rz (W + rz (x.toInt * (3 * W)) A.natAbs) 1 = (1 + 3 * m) * W := by
  have e : x.toInt * (3 * W) = 3 * m * W * (A.natAbs : Int) := by
    rw [hx, show (A.natAbs : Int) = A by omega]
    rw [show m * A * (3 * W) = 3 * (m * A * W) by rw [Int.mul_left_comm], show 3 * m * W * A = 3 * (m * A * W) by rw [Int.mul_assoc 3, Int.mul_assoc 3, Int.mul_right_comm]]
  rw [e, rz_exact (rep_W (by omega)) (by omega), show W + 3 * m * W = (1 + 3 * m) * W by rw [Int.add_mul, Int.one_mul]]
  exact one_ex _ (rep_W (by omega))
section
variable {v : UInt64} {A : Int}
theorem f0 (hv : Dv v (A * (one64 : Int))) (hA : 0 < A) : Jvm.FP.dcmp (lnf v 0) (Jvm.FP.dmul (4608083138725491507 : UInt64) (4598175219545276416 : UInt64)) = some .eq := dv_eq (ln_val 0 hv hA).2.2.2.2 dv_kc1 (by
  rw [in_w (m := 0) hA (by rw [Int.zero_mul]; rfl) (by decide)]; rfl)
theorem f1 {x : Int32} (hv : Dv v (A * (one64 : Int))) (hA : 0 < A) (hx : x.toInt = A) : Jvm.FP.dcmp (lnf v x) (4608083138725491507 : UInt64) = some .eq := dv_eq (ln_val x hv hA).2.2.2.2 dv_k (by
  rw [in_w (m := 1) hA (by rw [Int.one_mul]; exact hx) (by decide), show zk * ((1 + 3 * 1) * W) = zk * (one64 : Int) by rw [one_W, Int.natCast_mul]; rfl]
  exact rz_exact dv_k.rep one64_pos)
theorem f2 {x : Int32} (hv : Dv v (A * (one64 : Int))) (hA : 0 < A) (hx : x.toInt = 2 * A) : Jvm.FP.dcmp (lnf v x) (Jvm.FP.dmul (4608083138725491507 : UInt64) (4610560118520545280 : UInt64)) = some .eq := dv_eq (ln_val x hv hA).2.2.2.2 dv_kc7 (by
  rw [in_w (m := 2) hA hx (by decide)]; rfl)
theorem f3 {x : Int32} (hv : Dv v (A * (one64 : Int))) (hA : 0 < A) (hx : x.toInt = 3 * A) : Jvm.FP.dcmp (lnf v x) (Jvm.FP.dmul (4608083138725491507 : UInt64) (4612811918334230528 : UInt64)) = some .eq := dv_eq (ln_val x hv hA).2.2.2.2 dv_kc10 (by
  rw [in_w (m := 3) hA hx (by decide)]; rfl)
theorem f4 {x y : Int32} (hv : Dv v (A * (one64 : Int))) (hA : 0 < A) (h : x.toInt ≤ y.toInt) : Jvm.FP.dcmp (lnf v x) (lnf v y) = some .lt ∨ Jvm.FP.dcmp (lnf v x) (lnf v y) = some .eq := by
  have ow := one_W
  have hn : 0 < A.natAbs := by omega
  refine dv_le (ln_val x hv hA).2.2.2.2 (ln_val y hv hA).2.2.2.2 ?_
  have lt : ∀ z : Int32, (z.toInt * (3 * W)).natAbs ≤ 2 ^ 100 * one64 * A.natAbs := fun z => by
    refine Nat.le_trans (b_t z) (Nat.le_trans ?_ (Nat.le_mul_of_pos_right _ hn))
    rw [ow, ← Nat.mul_assoc]; exact Nat.mul_le_mul_right _ (by decide)
  have ls : ∀ z : Int32, (W + rz (z.toInt * (3 * W)) A.natAbs).natAbs ≤ 2 ^ 100 * one64 * 1 := fun z => by
    refine Nat.le_trans (b_s z hn) ?_
    rw [ow, Nat.mul_one, ← Nat.mul_assoc]; exact Nat.mul_le_mul_right _ (by decide)
  have m1 : rz (x.toInt * (3 * W)) A.natAbs ≤ rz (y.toInt * (3 * W)) A.natAbs := rz_mono hn hn (Int.mul_le_mul_of_nonneg_right (Int.mul_le_mul_of_nonneg_right h (by have hW : W = (Wn : Int) := rfl; omega)) (by omega)) (lt x) (lt y)
  have m2 : rz (W + rz (x.toInt * (3 * W)) A.natAbs) 1 ≤ rz (W + rz (y.toInt * (3 * W)) A.natAbs) 1 := rz_mono (by decide) (by decide) (by omega) (ls x) (ls y)
  exact rz_mono one64_pos one64_pos (Int.mul_le_mul_of_nonneg_right (Int.mul_le_mul_of_nonneg_left m2 zk_lo) (by omega)) (b_k (b_w x hn)) (b_k (b_w y hn))
theorem pw_k {k : Nat} (hk : k ≤ 15) : W = ((2 ^ (1072 - k) : Nat) : Int) * ((2 ^ k : Nat) : Int) := by
  rw [← Int.natCast_mul, ← Nat.pow_add, show 1072 - k + k = 1072 by omega]; rfl
/-- A a power of two -/
theorem f5 {a x y : Int32} {k : Nat} (hk : k ≤ 15) (ha : a.toInt = ((2 ^ k : Nat) : Int)) (hv : Dv v (a.toInt * (one64 : Int))) (hx : x.toInt.natAbs < 2 ^ 20) (hy : y.toInt = a.toInt + 3 * x.toInt) :
    Jvm.Free.Fl.NoNaN64 (Jvm.FP.dmul (4616189618054758400 : UInt64) (Jvm.FP.i2d a)) ∧ Jvm.Free.Fl.NoNaN64 (Jvm.FP.ddiv (Jvm.FP.i2d y) (Jvm.FP.dmul (4616189618054758400 : UInt64) (Jvm.FP.i2d a))) ∧
    Jvm.Free.Fl.NoNaN64 (Jvm.FP.dmul (4608083138725491507 : UInt64) (Jvm.FP.ddiv (Jvm.FP.i2d y) (Jvm.FP.dmul (4616189618054758400 : UInt64) (Jvm.FP.i2d a)))) ∧
      Jvm.FP.dcmp (lnf v x) (Jvm.FP.dmul (4608083138725491507 : UInt64) (Jvm.FP.ddiv (Jvm.FP.i2d y) (Jvm.FP.dmul (4616189618054758400 : UInt64) (Jvm.FP.i2d a)))) = some .eq := by
  have ow := one_W
  have p2 : 2 ^ k ≤ 2 ^ 15 := Nat.pow_le_pow_right (by decide) hk
  have p1 : 0 < 2 ^ k := Nat.two_pow_pos k
  have hA : 0 < a.toInt := by omega
  have hn : 0 < a.toInt.natAbs := by omega
  have an : a.toInt.natAbs = 2 ^ k := by omega
  have y20 : y.toInt.natAbs < 2 ^ 53 := by omega
  have d1 : Dv (dmul 4616189618054758400 (i2d a)) (4 * a.toInt * (one64 : Int)) := by
    have q := dv_mulX dv4 (dv_i2d a) (by rw [← Int.mul_assoc, Int.natAbs_mul, Int.natAbs_natCast]; exact Nat.mul_le_mul_right _ (by omega)) (by rw [← Int.mul_assoc]; exact rep_U (by omega))
    rw [← Int.mul_assoc] at q
    exact q
  have d2 := dv_divU (dv_i2d y) d1 (by omega) (by
    rw [Int.natAbs_mul, Int.natAbs_natCast]
    exact Nat.le_trans (Nat.mul_le_mul_right _ (show y.toInt.natAbs ≤ 2 ^ 100 by omega)) (Nat.le_mul_of_pos_right _ (by omega)))
  have pk := pw_k hk
  have e1 : rz (y.toInt * (one64 : Int)) (4 * a.toInt).natAbs = y.toInt * ((2 ^ (1072 - k) : Nat) : Int) := by
    rw [show y.toInt * (one64 : Int) = y.toInt * ((2 ^ (1072 - k) : Nat) : Int) * ((4 * a.toInt).natAbs : Int) by
      rw [show ((4 * a.toInt).natAbs : Int) = ((2 ^ k : Nat) : Int) * 4 by omega, Int.mul_assoc, ← Int.mul_assoc _ _ 4, ← pk, show (one64 : Int) = W * 4 by have := one_W; have hW : W = (Wn : Int) := rfl; omega]]
    exact rz_exact (rep_pow y20 (by omega) (by omega)) (by omega)
  rw [e1] at d2
  have e2 : rz (x.toInt * (3 * W)) a.toInt.natAbs = 3 * x.toInt * ((2 ^ (1072 - k) : Nat) : Int) := by
    rw [show x.toInt * (3 * W) = 3 * x.toInt * ((2 ^ (1072 - k) : Nat) : Int) * (a.toInt.natAbs : Int) by
      rw [an, Int.mul_assoc, ← pk, Int.mul_left_comm, Int.mul_assoc]]
    exact rz_exact (rep_pow (by omega) (by omega) (by omega)) hn
  have e3 : rz (W + rz (x.toInt * (3 * W)) a.toInt.natAbs) 1 = y.toInt * ((2 ^ (1072 - k) : Nat) : Int) := by
    rw [e2, show W + 3 * x.toInt * ((2 ^ (1072 - k) : Nat) : Int) = y.toInt * ((2 ^ (1072 - k) : Nat) : Int) by
      rw [hy, ha, Int.add_mul, pk, Int.mul_comm ((2 ^ (1072 - k) : Nat) : Int)]]
    exact one_ex _ (rep_pow y20 (by omega) (by omega))
  have b := b_w x hn
  rw [e3] at b
  have d3 := dv_mul dv_k d2 (b_k b)
  refine ⟨d1.nn, d2.nn, d3.nn, dv_eq (ln_val x hv hA).2.2.2.2 d3 ?_⟩
  rw [e3]
end
theorem dv_avg {d a : Int32} {l : Int64} (hd : 1 ≤ d.toInt ∧ d.toInt ≤ 1024) (ha : 1 ≤ a.toInt ∧ a.toInt ≤ 1048576) (hl : l.toInt = d.toInt * a.toInt) : Dv (Jvm.FP.ddiv (Jvm.FP.l2d l) (Jvm.FP.i2d d)) (a.toInt * (one64 : Int)) := by
  have b : (d.toInt * a.toInt).natAbs ≤ 2 ^ 30 := by
    rw [Int.natAbs_mul]
    exact Nat.le_trans (Nat.mul_le_mul (show d.toInt.natAbs ≤ 2 ^ 10 by omega) (show a.toInt.natAbs ≤ 2 ^ 20 by omega)) (by decide)
  have d1 := dv_l2d (x := l) (by rw [hl]; omega)
  have q := dv_divU d1 (dv_i2d d) (by omega) (by
    rw [hl, Int.natAbs_mul, Int.natAbs_natCast]
    exact Nat.le_trans (Nat.mul_le_mul_right _ (show (d.toInt * a.toInt).natAbs ≤ 2 ^ 100 by omega)) (Nat.le_mul_of_pos_right _ (by omega)))
  rw [hl, show d.toInt * a.toInt * (one64 : Int) = a.toInt * (one64 : Int) * (d.toInt.natAbs : Int) by rw [show (d.toInt.natAbs : Int) = d.toInt by omega, Int.mul_comm d.toInt, Int.mul_right_comm], rz_exact (rep_U (by omega)) (by omega)] at q
  exact q
end Fl
end Jvm.Pilot.@@N@@
namespace Jvm.Pilot.@@N@@
open Jvm Jvm.ClassFile Sem Op Lib Jvm.Free Jvm.Stand Jvm.LawKit Jvm.RoadKit Bundle Jvm.Pilot.@@N@@.Jvm.D
/-! my own words: Go (the run comes from T to a state with P), a step, a return -/
def Go (tb : Tables) (e : Env) (below : List Frame) (P : State → Prop) (T : State) : Prop := ∃ u, P u ∧ ∀ t, Steps tb e below u t → Steps tb e below T t
theorem Go.by' {tb : Tables} {e : Env} {below : List Frame} {P : State → Prop} {T T' : State} (h : ∀ t, Steps tb e below T' t → Steps tb e below T t) (k : Go tb e below P T') : Go tb e below P T :=
  k.elim fun u q => ⟨u, q.1, fun t z => h t (q.2 t z)⟩
theorem Go.cast {tb : Tables} {e : Env} {below : List Frame} {P : State → Prop} {T : State} {g g' : JFrame} (q : g = g') (k : Go tb e below P (T.setTop g')) : Go tb e below P (T.setTop g) := q ▸ k
theorem Go.castF {tb : Tables} {e : Env} {below : List Frame} {P : State → Prop} {T : State} {α : Type} (F : α → JFrame) {a b : α} (q : a = b) (k : Go tb e below P (T.setTop (F b))) : Go tb e below P (T.setTop (F a)) := q ▸ k
def Fin' (s : State) (below : List Frame) (ce sl : Nat) (Q : Option Value → Heap → List Loc → Prop) (u : State) : Prop := u.status = .running ∧ ∃ o, Ended u below o ∧ ∃ v L, o = .returned v ∧ Q v u.heap L ∧ FrameEnd s o u L ce sl
theorem Go.body {tb : Tables} {e : Env} {below : List Frame} {s : State} {ce sl : Nat} {Q : Option Value → Heap → List Loc → Prop} {T : State} (h : Go tb e below (Fin' s below ce sl Q) T) :
    ∃ s₂ o, Steps tb e below T s₂ ∧ s₂.status = .running ∧ Ended s₂ below o ∧ ∃ v L, o = .returned v ∧ Q v s₂.heap L ∧ FrameEnd s o s₂ L ce sl := by
  obtain ⟨u, ⟨h1, o, h2, h3⟩, h4⟩ := h
  exact ⟨u, o, h4 u (Steps.refl _), h1, h2, h3⟩
section OwnStand
variable {p : Program} {l : Launch} {e : Env} {R : Room} {s : State} {m : MethodId} {args : Array Value} {below : List Frame} {meth : Method} {c : Code} {T : State} {locs : List Loc} {cells slots : Nat}
def Like (X : Stand p l e R s m args below meth c T locs cells slots) (T' : State) : Prop := Stand p l e R s m args below meth c T' locs cells slots
theorem Go.out (X : Stand p l e R s m args below meth c T locs cells slots) {v : Option Value} (hv : meth.sig.returnType = none → v = none) (hlocks : meth.locks = false) {g : JFrame} {ce sl : Nat} {Q : Option Value → Heap → List Loc → Prop}
    (st : ∀ fs : List Frame, (∀ (f : JFrame) (acts : List Action), f.method = m → f.locked = none → f.entered = [] → (doReturn e (T.setTop f) acts v).1 = T.setFrames fs) → Steps p.tables e below (T.setTop g) (T.setFrames fs))
    (hc : cells ≤ ce) (hs : slots ≤ sl) (q : Q v T.heap locs) : Go p.tables e below (Fin' s below ce sl Q) (T.setTop g) := by
  obtain ⟨fs, hr, hrun, hended, hW, hsame⟩ := X.leave (v := v) hv hlocks
  exact ⟨T.setFrames fs, ⟨hrun, _, hended, v, locs, rfl, q, ⟨_, rfl⟩, hW, hsame.mono hc hs⟩, fun t k => (st fs hr).trans k⟩
theorem Go.retI' (X : Stand p l e R s m args below meth c T locs cells slots) (hx : p.tables.exec = Jvm.exec) {pc : Nat} {Ls : Array Slot} {z : Int32} {rest : List Value} {t : FieldType} (hret : meth.sig.returnType = some t) (hlocks : meth.locks = false)
    (ht : t = .int ∨ t = .boolean ∨ t = .byte ∨ t = .char ∨ t = .short) (hn : narrow t (.int z) = .int z) (hd : decode c.code pc = .ok (.ireturn, 1)) {ce sl : Nat} {Q : Option Value → Heap → List Loc → Prop} (hc : cells ≤ ce) (hs : slots ≤ sl) (q : Q (some (.int z)) T.heap locs) :
    Go p.tables e below (Fin' s below ce sl Q) (T.setTop (mkF m pc Ls (.int z :: rest))) :=
  Go.out X (fun h => by rw [hret] at h; cases h) hlocks (fun _ hl => retOut X hx hret hn (Or.inl ⟨rfl, ht, z, rfl⟩) hd hl) hc hs q
theorem Go.retA' (X : Stand p l e R s m args below meth c T locs cells slots) (hx : p.tables.exec = Jvm.exec) {pc : Nat} {Ls : Array Slot} {w : Value} {rest : List Value} {t : FieldType} (hret : meth.sig.returnType = some t) (hlocks : meth.locks = false)
    (ht : t.isReference = true) (hw : w.isRef = true) (hd : decode c.code pc = .ok (.areturn, 1)) {ce sl : Nat} {Q : Option Value → Heap → List Loc → Prop} (hc : cells ≤ ce) (hs : slots ≤ sl) (q : Q (some w) T.heap locs) :
    Go p.tables e below (Fin' s below ce sl Q) (T.setTop (mkF m pc Ls (w :: rest))) :=
  Go.out X (fun h => by rw [hret] at h; cases h) hlocks (fun _ hl => retOut X hx hret (by cases t <;> first | (cases ht; done) | (rcases ref_cases hw with rfl | ⟨z, rfl⟩ <;> rfl)) (Or.inr (Or.inr (Or.inr (Or.inr ⟨rfl, ht, hw⟩)))) hd hl) hc hs q
theorem Go.retD' (X : Stand p l e R s m args below meth c T locs cells slots) (hx : p.tables.exec = Jvm.exec) {pc : Nat} {Ls : Array Slot} {z : UInt64} {rest : List Value} (hret : meth.sig.returnType = some .double) (hlocks : meth.locks = false)
    (hd : decode c.code pc = .ok (.dreturn, 1)) {ce sl : Nat} {Q : Option Value → Heap → List Loc → Prop} (hc : cells ≤ ce) (hs : slots ≤ sl) (q : Q (some (.double z)) T.heap locs) :
    Go p.tables e below (Fin' s below ce sl Q) (T.setTop (mkF m pc Ls (.double z :: rest))) :=
  Go.out X (fun h => by rw [hret] at h; cases h) hlocks (fun _ hl => retOut X hx hret rfl (Or.inr (Or.inr (Or.inl ⟨rfl, rfl, z, rfl⟩))) hd hl) hc hs q
theorem Go.retV' (X : Stand p l e R s m args below meth c T locs cells slots) (hx : p.tables.exec = Jvm.exec) {pc : Nat} {Ls : Array Slot} (hret : meth.sig.returnType = none) (hlocks : meth.locks = false)
    (hd : decode c.code pc = .ok (.return_, 1)) {ce sl : Nat} {Q : Option Value → Heap → List Loc → Prop} (hc : cells ≤ ce) (hs : slots ≤ sl) (q : Q none T.heap locs) :
    Go p.tables e below (Fin' s below ce sl Q) (T.setTop (mkF m pc Ls [])) :=
  Go.out X (fun _ => rfl) hlocks (fun _ hl => X.returnOut hx hret hd hl) hc hs q
theorem own_nil (X : Stand p l e R s m args below meth c T (locs ++ []) cells slots) : Stand p l e R s m args below meth c T locs cells slots := by rw [List.append_nil] at X; exact X
theorem own_pack {k : Nat} (X : Stand p l e R s m args below meth c T locs cells slots) (N : Fr k locs) : ∃ ll, Stand p l e R s m args below meth c T ll cells slots ∧ Fr k ll := ⟨_, X, N⟩
end OwnStand
abbrev vi (x : Int32) : Slot := .val (.int x)
abbrev vr (a : Addr) : Slot := .val (.ref a)
theorem own_nb {z : Int32} (h : z = 0 ∨ z = 1) : narrow .boolean (.int z) = .int z := by rcases h with rfl | rfl <;> rfl
theorem own_fb {z : Int32} (h : z = 0 ∨ z = 1) : fits .boolean (.int z) = true := by rcases h with rfl | rfl <;> rfl
theorem own_bb {x : Int32} : nar .byte (x.toInt8.toInt32) = x.toInt8.toInt32 := by show x.toInt8.toInt32.toInt8.toInt32 = x.toInt8.toInt32; simp
theorem own_nm (x : Int32) : nar .char (x &&& (255 : Int32)) = (x &&& (255 : Int32)) := i2c_mask x
theorem own_i2c {x : Int32} (h0 : ¬ x < (0 : Int32)) (h1 : ¬ (255 : Int32) < x) : x.toUInt32.toUInt16.toUInt32.toInt32 = x := by
  have a := c_i2c x
  have z0 : (0 : Int32).toInt = 0 := rfl
  have z1 : (255 : Int32).toInt = 255 := rfl
  rw [Int32.lt_iff_toInt_lt] at h0 h1
  rw [← Int32.toInt_inj]; omega
theorem own_nc {x : Int32} (h0 : ¬ x < (0 : Int32)) (h1 : ¬ (255 : Int32) < x) : nar .char x = x := own_i2c h0 h1
theorem own_b8 {x y : Int32} (h0 : ¬ x < (0 : Int32)) (h1 : ¬ (255 : Int32) < x) (h2 : ¬ y < (0 : Int32)) (h3 : ¬ (255 : Int32) < y) : (x.toInt8.toInt32) = (y.toInt8.toInt32) ↔ x = y := by
  have a := c_i2b x
  have b := c_i2b y
  have z0 : (0 : Int32).toInt = 0 := rfl
  have z1 : (255 : Int32).toInt = 255 := rfl
  rw [Int32.lt_iff_toInt_lt] at h0 h1 h2 h3
  rw [← Int32.toInt_inj, ← Int32.toInt_inj]; omega
theorem own_m (x : Int32) : ¬ (x &&& (255 : Int32)) < (0 : Int32) ∧ ¬ (255 : Int32) < (x &&& (255 : Int32)) := by
  have h := c_mask x 255 8 (by decide) (by decide)
  have z0 : (0 : Int32).toInt = 0 := rfl
  have z1 : (255 : Int32).toInt = 255 := rfl
  rw [Int32.lt_iff_toInt_lt, Int32.lt_iff_toInt_lt]; omega
theorem own_le {Z : State} {n0 : Nat} {h : Heap} (X : Old Z n0 h) : n0 ≤ h.size := X.1 ▸ X.2.1
theorem own_d (x : Int32) : 1 ≤ ((1 : Int32) + (x &&& (1023 : Int32))).toInt ∧ ((1 : Int32) + (x &&& (1023 : Int32))).toInt ≤ 1024 := by
  have h := c_mask x 1023 10 (by decide) (by decide)
  have e : ((1 : Int32) + (x &&& (1023 : Int32))).toInt = (1 : Int32).toInt + (x &&& (1023 : Int32)).toInt := by rw [Int32.toInt_add]; exact Int.bmod_eq_of_le (by rw [show (1 : Int32).toInt = 1 from rfl]; omega) (by rw [show (1 : Int32).toInt = 1 from rfl]; omega)
  rw [e, show (1 : Int32).toInt = 1 from rfl]
  omega
theorem own_a (x : Int32) : 1 ≤ ((1 : Int32) + (x &&& (1048575 : Int32))).toInt ∧ ((1 : Int32) + (x &&& (1048575 : Int32))).toInt ≤ 1048576 := by
  have h := c_mask x 1048575 20 (by decide) (by decide)
  have e : ((1 : Int32) + (x &&& (1048575 : Int32))).toInt = (1 : Int32).toInt + (x &&& (1048575 : Int32)).toInt := by rw [Int32.toInt_add]; exact Int.bmod_eq_of_le (by rw [show (1 : Int32).toInt = 1 from rfl]; omega) (by rw [show (1 : Int32).toInt = 1 from rfl]; omega)
  rw [e, show (1 : Int32).toInt = 1 from rfl]
  omega
theorem own_pn : ∀ n : Nat, n < 16 → ((1 : Int32) <<< (n.toInt32 &&& 31)).toInt = ((2 ^ n : Nat) : Int) := by decide +kernel
theorem own_pp (x : Int32) : ∃ k : Nat, k ≤ 15 ∧ ((1 : Int32) <<< ((x &&& (15 : Int32)) &&& 31)).toInt = ((2 ^ k : Nat) : Int) := by
  have h := c_mask x 15 4 (by decide) (by decide)
  obtain ⟨n, hn⟩ : ∃ n : Nat, (x &&& (15 : Int32)).toInt = n := ⟨_, (Int.toNat_of_nonneg (by omega)).symm⟩
  have hx : (x &&& (15 : Int32)) = n.toInt32 := by rw [← Int32.toInt_inj, hn, len_toInt (by omega)]
  exact ⟨n, by omega, by rw [hx]; exact own_pn n (by omega)⟩
theorem own_pb {a : Int32} {k : Nat} (hk : k ≤ 15) (h : a.toInt = ((2 ^ k : Nat) : Int)) : 1 ≤ a.toInt ∧ a.toInt ≤ 1048576 := by
  have p2 : 2 ^ k ≤ 2 ^ 15 := Nat.pow_le_pow_right (by decide) hk
  have p1 : 0 < 2 ^ k := Nat.two_pow_pos k
  omega
theorem own_l {d a : Int32} (hd : 1 ≤ d.toInt ∧ d.toInt ≤ 1024) (ha : 1 ≤ a.toInt ∧ a.toInt ≤ 1048576) : (d.toInt64 * a.toInt64).toInt = d.toInt * a.toInt := by
  have b : (d.toInt * a.toInt).natAbs ≤ 2 ^ 30 := by
    rw [Int.natAbs_mul]
    exact Nat.le_trans (Nat.mul_le_mul (show d.toInt.natAbs ≤ 2 ^ 10 by omega) (show a.toInt.natAbs ≤ 2 ^ 20 by omega)) (by decide)
  rw [Int64.toInt_mul, Int32.toInt_toInt64, Int32.toInt_toInt64]
  exact Int.bmod_eq_of_le (by omega) (by omega)
theorem own_2a {a : Int32} (ha : 1 ≤ a.toInt ∧ a.toInt ≤ 1048576) : ((2 : Int32) * a).toInt = 2 * a.toInt := by
  rw [Int32.toInt_mul, show (2 : Int32).toInt = 2 from rfl]
  exact Int.bmod_eq_of_le (by omega) (by omega)
theorem own_3a {a : Int32} (ha : a.toInt.natAbs ≤ 1048576) : ((3 : Int32) * a).toInt = 3 * a.toInt := by
  rw [Int32.toInt_mul, show (3 : Int32).toInt = 3 from rfl]
  exact Int.bmod_eq_of_le (by omega) (by omega)
theorem own_r (x : Int32) : (x % (1048576 : Int32)).toInt.natAbs < 2 ^ 20 := by
  have h := c_irem x 1048576 1048576 rfl
  omega
theorem own_y {a x : Int32} (ha : 1 ≤ a.toInt ∧ a.toInt ≤ 1048576) (hx : x.toInt.natAbs < 2 ^ 20) : (a + ((3 : Int32) * x)).toInt = a.toInt + 3 * x.toInt := by
  rw [Int32.toInt_add, own_3a (by omega)]
  exact Int.bmod_eq_of_le (by omega) (by omega)
theorem own_le2 {x y lo hi : Int32} (h1 : (y < x ∧ lo = y) ∨ (¬ (y < x) ∧ lo = x)) (h2 : (x < y ∧ hi = y) ∨ (¬ (x < y) ∧ hi = x)) : lo.toInt ≤ hi.toInt := by
  rw [Int32.lt_iff_toInt_lt] at h1 h2
  rcases h1 with ⟨a, rfl⟩ | ⟨a, rfl⟩ <;> rcases h2 with ⟨b, rfl⟩ | ⟨b, rfl⟩ <;> omega
theorem d1_0 : decode prog_28_method_1_code 0 = .ok (.aload_n 0, 1) := by decide +kernel
theorem d1_1 : decode prog_28_method_1_code 1 = .ok (.invokespecial 1, 3) := by decide +kernel
theorem d1_4 : decode prog_28_method_1_code 4 = .ok (.aload_n 0, 1) := by decide +kernel
theorem d1_5 : decode prog_28_method_1_code 5 = .ok (.iload_n 1, 1) := by decide +kernel
theorem d1_6 : decode prog_28_method_1_code 6 = .ok (.putfield 7, 3) := by decide +kernel
theorem d1_9 : decode prog_28_method_1_code 9 = .ok (.aload_n 0, 1) := by decide +kernel
theorem d1_10 : decode prog_28_method_1_code 10 = .ok (.lload_n 2, 1) := by decide +kernel
theorem d1_11 : decode prog_28_method_1_code 11 = .ok (.l2d, 1) := by decide +kernel
theorem d1_12 : decode prog_28_method_1_code 12 = .ok (.iload_n 1, 1) := by decide +kernel
theorem d1_13 : decode prog_28_method_1_code 13 = .ok (.i2d, 1) := by decide +kernel
theorem d1_14 : decode prog_28_method_1_code 14 = .ok (.ddiv, 1) := by decide +kernel
theorem d1_15 : decode prog_28_method_1_code 15 = .ok (.putfield 13, 3) := by decide +kernel
theorem d1_18 : decode prog_28_method_1_code 18 = .ok (.return_, 1) := by decide +kernel
theorem pn_1 : plainName "com/example/kull/kull/core/search/Bm25" = true := by first | (simp [plainName, overriddenIn]; done) | decide +kernel
set_option maxHeartbeats 4000000 in
theorem ef_rmBI (m : MethodId) {so : Addr} {dd : Int32} {ll : Int64} : entryFrame m #[(.ref so), (.int dd), (.long ll)] 4 = mkF m 0 #[.val (.ref so), .val (.int dd), .val (.long ll), .second] [] := by first | (simp [entryFrame, mkF, argsToLocals, Value.category]; done) | rfl
def QrmBI (Z : State)  (so : Addr) (dd : Int32) (ll : Int64) (h0 : Heap) (n0 : Nat) (v : Option Value) (h : Heap) (L : List Loc) : Prop := (v = none) ∧ (Fr n0 L) ∧ (Keep h0 h [so]) ∧ (Exa Z h so "com/example/kull/kull/core/search/Bm25") ∧ (Fld Z h so "com/example/kull/kull/core/search/Bm25" "averageLength" "D" (.double (FP.ddiv (FP.l2d ll) (FP.i2d dd))))
set_option maxRecDepth 65536 in
set_option maxHeartbeats 40000000 in
theorem rmBI (l : Launch) (Z : State) (a0 : Array Value) (hw : ∀ d ∈ tables_1, d.before a0 Z = true) (ws : List Jvm.Cond)  (so : Addr) (dd : Int32) (ll : Int64) (h0 : Heap) (n0 : Nat) (O0 : Old Z n0 h0) (EX : Exa Z h0 so "com/example/kull/kull/core/search/Bm25") (F1 : Fld Z h0 so "com/example/kull/kull/core/search/Bm25" "documentCount" "I" (.int (0 : Int32))) (F2 : Fld Z h0 so "com/example/kull/kull/core/search/Bm25" "averageLength" "D" (.double (0 : UInt64))) (g_so : n0 ≤ so) (nn : Jvm.Free.Fl.NoNaN64 (FP.ddiv (FP.l2d ll) (FP.i2d dd))) :
    MetFree l (⟨"com/example/kull/kull/core/search/Bm25", "<init>", "(IJ)V"⟩ : MethodName) (head1 (Jvm.Cond.code (⟨"com/example/kull/kull/core/search/Bm25", "<init>", "(IJ)V"⟩ : MethodName) prog_28_method_1_code 4 none :: ws) ({ frames := 1, cells := 0, slots := 0, locals := 12 } : Room)) (fun aa' UU' => aa' = #[(.ref so), (.int dd), (.long ll)] ∧ Z.Warmed39 UU'.vm ∧ UU'.heap = h0) (fun _ _ _ _ _ => True) (fun _ UU' oo' VV' => ∃ v' L', oo' = .returned v' ∧ QrmBI Z  so dd ll h0 n0 v' VV'.heap L' ∧ FrameEnd UU' oo' VV' L' ({ frames := 1, cells := 0, slots := 0, locals := 12 } : Room).cells ({ frames := 1, cells := 0, slots := 0, locals := 12 } : Room).slots) := by
  refine MetFree.of_bodySF (plainFor_of_name pn_1) hisR ?_
  intro p e s m args below meth c s₁ Bd hml0 hP hK
  obtain ⟨rfl, hZ, hh⟩ := hP
  have hx := Bd.exec
  have hby := Bd.bytes
  have hlk := Bd.notSynchronized
  have hml : c.maxLocals = 4 := hml0
  have hown : s.vm.findClass "com/example/kull/kull/core/search/Bm25" = some m.cls := findClass_of_methodNamed Bd.named
  have hnm := (name_of_methodNamed Bd.named Bd.method).1
  have hret := Bd.returns
  have X0 : Stand p l e ({ frames := 1, cells := 0, slots := 0, locals := 12 } : Room) s m #[(.ref so), (.int dd), (.long ll)] below meth c s₁ [] 0 0 := Stand.of_body Bd
  have e0 : s₁.heap = h0 := by rw [← hh, Bd.state]; rfl
  have N0 := Fr.nil n0
  have KC0 : Keep h0 h0 [so] := Keep.refl _ _
  refine Go.body ?_
  obtain ⟨Pf, hPf⟩ : ∃ P, P = Fin' s below ({ frames := 1, cells := 0, slots := 0, locals := 12 } : Room).cells ({ frames := 1, cells := 0, slots := 0, locals := 12 } : Room).slots (QrmBI Z  so dd ll h0 n0) := ⟨_, rfl⟩
  rw [← hPf]
  refine Go.cast (ef_rmBI m) ?_
  have hw2 := (hw _ (List.mem_of_getElem? (i := 2) rfl))
  have hw7 := (hw _ (List.mem_of_getElem? (i := 7) rfl))
  have hw8 := (hw _ (List.mem_of_getElem? (i := 8) rfl))
  have hw9 := (hw _ (List.mem_of_getElem? (i := 9) rfl))
  have hw10 := (hw _ (List.mem_of_getElem? (i := 10) rfl))
  have hw11 := (hw _ (List.mem_of_getElem? (i := 11) rfl))
  have hw12 := (hw _ (List.mem_of_getElem? (i := 12) rfl))
  have hw13 := (hw _ (List.mem_of_getElem? (i := 13) rfl))
  show Go p.tables e below Pf (s₁.setTop (mkF m 0 #[.val (.ref so), .val (.int dd), .val (.long ll), .second] []))
  refine Go.by' (fun t k => (XS.aloadN X0.here hx rfl (hb hby d1_0) rfl rfl k)) ?_
  show Go p.tables e below Pf (s₁.setTop (mkF m 1 #[.val (.ref so), .val (.int dd), .val (.long ll), .second] [(.ref so)]))
  obtain ⟨T1, X1, e1, st1⟩ := initO X0 hx hZ hown hw7 hw8 hw9 e0 (g := (mkF m 1 #[.val (.ref so), .val (.int dd), .val (.long ll), .second] [(.ref so)])) rfl (by rw [hml]; rfl) rfl (hb hby d1_1) (by decide) (W := 0) (by show 2 * 0 + _ ≤ _; exact Nat.le_of_eq rfl) (by decide)
  refine Go.by' st1 ?_
  show Go p.tables e below Pf (T1.setTop (mkF m 4 #[.val (.ref so), .val (.int dd), .val (.long ll), .second] []))
  refine Go.by' (fun t k => (XS.aloadN X1.here hx rfl (hb hby d1_4) rfl rfl (XS.iloadN X1.here hx rfl (hb hby d1_5) rfl k))) ?_
  show Go p.tables e below Pf (T1.setTop (mkF m 6 #[.val (.ref so), .val (.int dd), .val (.long ll), .second] [(.int dd), (.ref so)]))
  obtain ⟨T2, h2, X2, e2, W2, st2⟩ := putF X1 hx hZ hown (host := "") (Or.inl hw10) Via.refl e1 F1 EX (Or.inr ⟨hw11, rfl, hnm⟩) hw2 (ty := .int) (by decide) rfl rfl (g := (mkF m 6 #[.val (.ref so), .val (.int dd), .val (.long ll), .second] [(.int dd), (.ref so)])) rfl rfl (hb hby d1_6)
  refine Go.by' st2 ?_
  have Fw2 : Fld Z h2 so "com/example/kull/kull/core/search/Bm25" "documentCount" "I" (Value.int dd) := F1.same W2
  have N2 := Fr.snoc X2 N0 g_so
  obtain ⟨lc2, X2, N2⟩ := own_pack X2 N2
  have O2 := O0.wr W2 g_so
  have KC2 : Keep h0 h2 [so] := KC0.wr W2 (Or.inl (List.mem_of_getElem? (i := 0) rfl))
  show Go p.tables e below Pf (T2.setTop (mkF m 9 #[.val (.ref so), .val (.int dd), .val (.long ll), .second] []))
  refine Go.by' (fun t k => (XS.aloadN X2.here hx rfl (hb hby d1_9) rfl rfl (XS.lloadN X2.here hx rfl (hb hby d1_10) rfl (XS.l2dS X2.here hx rfl (hb hby d1_11) rfl rfl (XS.iloadN X2.here hx rfl (hb hby d1_12) rfl (XS.i2dS X2.here hx rfl (hb hby d1_13) rfl rfl (XS.ddivS X2.here hx rfl (hb hby d1_14) rfl nn rfl k))))))) ?_
  show Go p.tables e below Pf (T2.setTop (mkF m 15 #[.val (.ref so), .val (.int dd), .val (.long ll), .second] [(.double (FP.ddiv (FP.l2d ll) (FP.i2d dd))), (.ref so)]))
  obtain ⟨T3, h3, X3, e3, W3, st3⟩ := putF X2 hx hZ hown (host := "") (Or.inl hw12) Via.refl e2 (F2.other W2 (Or.inr (slot_ne (Or.inr hw13) (Or.inr hw11) (by decide) (t := .double) (t' := .int) (by decide) (by decide)))) (EX.wr W2) (Or.inr ⟨hw13, rfl, hnm⟩) hw2 (ty := .double) (by decide) rfl rfl (g := (mkF m 15 #[.val (.ref so), .val (.int dd), .val (.long ll), .second] [(.double (FP.ddiv (FP.l2d ll) (FP.i2d dd))), (.ref so)])) rfl rfl (hb hby d1_15)
  refine Go.by' st3 ?_
  have Fw3 : Fld Z h3 so "com/example/kull/kull/core/search/Bm25" "averageLength" "D" (Value.double (FP.ddiv (FP.l2d ll) (FP.i2d dd))) := (F2.other W2 (Or.inr (slot_ne (Or.inr hw13) (Or.inr hw11) (by decide) (t := .double) (t' := .int) (by decide) (by decide)))).same W3
  have N3 := Fr.snoc X3 N2 g_so
  obtain ⟨lc3, X3, N3⟩ := own_pack X3 N3
  have O3 := O2.wr W3 g_so
  have KC3 : Keep h0 h3 [so] := KC2.wr W3 (Or.inl (List.mem_of_getElem? (i := 0) rfl))
  show Go p.tables e below Pf (T3.setTop (mkF m 18 #[.val (.ref so), .val (.int dd), .val (.long ll), .second] []))
  have c4 := ((EX.wr W2).wr W3)
  rw [hPf]
  exact Go.retV' X3 hx hret hlk (hb hby d1_18) (by decide) (by decide) ⟨rfl, N3, (by rw [e3]; exact KC3), (by rw [e3]; exact c4), (by rw [e3]; exact Fw3)⟩
theorem d3_0 : decode prog_28_method_3_code 0 = .ok (.ldc2_w 25, 3) := by decide +kernel
theorem d3_3 : decode prog_28_method_3_code 3 = .ok (.ldc2_w 27, 3) := by decide +kernel
theorem d3_6 : decode prog_28_method_3_code 6 = .ok (.ldc2_w 29, 3) := by decide +kernel
theorem d3_9 : decode prog_28_method_3_code 9 = .ok (.iload_n 1, 1) := by decide +kernel
theorem d3_10 : decode prog_28_method_3_code 10 = .ok (.i2d, 1) := by decide +kernel
theorem d3_11 : decode prog_28_method_3_code 11 = .ok (.dmul, 1) := by decide +kernel
theorem d3_12 : decode prog_28_method_3_code 12 = .ok (.aload_n 0, 1) := by decide +kernel
theorem d3_13 : decode prog_28_method_3_code 13 = .ok (.getfield 13, 3) := by decide +kernel
theorem d3_16 : decode prog_28_method_3_code 16 = .ok (.ddiv, 1) := by decide +kernel
theorem d3_17 : decode prog_28_method_3_code 17 = .ok (.dadd, 1) := by decide +kernel
theorem d3_18 : decode prog_28_method_3_code 18 = .ok (.dmul, 1) := by decide +kernel
theorem d3_19 : decode prog_28_method_3_code 19 = .ok (.dreturn, 1) := by decide +kernel
theorem pn_3 : plainName "com/example/kull/kull/core/search/Bm25" = true := by first | (simp [plainName, overriddenIn]; done) | decide +kernel
set_option maxHeartbeats 4000000 in
theorem ef_rmLn (m : MethodId) {so : Addr} {ix : Int32} : entryFrame m #[(.ref so), (.int ix)] 2 = mkF m 0 #[.val (.ref so), .val (.int ix)] [] := by first | (simp [entryFrame, mkF, argsToLocals, Value.category]; done) | rfl
def QrmLn (Z : State)  (so : Addr) (ix : Int32) (av : UInt64) (h0 : Heap) (n0 : Nat) (v : Option Value) (h : Heap) (L : List Loc) : Prop := (v = some (.double (Fl.lnf av ix))) ∧ (L = []) ∧ (h = h0)
set_option maxRecDepth 65536 in
set_option maxHeartbeats 40000000 in
theorem rmLn (l : Launch) (Z : State) (a0 : Array Value) (hw : ∀ d ∈ tables_1, d.before a0 Z = true) (ws : List Jvm.Cond)  (so : Addr) (ix : Int32) (av : UInt64) (h0 : Heap) (n0 : Nat) (O0 : Old Z n0 h0) (FA : Fld Z h0 so "com/example/kull/kull/core/search/Bm25" "averageLength" "D" (.double av)) (n1 : Jvm.Free.Fl.NoNaN64 (FP.dmul (4604930618986332160 : UInt64) (FP.i2d ix))) (n2 : Jvm.Free.Fl.NoNaN64 (FP.ddiv (FP.dmul (4604930618986332160 : UInt64) (FP.i2d ix)) av)) (n3 : Jvm.Free.Fl.NoNaN64 (FP.dadd (4598175219545276416 : UInt64) (FP.ddiv (FP.dmul (4604930618986332160 : UInt64) (FP.i2d ix)) av))) (n4 : Jvm.Free.Fl.NoNaN64 (Fl.lnf av ix)) :
    MetFree l (⟨"com/example/kull/kull/core/search/Bm25", "lengthNorm", "(I)D"⟩ : MethodName) (head1 (Jvm.Cond.code (⟨"com/example/kull/kull/core/search/Bm25", "lengthNorm", "(I)D"⟩ : MethodName) prog_28_method_3_code 2 (some .double) :: ws) ({ frames := 0, cells := 0, slots := 0, locals := 0 } : Room)) (fun aa' UU' => aa' = #[(.ref so), (.int ix)] ∧ Z.Warmed39 UU'.vm ∧ UU'.heap = h0) (fun _ _ _ _ _ => True) (fun _ UU' oo' VV' => ∃ v' L', oo' = .returned v' ∧ QrmLn Z  so ix av h0 n0 v' VV'.heap L' ∧ FrameEnd UU' oo' VV' L' ({ frames := 0, cells := 0, slots := 0, locals := 0 } : Room).cells ({ frames := 0, cells := 0, slots := 0, locals := 0 } : Room).slots) := by
  refine MetFree.of_bodySF (plainFor_of_name pn_3) hisR ?_
  intro p e s m args below meth c s₁ Bd hml0 hP hK
  obtain ⟨rfl, hZ, hh⟩ := hP
  have hx := Bd.exec
  have hby := Bd.bytes
  have hlk := Bd.notSynchronized
  have hml : c.maxLocals = 2 := hml0
  have hown : s.vm.findClass "com/example/kull/kull/core/search/Bm25" = some m.cls := findClass_of_methodNamed Bd.named
  have hnm := (name_of_methodNamed Bd.named Bd.method).1
  have hret := Bd.returns
  have X0 : Stand p l e ({ frames := 0, cells := 0, slots := 0, locals := 0 } : Room) s m #[(.ref so), (.int ix)] below meth c s₁ [] 0 0 := Stand.of_body Bd
  have e0 : s₁.heap = h0 := by rw [← hh, Bd.state]; rfl
  have N0 := Fr.nil n0
  refine Go.body ?_
  obtain ⟨Pf, hPf⟩ : ∃ P, P = Fin' s below ({ frames := 0, cells := 0, slots := 0, locals := 0 } : Room).cells ({ frames := 0, cells := 0, slots := 0, locals := 0 } : Room).slots (QrmLn Z  so ix av h0 n0) := ⟨_, rfl⟩
  rw [← hPf]
  refine Go.cast (ef_rmLn m) ?_
  have hw12 := (hw _ (List.mem_of_getElem? (i := 12) rfl))
  have hw20 := (hw _ (List.mem_of_getElem? (i := 20) rfl))
  have hw21 := (hw _ (List.mem_of_getElem? (i := 21) rfl))
  have hw22 := (hw _ (List.mem_of_getElem? (i := 22) rfl))
  show Go p.tables e below Pf (s₁.setTop (mkF m 0 #[.val (.ref so), .val (.int ix)] []))
  refine Go.by' (fun t k => (X0.ldc2DoubleC hx hown (mvT hZ hw20) (g := (mkF m 0 #[.val (.ref so), .val (.int ix)] [])) rfl (hb hby d3_0) t (X0.ldc2DoubleC hx hown (mvT hZ hw21) (g := (mkF m 3 #[.val (.ref so), .val (.int ix)] [(.double (4608083138725491507 : UInt64))])) rfl (hb hby d3_3) t (X0.ldc2DoubleC hx hown (mvT hZ hw22) (g := (mkF m 6 #[.val (.ref so), .val (.int ix)] [(.double (4598175219545276416 : UInt64)), (.double (4608083138725491507 : UInt64))])) rfl (hb hby d3_6) t (XS.iloadN X0.here hx rfl (hb hby d3_9) rfl (XS.i2dS X0.here hx rfl (hb hby d3_10) rfl rfl (XS.dmulS X0.here hx rfl (hb hby d3_11) rfl n1 rfl k))))))) ?_
  show Go p.tables e below Pf (s₁.setTop (mkF m 12 #[.val (.ref so), .val (.int ix)] [(.double (FP.dmul (4604930618986332160 : UInt64) (FP.i2d ix))), (.double (4598175219545276416 : UInt64)), (.double (4608083138725491507 : UInt64))]))
  refine Go.by' (fun t k => (XS.aloadN X0.here hx rfl (hb hby d3_12) rfl rfl k)) ?_
  show Go p.tables e below Pf (s₁.setTop (mkF m 13 #[.val (.ref so), .val (.int ix)] [(.ref so), (.double (FP.dmul (4604930618986332160 : UInt64) (FP.i2d ix))), (.double (4598175219545276416 : UInt64)), (.double (4608083138725491507 : UInt64))]))
  obtain ⟨T5, X5, e5, st5⟩ := getF X0 hx hZ hown (host := "") (Or.inl hw12) Via.refl e0 FA (g := (mkF m 13 #[.val (.ref so), .val (.int ix)] [(.ref so), (.double (FP.dmul (4604930618986332160 : UInt64) (FP.i2d ix))), (.double (4598175219545276416 : UInt64)), (.double (4608083138725491507 : UInt64))])) rfl rfl (hb hby d3_13)
  refine Go.by' st5 ?_
  show Go p.tables e below Pf (T5.setTop (mkF m 16 #[.val (.ref so), .val (.int ix)] [(.double av), (.double (FP.dmul (4604930618986332160 : UInt64) (FP.i2d ix))), (.double (4598175219545276416 : UInt64)), (.double (4608083138725491507 : UInt64))]))
  refine Go.by' (fun t k => (XS.ddivS X5.here hx rfl (hb hby d3_16) rfl n2 rfl (XS.daddS X5.here hx rfl (hb hby d3_17) rfl n3 rfl (XS.dmulS X5.here hx rfl (hb hby d3_18) rfl n4 rfl k)))) ?_
  show Go p.tables e below Pf (T5.setTop (mkF m 19 #[.val (.ref so), .val (.int ix)] [(.double (FP.dmul (4608083138725491507 : UInt64) (FP.dadd (4598175219545276416 : UInt64) (FP.ddiv (FP.dmul (4604930618986332160 : UInt64) (FP.i2d ix)) av))))]))
  rw [hPf]
  exact Go.retD' X5 hx hret hlk (hb hby d3_19) (by decide) (by decide) ⟨rfl, rfl, e5⟩
theorem d4_0 : decode jdk_29_method_69_code 0 = .ok (.iload_n 0, 1) := by decide +kernel
theorem d4_1 : decode jdk_29_method_69_code 1 = .ok (.iload_n 1, 1) := by decide +kernel
theorem d4_2 : decode jdk_29_method_69_code 2 = .ok (.if_icmp .gt 7, 3) := by decide +kernel
theorem d4_9 : decode jdk_29_method_69_code 9 = .ok (.iload_n 1, 1) := by decide +kernel
theorem d4_5 : decode jdk_29_method_69_code 5 = .ok (.iload_n 0, 1) := by decide +kernel
theorem d4_6 : decode jdk_29_method_69_code 6 = .ok (.goto 4, 3) := by decide +kernel
theorem d4_10 : decode jdk_29_method_69_code 10 = .ok (.ireturn, 1) := by decide +kernel
set_option maxHeartbeats 4000000 in
theorem ef_rmMin (m : MethodId) {ia : Int32} {ib : Int32} : entryFrame m #[(.int ia), (.int ib)] 2 = mkF m 0 #[.val (.int ia), .val (.int ib)] [] := by first | (simp [entryFrame, mkF, argsToLocals, Value.category]; done) | rfl
def QrmMin (Z : State)  (ia : Int32) (ib : Int32) (h0 : Heap) (n0 : Nat) (v : Option Value) (h : Heap) (L : List Loc) : Prop := ∃ (r : Int32), (v = some (.int r)) ∧ (L = []) ∧ (h = h0) ∧ ((ib < ia ∧ r = ib) ∨ (¬ (ib < ia) ∧ r = ia))
set_option maxRecDepth 65536 in
set_option maxHeartbeats 40000000 in
theorem rmMin (l : Launch) (Z : State) (a0 : Array Value) (hw : ∀ d ∈ tables_1, d.before a0 Z = true) (ws : List Jvm.Cond)  (ia : Int32) (ib : Int32) (h0 : Heap) (n0 : Nat) (O0 : Old Z n0 h0) :
    MetFree l (⟨"java/lang/Math", "min", "(II)I"⟩ : MethodName) (head1 (Jvm.Cond.code (⟨"java/lang/Math", "min", "(II)I"⟩ : MethodName) jdk_29_method_69_code 2 (some .int) :: ws) ({ frames := 0, cells := 0, slots := 0, locals := 0 } : Room)) (fun aa' UU' => aa' = #[(.int ia), (.int ib)] ∧ Z.Warmed39 UU'.vm ∧ UU'.heap = h0) (fun _ _ _ _ _ => True) (fun _ UU' oo' VV' => ∃ v' L', oo' = .returned v' ∧ QrmMin Z  ia ib h0 n0 v' VV'.heap L' ∧ FrameEnd UU' oo' VV' L' ({ frames := 0, cells := 0, slots := 0, locals := 0 } : Room).cells ({ frames := 0, cells := 0, slots := 0, locals := 0 } : Room).slots) := by
  refine MetFree.of_bodySF (Jvm.Free.JP.mathPlain rfl (by decide +kernel)) hisR ?_
  intro p e s m args below meth c s₁ Bd hml0 hP hK
  obtain ⟨rfl, hZ, hh⟩ := hP
  have hx := Bd.exec
  have hby := Bd.bytes
  have hlk := Bd.notSynchronized
  have hml : c.maxLocals = 2 := hml0
  have hown : s.vm.findClass "java/lang/Math" = some m.cls := findClass_of_methodNamed Bd.named
  have hnm := (name_of_methodNamed Bd.named Bd.method).1
  have hret := Bd.returns
  have X0 : Stand p l e ({ frames := 0, cells := 0, slots := 0, locals := 0 } : Room) s m #[(.int ia), (.int ib)] below meth c s₁ [] 0 0 := Stand.of_body Bd
  have e0 : s₁.heap = h0 := by rw [← hh, Bd.state]; rfl
  have N0 := Fr.nil n0
  refine Go.body ?_
  obtain ⟨Pf, hPf⟩ : ∃ P, P = Fin' s below ({ frames := 0, cells := 0, slots := 0, locals := 0 } : Room).cells ({ frames := 0, cells := 0, slots := 0, locals := 0 } : Room).slots (QrmMin Z  ia ib h0 n0) := ⟨_, rfl⟩
  rw [← hPf]
  refine Go.cast (ef_rmMin m) ?_
  show Go p.tables e below Pf (s₁.setTop (mkF m 0 #[.val (.int ia), .val (.int ib)] []))
  refine Go.by' (fun t k => (XS.iloadN X0.here hx rfl (hb hby d4_0) rfl (XS.iloadN X0.here hx rfl (hb hby d4_1) rfl k))) ?_
  show Go p.tables e below Pf (s₁.setTop (mkF m 2 #[.val (.int ia), .val (.int ib)] [(.int ib), (.int ia)]))
  have jn7 : ∀ (T' : State) (w7_0 : Int32), Like X0 T' → T'.heap = h0 → ((ib < ia ∧ w7_0 = ib) ∨ (¬ (ib < ia) ∧ w7_0 = ia)) → Go p.tables e below Pf (T'.setTop (mkF m 10 #[.val (.int ia), .val (.int ib)] [(.int w7_0)])) := by
    intro T7 w7_0 X7 e7 hm7
    unfold Like at X7
    show Go p.tables e below Pf (T7.setTop (mkF m 10 #[.val (.int ia), .val (.int ib)] [(.int w7_0)]))
    rw [hPf]
    exact Go.retI' X7 hx hret hlk (by simp) rfl (hb hby d4_10) (by decide) (by decide) ⟨w7_0, rfl, rfl, e7, hm7⟩
  by_cases hc8 : ib < ia
  · refine Go.by' (fun t k => (XS.icmpYes X0.here hx rfl (pc0 := 2) (pc' := 9) rfl (hb hby d4_2) rfl (tlt hc8).2.2.1 (by decide) (by decide) (XS.iloadN X0.here hx rfl (hb hby d4_9) rfl k))) ?_
    show Go p.tables e below Pf (s₁.setTop (mkF m 10 #[.val (.int ia), .val (.int ib)] [(.int ib)]))
    exact jn7 s₁ (ib) X0 e0  (Or.inl ⟨hc8, rfl⟩)
  · refine Go.by' (fun t k => (XS.icmpNo X0.here hx rfl (hb hby d4_2) rfl (flt hc8).2.2.1 (XS.iloadN X0.here hx rfl (hb hby d4_5) rfl (XS.goto X0.here hx rfl (pc0 := 6) (pc' := 10) rfl (hb hby d4_6) (by decide) (by decide) k)))) ?_
    show Go p.tables e below Pf (s₁.setTop (mkF m 10 #[.val (.int ia), .val (.int ib)] [(.int ia)]))
    exact jn7 s₁ (ia) X0 e0  (Or.inr ⟨hc8, rfl⟩)
theorem d5_0 : decode jdk_29_method_65_code 0 = .ok (.iload_n 0, 1) := by decide +kernel
theorem d5_1 : decode jdk_29_method_65_code 1 = .ok (.iload_n 1, 1) := by decide +kernel
theorem d5_2 : decode jdk_29_method_65_code 2 = .ok (.if_icmp .lt 7, 3) := by decide +kernel
theorem d5_9 : decode jdk_29_method_65_code 9 = .ok (.iload_n 1, 1) := by decide +kernel
theorem d5_5 : decode jdk_29_method_65_code 5 = .ok (.iload_n 0, 1) := by decide +kernel
theorem d5_6 : decode jdk_29_method_65_code 6 = .ok (.goto 4, 3) := by decide +kernel
theorem d5_10 : decode jdk_29_method_65_code 10 = .ok (.ireturn, 1) := by decide +kernel
set_option maxHeartbeats 4000000 in
theorem ef_rmMax (m : MethodId) {ia : Int32} {ib : Int32} : entryFrame m #[(.int ia), (.int ib)] 2 = mkF m 0 #[.val (.int ia), .val (.int ib)] [] := by first | (simp [entryFrame, mkF, argsToLocals, Value.category]; done) | rfl
def QrmMax (Z : State)  (ia : Int32) (ib : Int32) (h0 : Heap) (n0 : Nat) (v : Option Value) (h : Heap) (L : List Loc) : Prop := ∃ (r : Int32), (v = some (.int r)) ∧ (L = []) ∧ (h = h0) ∧ ((ia < ib ∧ r = ib) ∨ (¬ (ia < ib) ∧ r = ia))
set_option maxRecDepth 65536 in
set_option maxHeartbeats 40000000 in
theorem rmMax (l : Launch) (Z : State) (a0 : Array Value) (hw : ∀ d ∈ tables_1, d.before a0 Z = true) (ws : List Jvm.Cond)  (ia : Int32) (ib : Int32) (h0 : Heap) (n0 : Nat) (O0 : Old Z n0 h0) :
    MetFree l (⟨"java/lang/Math", "max", "(II)I"⟩ : MethodName) (head1 (Jvm.Cond.code (⟨"java/lang/Math", "max", "(II)I"⟩ : MethodName) jdk_29_method_65_code 2 (some .int) :: ws) ({ frames := 0, cells := 0, slots := 0, locals := 0 } : Room)) (fun aa' UU' => aa' = #[(.int ia), (.int ib)] ∧ Z.Warmed39 UU'.vm ∧ UU'.heap = h0) (fun _ _ _ _ _ => True) (fun _ UU' oo' VV' => ∃ v' L', oo' = .returned v' ∧ QrmMax Z  ia ib h0 n0 v' VV'.heap L' ∧ FrameEnd UU' oo' VV' L' ({ frames := 0, cells := 0, slots := 0, locals := 0 } : Room).cells ({ frames := 0, cells := 0, slots := 0, locals := 0 } : Room).slots) := by
  refine MetFree.of_bodySF (Jvm.Free.JP.mathPlain rfl (by decide +kernel)) hisR ?_
  intro p e s m args below meth c s₁ Bd hml0 hP hK
  obtain ⟨rfl, hZ, hh⟩ := hP
  have hx := Bd.exec
  have hby := Bd.bytes
  have hlk := Bd.notSynchronized
  have hml : c.maxLocals = 2 := hml0
  have hown : s.vm.findClass "java/lang/Math" = some m.cls := findClass_of_methodNamed Bd.named
  have hnm := (name_of_methodNamed Bd.named Bd.method).1
  have hret := Bd.returns
  have X0 : Stand p l e ({ frames := 0, cells := 0, slots := 0, locals := 0 } : Room) s m #[(.int ia), (.int ib)] below meth c s₁ [] 0 0 := Stand.of_body Bd
  have e0 : s₁.heap = h0 := by rw [← hh, Bd.state]; rfl
  have N0 := Fr.nil n0
  refine Go.body ?_
  obtain ⟨Pf, hPf⟩ : ∃ P, P = Fin' s below ({ frames := 0, cells := 0, slots := 0, locals := 0 } : Room).cells ({ frames := 0, cells := 0, slots := 0, locals := 0 } : Room).slots (QrmMax Z  ia ib h0 n0) := ⟨_, rfl⟩
  rw [← hPf]
  refine Go.cast (ef_rmMax m) ?_
  show Go p.tables e below Pf (s₁.setTop (mkF m 0 #[.val (.int ia), .val (.int ib)] []))
  refine Go.by' (fun t k => (XS.iloadN X0.here hx rfl (hb hby d5_0) rfl (XS.iloadN X0.here hx rfl (hb hby d5_1) rfl k))) ?_
  show Go p.tables e below Pf (s₁.setTop (mkF m 2 #[.val (.int ia), .val (.int ib)] [(.int ib), (.int ia)]))
  have jn10 : ∀ (T' : State) (w10_0 : Int32), Like X0 T' → T'.heap = h0 → ((ia < ib ∧ w10_0 = ib) ∨ (¬ (ia < ib) ∧ w10_0 = ia)) → Go p.tables e below Pf (T'.setTop (mkF m 10 #[.val (.int ia), .val (.int ib)] [(.int w10_0)])) := by
    intro T10 w10_0 X10 e10 hm10
    unfold Like at X10
    show Go p.tables e below Pf (T10.setTop (mkF m 10 #[.val (.int ia), .val (.int ib)] [(.int w10_0)]))
    rw [hPf]
    exact Go.retI' X10 hx hret hlk (by simp) rfl (hb hby d5_10) (by decide) (by decide) ⟨w10_0, rfl, rfl, e10, hm10⟩
  by_cases hc11 : ia < ib
  · refine Go.by' (fun t k => (XS.icmpYes X0.here hx rfl (pc0 := 2) (pc' := 9) rfl (hb hby d5_2) rfl (tlt hc11).1 (by decide) (by decide) (XS.iloadN X0.here hx rfl (hb hby d5_9) rfl k))) ?_
    show Go p.tables e below Pf (s₁.setTop (mkF m 10 #[.val (.int ia), .val (.int ib)] [(.int ib)]))
    exact jn10 s₁ (ib) X0 e0  (Or.inl ⟨hc11, rfl⟩)
  · refine Go.by' (fun t k => (XS.icmpNo X0.here hx rfl (hb hby d5_2) rfl (flt hc11).1 (XS.iloadN X0.here hx rfl (hb hby d5_5) rfl (XS.goto X0.here hx rfl (pc0 := 6) (pc' := 10) rfl (hb hby d5_6) (by decide) (by decide) k)))) ?_
    show Go p.tables e below Pf (s₁.setTop (mkF m 10 #[.val (.int ia), .val (.int ib)] [(.int ia)]))
    exact jn10 s₁ (ia) X0 e0  (Or.inr ⟨hc11, rfl⟩)
theorem pd_0 : parseMethodDescriptor "(IJ)V" = some ⟨[.int, .long], none⟩ := by decide +kernel
theorem pd_1 : parseMethodDescriptor "(I)D" = some ⟨[.int], some .double⟩ := by decide +kernel
theorem pd_2 : parseMethodDescriptor "(II)I" = some ⟨[.int, .int], some .int⟩ := by decide +kernel
theorem pn_0 : plainName "com/example/kull/kull/core/search/Bm25LengthNormPinLaw" = true := by first | (simp [plainName, overriddenIn]; done) | decide +kernel
set_option maxHeartbeats 4000000 in
theorem ef_rm0 (m : MethodId) {iP : Int32} {iQ : Int32} {iR : Int32} {iX : Int32} {iY : Int32} : entryFrame m #[(.int iP), (.int iQ), (.int iR), (.int iX), (.int iY)] maxLocals = mkF m 0 #[.val (.int iP), .val (.int iQ), .val (.int iR), .val (.int iX), .val (.int iY), .unset, .unset, .unset, .unset, .unset, .unset, .unset, .unset, .unset, .unset, .unset, .unset, .unset, .unset] [] := by first | (simp [entryFrame, mkF, argsToLocals, Value.category, maxLocals]; done) | rfl
def Qrm0 (Z : State)  (iP : Int32) (iQ : Int32) (iR : Int32) (iX : Int32) (iY : Int32) (h0 : Heap) (n0 : Nat) (v : Option Value) (h : Heap) (L : List Loc) : Prop := (v = some (.int (1 : Int32))) ∧ (Fr n0 L) ∧ (Keep h0 h [])
set_option maxRecDepth 65536 in
set_option maxHeartbeats 40000000 in
theorem rm0 (l : Launch) (Z : State) (a0 : Array Value) (hw : ∀ d ∈ tables_1, d.before a0 Z = true) (ws : List Jvm.Cond)  (iP : Int32) (iQ : Int32) (iR : Int32) (iX : Int32) (iY : Int32) (h0 : Heap) (n0 : Nat) (O0 : Old Z n0 h0) :
    MetFree l x (head1 (Jvm.Cond.code x code maxLocals ret :: ws) room_1) (fun aa' UU' => aa' = #[(.int iP), (.int iQ), (.int iR), (.int iX), (.int iY)] ∧ Z.Warmed39 UU'.vm ∧ UU'.heap = h0) (fun _ _ _ _ _ => True) (fun _ UU' oo' VV' => ∃ v' L', oo' = .returned v' ∧ Qrm0 Z  iP iQ iR iX iY h0 n0 v' VV'.heap L' ∧ FrameEnd UU' oo' VV' L' 1 2) := by
  refine MetFree.of_bodySF (plainFor_of_name pn_0) hisR ?_
  intro p e s m args below meth c s₁ Bd hml0 hP hK
  obtain ⟨rfl, hZ, hh⟩ := hP
  have hx := Bd.exec
  have hby := Bd.bytes
  have hlk := Bd.notSynchronized
  have hml : c.maxLocals = 19 := hml0
  have hown : s.vm.findClass "com/example/kull/kull/core/search/Bm25LengthNormPinLaw" = some m.cls := findClass_of_methodNamed Bd.named
  have hnm := (name_of_methodNamed Bd.named Bd.method).1
  have hret := Bd.returns
  have X0 : Stand p l e room_1 s m #[(.int iP), (.int iQ), (.int iR), (.int iX), (.int iY)] below meth c s₁ [] 0 0 := Stand.of_body Bd
  have e0 : s₁.heap = h0 := by rw [← hh, Bd.state]; rfl
  have N0 := Fr.nil n0
  have KC0 : Keep h0 h0 [] := Keep.refl _ _
  refine Go.body ?_
  obtain ⟨Pf, hPf⟩ : ∃ P, P = Fin' s below 1 2 (Qrm0 Z  iP iQ iR iX iY h0 n0) := ⟨_, rfl⟩
  rw [← hPf]
  refine Go.cast (ef_rm0 m) ?_
  have hw0 := (hw _ (List.mem_of_getElem? (i := 0) rfl))
  have hw1 := (hw _ (List.mem_of_getElem? (i := 1) rfl))
  have hw2 := (hw _ (List.mem_of_getElem? (i := 2) rfl))
  have hw3 := (hw _ (List.mem_of_getElem? (i := 3) rfl))
  have hw4 := (hw _ (List.mem_of_getElem? (i := 4) rfl))
  have hw5 := (hw _ (List.mem_of_getElem? (i := 5) rfl))
  have hw6 := (hw _ (List.mem_of_getElem? (i := 6) rfl))
  have hw11 := (hw _ (List.mem_of_getElem? (i := 11) rfl))
  have hw13 := (hw _ (List.mem_of_getElem? (i := 13) rfl))
  have hw14 := (hw _ (List.mem_of_getElem? (i := 14) rfl))
  have hw15 := (hw _ (List.mem_of_getElem? (i := 15) rfl))
  have hw16 := (hw _ (List.mem_of_getElem? (i := 16) rfl))
  have hw17 := (hw _ (List.mem_of_getElem? (i := 17) rfl))
  have hw18 := (hw _ (List.mem_of_getElem? (i := 18) rfl))
  have hw19 := (hw _ (List.mem_of_getElem? (i := 19) rfl))
  have hw23 := (hw _ (List.mem_of_getElem? (i := 23) rfl))
  have hw24 := (hw _ (List.mem_of_getElem? (i := 24) rfl))
  have hw25 := (hw _ (List.mem_of_getElem? (i := 25) rfl))
  have hw26 := (hw _ (List.mem_of_getElem? (i := 26) rfl))
  have hw27 := (hw _ (List.mem_of_getElem? (i := 27) rfl))
  have hw28 := (hw _ (List.mem_of_getElem? (i := 28) rfl))
  have hw29 := (hw _ (List.mem_of_getElem? (i := 29) rfl))
  have hw30 := (hw _ (List.mem_of_getElem? (i := 30) rfl))
  have hw31 := (hw _ (List.mem_of_getElem? (i := 31) rfl))
  have hw32 := (hw _ (List.mem_of_getElem? (i := 32) rfl))
  have hw33 := (hw _ (List.mem_of_getElem? (i := 33) rfl))
  have hw34 := (hw _ (List.mem_of_getElem? (i := 34) rfl))
  show Go p.tables e below Pf (s₁.setTop (mkF m 0 #[.val (.int iP), .val (.int iQ), .val (.int iR), .val (.int iX), .val (.int iY), .unset, .unset, .unset, .unset, .unset, .unset, .unset, .unset, .unset, .unset, .unset, .unset, .unset, .unset] []))
  refine Go.by' (fun t k => (XS.iloadN X0.here hx rfl (hb hby at_0) rfl (XS.iconst X0.here hx rfl (hb hby at_1) (XS.iand X0.here hx rfl (hb hby at_2) rfl k)))) ?_
  show Go p.tables e below Pf (s₁.setTop (mkF m 3 #[.val (.int iP), .val (.int iQ), .val (.int iR), .val (.int iX), .val (.int iY), .unset, .unset, .unset, .unset, .unset, .unset, .unset, .unset, .unset, .unset, .unset, .unset, .unset, .unset] [(.int (iP &&& (1 : Int32)))]))
  by_cases hc12 : (iP &&& (1 : Int32)) = (0 : Int32)
  · refine Go.by' (fun t k => (XS.ifYes X0.here hx rfl (pc0 := 3) (pc' := 10) rfl (hb hby at_3) rfl ((if0 _ _).trans (teq hc12).1) (by decide) (by decide) (XS.iconst X0.here hx rfl (hb hby at_10) (XS.istore X0.here hx rfl (hb hby at_11) rfl (l' := #[.val (.int iP), .val (.int iQ), .val (.int iR), .val (.int iX), .val (.int iY), .val (.int (0 : Int32)), .unset, .unset, .unset, .unset, .unset, .unset, .unset, .unset, .unset, .unset, .unset, .unset, .unset]) rfl (XS.iconst X0.here hx rfl (hb hby at_13) (XS.iloadN X0.here hx rfl (hb hby at_14) rfl (XS.iconst X0.here hx rfl (hb hby at_15) k))))))) ?_
    show Go p.tables e below Pf (s₁.setTop (mkF m 16 #[.val (.int iP), .val (.int iQ), .val (.int iR), .val (.int iX), .val (.int iY), .val (.int (0 : Int32)), .unset, .unset, .unset, .unset, .unset, .unset, .unset, .unset, .unset, .unset, .unset, .unset, .unset] [(.int (1 : Int32)), (.int iP), (.int (1 : Int32))]))
    refine Go.by' (fun t k => (XS.iushr X0.here hx rfl (hb hby at_16) rfl (XS.sipush X0.here hx rfl (hb hby at_17) (XS.iand X0.here hx rfl (hb hby at_20) rfl (XS.iadd X0.here hx rfl (hb hby at_21) rfl (XS.istore X0.here hx rfl (hb hby at_22) rfl (l' := #[.val (.int iP), .val (.int iQ), .val (.int iR), .val (.int iX), .val (.int iY), .val (.int (0 : Int32)), .val (.int ((1 : Int32) + (((iP.toUInt32 >>> ((1 : Int32) &&& 31).toUInt32).toInt32) &&& (1023 : Int32)))), .unset, .unset, .unset, .unset, .unset, .unset, .unset, .unset, .unset, .unset, .unset, .unset]) rfl (XS.iload X0.here hx rfl (hb hby at_24) rfl k))))))) ?_
    show Go p.tables e below Pf (s₁.setTop (mkF m 26 #[.val (.int iP), .val (.int iQ), .val (.int iR), .val (.int iX), .val (.int iY), .val (.int (0 : Int32)), .val (.int ((1 : Int32) + (((iP.toUInt32 >>> ((1 : Int32) &&& 31).toUInt32).toInt32) &&& (1023 : Int32)))), .unset, .unset, .unset, .unset, .unset, .unset, .unset, .unset, .unset, .unset, .unset, .unset] [(.int (0 : Int32))]))
    refine Go.by' (fun t k => (XS.ifYes X0.here hx rfl (pc0 := 26) (pc' := 38) rfl (hb hby at_26) rfl ((if0 _ _).trans (teq (by decide)).1) (by decide) (by decide) (XS.iconst X0.here hx rfl (hb hby at_38) (XS.iloadN X0.here hx rfl (hb hby at_39) rfl (X0.ldcInt hx hown (mvT hZ hw0) (g := (mkF m 40 #[.val (.int iP), .val (.int iQ), .val (.int iR), .val (.int iX), .val (.int iY), .val (.int (0 : Int32)), .val (.int ((1 : Int32) + (((iP.toUInt32 >>> ((1 : Int32) &&& 31).toUInt32).toInt32) &&& (1023 : Int32)))), .unset, .unset, .unset, .unset, .unset, .unset, .unset, .unset, .unset, .unset, .unset, .unset] [(.int iQ), (.int (1 : Int32))])) rfl (hb hby at_40) t (XS.iand X0.here hx rfl (hb hby at_42) rfl (XS.iadd X0.here hx rfl (hb hby at_43) rfl k))))))) ?_
    show Go p.tables e below Pf (s₁.setTop (mkF m 44 #[.val (.int iP), .val (.int iQ), .val (.int iR), .val (.int iX), .val (.int iY), .val (.int (0 : Int32)), .val (.int ((1 : Int32) + (((iP.toUInt32 >>> ((1 : Int32) &&& 31).toUInt32).toInt32) &&& (1023 : Int32)))), .unset, .unset, .unset, .unset, .unset, .unset, .unset, .unset, .unset, .unset, .unset, .unset] [(.int ((1 : Int32) + (iQ &&& (1048575 : Int32))))]))
    refine Go.by' (fun t k => (XS.istore X0.here hx rfl (hb hby at_44) rfl (l' := #[.val (.int iP), .val (.int iQ), .val (.int iR), .val (.int iX), .val (.int iY), .val (.int (0 : Int32)), .val (.int ((1 : Int32) + (((iP.toUInt32 >>> ((1 : Int32) &&& 31).toUInt32).toInt32) &&& (1023 : Int32)))), .val (.int ((1 : Int32) + (iQ &&& (1048575 : Int32)))), .unset, .unset, .unset, .unset, .unset, .unset, .unset, .unset, .unset, .unset, .unset]) rfl k)) ?_
    show Go p.tables e below Pf (s₁.setTop (mkF m 46 #[.val (.int iP), .val (.int iQ), .val (.int iR), .val (.int iX), .val (.int iY), .val (.int (0 : Int32)), .val (.int ((1 : Int32) + (((iP.toUInt32 >>> ((1 : Int32) &&& 31).toUInt32).toInt32) &&& (1023 : Int32)))), .val (.int ((1 : Int32) + (iQ &&& (1048575 : Int32)))), .unset, .unset, .unset, .unset, .unset, .unset, .unset, .unset, .unset, .unset, .unset] []))
    have jnd := own_d ((iP.toUInt32 >>> ((1 : Int32) &&& 31).toUInt32).toInt32)
    have jna := own_a iQ
    obtain ⟨qd, hq6⟩ : ∃ z, ((1 : Int32) + (((iP.toUInt32 >>> ((1 : Int32) &&& 31).toUInt32).toInt32) &&& (1023 : Int32))) = z := ⟨_, rfl⟩
    rw [hq6] at jnd
    refine Go.castF (a := ((1 : Int32) + (((iP.toUInt32 >>> ((1 : Int32) &&& 31).toUInt32).toInt32) &&& (1023 : Int32)))) (b := qd) (fun z' : Int32 => mkF m 46 #[.val (.int iP), .val (.int iQ), .val (.int iR), .val (.int iX), .val (.int iY), .val (.int (0 : Int32)), .val (.int z'), .val (.int ((1 : Int32) + (iQ &&& (1048575 : Int32)))), .unset, .unset, .unset, .unset, .unset, .unset, .unset, .unset, .unset, .unset, .unset] []) (hq6) ?_
    obtain ⟨qa, hq7⟩ : ∃ z, ((1 : Int32) + (iQ &&& (1048575 : Int32))) = z := ⟨_, rfl⟩
    rw [hq7] at jna
    refine Go.castF (a := ((1 : Int32) + (iQ &&& (1048575 : Int32)))) (b := qa) (fun z' : Int32 => mkF m 46 #[.val (.int iP), .val (.int iQ), .val (.int iR), .val (.int iX), .val (.int iY), .val (.int (0 : Int32)), .val (.int qd), .val (.int z'), .unset, .unset, .unset, .unset, .unset, .unset, .unset, .unset, .unset, .unset, .unset] []) (hq7) ?_
    have jnl := own_l jnd jna
    have jnv := Fl.dv_avg jnd jna jnl
    have jnp : 0 < qa.toInt := jna.1
    show Go p.tables e below Pf (s₁.setTop (mkF m 46 #[.val (.int iP), .val (.int iQ), .val (.int iR), .val (.int iX), .val (.int iY), .val (.int (0 : Int32)), .val (.int qd), .val (.int qa), .unset, .unset, .unset, .unset, .unset, .unset, .unset, .unset, .unset, .unset, .unset] []))
    obtain ⟨T13, h13, X13, e13, E13, A13, D13, -, st13⟩ := newO X0 hx hZ hown hw1 hw2 hw3 e0 (g := (mkF m 46 #[.val (.int iP), .val (.int iQ), .val (.int iR), .val (.int iX), .val (.int iY), .val (.int (0 : Int32)), .val (.int qd), .val (.int qa), .unset, .unset, .unset, .unset, .unset, .unset, .unset, .unset, .unset, .unset, .unset] [])) rfl (hb hby at_46) (by decide) (by decide)
    obtain ⟨b13, g13⟩ : ∃ z, z = h0.size := ⟨_, rfl⟩
    rw [← g13] at A13 D13 st13
    refine Go.by' st13 ?_
    have g_b13 : n0 ≤ b13 := Nat.le_trans (own_le O0) (Nat.le_of_eq g13.symm)
    have sz_b13 : h0.size ≤ b13 := Nat.le_trans KC0.1 (Nat.le_of_eq g13.symm)
    have O13 := O0.ext E13
    have KC13 : Keep h0 h13 [] := KC0.ext E13
    have Fn13_11 : Fld Z h13 b13 "com/example/kull/kull/core/search/Bm25" "documentCount" "I" (Value.int (0 : Int32)) := D13 (Or.inr hw11) (ty := .int) (by decide)
    have Fn13_13 : Fld Z h13 b13 "com/example/kull/kull/core/search/Bm25" "averageLength" "D" (Value.double (0 : UInt64)) := D13 (Or.inr hw13) (ty := .double) (by decide)
    show Go p.tables e below Pf (T13.setTop (mkF m 49 #[.val (.int iP), .val (.int iQ), .val (.int iR), .val (.int iX), .val (.int iY), .val (.int (0 : Int32)), .val (.int qd), .val (.int qa), .unset, .unset, .unset, .unset, .unset, .unset, .unset, .unset, .unset, .unset, .unset] [(.ref b13)]))
    refine Go.by' (fun t k => (XS.dup X13.here hx rfl (hb hby at_49) rfl rfl (XS.iload X13.here hx rfl (hb hby at_50) rfl (XS.iload X13.here hx rfl (hb hby at_52) rfl (XS.i2l X13.here hx rfl (hb hby at_54) rfl (XS.iload X13.here hx rfl (hb hby at_55) rfl (XS.i2l X13.here hx rfl (hb hby at_57) rfl k))))))) ?_
    show Go p.tables e below Pf (T13.setTop (mkF m 58 #[.val (.int iP), .val (.int iQ), .val (.int iR), .val (.int iX), .val (.int iY), .val (.int (0 : Int32)), .val (.int qd), .val (.int qa), .unset, .unset, .unset, .unset, .unset, .unset, .unset, .unset, .unset, .unset, .unset] [(.long (qa.toInt64)), (.long (qd.toInt64)), (.int qd), (.ref b13), (.ref b13)]))
    refine Go.by' (fun t k => (XS.lmul X13.here hx rfl (hb hby at_58) rfl k)) ?_
    show Go p.tables e below Pf (T13.setTop (mkF m 59 #[.val (.int iP), .val (.int iQ), .val (.int iR), .val (.int iX), .val (.int iY), .val (.int (0 : Int32)), .val (.int qd), .val (.int qa), .unset, .unset, .unset, .unset, .unset, .unset, .unset, .unset, .unset, .unset, .unset] [(.long ((qd.toInt64) * (qa.toInt64))), (.int qd), (.ref b13), (.ref b13)]))
    obtain ⟨_, _, ⟨T14, L14, k14, n14⟩, -, X14, ⟨Lc14, hQ14, l14, y14, z14⟩, st14⟩ := X13.specialBack hx (y := (⟨"com/example/kull/kull/core/search/Bm25", "<init>", "(IJ)V"⟩ : MethodName)) rfl hown (mvT hZ hw4) (mvT hZ hw5) (mvT hZ hw6) (by decide) (backOf (W := 1) (rmBI l Z a0 hw []  b13 qd (((qd.toInt64) * (qa.toInt64))) h13 n0 O13 A13 Fn13_11 Fn13_13 g_b13 jnv.nn) hZ hw6 hw3 (by decide) (by decide)) (g := (mkF m 59 #[.val (.int iP), .val (.int iQ), .val (.int iR), .val (.int iX), .val (.int iY), .val (.int (0 : Int32)), .val (.int qd), .val (.int qa), .unset, .unset, .unset, .unset, .unset, .unset, .unset, .unset, .unset, .unset, .unset] [(.long ((qd.toInt64) * (qa.toInt64))), (.int qd), (.ref b13), (.ref b13)])) rfl (by rw [hml]; rfl) (Steps.refl _) (a := b13) (argsL := [(.int qd), (.long ((qd.toInt64) * (qa.toInt64)))]) (rest := [(.ref b13)]) (lenOf pd_0 rfl) rfl (by show 2 * 0 + _ ≤ _; exact Nat.le_of_eq rfl) (hb hby at_59) (fun _ _ => ⟨rfl, e13, (by decide : 1 + 0 ≤ _), (by decide : 2 + 0 ≤ _)⟩)
    dsimp only [Pt.U, Pt.locs, Pt.cells, Pt.slots] at X14 l14 y14 z14 st14 hQ14
    subst l14 y14 z14
    obtain ⟨rfl, N14q, K14, f14_0, f14_1⟩ := hQ14
    have N14 := Fr.app N0 N14q
    obtain ⟨lc14, X14, N14⟩ := own_pack X14 N14
    refine Go.by' (fun t k => st14.trans k) ?_
    have O14 := O13.keep K14 (allS g_b13 all0)
    have KC14 : Keep h0 T14.heap [] := KC13.trans K14 (allS (Or.inr sz_b13) all0)
    show Go p.tables e below Pf (T14.setTop (mkF m 62 #[.val (.int iP), .val (.int iQ), .val (.int iR), .val (.int iX), .val (.int iY), .val (.int (0 : Int32)), .val (.int qd), .val (.int qa), .unset, .unset, .unset, .unset, .unset, .unset, .unset, .unset, .unset, .unset, .unset] [(.ref b13)]))
    refine Go.by' (fun t k => (XS.astore X14.here hx rfl (hb hby at_62) rfl rfl (l' := #[.val (.int iP), .val (.int iQ), .val (.int iR), .val (.int iX), .val (.int iY), .val (.int (0 : Int32)), .val (.int qd), .val (.int qa), .val (.ref b13), .unset, .unset, .unset, .unset, .unset, .unset, .unset, .unset, .unset, .unset]) rfl (X14.ldc2DoubleC hx hown (mvT hZ hw14) (g := (mkF m 64 #[.val (.int iP), .val (.int iQ), .val (.int iR), .val (.int iX), .val (.int iY), .val (.int (0 : Int32)), .val (.int qd), .val (.int qa), .val (.ref b13), .unset, .unset, .unset, .unset, .unset, .unset, .unset, .unset, .unset, .unset] [])) rfl (hb hby at_64) t (XS.dstore X14.here hx rfl (hb hby at_67) rfl (l' := #[.val (.int iP), .val (.int iQ), .val (.int iR), .val (.int iX), .val (.int iY), .val (.int (0 : Int32)), .val (.int qd), .val (.int qa), .val (.ref b13), .val (.double (4608083138725491507 : UInt64)), .second, .unset, .unset, .unset, .unset, .unset, .unset, .unset, .unset]) rfl (XS.aload X14.here hx rfl (hb hby at_69) rfl rfl (XS.iconst X14.here hx rfl (hb hby at_71) k)))))) ?_
    show Go p.tables e below Pf (T14.setTop (mkF m 72 #[.val (.int iP), .val (.int iQ), .val (.int iR), .val (.int iX), .val (.int iY), .val (.int (0 : Int32)), .val (.int qd), .val (.int qa), .val (.ref b13), .val (.double (4608083138725491507 : UInt64)), .second, .unset, .unset, .unset, .unset, .unset, .unset, .unset, .unset] [(.int (0 : Int32)), (.ref b13)]))
    obtain ⟨cq15, kq15, q15a, q15b, q15c⟩ := isOf hZ rfl f14_0
    obtain ⟨_, _, ⟨T15, L15, k15, n15⟩, -, X15, ⟨Lc15, hQ15, l15, y15, z15⟩, st15⟩ := X14.virtualBack hx (y := (⟨"com/example/kull/kull/core/search/Bm25", "lengthNorm", "(I)D"⟩ : MethodName)) (z := (⟨"com/example/kull/kull/core/search/Bm25", "lengthNorm", "(I)D"⟩ : MethodName)) hown (mvT hZ hw15) (mvT hZ hw16) (notFace_of_selects (args := #[]) (mvT hZ hw18)) (mvT hZ hw18) (mvT hZ hw17) (by decide) (backOf (W := 0) (rmLn l Z a0 hw []  b13 ((0 : Int32)) ((FP.ddiv (FP.l2d ((qd.toInt64) * (qa.toInt64))) (FP.i2d qd))) T14.heap n0 O14 f14_1 (Fl.ln_val _ jnv jnp).1 (Fl.ln_val _ jnv jnp).2.1 (Fl.ln_val _ jnv jnp).2.2.1 (Fl.ln_val _ jnv jnp).2.2.2.1) hZ hw19 hw3 (by decide) (by decide)) q15a q15c (g := (mkF m 72 #[.val (.int iP), .val (.int iQ), .val (.int iR), .val (.int iX), .val (.int iY), .val (.int (0 : Int32)), .val (.int qd), .val (.int qa), .val (.ref b13), .val (.double (4608083138725491507 : UInt64)), .second, .unset, .unset, .unset, .unset, .unset, .unset, .unset, .unset] [(.int (0 : Int32)), (.ref b13)])) rfl (by rw [hml]; rfl) (Steps.refl _) (argsL := [(.int (0 : Int32))]) (rest := []) (lenOf pd_1 rfl) rfl (by show 2 * 0 + _ ≤ _; exact Nat.le_of_eq rfl) (hb hby at_72) (fun _ _ => ⟨rfl, rfl, (by decide : 1 + 0 ≤ _), (by decide : 2 + 0 ≤ _)⟩)
    dsimp only [Pt.U, Pt.locs, Pt.cells, Pt.slots] at X15 l15 y15 z15 st15 hQ15
    subst l15 y15 z15
    obtain ⟨rfl, rfl, e15⟩ := hQ15
    try replace X15 := own_nil X15
    refine Go.by' (fun t k => st15.trans k) ?_
    show Go p.tables e below Pf (T15.setTop (mkF m 75 #[.val (.int iP), .val (.int iQ), .val (.int iR), .val (.int iX), .val (.int iY), .val (.int (0 : Int32)), .val (.int qd), .val (.int qa), .val (.ref b13), .val (.double (4608083138725491507 : UInt64)), .second, .unset, .unset, .unset, .unset, .unset, .unset, .unset, .unset] [(.double (Fl.lnf (FP.ddiv (FP.l2d ((qd.toInt64) * (qa.toInt64))) (FP.i2d qd)) (0 : Int32)))]))
    refine Go.by' (fun t k => (XS.dload X15.here hx rfl (hb hby at_75) rfl (X15.ldc2DoubleC hx hown (mvT hZ hw23) (g := (mkF m 77 #[.val (.int iP), .val (.int iQ), .val (.int iR), .val (.int iX), .val (.int iY), .val (.int (0 : Int32)), .val (.int qd), .val (.int qa), .val (.ref b13), .val (.double (4608083138725491507 : UInt64)), .second, .unset, .unset, .unset, .unset, .unset, .unset, .unset, .unset] [(.double (4608083138725491507 : UInt64)), (.double (Fl.lnf (FP.ddiv (FP.l2d ((qd.toInt64) * (qa.toInt64))) (FP.i2d qd)) (0 : Int32)))])) rfl (hb hby at_77) t (XS.dmulS X15.here hx rfl (hb hby at_80) rfl Fl.dv_kc1.nn rfl (XS.dcmpS X15.here hx rfl (hb hby at_81) rfl rfl (XS.ifNo X15.here hx rfl (hb hby at_82) rfl ((if0 _ _).trans (teq (by rw [Fl.f0 jnv jnp]; decide)).2) (XS.aload X15.here hx rfl (hb hby at_85) rfl rfl k))))))) ?_
    show Go p.tables e below Pf (T15.setTop (mkF m 87 #[.val (.int iP), .val (.int iQ), .val (.int iR), .val (.int iX), .val (.int iY), .val (.int (0 : Int32)), .val (.int qd), .val (.int qa), .val (.ref b13), .val (.double (4608083138725491507 : UInt64)), .second, .unset, .unset, .unset, .unset, .unset, .unset, .unset, .unset] [(.ref b13)]))
    refine Go.by' (fun t k => (XS.iload X15.here hx rfl (hb hby at_87) rfl k)) ?_
    show Go p.tables e below Pf (T15.setTop (mkF m 89 #[.val (.int iP), .val (.int iQ), .val (.int iR), .val (.int iX), .val (.int iY), .val (.int (0 : Int32)), .val (.int qd), .val (.int qa), .val (.ref b13), .val (.double (4608083138725491507 : UInt64)), .second, .unset, .unset, .unset, .unset, .unset, .unset, .unset, .unset] [(.int qa), (.ref b13)]))
    obtain ⟨cq16, kq16, q16a, q16b, q16c⟩ := isOf hZ e15 f14_0
    obtain ⟨_, _, ⟨T16, L16, k16, n16⟩, -, X16, ⟨Lc16, hQ16, l16, y16, z16⟩, st16⟩ := X15.virtualBack hx (y := (⟨"com/example/kull/kull/core/search/Bm25", "lengthNorm", "(I)D"⟩ : MethodName)) (z := (⟨"com/example/kull/kull/core/search/Bm25", "lengthNorm", "(I)D"⟩ : MethodName)) hown (mvT hZ hw15) (mvT hZ hw16) (notFace_of_selects (args := #[]) (mvT hZ hw18)) (mvT hZ hw18) (mvT hZ hw17) (by decide) (backOf (W := 0) (rmLn l Z a0 hw []  b13 qa ((FP.ddiv (FP.l2d ((qd.toInt64) * (qa.toInt64))) (FP.i2d qd))) T14.heap n0 O14 f14_1 (Fl.ln_val _ jnv jnp).1 (Fl.ln_val _ jnv jnp).2.1 (Fl.ln_val _ jnv jnp).2.2.1 (Fl.ln_val _ jnv jnp).2.2.2.1) hZ hw19 hw3 (by decide) (by decide)) q16a q16c (g := (mkF m 89 #[.val (.int iP), .val (.int iQ), .val (.int iR), .val (.int iX), .val (.int iY), .val (.int (0 : Int32)), .val (.int qd), .val (.int qa), .val (.ref b13), .val (.double (4608083138725491507 : UInt64)), .second, .unset, .unset, .unset, .unset, .unset, .unset, .unset, .unset] [(.int qa), (.ref b13)])) rfl (by rw [hml]; rfl) (Steps.refl _) (argsL := [(.int qa)]) (rest := []) (lenOf pd_1 rfl) rfl (by show 2 * 0 + _ ≤ _; exact Nat.le_of_eq rfl) (hb hby at_89) (fun _ _ => ⟨rfl, e15, (by decide : 1 + 0 ≤ _), (by decide : 2 + 0 ≤ _)⟩)
    dsimp only [Pt.U, Pt.locs, Pt.cells, Pt.slots] at X16 l16 y16 z16 st16 hQ16
    subst l16 y16 z16
    obtain ⟨rfl, rfl, e16⟩ := hQ16
    try replace X16 := own_nil X16
    refine Go.by' (fun t k => st16.trans k) ?_
    show Go p.tables e below Pf (T16.setTop (mkF m 92 #[.val (.int iP), .val (.int iQ), .val (.int iR), .val (.int iX), .val (.int iY), .val (.int (0 : Int32)), .val (.int qd), .val (.int qa), .val (.ref b13), .val (.double (4608083138725491507 : UInt64)), .second, .unset, .unset, .unset, .unset, .unset, .unset, .unset, .unset] [(.double (Fl.lnf (FP.ddiv (FP.l2d ((qd.toInt64) * (qa.toInt64))) (FP.i2d qd)) qa))]))
    refine Go.by' (fun t k => (XS.dload X16.here hx rfl (hb hby at_92) rfl (XS.dcmpS X16.here hx rfl (hb hby at_94) rfl rfl (XS.ifNo X16.here hx rfl (hb hby at_95) rfl ((if0 _ _).trans (teq (by rw [Fl.f1 jnv jnp rfl]; decide)).2) (XS.aload X16.here hx rfl (hb hby at_98) rfl rfl (XS.iconst X16.here hx rfl (hb hby at_100) (XS.iload X16.here hx rfl (hb hby at_101) rfl k))))))) ?_
    show Go p.tables e below Pf (T16.setTop (mkF m 103 #[.val (.int iP), .val (.int iQ), .val (.int iR), .val (.int iX), .val (.int iY), .val (.int (0 : Int32)), .val (.int qd), .val (.int qa), .val (.ref b13), .val (.double (4608083138725491507 : UInt64)), .second, .unset, .unset, .unset, .unset, .unset, .unset, .unset, .unset] [(.int qa), (.int (2 : Int32)), (.ref b13)]))
    refine Go.by' (fun t k => (XS.imul X16.here hx rfl (hb hby at_103) rfl k)) ?_
    show Go p.tables e below Pf (T16.setTop (mkF m 104 #[.val (.int iP), .val (.int iQ), .val (.int iR), .val (.int iX), .val (.int iY), .val (.int (0 : Int32)), .val (.int qd), .val (.int qa), .val (.ref b13), .val (.double (4608083138725491507 : UInt64)), .second, .unset, .unset, .unset, .unset, .unset, .unset, .unset, .unset] [(.int ((2 : Int32) * qa)), (.ref b13)]))
    obtain ⟨cq17, kq17, q17a, q17b, q17c⟩ := isOf hZ e16 f14_0
    obtain ⟨_, _, ⟨T17, L17, k17, n17⟩, -, X17, ⟨Lc17, hQ17, l17, y17, z17⟩, st17⟩ := X16.virtualBack hx (y := (⟨"com/example/kull/kull/core/search/Bm25", "lengthNorm", "(I)D"⟩ : MethodName)) (z := (⟨"com/example/kull/kull/core/search/Bm25", "lengthNorm", "(I)D"⟩ : MethodName)) hown (mvT hZ hw15) (mvT hZ hw16) (notFace_of_selects (args := #[]) (mvT hZ hw18)) (mvT hZ hw18) (mvT hZ hw17) (by decide) (backOf (W := 0) (rmLn l Z a0 hw []  b13 (((2 : Int32) * qa)) ((FP.ddiv (FP.l2d ((qd.toInt64) * (qa.toInt64))) (FP.i2d qd))) T14.heap n0 O14 f14_1 (Fl.ln_val _ jnv jnp).1 (Fl.ln_val _ jnv jnp).2.1 (Fl.ln_val _ jnv jnp).2.2.1 (Fl.ln_val _ jnv jnp).2.2.2.1) hZ hw19 hw3 (by decide) (by decide)) q17a q17c (g := (mkF m 104 #[.val (.int iP), .val (.int iQ), .val (.int iR), .val (.int iX), .val (.int iY), .val (.int (0 : Int32)), .val (.int qd), .val (.int qa), .val (.ref b13), .val (.double (4608083138725491507 : UInt64)), .second, .unset, .unset, .unset, .unset, .unset, .unset, .unset, .unset] [(.int ((2 : Int32) * qa)), (.ref b13)])) rfl (by rw [hml]; rfl) (Steps.refl _) (argsL := [(.int ((2 : Int32) * qa))]) (rest := []) (lenOf pd_1 rfl) rfl (by show 2 * 0 + _ ≤ _; exact Nat.le_of_eq rfl) (hb hby at_104) (fun _ _ => ⟨rfl, e16, (by decide : 1 + 0 ≤ _), (by decide : 2 + 0 ≤ _)⟩)
    dsimp only [Pt.U, Pt.locs, Pt.cells, Pt.slots] at X17 l17 y17 z17 st17 hQ17
    subst l17 y17 z17
    obtain ⟨rfl, rfl, e17⟩ := hQ17
    try replace X17 := own_nil X17
    refine Go.by' (fun t k => st17.trans k) ?_
    show Go p.tables e below Pf (T17.setTop (mkF m 107 #[.val (.int iP), .val (.int iQ), .val (.int iR), .val (.int iX), .val (.int iY), .val (.int (0 : Int32)), .val (.int qd), .val (.int qa), .val (.ref b13), .val (.double (4608083138725491507 : UInt64)), .second, .unset, .unset, .unset, .unset, .unset, .unset, .unset, .unset] [(.double (Fl.lnf (FP.ddiv (FP.l2d ((qd.toInt64) * (qa.toInt64))) (FP.i2d qd)) ((2 : Int32) * qa)))]))
    refine Go.by' (fun t k => (XS.dload X17.here hx rfl (hb hby at_107) rfl (X17.ldc2DoubleC hx hown (mvT hZ hw24) (g := (mkF m 109 #[.val (.int iP), .val (.int iQ), .val (.int iR), .val (.int iX), .val (.int iY), .val (.int (0 : Int32)), .val (.int qd), .val (.int qa), .val (.ref b13), .val (.double (4608083138725491507 : UInt64)), .second, .unset, .unset, .unset, .unset, .unset, .unset, .unset, .unset] [(.double (4608083138725491507 : UInt64)), (.double (Fl.lnf (FP.ddiv (FP.l2d ((qd.toInt64) * (qa.toInt64))) (FP.i2d qd)) ((2 : Int32) * qa)))])) rfl (hb hby at_109) t (XS.dmulS X17.here hx rfl (hb hby at_112) rfl Fl.dv_kc7.nn rfl (XS.dcmpS X17.here hx rfl (hb hby at_113) rfl rfl (XS.ifNo X17.here hx rfl (hb hby at_114) rfl ((if0 _ _).trans (teq (by rw [Fl.f2 jnv jnp (own_2a jna)]; decide)).2) (XS.aload X17.here hx rfl (hb hby at_117) rfl rfl k))))))) ?_
    show Go p.tables e below Pf (T17.setTop (mkF m 119 #[.val (.int iP), .val (.int iQ), .val (.int iR), .val (.int iX), .val (.int iY), .val (.int (0 : Int32)), .val (.int qd), .val (.int qa), .val (.ref b13), .val (.double (4608083138725491507 : UInt64)), .second, .unset, .unset, .unset, .unset, .unset, .unset, .unset, .unset] [(.ref b13)]))
    refine Go.by' (fun t k => (XS.iconst X17.here hx rfl (hb hby at_119) (XS.iload X17.here hx rfl (hb hby at_120) rfl (XS.imul X17.here hx rfl (hb hby at_122) rfl k)))) ?_
    show Go p.tables e below Pf (T17.setTop (mkF m 123 #[.val (.int iP), .val (.int iQ), .val (.int iR), .val (.int iX), .val (.int iY), .val (.int (0 : Int32)), .val (.int qd), .val (.int qa), .val (.ref b13), .val (.double (4608083138725491507 : UInt64)), .second, .unset, .unset, .unset, .unset, .unset, .unset, .unset, .unset] [(.int ((3 : Int32) * qa)), (.ref b13)]))
    obtain ⟨cq18, kq18, q18a, q18b, q18c⟩ := isOf hZ e17 f14_0
    obtain ⟨_, _, ⟨T18, L18, k18, n18⟩, -, X18, ⟨Lc18, hQ18, l18, y18, z18⟩, st18⟩ := X17.virtualBack hx (y := (⟨"com/example/kull/kull/core/search/Bm25", "lengthNorm", "(I)D"⟩ : MethodName)) (z := (⟨"com/example/kull/kull/core/search/Bm25", "lengthNorm", "(I)D"⟩ : MethodName)) hown (mvT hZ hw15) (mvT hZ hw16) (notFace_of_selects (args := #[]) (mvT hZ hw18)) (mvT hZ hw18) (mvT hZ hw17) (by decide) (backOf (W := 0) (rmLn l Z a0 hw []  b13 (((3 : Int32) * qa)) ((FP.ddiv (FP.l2d ((qd.toInt64) * (qa.toInt64))) (FP.i2d qd))) T14.heap n0 O14 f14_1 (Fl.ln_val _ jnv jnp).1 (Fl.ln_val _ jnv jnp).2.1 (Fl.ln_val _ jnv jnp).2.2.1 (Fl.ln_val _ jnv jnp).2.2.2.1) hZ hw19 hw3 (by decide) (by decide)) q18a q18c (g := (mkF m 123 #[.val (.int iP), .val (.int iQ), .val (.int iR), .val (.int iX), .val (.int iY), .val (.int (0 : Int32)), .val (.int qd), .val (.int qa), .val (.ref b13), .val (.double (4608083138725491507 : UInt64)), .second, .unset, .unset, .unset, .unset, .unset, .unset, .unset, .unset] [(.int ((3 : Int32) * qa)), (.ref b13)])) rfl (by rw [hml]; rfl) (Steps.refl _) (argsL := [(.int ((3 : Int32) * qa))]) (rest := []) (lenOf pd_1 rfl) rfl (by show 2 * 0 + _ ≤ _; exact Nat.le_of_eq rfl) (hb hby at_123) (fun _ _ => ⟨rfl, e17, (by decide : 1 + 0 ≤ _), (by decide : 2 + 0 ≤ _)⟩)
    dsimp only [Pt.U, Pt.locs, Pt.cells, Pt.slots] at X18 l18 y18 z18 st18 hQ18
    subst l18 y18 z18
    obtain ⟨rfl, rfl, e18⟩ := hQ18
    try replace X18 := own_nil X18
    refine Go.by' (fun t k => st18.trans k) ?_
    show Go p.tables e below Pf (T18.setTop (mkF m 126 #[.val (.int iP), .val (.int iQ), .val (.int iR), .val (.int iX), .val (.int iY), .val (.int (0 : Int32)), .val (.int qd), .val (.int qa), .val (.ref b13), .val (.double (4608083138725491507 : UInt64)), .second, .unset, .unset, .unset, .unset, .unset, .unset, .unset, .unset] [(.double (Fl.lnf (FP.ddiv (FP.l2d ((qd.toInt64) * (qa.toInt64))) (FP.i2d qd)) ((3 : Int32) * qa)))]))
    refine Go.by' (fun t k => (XS.dload X18.here hx rfl (hb hby at_126) rfl (X18.ldc2DoubleC hx hown (mvT hZ hw25) (g := (mkF m 128 #[.val (.int iP), .val (.int iQ), .val (.int iR), .val (.int iX), .val (.int iY), .val (.int (0 : Int32)), .val (.int qd), .val (.int qa), .val (.ref b13), .val (.double (4608083138725491507 : UInt64)), .second, .unset, .unset, .unset, .unset, .unset, .unset, .unset, .unset] [(.double (4608083138725491507 : UInt64)), (.double (Fl.lnf (FP.ddiv (FP.l2d ((qd.toInt64) * (qa.toInt64))) (FP.i2d qd)) ((3 : Int32) * qa)))])) rfl (hb hby at_128) t (XS.dmulS X18.here hx rfl (hb hby at_131) rfl Fl.dv_kc10.nn rfl (XS.dcmpS X18.here hx rfl (hb hby at_132) rfl rfl (XS.ifNo X18.here hx rfl (hb hby at_133) rfl ((if0 _ _).trans (teq (by rw [Fl.f3 jnv jnp (own_3a (by omega))]; decide)).2) (XS.iconst X18.here hx rfl (hb hby at_136) k))))))) ?_
    show Go p.tables e below Pf (T18.setTop (mkF m 137 #[.val (.int iP), .val (.int iQ), .val (.int iR), .val (.int iX), .val (.int iY), .val (.int (0 : Int32)), .val (.int qd), .val (.int qa), .val (.ref b13), .val (.double (4608083138725491507 : UInt64)), .second, .unset, .unset, .unset, .unset, .unset, .unset, .unset, .unset] [(.int (1 : Int32))]))
    refine Go.by' (fun t k => (XS.goto X18.here hx rfl (pc0 := 137) (pc' := 141) rfl (hb hby at_137) (by decide) (by decide) (XS.istore X18.here hx rfl (hb hby at_141) rfl (l' := #[.val (.int iP), .val (.int iQ), .val (.int iR), .val (.int iX), .val (.int iY), .val (.int (0 : Int32)), .val (.int qd), .val (.int qa), .val (.ref b13), .val (.double (4608083138725491507 : UInt64)), .second, .val (.int (1 : Int32)), .unset, .unset, .unset, .unset, .unset, .unset, .unset]) rfl (XS.iloadN X18.here hx rfl (hb hby at_143) rfl (XS.iload X18.here hx rfl (hb hby at_144) rfl k))))) ?_
    show Go p.tables e below Pf (T18.setTop (mkF m 146 #[.val (.int iP), .val (.int iQ), .val (.int iR), .val (.int iX), .val (.int iY), .val (.int (0 : Int32)), .val (.int qd), .val (.int qa), .val (.ref b13), .val (.double (4608083138725491507 : UInt64)), .second, .val (.int (1 : Int32)), .unset, .unset, .unset, .unset, .unset, .unset, .unset] [(.int iY), (.int iX)]))
    obtain ⟨_, _, ⟨T19, L19, k19, n19⟩, -, X19, ⟨Lc19, hQ19, l19, y19, z19⟩, st19⟩ := Jvm.LawKit.callS X18 hx (y := (⟨"java/lang/Math", "min", "(II)I"⟩ : MethodName)) hown (mvT hZ hw26) (mvT hZ hw27) (mvT hZ hw28) (mvT hZ hw29) (by decide) (backOf (W := 0) (rmMin l Z a0 hw []  iX iY T14.heap n0 O14 ) hZ hw29 hw28 (by decide) (by decide)) (g := (mkF m 146 #[.val (.int iP), .val (.int iQ), .val (.int iR), .val (.int iX), .val (.int iY), .val (.int (0 : Int32)), .val (.int qd), .val (.int qa), .val (.ref b13), .val (.double (4608083138725491507 : UInt64)), .second, .val (.int (1 : Int32)), .unset, .unset, .unset, .unset, .unset, .unset, .unset] [(.int iY), (.int iX)])) rfl (by rw [hml]; rfl) (argsL := [(.int iX), (.int iY)]) (rest := []) (lenOf pd_2 rfl) rfl (by show 2 * 0 + _ ≤ _; exact Nat.le_of_eq rfl) (hb hby at_146) (fun _ _ => ⟨rfl, e18, (by decide : 1 + 0 ≤ _), (by decide : 2 + 0 ≤ _)⟩)
    dsimp only [Pt.U, Pt.locs, Pt.cells, Pt.slots] at X19 l19 y19 z19 st19 hQ19
    subst l19 y19 z19
    obtain ⟨r_19, rfl, rfl, e19, r19_0⟩ := hQ19
    try replace X19 := own_nil X19
    refine Go.by' st19 ?_
    show Go p.tables e below Pf (T19.setTop (mkF m 149 #[.val (.int iP), .val (.int iQ), .val (.int iR), .val (.int iX), .val (.int iY), .val (.int (0 : Int32)), .val (.int qd), .val (.int qa), .val (.ref b13), .val (.double (4608083138725491507 : UInt64)), .second, .val (.int (1 : Int32)), .unset, .unset, .unset, .unset, .unset, .unset, .unset] [(.int r_19)]))
    refine Go.by' (fun t k => (XS.istore X19.here hx rfl (hb hby at_149) rfl (l' := #[.val (.int iP), .val (.int iQ), .val (.int iR), .val (.int iX), .val (.int iY), .val (.int (0 : Int32)), .val (.int qd), .val (.int qa), .val (.ref b13), .val (.double (4608083138725491507 : UInt64)), .second, .val (.int (1 : Int32)), .val (.int r_19), .unset, .unset, .unset, .unset, .unset, .unset]) rfl (XS.iloadN X19.here hx rfl (hb hby at_151) rfl (XS.iload X19.here hx rfl (hb hby at_152) rfl k)))) ?_
    show Go p.tables e below Pf (T19.setTop (mkF m 154 #[.val (.int iP), .val (.int iQ), .val (.int iR), .val (.int iX), .val (.int iY), .val (.int (0 : Int32)), .val (.int qd), .val (.int qa), .val (.ref b13), .val (.double (4608083138725491507 : UInt64)), .second, .val (.int (1 : Int32)), .val (.int r_19), .unset, .unset, .unset, .unset, .unset, .unset] [(.int iY), (.int iX)]))
    obtain ⟨_, _, ⟨T20, L20, k20, n20⟩, -, X20, ⟨Lc20, hQ20, l20, y20, z20⟩, st20⟩ := Jvm.LawKit.callS X19 hx (y := (⟨"java/lang/Math", "max", "(II)I"⟩ : MethodName)) hown (mvT hZ hw30) (mvT hZ hw31) (mvT hZ hw28) (mvT hZ hw32) (by decide) (backOf (W := 0) (rmMax l Z a0 hw []  iX iY T14.heap n0 O14 ) hZ hw32 hw28 (by decide) (by decide)) (g := (mkF m 154 #[.val (.int iP), .val (.int iQ), .val (.int iR), .val (.int iX), .val (.int iY), .val (.int (0 : Int32)), .val (.int qd), .val (.int qa), .val (.ref b13), .val (.double (4608083138725491507 : UInt64)), .second, .val (.int (1 : Int32)), .val (.int r_19), .unset, .unset, .unset, .unset, .unset, .unset] [(.int iY), (.int iX)])) rfl (by rw [hml]; rfl) (argsL := [(.int iX), (.int iY)]) (rest := []) (lenOf pd_2 rfl) rfl (by show 2 * 0 + _ ≤ _; exact Nat.le_of_eq rfl) (hb hby at_154) (fun _ _ => ⟨rfl, e19, (by decide : 1 + 0 ≤ _), (by decide : 2 + 0 ≤ _)⟩)
    dsimp only [Pt.U, Pt.locs, Pt.cells, Pt.slots] at X20 l20 y20 z20 st20 hQ20
    subst l20 y20 z20
    obtain ⟨r_20, rfl, rfl, e20, r20_0⟩ := hQ20
    try replace X20 := own_nil X20
    refine Go.by' st20 ?_
    show Go p.tables e below Pf (T20.setTop (mkF m 157 #[.val (.int iP), .val (.int iQ), .val (.int iR), .val (.int iX), .val (.int iY), .val (.int (0 : Int32)), .val (.int qd), .val (.int qa), .val (.ref b13), .val (.double (4608083138725491507 : UInt64)), .second, .val (.int (1 : Int32)), .val (.int r_19), .unset, .unset, .unset, .unset, .unset, .unset] [(.int r_20)]))
    refine Go.by' (fun t k => (XS.istore X20.here hx rfl (hb hby at_157) rfl (l' := #[.val (.int iP), .val (.int iQ), .val (.int iR), .val (.int iX), .val (.int iY), .val (.int (0 : Int32)), .val (.int qd), .val (.int qa), .val (.ref b13), .val (.double (4608083138725491507 : UInt64)), .second, .val (.int (1 : Int32)), .val (.int r_19), .val (.int r_20), .unset, .unset, .unset, .unset, .unset]) rfl (XS.aload X20.here hx rfl (hb hby at_159) rfl rfl (XS.iload X20.here hx rfl (hb hby at_161) rfl k)))) ?_
    show Go p.tables e below Pf (T20.setTop (mkF m 163 #[.val (.int iP), .val (.int iQ), .val (.int iR), .val (.int iX), .val (.int iY), .val (.int (0 : Int32)), .val (.int qd), .val (.int qa), .val (.ref b13), .val (.double (4608083138725491507 : UInt64)), .second, .val (.int (1 : Int32)), .val (.int r_19), .val (.int r_20), .unset, .unset, .unset, .unset, .unset] [(.int r_19), (.ref b13)]))
    obtain ⟨cq21, kq21, q21a, q21b, q21c⟩ := isOf hZ e20 f14_0
    obtain ⟨_, _, ⟨T21, L21, k21, n21⟩, -, X21, ⟨Lc21, hQ21, l21, y21, z21⟩, st21⟩ := X20.virtualBack hx (y := (⟨"com/example/kull/kull/core/search/Bm25", "lengthNorm", "(I)D"⟩ : MethodName)) (z := (⟨"com/example/kull/kull/core/search/Bm25", "lengthNorm", "(I)D"⟩ : MethodName)) hown (mvT hZ hw15) (mvT hZ hw16) (notFace_of_selects (args := #[]) (mvT hZ hw18)) (mvT hZ hw18) (mvT hZ hw17) (by decide) (backOf (W := 0) (rmLn l Z a0 hw []  b13 r_19 ((FP.ddiv (FP.l2d ((qd.toInt64) * (qa.toInt64))) (FP.i2d qd))) T14.heap n0 O14 f14_1 (Fl.ln_val _ jnv jnp).1 (Fl.ln_val _ jnv jnp).2.1 (Fl.ln_val _ jnv jnp).2.2.1 (Fl.ln_val _ jnv jnp).2.2.2.1) hZ hw19 hw3 (by decide) (by decide)) q21a q21c (g := (mkF m 163 #[.val (.int iP), .val (.int iQ), .val (.int iR), .val (.int iX), .val (.int iY), .val (.int (0 : Int32)), .val (.int qd), .val (.int qa), .val (.ref b13), .val (.double (4608083138725491507 : UInt64)), .second, .val (.int (1 : Int32)), .val (.int r_19), .val (.int r_20), .unset, .unset, .unset, .unset, .unset] [(.int r_19), (.ref b13)])) rfl (by rw [hml]; rfl) (Steps.refl _) (argsL := [(.int r_19)]) (rest := []) (lenOf pd_1 rfl) rfl (by show 2 * 0 + _ ≤ _; exact Nat.le_of_eq rfl) (hb hby at_163) (fun _ _ => ⟨rfl, e20, (by decide : 1 + 0 ≤ _), (by decide : 2 + 0 ≤ _)⟩)
    dsimp only [Pt.U, Pt.locs, Pt.cells, Pt.slots] at X21 l21 y21 z21 st21 hQ21
    subst l21 y21 z21
    obtain ⟨rfl, rfl, e21⟩ := hQ21
    try replace X21 := own_nil X21
    refine Go.by' (fun t k => st21.trans k) ?_
    show Go p.tables e below Pf (T21.setTop (mkF m 166 #[.val (.int iP), .val (.int iQ), .val (.int iR), .val (.int iX), .val (.int iY), .val (.int (0 : Int32)), .val (.int qd), .val (.int qa), .val (.ref b13), .val (.double (4608083138725491507 : UInt64)), .second, .val (.int (1 : Int32)), .val (.int r_19), .val (.int r_20), .unset, .unset, .unset, .unset, .unset] [(.double (Fl.lnf (FP.ddiv (FP.l2d ((qd.toInt64) * (qa.toInt64))) (FP.i2d qd)) r_19))]))
    refine Go.by' (fun t k => (XS.aload X21.here hx rfl (hb hby at_166) rfl rfl (XS.iload X21.here hx rfl (hb hby at_168) rfl k))) ?_
    show Go p.tables e below Pf (T21.setTop (mkF m 170 #[.val (.int iP), .val (.int iQ), .val (.int iR), .val (.int iX), .val (.int iY), .val (.int (0 : Int32)), .val (.int qd), .val (.int qa), .val (.ref b13), .val (.double (4608083138725491507 : UInt64)), .second, .val (.int (1 : Int32)), .val (.int r_19), .val (.int r_20), .unset, .unset, .unset, .unset, .unset] [(.int r_20), (.ref b13), (.double (Fl.lnf (FP.ddiv (FP.l2d ((qd.toInt64) * (qa.toInt64))) (FP.i2d qd)) r_19))]))
    obtain ⟨cq22, kq22, q22a, q22b, q22c⟩ := isOf hZ e21 f14_0
    obtain ⟨_, _, ⟨T22, L22, k22, n22⟩, -, X22, ⟨Lc22, hQ22, l22, y22, z22⟩, st22⟩ := X21.virtualBack hx (y := (⟨"com/example/kull/kull/core/search/Bm25", "lengthNorm", "(I)D"⟩ : MethodName)) (z := (⟨"com/example/kull/kull/core/search/Bm25", "lengthNorm", "(I)D"⟩ : MethodName)) hown (mvT hZ hw15) (mvT hZ hw16) (notFace_of_selects (args := #[]) (mvT hZ hw18)) (mvT hZ hw18) (mvT hZ hw17) (by decide) (backOf (W := 2) (rmLn l Z a0 hw []  b13 r_20 ((FP.ddiv (FP.l2d ((qd.toInt64) * (qa.toInt64))) (FP.i2d qd))) T14.heap n0 O14 f14_1 (Fl.ln_val _ jnv jnp).1 (Fl.ln_val _ jnv jnp).2.1 (Fl.ln_val _ jnv jnp).2.2.1 (Fl.ln_val _ jnv jnp).2.2.2.1) hZ hw19 hw3 (by decide) (by decide)) q22a q22c (g := (mkF m 170 #[.val (.int iP), .val (.int iQ), .val (.int iR), .val (.int iX), .val (.int iY), .val (.int (0 : Int32)), .val (.int qd), .val (.int qa), .val (.ref b13), .val (.double (4608083138725491507 : UInt64)), .second, .val (.int (1 : Int32)), .val (.int r_19), .val (.int r_20), .unset, .unset, .unset, .unset, .unset] [(.int r_20), (.ref b13), (.double (Fl.lnf (FP.ddiv (FP.l2d ((qd.toInt64) * (qa.toInt64))) (FP.i2d qd)) r_19))])) rfl (by rw [hml]; rfl) (Steps.refl _) (argsL := [(.int r_20)]) (rest := [(.double (Fl.lnf (FP.ddiv (FP.l2d ((qd.toInt64) * (qa.toInt64))) (FP.i2d qd)) r_19))]) (lenOf pd_1 rfl) rfl (by show 2 * 0 + _ ≤ _; exact Nat.le_of_eq rfl) (hb hby at_170) (fun _ _ => ⟨rfl, e21, (by decide : 1 + 0 ≤ _), (by decide : 2 + 0 ≤ _)⟩)
    dsimp only [Pt.U, Pt.locs, Pt.cells, Pt.slots] at X22 l22 y22 z22 st22 hQ22
    subst l22 y22 z22
    obtain ⟨rfl, rfl, e22⟩ := hQ22
    try replace X22 := own_nil X22
    refine Go.by' (fun t k => st22.trans k) ?_
    show Go p.tables e below Pf (T22.setTop (mkF m 173 #[.val (.int iP), .val (.int iQ), .val (.int iR), .val (.int iX), .val (.int iY), .val (.int (0 : Int32)), .val (.int qd), .val (.int qa), .val (.ref b13), .val (.double (4608083138725491507 : UInt64)), .second, .val (.int (1 : Int32)), .val (.int r_19), .val (.int r_20), .unset, .unset, .unset, .unset, .unset] [(.double (Fl.lnf (FP.ddiv (FP.l2d ((qd.toInt64) * (qa.toInt64))) (FP.i2d qd)) r_20)), (.double (Fl.lnf (FP.ddiv (FP.l2d ((qd.toInt64) * (qa.toInt64))) (FP.i2d qd)) r_19))]))
    refine Go.by' (fun t k => (XS.dcmpS X22.here hx rfl (hb hby at_173) rfl rfl (XS.ifNo X22.here hx rfl (hb hby at_174) rfl ((if0 _ _).trans (flt (by rcases Fl.f4 jnv jnp (own_le2 r19_0 r20_0) with z | z <;> (rw [z]; decide))).2.2.1) (XS.iconst X22.here hx rfl (hb hby at_177) (XS.goto X22.here hx rfl (pc0 := 178) (pc' := 182) rfl (hb hby at_178) (by decide) (by decide) (XS.istore X22.here hx rfl (hb hby at_182) rfl (l' := #[.val (.int iP), .val (.int iQ), .val (.int iR), .val (.int iX), .val (.int iY), .val (.int (0 : Int32)), .val (.int qd), .val (.int qa), .val (.ref b13), .val (.double (4608083138725491507 : UInt64)), .second, .val (.int (1 : Int32)), .val (.int r_19), .val (.int r_20), .val (.int (1 : Int32)), .unset, .unset, .unset, .unset]) rfl (XS.iconst X22.here hx rfl (hb hby at_184) k))))))) ?_
    show Go p.tables e below Pf (T22.setTop (mkF m 185 #[.val (.int iP), .val (.int iQ), .val (.int iR), .val (.int iX), .val (.int iY), .val (.int (0 : Int32)), .val (.int qd), .val (.int qa), .val (.ref b13), .val (.double (4608083138725491507 : UInt64)), .second, .val (.int (1 : Int32)), .val (.int r_19), .val (.int r_20), .val (.int (1 : Int32)), .unset, .unset, .unset, .unset] [(.int (1 : Int32))]))
    refine Go.by' (fun t k => (XS.istore X22.here hx rfl (hb hby at_185) rfl (l' := #[.val (.int iP), .val (.int iQ), .val (.int iR), .val (.int iX), .val (.int iY), .val (.int (0 : Int32)), .val (.int qd), .val (.int qa), .val (.ref b13), .val (.double (4608083138725491507 : UInt64)), .second, .val (.int (1 : Int32)), .val (.int r_19), .val (.int r_20), .val (.int (1 : Int32)), .val (.int (1 : Int32)), .unset, .unset, .unset]) rfl (XS.iload X22.here hx rfl (hb hby at_187) rfl (XS.ifYes X22.here hx rfl (pc0 := 189) (pc' := 239) rfl (hb hby at_189) rfl ((if0 _ _).trans (teq (by decide)).1) (by decide) (by decide) (XS.iload X22.here hx rfl (hb hby at_239) rfl (XS.ifNo X22.here hx rfl (hb hby at_241) rfl ((if0 _ _).trans (feq (by decide)).1) (XS.iload X22.here hx rfl (hb hby at_244) rfl k))))))) ?_
    show Go p.tables e below Pf (T22.setTop (mkF m 246 #[.val (.int iP), .val (.int iQ), .val (.int iR), .val (.int iX), .val (.int iY), .val (.int (0 : Int32)), .val (.int qd), .val (.int qa), .val (.ref b13), .val (.double (4608083138725491507 : UInt64)), .second, .val (.int (1 : Int32)), .val (.int r_19), .val (.int r_20), .val (.int (1 : Int32)), .val (.int (1 : Int32)), .unset, .unset, .unset] [(.int (1 : Int32))]))
    refine Go.by' (fun t k => (XS.ifNo X22.here hx rfl (hb hby at_246) rfl ((if0 _ _).trans (feq (by decide)).1) (XS.iload X22.here hx rfl (hb hby at_249) rfl (XS.ifNo X22.here hx rfl (hb hby at_251) rfl ((if0 _ _).trans (feq (by decide)).1) (XS.iconst X22.here hx rfl (hb hby at_254) (XS.goto X22.here hx rfl (pc0 := 255) (pc' := 259) rfl (hb hby at_255) (by decide) (by decide) k)))))) ?_
    show Go p.tables e below Pf (T22.setTop (mkF m 259 #[.val (.int iP), .val (.int iQ), .val (.int iR), .val (.int iX), .val (.int iY), .val (.int (0 : Int32)), .val (.int qd), .val (.int qa), .val (.ref b13), .val (.double (4608083138725491507 : UInt64)), .second, .val (.int (1 : Int32)), .val (.int r_19), .val (.int r_20), .val (.int (1 : Int32)), .val (.int (1 : Int32)), .unset, .unset, .unset] [(.int (1 : Int32))]))
    rw [hPf]
    exact Go.retI' X22 hx hret hlk (by simp) rfl (hb hby at_259) (by decide) (by decide) ⟨rfl, N14, (by rw [e22]; exact KC14)⟩
  · refine Go.by' (fun t k => (XS.ifNo X0.here hx rfl (hb hby at_3) rfl ((if0 _ _).trans (feq hc12).1) (XS.iconst X0.here hx rfl (hb hby at_6) (XS.goto X0.here hx rfl (pc0 := 7) (pc' := 11) rfl (hb hby at_7) (by decide) (by decide) (XS.istore X0.here hx rfl (hb hby at_11) rfl (l' := #[.val (.int iP), .val (.int iQ), .val (.int iR), .val (.int iX), .val (.int iY), .val (.int (1 : Int32)), .unset, .unset, .unset, .unset, .unset, .unset, .unset, .unset, .unset, .unset, .unset, .unset, .unset]) rfl (XS.iconst X0.here hx rfl (hb hby at_13) (XS.iloadN X0.here hx rfl (hb hby at_14) rfl k))))))) ?_
    show Go p.tables e below Pf (s₁.setTop (mkF m 15 #[.val (.int iP), .val (.int iQ), .val (.int iR), .val (.int iX), .val (.int iY), .val (.int (1 : Int32)), .unset, .unset, .unset, .unset, .unset, .unset, .unset, .unset, .unset, .unset, .unset, .unset, .unset] [(.int iP), (.int (1 : Int32))]))
    refine Go.by' (fun t k => (XS.iconst X0.here hx rfl (hb hby at_15) (XS.iushr X0.here hx rfl (hb hby at_16) rfl (XS.sipush X0.here hx rfl (hb hby at_17) (XS.iand X0.here hx rfl (hb hby at_20) rfl (XS.iadd X0.here hx rfl (hb hby at_21) rfl (XS.istore X0.here hx rfl (hb hby at_22) rfl (l' := #[.val (.int iP), .val (.int iQ), .val (.int iR), .val (.int iX), .val (.int iY), .val (.int (1 : Int32)), .val (.int ((1 : Int32) + (((iP.toUInt32 >>> ((1 : Int32) &&& 31).toUInt32).toInt32) &&& (1023 : Int32)))), .unset, .unset, .unset, .unset, .unset, .unset, .unset, .unset, .unset, .unset, .unset, .unset]) rfl k))))))) ?_
    show Go p.tables e below Pf (s₁.setTop (mkF m 24 #[.val (.int iP), .val (.int iQ), .val (.int iR), .val (.int iX), .val (.int iY), .val (.int (1 : Int32)), .val (.int ((1 : Int32) + (((iP.toUInt32 >>> ((1 : Int32) &&& 31).toUInt32).toInt32) &&& (1023 : Int32)))), .unset, .unset, .unset, .unset, .unset, .unset, .unset, .unset, .unset, .unset, .unset, .unset] []))
    refine Go.by' (fun t k => (XS.iload X0.here hx rfl (hb hby at_24) rfl (XS.ifNo X0.here hx rfl (hb hby at_26) rfl ((if0 _ _).trans (feq (by decide)).1) (XS.iconst X0.here hx rfl (hb hby at_29) (XS.iloadN X0.here hx rfl (hb hby at_30) rfl (XS.bipush X0.here hx rfl (hb hby at_31) (XS.iand X0.here hx rfl (hb hby at_33) rfl k))))))) ?_
    show Go p.tables e below Pf (s₁.setTop (mkF m 34 #[.val (.int iP), .val (.int iQ), .val (.int iR), .val (.int iX), .val (.int iY), .val (.int (1 : Int32)), .val (.int ((1 : Int32) + (((iP.toUInt32 >>> ((1 : Int32) &&& 31).toUInt32).toInt32) &&& (1023 : Int32)))), .unset, .unset, .unset, .unset, .unset, .unset, .unset, .unset, .unset, .unset, .unset, .unset] [(.int (iQ &&& (15 : Int32))), (.int (1 : Int32))]))
    refine Go.by' (fun t k => (XS.ishl X0.here hx rfl (hb hby at_34) rfl (XS.goto X0.here hx rfl (pc0 := 35) (pc' := 44) rfl (hb hby at_35) (by decide) (by decide) (XS.istore X0.here hx rfl (hb hby at_44) rfl (l' := #[.val (.int iP), .val (.int iQ), .val (.int iR), .val (.int iX), .val (.int iY), .val (.int (1 : Int32)), .val (.int ((1 : Int32) + (((iP.toUInt32 >>> ((1 : Int32) &&& 31).toUInt32).toInt32) &&& (1023 : Int32)))), .val (.int ((1 : Int32) <<< ((iQ &&& (15 : Int32)) &&& 31))), .unset, .unset, .unset, .unset, .unset, .unset, .unset, .unset, .unset, .unset, .unset]) rfl k)))) ?_
    show Go p.tables e below Pf (s₁.setTop (mkF m 46 #[.val (.int iP), .val (.int iQ), .val (.int iR), .val (.int iX), .val (.int iY), .val (.int (1 : Int32)), .val (.int ((1 : Int32) + (((iP.toUInt32 >>> ((1 : Int32) &&& 31).toUInt32).toInt32) &&& (1023 : Int32)))), .val (.int ((1 : Int32) <<< ((iQ &&& (15 : Int32)) &&& 31))), .unset, .unset, .unset, .unset, .unset, .unset, .unset, .unset, .unset, .unset, .unset] []))
    have jnd := own_d ((iP.toUInt32 >>> ((1 : Int32) &&& 31).toUInt32).toInt32)
    obtain ⟨k, jnk, jnq⟩ := own_pp iQ
    have jna := own_pb jnk jnq
    obtain ⟨qd, hq6⟩ : ∃ z, ((1 : Int32) + (((iP.toUInt32 >>> ((1 : Int32) &&& 31).toUInt32).toInt32) &&& (1023 : Int32))) = z := ⟨_, rfl⟩
    rw [hq6] at jnd
    refine Go.castF (a := ((1 : Int32) + (((iP.toUInt32 >>> ((1 : Int32) &&& 31).toUInt32).toInt32) &&& (1023 : Int32)))) (b := qd) (fun z' : Int32 => mkF m 46 #[.val (.int iP), .val (.int iQ), .val (.int iR), .val (.int iX), .val (.int iY), .val (.int (1 : Int32)), .val (.int z'), .val (.int ((1 : Int32) <<< ((iQ &&& (15 : Int32)) &&& 31))), .unset, .unset, .unset, .unset, .unset, .unset, .unset, .unset, .unset, .unset, .unset] []) (hq6) ?_
    obtain ⟨qa, hq7⟩ : ∃ z, ((1 : Int32) <<< ((iQ &&& (15 : Int32)) &&& 31)) = z := ⟨_, rfl⟩
    rw [hq7] at jna jnq
    refine Go.castF (a := ((1 : Int32) <<< ((iQ &&& (15 : Int32)) &&& 31))) (b := qa) (fun z' : Int32 => mkF m 46 #[.val (.int iP), .val (.int iQ), .val (.int iR), .val (.int iX), .val (.int iY), .val (.int (1 : Int32)), .val (.int qd), .val (.int z'), .unset, .unset, .unset, .unset, .unset, .unset, .unset, .unset, .unset, .unset, .unset] []) (hq7) ?_
    have jnl := own_l jnd jna
    have jnv := Fl.dv_avg jnd jna jnl
    have jnp : 0 < qa.toInt := jna.1
    show Go p.tables e below Pf (s₁.setTop (mkF m 46 #[.val (.int iP), .val (.int iQ), .val (.int iR), .val (.int iX), .val (.int iY), .val (.int (1 : Int32)), .val (.int qd), .val (.int qa), .unset, .unset, .unset, .unset, .unset, .unset, .unset, .unset, .unset, .unset, .unset] []))
    obtain ⟨T23, h23, X23, e23, E23, A23, D23, -, st23⟩ := newO X0 hx hZ hown hw1 hw2 hw3 e0 (g := (mkF m 46 #[.val (.int iP), .val (.int iQ), .val (.int iR), .val (.int iX), .val (.int iY), .val (.int (1 : Int32)), .val (.int qd), .val (.int qa), .unset, .unset, .unset, .unset, .unset, .unset, .unset, .unset, .unset, .unset, .unset] [])) rfl (hb hby at_46) (by decide) (by decide)
    obtain ⟨b23, g23⟩ : ∃ z, z = h0.size := ⟨_, rfl⟩
    rw [← g23] at A23 D23 st23
    refine Go.by' st23 ?_
    have g_b23 : n0 ≤ b23 := Nat.le_trans (own_le O0) (Nat.le_of_eq g23.symm)
    have sz_b23 : h0.size ≤ b23 := Nat.le_trans KC0.1 (Nat.le_of_eq g23.symm)
    have O23 := O0.ext E23
    have KC23 : Keep h0 h23 [] := KC0.ext E23
    have Fn23_11 : Fld Z h23 b23 "com/example/kull/kull/core/search/Bm25" "documentCount" "I" (Value.int (0 : Int32)) := D23 (Or.inr hw11) (ty := .int) (by decide)
    have Fn23_13 : Fld Z h23 b23 "com/example/kull/kull/core/search/Bm25" "averageLength" "D" (Value.double (0 : UInt64)) := D23 (Or.inr hw13) (ty := .double) (by decide)
    show Go p.tables e below Pf (T23.setTop (mkF m 49 #[.val (.int iP), .val (.int iQ), .val (.int iR), .val (.int iX), .val (.int iY), .val (.int (1 : Int32)), .val (.int qd), .val (.int qa), .unset, .unset, .unset, .unset, .unset, .unset, .unset, .unset, .unset, .unset, .unset] [(.ref b23)]))
    refine Go.by' (fun t k => (XS.dup X23.here hx rfl (hb hby at_49) rfl rfl (XS.iload X23.here hx rfl (hb hby at_50) rfl (XS.iload X23.here hx rfl (hb hby at_52) rfl (XS.i2l X23.here hx rfl (hb hby at_54) rfl (XS.iload X23.here hx rfl (hb hby at_55) rfl (XS.i2l X23.here hx rfl (hb hby at_57) rfl k))))))) ?_
    show Go p.tables e below Pf (T23.setTop (mkF m 58 #[.val (.int iP), .val (.int iQ), .val (.int iR), .val (.int iX), .val (.int iY), .val (.int (1 : Int32)), .val (.int qd), .val (.int qa), .unset, .unset, .unset, .unset, .unset, .unset, .unset, .unset, .unset, .unset, .unset] [(.long (qa.toInt64)), (.long (qd.toInt64)), (.int qd), (.ref b23), (.ref b23)]))
    refine Go.by' (fun t k => (XS.lmul X23.here hx rfl (hb hby at_58) rfl k)) ?_
    show Go p.tables e below Pf (T23.setTop (mkF m 59 #[.val (.int iP), .val (.int iQ), .val (.int iR), .val (.int iX), .val (.int iY), .val (.int (1 : Int32)), .val (.int qd), .val (.int qa), .unset, .unset, .unset, .unset, .unset, .unset, .unset, .unset, .unset, .unset, .unset] [(.long ((qd.toInt64) * (qa.toInt64))), (.int qd), (.ref b23), (.ref b23)]))
    obtain ⟨_, _, ⟨T24, L24, k24, n24⟩, -, X24, ⟨Lc24, hQ24, l24, y24, z24⟩, st24⟩ := X23.specialBack hx (y := (⟨"com/example/kull/kull/core/search/Bm25", "<init>", "(IJ)V"⟩ : MethodName)) rfl hown (mvT hZ hw4) (mvT hZ hw5) (mvT hZ hw6) (by decide) (backOf (W := 1) (rmBI l Z a0 hw []  b23 qd (((qd.toInt64) * (qa.toInt64))) h23 n0 O23 A23 Fn23_11 Fn23_13 g_b23 jnv.nn) hZ hw6 hw3 (by decide) (by decide)) (g := (mkF m 59 #[.val (.int iP), .val (.int iQ), .val (.int iR), .val (.int iX), .val (.int iY), .val (.int (1 : Int32)), .val (.int qd), .val (.int qa), .unset, .unset, .unset, .unset, .unset, .unset, .unset, .unset, .unset, .unset, .unset] [(.long ((qd.toInt64) * (qa.toInt64))), (.int qd), (.ref b23), (.ref b23)])) rfl (by rw [hml]; rfl) (Steps.refl _) (a := b23) (argsL := [(.int qd), (.long ((qd.toInt64) * (qa.toInt64)))]) (rest := [(.ref b23)]) (lenOf pd_0 rfl) rfl (by show 2 * 0 + _ ≤ _; exact Nat.le_of_eq rfl) (hb hby at_59) (fun _ _ => ⟨rfl, e23, (by decide : 1 + 0 ≤ _), (by decide : 2 + 0 ≤ _)⟩)
    dsimp only [Pt.U, Pt.locs, Pt.cells, Pt.slots] at X24 l24 y24 z24 st24 hQ24
    subst l24 y24 z24
    obtain ⟨rfl, N24q, K24, f24_0, f24_1⟩ := hQ24
    have N24 := Fr.app N0 N24q
    obtain ⟨lc24, X24, N24⟩ := own_pack X24 N24
    refine Go.by' (fun t k => st24.trans k) ?_
    have O24 := O23.keep K24 (allS g_b23 all0)
    have KC24 : Keep h0 T24.heap [] := KC23.trans K24 (allS (Or.inr sz_b23) all0)
    show Go p.tables e below Pf (T24.setTop (mkF m 62 #[.val (.int iP), .val (.int iQ), .val (.int iR), .val (.int iX), .val (.int iY), .val (.int (1 : Int32)), .val (.int qd), .val (.int qa), .unset, .unset, .unset, .unset, .unset, .unset, .unset, .unset, .unset, .unset, .unset] [(.ref b23)]))
    refine Go.by' (fun t k => (XS.astore X24.here hx rfl (hb hby at_62) rfl rfl (l' := #[.val (.int iP), .val (.int iQ), .val (.int iR), .val (.int iX), .val (.int iY), .val (.int (1 : Int32)), .val (.int qd), .val (.int qa), .val (.ref b23), .unset, .unset, .unset, .unset, .unset, .unset, .unset, .unset, .unset, .unset]) rfl (X24.ldc2DoubleC hx hown (mvT hZ hw14) (g := (mkF m 64 #[.val (.int iP), .val (.int iQ), .val (.int iR), .val (.int iX), .val (.int iY), .val (.int (1 : Int32)), .val (.int qd), .val (.int qa), .val (.ref b23), .unset, .unset, .unset, .unset, .unset, .unset, .unset, .unset, .unset, .unset] [])) rfl (hb hby at_64) t (XS.dstore X24.here hx rfl (hb hby at_67) rfl (l' := #[.val (.int iP), .val (.int iQ), .val (.int iR), .val (.int iX), .val (.int iY), .val (.int (1 : Int32)), .val (.int qd), .val (.int qa), .val (.ref b23), .val (.double (4608083138725491507 : UInt64)), .second, .unset, .unset, .unset, .unset, .unset, .unset, .unset, .unset]) rfl (XS.aload X24.here hx rfl (hb hby at_69) rfl rfl (XS.iconst X24.here hx rfl (hb hby at_71) k)))))) ?_
    show Go p.tables e below Pf (T24.setTop (mkF m 72 #[.val (.int iP), .val (.int iQ), .val (.int iR), .val (.int iX), .val (.int iY), .val (.int (1 : Int32)), .val (.int qd), .val (.int qa), .val (.ref b23), .val (.double (4608083138725491507 : UInt64)), .second, .unset, .unset, .unset, .unset, .unset, .unset, .unset, .unset] [(.int (0 : Int32)), (.ref b23)]))
    obtain ⟨cq25, kq25, q25a, q25b, q25c⟩ := isOf hZ rfl f24_0
    obtain ⟨_, _, ⟨T25, L25, k25, n25⟩, -, X25, ⟨Lc25, hQ25, l25, y25, z25⟩, st25⟩ := X24.virtualBack hx (y := (⟨"com/example/kull/kull/core/search/Bm25", "lengthNorm", "(I)D"⟩ : MethodName)) (z := (⟨"com/example/kull/kull/core/search/Bm25", "lengthNorm", "(I)D"⟩ : MethodName)) hown (mvT hZ hw15) (mvT hZ hw16) (notFace_of_selects (args := #[]) (mvT hZ hw18)) (mvT hZ hw18) (mvT hZ hw17) (by decide) (backOf (W := 0) (rmLn l Z a0 hw []  b23 ((0 : Int32)) ((FP.ddiv (FP.l2d ((qd.toInt64) * (qa.toInt64))) (FP.i2d qd))) T24.heap n0 O24 f24_1 (Fl.ln_val _ jnv jnp).1 (Fl.ln_val _ jnv jnp).2.1 (Fl.ln_val _ jnv jnp).2.2.1 (Fl.ln_val _ jnv jnp).2.2.2.1) hZ hw19 hw3 (by decide) (by decide)) q25a q25c (g := (mkF m 72 #[.val (.int iP), .val (.int iQ), .val (.int iR), .val (.int iX), .val (.int iY), .val (.int (1 : Int32)), .val (.int qd), .val (.int qa), .val (.ref b23), .val (.double (4608083138725491507 : UInt64)), .second, .unset, .unset, .unset, .unset, .unset, .unset, .unset, .unset] [(.int (0 : Int32)), (.ref b23)])) rfl (by rw [hml]; rfl) (Steps.refl _) (argsL := [(.int (0 : Int32))]) (rest := []) (lenOf pd_1 rfl) rfl (by show 2 * 0 + _ ≤ _; exact Nat.le_of_eq rfl) (hb hby at_72) (fun _ _ => ⟨rfl, rfl, (by decide : 1 + 0 ≤ _), (by decide : 2 + 0 ≤ _)⟩)
    dsimp only [Pt.U, Pt.locs, Pt.cells, Pt.slots] at X25 l25 y25 z25 st25 hQ25
    subst l25 y25 z25
    obtain ⟨rfl, rfl, e25⟩ := hQ25
    try replace X25 := own_nil X25
    refine Go.by' (fun t k => st25.trans k) ?_
    show Go p.tables e below Pf (T25.setTop (mkF m 75 #[.val (.int iP), .val (.int iQ), .val (.int iR), .val (.int iX), .val (.int iY), .val (.int (1 : Int32)), .val (.int qd), .val (.int qa), .val (.ref b23), .val (.double (4608083138725491507 : UInt64)), .second, .unset, .unset, .unset, .unset, .unset, .unset, .unset, .unset] [(.double (Fl.lnf (FP.ddiv (FP.l2d ((qd.toInt64) * (qa.toInt64))) (FP.i2d qd)) (0 : Int32)))]))
    refine Go.by' (fun t k => (XS.dload X25.here hx rfl (hb hby at_75) rfl (X25.ldc2DoubleC hx hown (mvT hZ hw23) (g := (mkF m 77 #[.val (.int iP), .val (.int iQ), .val (.int iR), .val (.int iX), .val (.int iY), .val (.int (1 : Int32)), .val (.int qd), .val (.int qa), .val (.ref b23), .val (.double (4608083138725491507 : UInt64)), .second, .unset, .unset, .unset, .unset, .unset, .unset, .unset, .unset] [(.double (4608083138725491507 : UInt64)), (.double (Fl.lnf (FP.ddiv (FP.l2d ((qd.toInt64) * (qa.toInt64))) (FP.i2d qd)) (0 : Int32)))])) rfl (hb hby at_77) t (XS.dmulS X25.here hx rfl (hb hby at_80) rfl Fl.dv_kc1.nn rfl (XS.dcmpS X25.here hx rfl (hb hby at_81) rfl rfl (XS.ifNo X25.here hx rfl (hb hby at_82) rfl ((if0 _ _).trans (teq (by rw [Fl.f0 jnv jnp]; decide)).2) (XS.aload X25.here hx rfl (hb hby at_85) rfl rfl k))))))) ?_
    show Go p.tables e below Pf (T25.setTop (mkF m 87 #[.val (.int iP), .val (.int iQ), .val (.int iR), .val (.int iX), .val (.int iY), .val (.int (1 : Int32)), .val (.int qd), .val (.int qa), .val (.ref b23), .val (.double (4608083138725491507 : UInt64)), .second, .unset, .unset, .unset, .unset, .unset, .unset, .unset, .unset] [(.ref b23)]))
    refine Go.by' (fun t k => (XS.iload X25.here hx rfl (hb hby at_87) rfl k)) ?_
    show Go p.tables e below Pf (T25.setTop (mkF m 89 #[.val (.int iP), .val (.int iQ), .val (.int iR), .val (.int iX), .val (.int iY), .val (.int (1 : Int32)), .val (.int qd), .val (.int qa), .val (.ref b23), .val (.double (4608083138725491507 : UInt64)), .second, .unset, .unset, .unset, .unset, .unset, .unset, .unset, .unset] [(.int qa), (.ref b23)]))
    obtain ⟨cq26, kq26, q26a, q26b, q26c⟩ := isOf hZ e25 f24_0
    obtain ⟨_, _, ⟨T26, L26, k26, n26⟩, -, X26, ⟨Lc26, hQ26, l26, y26, z26⟩, st26⟩ := X25.virtualBack hx (y := (⟨"com/example/kull/kull/core/search/Bm25", "lengthNorm", "(I)D"⟩ : MethodName)) (z := (⟨"com/example/kull/kull/core/search/Bm25", "lengthNorm", "(I)D"⟩ : MethodName)) hown (mvT hZ hw15) (mvT hZ hw16) (notFace_of_selects (args := #[]) (mvT hZ hw18)) (mvT hZ hw18) (mvT hZ hw17) (by decide) (backOf (W := 0) (rmLn l Z a0 hw []  b23 qa ((FP.ddiv (FP.l2d ((qd.toInt64) * (qa.toInt64))) (FP.i2d qd))) T24.heap n0 O24 f24_1 (Fl.ln_val _ jnv jnp).1 (Fl.ln_val _ jnv jnp).2.1 (Fl.ln_val _ jnv jnp).2.2.1 (Fl.ln_val _ jnv jnp).2.2.2.1) hZ hw19 hw3 (by decide) (by decide)) q26a q26c (g := (mkF m 89 #[.val (.int iP), .val (.int iQ), .val (.int iR), .val (.int iX), .val (.int iY), .val (.int (1 : Int32)), .val (.int qd), .val (.int qa), .val (.ref b23), .val (.double (4608083138725491507 : UInt64)), .second, .unset, .unset, .unset, .unset, .unset, .unset, .unset, .unset] [(.int qa), (.ref b23)])) rfl (by rw [hml]; rfl) (Steps.refl _) (argsL := [(.int qa)]) (rest := []) (lenOf pd_1 rfl) rfl (by show 2 * 0 + _ ≤ _; exact Nat.le_of_eq rfl) (hb hby at_89) (fun _ _ => ⟨rfl, e25, (by decide : 1 + 0 ≤ _), (by decide : 2 + 0 ≤ _)⟩)
    dsimp only [Pt.U, Pt.locs, Pt.cells, Pt.slots] at X26 l26 y26 z26 st26 hQ26
    subst l26 y26 z26
    obtain ⟨rfl, rfl, e26⟩ := hQ26
    try replace X26 := own_nil X26
    refine Go.by' (fun t k => st26.trans k) ?_
    show Go p.tables e below Pf (T26.setTop (mkF m 92 #[.val (.int iP), .val (.int iQ), .val (.int iR), .val (.int iX), .val (.int iY), .val (.int (1 : Int32)), .val (.int qd), .val (.int qa), .val (.ref b23), .val (.double (4608083138725491507 : UInt64)), .second, .unset, .unset, .unset, .unset, .unset, .unset, .unset, .unset] [(.double (Fl.lnf (FP.ddiv (FP.l2d ((qd.toInt64) * (qa.toInt64))) (FP.i2d qd)) qa))]))
    refine Go.by' (fun t k => (XS.dload X26.here hx rfl (hb hby at_92) rfl (XS.dcmpS X26.here hx rfl (hb hby at_94) rfl rfl (XS.ifNo X26.here hx rfl (hb hby at_95) rfl ((if0 _ _).trans (teq (by rw [Fl.f1 jnv jnp rfl]; decide)).2) (XS.aload X26.here hx rfl (hb hby at_98) rfl rfl (XS.iconst X26.here hx rfl (hb hby at_100) (XS.iload X26.here hx rfl (hb hby at_101) rfl k))))))) ?_
    show Go p.tables e below Pf (T26.setTop (mkF m 103 #[.val (.int iP), .val (.int iQ), .val (.int iR), .val (.int iX), .val (.int iY), .val (.int (1 : Int32)), .val (.int qd), .val (.int qa), .val (.ref b23), .val (.double (4608083138725491507 : UInt64)), .second, .unset, .unset, .unset, .unset, .unset, .unset, .unset, .unset] [(.int qa), (.int (2 : Int32)), (.ref b23)]))
    refine Go.by' (fun t k => (XS.imul X26.here hx rfl (hb hby at_103) rfl k)) ?_
    show Go p.tables e below Pf (T26.setTop (mkF m 104 #[.val (.int iP), .val (.int iQ), .val (.int iR), .val (.int iX), .val (.int iY), .val (.int (1 : Int32)), .val (.int qd), .val (.int qa), .val (.ref b23), .val (.double (4608083138725491507 : UInt64)), .second, .unset, .unset, .unset, .unset, .unset, .unset, .unset, .unset] [(.int ((2 : Int32) * qa)), (.ref b23)]))
    obtain ⟨cq27, kq27, q27a, q27b, q27c⟩ := isOf hZ e26 f24_0
    obtain ⟨_, _, ⟨T27, L27, k27, n27⟩, -, X27, ⟨Lc27, hQ27, l27, y27, z27⟩, st27⟩ := X26.virtualBack hx (y := (⟨"com/example/kull/kull/core/search/Bm25", "lengthNorm", "(I)D"⟩ : MethodName)) (z := (⟨"com/example/kull/kull/core/search/Bm25", "lengthNorm", "(I)D"⟩ : MethodName)) hown (mvT hZ hw15) (mvT hZ hw16) (notFace_of_selects (args := #[]) (mvT hZ hw18)) (mvT hZ hw18) (mvT hZ hw17) (by decide) (backOf (W := 0) (rmLn l Z a0 hw []  b23 (((2 : Int32) * qa)) ((FP.ddiv (FP.l2d ((qd.toInt64) * (qa.toInt64))) (FP.i2d qd))) T24.heap n0 O24 f24_1 (Fl.ln_val _ jnv jnp).1 (Fl.ln_val _ jnv jnp).2.1 (Fl.ln_val _ jnv jnp).2.2.1 (Fl.ln_val _ jnv jnp).2.2.2.1) hZ hw19 hw3 (by decide) (by decide)) q27a q27c (g := (mkF m 104 #[.val (.int iP), .val (.int iQ), .val (.int iR), .val (.int iX), .val (.int iY), .val (.int (1 : Int32)), .val (.int qd), .val (.int qa), .val (.ref b23), .val (.double (4608083138725491507 : UInt64)), .second, .unset, .unset, .unset, .unset, .unset, .unset, .unset, .unset] [(.int ((2 : Int32) * qa)), (.ref b23)])) rfl (by rw [hml]; rfl) (Steps.refl _) (argsL := [(.int ((2 : Int32) * qa))]) (rest := []) (lenOf pd_1 rfl) rfl (by show 2 * 0 + _ ≤ _; exact Nat.le_of_eq rfl) (hb hby at_104) (fun _ _ => ⟨rfl, e26, (by decide : 1 + 0 ≤ _), (by decide : 2 + 0 ≤ _)⟩)
    dsimp only [Pt.U, Pt.locs, Pt.cells, Pt.slots] at X27 l27 y27 z27 st27 hQ27
    subst l27 y27 z27
    obtain ⟨rfl, rfl, e27⟩ := hQ27
    try replace X27 := own_nil X27
    refine Go.by' (fun t k => st27.trans k) ?_
    show Go p.tables e below Pf (T27.setTop (mkF m 107 #[.val (.int iP), .val (.int iQ), .val (.int iR), .val (.int iX), .val (.int iY), .val (.int (1 : Int32)), .val (.int qd), .val (.int qa), .val (.ref b23), .val (.double (4608083138725491507 : UInt64)), .second, .unset, .unset, .unset, .unset, .unset, .unset, .unset, .unset] [(.double (Fl.lnf (FP.ddiv (FP.l2d ((qd.toInt64) * (qa.toInt64))) (FP.i2d qd)) ((2 : Int32) * qa)))]))
    refine Go.by' (fun t k => (XS.dload X27.here hx rfl (hb hby at_107) rfl (X27.ldc2DoubleC hx hown (mvT hZ hw24) (g := (mkF m 109 #[.val (.int iP), .val (.int iQ), .val (.int iR), .val (.int iX), .val (.int iY), .val (.int (1 : Int32)), .val (.int qd), .val (.int qa), .val (.ref b23), .val (.double (4608083138725491507 : UInt64)), .second, .unset, .unset, .unset, .unset, .unset, .unset, .unset, .unset] [(.double (4608083138725491507 : UInt64)), (.double (Fl.lnf (FP.ddiv (FP.l2d ((qd.toInt64) * (qa.toInt64))) (FP.i2d qd)) ((2 : Int32) * qa)))])) rfl (hb hby at_109) t (XS.dmulS X27.here hx rfl (hb hby at_112) rfl Fl.dv_kc7.nn rfl (XS.dcmpS X27.here hx rfl (hb hby at_113) rfl rfl (XS.ifNo X27.here hx rfl (hb hby at_114) rfl ((if0 _ _).trans (teq (by rw [Fl.f2 jnv jnp (own_2a jna)]; decide)).2) (XS.aload X27.here hx rfl (hb hby at_117) rfl rfl k))))))) ?_
    show Go p.tables e below Pf (T27.setTop (mkF m 119 #[.val (.int iP), .val (.int iQ), .val (.int iR), .val (.int iX), .val (.int iY), .val (.int (1 : Int32)), .val (.int qd), .val (.int qa), .val (.ref b23), .val (.double (4608083138725491507 : UInt64)), .second, .unset, .unset, .unset, .unset, .unset, .unset, .unset, .unset] [(.ref b23)]))
    refine Go.by' (fun t k => (XS.iconst X27.here hx rfl (hb hby at_119) (XS.iload X27.here hx rfl (hb hby at_120) rfl (XS.imul X27.here hx rfl (hb hby at_122) rfl k)))) ?_
    show Go p.tables e below Pf (T27.setTop (mkF m 123 #[.val (.int iP), .val (.int iQ), .val (.int iR), .val (.int iX), .val (.int iY), .val (.int (1 : Int32)), .val (.int qd), .val (.int qa), .val (.ref b23), .val (.double (4608083138725491507 : UInt64)), .second, .unset, .unset, .unset, .unset, .unset, .unset, .unset, .unset] [(.int ((3 : Int32) * qa)), (.ref b23)]))
    obtain ⟨cq28, kq28, q28a, q28b, q28c⟩ := isOf hZ e27 f24_0
    obtain ⟨_, _, ⟨T28, L28, k28, n28⟩, -, X28, ⟨Lc28, hQ28, l28, y28, z28⟩, st28⟩ := X27.virtualBack hx (y := (⟨"com/example/kull/kull/core/search/Bm25", "lengthNorm", "(I)D"⟩ : MethodName)) (z := (⟨"com/example/kull/kull/core/search/Bm25", "lengthNorm", "(I)D"⟩ : MethodName)) hown (mvT hZ hw15) (mvT hZ hw16) (notFace_of_selects (args := #[]) (mvT hZ hw18)) (mvT hZ hw18) (mvT hZ hw17) (by decide) (backOf (W := 0) (rmLn l Z a0 hw []  b23 (((3 : Int32) * qa)) ((FP.ddiv (FP.l2d ((qd.toInt64) * (qa.toInt64))) (FP.i2d qd))) T24.heap n0 O24 f24_1 (Fl.ln_val _ jnv jnp).1 (Fl.ln_val _ jnv jnp).2.1 (Fl.ln_val _ jnv jnp).2.2.1 (Fl.ln_val _ jnv jnp).2.2.2.1) hZ hw19 hw3 (by decide) (by decide)) q28a q28c (g := (mkF m 123 #[.val (.int iP), .val (.int iQ), .val (.int iR), .val (.int iX), .val (.int iY), .val (.int (1 : Int32)), .val (.int qd), .val (.int qa), .val (.ref b23), .val (.double (4608083138725491507 : UInt64)), .second, .unset, .unset, .unset, .unset, .unset, .unset, .unset, .unset] [(.int ((3 : Int32) * qa)), (.ref b23)])) rfl (by rw [hml]; rfl) (Steps.refl _) (argsL := [(.int ((3 : Int32) * qa))]) (rest := []) (lenOf pd_1 rfl) rfl (by show 2 * 0 + _ ≤ _; exact Nat.le_of_eq rfl) (hb hby at_123) (fun _ _ => ⟨rfl, e27, (by decide : 1 + 0 ≤ _), (by decide : 2 + 0 ≤ _)⟩)
    dsimp only [Pt.U, Pt.locs, Pt.cells, Pt.slots] at X28 l28 y28 z28 st28 hQ28
    subst l28 y28 z28
    obtain ⟨rfl, rfl, e28⟩ := hQ28
    try replace X28 := own_nil X28
    refine Go.by' (fun t k => st28.trans k) ?_
    show Go p.tables e below Pf (T28.setTop (mkF m 126 #[.val (.int iP), .val (.int iQ), .val (.int iR), .val (.int iX), .val (.int iY), .val (.int (1 : Int32)), .val (.int qd), .val (.int qa), .val (.ref b23), .val (.double (4608083138725491507 : UInt64)), .second, .unset, .unset, .unset, .unset, .unset, .unset, .unset, .unset] [(.double (Fl.lnf (FP.ddiv (FP.l2d ((qd.toInt64) * (qa.toInt64))) (FP.i2d qd)) ((3 : Int32) * qa)))]))
    refine Go.by' (fun t k => (XS.dload X28.here hx rfl (hb hby at_126) rfl (X28.ldc2DoubleC hx hown (mvT hZ hw25) (g := (mkF m 128 #[.val (.int iP), .val (.int iQ), .val (.int iR), .val (.int iX), .val (.int iY), .val (.int (1 : Int32)), .val (.int qd), .val (.int qa), .val (.ref b23), .val (.double (4608083138725491507 : UInt64)), .second, .unset, .unset, .unset, .unset, .unset, .unset, .unset, .unset] [(.double (4608083138725491507 : UInt64)), (.double (Fl.lnf (FP.ddiv (FP.l2d ((qd.toInt64) * (qa.toInt64))) (FP.i2d qd)) ((3 : Int32) * qa)))])) rfl (hb hby at_128) t (XS.dmulS X28.here hx rfl (hb hby at_131) rfl Fl.dv_kc10.nn rfl (XS.dcmpS X28.here hx rfl (hb hby at_132) rfl rfl (XS.ifNo X28.here hx rfl (hb hby at_133) rfl ((if0 _ _).trans (teq (by rw [Fl.f3 jnv jnp (own_3a (by omega))]; decide)).2) (XS.iconst X28.here hx rfl (hb hby at_136) k))))))) ?_
    show Go p.tables e below Pf (T28.setTop (mkF m 137 #[.val (.int iP), .val (.int iQ), .val (.int iR), .val (.int iX), .val (.int iY), .val (.int (1 : Int32)), .val (.int qd), .val (.int qa), .val (.ref b23), .val (.double (4608083138725491507 : UInt64)), .second, .unset, .unset, .unset, .unset, .unset, .unset, .unset, .unset] [(.int (1 : Int32))]))
    refine Go.by' (fun t k => (XS.goto X28.here hx rfl (pc0 := 137) (pc' := 141) rfl (hb hby at_137) (by decide) (by decide) (XS.istore X28.here hx rfl (hb hby at_141) rfl (l' := #[.val (.int iP), .val (.int iQ), .val (.int iR), .val (.int iX), .val (.int iY), .val (.int (1 : Int32)), .val (.int qd), .val (.int qa), .val (.ref b23), .val (.double (4608083138725491507 : UInt64)), .second, .val (.int (1 : Int32)), .unset, .unset, .unset, .unset, .unset, .unset, .unset]) rfl (XS.iloadN X28.here hx rfl (hb hby at_143) rfl (XS.iload X28.here hx rfl (hb hby at_144) rfl k))))) ?_
    show Go p.tables e below Pf (T28.setTop (mkF m 146 #[.val (.int iP), .val (.int iQ), .val (.int iR), .val (.int iX), .val (.int iY), .val (.int (1 : Int32)), .val (.int qd), .val (.int qa), .val (.ref b23), .val (.double (4608083138725491507 : UInt64)), .second, .val (.int (1 : Int32)), .unset, .unset, .unset, .unset, .unset, .unset, .unset] [(.int iY), (.int iX)]))
    obtain ⟨_, _, ⟨T29, L29, k29, n29⟩, -, X29, ⟨Lc29, hQ29, l29, y29, z29⟩, st29⟩ := Jvm.LawKit.callS X28 hx (y := (⟨"java/lang/Math", "min", "(II)I"⟩ : MethodName)) hown (mvT hZ hw26) (mvT hZ hw27) (mvT hZ hw28) (mvT hZ hw29) (by decide) (backOf (W := 0) (rmMin l Z a0 hw []  iX iY T24.heap n0 O24 ) hZ hw29 hw28 (by decide) (by decide)) (g := (mkF m 146 #[.val (.int iP), .val (.int iQ), .val (.int iR), .val (.int iX), .val (.int iY), .val (.int (1 : Int32)), .val (.int qd), .val (.int qa), .val (.ref b23), .val (.double (4608083138725491507 : UInt64)), .second, .val (.int (1 : Int32)), .unset, .unset, .unset, .unset, .unset, .unset, .unset] [(.int iY), (.int iX)])) rfl (by rw [hml]; rfl) (argsL := [(.int iX), (.int iY)]) (rest := []) (lenOf pd_2 rfl) rfl (by show 2 * 0 + _ ≤ _; exact Nat.le_of_eq rfl) (hb hby at_146) (fun _ _ => ⟨rfl, e28, (by decide : 1 + 0 ≤ _), (by decide : 2 + 0 ≤ _)⟩)
    dsimp only [Pt.U, Pt.locs, Pt.cells, Pt.slots] at X29 l29 y29 z29 st29 hQ29
    subst l29 y29 z29
    obtain ⟨r_29, rfl, rfl, e29, r29_0⟩ := hQ29
    try replace X29 := own_nil X29
    refine Go.by' st29 ?_
    show Go p.tables e below Pf (T29.setTop (mkF m 149 #[.val (.int iP), .val (.int iQ), .val (.int iR), .val (.int iX), .val (.int iY), .val (.int (1 : Int32)), .val (.int qd), .val (.int qa), .val (.ref b23), .val (.double (4608083138725491507 : UInt64)), .second, .val (.int (1 : Int32)), .unset, .unset, .unset, .unset, .unset, .unset, .unset] [(.int r_29)]))
    refine Go.by' (fun t k => (XS.istore X29.here hx rfl (hb hby at_149) rfl (l' := #[.val (.int iP), .val (.int iQ), .val (.int iR), .val (.int iX), .val (.int iY), .val (.int (1 : Int32)), .val (.int qd), .val (.int qa), .val (.ref b23), .val (.double (4608083138725491507 : UInt64)), .second, .val (.int (1 : Int32)), .val (.int r_29), .unset, .unset, .unset, .unset, .unset, .unset]) rfl (XS.iloadN X29.here hx rfl (hb hby at_151) rfl (XS.iload X29.here hx rfl (hb hby at_152) rfl k)))) ?_
    show Go p.tables e below Pf (T29.setTop (mkF m 154 #[.val (.int iP), .val (.int iQ), .val (.int iR), .val (.int iX), .val (.int iY), .val (.int (1 : Int32)), .val (.int qd), .val (.int qa), .val (.ref b23), .val (.double (4608083138725491507 : UInt64)), .second, .val (.int (1 : Int32)), .val (.int r_29), .unset, .unset, .unset, .unset, .unset, .unset] [(.int iY), (.int iX)]))
    obtain ⟨_, _, ⟨T30, L30, k30, n30⟩, -, X30, ⟨Lc30, hQ30, l30, y30, z30⟩, st30⟩ := Jvm.LawKit.callS X29 hx (y := (⟨"java/lang/Math", "max", "(II)I"⟩ : MethodName)) hown (mvT hZ hw30) (mvT hZ hw31) (mvT hZ hw28) (mvT hZ hw32) (by decide) (backOf (W := 0) (rmMax l Z a0 hw []  iX iY T24.heap n0 O24 ) hZ hw32 hw28 (by decide) (by decide)) (g := (mkF m 154 #[.val (.int iP), .val (.int iQ), .val (.int iR), .val (.int iX), .val (.int iY), .val (.int (1 : Int32)), .val (.int qd), .val (.int qa), .val (.ref b23), .val (.double (4608083138725491507 : UInt64)), .second, .val (.int (1 : Int32)), .val (.int r_29), .unset, .unset, .unset, .unset, .unset, .unset] [(.int iY), (.int iX)])) rfl (by rw [hml]; rfl) (argsL := [(.int iX), (.int iY)]) (rest := []) (lenOf pd_2 rfl) rfl (by show 2 * 0 + _ ≤ _; exact Nat.le_of_eq rfl) (hb hby at_154) (fun _ _ => ⟨rfl, e29, (by decide : 1 + 0 ≤ _), (by decide : 2 + 0 ≤ _)⟩)
    dsimp only [Pt.U, Pt.locs, Pt.cells, Pt.slots] at X30 l30 y30 z30 st30 hQ30
    subst l30 y30 z30
    obtain ⟨r_30, rfl, rfl, e30, r30_0⟩ := hQ30
    try replace X30 := own_nil X30
    refine Go.by' st30 ?_
    show Go p.tables e below Pf (T30.setTop (mkF m 157 #[.val (.int iP), .val (.int iQ), .val (.int iR), .val (.int iX), .val (.int iY), .val (.int (1 : Int32)), .val (.int qd), .val (.int qa), .val (.ref b23), .val (.double (4608083138725491507 : UInt64)), .second, .val (.int (1 : Int32)), .val (.int r_29), .unset, .unset, .unset, .unset, .unset, .unset] [(.int r_30)]))
    refine Go.by' (fun t k => (XS.istore X30.here hx rfl (hb hby at_157) rfl (l' := #[.val (.int iP), .val (.int iQ), .val (.int iR), .val (.int iX), .val (.int iY), .val (.int (1 : Int32)), .val (.int qd), .val (.int qa), .val (.ref b23), .val (.double (4608083138725491507 : UInt64)), .second, .val (.int (1 : Int32)), .val (.int r_29), .val (.int r_30), .unset, .unset, .unset, .unset, .unset]) rfl (XS.aload X30.here hx rfl (hb hby at_159) rfl rfl (XS.iload X30.here hx rfl (hb hby at_161) rfl k)))) ?_
    show Go p.tables e below Pf (T30.setTop (mkF m 163 #[.val (.int iP), .val (.int iQ), .val (.int iR), .val (.int iX), .val (.int iY), .val (.int (1 : Int32)), .val (.int qd), .val (.int qa), .val (.ref b23), .val (.double (4608083138725491507 : UInt64)), .second, .val (.int (1 : Int32)), .val (.int r_29), .val (.int r_30), .unset, .unset, .unset, .unset, .unset] [(.int r_29), (.ref b23)]))
    obtain ⟨cq31, kq31, q31a, q31b, q31c⟩ := isOf hZ e30 f24_0
    obtain ⟨_, _, ⟨T31, L31, k31, n31⟩, -, X31, ⟨Lc31, hQ31, l31, y31, z31⟩, st31⟩ := X30.virtualBack hx (y := (⟨"com/example/kull/kull/core/search/Bm25", "lengthNorm", "(I)D"⟩ : MethodName)) (z := (⟨"com/example/kull/kull/core/search/Bm25", "lengthNorm", "(I)D"⟩ : MethodName)) hown (mvT hZ hw15) (mvT hZ hw16) (notFace_of_selects (args := #[]) (mvT hZ hw18)) (mvT hZ hw18) (mvT hZ hw17) (by decide) (backOf (W := 0) (rmLn l Z a0 hw []  b23 r_29 ((FP.ddiv (FP.l2d ((qd.toInt64) * (qa.toInt64))) (FP.i2d qd))) T24.heap n0 O24 f24_1 (Fl.ln_val _ jnv jnp).1 (Fl.ln_val _ jnv jnp).2.1 (Fl.ln_val _ jnv jnp).2.2.1 (Fl.ln_val _ jnv jnp).2.2.2.1) hZ hw19 hw3 (by decide) (by decide)) q31a q31c (g := (mkF m 163 #[.val (.int iP), .val (.int iQ), .val (.int iR), .val (.int iX), .val (.int iY), .val (.int (1 : Int32)), .val (.int qd), .val (.int qa), .val (.ref b23), .val (.double (4608083138725491507 : UInt64)), .second, .val (.int (1 : Int32)), .val (.int r_29), .val (.int r_30), .unset, .unset, .unset, .unset, .unset] [(.int r_29), (.ref b23)])) rfl (by rw [hml]; rfl) (Steps.refl _) (argsL := [(.int r_29)]) (rest := []) (lenOf pd_1 rfl) rfl (by show 2 * 0 + _ ≤ _; exact Nat.le_of_eq rfl) (hb hby at_163) (fun _ _ => ⟨rfl, e30, (by decide : 1 + 0 ≤ _), (by decide : 2 + 0 ≤ _)⟩)
    dsimp only [Pt.U, Pt.locs, Pt.cells, Pt.slots] at X31 l31 y31 z31 st31 hQ31
    subst l31 y31 z31
    obtain ⟨rfl, rfl, e31⟩ := hQ31
    try replace X31 := own_nil X31
    refine Go.by' (fun t k => st31.trans k) ?_
    show Go p.tables e below Pf (T31.setTop (mkF m 166 #[.val (.int iP), .val (.int iQ), .val (.int iR), .val (.int iX), .val (.int iY), .val (.int (1 : Int32)), .val (.int qd), .val (.int qa), .val (.ref b23), .val (.double (4608083138725491507 : UInt64)), .second, .val (.int (1 : Int32)), .val (.int r_29), .val (.int r_30), .unset, .unset, .unset, .unset, .unset] [(.double (Fl.lnf (FP.ddiv (FP.l2d ((qd.toInt64) * (qa.toInt64))) (FP.i2d qd)) r_29))]))
    refine Go.by' (fun t k => (XS.aload X31.here hx rfl (hb hby at_166) rfl rfl (XS.iload X31.here hx rfl (hb hby at_168) rfl k))) ?_
    show Go p.tables e below Pf (T31.setTop (mkF m 170 #[.val (.int iP), .val (.int iQ), .val (.int iR), .val (.int iX), .val (.int iY), .val (.int (1 : Int32)), .val (.int qd), .val (.int qa), .val (.ref b23), .val (.double (4608083138725491507 : UInt64)), .second, .val (.int (1 : Int32)), .val (.int r_29), .val (.int r_30), .unset, .unset, .unset, .unset, .unset] [(.int r_30), (.ref b23), (.double (Fl.lnf (FP.ddiv (FP.l2d ((qd.toInt64) * (qa.toInt64))) (FP.i2d qd)) r_29))]))
    obtain ⟨cq32, kq32, q32a, q32b, q32c⟩ := isOf hZ e31 f24_0
    obtain ⟨_, _, ⟨T32, L32, k32, n32⟩, -, X32, ⟨Lc32, hQ32, l32, y32, z32⟩, st32⟩ := X31.virtualBack hx (y := (⟨"com/example/kull/kull/core/search/Bm25", "lengthNorm", "(I)D"⟩ : MethodName)) (z := (⟨"com/example/kull/kull/core/search/Bm25", "lengthNorm", "(I)D"⟩ : MethodName)) hown (mvT hZ hw15) (mvT hZ hw16) (notFace_of_selects (args := #[]) (mvT hZ hw18)) (mvT hZ hw18) (mvT hZ hw17) (by decide) (backOf (W := 2) (rmLn l Z a0 hw []  b23 r_30 ((FP.ddiv (FP.l2d ((qd.toInt64) * (qa.toInt64))) (FP.i2d qd))) T24.heap n0 O24 f24_1 (Fl.ln_val _ jnv jnp).1 (Fl.ln_val _ jnv jnp).2.1 (Fl.ln_val _ jnv jnp).2.2.1 (Fl.ln_val _ jnv jnp).2.2.2.1) hZ hw19 hw3 (by decide) (by decide)) q32a q32c (g := (mkF m 170 #[.val (.int iP), .val (.int iQ), .val (.int iR), .val (.int iX), .val (.int iY), .val (.int (1 : Int32)), .val (.int qd), .val (.int qa), .val (.ref b23), .val (.double (4608083138725491507 : UInt64)), .second, .val (.int (1 : Int32)), .val (.int r_29), .val (.int r_30), .unset, .unset, .unset, .unset, .unset] [(.int r_30), (.ref b23), (.double (Fl.lnf (FP.ddiv (FP.l2d ((qd.toInt64) * (qa.toInt64))) (FP.i2d qd)) r_29))])) rfl (by rw [hml]; rfl) (Steps.refl _) (argsL := [(.int r_30)]) (rest := [(.double (Fl.lnf (FP.ddiv (FP.l2d ((qd.toInt64) * (qa.toInt64))) (FP.i2d qd)) r_29))]) (lenOf pd_1 rfl) rfl (by show 2 * 0 + _ ≤ _; exact Nat.le_of_eq rfl) (hb hby at_170) (fun _ _ => ⟨rfl, e31, (by decide : 1 + 0 ≤ _), (by decide : 2 + 0 ≤ _)⟩)
    dsimp only [Pt.U, Pt.locs, Pt.cells, Pt.slots] at X32 l32 y32 z32 st32 hQ32
    subst l32 y32 z32
    obtain ⟨rfl, rfl, e32⟩ := hQ32
    try replace X32 := own_nil X32
    refine Go.by' (fun t k => st32.trans k) ?_
    show Go p.tables e below Pf (T32.setTop (mkF m 173 #[.val (.int iP), .val (.int iQ), .val (.int iR), .val (.int iX), .val (.int iY), .val (.int (1 : Int32)), .val (.int qd), .val (.int qa), .val (.ref b23), .val (.double (4608083138725491507 : UInt64)), .second, .val (.int (1 : Int32)), .val (.int r_29), .val (.int r_30), .unset, .unset, .unset, .unset, .unset] [(.double (Fl.lnf (FP.ddiv (FP.l2d ((qd.toInt64) * (qa.toInt64))) (FP.i2d qd)) r_30)), (.double (Fl.lnf (FP.ddiv (FP.l2d ((qd.toInt64) * (qa.toInt64))) (FP.i2d qd)) r_29))]))
    refine Go.by' (fun t k => (XS.dcmpS X32.here hx rfl (hb hby at_173) rfl rfl (XS.ifNo X32.here hx rfl (hb hby at_174) rfl ((if0 _ _).trans (flt (by rcases Fl.f4 jnv jnp (own_le2 r29_0 r30_0) with z | z <;> (rw [z]; decide))).2.2.1) (XS.iconst X32.here hx rfl (hb hby at_177) (XS.goto X32.here hx rfl (pc0 := 178) (pc' := 182) rfl (hb hby at_178) (by decide) (by decide) (XS.istore X32.here hx rfl (hb hby at_182) rfl (l' := #[.val (.int iP), .val (.int iQ), .val (.int iR), .val (.int iX), .val (.int iY), .val (.int (1 : Int32)), .val (.int qd), .val (.int qa), .val (.ref b23), .val (.double (4608083138725491507 : UInt64)), .second, .val (.int (1 : Int32)), .val (.int r_29), .val (.int r_30), .val (.int (1 : Int32)), .unset, .unset, .unset, .unset]) rfl (XS.iconst X32.here hx rfl (hb hby at_184) k))))))) ?_
    show Go p.tables e below Pf (T32.setTop (mkF m 185 #[.val (.int iP), .val (.int iQ), .val (.int iR), .val (.int iX), .val (.int iY), .val (.int (1 : Int32)), .val (.int qd), .val (.int qa), .val (.ref b23), .val (.double (4608083138725491507 : UInt64)), .second, .val (.int (1 : Int32)), .val (.int r_29), .val (.int r_30), .val (.int (1 : Int32)), .unset, .unset, .unset, .unset] [(.int (1 : Int32))]))
    refine Go.by' (fun t k => (XS.istore X32.here hx rfl (hb hby at_185) rfl (l' := #[.val (.int iP), .val (.int iQ), .val (.int iR), .val (.int iX), .val (.int iY), .val (.int (1 : Int32)), .val (.int qd), .val (.int qa), .val (.ref b23), .val (.double (4608083138725491507 : UInt64)), .second, .val (.int (1 : Int32)), .val (.int r_29), .val (.int r_30), .val (.int (1 : Int32)), .val (.int (1 : Int32)), .unset, .unset, .unset]) rfl (XS.iload X32.here hx rfl (hb hby at_187) rfl (XS.ifNo X32.here hx rfl (hb hby at_189) rfl ((if0 _ _).trans (feq (by decide)).1) (XS.iloadN X32.here hx rfl (hb hby at_192) rfl (X32.ldcInt hx hown (mvT hZ hw33) (g := (mkF m 193 #[.val (.int iP), .val (.int iQ), .val (.int iR), .val (.int iX), .val (.int iY), .val (.int (1 : Int32)), .val (.int qd), .val (.int qa), .val (.ref b23), .val (.double (4608083138725491507 : UInt64)), .second, .val (.int (1 : Int32)), .val (.int r_29), .val (.int r_30), .val (.int (1 : Int32)), .val (.int (1 : Int32)), .unset, .unset, .unset] [(.int iR)])) rfl (hb hby at_193) t k)))))) ?_
    show Go p.tables e below Pf (T32.setTop (mkF m 195 #[.val (.int iP), .val (.int iQ), .val (.int iR), .val (.int iX), .val (.int iY), .val (.int (1 : Int32)), .val (.int qd), .val (.int qa), .val (.ref b23), .val (.double (4608083138725491507 : UInt64)), .second, .val (.int (1 : Int32)), .val (.int r_29), .val (.int r_30), .val (.int (1 : Int32)), .val (.int (1 : Int32)), .unset, .unset, .unset] [(.int (1048576 : Int32)), (.int iR)]))
    refine Go.by' (fun t k => iremM (g := (mkF m 195 #[.val (.int iP), .val (.int iQ), .val (.int iR), .val (.int iX), .val (.int iY), .val (.int (1 : Int32)), .val (.int qd), .val (.int qa), .val (.ref b23), .val (.double (4608083138725491507 : UInt64)), .second, .val (.int (1 : Int32)), .val (.int r_29), .val (.int r_30), .val (.int (1 : Int32)), .val (.int (1 : Int32)), .unset, .unset, .unset] [(.int (1048576 : Int32)), (.int iR)])) X32 hx rfl (hb hby at_195) rfl (by decide) k) ?_
    show Go p.tables e below Pf (T32.setTop (mkF m 196 #[.val (.int iP), .val (.int iQ), .val (.int iR), .val (.int iX), .val (.int iY), .val (.int (1 : Int32)), .val (.int qd), .val (.int qa), .val (.ref b23), .val (.double (4608083138725491507 : UInt64)), .second, .val (.int (1 : Int32)), .val (.int r_29), .val (.int r_30), .val (.int (1 : Int32)), .val (.int (1 : Int32)), .unset, .unset, .unset] [(.int (iR % (1048576 : Int32)))]))
    refine Go.by' (fun t k => (XS.istore X32.here hx rfl (hb hby at_196) rfl (l' := #[.val (.int iP), .val (.int iQ), .val (.int iR), .val (.int iX), .val (.int iY), .val (.int (1 : Int32)), .val (.int qd), .val (.int qa), .val (.ref b23), .val (.double (4608083138725491507 : UInt64)), .second, .val (.int (1 : Int32)), .val (.int r_29), .val (.int r_30), .val (.int (1 : Int32)), .val (.int (1 : Int32)), .val (.int (iR % (1048576 : Int32))), .unset, .unset]) rfl (XS.iload X32.here hx rfl (hb hby at_198) rfl (XS.iconst X32.here hx rfl (hb hby at_200) (XS.iload X32.here hx rfl (hb hby at_201) rfl (XS.imul X32.here hx rfl (hb hby at_203) rfl (XS.iadd X32.here hx rfl (hb hby at_204) rfl k))))))) ?_
    show Go p.tables e below Pf (T32.setTop (mkF m 205 #[.val (.int iP), .val (.int iQ), .val (.int iR), .val (.int iX), .val (.int iY), .val (.int (1 : Int32)), .val (.int qd), .val (.int qa), .val (.ref b23), .val (.double (4608083138725491507 : UInt64)), .second, .val (.int (1 : Int32)), .val (.int r_29), .val (.int r_30), .val (.int (1 : Int32)), .val (.int (1 : Int32)), .val (.int (iR % (1048576 : Int32))), .unset, .unset] [(.int (qa + ((3 : Int32) * (iR % (1048576 : Int32)))))]))
    refine Go.by' (fun t k => (XS.i2dS X32.here hx rfl (hb hby at_205) rfl rfl (X32.ldc2DoubleC hx hown (mvT hZ hw34) (g := (mkF m 206 #[.val (.int iP), .val (.int iQ), .val (.int iR), .val (.int iX), .val (.int iY), .val (.int (1 : Int32)), .val (.int qd), .val (.int qa), .val (.ref b23), .val (.double (4608083138725491507 : UInt64)), .second, .val (.int (1 : Int32)), .val (.int r_29), .val (.int r_30), .val (.int (1 : Int32)), .val (.int (1 : Int32)), .val (.int (iR % (1048576 : Int32))), .unset, .unset] [(.double (FP.i2d (qa + ((3 : Int32) * (iR % (1048576 : Int32))))))])) rfl (hb hby at_206) t (XS.iload X32.here hx rfl (hb hby at_209) rfl (XS.i2dS X32.here hx rfl (hb hby at_211) rfl rfl (XS.dmulS X32.here hx rfl (hb hby at_212) rfl (Fl.f5 jnk jnq jnv (own_r iR) (own_y jna (own_r iR))).1 rfl (XS.ddivS X32.here hx rfl (hb hby at_213) rfl (Fl.f5 jnk jnq jnv (own_r iR) (own_y jna (own_r iR))).2.1 rfl k))))))) ?_
    show Go p.tables e below Pf (T32.setTop (mkF m 214 #[.val (.int iP), .val (.int iQ), .val (.int iR), .val (.int iX), .val (.int iY), .val (.int (1 : Int32)), .val (.int qd), .val (.int qa), .val (.ref b23), .val (.double (4608083138725491507 : UInt64)), .second, .val (.int (1 : Int32)), .val (.int r_29), .val (.int r_30), .val (.int (1 : Int32)), .val (.int (1 : Int32)), .val (.int (iR % (1048576 : Int32))), .unset, .unset] [(.double (FP.ddiv (FP.i2d (qa + ((3 : Int32) * (iR % (1048576 : Int32))))) (FP.dmul (4616189618054758400 : UInt64) (FP.i2d qa))))]))
    refine Go.by' (fun t k => (XS.dstore X32.here hx rfl (hb hby at_214) rfl (l' := #[.val (.int iP), .val (.int iQ), .val (.int iR), .val (.int iX), .val (.int iY), .val (.int (1 : Int32)), .val (.int qd), .val (.int qa), .val (.ref b23), .val (.double (4608083138725491507 : UInt64)), .second, .val (.int (1 : Int32)), .val (.int r_29), .val (.int r_30), .val (.int (1 : Int32)), .val (.int (1 : Int32)), .val (.int (iR % (1048576 : Int32))), .val (.double (FP.ddiv (FP.i2d (qa + ((3 : Int32) * (iR % (1048576 : Int32))))) (FP.dmul (4616189618054758400 : UInt64) (FP.i2d qa)))), .second]) rfl (XS.aload X32.here hx rfl (hb hby at_216) rfl rfl (XS.iload X32.here hx rfl (hb hby at_218) rfl k)))) ?_
    show Go p.tables e below Pf (T32.setTop (mkF m 220 #[.val (.int iP), .val (.int iQ), .val (.int iR), .val (.int iX), .val (.int iY), .val (.int (1 : Int32)), .val (.int qd), .val (.int qa), .val (.ref b23), .val (.double (4608083138725491507 : UInt64)), .second, .val (.int (1 : Int32)), .val (.int r_29), .val (.int r_30), .val (.int (1 : Int32)), .val (.int (1 : Int32)), .val (.int (iR % (1048576 : Int32))), .val (.double (FP.ddiv (FP.i2d (qa + ((3 : Int32) * (iR % (1048576 : Int32))))) (FP.dmul (4616189618054758400 : UInt64) (FP.i2d qa)))), .second] [(.int (iR % (1048576 : Int32))), (.ref b23)]))
    obtain ⟨cq33, kq33, q33a, q33b, q33c⟩ := isOf hZ e32 f24_0
    obtain ⟨_, _, ⟨T33, L33, k33, n33⟩, -, X33, ⟨Lc33, hQ33, l33, y33, z33⟩, st33⟩ := X32.virtualBack hx (y := (⟨"com/example/kull/kull/core/search/Bm25", "lengthNorm", "(I)D"⟩ : MethodName)) (z := (⟨"com/example/kull/kull/core/search/Bm25", "lengthNorm", "(I)D"⟩ : MethodName)) hown (mvT hZ hw15) (mvT hZ hw16) (notFace_of_selects (args := #[]) (mvT hZ hw18)) (mvT hZ hw18) (mvT hZ hw17) (by decide) (backOf (W := 0) (rmLn l Z a0 hw []  b23 ((iR % (1048576 : Int32))) ((FP.ddiv (FP.l2d ((qd.toInt64) * (qa.toInt64))) (FP.i2d qd))) T24.heap n0 O24 f24_1 (Fl.ln_val _ jnv jnp).1 (Fl.ln_val _ jnv jnp).2.1 (Fl.ln_val _ jnv jnp).2.2.1 (Fl.ln_val _ jnv jnp).2.2.2.1) hZ hw19 hw3 (by decide) (by decide)) q33a q33c (g := (mkF m 220 #[.val (.int iP), .val (.int iQ), .val (.int iR), .val (.int iX), .val (.int iY), .val (.int (1 : Int32)), .val (.int qd), .val (.int qa), .val (.ref b23), .val (.double (4608083138725491507 : UInt64)), .second, .val (.int (1 : Int32)), .val (.int r_29), .val (.int r_30), .val (.int (1 : Int32)), .val (.int (1 : Int32)), .val (.int (iR % (1048576 : Int32))), .val (.double (FP.ddiv (FP.i2d (qa + ((3 : Int32) * (iR % (1048576 : Int32))))) (FP.dmul (4616189618054758400 : UInt64) (FP.i2d qa)))), .second] [(.int (iR % (1048576 : Int32))), (.ref b23)])) rfl (by rw [hml]; rfl) (Steps.refl _) (argsL := [(.int (iR % (1048576 : Int32)))]) (rest := []) (lenOf pd_1 rfl) rfl (by show 2 * 0 + _ ≤ _; exact Nat.le_of_eq rfl) (hb hby at_220) (fun _ _ => ⟨rfl, e32, (by decide : 1 + 0 ≤ _), (by decide : 2 + 0 ≤ _)⟩)
    dsimp only [Pt.U, Pt.locs, Pt.cells, Pt.slots] at X33 l33 y33 z33 st33 hQ33
    subst l33 y33 z33
    obtain ⟨rfl, rfl, e33⟩ := hQ33
    try replace X33 := own_nil X33
    refine Go.by' (fun t k => st33.trans k) ?_
    show Go p.tables e below Pf (T33.setTop (mkF m 223 #[.val (.int iP), .val (.int iQ), .val (.int iR), .val (.int iX), .val (.int iY), .val (.int (1 : Int32)), .val (.int qd), .val (.int qa), .val (.ref b23), .val (.double (4608083138725491507 : UInt64)), .second, .val (.int (1 : Int32)), .val (.int r_29), .val (.int r_30), .val (.int (1 : Int32)), .val (.int (1 : Int32)), .val (.int (iR % (1048576 : Int32))), .val (.double (FP.ddiv (FP.i2d (qa + ((3 : Int32) * (iR % (1048576 : Int32))))) (FP.dmul (4616189618054758400 : UInt64) (FP.i2d qa)))), .second] [(.double (Fl.lnf (FP.ddiv (FP.l2d ((qd.toInt64) * (qa.toInt64))) (FP.i2d qd)) (iR % (1048576 : Int32))))]))
    refine Go.by' (fun t k => (XS.dload X33.here hx rfl (hb hby at_223) rfl (XS.dload X33.here hx rfl (hb hby at_225) rfl (XS.dmulS X33.here hx rfl (hb hby at_227) rfl (Fl.f5 jnk jnq jnv (own_r iR) (own_y jna (own_r iR))).2.2.1 rfl (XS.dcmpS X33.here hx rfl (hb hby at_228) rfl rfl (XS.ifNo X33.here hx rfl (hb hby at_229) rfl ((if0 _ _).trans (teq (by rw [(Fl.f5 jnk jnq jnv (own_r iR) (own_y jna (own_r iR))).2.2.2]; decide)).2) (XS.iconst X33.here hx rfl (hb hby at_232) k))))))) ?_
    show Go p.tables e below Pf (T33.setTop (mkF m 233 #[.val (.int iP), .val (.int iQ), .val (.int iR), .val (.int iX), .val (.int iY), .val (.int (1 : Int32)), .val (.int qd), .val (.int qa), .val (.ref b23), .val (.double (4608083138725491507 : UInt64)), .second, .val (.int (1 : Int32)), .val (.int r_29), .val (.int r_30), .val (.int (1 : Int32)), .val (.int (1 : Int32)), .val (.int (iR % (1048576 : Int32))), .val (.double (FP.ddiv (FP.i2d (qa + ((3 : Int32) * (iR % (1048576 : Int32))))) (FP.dmul (4616189618054758400 : UInt64) (FP.i2d qa)))), .second] [(.int (1 : Int32))]))
    refine Go.by' (fun t k => (XS.goto X33.here hx rfl (pc0 := 233) (pc' := 237) rfl (hb hby at_233) (by decide) (by decide) (XS.istore X33.here hx rfl (hb hby at_237) rfl (l' := #[.val (.int iP), .val (.int iQ), .val (.int iR), .val (.int iX), .val (.int iY), .val (.int (1 : Int32)), .val (.int qd), .val (.int qa), .val (.ref b23), .val (.double (4608083138725491507 : UInt64)), .second, .val (.int (1 : Int32)), .val (.int r_29), .val (.int r_30), .val (.int (1 : Int32)), .val (.int (1 : Int32)), .val (.int (iR % (1048576 : Int32))), .val (.double (FP.ddiv (FP.i2d (qa + ((3 : Int32) * (iR % (1048576 : Int32))))) (FP.dmul (4616189618054758400 : UInt64) (FP.i2d qa)))), .second]) rfl (XS.iload X33.here hx rfl (hb hby at_239) rfl (XS.ifNo X33.here hx rfl (hb hby at_241) rfl ((if0 _ _).trans (feq (by decide)).1) (XS.iload X33.here hx rfl (hb hby at_244) rfl (XS.ifNo X33.here hx rfl (hb hby at_246) rfl ((if0 _ _).trans (feq (by decide)).1) k))))))) ?_
    show Go p.tables e below Pf (T33.setTop (mkF m 249 #[.val (.int iP), .val (.int iQ), .val (.int iR), .val (.int iX), .val (.int iY), .val (.int (1 : Int32)), .val (.int qd), .val (.int qa), .val (.ref b23), .val (.double (4608083138725491507 : UInt64)), .second, .val (.int (1 : Int32)), .val (.int r_29), .val (.int r_30), .val (.int (1 : Int32)), .val (.int (1 : Int32)), .val (.int (iR % (1048576 : Int32))), .val (.double (FP.ddiv (FP.i2d (qa + ((3 : Int32) * (iR % (1048576 : Int32))))) (FP.dmul (4616189618054758400 : UInt64) (FP.i2d qa)))), .second] []))
    refine Go.by' (fun t k => (XS.iload X33.here hx rfl (hb hby at_249) rfl (XS.ifNo X33.here hx rfl (hb hby at_251) rfl ((if0 _ _).trans (feq (by decide)).1) (XS.iconst X33.here hx rfl (hb hby at_254) (XS.goto X33.here hx rfl (pc0 := 255) (pc' := 259) rfl (hb hby at_255) (by decide) (by decide) k))))) ?_
    show Go p.tables e below Pf (T33.setTop (mkF m 259 #[.val (.int iP), .val (.int iQ), .val (.int iR), .val (.int iX), .val (.int iY), .val (.int (1 : Int32)), .val (.int qd), .val (.int qa), .val (.ref b23), .val (.double (4608083138725491507 : UInt64)), .second, .val (.int (1 : Int32)), .val (.int r_29), .val (.int r_30), .val (.int (1 : Int32)), .val (.int (1 : Int32)), .val (.int (iR % (1048576 : Int32))), .val (.double (FP.ddiv (FP.i2d (qa + ((3 : Int32) * (iR % (1048576 : Int32))))) (FP.dmul (4616189618054758400 : UInt64) (FP.i2d qa)))), .second] [(.int (1 : Int32))]))
    rw [hPf]
    exact Go.retI' X33 hx hret hlk (by simp) rfl (hb hby at_259) (by decide) (by decide) ⟨rfl, N24, (by rw [e33]; exact KC24)⟩
set_option maxRecDepth 65536 in
set_option maxHeartbeats 40000000 in
theorem comes_1 {Post : Tables → Env → Array Value → State → Outcome → State → Prop} (hpost : ∀ tb e args s v u, (limb_1_1.after args s (.returned v) u = true ∧ limb_1_2.after args s (.returned v) u = true ∧ True) → FrameEnd s (.returned v) u (Jvm.fieldLocs frame_1_writes args s ++ Jvm.arrayLocs frame_1_arrays args s ++ Jvm.staticLocs frame_1_statics s) 16 128 → Post tb e args s (.returned v) u) :
    ArmFor flags0 classFile x code maxLocals ret World_1 tables_1 room_1 Calls_1 rest_1 Pre_1 Post := by
  intro l hfl _ _ p e ha hc hk s m args below hf hA hF happ hP
  obtain ⟨hcalls, hrest, hpre⟩ := hP
  obtain ⟨-, -, -, hnamed, -, -, -, hat⟩ := (Spec.applies_iff hf).mp happ
  obtain ⟨hg, hn⟩ := and_e (Cond.before_iff.mp (show (Jvm.Cond.and given_1 narrow_1).before args s = true from hpre))
  obtain ⟨ga1, gb1⟩ := and_e hg
  obtain ⟨ga2, gb2⟩ := and_e gb1
  obtain ⟨ga3, gb3⟩ := and_e gb2
  obtain ⟨ga4, gb4⟩ := and_e gb3
  obtain ⟨ga5, gb5⟩ := and_e gb4
  obtain ⟨w0, w1, w2, w3, w4, rfl⟩ : ∃ w0 w1 w2 w3 w4 : Value, args = #[w0, w1, w2, w3, w4] := by
    have hs : args.size = 5 := by simpa [Cond.value, given_1] using ga1
    obtain ⟨L⟩ := args
    match L, hs with
    | [w0, w1, w2, w3, w4], _ => exact ⟨w0, w1, w2, w3, w4, rfl⟩
  have hw := fun d (hd : d ∈ tables_1) => atoms_spec (ws := Jvm.Cond.code x code maxLocals ret :: tables_1) hat d (List.mem_cons_of_mem _ hd)
  have hfit : Fit s := fun {y c} hc i hi => by
    obtain ⟨ha, rfl⟩ := Array.getElem?_eq_some_iff.mp hc
    have q := List.all_eq_true.mp ((Array.all_eq_true_iff_forall_mem.mp hF) _ (Array.getElem_mem ha)) i (List.mem_range.mpr hi)
    simpa [Array.getElem?_eq_getElem hi] using q
  obtain ⟨iP, ei0⟩ := is_v ga2
  obtain rfl : w0 = (.int iP) := Option.some.inj ei0
  obtain ⟨iQ, ei1⟩ := is_v ga3
  obtain rfl : w1 = (.int iQ) := Option.some.inj ei1
  obtain ⟨iR, ei2⟩ := is_v ga4
  obtain rfl : w2 = (.int iR) := Option.some.inj ei2
  obtain ⟨iX, ei3⟩ := is_v ga5
  obtain rfl : w3 = (.int iX) := Option.some.inj ei3
  obtain ⟨iY, ei4⟩ := is_v gb5
  obtain rfl : w4 = (.int iY) := Option.some.inj ei4
  obtain ⟨n, o, h1, h2, h3, _, L, rfl, hQ, hq⟩ := rm0 l s _ hw tables_1  iP iQ iR iX iY s.heap s.heap.size (Old.start s)  p e ha hc hk s m _ below hf ((Spec.applies_iff_loose hf).mp happ).1 ⟨rfl, State.Warmed39.refl s, rfl⟩ trivial
  obtain ⟨rfl, N, -⟩ := hQ
  refine ⟨n, _, h1, h2, h3, hpost _ _ _ _ _ _ ⟨Cond.after_iff.mpr rfl, Cond.after_iff.mpr (eq_i res_at (Term.int_eval (1)) rfl), trivial⟩ ⟨hq.1, hq.2.1, (hq.2.2.sift fun y hy => Or.inr (N y hy)).mono (by decide) (by decide)⟩⟩
theorem main_1_1 : Claimed_1_1 := comes_1 fun _ _ _ _ _ _ h hF => ⟨h.1, hF⟩
theorem main_1_2 : Claimed_1_2 := comes_1 fun _ _ _ _ _ _ h hF => ⟨h.2.1, hF⟩
end Jvm.Pilot.@@N@@
namespace Jvm.Pilot.@@N@@
open Jvm Jvm.ClassFile Sem Op Lib Jvm.Free Jvm.Stand Jvm.Pilot.@@N@@.Jvm.D
/-! MADE BY PROGRAM (witnessworld.py) out of the Statement's table words and the real class files: 10 classes; the members and pool entries that the words name. The judged class is class 1, her method 1. -/
namespace start1
open Jvm.ClassFile
def u (s : String) : CpInfo := .utf8 (stringToUtf16 s)
/-- a pool by its gaps: so many unusable entries, then the entry; so many at the end -/
def gap : Nat → List CpInfo → List CpInfo
  | 0, r => r
  | n + 1, r => .unusable :: gap n r
def poolList (es : List (Nat × CpInfo)) (last : Nat) : List CpInfo := es.foldr (fun e r => gap e.1 (e.2 :: r)) (gap last [])
def pool (es : List (Nat × CpInfo)) (last : Nat) : Array CpInfo := ⟨poolList es last⟩
def fileOf (pool : Array CpInfo) (this : Nat) (attrs : Array Attribute := #[]) (ms : Array MethodInfo := #[]) (fl : Nat := 33) (sup : Nat := 0) (ifs : Array Nat := #[]) (fds : Array FieldInfo := #[]) : ClassFile where
  minorVersion := 0
  majorVersion := 65
  constantPool := pool
  accessFlags := fl
  thisClass := this
  superClass := sup
  interfaces := ifs
  fields := fds
  methods := ms
  attributes := attrs
def plain (name : String) (sup : Option ClassId) : Class where
  name := name
  kind := .ordinary
  loader := none
  accessFlags := 33
  super := sup
  interfaces := #[]
  cf := none
  fields := #[]
  methods := #[]
  instanceTypes := #[]
  staticTypes := #[]
  resolved := #[]
  callSites := []
  init := .initialized
  statics := none
  mirror := none

def pool0 : Array CpInfo := pool [(5, u "<init>"), (0, u "()V"), (1, .class_ 10), (1, u "java/lang/Object")] 113

def k0c0 : Code := { maxStack := 0, maxLocals := 1, code := object_method_1_code, exceptionTable := #[], attributes := #[] }
def k0m0 : Method := { name := "<init>", desc := "()V", sig := { parameters := [], returnType := none }, accessFlags := 1, code := some k0c0 }
/-- java/lang/Object -/
def k0 : Class := { plain "java/lang/Object" none with
  accessFlags := 33
  interfaces := #[]
  cf := some (fileOf pool0 8 #[] #[{ accessFlags := 1, nameIndex := 5, descriptorIndex := 6, attributes := #[] }] 33 0 #[] #[])
  fields := #[]
  methods := #[k0m0]
  instanceTypes := #[]
  staticTypes := #[]
  resolved := Array.replicate 124 none
  statics := none }

def pool1 : Array CpInfo := pool [(2, .class_ 4), (1, u "java/lang/Object"), (0, u "<init>"), (0, u "()V"), (0, .integer 1048575), (0, .class_ 9), (0, u "com/example/kull/kull/core/search/Bm25"), (0, .methodref 8 11), (0, .nameAndType 5 12), (0, u "(IJ)V"), (0, .double 4608083138725491507), (1, .methodref 8 16), (0, .nameAndType 17 18), (0, u "lengthNorm"), (0, u "(I)D"), (0, .double 4598175219545276416), (1, .double 4610560118520545280), (1, .double 4612811918334230528), (1, .methodref 26 27), (0, .class_ 28), (0, .nameAndType 29 30), (0, u "java/lang/Math"), (0, u "min"), (0, u "(II)I"), (0, .methodref 26 32), (0, .nameAndType 33 30), (0, u "max"), (0, .integer 1048576), (0, .double 4616189618054758400), (1, .class_ 38), (0, u "com/example/kull/kull/core/search/Bm25LengthNormPinLaw"), (2, u "law"), (0, u "(IIIII)Z")] 3

def k1m0 : Method := { name := "<init>", desc := "()V", sig := { parameters := [], returnType := none }, accessFlags := 1, code := none }
def k1c1 : Code := { maxStack := 7, maxLocals := 19, code := code, exceptionTable := #[], attributes := #[] }
def k1m1 : Method := { name := "law", desc := "(IIIII)Z", sig := { parameters := [.int, .int, .int, .int, .int], returnType := some .boolean }, accessFlags := 9, code := some k1c1 }
/-- com/example/kull/kull/core/search/Bm25LengthNormPinLaw -/
def k1 : Class := { plain "com/example/kull/kull/core/search/Bm25LengthNormPinLaw" (some 0) with
  accessFlags := 49
  interfaces := #[]
  cf := some (fileOf pool1 37 #[] #[{ accessFlags := 1, nameIndex := 5, descriptorIndex := 6, attributes := #[] }, { accessFlags := 9, nameIndex := 41, descriptorIndex := 42, attributes := #[] }] 49 2 #[] #[])
  fields := #[]
  methods := #[k1m0, k1m1]
  instanceTypes := #[]
  staticTypes := #[]
  resolved := Array.replicate 46 none
  statics := none }

def pool2 : Array CpInfo := pool [(1, .methodref 2 3), (0, .class_ 4), (0, .nameAndType 5 6), (0, u "java/lang/Object"), (0, u "<init>"), (0, u "()V"), (0, .fieldref 8 9), (0, .class_ 10), (0, .nameAndType 11 12), (0, u "com/example/kull/kull/core/search/Bm25"), (0, u "documentCount"), (0, u "I"), (0, .fieldref 8 14), (0, .nameAndType 15 16), (0, u "averageLength"), (0, u "D"), (8, .double 4608083138725491507), (1, .double 4598175219545276416), (1, .double 4604930618986332160), (3, u "K1"), (1, u "B"), (0, u "(IJ)V"), (3, u "(I)D"), (0, u "lengthNorm")] 4

def k2c0 : Code := { maxStack := 5, maxLocals := 4, code := prog_28_method_1_code, exceptionTable := #[], attributes := #[] }
def k2m0 : Method := { name := "<init>", desc := "(IJ)V", sig := { parameters := [.int, .long], returnType := none }, accessFlags := 1, code := some k2c0 }
def k2c1 : Code := { maxStack := 8, maxLocals := 2, code := prog_28_method_3_code, exceptionTable := #[], attributes := #[] }
def k2m1 : Method := { name := "lengthNorm", desc := "(I)D", sig := { parameters := [.int], returnType := some .double }, accessFlags := 1, code := some k2c1 }
/-- com/example/kull/kull/core/search/Bm25 -/
def k2 : Class := { plain "com/example/kull/kull/core/search/Bm25" (some 0) with
  accessFlags := 49
  interfaces := #[]
  cf := some (fileOf pool2 8 #[] #[{ accessFlags := 1, nameIndex := 5, descriptorIndex := 36, attributes := #[] }, { accessFlags := 1, nameIndex := 41, descriptorIndex := 40, attributes := #[] }] 49 2 #[] #[{ accessFlags := 25, nameIndex := 33, descriptorIndex := 16, attributes := #[] }, { accessFlags := 25, nameIndex := 35, descriptorIndex := 16, attributes := #[] }, { accessFlags := 18, nameIndex := 11, descriptorIndex := 12, attributes := #[] }, { accessFlags := 18, nameIndex := 15, descriptorIndex := 16, attributes := #[] }])
  fields := #[{ name := "K1", type := .double, accessFlags := 25, slot := 0, constantValue := 0 }, { name := "B", type := .double, accessFlags := 25, slot := 1, constantValue := 0 }, { name := "documentCount", type := .int, accessFlags := 18, slot := 0, constantValue := 0 }, { name := "averageLength", type := .double, accessFlags := 18, slot := 1, constantValue := 0 }]
  methods := #[k2m0, k2m1]
  instanceTypes := #[.int, .double]
  staticTypes := #[.double, .double]
  resolved := Array.replicate 46 none
  statics := none }

def pool3 : Array CpInfo := pool [(1, .class_ 2), (0, u "java/lang/Math"), (1, .class_ 6), (1, u "java/lang/Object"), (0, u "<init>"), (0, u "()V"), (89, .class_ 100), (1, u "java/lang/Math$RandomNumberGeneratorHolder"), (71, u "negativeZeroFloatBits"), (0, u "J"), (2, u "negativeZeroDoubleBits"), (21, u "max"), (2, u "min"), (43, u "$assertionsDisabled"), (0, u "Z"), (88, u "(II)I"), (2, u "twoToTheDoubleScaleDown"), (0, u "D"), (4, u "twoToTheDoubleScaleUp"), (9, u "E"), (3, u "PI"), (2, u "TAU"), (2, u "DEGREES_TO_RADIANS"), (0, u "RADIANS_TO_DEGREES")] 94

def k3m0 : Method := { name := "<init>", desc := "()V", sig := { parameters := [], returnType := none }, accessFlags := 2, code := none }
def k3c1 : Code := { maxStack := 2, maxLocals := 2, code := jdk_29_method_65_code, exceptionTable := #[], attributes := #[] }
def k3m1 : Method := { name := "max", desc := "(II)I", sig := { parameters := [.int, .int], returnType := some .int }, accessFlags := 9, code := some k3c1 }
def k3c2 : Code := { maxStack := 2, maxLocals := 2, code := jdk_29_method_69_code, exceptionTable := #[], attributes := #[] }
def k3m2 : Method := { name := "min", desc := "(II)I", sig := { parameters := [.int, .int], returnType := some .int }, accessFlags := 9, code := some k3c2 }
/-- java/lang/Math -/
def k3 : Class := { plain "java/lang/Math" (some 0) with
  accessFlags := 49
  interfaces := #[]
  cf := some (fileOf pool3 1 #[.nestMembers #[98]] #[{ accessFlags := 2, nameIndex := 7, descriptorIndex := 8, attributes := #[] }, { accessFlags := 9, nameIndex := 198, descriptorIndex := 335, attributes := #[] }, { accessFlags := 9, nameIndex := 201, descriptorIndex := 335, attributes := #[] }] 49 4 #[] #[{ accessFlags := 25, nameIndex := 354, descriptorIndex := 339, attributes := #[] }, { accessFlags := 25, nameIndex := 358, descriptorIndex := 339, attributes := #[] }, { accessFlags := 25, nameIndex := 361, descriptorIndex := 339, attributes := #[] }, { accessFlags := 26, nameIndex := 364, descriptorIndex := 339, attributes := #[] }, { accessFlags := 26, nameIndex := 365, descriptorIndex := 339, attributes := #[] }, { accessFlags := 26, nameIndex := 172, descriptorIndex := 173, attributes := #[] }, { accessFlags := 26, nameIndex := 176, descriptorIndex := 173, attributes := #[] }, { accessFlags := 8, nameIndex := 344, descriptorIndex := 339, attributes := #[] }, { accessFlags := 8, nameIndex := 338, descriptorIndex := 339, attributes := #[] }, { accessFlags := 4120, nameIndex := 245, descriptorIndex := 246, attributes := #[] }])
  fields := #[{ name := "E", type := .double, accessFlags := 25, slot := 0, constantValue := 0 }, { name := "PI", type := .double, accessFlags := 25, slot := 1, constantValue := 0 }, { name := "TAU", type := .double, accessFlags := 25, slot := 2, constantValue := 0 }, { name := "DEGREES_TO_RADIANS", type := .double, accessFlags := 26, slot := 3, constantValue := 0 }, { name := "RADIANS_TO_DEGREES", type := .double, accessFlags := 26, slot := 4, constantValue := 0 }, { name := "negativeZeroFloatBits", type := .long, accessFlags := 26, slot := 5, constantValue := 0 }, { name := "negativeZeroDoubleBits", type := .long, accessFlags := 26, slot := 6, constantValue := 0 }, { name := "twoToTheDoubleScaleUp", type := .double, accessFlags := 8, slot := 7, constantValue := 0 }, { name := "twoToTheDoubleScaleDown", type := .double, accessFlags := 8, slot := 8, constantValue := 0 }, { name := "$assertionsDisabled", type := .boolean, accessFlags := 4120, slot := 9, constantValue := 0 }]
  methods := #[k3m0, k3m1, k3m2]
  instanceTypes := #[]
  staticTypes := #[.double, .double, .double, .double, .double, .long, .long, .double, .double, .boolean]
  resolved := Array.replicate 460 none
  statics := none }

def pool4 : Array CpInfo := pool [(1, u "java/lang/Cloneable"), (0, .class_ 1), (0, u "java/lang/Object"), (0, .class_ 3)] 3

/-- java/lang/Cloneable -/
def k4 : Class := { plain "java/lang/Cloneable" (some 0) with
  accessFlags := 1537
  interfaces := #[]
  cf := some (fileOf pool4 2 #[] #[] 1537 4 #[] #[])
  fields := #[]
  methods := #[]
  instanceTypes := #[]
  staticTypes := #[]
  resolved := Array.replicate 8 none
  statics := none }

def pool5 : Array CpInfo := pool [(1, u "java/io/Serializable"), (0, .class_ 1), (0, u "java/lang/Object"), (0, .class_ 3)] 3

/-- java/io/Serializable -/
def k5 : Class := { plain "java/io/Serializable" (some 0) with
  accessFlags := 1537
  interfaces := #[]
  cf := some (fileOf pool5 2 #[] #[] 1537 4 #[] #[])
  fields := #[]
  methods := #[]
  instanceTypes := #[]
  staticTypes := #[]
  resolved := Array.replicate 8 none
  statics := none }

/-- the primitive byte -/
def k6 : Class := { plain "byte" none with kind := .primitive 'B', accessFlags := 0x411 }
/-- [B -/
def k7 : Class := { plain "[B" (some 0) with kind := .array 6 .byte, interfaces := #[4, 5], accessFlags := 1041 }

/-- the primitive int -/
def k8 : Class := { plain "int" none with kind := .primitive 'I', accessFlags := 0x411 }
/-- [I -/
def k9 : Class := { plain "[I" (some 0) with kind := .array 8 .int, interfaces := #[4, 5], accessFlags := 1041 }

def heap : Heap := #[]
def classes : Array Class := #[k0, k1, k2, k3, k4, k5, k6, k7, k8, k9]
def interned : List (Array UInt16 × Addr) := []
def slotsUsed : Nat := 0
def theMethod : MethodId := ⟨1, 1⟩
def args0 : Array Value := #[.int 5, .int 2, .int 3, .int 4, .int 6]
def aboutOver (below : List Frame) : State where
  vm := { classes := classes, interned := interned.toArray }
  heap := heap
  slotsUsed := slotsUsed
  threads := #[{ frames := .invoking theMethod args0 :: below }]
def below0 : List Frame := [.native { method := ⟨0, 0⟩, args := #[] }]
def about1 : State := aboutOver below0
def p0 : Program := .bare "" "" ""
def e0 : Env := launch0.env 0 0 0
theorem w_frames : about1.frames = Frame.invoking theMethod args0 :: below0 := rfl
set_option maxRecDepth 65536 in
theorem w_args : argsFit about1.vm theMethod args0 = true := by decide +kernel
set_option maxRecDepth 65536 in
theorem w_heap : heapFits about1 = true := by decide +kernel
set_option maxRecDepth 65536 in
theorem w_runnable : about1.curStatus? = some .runnable := by decide +kernel
set_option maxRecDepth 65536 in
theorem w_alone : about1.alone = true := by decide +kernel
set_option maxRecDepth 65536 in
theorem w_named : about1.methodNamed? x = some theMethod := by decide +kernel
set_option maxRecDepth 65536 in
theorem w_hears : about1.hears theMethod below0 = true := by decide +kernel
set_option maxRecDepth 65536 in
theorem w_ripe : about1.ripe theMethod args0 below0 = true := by decide +kernel
theorem w_running : about1.status = .running := rfl
set_option maxRecDepth 65536 in
theorem w_room : about1.hasRoom e0.platform room_1 = true :=
  launch0.hasRoom_least _ room_1 (by decide +kernel) (by decide +kernel) (by decide +kernel) (by decide +kernel) (by decide +kernel) (by decide +kernel)
theorem allAtoms_all (ts : List Jvm.Cond) (a : Array Jvm.Value) (st : Jvm.State) : (allAtoms ts).before a st = ts.all (fun c => c.before a st) := by
  induction ts with
  | nil => rfl
  | cons c t ih =>
    show (Jvm.Cond.and c (allAtoms t)).before a st = _
    rw [Jvm.Cond.before_and, ih, List.all_cons]
def words1 : List Jvm.Cond := Jvm.Cond.code x code maxLocals ret :: tables_1
/-- a 'code' word, met by the world's own term for the bytes: nothing is compared byte by byte -/
theorem code_word {y : MethodName} {bytes : ByteArray} {mx : Nat} {rt : Option FieldType} {a : Array Value} {s : State} {m : MethodId} {meth : Method} {c : Code} (h1 : s.methodNamed? y = some m) (h2 : s.vm.method? m = some meth) (h3 : meth.code = some c) (h4 : c.code = bytes)
    (h5 : (c.maxLocals == mx && c.exceptionTable.isEmpty && decide (c.maxStack ≤ mostOperands) && decide (meth.sig.returnType = rt) && !meth.locks && decide (parseMethodDescriptor y.desc = some meth.sig)) = true) : (Jvm.Cond.code y bytes mx rt).before a s = true := by
  simp only [Bool.and_eq_true, beq_iff_eq, Bool.not_eq_true', decide_eq_true_eq] at h5
  obtain ⟨⟨⟨⟨⟨g1, g2⟩, g3⟩, g4⟩, g5⟩, g6⟩ := h5
  simp [Cond.before, Cond.holds, Cond.value, h1, h2, h3, h4, g1, g2, g3, g4, g5, g6]
def isCode : Jvm.Cond → Bool
  | .code _ _ _ _ => true
  | _ => false
theorem all_split {L : List Jvm.Cond} {P : Jvm.Cond → Bool} (h1 : L.all (fun c => isCode c || P c) = true) (h2 : ∀ c ∈ L.filter isCode, P c = true) : L.all P = true := by
  refine List.all_eq_true.mpr fun c hc => ?_
  have h := List.all_eq_true.mp h1 c hc
  rcases Bool.eq_false_or_eq_true (isCode c) with hi | hi
  · exact h2 c (List.mem_filter.mpr ⟨hc, hi⟩)
  · simpa [hi] using h
set_option maxRecDepth 65536 in
theorem w_c0 : (Jvm.Cond.code x code maxLocals ret).before args0 about1 = true := code_word (m := ⟨1, 1⟩) (meth := k1m1) (c := k1c1) (by decide +kernel) rfl rfl rfl (by decide +kernel)
set_option maxRecDepth 65536 in
theorem w_c1 : (Jvm.Cond.code ({ cls := "com/example/kull/kull/core/search/Bm25", name := "<init>", desc := "(IJ)V" } : Jvm.MethodName) prog_28_method_1_code (4 : Nat) (Option.none : Option Jvm.ClassFile.FieldType)).before args0 about1 = true := code_word (m := ⟨2, 0⟩) (meth := k2m0) (c := k2c0) (by decide +kernel) rfl rfl rfl (by decide +kernel)
set_option maxRecDepth 65536 in
theorem w_c2 : (Jvm.Cond.code ({ cls := "java/lang/Object", name := "<init>", desc := "()V" } : Jvm.MethodName) object_method_1_code (1 : Nat) (Option.none : Option Jvm.ClassFile.FieldType)).before args0 about1 = true := code_word (m := ⟨0, 0⟩) (meth := k0m0) (c := k0c0) (by decide +kernel) rfl rfl rfl (by decide +kernel)
set_option maxRecDepth 65536 in
theorem w_c3 : (Jvm.Cond.code ({ cls := "com/example/kull/kull/core/search/Bm25", name := "lengthNorm", desc := "(I)D" } : Jvm.MethodName) prog_28_method_3_code (2 : Nat) (Option.some Jvm.ClassFile.FieldType.double)).before args0 about1 = true := code_word (m := ⟨2, 1⟩) (meth := k2m1) (c := k2c1) (by decide +kernel) rfl rfl rfl (by decide +kernel)
set_option maxRecDepth 65536 in
theorem w_c4 : (Jvm.Cond.code ({ cls := "java/lang/Math", name := "min", desc := "(II)I" } : Jvm.MethodName) jdk_29_method_69_code (2 : Nat) (Option.some Jvm.ClassFile.FieldType.int)).before args0 about1 = true := code_word (m := ⟨3, 2⟩) (meth := k3m2) (c := k3c2) (by decide +kernel) rfl rfl rfl (by decide +kernel)
set_option maxRecDepth 65536 in
theorem w_c5 : (Jvm.Cond.code ({ cls := "java/lang/Math", name := "max", desc := "(II)I" } : Jvm.MethodName) jdk_29_method_65_code (2 : Nat) (Option.some Jvm.ClassFile.FieldType.int)).before args0 about1 = true := code_word (m := ⟨3, 1⟩) (meth := k3m1) (c := k3c1) (by decide +kernel) rfl rfl rfl (by decide +kernel)
def codes1 : List Jvm.Cond := [Jvm.Cond.code x code maxLocals ret, Jvm.Cond.code ({ cls := "com/example/kull/kull/core/search/Bm25", name := "<init>", desc := "(IJ)V" } : Jvm.MethodName) prog_28_method_1_code (4 : Nat) (Option.none : Option Jvm.ClassFile.FieldType), Jvm.Cond.code ({ cls := "java/lang/Object", name := "<init>", desc := "()V" } : Jvm.MethodName) object_method_1_code (1 : Nat) (Option.none : Option Jvm.ClassFile.FieldType), Jvm.Cond.code ({ cls := "com/example/kull/kull/core/search/Bm25", name := "lengthNorm", desc := "(I)D" } : Jvm.MethodName) prog_28_method_3_code (2 : Nat) (Option.some Jvm.ClassFile.FieldType.double), Jvm.Cond.code ({ cls := "java/lang/Math", name := "min", desc := "(II)I" } : Jvm.MethodName) jdk_29_method_69_code (2 : Nat) (Option.some Jvm.ClassFile.FieldType.int), Jvm.Cond.code ({ cls := "java/lang/Math", name := "max", desc := "(II)I" } : Jvm.MethodName) jdk_29_method_65_code (2 : Nat) (Option.some Jvm.ClassFile.FieldType.int)]
set_option maxRecDepth 65536 in
theorem codes_eq : words1.filter isCode = codes1 := rfl
theorem w_codes : ∀ c ∈ words1.filter isCode, c.before args0 about1 = true := by
  rw [codes_eq]
  intro c hc
  simp only [codes1, List.mem_cons, List.not_mem_nil, or_false] at hc
  rcases hc with rfl | rfl | rfl | rfl | rfl | rfl
  · exact w_c0
  · exact w_c1
  · exact w_c2
  · exact w_c3
  · exact w_c4
  · exact w_c5
set_option maxRecDepth 65536 in
theorem w_t1 : (words1.take 24).all (fun c => isCode c || c.before args0 about1) = true := by decide +kernel
set_option maxRecDepth 65536 in
theorem w_t2 : (words1.drop 24).all (fun c => isCode c || c.before args0 about1) = true := by decide +kernel
theorem w_tables : (allAtoms (Jvm.Cond.code x code maxLocals ret :: tables_1)).before args0 about1 = true := by
  rw [allAtoms_all]
  show words1.all (fun c => c.before args0 about1) = true
  refine all_split ?_ w_codes
  rw [← List.take_append_drop 24 words1, List.all_append, w_t1, w_t2]
  rfl
set_option maxRecDepth 65536 in
theorem w_case : (Jvm.Cond.and given_1 narrow_1).before args0 about1 = true := by decide +kernel
theorem w_applies : (headSpec (Jvm.Cond.code x code maxLocals ret :: tables_1) room_1).applies x e0.platform about1 = true :=
  (Spec.applies_iff w_frames).mpr ⟨w_running, w_runnable, w_alone, w_named, w_hears, w_ripe, w_room, w_tables⟩
theorem atStart : AtStart classFile x code maxLocals ret World_1 tables_1 room_1 Calls_1 rest_1 Pre_1 launch0 p0 e0 about1 theMethod args0 below0 :=
  ⟨lists_1, trivial, launch0.admits_env _ _ _, launch0.least_env, fairChoices_fair.cas, fairChoices_fair.clock, w_frames, w_args, w_heap, w_applies, trivial, trivial, w_case⟩
end start1
theorem witness_1 : WitnessClaimed_1 := ⟨start1.p0, start1.e0, start1.about1, start1.theMethod, start1.args0, start1.below0, start1.atStart⟩
end Jvm.Pilot.@@N@@
